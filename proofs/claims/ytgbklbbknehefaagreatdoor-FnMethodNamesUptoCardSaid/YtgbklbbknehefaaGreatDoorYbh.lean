import Derived.Lib.Bytealg
import Derived.Test.YtgbklbbknehefaaGreatDoorYbg
set_option maxRecDepth 100000
set_option maxHeartbeats 8000000
set_option linter.all false
namespace TS
open Go Go.RowKit Go.Proofs.YtgbklbbknehefaaGreatDoor
structure mH(B e a c pm d:Nat):Prop where
 b:B≤a
 sa:a<c
 ap:c<pm
 pm:pm<d
 m2:d<e
def Cx(a c pm:Nat)(m:Option Nat)(v:Value)(b:Nat):Prop:=b=a∨b=c∨b=pm∨m=some b∨v.ownBlock=some b
structure dF(p:Pm)(g:Ge)(B c:Nat)(d a pm e:Nat)(w:World)(m:Option Nat)(v:Value)(M:List U)(fs:List Nat):Prop where
 os:∃F,fI w d m F∧(∀s:ByteArray,F (.string s)=none↔∀x∈M,x.nm≠s)∧∀k x,F k=some x→∃t y,x= .iface t y
 mB:∀b,m=some b→c≤b∧b<w.heap.size
 ac:w.cell? ⟨a,0,none⟩=some v
 af:w.frozen? ⟨a,0,none⟩=false
 row:w.ownsRow c 38 1 v fs.length (fs.map pv)
 mp:w.cell? ⟨e,0,none⟩=some (.map (some pm))
 mf:∃F,bT (dm B) w pm F
 len:fs.length=M.length
 cd:∀i(h:i<M.length)(f:i<fs.length),cL p g M[i] fs[i]
 dk:∀b,Cx d a pm m v b→∀o,p b o=none
theorem bytes_inj{a b:ByteArray}(h:a.toList=b.toList):a=b:=by
 rw[Lib.toList_data,Lib.toList_data]at h;exact ByteArray.ext (Array.ext' h)
theorem dF.lt{p:Pm}{g:Ge}{B d a c pm f:Nat}{w:World}{m:Option Nat}{v:Value}{M:List U}{fs:List Nat}(h:dF p g B d a c pm f w m v M fs)(b:Nat)(i:Cx a c pm m v b):b<w.heap.size:=by
 rcases i with rfl|rfl|rfl|e|e
 ·obtain⟨F,hO,_⟩:=h.os
  exact World.block_lt_of_cell? _ _ hO.1
 ·exact World.block_lt_of_cell? _ _ h.ac
 ·obtain⟨F,hF⟩:=h.mf;exact hF.lt
 ·exact(h.mB _ e).2
 ·exact(h.row.lt _ e).2
theorem dF.of{p q:Pm}{g A:Ge}{B C r j pm f:Nat}{w s:World}{m:Option Nat}{v:Value}{M:List U}{fs:List Nat}(h:dF p g B C r j pm f w m v M fs){Y:Nat→Prop}(k:Kept Y w s)(l:∀b,Y b→¬Cx r j pm m v b∧b≠f∧B≤b)(D:aK p q w.heap.size)(u:aD g A):
 dF q A B C r j pm f s m v M fs:=by
 have t:∀b,Cx r j pm m v b→s.heap[b]?=w.heap[b]?:=fun b n=>k.block b (h.lt b n) fun d=>(l b d).1 n;have x:s.heap[f]?=w.heap[f]?:=k.block f (World.block_lt_of_cell? _ _ h.mp) fun d=>(l f d).2.1 rfl;refine⟨?_,fun b e=>⟨(h.mB b e).1,Nat.lt_of_lt_of_le (h.mB b e).2 k.size⟩,?_,?_,?_,?_,?_,h.len,fun i hi y=>(h.cd i hi y).sub D.le u,fun b n o=>D.aG (h.lt b n) (h.dk b n) o⟩
 ·obtain⟨F,hO,hF,z⟩:=h.os
  exact⟨F,hO.of (t _ (.inl rfl)) fun b e=>t _ (.inr (.inr (.inr (.inl e)))),hF,z⟩
 ·exact(World.cell?_of_block (w:=w) (a:=⟨j,0,none⟩) (t _ (.inr (.inl rfl)))).trans h.ac
 ·exact(World.frozen?_of_block (w:=w) (a:=⟨j,0,none⟩) (t _ (.inr (.inl rfl)))).trans h.af
 ·exact dL h.row k fun b e d=>(l b d).1 (.inr (.inr (.inr (.inr e))))
 ·exact(World.cell?_of_block (w:=w) (a:=⟨f,0,none⟩) x).trans h.mp
 ·obtain⟨F,hF⟩:=h.mf
  exact⟨F,hF.jn k (fun d=>(l pm d).1 (.inr (.inr (.inl rfl)))) fun c E d=>by have:=(l c d).2.2;omega⟩
end TS
namespace Go.Proofs.YtgbklbbknehefaaGreatDoor
open Go.RowKit TS Go.ChangeMaps
theorem Bj(B:Nat):KeyLaw Tryz.prog 38 (dm B):=by
 obtain⟨e,i,j,a,hi,b,c,d⟩:=dZ (t:=38) Tryz.underlying38 (by kernel_rfl) (by kernel_rfl);exact(rU a c d).mono fun _ _=>sV
theorem Bk(t:TypeId)(v:Value)(w:World):(binOp .eql 183 (.iface t v) .nilIface).run Tryz.prog w= .ok (.bool false) w:=by kernel_rfl
theorem Bl(w:World):(binOp .eql 183 .nilIface .nilIface).run Tryz.prog w= .ok (.bool true) w:=by kernel_rfl
theorem Bm(p:Pm)(g:Ge)(B r h i pm j f:Nat)(m:Option Nat)(v:Value)(M:List U)(fs:List Nat)(x:U)(pos:Int)(ex:Bool)(w:World)(d:an p g w)(l:dF p g B r h i pm j w m v M fs)(s:cL p g x f)(o:aL x.nm=true)(hM:M.any (fun y=>cF y x)=true):
 Calls Tryz.prog 106 #[.int .i64 pos,.pointer (some ⟨f,0,none⟩),.bool ex,.pointer (some ⟨h,0,none⟩),.pointer (some ⟨i,0,none⟩),.pointer (some ⟨j,0,none⟩)] w fun e q=>
  e= .returned (.tuple #[])∧∃n,q=w.drewN n:=by
 obtain⟨F,hO,hF,a⟩:=l.os;obtain⟨D,⟨E,f1⟩,f2,f3,f4⟩:=s;have b:F (.string x.nm)≠none:=fun e=>by
  obtain⟨y,u,A⟩:=List.any_eq_true.1 hM;exact(hF x.nm).1 e y u (bytes_inj (fN.1 A))
 obtain⟨z,c⟩:=Option.ne_none_iff_exists'.1 b;obtain⟨t,y,rfl⟩:=a _ _ c;have hm:∃k,m=some k:=by
  cases m with
  |none=>have:=hO.2.2.1 rfl;rw[this]at c;cases c
  |some k=>exact⟨k,rfl⟩
 obtain⟨k,rfl⟩:=hm;have C:=Lib.hid (zu 38 rZ h k f _ x.nm o F t y w d.cap hO (d.kw _ _ _ f1) (d.kw _ _ _ f2) c);have G:=Bk t y;clear hO d l hF a f1 f2 f3 f4 o hM b c;cases ex
 all_goals
  go_enter Tryz.func106,Tryz.ntmps106;go_wp2_with fail
  refine C.out.mono ?_;rintro e q ⟨rfl,n,rfl⟩;go_wp2_with fail
  go_end0
  exact⟨rfl,_,rfl⟩
theorem Bn(T:TypeId)(n:jM T)(d f:Nat)(m:Option Nat)(q:Option Addr)(s:ByteArray)(o:aL s=true)(F:Value→Option Value)(w:World)(hT:bD w)(hO:fI w d m F)(j:∀b,m=some b→b≠d)
 (h1:w.cell? ⟨f,1,none⟩=some (.pointer q))(h2:w.cell? ⟨f,2,none⟩=some (.string s))(hF:F (.string s)=none):
 Calls Tryz.prog 107 #[.pointer (some ⟨d,0,none⟩),.iface T (.pointer (some ⟨f,0,none⟩))] w fun e g=>e= .returned .nilIface∧
  ∃i,fI g d i (bp F (.string s) (.iface T (.pointer (some ⟨f,0,none⟩))))∧(i=m∨∃b,i=some b∧w.heap.size≤b)∧(∀b,i=some b→b<g.heap.size)∧Kept (fun k=>k=d∨m=some k) w g:=by
 cases m with
 |none=>
  refine(r8 T n d f q s o F w hT hO h1 h2).mono ?_;rintro e g ⟨rfl,b,a,p,l⟩;exact⟨rfl,some b,a,.inr ⟨b,rfl,p⟩,fun c e=>by cases e;exact(a.2.2.2 _ rfl).lt,l.mono fun k _ h=> .inl h⟩
 |some b=>
  refine(r7 T n d b f q s o F w hT hO (j b rfl) h1 h2 hF).mono ?_;rintro e g ⟨rfl,a,l⟩;exact⟨rfl,some b,a,.inl rfl,fun c e=>by cases e;exact(a.2.2.2 _ rfl).lt,l.mono fun k _ h=> .inr (by rw[h])⟩
def Bo(p:Pm)(g:Ge)(B d b c pm h:Nat)(m:Option Nat)(v:Value)(M:List U)(fs:List Nat)(f:Nat)(x:U)(w:World)(e:Ending)(a:World):Prop:=
 e= .returned (.tuple #[])∧∃i j,dF p g B d b c pm h a i j (M++ [x]) (fs++ [f])∧an p g a∧Kept (Cx b c pm m v) w a
theorem Bp(p:Pm)(g:Ge)(B O G j pm n f:Nat)(m:Option Nat)(v:Value)(M:List U)(fs:List Nat)(x:U)(pos:Int)(ex:Bool)(w:World)(hG:mH B O G j pm n)(QD:O≤w.heap.size)(QE:5<B)(hE:an p g w)(hC:dF p g B O G j pm n w m v M fs)(hf:cL p g x f)(Qm:f<B)(hn:aL x.nm=true)(hM:M.any (fun y=>cF y x)=false)(hl:fs.length≤1048576):
 Calls Tryz.prog 106 #[.int .i64 pos,.pointer (some ⟨f,0,none⟩),.bool ex,.pointer (some ⟨G,0,none⟩),.pointer (some ⟨j,0,none⟩),.pointer (some ⟨n,0,none⟩)] w (Bo p g B O G j pm n m v M fs f x w):=by
 obtain⟨F,hO,hF,P7⟩:=hC.os;obtain⟨g1,g2,g3,g4,g5⟩:=hG;have Qn:=Lib.hid hf;obtain⟨fb,⟨fq,f1⟩,f2,f3,f4⟩:=hf;have P8:F (.string x.nm)=none:=(hF x.nm).2 fun y H e=>by
  rw[List.any_eq_false]at hM;exact hM y H (fN.2 (by rw[e]))
 have hI:=Lib.hid (Bn 38 rZ G f m _ x.nm hn F w hE.cap hO (fun b e=>by have:=(hC.mB b e).1;omega) (hE.kw _ _ _ f1) (hE.kw _ _ _ f2) P8);obtain⟨Fm,N⟩:=hC.mf;have d:=Lib.hid hC;have Y:=Lib.hid hE;have Qo:=Lib.hid hF;have P9:=Lib.hid P7;have Qp:Hid (Plain w f):=hE.pl _ _ _ f1;obtain⟨i1,hj,Qq,Qr,Qs⟩:=info_parts rR;obtain⟨A,C,rfl⟩:=aZ hC.row;clear hO hE hC hF P7 f1 f2 f3 f4 hn hM P8 N;have hq:=Bl;go_enter Tryz.func106,Tryz.ntmps106;go_wp2_with fail
 refine hI.out.mono ?_;rintro e r ⟨rfl,m',P_,Qa,P,D⟩;have I:∀k,(k=G∨m=some k)→B≤k∧k≠j∧k≠pm∧k≠n∧(Value.slice A fs.length C).ownBlock≠some k:=fun k hk=>by
  rcases hk with rfl|e
  ·exact⟨g1,by omega,by omega,by omega,fun e=>by have:=(d.out.row.lt _ e).1;omega⟩
  ·have h1:=(d.out.mB _ e).1
   refine⟨by omega,by omega,by omega,by omega,fun e2=> ?_⟩;obtain⟨F0,Qt,_⟩:=d.out.os;obtain⟨es,cl,L,_⟩:=Qt.2.2.2 _ e;rcases d.out.row.2 with⟨e3,_⟩|⟨gb,cap,cur,e3,_,Qb,_⟩
   ·rw[e3]at e2;cases e2
   ·rw[e3]at e2;cases e2;rw[L]at Qb;cases Qb
 have Z:=Lib.hid (dL d.out.row D fun b e hx=>(I b hx).2.2.2.2 e);have c1:r.cell? ⟨j,0,none⟩=some (.slice A fs.length C):=by rw[D.cell (World.block_lt_of_cell? _ _ d.out.ac) fun h=>(I j h).2.1 rfl];exact d.out.ac
 have c2:r.frozen? ⟨j,0,none⟩=false:=by rw[D.frozen (World.block_lt_of_cell? _ _ d.out.ac) fun h=>(I j h).2.1 rfl];exact d.out.af
 have Qu:=D.size;have P4:=Lib.hid (Z.out.alloc (.cells #[.pointer (some ⟨f,0,none⟩)] 38));have Q:=Lib.hid P_;have Qc:=Lib.hid Qa;have P5:=Lib.hid P;have J:=Lib.hid D;have q:=Lib.hid I;clear P_ Qa D I hI P;go_wp2_with (first|(at_builtin;refine wpList_append_own_at _ rfl _ _ 114 rfl O 38 i1 (.pointer none) 1 8 Tryz.underlying114 hj Qq Qr Qs rfl (by decide) _ _ _ rfl P4.out ⟨r.heap.size,0,none⟩ 1 1 [.pointer (some ⟨f,0,none⟩)] rfl rfl (TS.dC r _ _) (TS.one_one rfl) ?c3 ?c4 ?c5 ?_)|fail)
 case c3=>unfold maxLen;omega
 case c4=>omega
 case c5=>(try simp);omega
 intro v' z t E _ Qv;obtain⟨a3,c3,rfl⟩:=aZ t;have R:=Lib.hid E;have Qd:Hid (Kept (Cx G j pm m (.slice A fs.length C)) w z):=by
  have h1:Kept (Cx G j pm m (.slice A fs.length C)) w r:=J.out.mono fun b _ h=>h.elim .inl fun h=> .inr (.inr (.inr (.inl h)));exact(h1.alloc _).grown E fun k hk _=> .inr (.inr (.inr (.inr hk)))
 have Qw:j<r.heap.size:=World.block_lt_of_cell? _ _ c1;have l:∀b,(Value.slice A fs.length C).ownBlock=some b→O≤b:=fun b e=>(d.out.row.lt b e).1;have P6:z.heap[j]?=r.heap[j]?:=(E.block j (by simp;omega) fun e=>by have:=l j e.symm;omega).trans (Below.heap_alloc _ _ _ Qw);have d1:z.cell? ⟨j,0,none⟩=some (.slice A fs.length C):=(World.cell?_of_block (w:=r) (a:=⟨j,0,none⟩) P6).trans c1;have d2:z.frozen? ⟨j,0,none⟩=false:=(World.frozen?_of_block (w:=r) (a:=⟨j,0,none⟩) P6).trans c2;have S:r.heap[n]?=w.heap[n]?:=J.out.block n (World.block_lt_of_cell? _ _ d.out.mp) fun h=>(q.out n h).2.2.2.1 rfl;have Qe:n<r.heap.size:=Nat.lt_of_lt_of_le (World.block_lt_of_cell? _ _ d.out.mp) Qu;have V:z.heap[n]?=r.heap[n]?:=(E.block n (by simp;omega) fun e=>by have:=l n e.symm;omega).trans (Below.heap_alloc _ _ _ Qe);have d3:z.cell? ⟨n,0,none⟩=some (.map (some pm)):=(World.cell?_of_block (w:=w) (a:=⟨n,0,none⟩) (V.trans S)).trans d.out.mp;obtain⟨Fm,N⟩:=d.out.mf;have Qf:¬(Value.slice A fs.length C).ownBlock=some pm:=fun e=>by
  have:=l pm e;omega
 have Qx:Hid (bT (dm B) (z.setCell ⟨j,0,none⟩ (.slice a3 (fs.length+1) c3)) pm Fm):=by
  have k1:Kept (fun k=>(k=G∨m=some k)∨(Value.slice A fs.length C).ownBlock=some k) w z:=((J.out.mono fun b _ h=> .inl h).alloc _).grown E fun k hk _=> .inr hk;have k2:Kept (fun k=>((k=G∨m=some k)∨(Value.slice A fs.length C).ownBlock=some k)∨k=j) w (z.setCell ⟨j,0,none⟩ (.slice a3 (fs.length+1) c3)):=(k1.mono fun b _ h=> .inl h).setCell (fun _=> .inr rfl) _;refine N.jn k2 (fun h=> ?_) fun c hc h=> ?_
  ·rcases h with(h|h)|h
   ·exact(q.out pm h).2.2.1 rfl
   ·exact Qf h
   ·omega
  ·rcases h with(h|h)|h
   ·have:=(q.out c h).1;omega
   ·have:=l c h;omega
   ·omega
 have Qg:Hid (dm B (z.setCell ⟨j,0,none⟩ (.slice a3 (fs.length+1) c3)) (.pointer (some ⟨f,0,none⟩))):=by
  refine⟨f,rfl,Qm,?_⟩;obtain⟨cs,T,L⟩:=Qp.out;have Qy:=(Array.getElem?_eq_some_iff.1 L).1;refine⟨cs,T,?_⟩;rw[Below.heap_setCell _ _ _ _ (by simp only;omega),Qd.out.block f Qy fun h=> ?_]
  ·exact L
  ·rcases h with h|h|h|h|h
   ·omega
   ·omega
   ·omega
   ·have:=(q.out f (.inr h)).1;omega
   ·have:=l f h;omega
 clear N P6 S V E c1 c2;go_wp2_with (first|(at_mapUpdate;refine dN _ rfl _ _ _ 181 rfl (Bj B) (sW B) 41 Tryz.underlying181 pm Fm rfl Qx.out (.pointer (some ⟨f,0,none⟩)) (.int .i64 pos) rfl rfl Qg.out ?_;intro w4 Qz u)|fail)
 go_end0
 have Qh:Kept (Cx G j pm m (.slice A fs.length C)) w w4:=(Qd.out.setCell (fun _=> .inr (.inl rfl)) _).grown u fun k hk _=>by cases hk;exact .inr (.inr (.inl rfl))
 have K:=R.out.size;have QA:=u.size;simp only[World.setCell,Array.size_modify]at QA;have hblk:∀b,b<r.heap.size→b≠j→b≠pm→(Value.slice A fs.length C).ownBlock≠some b→w4.heap[b]?=r.heap[b]?:=fun b L h1 h2 h3=>by
  rw[u.block b (by simp[World.setCell];simp at K;omega) fun e=>h2 (Option.some.inj e),Below.heap_setCell _ _ _ _ (by simp only;exact h1),
   R.out.block b (by simp;omega) fun e=>h3 e.symm,Below.heap_alloc _ _ _ L]
 have W:∀b,m'=some b→b<r.heap.size∧O≤b∧b≠j∧b≠pm∧(Value.slice A fs.length C).ownBlock≠some b:=fun b e=>by
  have h0:=P5.out b e;rcases Qc.out with rfl|⟨b',e',Qi⟩
  ·have:=q.out b (.inr e)
   exact⟨h0,(d.out.mB b e).1,this.2.1,this.2.2.1,this.2.2.2.2⟩
  ·rw[e']at e;cases e
   exact⟨h0,by omega,by omega,by omega,fun e=>by have:=(d.out.row.lt _ e).2;omega⟩
 have Qj:∀b,(Value.slice a3 (fs.length+1) c3).ownBlock=some b→((Value.slice A fs.length C).ownBlock=some b∨w.heap.size≤b):=fun b e=>by
  rcases Qv with h|h
  ·exact .inl (h▸e)
  ·rw[h]at e;have:=Option.some.inj e;exact .inr (by first|omega|(simp at this;omega))
 have QB:an p g w4:=Y.out.own Qh (fun b L=>d.out.dk b L) fun h=>by
  rcases h with h|h|h|h|h
  ·omega
  ·omega
  ·omega
  ·have:=(d.out.mB _ h).1;omega
  ·have:=l _ h;omega
 refine⟨rfl,m',.slice a3 (fs.length+1) c3,⟨⟨_,Q.out.of (hblk G ?_ (by omega) (by omega) fun e=> ?_) fun b e=> ?_,fun s=> ?_,fun k y hk=> ?_⟩,fun b e=> ?_,?_,?_,?_,?_,?_,?_,?_,?_⟩,QB,Qh⟩
 ·exact World.block_lt_of_cell? _ _ Q.out.1
 ·have:=l _ e;omega
 ·obtain⟨h1,h2,h3,h4,h5⟩:=W b e
  exact hblk b h1 h3 h4 h5
 ·by_cases hs:s=x.nm
  ·subst hs
   rw[bG];simp
  ·rw[a7 F (fun h=>hs (by cases h;rfl)),Qo.out s]
   refine⟨fun h y H=> ?_,fun h y H=>h y (List.mem_append_left _ H)⟩;rcases List.mem_append.1 H with H|H
   ·exact h y H
   ·rw[List.mem_singleton.1 H];exact fun e=>hs e.symm
 ·by_cases Qk:k= .string x.nm
  ·subst Qk;rw[bG]at hk;cases hk;exact⟨_,_,rfl⟩
  ·rw[a7 F Qk]at hk;exact P9.out k y hk
 ·obtain⟨h1,h2,_⟩:=W b e
  have:r.heap.size≤w4.heap.size:=by simp at K;omega
  exact⟨h2,by omega⟩
 ·have h1:w4.heap[j]?=(z.setCell ⟨j,0,none⟩ (.slice a3 (fs.length+1) c3)).heap[j]?:=u.block j (by simp[World.setCell];simp at K;omega) fun e=>by have:=Option.some.inj e;omega
  rw[World.cell?_of_block (a:=⟨j,0,none⟩) h1];exact World.cell?_setCell_same _ _ _ d1
 ·have h1:w4.heap[j]?=(z.setCell ⟨j,0,none⟩ (.slice a3 (fs.length+1) c3)).heap[j]?:=u.block j (by simp[World.setCell];simp at K;omega) fun e=>by have:=Option.some.inj e;omega
  rw[World.frozen?_of_block (a:=⟨j,0,none⟩) h1,World.frozen?_setCell];exact d2
 ·have h1:z.ownsRow O 38 1 (.slice a3 (fs.length+1) c3) (fs++ [f]).length ((fs++ [f]).map pv):=by simpa using t
  refine dL (X:=fun k=>k=j∨k=pm) h1 (((Kept.refl _ _).setCell (fun _=> .inl rfl) _).grown u fun k hk _=> .inr (by cases hk;rfl)) fun b e h=> ?_;have:=(t.lt b e).1;omega
 ·have h1:w4.heap[n]?=(z.setCell ⟨j,0,none⟩ (.slice a3 (fs.length+1) c3)).heap[n]?:=u.block n (by simp[World.setCell];simp at K;omega) fun e=>by have:=Option.some.inj e;omega
  rw[World.cell?_of_block (a:=⟨n,0,none⟩) h1,World.cell?_setCell_other _ _ _ _ (fun e=>by have:=congrArg Addr.block e;simp only at this;omega)];exact d3
 ·exact⟨_,Qz _ (fun y H=>a7 Fm H) (bG _ _ _)⟩
 ·simp[d.out.len]
 ·intro i hi QC
  have hl:=d.out.len;simp only[List.length_append,List.length_cons,List.length_nil]at hi QC;by_cases Ql:i<M.length
  ·rw[List.getElem_append_left Ql,List.getElem_append_left (by omega)];exact d.out.cd i Ql (by omega)
  ·have e1:i=M.length:=by omega
   subst e1;simp[←hl];simpa [hl]using Qn.out
 ·intro b L o
  rcases L with h|h|h|h|h
  ·exact d.out.dk b (.inl h) o
  ·exact d.out.dk b (.inr (.inl h)) o
  ·exact d.out.dk b (.inr (.inr (.inl h))) o
  ·rcases Qc.out with e|⟨b',e',Qi⟩
   ·exact d.out.dk b (.inr (.inr (.inr (.inl (e▸h))))) o
   ·rw[e']at h;cases h;exact Y.out.kw.aG Qi o
  ·rcases Qj b h with h|h
   ·exact d.out.dk b (.inr (.inr (.inr (.inr h)))) o
   ·exact Y.out.kw.aG h o
theorem s_(p:Pm)(g:Ge)(B d a c pm i f:Nat)(m:Option Nat)(v:Value)(M:List U)(fs:List Nat)(x:U)(pos:Int)(ex:Bool)(w:World)(G:mH B d a c pm i)(o:d≤w.heap.size)(q:5<B)(r:an p g w)(s:dF p g B d a c pm i w m v M fs)(E:cL p g x f)(t:f<B)(F:aL x.nm=true)(H:fs.length≤1048576):
 Calls Tryz.prog 106 #[.int .i64 pos,.pointer (some ⟨f,0,none⟩),.bool ex,.pointer (some ⟨a,0,none⟩),.pointer (some ⟨c,0,none⟩),.pointer (some ⟨i,0,none⟩)] w fun e j=>
  e= .returned (.tuple #[])∧∃u z k,dF p g B d a c pm i j u z (bI M x) k∧(∀y∈k,y∈fs∨y=f)∧an p g j∧Kept (Cx a c pm m v) w j:=by
 unfold bI;cases hM:M.any fun y=>cF y x
 ·refine(Bp p g B d a c pm i f m v M fs x pos ex w G o q r s E t F hM H).mono ?_
  rintro e j ⟨rfl,u,z,A,C,l⟩;exact⟨rfl,u,z,_,A,fun y D=>by simpa using D,C,l⟩
 ·refine(Bm p g B d a c pm i f m v M fs x pos ex w r s E F hM).mono ?_
  rintro e j ⟨rfl,n,rfl⟩;have l:Kept (fun _=>False) w (w.drewN n):=⟨rfl,rfl,rfl,Nat.le_refl _,fun _ _ _=>rfl⟩
  exact⟨rfl,m,v,fs,s.of l (fun b h=>h.elim) (aK.refl _ _) (aD.refl g),fun y D=> .inl D,r.cC (aq.drewN w n),l.mono fun b _ h=>h.elim⟩
end Go.Proofs.YtgbklbbknehefaaGreatDoor
namespace Go.Proofs.YtgbklbbknehefaaGreatDoor
open Go.RowKit TS
theorem Bq(a b:ByteArray)(w:World):Calls Tryz.prog 231 #[.string a,.string b] w fun e c=>e= .returned (.int .i64 (Lib.compareBytes a.data.toList b.data.toList))∧c=w:=by
 go_enter Tryz.func231,Tryz.ntmps231;go_wp2
 rw[run_callFunc_extern Tryz.func238 (by kernel_rfl) (by kernel_rfl) (by kernel_rfl) (e:=Extern.BytealgCompare.compare) (by kernel_rfl),Lib.run_compareString];simp only[Result.andThen];rw[Oper.upon_value];go_wp2
 go_ret;exact⟨rfl,rfl⟩
theorem Br(a b:ByteArray)(w:World):Calls Tryz.prog 217 #[.string a,.string b] w fun e c=>e= .returned (.int .i64 (Lib.compareBytes a.data.toList b.data.toList))∧w=c:=by
 go_enter Tryz.func217,Tryz.ntmps217;go_wp2_with fail
 refine(Bq a b _).mono ?_;rintro e c ⟨rfl,rfl⟩;go_wp2_with fail
 go_ret;exact⟨rfl,rfl⟩
theorem oT:∀l:List UInt8,Lib.compareBytes l l=0
 | []=>rfl
 |a::r=>by simp[Lib.compareBytes,UInt8.lt_irrefl,oT r]
theorem th:∀a b:List UInt8,decide (Lib.compareBytes a b<0)=Go.Op.bytesLess a b
 | [],[]=>rfl
 | [],_::_=>rfl
 |_::_,[]=>rfl
 |a::x,b::y=>by
  have ih:=th x y;unfold Lib.compareBytes Go.Op.bytesLess;by_cases h:a<b
  ·simp[h]
  ·by_cases h2:b<a
   ·have c:a≠b:=fun e=>by subst e;exact h h2
    simp[h,h2,c]
   ·have e:a=b:=UInt8.le_antisymm (UInt8.not_lt.1 h2) (UInt8.not_lt.1 h)
    subst e;simp[h,ih]
theorem Bs:bM 86:=dZ Tryz.underlying86 (by kernel_rfl) (by kernel_rfl)
theorem Bt(f c:Nat)(s a:ByteArray)(w:World)(hT:bD w)(j:aL s=true)(b:aL a=true)(l:Plain w f)(d:Plain w c)(h:w.cell? ⟨f,2,none⟩=some (.string s))(m:w.cell? ⟨c,2,none⟩=some (.string a)):
 Calls Tryz.prog 182 #[.pointer (some ⟨f,0,none⟩),.pointer (some ⟨c,0,none⟩)] w fun e g=>e= .returned (.int .i64 (Lib.compareBytes s.data.toList a.data.toList))∧∃n,g=w.drewN n:=by
 have k:=jN Bs w f c l d;by_cases e:f=c
 ·subst e
  rw[h]at m;cases m;simp only[decide_true]at k;rw[oT];clear h j b hT;go_enter Tryz.func182,Tryz.ntmps182;go_wp2_with fail
  go_ret;exact⟨rfl,0,rfl⟩
 ·have p:(binOp .eql 86 (.pointer (some ⟨f,0,none⟩)) (.pointer (some ⟨c,0,none⟩))).run Tryz.prog w= .ok (.bool false) w:=by rw[k];simp[e]
  have o:=Lib.hid (mj s j w hT);have i:=Lib.hid (mj a b w hT);clear k j b hT e l d;cases q:(s.toList==a.toList)
  ·have r:=Lib.hid fun W=>Br s a W
   go_enter Tryz.func182,Tryz.ntmps182;go_wp2_with fail
   refine o.out.mono ?_;rintro e g ⟨rfl,rfl⟩;go_wp2_with fail
   refine i.out.mono ?_;rintro e g ⟨rfl,rfl⟩;go_wp2_with fail
   go_quiet (fail)
   go_wp2_with fail
   go_quiet (first|(go_at_call 217;exact(r.out _).mono fun e t h=>⟨h.1,_,h.2.symm⟩))
   go_wp2_with fail
   go_ret;exact⟨rfl,_,World.drewN_drewN ..⟩
  ·have e:s=a:=bytes_inj (eq_of_beq q)
   subst e;rw[oT];go_enter Tryz.func182,Tryz.ntmps182;go_wp2_with fail
   refine o.out.mono ?_;rintro e g ⟨rfl,rfl⟩;go_wp2_with fail
   refine i.out.mono ?_;rintro e g ⟨rfl,rfl⟩;go_wp2_with fail
   go_quiet (fail)
   go_wp2_with fail
   go_ret;exact⟨rfl,_,rfl⟩
theorem Bu(f c:Nat)(s d:ByteArray)(w:World)(hT:bD w)(g:aL s=true)(a:aL d=true)(i:Plain w f)(b:Plain w c)(h:w.cell? ⟨f,2,none⟩=some (.string s))(j:w.cell? ⟨c,2,none⟩=some (.string d)):
 Calls Tryz.prog 151 #[.pointer (some ⟨f,0,none⟩),.pointer (some ⟨c,0,none⟩)] w fun e k=>e= .returned (.int .i64 (Lib.compareBytes s.data.toList d.data.toList))∧∃n,k=w.drewN n:=by
 have l:=Lib.hid fun n=>Bt f c s d (w.drewN n) (hT.drewN n) g a i b (by simpa using h) (by simpa using j);clear hT g a i b;go_enter Tryz.func151,Tryz.ntmps151;go_wp2_with fail
 go_quiet (first|(go_at_call 182;exact Calls.quiet_of (l.out _)))
 go_wp2_with fail
 go_ret;exact⟨rfl,_,rfl⟩
end Go.Proofs.YtgbklbbknehefaaGreatDoor
namespace TS
open Go Go.RowKit Go.Proofs.YtgbklbbknehefaaGreatDoor
structure WB(p:Pm)(w:World):Prop where
 kw:KW p w
 pl:∀b o v,p b o=some v→Plain w b
 cap:bD w
theorem an.wb{p:Pm}{g:Ge}{w:World}(h:an p g w):WB p w:=⟨h.kw,h.pl,h.cap⟩
theorem WB.own{p:Pm}{w e:World}{X:Nat→Prop}(h:WB p w)(k:Kept X w e)(f:∀b,X b→∀o,p b o=none)(i:¬X 5):WB p e where
 kw:=h.kw.kept k fun b o v a d=>by rw[f b d o]at a;cases a
 pl:=fun b o v a=>by
  obtain⟨cs,T,g⟩:=h.pl b o v a;exact⟨cs,T,by rw[k.block b (Array.getElem?_eq_some_iff.1 g).1 fun d=>by rw[f b d o]at a;cases a];exact g⟩
 cap:=fun c h1 h2=>by
  have:=h.cap c h1 h2;rw[k.cell (World.block_lt_of_cell? _ _ this) i];exact this
theorem WB.below{p:Pm}{w a:World}(h:WB p w)(k:Below w.heap.size w a):WB p a:=⟨h.kw.grown k,fun b o v c=>(h.pl b o v c).below k,h.cap.below k⟩
structure jU(p:Pm)(g:Ge) where
 m:U
 f:Nat
 fa:cL p g m f
 nb:aL m.nm=true
def fY{p:Pm}{g:Ge}(x:jU p g):Value:=ptr x.f
def k9{p:Pm}{g:Ge}(x y:jU p g):Int:=Lib.compareBytes x.m.nm.data.toList y.m.nm.data.toList
theorem ti{p:Pm}{g:Ge}:∀{M:List U}{fs:List Nat},fs.length=M.length→(∀i(h:i<M.length)(e:i<fs.length),cL p g M[i] fs[i])→(∀x∈M,aL x.nm=true)→∃L:List (jU p g),L.map (fun x=>x.m)=M∧L.map (fun x=>x.f)=fs
 | [],[],_,_,_=>⟨[],rfl,rfl⟩
 | [],_::_,h,_,_=>by simp at h
 |_::_,[],h,_,_=>by simp at h
 |m::M,f::fs,h,a,b=>by
  obtain⟨L,h1,h2⟩:=ti (M:=M) (fs:=fs) (by simpa using h) (fun i hi c=>by have:=a (i+1) (by simp;omega) (by simp;omega);simpa using this) fun x d=>b x (List.mem_cons_of_mem _ d);exact⟨⟨m,f,by have:=a 0 (by simp) (by simp);simpa using this,b m List.mem_cons_self⟩::L,by simp[h1],by simp[h2]⟩
theorem mI{p:Pm}{g:Ge}(x y:jU p g):Go.Proofs.ltOf k9 x y=bh x.m y.m:=by
 unfold Go.Proofs.ltOf k9 bh;rw[th,←Lib.toList_data,←Lib.toList_data]
theorem Bv{p:Pm}{g:Ge}:Go.Sort.SWO (Go.Proofs.ltOf (k9 (p:=p) (g:=g))) where
 irrefl x:=by rw[mI];exact g_ _
 trans x y z h k:=by rw[mI]at*;exact gi h k
 ntrans x y z h k:=by
  rw[mI]at*;cases a:bh x.m z.m
  ·rfl
  ·cases b:bh y.m x.m
   ·have e:=fN.1 (jx h b)
    unfold bh at*;rw[e,k]at a;cases a
   ·have:=gi b a;rw[this]at k;cases k
theorem tj{α:Type} [Inhabited α]{enc:α→Value}{k n:Nat}{d:Array α}{os:Array Obj}{w:World}:Kept (fun b=>b=k) w (Go.Proofs.sortWorld enc w k 0 n d os):=by
 refine⟨rfl,rfl,rfl,?_,fun b a c=> ?_⟩
 ·unfold Go.Proofs.sortWorld
  rw[Go.Sort.size_grow];unfold Go.Sort.putRow Go.Sort.mapBlock Go.Sort.ahead;simp
 ·unfold Go.Proofs.sortWorld
  rw[Go.Sort.heap_grow_old _ _ (by unfold Go.Sort.putRow Go.Sort.mapBlock Go.Sort.ahead;simpa using a)];unfold Go.Sort.putRow Go.Sort.mapBlock Go.Sort.ahead;rw[Array.getElem?_modify,if_neg (by omega)]
theorem Bw{α:Type} [Inhabited α]{enc:α→Value}{g n c:Nat}{d d':Array α}{os:Array Obj}{w:World}{B:Nat}{e:TypeId}(h:w.ownsRow B e 1 (.slice (some ⟨g,0,none⟩) d.size c) d.size (d.toList.map enc))(b:d'.size=d.size)(m:0<d.size):
 (Go.Proofs.sortWorld enc w g 0 n d' os).ownsRow B e 1 (.slice (some ⟨g,0,none⟩) d.size c) d.size (d'.toList.map enc):=by
 refine⟨by simp[b],.inr ?_⟩;rcases h.2 with⟨h1,_⟩|⟨o,cap,cur,h1,h2,h3,f,j,k,h7⟩
 ·cases h1
 ·cases h1
  have l:g<w.heap.size:=(Array.getElem?_eq_some_iff.1 h3).1;refine⟨g,c,Go.Sort.putCells enc 0 d' cur,rfl,h2,?_,f,j,?_,?_⟩
  ·unfold Go.Proofs.sortWorld
   rw[Go.Sort.heap_grow_old _ _ (by unfold Go.Sort.putRow Go.Sort.mapBlock Go.Sort.ahead;simpa using l)];unfold Go.Sort.putRow Go.Sort.mapBlock Go.Sort.ahead;rw[Array.getElem?_modify,if_pos rfl,h3];rfl
  ·simpa [Go.Sort.putCells]using k
  ·refine List.ext_getElem? fun i=> ?_
   rw[List.getElem?_take];split
   ·rename_i hi
    simp only[Go.Sort.putCells,Array.getElem?_toList,Array.getElem?_mapIdx];have a:i<cur.size:=by omega
    have hid:i<d'.size:=by omega
    simp[a,hid]
   ·rename_i hi
    rw[List.getElem?_eq_none (by simp;omega)]
end TS
namespace Go.Proofs.YtgbklbbknehefaaGreatDoor
open Go.RowKit TS
def tk(p:Pm)(g:Ge)(B:Nat)(v:Value)(M:List U)(fs:List Nat)(w:World)(e:Ending)(b:World):Prop:=
 e= .returned (.tuple #[])∧∃a:List Nat,b.ownsRow B 38 1 v a.length (a.map pv)∧a.length=(bW M).length∧(∀i(h:i<(bW M).length)(c:i<a.length),cL p g (bW M)[i] a[i])∧Kept (fun k=>v.ownBlock=some k) w b∧a.Perm fs
theorem Bx(p:Pm)(g:Ge)(B:Nat)(M:List U)(fs:List Nat)(v:Value)(w:World)(hE:WB p w)(N:w.ownsRow B 38 1 v fs.length (fs.map pv))(hl:fs.length=M.length)(Z:∀i(h:i<M.length)(h':i<fs.length),cL p g M[i] fs[i])(hn:∀x∈M,aL x.nm=true)(h2:cY M)(hd:∀b,v.ownBlock=some b→∀o,p b o=none)(hG:5<B)(hm:fs.length≤1048576):
 Calls Tryz.prog 150 #[v,.func (.func 151) #[] #[]] w (tk p g B v M fs w):=by
 have Q:(bW M).length=M.length:=by unfold bW;rw[List.length_mergeSort]
 rcases Nat.eq_zero_or_pos fs.length with O|O
 ·have D:fs= []:=List.length_eq_zero_iff.1 O
  obtain⟨a,c,rfl⟩:=aZ N;rw[O];refine(AnyF.slices_SortFunc_none (P:=Tryz.prog) (ρ:=Tryz.qO) {Tryz.qP with} a c _ w).mono ?_;rintro e w' ⟨rfl,rfl⟩;refine⟨rfl,[],by subst D;simpa using N,by simp[Q];omega,fun i hi u=>absurd u (Nat.not_lt_zero _),Kept.refl _ _,by rw[D]⟩
 ·have hP:∀i(h:i<M.length),cL p g M[i] (fs[i]'(by omega))∧aL M[i].nm=true:=fun i h=>⟨Z i h (by omega),hn _ (List.getElem_mem h)⟩
  obtain⟨L,E,F⟩:=ti hl Z hn;have P4:L.length=M.length:=by rw[←E];simp
  have R:0<L.length:=by omega
  letI:Inhabited (jU p g):=⟨L[0]⟩
  obtain⟨r,cap,rfl,hB,S,P5,P6,z,T⟩:=iY N O;have V:=hd r rfl;have s:L.length=fs.length:=by omega
  have t:(L.toArray.toList.map fY)=fs.map pv:=by rw[←F];simp[fY,Function.comp_def]
  have hH:Sort.Holds fY w r 0 L.toArray:=fun j G=>by
   simp only[List.size_toArray]at G;rw[Nat.zero_add];refine⟨z j _ ?_,T j (by simp;omega)⟩;rw[←t];simp[G]
  have eg:∀args w,(callFunc 151 args).run Tryz.prog w= .ok (.enter 151 args) w:=dI Tryz.func151 (by kernel_rfl) rfl;have H:CmpLays1 Tryz.prog 151 #[] (fY (p:=p) (g:=g)) k9 r 0 L.toArray.size w:=fun m os dk _ x y=>by
   have l:WB p (sortWorld fY w r 0 m dk os):=hE.own (tj (k:=r)) (fun b e=>by rw[e];exact V) (by omega);obtain⟨sb,⟨_,x1⟩,x2,_,_⟩:=x.fa;obtain⟨P7,⟨_,y1⟩,y2,_,_⟩:=y.fa;refine(Bu x.f y.f x.m.nm y.m.nm (sortWorld fY w r 0 m dk os) l.cap x.nb y.nb (l.pl _ _ _ x1) (l.pl _ _ _ y1) (l.kw _ _ _ x2) (l.kw _ _ _ y2)).mono ?_;rintro e w' ⟨rfl,n,rfl⟩;exact⟨rfl,n,#[],by rw[Sort.grow_empty]⟩
  have hS:=Any.slices_SortFunc Tryz.qP fY (fun _=>rfl) k9 Bv 151 #[] r 0 cap L.toArray w eg H hH S (by simp;omega);simp only[List.size_toArray,s]at hS;refine hS.mono ?_;rintro e w' ⟨rfl,d',n,os,hp,hs,rfl⟩;obtain⟨d,rfl⟩:∃d:List (jU p g),d'=d.toArray:=⟨d'.toList,by simp⟩
  have A:d.length=L.length:=by have:=hp.1;simpa using this
  have q:d.Perm L:=by
   have:=hp.2.2;have e:List.take fs.length d=d:=List.take_of_length_le (by omega);have e2:List.take fs.length L=L:=List.take_of_length_le (by omega);simpa [A,s,List.extract_eq_take_drop,e,e2]using this
  have I:M.Perm (d.map fun x=>x.m):=by rw[←E];exact(q.map _).symm
  have J:cY (d.map fun x=>x.m):=I.pairwise h2 fun{a b} C=>by rw[ng];exact C
  have K:dy (d.map fun x=>x.m):=by
   have W:(d.map fun x=>x.m).Pairwise fun a b=>bh b a=false:=by
    rw[List.pairwise_iff_getElem];intro i j hi G X;simp only[List.length_map]at hi G;have:=hs i j (Nat.zero_le _) X (by omega);rw[mI]at this;simpa [getElem!_pos,hi,G]using this
   exact(W.and J).imp fun{a b} ⟨h1,h2⟩=>by
    cases C:bh a b
    ·have:=jx C h1;rw[this]at h2;cases h2
    ·rfl
  have heq:(d.map fun x=>x.m)=bW M:=nj h2 I K;have hK:Kept (fun b=>b=r) w (sortWorld fY w r 0 n d.toArray os):=tj;refine⟨rfl,d.map fun x=>x.f,?_,by rw[←heq];simp,fun i hi u=> ?_,hK.mono fun b _ e=>(by rw[e];rfl),by rw[←F];exact q.map _⟩
  ·have Y:w.ownsRow B 38 1 (.slice (some ⟨r,0,none⟩) L.toArray.size cap) L.toArray.size (L.toArray.toList.map fY):=by
    rw[t];simpa [s]using N
   have:=Bw (n:=n) (os:=os) (d':=d.toArray) Y (by simp[A]) (by simpa using R);have e3:(d.map fun x=>x.f).map pv=d.map fY:=by simp[fY,Function.comp_def]
   rw[e3];simpa [s,A]using this
  ·simp only[←heq,List.getElem_map]
   exact(d[i]'(by simpa using u)).fa
theorem tm(p:Pm)(g:Ge)(B:Nat)(M:List U)(fs:List Nat)(v:Value)(w:World)(f:WB p w)(d:w.ownsRow B 38 1 v fs.length (fs.map pv))(j:fs.length=M.length)(k:∀i(h:i<M.length)(l:i<fs.length),cL p g M[i] fs[i])(m:∀x∈M,aL x.nm=true)(h2:cY M)(n:∀b,v.ownBlock=some b→∀o,p b o=none)(q:5<B)(hm:fs.length≤1048576):
 Calls Tryz.prog 113 #[v] w (tk p g B v M fs w):=by
 have r:=Lib.hid (Bx p g B M fs v w f d j k m h2 n q hm);obtain⟨a,c,rfl⟩:=aZ d;clear f d j k m h2 n hm;go_enter Tryz.func113,Tryz.ntmps113;go_wp2_with fail
 refine r.out.mono ?_;rintro e s ⟨rfl,h⟩;have l:=Lib.hid h;clear h;go_wp2_with fail
 go_end0
 exact⟨rfl,l.out⟩
end Go.Proofs.YtgbklbbknehefaaGreatDoor
namespace TS
open Go Go.RowKit Go.Proofs.YtgbklbbknehefaaGreatDoor
def gE(e:U):Bool:=e.k==12||e.k==13|| !isIface e||aW e
theorem fM{u:U}(h:u.k=10):under u=u:=cB (by omega) (by omega) (by omega) (by omega)
theorem k_{u:U}(h:u.k=10):aW u=(u.es.drop u.m.toNat).any gE:=by
 rw[gH (by rw[fM h];exact h),fM h];rfl
theorem tu{u:U}(h:u.k=10):fV u=(u.es.drop u.m.toNat).any je:=by
 rw[rq (by rw[fM h];exact h),fM h]
theorem mJ{u:U}(h:u.k=10):bw u=(ek u).flatMap eE:=by
 rw[lU (by rw[fM h];exact h),fM h]
theorem jo{u:U}(h:u.k=10):aj u=bW (dW u):=by
 rw[iS (by rw[fM h];exact h),fM h]
theorem tw{u:U}(h:u.k=10):dr u=(u.es.drop u.m.toNat).foldl (fun a e=>eX a (fU e)) ([none],false):=by
 rw[og (by rw[fM h];exact h),fM h]
theorem tA{e:U}(h:(under e).k=10):aW (under e)=aW e:=by rw[k_ h,gH h];rfl
theorem By{e:U}(h:(under e).k=10):fV (under e)=fV e:=by rw[tu h,rq h]
theorem tB{e:U}(h:(under e).k=10):aj (under e)=aj e:=by rw[jo h,iS h]
theorem Bz{e:U}(h:(under e).k=10):bw (under e)=bw e:=by rw[mJ h,lU h]
def BA(len:Nat)(W:List (Bool×U))(e:U):Prop:=
 ((e.k=12∨e.k=13)∧(∀i(h:i<(bk e).length),oO len W (bk e)[i].1 (bk e)[i].2)∧(bk e).length≤1048576∧∀t∈bk e,t.1=true→isIface t.2=false)∨
 ((e.k≠12∧e.k≠13)∧isIface e=true∧jS len e∧(∀x∈bw (under e),x∈W)∧∀m∈aj e,aL m.nm=true)∨
 ((e.k≠12∧e.k≠13)∧Tok len e∧(false,e)∈W∧(under e).k≠2∧(under e).k≠14)
structure fj(len:Nat)(u:U):Prop where
 bC:u.k=10
 tok:∀x∈bw u,Tok len x.2
 cI:(bw u).length≤50
 cmp:∀x∈bw u,dE len x.2
 el:∀e∈u.es.drop u.m.toNat,BA len (bw u) e
 nm:∀m∈u.es.take u.m.toNat,aL m.nm=true
 two:cY (u.es.take u.m.toNat)
 b4:(dW u).length≤1048576
 len:u.es.length≤1048576
structure Acc(W:List (Bool×U))(a:List U)(x:List Tm×Bool):Prop where
 wi:bd W x.1
 gen:(∀e∈a,gE e=false)→x=([none],false)
 mix:(∃e∈a,gE e=true)→(∀e∈a,je e=false)→x.1≠ [none]∨x.2=true
 inv:x.2=true→x.1= [none]
theorem BB(W:List (Bool×U)):Acc W [] ([none],false):=⟨.inl rfl,fun _=>rfl,fun⟨_,h,_⟩=>(by cases h),fun h=>(by cases h)⟩
structure jV(W:List (Bool×U))(e:U)(y:List Tm×Bool):Prop where
 wi:bd W y.1
 gen:gE e=false→y=([none],false)
 mix:gE e=true→je e=false→y.1≠ [none]∨y.2=true
 inv:y.2=true→y.1= [none]
theorem BD{W:List (Bool×U)}{l:List Tm}(h:bd W l):gq l=true↔l= [none]:=by
 constructor
 ·intro ha
  unfold gq at ha;obtain⟨t,a,b⟩:=List.any_eq_true.1 ha;cases t with
  |none=>exact mE h a
  |some _=>cases b
 ·rintro rfl;rfl
theorem BE{l:List Tm}(h:gq l=false):none ∉ l:=fun hm=>by
 unfold gq at h;rw[List.any_eq_false]at h;exact h _ hm rfl
theorem Acc.step{W:List (Bool×U)}{d:List U}{x y:List Tm×Bool}{e:U}(r:RW W)(h:Acc W d x)(k:jV W e y):Acc W (d++ [e]) (eX x y):=by
 have hM:bd W (bS x.1 y.1):=bd.meet r h.wi k.wi;have g:=BD hM;have b:(∀i∈d++ [e],gE i=false)→x=([none],false)∧y=([none],false):=fun c=>⟨h.gen fun i he=>c i (List.mem_append_left _ he),k.gen (c e (by simp))⟩
 unfold eX;cases f:(x.2||y.2)
 ·simp only[Bool.false_and,Bool.false_eq_true,if_false]
  refine⟨hM,fun c=> ?_,fun he hu=> ?_,fun l=>by cases l⟩
  ·obtain⟨rfl,rfl⟩:=b c
   simp[xj]
  ·left
   intro(m:bS x.1 y.1= [none]);have n:x.2=false:=by cases s:x.2;rfl;rw[s]at f;cases f
   have o:y.2=false:=by cases t:y.2;rfl;rw[t,Bool.or_true]at f;cases f
   have q:none∈bS x.1 y.1:=by rw[m];simp
   have h1:x.1= [none]:=mE h.wi (Classical.byContradiction fun hm=>sT (.inl hm) q);have h2:y.1= [none]:=mE k.wi (Classical.byContradiction fun hm=>sT (.inr hm) q);obtain⟨i,a,c⟩:=he;rcases List.mem_append.1 a with a|a
   ·rcases h.mix ⟨i,a,c⟩ fun z u=>hu z (List.mem_append_left _ u)with h3|h3
    ·exact h3 h1
    ·rw[n]at h3;cases h3
   ·simp only[List.mem_singleton]at a
    subst a;rcases k.mix c (hu _ (by simp))with h3|h3
    ·exact h3 h2
    ·rw[o]at h3;cases h3
 ·cases ha:gq (bS x.1 y.1)
  ·simp only[Bool.true_and,Bool.not_false,if_true]
   have p:=BE ha;have j:none ∉ (bS x.1 y.1).filter gw:=fun hm=>p (List.mem_filter.1 hm).1;refine⟨hM.Ba List.filter_sublist,fun c=> ?_,fun _ _=> .inl fun(m:(bS x.1 y.1).filter gw= [none])=>j (by rw[m];simp),fun l=>by cases l⟩;obtain⟨rfl,rfl⟩:=b c;cases f
  ·simp only[Bool.true_and,Bool.not_true,Bool.false_eq_true,if_false]
   refine⟨hM,fun c=> ?_,fun _ _=> .inr rfl,fun _=>g.1 ha⟩;obtain⟨rfl,rfl⟩:=b c;cases f
theorem BF{W:List (Bool×U)}{e:U}(hk:e.k=12∨e.k=13)(f:∀t∈bk e,t.1=true→isIface t.2=false){S:List Tm}(wi:bd W S)(na:none∈S→∃x∈bk e,isIface x.2=true):jV W e (S,false):=by
 refine⟨wi,fun h=> ?_,fun _ hu=> .inl fun(g:S= [none])=> ?_,fun h=>by cases h⟩
 ·unfold gE at h
  rcases hk with h1|h1<;>rw[h1]at h<;>simp at h
 ·obtain⟨x,b,hi⟩:=na (by rw[g];simp)
  have a:x.1=false:=by
   cases h:x.1
   ·rfl
   ·rw[f x b h]at hi;cases hi
  unfold bk at b;unfold je at hu;split at b
  ·rename_i c
   rw[if_pos c,List.any_eq_false]at hu;obtain⟨i,d,rfl⟩:=List.mem_map.1 b;simp only[beq_eq_false_iff_ne,ne_eq]at a;refine hu i d ?_;simp only[aC,if_neg a]at hi;simp[a,hi]
  ·simp only[List.mem_singleton]at b
   subst b;cases a
theorem BG{W:List (Bool×U)}{e d:U}{f:List Tm}{cmp:Bool}(a:e.k≠12∧e.k≠13)(hi:isIface e=true)(hu:((under e).k=10∧d=under e)∨((under e).k=16∧d=cV))(i:∀x∈bw d,x∈W)(ok:kD d f cmp):jV W e (f,cmp):=by
 have g:gE e=aW e:=by unfold gE;simp[a.1,a.2,hi]
 have j:je e=fV e:=by unfold je;rw[if_neg a.1];simp[a.2,hi]
 refine⟨ok.cI.imp id fun⟨l,m,n⟩=>⟨l,m,fun t o=>let⟨x,p,e⟩:=n t o;⟨x,i x p,e⟩⟩,fun h=> ?_,fun h k=> ?_,ok.inv⟩
 ·rw[g]at h
  rcases hu with⟨b,rfl⟩|⟨c,rfl⟩
  ·obtain⟨h1,h2⟩:=ok.gen (by rw[tA b];exact h)
   rw[h1,h2]
  ·rw[fD (by omega),c]at h;cases h
 ·rw[g]at h
  rw[j]at k;rcases hu with⟨b,rfl⟩|⟨c,rfl⟩
  ·exact ok.mix (by rw[tA b];exact h) (by rw[By b];exact k)
  ·exact ok.mix (by rw[fD (by rw[gB];decide),gB];decide) (by rw[xu (by rw[gB];decide)])
theorem BH{W:List (Bool×U)}{e:U}(hi:isIface e=false)(hm:(false,e)∈W):jV W e ([some (false,e)],false):=by
 refine⟨sR hm,fun h=> ?_,fun _ _=> .inl (by simp),fun h=>by cases h⟩;unfold gE at h;rw[hi]at h;simp at h
theorem Acc.ok{u:U}{x:List Tm×Bool}(hk:u.k=10)(h:Acc (bw u) (u.es.drop u.m.toNat) x)(he:dr u=x):kD u x.1 x.2:=by
 refine⟨h.wi,fun a=> ?_,fun a hu=> ?_,h.inv,by rw[he]⟩
 ·rw[k_ hk,List.any_eq_false]at a
  have:=h.gen fun e he=>by simpa using a e he
  rw[this];exact⟨rfl,rfl⟩
 ·rw[k_ hk,List.any_eq_true]at a
  rw[tu hk,List.any_eq_false]at hu;exact h.mix a fun e he=>by simpa using hu e he
theorem oU{p:Pm}{g:Ge}{B:Nat}{w:World}{v:Value}{rs:List Nat}{R:List Tm}(r:an p g w)(h:bZ p g B w v rs R)(y:∀b,v.ownBlock=some b→∀o,p b o=none):
 ∃q a c,v= .slice a rs.length c∧aK p q B∧an q g w∧bj w a rs.length (fun i=>rs.getD i 0)∧bK q a rs.length (fun i=>ptr (rs.getD i 0))∧(∀i(h:i<R.length),aY q g R[i] (rs.getD i 0))∧
  (∀b,v.ownBlock≠some b→∀o,q b o=p b o)∧rs.length≤c∧(a=none→c=0)∧∀x,a=some x→x.spot=none:=by
 have l:∀{q:Pm},Sub p q→∀i(h:i<R.length),aY q g R[i] (rs.getD i 0):=fun hk i hi=>by
  have F:=h.len;have:=(h.cd i hi (by omega)).sub hk (aD.refl g);simpa [show i<rs.length by omega]using this
 rcases h.own.2 with⟨n,z⟩|⟨b,cap,cur,n,A,s,C,t,D,f⟩
 ·have E:rs.length=0:=z
  exact⟨p,none,0,by rw[n,E],aK.refl _ _,r,fun i hi=>by omega,fun i hi=>by omega,l (Sub.refl p),fun _ _ _=>rfl,by omega,fun _=>rfl,fun x h=>(by cases h)⟩
 ·have j:=y b (by rw[n];rfl)
  have d:∀i,i<rs.length→cur[i]?=some (.pointer (some ⟨rs.getD i 0,0,none⟩)):=fun i hi=>by
   have:(cur.toList.take (rs.length*1))[i]?=some (.pointer (some ⟨rs.getD i 0,0,none⟩)):=by rw[f];simp[hi]
   rw[List.getElem?_take,if_pos (by omega)]at this;simpa using this
  refine⟨p.add b cur,some ⟨b,0,none⟩,cap,n,Pm.cW j A,r.add j s,fun i hi=>⟨b,0,rfl,?_⟩,fun i hi=>⟨b,0,rfl,?_⟩,l (Pm.cP j),fun c t o=>Pm.aJ _ _ _ fun e=>t (by rw[n,e];rfl),C,fun h=>(by cases h),fun x h=>by cases h;rfl⟩
  ·simp[World.cell?,s,d i hi]
  ·rw[Pm.aQ,Nat.zero_add];exact d i hi
theorem BI{p:Pm}{g:Ge}{B:Nat}{w:World}{v:Value}{fs:List Nat}(n:an p g w)(h:w.ownsRow B 38 1 v fs.length (fs.map pv))(s:∀b,v.ownBlock=some b→∀o,p b o=none):
 ∃q a c,v= .slice a fs.length c∧aK p q B∧an q g w∧bK q a fs.length (fun i=>ptr (fs.getD i 0))∧(∀b,v.ownBlock≠some b→∀o,q b o=p b o)∧fs.length≤c:=by
 rcases h.2 with⟨j,t⟩|⟨b,cap,cur,j,x,y,z,r,A,d⟩
 ·have C:fs.length=0:=t
  exact⟨p,none,0,by rw[j,C],aK.refl _ _,n,fun i hi=>by omega,fun _ _ _=>rfl,by omega⟩
 ·have l:=s b (by rw[j];rfl)
  have f:∀i,i<fs.length→cur[i]?=some (.pointer (some ⟨fs.getD i 0,0,none⟩)):=fun i hi=>by
   have:(cur.toList.take (fs.length*1))[i]?=some (.pointer (some ⟨fs.getD i 0,0,none⟩)):=by rw[d];simp[hi]
   rw[List.getElem?_take,if_pos (by omega)]at this;simpa using this
  refine⟨p.add b cur,some ⟨b,0,none⟩,cap,j,Pm.cW l x,n.add l y,fun i hi=>⟨b,0,rfl,?_⟩,fun c r o=>Pm.aJ _ _ _ fun e=>r (by rw[j,e];rfl),z⟩;rw[Pm.aQ,Nat.zero_add];exact f i hi
theorem gC{w:World}{B:Nat}{e:TypeId}{v:Value}{n:Nat}{xs:List Value}(h:w.ownsRow B e 1 v n xs){b:Nat}(a:v.ownBlock=some b):∃cur,w.heap[b]?=some (.cells cur e (0,0)):=by
 rcases h.2 with⟨c,_⟩|⟨f,cap,cur,c,_,d,_⟩
 ·rw[c]at a;cases a
 ·rw[c]at a;cases a;exact⟨cur,d⟩
theorem dF.gP{p q:Pm}{g:Ge}{B e a c pm f:Nat}{w:World}{m:Option Nat}{v:Value}{M:List U}{fs:List Nat}(h:dF p g B e a c pm f w m v M fs)(j:Sub p q)(l:∀b,Cx a c pm m v b→∀o,q b o=none):dF q g B e a c pm f w m v M fs:=
 ⟨h.os,h.mB,h.ac,h.af,h.row,h.mp,h.mf,h.len,fun i hi d=>(h.cd i hi d).sub j (aD.refl g),l⟩
theorem dF.BJ{p:Pm}{g:Ge}{B d a c pm f:Nat}{w:World}{m:Option Nat}{v:Value}{M:List U}{fs:List Nat}(h:dF p g B d a c pm f w m v M fs){b:Nat}(i:Cx a c pm m v b):b=a∨b=c∨b=pm∨d≤b:=by
 rcases i with e|e|e|e|e
 ·exact .inl e
 ·exact .inr (.inl e)
 ·exact .inr (.inr (.inl e))
 ·exact .inr (.inr (.inr (h.mB _ e).1))
 ·exact .inr (.inr (.inr (h.row.lt _ e).1))
theorem dF.apart{p:Pm}{g r:Ge}{q:Pm}{B c d f pm j:Nat}{w:World}{m:Option Nat}{v:Value}{M:List U}{fs:List Nat}(h:dF p g B c d f pm j w m v M fs)(s:mH B c d f pm j){l:Value}{rs:List Nat}{R:List Tm}(hT:bZ q r c w l rs R){b:Nat}(n:l.ownBlock=some b):¬Cx d f pm m v b:=by
 obtain⟨cur,a⟩:=gC hT.own n;have t:=(hT.own.lt b n).1;obtain⟨g1,g2,g3,g4,g5⟩:=s;rintro(e|e|e|e|e)
 ·omega
 ·omega
 ·omega
 ·obtain⟨F,hO,_⟩:=h.os
  obtain⟨es,cl,hm,_⟩:=hO.2.2.2 _ e;rw[hm]at a;cases a
 ·obtain⟨o,i⟩:=gC h.row e
  rw[i]at a;injection a with a
  injection a with _ a
  exact absurd a (by decide)
structure bE(p:Pm)(g:Ge)(b:Nat)(u:U)(w:World)(xs:Nat→Value)(M:List U)(k:Nat)(q:Pm)(m:Option Nat)(v:Value)(fs:List Nat)(wr:World):Prop where
 gr:aK p q w.heap.size
 id:an q g wr
 bO:dF q g w.heap.size (w.heap.size+8) (w.heap.size+4) (w.heap.size+5) (w.heap.size+6) (w.heap.size+7) wr m v M fs
 kept:Kept (fun c=>c=b) w wr
 iE:∀f∈fs,f<w.heap.size
 um:∃F,bT (dm w.heap.size) wr (w.heap.size+3) F∧∀j a,k≤j→u.m.toNat+j<u.es.length→((u.es.getD (u.m.toNat+j) default).k=12∨(u.es.getD (u.m.toNat+j) default).k=13)→xs j=ae 189 a→F (.pointer (some ⟨a,0,none⟩))=none
 tb:wr.heap[w.heap.size+2]?=some (.cells #[.bool false,.slice none 0 0,.slice (some ⟨w.heap.size+1,0,none⟩) 1 1,.bool false] 136 (0,0))
 td:∀o,q (w.heap.size+2) o=none
 b6:wr.cell? ⟨b,6,none⟩=some (ptr (w.heap.size+2))
theorem mK(B:Nat):mH B (B+8) (B+4) (B+5) (B+6) (B+7):=⟨by omega,by omega,by omega,by omega,by omega⟩
section
variable {p:Pm} {g:Ge} {b:Nat} {u:U} {w:World} {xs:Nat→Value} {M:List U} {k:Nat} {q:Pm} {m:Option Nat} {v:Value} {fs:List Nat} {wr w2:World}
theorem bE.size(h:bE p g b u w xs M k q m v fs wr):w.heap.size+8≤wr.heap.size:=by
 have:=World.block_lt_of_cell? _ _ h.bO.mp;simp only at this;omega
theorem bE.cx(h:bE p g b u w xs M k q m v fs wr){c:Nat}(a:Cx (w.heap.size+4) (w.heap.size+5) (w.heap.size+6) m v c):w.heap.size+4≤c∧c≠w.heap.size+7:=by
 rcases h.bO.BJ a with e|e|e|e<;>omega
theorem bE.below(h:bE p g b u w xs M k q m v fs wr)(a:Below wr.heap.size wr w2):bE p g b u w xs M k q m v fs w2 where
 gr:=h.gr
 id:=h.id.below a
 bO:=h.bO.of (Y:=fun _=>False) (Kept.of a) (fun _ h=>h.elim) (aK.refl _ _) (aD.refl g)
 kept:=h.kept.below a
 iE:=h.iE
 um:=let⟨F,hF,h1⟩:=h.um;⟨F,hF.jn (X:=fun _=>False) (Kept.of a) (fun h=>h) fun _ _ h=>h,h1⟩
 tb:=by have:=h.size;rw[a.block _ (by omega)];exact h.tb
 td:=h.td
 b6:=ak a h.b6
theorem bE.skip(h:bE p g b u w xs M k q m v fs wr):bE p g b u w xs M (k+1) q m v fs wr:=
 {h with um:=let⟨F,hF,h1⟩:=h.um;⟨F,hF,fun j a c=>h1 j a (by omega)⟩}
theorem bE.gP(h:bE p g b u w xs M k q m v fs wr){a:Pm}(d:aK q a (w.heap.size+8))(e:an a g wr)(f:∀c,Cx (w.heap.size+4) (w.heap.size+5) (w.heap.size+6) m v c→∀o,a c o=none):bE p g b u w xs M k a m v fs wr where
 gr:=h.gr.trans (d.mono (by omega)) (Nat.le_refl _)
 id:=e
 bO:=h.bO.gP d.le f
 kept:=h.kept
 iE:=h.iE
 um:=h.um
 tb:=h.tb
 td:=fun o=>d.aG (by omega) h.td o
 b6:=h.b6
theorem bE.union(h:bE p g b u w xs M k q m v fs wr)(E:b<w.heap.size){a:Nat}(n:xs k=ae 189 a)(r:∀i j,i<j→u.m.toNat+j<u.es.length→((u.es.getD (u.m.toNat+j) default).k=12∨(u.es.getD (u.m.toNat+j) default).k=13)→xs i≠xs j)
 {s:Pm}{F t:Value→Option Value}(hF:∀j a,k≤j→u.m.toNat+j<u.es.length→((u.es.getD (u.m.toNat+j) default).k=12∨(u.es.getD (u.m.toNat+j) default).k=13)→xs j=ae 189 a→F (.pointer (some ⟨a,0,none⟩))=none)
 (x:aK q s wr.heap.size)(C:an s g w2)(hM:bT (dm w.heap.size) w2 (w.heap.size+3) t)(z:∀y,y≠ .pointer (some ⟨a,0,none⟩)→t y=F y)(l:Kept (fun c=>c=w.heap.size+3) wr w2):bE p g b u w xs M (k+1) s m v fs w2 where
 gr:=h.gr.trans x (by have:=h.size;omega)
 id:=C
 bO:=h.bO.of l (fun c D=>⟨fun n=>by have:=h.cx n;omega,by omega,by omega⟩) x (aD.refl g)
 kept:=h.kept.trans l fun c D e=>by omega
 iE:=h.iE
 um:=⟨t,hM,fun j A G B d f=>by
  rw[z _ fun e=> ?_]
  ·exact hF j A (by omega) B d f
  ·refine r k j (by omega) B d ?_
   cases e;rw[n,f]⟩
 tb:=by have:=h.size;rw[l.block _ (by omega) (by omega)];exact h.tb
 td:=fun o=>x.aG (by have:=h.size;omega) h.td o
 b6:=by have:=h.size;rw[l.cell (by omega) (by omega)];exact h.b6
theorem bE.add(h:bE p g b u w xs M k q m v fs wr)(z:b<w.heap.size){j:Option Nat}{l:Value}{n:List U}{a:List Nat}{f:Nat}(o:dF q g w.heap.size (w.heap.size+8) (w.heap.size+4) (w.heap.size+5) (w.heap.size+6) (w.heap.size+7) w2 j l n a)
 (i:∀y∈a,y∈fs∨y=f)(r:f<w.heap.size)(s:an q g w2)(d:Kept (Cx (w.heap.size+4) (w.heap.size+5) (w.heap.size+6) m v) wr w2):bE p g b u w xs n k q j l a w2 where
 gr:=h.gr
 id:=s
 bO:=o
 kept:=h.kept.trans d fun c t e=>by have:=h.cx e;omega
 iE:=fun y x=>(i y x).elim (h.iE y) fun e=>e▸r
 um:=let⟨F,hF,h1⟩:=h.um;⟨F,hF.jn d (fun e=>by have:=h.cx e;omega) fun c t e=>by have:=h.cx e;omega,h1⟩
 tb:=by have:=h.size;rw[d.block _ (by omega) fun e=>by have:=h.cx e;omega];exact h.tb
 td:=h.td
 b6:=by have:=h.size;rw[d.cell (by omega) fun e=>by have:=h.cx e;omega];exact h.b6
end
structure oV(g:Ge)(u:U)(w:World)(k:Nat)(q:Pm)(d:Value)(rs:List Nat)(R:List Tm×Bool)(wr:World):Prop where
 row:bZ q g (w.heap.size+8) wr d rs R.1
 dk:∀c,d.ownBlock=some c→∀o,q c o=none
 acc:Acc (bw u) ((u.es.drop u.m.toNat).take k) R
 Rf:R=((u.es.drop u.m.toNat).take k).foldl (fun a e=>eX a (fU e)) ([none],false)
def cK(u:U)(k:Nat):List U:=((u.es.drop u.m.toNat).take k).foldl bX (u.es.take u.m.toNat)
theorem BK(M:List U)(x:U):M.length≤(bI M x).length:=by unfold bI;split<;>simp
theorem oW:∀(l M:List U),M.length≤(l.foldl bI M).length
 | [],_=>Nat.le_refl _
 |x::l,M=>Nat.le_trans (BK M x) (oW l _)
theorem BL(M:List U)(e:U):M.length≤(bX M e).length:=by unfold bX;split;exact oW _ _;exact Nat.le_refl _
theorem tC:∀(l M:List U),M.length≤(l.foldl bX M).length
 | [],_=>Nat.le_refl _
 |x::l,M=>Nat.le_trans (BL M x) (tC l _)
theorem tD{α:Type}(f:List U→α→List U)(a:∀(l:List α) M,M.length≤(l.foldl f M).length)(l:List α)(M:List U)(k:Nat):((l.take k).foldl f M).length≤(l.foldl f M).length:=by
 conv=>rhs;rw[←List.take_append_drop k l,List.foldl_append]
 exact a _ _
theorem BM(u:U)(k:Nat):(cK u k).length≤(dW u).length:=tD bX tC _ _ k
theorem mL{u:U}{k:Nat}(h:k<(u.es.drop u.m.toNat).length):cK u (k+1)=bX (cK u k) (u.es.drop u.m.toNat)[k]:=lV bX _ h
theorem BN{u:U}{k j:Nat}(h:k<(u.es.drop u.m.toNat).length){r:List U}(hr:aT (u.es.drop u.m.toNat)[k]=true→aj (u.es.drop u.m.toNat)[k]=r)(he:aT (u.es.drop u.m.toNat)[k]=true):((r.take j).foldl bI (cK u k)).length≤(dW u).length:=by
 refine Nat.le_trans (tD bI oW _ _ j) ?_;have:=BM u (k+1);rw[mL h]at this;unfold bX at this;rw[if_pos he,hr he]at this;exact this
theorem BO{l:List U}(h:cY l):∀{k:Nat}(hk:k<l.length),bI (l.take k) l[k]=l.take (k+1):=by
 intro k hk;unfold bI;rw[if_neg]
 ·rw[List.take_add_one,List.getElem?_eq_getElem hk];rfl
 ·rw[Bool.not_eq_true,List.any_eq_false]
  intro x a;obtain⟨i,hi,rfl⟩:=List.getElem_of_mem a;simp only[List.length_take]at hi;rw[List.getElem_take];have:=List.pairwise_iff_getElem.1 h i k (by omega) hk (by omega);rw[this];decide
def Pm.put(p:Pm)(b o:Nat)(v:Value):Pm:=fun a c=>if a=b∧c=o then some v else p a c
theorem Pm.eK(p:Pm)(b o:Nat)(v:Value):p.put b o v b o=some v:=by simp[Pm.put]
theorem Pm.aV(p:Pm){b o a c:Nat}(v:Value)(h:¬(a=b∧c=o)):p.put b o v a c=p a c:=by simp only[Pm.put,if_neg h]
theorem Pm.eL{p:Pm}{b o:Nat}(v:Value)(h:p b o=none):Sub p (p.put b o v):=fun c d x a=>by
 rw[Pm.aV]
 ·exact a
 ·rintro⟨rfl,rfl⟩;rw[h]at a;cases a
theorem an.put{p:Pm}{g:Ge}{w:World}{b o:Nat}{v:Value}(h:an p g w)(c:p b o=none)(j:w.cell? ⟨b,o,none⟩=some v)(l:Plain w b):an (p.put b o v) g w where
 kw:=fun d f x a=>by
  by_cases e:d=b∧f=o
  ·obtain⟨rfl,rfl⟩:=e;rw[Pm.eK]at a;cases a;exact j
  ·rw[Pm.aV _ _ e]at a;exact h.kw _ _ _ a
 pl:=fun d f x a=>by
  by_cases e:d=b∧f=o
  ·obtain⟨rfl,rfl⟩:=e;exact l
  ·rw[Pm.aV _ _ e]at a;exact h.pl _ _ _ a
 inj:=h.inj
 cap:=h.cap
 done:=fun d u hu=>⟨Pm.eL v c _ _ _ (h.done _ _ hu).1,(h.done _ _ hu).2.sub (Pm.eL v c) (aD.refl g)⟩
 po:=fun i hi=>let⟨o,x,e⟩:=h.po i hi;⟨o,x,Pm.eL v c _ _ _ e⟩
 cD:=let⟨o,x,e⟩:=h.cD;⟨o,x,Pm.eL v c _ _ _ e⟩
 cE:=let⟨o,x,e⟩:=h.cE;⟨o,x,Pm.eL v c _ _ _ e⟩
theorem an.setCell{p:Pm}{g:Ge}{w:World}(h:an p g w){b o:Nat}(v:Value)(d:p b o=none)(f:b≠5):an p g (w.setCell ⟨b,o,none⟩ v) where
 kw:=fun i j x a=>by
  rw[World.cell?_setCell_other]
  ·exact h.kw _ _ _ a
  ·intro e;cases e;rw[d]at a;cases a
 pl:=fun i j x a=>ix (h.pl _ _ _ a) _ _
 inj:=h.inj
 cap:=fun c h1 h2=>by
  rw[World.cell?_setCell_other]
  ·exact h.cap c h1 h2
  ·intro e;cases e;exact f rfl
 done:=h.done
 po:=h.po
 cD:=h.cD
 cE:=h.cE
theorem Node.BP{p:Pm}{g:Ge}{u:U}{x:Value}(h:Node p g u x)(hk:u.k=12∨u.k=13):∃(b:Nat)(a:Option Addr)(c:Nat)(f:Nat→Nat),x=ae 189 b∧p b 0=some (.slice a (bk u).length c)∧(bk u).length≤c∧bK p a (bk u).length (fun i=>ptr (f i))∧∀i(h:i<(bk u).length),aY p g (some (bk u)[i]) (f i):=by
 cases h with
 |union _ h1 h2 h3 d e=>exact⟨_,_,_,_,rfl,h1,h2,h3,fun i hi=>⟨(d i hi).1,_,(d i hi).2,e i hi⟩⟩
 |_=>omega
theorem BQ{e:U}(a:e.k≠12∧e.k≠13)(hi:isIface e=true):aT e=true:=by unfold aT;simp[a.1,a.2,hi]
theorem mM{e:U}(h:e.k=12∨e.k=13∨isIface e=false):aT e=false:=by
 unfold aT;rcases h with h|h|h<;>simp[h]
theorem fj.names{len:Nat}{u:U}(hF:fj len u):∀x∈dW u,aL x.nm=true:=fun x b=>by
 rcases pW b with h|⟨e,he,a,b⟩
 ·exact hF.nm x h
 ·rcases hF.el e he with⟨c,_⟩|⟨_,_,_,_,h⟩|⟨_,hT,_⟩
  ·rw[mM (c.elim .inl fun h=> .inr (.inl h))]at a;cases a
  ·exact h x b
  ·rw[mM (.inr (.inr hT.ni))]at a;cases a
def iF(p:Pm)(g:Ge)(b:Nat)(u:U)(w:World)(e:Ending)(a:World):Prop:=
 ∃q tb,e= .returned (.pointer (some ⟨tb,0,none⟩))∧Sub p q∧(∀c o v,q c o=some v→p c o=some v∨w.heap.size≤c∨(c=b∧o=6))∧an q g a∧cv q g b u∧Kept (fun c=>c=b) w a
theorem iF.drew{p:Pm}{g:Ge}{b:Nat}{u:U}{w a:World}{e:Ending}(h:iF p g b u w e a):iF p g b u w e a.drew:=
 let⟨q,tb,h1,h2,h3,c,d,f⟩:=h
 ⟨q,tb,h1,h2,h3,c.below (Below.refl _ _).drew,d,f.below (Below.refl _ _).drew⟩
end TS
namespace Go.Proofs.YtgbklbbknehefaaGreatDoor
open Go.RowKit TS
theorem cf{w:World}{o:Obj}{i:Nat}(h:i=w.heap.size):(w.alloc o).heap[i]?=some o:=by subst h;exact(MapKept.heap_alloc w o).1
theorem dw{w:World}{o:Obj}{i:Nat}(h:i<w.heap.size):(w.alloc o).heap[i]?=w.heap[i]?:=Below.heap_alloc _ _ _ h
theorem heap_set{w:World}{b o:Nat}{cs:Array Value}{T:TypeId}{z:Nat×Nat}{v:Value}(h:w.heap[b]?=some (.cells cs T z)):(w.setCell ⟨b,o,none⟩ v).heap[b]?=some (.cells (cs.setIfInBounds o v) T z):=by
 unfold World.setCell;simp only[Array.getElem?_modify,if_pos rfl,h];rfl
theorem BR{p:Pm}{g:Ge}{b:Nat}{u:U}{w a:World}(xs:Nat→Value)(C:an p g w)(F:a.cell? ⟨b,6,none⟩=some (.pointer none))(n:p b 6=none)(G:5<b)(H:b<w.heap.size)(j:Below w.heap.size w a)(q:a.heap.size=w.heap.size+2):
 bE p g b u w xs [] 0 p none (.slice none 0 0) []
  (((((((a.setCell ⟨b,6,none⟩ (.pointer (some ⟨a.heap.size,0,none⟩))).alloc (.cells #[.bool false,.slice none 0 0,.slice (some ⟨w.heap.size+1,0,none⟩) 1 1,.bool false] 136)).alloc (.map #[] 0)).alloc (.cells #[.map none] 180)).alloc (.cells #[.slice none 0 0] 114)).alloc (.map #[] 0)).alloc
    (.cells #[.map (some (a.heap.size+1+1+1+1))] 181)):=by
 have d:(a.setCell ⟨b,6,none⟩ (.pointer (some ⟨a.heap.size,0,none⟩))).heap.size=a.heap.size:=by simp
 have r:an p g (a.setCell ⟨b,6,none⟩ (.pointer (some ⟨a.heap.size,0,none⟩))):=(C.below j).setCell _ n (by omega);have t:(a.setCell ⟨b,6,none⟩ (.pointer (some ⟨a.heap.size,0,none⟩))).cell? ⟨b,6,none⟩=some (ptr (w.heap.size+2)):=by rw[←q];exact World.cell?_setCell_same _ _ _ F
 have v:Kept (fun c=>c=b) w (a.setCell ⟨b,6,none⟩ (.pointer (some ⟨a.heap.size,0,none⟩))):=Kept.setCell (X:=fun c=>c=b) (Kept.of j) (fun _=>rfl) _;have h2:w.heap.size+2=a.heap.size:=by omega
 have h3:w.heap.size+3=a.heap.size+1:=by omega
 have D:w.heap.size+4=a.heap.size+1+1:=by omega
 have E:w.heap.size+5=a.heap.size+1+1+1:=by omega
 have y:w.heap.size+6=a.heap.size+1+1+1+1:=by omega
 have h7:w.heap.size+7=a.heap.size+1+1+1+1+1:=by omega
 have l:∀c,w.heap.size≤c→∀o,p c o=none:=fun c z o=>C.kw.aG z o;generalize A:a.setCell ⟨b,6,none⟩ (.pointer (some ⟨a.heap.size,0,none⟩))=m at*
 have B:Below m.heap.size m ((((((m.alloc (.cells #[.bool false,.slice none 0 0,.slice (some ⟨w.heap.size+1,0,none⟩) 1 1,.bool false] 136)).alloc (.map #[] 0)).alloc (.cells #[.map none] 180)).alloc (.cells #[.slice none 0 0] 114)).alloc (.map #[] 0)).alloc
  (.cells #[.map (some (a.heap.size+1+1+1+1))] 181)):=by
  have:=Below.refl m.heap.size m;iterate 6 refine Below.alloc ?_ (by simp<;>omega) _
  exact this
 clear A;refine⟨aK.refl _ _,r.below B,⟨⟨fun _=>none,⟨?_,?_,fun _=>rfl,fun K h=>by cases h⟩,fun s=>⟨fun _ x I=>by(cases I),fun _=>rfl⟩,fun k x h=>by cases h⟩,fun c h=>by(cases h),?_,?_,World.ownsRow_nil _ _ _ _,?_,⟨fun _=>none,?_⟩,rfl,fun i h=>by(simp at h),fun c z o=>l c ?_ o⟩,v.below B,fun f J=>by(cases J),⟨fun _=>none,?_,fun _ _ _ _ _ _=>rfl⟩,?_,l _ (by omega),ak B t⟩
 ·rw[D,←d];simp[go_sem]
 ·rw[D,←d];simp[go_sem]
 ·rw[E,←d];simp[go_sem]
 ·rw[E,←d];simp[go_sem]
 ·rw[h7,y,←d];simp[go_sem]
 ·exact⟨#[],0,by rw[dw (by simp only[World.size_alloc];omega),cf (by simp only[World.size_alloc];omega)],by simp,by simp,by simp⟩
 ·rcases z with e|e|e|e|e
  ·omega
  ·omega
  ·omega
  ·cases e
  ·cases e
 ·exact⟨#[],0,by rw[dw (by simp only[World.size_alloc];omega),dw (by simp only[World.size_alloc];omega),dw (by simp only[World.size_alloc];omega),dw (by simp only[World.size_alloc];omega),cf (by simp only[World.size_alloc];omega)],by simp,by simp,by simp⟩
 ·rw[dw (by simp only[World.size_alloc];omega),dw (by simp only[World.size_alloc];omega),dw (by simp only[World.size_alloc];omega),dw (by simp only[World.size_alloc];omega),dw (by simp only[World.size_alloc];omega),cf (by omega)]
theorem oX{len:Nat}{p:Pm}{g:Ge}{b:Nat}{u:U}{w:World}{xs:Nat→Value}{k:Nat}{s:Pm}{m2:Option Nat}{v2:Value}{n:List Nat}{q:World}(hF:fj len u)(hk:k<(u.es.drop u.m.toNat).length)
 (r:bE p g b u w xs (cK u (k+1)) (k+1) s m2 v2 n q){R Y:List Tm×Bool}(acc:Acc (bw u) ((u.es.drop u.m.toNat).take k) R)(Rf:R=((u.es.drop u.m.toNat).take k).foldl (fun a e=>eX a (fU e)) ([none],false))
 (j:jV (bw u) (u.es.drop u.m.toNat)[k] Y)(P:Y=fU (u.es.drop u.m.toNat)[k])(A:Option Addr)(t c1:Nat)(f1:Nat→Nat)(B:t=R.1.length)(C:bj q A t f1)(D:∀i(h:i<R.1.length),aY s g R.1[i] (f1 i))
 (E:Option Addr)(y L:Nat)(F:Nat→Nat)(G:y=Y.1.length)(H:bj q E y F)(I:∀i(h:i<Y.1.length),aY s g Y.1[i] (F i)):
 Calls Tryz.prog 112 #[.slice A t c1,.bool R.2,.slice E y L,.bool Y.2] q fun e J=> ∃z f a3 c3,e= .returned (.tuple #[.slice a3 f.length c3,.bool (eX R Y).2])∧bE p g b u w xs (cK u (k+1)) (k+1) z m2 v2 n J∧oV g u w (k+1) z (.slice a3 f.length c3) f (eX R Y) J:=by
 have Q:=acc.wi.len hF.cI (by decide);have S:=j.wi.len hF.cI (by decide);have l:=bd.meet (oP hF.tok) acc.wi j.wi;refine(A8 len s g A E t y c1 L f1 F R.1 Y.1 R.2 Y.2 q B G (by omega) (by omega) r.id C H D I (mF hF.tok acc.wi) (mF hF.tok j.wi) ?_ ?_).mono ?_
 ·by_cases M:none∈bS R.1 Y.1
  ·exact .inl (mE l M)
  ·exact .inr ⟨M,by have:=l.len hF.cI (by decide);omega⟩
 ·intro d e hm
  rcases l with h1|⟨_,_,h3⟩
  ·rw[h1]at hm;simp at hm
  ·obtain⟨x,T,he⟩:=h3 _ hm
   cases he;exact hF.cmp _ T
 ·rintro e J ⟨z,v,f,rfl,N,V,hT,K,W⟩
  obtain⟨a3,c3,rfl⟩:=aZ hT.own;have X:=r.size;refine⟨z,f,a3,c3,rfl,(r.below K).gP (N.mono (by omega)) V fun c O o=>N.aG (r.bO.lt c O) (fun o=>r.bO.dk c O o) o,⟨⟨ie hT.own (by omega),hT.len,hT.cd⟩,W,?_,?_⟩⟩
  ·have:=acc.step (oP hF.tok) j
   rw[List.take_add_one,List.getElem?_eq_getElem hk];exact this
  ·rw[lV _ _ hk,←Rf,←P]
theorem BT{p:Pm}{g:Ge}{b:Nat}{u:U}{w:World}{xs:Nat→Value}{M:List U}{m:Option Nat}{v:Value}{fs:List Nat}{wr:World}(h:bE p g b u w xs M 0 p m v fs wr):
 ∃q,bE p g b u w xs M 0 q m v fs ((wr.alloc (.cells #[.bool false,.nilIface] 193)).alloc (.cells #[.pointer (some ⟨wr.heap.size,0,none⟩)] 191))∧
  oV g u w 0 q (.slice (some ⟨wr.heap.size+1,0,none⟩) 1 1) [wr.heap.size] ([none],false) ((wr.alloc (.cells #[.bool false,.nilIface] 193)).alloc (.cells #[.pointer (some ⟨wr.heap.size,0,none⟩)] 191)):=by
 have j:∀o,p wr.heap.size o=none:=fun o=>h.id.kw.aG (Nat.le_refl _) o;have d:∀o,p (wr.heap.size+1) o=none:=fun o=>h.id.kw.aG (by omega) o;have f:=h.size;have k:Below wr.heap.size wr ((wr.alloc (.cells #[.bool false,.nilIface] 193)).alloc (.cells #[.pointer (some ⟨wr.heap.size,0,none⟩)] 191)):=((Below.refl _ _).alloc (Nat.le_refl _) _).alloc (by simp) _;refine⟨p.add wr.heap.size #[.bool false,.nilIface],(h.below k).gP (Pm.cW j f) ((h.id.below k).add (T:=193) j (by rw[dw (by simp),cf rfl])) fun c a o=> ?_,⟨⟨?_,rfl,fun i hi l=> ?_⟩,fun c a o=> ?_,BB _,rfl⟩⟩
 ·have:=h.bO.lt c a
  rw[Pm.aJ _ _ _ (by omega)];exact h.bO.dk c a o
 ·have:=World.ownsRow_lit (base:=w.heap.size+8) (e:=191) (size:=1) (wr.alloc (.cells #[.bool false,.nilIface] 193)) #[.pointer (some ⟨wr.heap.size,0,none⟩)] 1 (by simp;omega) (by unfold maxLen;omega) rfl
  simpa using this
 ·have:i=0:=by simpa using hi
  subst this;show aY _ _ none _;unfold aY;simp[Pm.add]
 ·simp[Value.ownBlock]at a
  subst a;rw[Pm.aJ _ _ _ (by omega)];exact d o
theorem tE{len:Nat}{p q:Pm}{g:Ge}{b:Nat}{u:U}{w f:World}(hF:fj len u)(hb:b<w.heap.size)(G:p b 6=none)(H:Plain f b)(l:aK p q w.heap.size)(hE:an q g f)(I:∀o,q (w.heap.size+2) o=none)(hK:Kept (fun c=>c=b) w f){mv F:Value}{fs rs:List Nat}{R:List Tm×Bool}
 (J:f.heap[w.heap.size+2]?=some (.cells #[.bool false,mv,F,.bool R.2] 136 (0,0)))(K:f.cell? ⟨b,6,none⟩=some (ptr (w.heap.size+2)))(hM:f.ownsRow (w.heap.size+8) 38 1 mv fs.length (fs.map pv))(hlen:fs.length=(aj u).length)
 (x:∀i(h:i<(aj u).length)(h':i<fs.length),cL q g (aj u)[i] fs[i])(L:∀c,mv.ownBlock=some c→∀o,q c o=none)(hT:bZ q g (w.heap.size+8) f F rs R.1)(M:∀c,F.ownBlock=some c→∀o,q c o=none)(y:kD u R.1 R.2):
 iF p g b u w (.returned (.pointer (some ⟨w.heap.size+2,0,none⟩))) f:=by
 obtain⟨q1,m,n,rfl,r,N,O,s,P9⟩:=BI hE hM L;have P:∀c,F.ownBlock=some c→(Value.slice m fs.length n).ownBlock≠some c:=fun c t e=>by
  obtain⟨cur,h1⟩:=gC hT.own t;obtain⟨P7,h2⟩:=gC hM e;rw[h1]at h2;injection h2 with h2;injection h2 with _ h2;exact absurd h2 (by decide)
 obtain⟨Q,ta,tc,rfl,z,S,_,T,V,A,P_,W,X⟩:=oU N (hT.sub r.le (aD.refl g)) fun c t o=>by rw[s c (P c t)];exact M c t o
 have B:∀c,c<w.heap.size+8→(Value.slice m fs.length n).ownBlock≠some c:=fun c t e=>by have:=(hM.lt c e).1;omega
 have C:∀c,c<w.heap.size+8→(Value.slice ta rs.length tc).ownBlock≠some c:=fun c t e=>by have:=(hT.own.lt c e).1;omega
 have D:∀o,Q (w.heap.size+2) o=none:=fun o=>by rw[A _ (C _ (by omega)),s _ (B _ (by omega))];exact I o
 have Y:q b 6=none:=by
  cases h:q b 6 with
  |none=>rfl
  |some v=>
   rcases l.new _ _ _ h with h|h
   ·rw[G]at h;cases h
   ·omega
 have Z:=S.add D J;have E:(Q.add (w.heap.size+2) #[.bool false,.slice m fs.length n,.slice ta rs.length tc,.bool R.2]) b 6=none:=by
  rw[Pm.aJ _ _ _ (by omega),A _ (C _ (by omega)),s _ (B _ (by omega))];exact Y
 have P4:=Z.put E K H;have P5:=Pm.cP (cs:=#[.bool false,.slice m fs.length n,.slice ta rs.length tc,.bool R.2]) D;have P6:=Pm.eL (ptr (w.heap.size+2)) E;have d:=P5.trans P6;have j:=z.le.trans d;have k:=r.le.trans j;have hl:=hT.len;have Qa:(aj u).length≤1048576:=by rw[jo hF.bC];unfold bW;rw[List.length_mergeSort];exact hF.b4
 have P8:R.1.length≤50:=bd.len y.cI hF.cI (by decide);have a:∀o,o<4→(Pm.put (Q.add (w.heap.size+2) #[.bool false,.slice m fs.length n,.slice ta rs.length tc,.bool R.2]) b 6 (ptr (w.heap.size+2))) (w.heap.size+2) o=#[.bool false,.slice m fs.length n,.slice ta rs.length tc,.bool R.2][o]?:=fun o ho=>by
  rw[Pm.aV _ _ (by omega),Pm.aQ]
 refine⟨_,_,rfl,l.le.trans k,fun c o v h=> ?_,P4,⟨w.heap.size+2,m,n,fun i=>fs.getD i 0,ta,tc,R.1,R.2,Pm.eK _ _ _ _,?_,?_,by omega,by omega,?_,?_,?_,by omega,by omega,⟨fun i=>rs.getD i 0,?_,fun i hi=>(V i hi).sub d (aD.refl g)⟩,?_,y,W,X⟩,hK⟩
 ·by_cases e1:c=b∧o=6
  ·exact .inr (.inr e1)
  ·rw[Pm.aV _ _ e1]at h
   by_cases e2:c=w.heap.size+2
   ·exact .inr (.inl (by omega))
   ·rw[Pm.aJ _ _ _ e2]at h
    rcases z.new _ _ _ h with h|h
    ·rcases r.new _ _ _ h with h|h
     ·exact(l.new _ _ _ h).imp id .inl
     ·exact .inr (.inl (by omega))
    ·exact .inr (.inl (by omega))
 ·rw[a 0 (by decide)];rfl
 ·rw[a 1 (by decide),←hlen];rfl
 ·rw[←hlen];exact O.sub j
 ·intro i hi
  have:=(x i hi (by omega)).sub k (aD.refl g);simpa [show i<fs.length by omega]using this
 ·rw[a 2 (by decide),←hl];rfl
 ·rw[←hl];exact T.sub d
 ·rw[a 3 (by decide)];rfl
end Go.Proofs.YtgbklbbknehefaaGreatDoor
