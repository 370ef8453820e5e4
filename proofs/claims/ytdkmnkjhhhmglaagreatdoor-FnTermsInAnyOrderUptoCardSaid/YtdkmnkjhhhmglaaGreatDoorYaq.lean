import Derived.Test.YtdkmnkjhhhmglaaGreatDoorYap
set_option maxRecDepth 100000
set_option maxHeartbeats 8000000
set_option linter.all false
namespace Go.Proofs.YtdkmnkjhhhmglaaGreatDoor
open Go.RowKit TS
def kk(p:Pm)(D:Dl)(dc:Nat)(x y:U):Prop:=
 ∀(a:Option Addr)(c:Nat)(a':Option Addr)(c':Nat)(w:World),ak p D x a c→ak p D y a' c'→KW p w→
  Calls Tryz.prog 49 #[.slice D.a D.len dc,.agg #[.int .i64 x.k,.int .i64 x.n,.int .i64 x.m,.bool x.v,.string x.nm,.string x.tg,.slice a x.es.length c],.agg #[.int .i64 y.k,.int .i64 y.n,.int .i64 y.m,.bool y.v,.string y.nm,.string y.tg,.slice a' y.es.length c']] w (RB (aB x y) w)
theorem Al(p:Pm)(D:Dl)(dc:Nat)(f m:U)(a:Option Addr)(c:Nat)(a':Option Addr)(c':Nat)(w:World)(g:kk p D dc f m)(l:ak p D f a c)(hm:ak p D m a' c')(hw:KW p w)(d j:Nat)
 (h1:w.cell? ⟨j,0,none⟩=some (.slice D.a D.len dc))(h7:(w.cell? ⟨d,0,none⟩=some (.int .i64 m.k)∧w.cell? ⟨d,1,none⟩=some (.int .i64 m.n)∧w.cell? ⟨d,2,none⟩=some (.int .i64 m.m)∧w.cell? ⟨d,3,none⟩=some (.bool m.v)∧w.cell? ⟨d,4,none⟩=some (.string m.nm)∧w.cell? ⟨d,5,none⟩=some (.string m.tg)∧w.cell? ⟨d,6,none⟩=some (.slice a' m.es.length c'))):
 Calls Tryz.prog 112 #[.agg #[.int .i64 f.k,.int .i64 f.n,.int .i64 f.m,.bool f.v,.string f.nm,.string f.tg,.slice a f.es.length c],.pointer (some ⟨d,0,none⟩),.pointer (some ⟨j,0,none⟩)] w (RB (cL f m&&aB f m) w):=by
 obtain⟨o,u,x,y,z,A,B⟩:=h7;have b1:=World.block_lt_of_cell? _ _ h1;have q:=World.block_lt_of_cell? _ _ o;simp only at b1 q;have ag:Up p w (w.alloc (.cells #[.int .i64 f.k,.int .i64 f.n,.int .i64 f.m,.bool f.v,.string f.nm,.string f.tg,.slice a f.es.length c] 25)):=(Up.refl hw).alloc _;have h:=fun W r=>g a c a' c' W l hm r;cases e:cL f m
 ·have t:(f.nm.toList==m.nm.toList)=false:=by have:=fE (a:=f) (b:=m);rw[e]at this;simpa using this
  clear g h e;go_enter Tryz.func112,Tryz.ntmps112;go_wp2_with fail
  go_ret;exact⟨_,rfl,rfl,ag.up⟩
 ·have t:(f.nm.toList==m.nm.toList)=true:=by simpa using fE.1 e
  clear g e;go_enter Tryz.func112,Tryz.ntmps112;go_wp2_with fail
  refine(h _ ag.kw).mono ?_;rintro C E ⟨b,rfl,s,aa⟩;have i:=(ag.step aa).up;clear aa h;go_wp2_with fail
  go_ret;exact⟨_,rfl,s,i⟩
theorem uh(p:Pm)(D:Dl)(dc:Nat)(l want:List U)(a:Option Addr)(n c:Nat)(a':Option Addr)(K c':Nat)(w:World)(P:n=l.length)(C:K=want.length)(hl:l.length≤1048576)(Q:want.length≤1048576)
 (R:aj p D l a)(u:aj p D want a')(hw:KW p w)(L:∀f∈l,∀m∈want,kk p D dc f m):
 Calls Tryz.prog 51 #[.slice D.a D.len dc,.slice a n c,.slice a' K c'] w (RB (hasB l want) w):=by
 subst P C;have E:(l.length:Int)≤1048576:=by omega
 have S:(want.length:Int)≤1048576:=by omega
 have T:=Lib.hid (show ∀args w,(callFunc 112 args).run Tryz.prog w= .ok (.enter 112 args) w from ep Tryz.func112 (by kernel_rfl) rfl);have V:∀(fn:Fn)(first cap:Array Value)(w:World),(Instr.makeFunc fn first cap).run Tryz.prog w= .ok (.func fn first cap) w:=fun _ _ _ _=>rfl;have ag:Up p w (w.alloc (.cells #[.slice D.a D.len dc] 22)):=(Up.refl hw).alloc _;obtain⟨r,hr⟩:∃r,r=hasB l want:=⟨_,rfl⟩
 rw[←hr];have x:=Lib.hid hr;have F:=Lib.hid L;clear hr L;go_enter Tryz.func51,Tryz.ntmps51;go_wp2_with fail
 go_loopw [11] (fun i wr=> ∃k:Nat,k≤want.length∧i= .int .i64 k∧hasB l (want.take k)=true∧Up p w wr∧wr.cell? ⟨w.heap.size,0,none⟩=some (.slice D.a D.len dc)) (fun i _=>want.length- (intOf i).toNat)
 case atStart=>exact⟨0,Nat.zero_le _,rfl,by simp[hasB],ag,by simp⟩
 case round=>
  clear ag;obtain⟨k,hk,rfl,M,G,c0⟩:=hrel;have y:=Lib.hid M;clear M;have H:=World.block_lt_of_cell? _ _ c0;simp only at H;by_cases e:k<want.length
  ·have N:(k:Int)<want.length:=by omega
   obtain⟨b,o,rfl⟩:=u.bN (by omega);obtain⟨a5,c5,h7,z⟩:=u.get k e;have g:Hid (hasB l (want.take (k+1))=l.any fun f=>cL f want[k]&&aB f want[k]):=by
    unfold Hid;rw[List.take_succ_eq_append_getElem e];have:=y.out;unfold hasB at*;rw[List.all_append,this];simp
   have d:Hid ((l.any fun f=>cL f want[k]&&aB f want[k])=false→false=r):=fun I=>by
    rw[x.out,hasB];symm;rw[List.all_eq_false];exact⟨_,List.getElem_mem e,by rw[I];simp⟩
   have q:=Lib.hid fun f (I:f∈l)=>F.out f I want[k] (List.getElem_mem e);obtain⟨m,hm⟩:∃m,m=want[k]:=⟨_,rfl⟩
   rw[←hm]at h7 z g d q;clear hm;obtain⟨g0,g1,g2,g3,g4,g5,g6⟩:TS.C7 wr b (o+k*7) m a5 c5:=h7.world G.kw;clear h7;have h:=G.alloc (.cells #[.int .i64 m.k,.int .i64 m.n,.int .i64 m.m,.bool m.v,.string m.nm,.string m.tg,.slice a5 m.es.length c5] 25)
   have O:=Lib.hid (mg p D l a c 112 #[.pointer (some ⟨wr.heap.size,0,none⟩),.pointer (some ⟨w.heap.size,0,none⟩)] (fun f=>cL f m&&aB f m) _ h.kw R E T.out
    (fun i hi W X c1 s J=>Al p D dc l[i] m X c1 a5 c5 W (q.out _ (List.getElem_mem hi)) J z (h.kw.grown s) wr.heap.size w.heap.size
     (cell_kept s (by rw[World.cell?_alloc_lt _ _ _ H];exact c0)) (by repeat' apply And.intro
                                                                      all_goals exact cell_kept s (by simp[go_sem]))))
   have A:=Lib.hid h;clear h q;go_wp2_with fail
   refine O.out.mono ?_;rintro e1 Y ⟨bb,rfl,j,t⟩;have B:=A.out.step t;have c2:Y.cell? ⟨w.heap.size,0,none⟩=some (.slice D.a D.len dc):=cell_kept t (by rw[World.cell?_alloc_lt _ _ _ H];exact c0);clear t O;cases bb
   ·have hF:=Lib.hid (d.out j.out.symm)
    clear j g d;go_wp2_with fail
    go_ret;exact⟨_,rfl,hF.out,B.up⟩
   ·have Z:=Lib.hid (g.out.trans j.out.symm)
    clear j g d;go_wp2_with fail
    go_roundw
    case rel=>exact⟨k+1,by omega,by go_num,Z.out,B,c2⟩
    case measure=>simp[intOf];omega
  ·have hF:Hid (true=r):=by unfold Hid;rw[x.out,←y.out,List.take_of_length_le (by omega)]
   have hB:=G.up;go_wp2_with fail
   go_ret;exact⟨_,rfl,hF,hB⟩
end Go.Proofs.YtdkmnkjhhhmglaaGreatDoor
