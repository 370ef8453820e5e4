import Derived.Test.YtkochlhejabdcaaGreatDoorYaq
set_option maxRecDepth 100000
set_option maxHeartbeats 8000000
set_option linter.all false
namespace Go.Proofs.YtkochlhejabdcaaGreatDoor
open Go.RowKit TS Tryz
def j_(p:Pm)(D:Dl)(dc:Nat)(x y:U):Prop:=
 ∀(a:Option Addr)(c:Nat)(a':Option Addr)(c':Nat)(w:World),ai p D x a c→ai p D y a' c'→KW p w→
  Xk 15 #[Xd D dc,Xt x a c,Xt y a' c'] w (RB (aJ x y) w)
theorem zT(p:Pm)(D:Dl)(dc:Nat)(f m:U)(a:Option Addr)(c:Nat)(a':Option Addr)(c':Nat)(w:World)(e:j_ p D dc f m)(k:ai p D f a c)(hm:ai p D m a' c')(hw:KW p w)(i j:Nat)
 (h1:Xc w j 0 (Xd D dc))(h7:(Xl w i m a' c')):
 Xk 115 #[Xt f a c,Xp i,Xp j] w (RB (cH f m&&aJ f m) w):=by
 obtain⟨l,r,s,u,v,x,y⟩:=h7;have b1:=zb h1;have n:=zb l;simp only at b1 n;have ae:Up p w (w.alloc (Xt f a c)):=(Up.refl hw).alloc _;have g:=fun W o=>e a c a' c' W k hm o;cases d:cH f m
 ·have t:(f.nm.toList==m.nm.toList)=false:=by have:=gV (a:=f) (b:=m);rw[d]at this;simpa using this
  clear e g d;go_enter func115,ntmps115;go_wp2_with fail
  go_ret;exact⟨_,rfl,rfl,ae.up⟩
 ·have t:(f.nm.toList==m.nm.toList)=true:=by simpa using gV.1 d
  clear e d;go_enter func115,ntmps115;go_wp2_with fail
  refine(g _ ae.kw).mono ?_;rintro z A ⟨b,rfl,q,aa⟩;have h:=(ae.step aa).up;clear aa g;go_wp2_with fail
  go_ret;exact⟨_,rfl,q,h⟩
theorem qk(p:Pm)(D:Dl)(dc:Nat)(l want:List U)(a:Option Addr)(n c:Nat)(a':Option Addr)(J c':Nat)(w:World)(O:n=l.length)(B:J=want.length)(hl:l.length≤1048576)(P:want.length≤1048576)
 (Q:aq p D l a)(u:aq p D want a')(hw:KW p w)(K:∀f∈l,∀m∈want,j_ p D dc f m):
 Xk 58 #[Xd D dc,.slice a n c,.slice a' J c'] w (RB (hasB l want) w):=by
 subst O B;have C:(l.length:Int)≤1048576:=zo;have R:(want.length:Int)≤1048576:=zo;have S:=zh (show ∀args w,(callFunc 115 args).run Tryz.prog w= .ok (.enter 115 args) w from dG func115 zk rfl);have T:∀(fn:Fn)(first cap:Array Value)(w:World),(Instr.makeFunc fn first cap).run Tryz.prog w= .ok (.func fn first cap) w:=fun _ _ _ _=>rfl;have ae:Up p w (w.alloc (.cells #[Xd D dc] 22)):=(Up.refl hw).alloc _;obtain⟨r,hr⟩:∃r,r=hasB l want:=⟨_,rfl⟩
 rw[←hr];have v:=zh hr;have E:=zh K;clear hr K;go_enter func58,ntmps58;go_wp2_with fail
 go_loopw [11] (fun i wr=> ∃k:Nat,k≤want.length∧i= .int .i64 k∧hasB l (want.take k)=true∧Up p w wr∧Xc wr w 0 (Xd D dc)) (fun i _=>want.length- (intOf i).toNat)
 case atStart=>exact⟨0,Nat.zero_le _,rfl,by simp[hasB],ae,by simp⟩
 case round=>
  clear ae;obtain⟨k,hk,rfl,L,F,c0⟩:=hrel;have x:=zh L;clear L;have G:=zb c0;simp only at G;by_cases e:k<want.length
  ·have M:(k:Int)<want.length:=zo
   obtain⟨b,o,rfl⟩:=u.bg zo;obtain⟨a5,c5,h7,y⟩:=u.get k e;have g:Hid (hasB l (want.take (k+1))=l.any fun f=>cH f want[k]&&aJ f want[k]):=by
    unfold Hid;rw[List.take_succ_eq_append_getElem e];have:=x.out;unfold hasB at*;rw[List.all_append,this];simp
   have d:Hid ((l.any fun f=>cH f want[k]&&aJ f want[k])=false→false=r):=fun H=>by
    rw[v.out,hasB];symm;rw[List.all_eq_false];exact⟨_,zm e,by rw[H];simp⟩
   have q:=zh fun f (H:f∈l)=>E.out f H want[k] (zm e);obtain⟨m,hm⟩:∃m,m=want[k]:=⟨_,rfl⟩
   rw[←hm]at h7 y g d q;clear hm;obtain⟨g0,g1,g2,g3,g4,g5,g6⟩:TS.C7 wr b (o+k*7) m a5 c5:=h7.world F.kw;clear h7;have h:=F.alloc (Xt m a5 c5)
   have N:=zh (lN p D l a c 115 #[Xp wr,Xp w] (fun f=>cH f m&&aJ f m) _ h.kw Q C S.out
    (fun i hi W V c1 s I=>zT p D dc l[i] m V c1 a5 c5 W (q.out _ (zm hi)) I y (h.kw.grown s) wr.heap.size w.heap.size
     (cell_kept s (by rw[World.cell?_alloc_lt _ _ _ G];exact c0)) (by repeat' apply And.intro
                                                                      all_goals exact cell_kept s (by simp[go_sem]))))
   have z:=zh h;clear h q;go_wp2_with fail
   refine N.out.mono ?_;rintro e1 X ⟨bb,rfl,j,t⟩;have A:=z.out.step t;have c2:Xc X w 0 (Xd D dc):=cell_kept t (by rw[World.cell?_alloc_lt _ _ _ G];exact c0);clear t N;cases bb
   ·have hF:=zh (d.out j.out.symm)
    clear j g d;go_wp2_with fail
    go_ret;exact⟨_,rfl,hF.out,A.up⟩
   ·have Y:=zh (g.out.trans j.out.symm)
    clear j g d;go_wp2_with fail
    go_roundw
    case rel=>exact⟨k+1,by omega,by go_num,Y.out,A,c2⟩
    case measure=>simp[intOf];omega
  ·have hF:Hid (true=r):=by unfold Hid;rw[v.out,←x.out,List.take_of_length_le zo]
   have Z:=F.up;go_wp2_with fail
   go_ret;exact⟨_,rfl,hF,Z⟩
end Go.Proofs.YtkochlhejabdcaaGreatDoor
