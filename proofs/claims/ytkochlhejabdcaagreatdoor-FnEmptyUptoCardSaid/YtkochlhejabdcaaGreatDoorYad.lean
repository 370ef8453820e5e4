import Derived.Deep.RegionHeld
import Derived.Test.YtkochlhejabdcaaGreatDoorProg
import Derived.WalkLawsBesides
import Derived.WalkSpells
import Derived.Test.YtkochlhejabdcaaGreatDoorYab
import Derived.Test.YtkochlhejabdcaaGreatDoorYac
set_option maxRecDepth 100000
set_option maxHeartbeats 8000000
set_option linter.all false
open Go Go.RowKit
inductive TS:Type
 |Xa (b i:Nat)
 |Xp (b:Nat)
 |Xi (t b:Nat)
 |Xt (u:TS.U) (a:Option Addr) (c:Nat)
 |Xm (m:TS.br) (a:Option Addr) (c:Nat)
 |Xe (d:TS.aC) (a:Option Addr) (c:Nat) (f:Option Addr) (g:Nat)
 |Xq (q:TS.Pc)
 |Xd (d:TS.Dl) (c:Nat)
namespace TS
instance:Coe World Nat:=⟨fun w=>w.heap.size⟩
section
variable (b i t:Nat) (u:U) (a f:Option Addr) (c g:Nat) (m:br) (d:aC) (q:Pc) (e:Dl)
instance:CoeDep TS (Xa b i) Addr:=⟨⟨b,i,none⟩⟩
instance:CoeDep TS (Xa b i) (Option Addr):=⟨some ⟨b,i,none⟩⟩
instance:CoeDep TS (Xa b i) Value:=⟨.pointer (some ⟨b,i,none⟩)⟩
instance:CoeDep TS (Xp b) Value:=⟨.pointer (some ⟨b,0,none⟩)⟩
instance:CoeDep TS (Xi t b) Value:=⟨.iface t (.pointer (some ⟨b,0,none⟩))⟩
instance:CoeDep TS (Xt u a c) Value:=⟨.agg #[.int .i64 u.k,.int .i64 u.n,.int .i64 u.m,.bool u.v,.string u.nm,.string u.tg,.slice a u.es.length c]⟩
instance:CoeDep TS (Xt u a c) Obj:=⟨.cells #[.int .i64 u.k,.int .i64 u.n,.int .i64 u.m,.bool u.v,.string u.nm,.string u.tg,.slice a u.es.length c] 25⟩
instance:CoeDep TS (Xm m a c) Value:=⟨.agg #[.string m.nm,.bool m.ptr,.int .i64 m.sig.k,.int .i64 m.sig.n,.int .i64 m.sig.m,.bool m.sig.v,.string m.sig.nm,.string m.sig.tg,.slice a m.sig.es.length c]⟩
instance:CoeDep TS (Xm m a c) Obj:=⟨.cells #[.string m.nm,.bool m.ptr,.int .i64 m.sig.k,.int .i64 m.sig.n,.int .i64 m.sig.m,.bool m.sig.v,.string m.sig.nm,.string m.sig.tg,.slice a m.sig.es.length c] 75⟩
instance:CoeDep TS (Xe d a c f g) Value:=⟨.agg #[.int .i64 d.un.k,.int .i64 d.un.n,.int .i64 d.un.m,.bool d.un.v,.string d.un.nm,.string d.un.tg,.slice a d.un.es.length c,.slice f d.ms.length g]⟩
instance:CoeDep TS (Xe d a c f g) Obj:=⟨.cells #[.int .i64 d.un.k,.int .i64 d.un.n,.int .i64 d.un.m,.bool d.un.v,.string d.un.nm,.string d.un.tg,.slice a d.un.es.length c,.slice f d.ms.length g] 36⟩
instance:CoeDep TS (Xq q) Value:=⟨.agg #[.int .i64 q.d,.bool q.v,.bool q.t]⟩
instance:CoeDep TS (Xq q) Obj:=⟨.cells #[.int .i64 q.d,.bool q.v,.bool q.t] 57⟩
instance:CoeDep TS (Xd e c) Value:=⟨.slice e.a e.len c⟩
end
inductive lM (p:Prop):Type
 |w
instance(p:Prop):CoeSort (lM p) Prop:=⟨fun _=>p⟩
section
variable (w:World) (b i:Nat) (v:Value) (u:U) (a:Option Addr) (c:Nat)
abbrev Xc:lM (w.cell? ⟨b,i,none⟩=some v):= .w
abbrev Xl:lM (w.cell? ⟨b,0,none⟩=some (.int .i64 u.k)∧w.cell? ⟨b,1,none⟩=some (.int .i64 u.n)∧w.cell? ⟨b,2,none⟩=some (.int .i64 u.m)∧w.cell? ⟨b,3,none⟩=some (.bool u.v)∧w.cell? ⟨b,4,none⟩=some (.string u.nm)∧w.cell? ⟨b,5,none⟩=some (.string u.tg)∧w.cell? ⟨b,6,none⟩=some (.slice a u.es.length c)):= .w
abbrev Xs:lM (w.cell? ⟨b,i,none⟩=some (.int .i64 u.k)∧w.cell? ⟨b,i+1,none⟩=some (.int .i64 u.n)∧w.cell? ⟨b,i+2,none⟩=some (.int .i64 u.m)∧w.cell? ⟨b,i+3,none⟩=some (.bool u.v)∧w.cell? ⟨b,i+4,none⟩=some (.string u.nm)∧w.cell? ⟨b,i+5,none⟩=some (.string u.tg)∧w.cell? ⟨b,i+6,none⟩=some (.slice a u.es.length c)):= .w
abbrev Xk(f:FuncId)(x:Array Value)(w:World)(R:Ending→World→Prop):lM (Calls Go.Proofs.Tryz.prog f x w R):= .w
end
theorem zq{p:Prop}(h:p:=by first|(simp[go_sem];done)|(go_keep;done)):p:=h
end TS
namespace Go.Proofs.YtkochlhejabdcaaGreatDoor
open Go.RowKit TS Tryz
theorem ym(p:Pm)(D:Dl)(es:List U)(a:Option Addr)(c g:Nat)(lb:Array Value)(P:U→Bool)(w:World)(hw:KW p w)(q:aq p D es a)(A:(es.length:Int)≤1048576)
 (B:∀args w,(callFunc g args).run Tryz.prog w= .ok (.enter g args) w)
 (H:∀i(h:i<es.length) W a' c',Below w w W→ai p D es[i] a' c'→Xk g (#[(Xt es[i] a' c':Value)]++lb) W (RB (P es[i]) W)):
 Xk 72 #[.slice a es.length c,.func (.func g) #[] lb] w fun e m=>(∃k:Nat,e= .returned (.int .i64 k)∧∃h:k<es.length,P es[k]=true)∧Below w w m∨(e= .returned (.int .i64 (-1))∧∀x∈es,P x=false)∧Below w w m:=by
 have v:=zh H;clear H;go_enter func72,ntmps72;go_wp2_with fail
 go_loopw [8] (fun t wr=> ∃k:Nat,k≤es.length∧t= .int .i64 k∧(∀x∈es.take k,P x=false)∧Below w w wr) (fun t _=>es.length- (intOf t).toNat)
 case atStart=>exact⟨0,Nat.zero_le _,rfl,by simp,Below.refl _ _⟩
 case round=>
  obtain⟨k,hk,rfl,j,d⟩:=hrel;by_cases f:k<es.length
  ·obtain⟨b,o,rfl⟩:=q.bg zo
   obtain⟨a',c',h7,hu⟩:=q.get k f;have z:=v.out k f wr a' c' d hu;have n:=hw.grown d;generalize r:es[k]=x at*;obtain⟨g0,g1,g2,g3,g4,g5,g6⟩:=h7.world n;clear h7;go_wp2_with fail
   refine z.mono ?_;rintro e m ⟨bb,rfl,s,u⟩;cases bb<;>go_wp2_with fail
   ·go_roundw
    case rel=>
     refine⟨k+1,by omega,by go_num,?_,d.trans (u.mono d.size)⟩;intro y l;rw[List.take_succ_eq_append_getElem f,List.mem_append,List.mem_singleton,r]at l;rcases l with l|rfl
     ·exact j y l
     ·exact s.out.symm
    case measure=>simp[intOf];omega
   ·go_ret
    exact .inl ⟨⟨k,rfl,f,by rw[r];exact s.out.symm⟩,d.trans (u.mono d.size)⟩
  ·go_wp2_with fail
   go_ret;rw[List.take_of_length_le zo]at j;exact .inr ⟨⟨rfl,j⟩,d⟩
theorem lN(p:Pm)(D:Dl)(es:List U)(a:Option Addr)(c g:Nat)(lb:Array Value)(P:U→Bool)(w:World)(hw:KW p w)(j:aq p D es a)(l:(es.length:Int)≤1048576)
 (m:∀args w,(callFunc g args).run Tryz.prog w= .ok (.enter g args) w)
 (H:∀i(h:i<es.length) W a' c',Below w w W→ai p D es[i] a' c'→Xk g (#[(Xt es[i] a' c':Value)]++lb) W (RB (P es[i]) W)):
 Xk 29 #[.slice a es.length c,.func (.func g) #[] lb] w (RB (es.any P) w):=by
 have n:=zh (ym p D es a c g lb P w hw j l m H);clear H;go_enter func29,ntmps29;go_wp2_with fail
 refine n.out.mono ?_;rintro e q (⟨⟨k,rfl,hk,b⟩,d⟩|⟨⟨rfl,b⟩,d⟩)
 ·have f:Hid (true=es.any P):=(List.any_eq_true.2 ⟨_,zm hk,b⟩).symm
  clear b;go_wp2_with fail
  go_ret;exact⟨_,rfl,f,d⟩
 ·have f:Hid (false=es.any P):=(List.any_eq_false.2 fun x o=>by simp[b x o]).symm
  clear b;go_wp2_with fail
  go_ret;exact⟨_,rfl,f,d⟩
theorem fZ(n:Nat)(p:Pm)(D:Dl)(es:List U)(b:n=es.length)(a:Option Addr)(c g:Nat)(lb:Array Value)(P:U→Bool)(w:World)(hw:KW p w)(d:aq p D es a)(e:(es.length:Int)≤1048576)
 (f:∀args w,(callFunc g args).run Tryz.prog w= .ok (.enter g args) w)
 (H:∀i(h:i<es.length) W a' c',Below w w W→ai p D es[i] a' c'→Xk g (#[(Xt es[i] a' c':Value)]++lb) W (RB (P es[i]) W)):
 Xk 29 #[.slice a n c,.func (.func g) #[] lb] w (RB (es.any P) w):=by
 subst b;exact lN p D es a c g lb P w hw d e f H
theorem iQ(p:Pm)(D:Dl):∀(u:U)(pos f:Nat)(a:Option Addr)(c:Nat)(w:World),Pl D.len u pos f→ai p D u a c→KW p w→
 Xk 18 #[Xt u a c] w fun e B=> ∃a' c',e= .returned (Xt (bare u) a' c')∧ai p D (bare u) a' c'∧Below w w B:=by
 intro u;induction u using U.bc with
 |_ u ih=>
  intro pos f a c w l hu hw;by_cases g:u.k=2
  ·have h1:=l.form.fL g
   obtain⟨e,he⟩:=cL h1;have x:=l.part 0 zo;have m:=hu.list;have y:u.es[0]'zo=e:=by simp[he]
   obtain⟨b,o,rfl⟩:=m.bg zo;obtain⟨a',c',h7,n⟩:=m.get 0 zo;have F:=m.lt zo hw;simp only[y,Nat.zero_mul,Nat.add_zero]at*;obtain⟨g0,g1,g2,g3,g4,g5,g6⟩:=h7.world hw;have z:=fun W hk=>ih e (U.ar (by rw[he];simp)) _ _ a' c' W x n hk;have h:=zh (jU g he);have i:(u.k==2)=true:=by simp[g]
   have G:(0:Int)<u.es.length:=zo;clear g h1 l x y h7;have C:=zh he;clear he ih;have q:=zh z;clear z;go_enter func18,ntmps18;go_wp2_with fail
   refine(q.out _ ((hw.alloc _).alloc _)).mono ?_;rintro H I ⟨A,c1,rfl,r,aa⟩;obtain⟨s,E⟩:=eS aa;go_wp2_with fail
   refine bodyPost_ret (v:=Xt (bare e) A c1) (by simp[results,results18,go_sem,s]) rfl ?_;rw[h.out];refine⟨A,c1,rfl,r,?_⟩;have t:=(((Below.refl w.heap.size w).alloc zl _).alloc zs _).trans (aa.mono zp);repeat(refine Below.setCell ?_ zs _)
   exact t
  ·by_cases d:u.k=14
   ·have i:(u.k==2)=false:=by simp[g]
    have j:(u.k==14)=true:=by simp[d]
    have h:=zh (gI d);clear g d;go_enter func18,ntmps18;go_wp2_with fail
    refine bodyPost_ret (v:=Xt bL none 0) (by simp[results,results18,go_sem];exact⟨rfl,rfl,rfl,rfl,rfl,rfl,rfl⟩) rfl ?_;rw[h.out];exact⟨none,0,rfl,sn _ _,(zB.alloc zl _).alloc zs _⟩
   ·have i:(u.k==2)=false:=by simp[g]
    have j:(u.k==14)=false:=by simp[d]
    have h:=zh (bR g d);clear g d;go_enter func18,ntmps18;go_wp2_with fail
    refine bodyPost_ret (v:=Xt u a c) (by simp[results,results18,go_sem]) rfl ?_;rw[h.out];exact⟨a,c,rfl,hu,(zB.alloc zl _).alloc zs _⟩
end Go.Proofs.YtkochlhejabdcaaGreatDoor
