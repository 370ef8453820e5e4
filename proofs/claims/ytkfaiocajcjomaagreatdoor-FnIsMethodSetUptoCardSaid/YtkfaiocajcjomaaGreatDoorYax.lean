import Derived.Test.YtkfaiocajcjomaaGreatDoorYaw
set_option maxRecDepth 100000
set_option maxHeartbeats 8000000
set_option linter.all false
namespace Go.Proofs.YtkfaiocajcjomaaGreatDoor
open Go.RowKit TS
def vb(D:Dl)(dc:Nat)(u:U):Prop:=
 ∀(p:Pm)(pos f:Nat)(a:Option Addr)(c:Nat)(w:World),Pl D.len u pos f→f≤2→f≠0→u.k≠12→u.k≠13→aj p D u a c→KW p w→
  Calls Tryz.prog 7 #[.slice D.a D.len dc,.agg #[.int .i64 u.k,.int .i64 u.n,.int .i64 u.m,.bool u.v,.string u.nm,.string u.tg,.slice a u.es.length c]] w (RB (dq u) w)
theorem Ej(p:Pm)(D:Dl)(dc:Nat)(x:U)(pos f:Nat)(a:Option Addr)(c:Nat)(w:World)(g:Pl D.len x pos f)(q:f≤2)(h:f≠0)(e:x.k≠12)(hu:aj p D x a c)(hw:KW p w)(B:Nat)
 (h1:w.cell? ⟨B,0,none⟩=some (.slice D.a D.len dc)):
 Calls Tryz.prog 18 #[.agg #[.int .i64 x.k,.int .i64 x.n,.int .i64 x.m,.bool x.v,.string x.nm,.string x.tg,.slice a x.es.length c],.pointer (some ⟨B,0,none⟩)] w (RB (x.k !=13&&isIface x) w):=by
 have b1:=World.block_lt_of_cell? _ _ h1;simp only at b1;have ag:Up p w (w.alloc (.cells #[.int .i64 x.k,.int .i64 x.n,.int .i64 x.m,.bool x.v,.string x.nm,.string x.tg,.slice a x.es.length c] 25)):=(Up.refl hw).alloc _;by_cases d:x.k=13
 ·have hF:Hid (false=(x.k !=13&&isIface x)):=by unfold Hid;rw[d];rfl
  have t13:(x.k !=13)=false:=by simp[d]
  clear g e d;go_enter Tryz.func18,Tryz.ntmps18;go_wp2_with fail
  go_ret;exact⟨_,rfl,hF,ag.up⟩
 ·have l:=fun W r=>e_ p D dc x pos f a c W g q h e d hu r
  have t13:(x.k !=13)=true:=by simp[d]
  have hF:Hid (isIface x=(x.k !=13&&isIface x)):=by unfold Hid;simp[d]
  clear g e d;go_enter Tryz.func18,Tryz.ntmps18;go_wp2_with fail
  refine(l _ ag.kw).mono ?_;rintro s t ⟨b,rfl,o,aa⟩;have i:=(ag.step aa).up;have j:=Lib.hid (o.out.trans hF.out);clear aa l o hF;go_wp2_with fail
  go_ret;exact⟨_,rfl,j.out,i⟩
theorem Ek(p:Pm)(D:Dl)(dc:Nat)(e:U)(a:Option Addr)(c:Nat)(w:World)(y:vb D dc e)(r:Pl D.len e 2 2)(hu:aj p D e a c)(hw:KW p w)(B:Nat)
 (h1:w.cell? ⟨B,0,none⟩=some (.slice D.a D.len dc)):
 Calls Tryz.prog 17 #[.agg #[.int .i64 e.k,.int .i64 e.n,.int .i64 e.m,.bool e.v,.string e.nm,.string e.tg,.slice a e.es.length c],.pointer (some ⟨B,0,none⟩)] w (RB (ei e) w):=by
 have b1:=World.block_lt_of_cell? _ _ h1;simp only at b1;have ag:Up p w (w.alloc (.cells #[.int .i64 e.k,.int .i64 e.n,.int .i64 e.m,.bool e.v,.string e.nm,.string e.tg,.slice a e.es.length c] 25)):=(Up.refl hw).alloc _;by_cases d:e.k=12
 ·have t12:(e.k==12)=true:=by simp[d]
  have hF:Hid ((e.es.any fun x=>x.k !=13&&isIface x)=ei e):=by unfold Hid ei;rw[if_pos d]
  have K:=hu.cap;have hle:(e.es.length:Int)≤1048576:=by omega
  have L:Hid (∀i(hi:i<e.es.length),Pl D.len e.es[i] 1 2∧e.es[i].k≠12):=fun i hi=>by
   have h:=r.part i hi;rw[show aS e i=1 by unfold aS;rw[if_pos d],show aJ e i 2=2 by unfold aJ;rw[if_pos rfl]]at h;refine⟨h,fun hk=> ?_⟩;have N:=h.form;cases N<;>first|omega|(rename_i Q _ _;omega)
  have M:=show ∀args w,(callFunc 18 args).run Tryz.prog w= .ok (.enter 18 args) w from dm Tryz.func18 (by kernel_rfl) rfl
  have O:∀(fn:Fn)(first cap:Array Value)(w:World),(Instr.makeFunc fn first cap).run Tryz.prog w= .ok (.func fn first cap) w:=fun _ _ _ _=>rfl;have P:=Lib.hid fun W (q:KW p W) lb H=>fL e.es.length p D e.es rfl a c 18 lb (fun x=>x.k !=13&&isIface x) W q hu.list hle M H;have G:=Lib.hid h1;clear d y r M;go_enter Tryz.func17,Tryz.ntmps17;go_wp2_with fail
  refine(P.out _ ag.kw _ ?_).mono ?_
  ·intro i hi W a' c' z I
   exact Ej p D dc _ 1 2 a' c' W (L.out i hi).1 (by omega) (by omega) (L.out i hi).2 I (ag.kw.grown z) _ (TS.cell_kept z (by rw[World.cell?_alloc_lt _ _ _ b1];exact G.out))
  rintro J o ⟨b,rfl,A,aa⟩;have j:=(ag.step aa).up;have s:=Lib.hid (A.out.trans hF.out);clear A aa hF;go_wp2_with fail
  go_ret;exact⟨_,rfl,s.out,j⟩
 have t12:(e.k==12)=false:=by simp[d]
 have u:ei e=(e.k !=13&&isIface e&&dq e):=by unfold ei;rw[if_neg d]
 by_cases f:e.k=13
 ·have hF:Hid (false=ei e):=by unfold Hid;rw[u,f];rfl
  have t13:(e.k !=13)=false:=by simp[f]
  clear r d f u y;go_enter Tryz.func17,Tryz.ntmps17;go_wp2_with fail
  go_ret;exact⟨_,rfl,hF,ag.up⟩
 have t13:(e.k !=13)=true:=by simp[f]
 have F:=fun W q=>e_ p D dc e 2 2 a c W r (by omega) (by omega) d f hu q;have t:=fun W q=>y p 2 2 a c W r (by omega) (by omega) d f hu q;have g:(e.k !=13)=true:=by simp[f]
 cases hi:isIface e
 ·have l:=fun W q=>aM (F W q) hi
  have hF:Hid (false=ei e):=by unfold Hid;rw[u,hi,g];rfl
  clear u hi F t d f y r g;go_enter Tryz.func17,Tryz.ntmps17;go_wp2_with fail
  refine(l _ ag.kw).mono ?_;rintro J o ⟨rfl,aa⟩;have j:=(ag.step aa).up;clear aa l;go_wp2_with fail
  go_ret;exact⟨_,rfl,hF,j⟩
 have l:=fun W q=>aM (F W q) hi;have hF:Hid (dq e=ei e):=by unfold Hid;rw[u,hi,g];simp
 clear u hi F d f y r g;go_enter Tryz.func17,Tryz.ntmps17;go_wp2_with fail
 refine(l _ ag.kw).mono ?_;rintro J o ⟨rfl,aa⟩;have C:=ag.step aa;have c1:o.cell? ⟨B,0,none⟩=some (.slice D.a D.len dc):=TS.cell_kept aa (by rw[World.cell?_alloc_lt _ _ _ b1];exact h1);obtain⟨R,S,T,V,X,Y,Z⟩:(o.cell? ⟨w.heap.size,0,none⟩=some (.int .i64 e.k)∧o.cell? ⟨w.heap.size,1,none⟩=some (.int .i64 e.n)∧o.cell? ⟨w.heap.size,2,none⟩=some (.int .i64 e.m)∧o.cell? ⟨w.heap.size,3,none⟩=some (.bool e.v)∧o.cell? ⟨w.heap.size,4,none⟩=some (.string e.nm)∧o.cell? ⟨w.heap.size,5,none⟩=some (.string e.tg)∧o.cell? ⟨w.heap.size,6,none⟩=some (.slice a e.es.length c)):=by
  repeat' apply And.intro
  all_goals exact TS.cell_kept aa (by first|(simp[go_sem];done)|(go_keep;done))
 clear aa l ag;go_wp2_with fail
 refine(t _ C.kw).mono ?_;rintro J w2 ⟨b,rfl,A,E⟩;have j:=(C.step E).up;have s:=Lib.hid (A.out.trans hF.out);clear E t A hF;go_wp2_with fail
 go_ret;exact⟨_,rfl,s.out,j⟩
theorem El(D:Dl)(dc:Nat):∀u,vb D dc u:=by
 intro u;induction u using U.bg with
 |_ u ih=>
  intro p pos f a c w I S x y z hu hw;obtain⟨f',Z,T,d,hk,j⟩:=I.under S x y z;have J:=fun W hk=>gA p D dc u pos f a c W I S x y z hu hk;have ag:Up p w ((w.alloc (.cells #[.slice D.a D.len dc] 22)).alloc (.cells #[.int .i64 u.k,.int .i64 u.n,.int .i64 u.m,.bool u.v,.string u.nm,.string u.tg,.slice a u.es.length c] 25)):=((Up.refl hw).alloc _).alloc _;have l:= @kP u;have o:= @kQ u;generalize dq u=r at*;generalize under u=v at*;cases bz:v.k==10
  ·have hF:Hid (false=r):=(o (by simpa using bz)).symm
   clear l o ih I d hk j;go_enter Tryz.func7,Tryz.ntmps7;go_wp2_with fail
   refine(J _ ag.kw).mono ?_;rintro V X ⟨q,K,c1,rfl,hg,A,s,aa⟩;have B:=(ag.step aa).up;clear J aa;go_wp2_with fail
   go_ret;exact⟨_,rfl,hF,B.alloc B.size _⟩
  ·have g:v.k=10:=by simpa using bz
   have hF:=Lib.hid (l g);obtain⟨P3,L,h4⟩:=d.form.jh g;have hE:=Lib.hid fun e he=>d.elem g (e:=e) he;have hS:=Lib.hid fun e (he:e∈v.es.drop v.m.toNat)=>ih e (Nat.lt_of_lt_of_le (U.az (List.mem_of_mem_drop he)) j);clear l o ih I d hk j g;have P4:max v.m 0=v.m:=by omega
   have Y:v.m≤v.es.length:=by omega
   have P5:∀(fn:Fn)(first cap:Array Value)(w:World),(Instr.makeFunc fn first cap).run Tryz.prog w= .ok (.func fn first cap) w:=fun _ _ _ _=>rfl;have eg:=Lib.hid (show ∀args w,(callFunc 17 args).run Tryz.prog w= .ok (.enter 17 args) w from dm Tryz.func17 (by kernel_rfl) rfl);go_enter Tryz.func7,Tryz.ntmps7;go_wp2_with fail
   refine(J _ ag.kw).mono ?_;rintro V X ⟨q,K,c1,rfl,hg,A,s,aa⟩;have M:=ag.step aa;have h:=s.cap;have c0:X.cell? ⟨w.heap.size,0,none⟩=some (.slice D.a D.len dc):=TS.cell_kept aa (by simp[go_sem]);have N:=Lib.hid fun W (hW:KW q W) n (hn:n=(v.es.drop v.m.toNat).length) a2 c2 (C:au q D (v.es.drop v.m.toNat) a2) lb H=>fL n q D (v.es.drop v.m.toNat) hn a2 c2 17 lb ei W hW C (by rw[List.length_drop];omega) eg.out H;have O:=M.alloc (.cells #[.int .i64 v.k,.int .i64 v.n,.int .i64 v.m,.bool v.v,.string v.nm,.string v.tg,.slice K v.es.length c1] 25);have E:=A.alloc (.cells #[.int .i64 v.k,.int .i64 v.n,.int .i64 v.m,.bool v.v,.string v.nm,.string v.tg,.slice K v.es.length c1] 25);have P:=h.1;clear J aa h;have t:v.m.toNat<c1∨c1=v.m.toNat:=by omega
   rcases t with t|rfl
   all_goals
    go_wp2_with fail
    have C:=s.list.l8 L P;first|rw[if_pos t]at C|rw[if_neg (Nat.lt_irrefl _)]at C
    refine(N.out _ E _ (by simp;try omega) _ _ C _ ?_).mono ?_
    ·intro i hi W a' c' F Q
     have he:=List.getElem_mem hi;exact Ek q D dc _ a' c' W (hS.out _ he) (hE.out _ he) Q (E.grown F) _ (TS.cell_kept F (by rw[World.cell?_alloc_lt _ _ _ (World.block_lt_of_cell? _ _ c0)];exact c0))
    rintro V w2 ⟨b,rfl,hb,G⟩;have R:=(O.step G).up;clear G;go_wp2_with fail
    go_ret;exact⟨_,rfl,by rw[hF.out];exact hb.out,R⟩
end Go.Proofs.YtkfaiocajcjomaaGreatDoor
