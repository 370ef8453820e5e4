import Derived.Test.YtkochlhejabdcaaGreatDoorYad
set_option maxRecDepth 100000
set_option maxHeartbeats 8000000
set_option linter.all false
namespace Go.Proofs.YtkochlhejabdcaaGreatDoor
open Go.RowKit TS Tryz
def DW(p:Pm)(D E:Dl)(w:World):Prop:=
 D.len≤E.len∧∀n,n<D.len→∀b d,D.a= .some (Xa b d)→∃eb e,E.a= .some (Xa eb e)∧∀j,j<8→∀x,p b (d+n*8+j)=some x→Xc w eb (e+n*8+j) x
theorem DW.refl{p:Pm}{D:Dl}{w:World}(hw:KW p w):DW p D D w:=⟨Nat.le_refl _,fun _ _ a d h=>⟨a,d,h,fun _ _ v b=>hw _ _ _ b⟩⟩
theorem sr(p:Pm)(D E:Dl)(dc:Nat)(u:U)(pos f:Nat)(a:Option Addr)(c:Nat)(w:World)(T:DW p D E w)(F:Pl D.len u pos f)(hf:f≤2)(V:f≠0)(X:u.k≠12)(Y:u.k≠13)(hu:ai p D u a c)(hw:KW p w):
 Xk 8 #[Xd E dc,Xt u a c] w (RU p D (under u) w):=by
 obtain⟨q,A,s,B⟩:=F.bare hf X Y;have Q:=fun W hk=>iQ p D u pos f a c W F hu hk;by_cases b:(bare u).k=11
 ·obtain⟨⟨PK,PL⟩,_,R,H⟩:=q.form.ji b
  obtain⟨x,G⟩:=cL (l:=(bare u).un) (by have:=H V;cases hh:(bare u).un with|nil=>exact absurd hh this|cons a r=>rw[hh]at R;simp at R⊢;exact R);have I:=zh (jj b G);obtain⟨a0,c0,J⟩:=hu.bare F;obtain⟨db,d,a',c',hD,h7,Z⟩:=yl q G b J rfl;obtain⟨eb,e,K,L⟩:=T.2 (bare u).n.toNat zo _ _ hD;have PG:=T.1;obtain⟨Ea,En⟩:=E;simp only at K PG;subst K;have M:((bare u).k==11)=true:=by simp[b]
  have z:=fun j hj v hv=>L j hj v hv;have e0:Xc w eb (e+(bare u).n.toNat*8) (.int .i64 x.k):=z 0 zo _ h7.1;have N:=z 1 zo _ h7.2.1;have e2:=z 2 zo _ h7.2.2.1;have e3:=z 3 zo _ h7.2.2.2.1;have e4:=z 4 zo _ h7.2.2.2.2.1;have e5:=z 5 zo _ h7.2.2.2.2.2.1;have e6:=z 6 zo _ h7.2.2.2.2.2.2;clear q B A s R H b F J G L z T;generalize bare u=v at*;go_enter func8,ntmps8;go_wp2_with fail
  refine(Q _ ((hw.alloc _).alloc _)).mono ?_;rintro N h ⟨S,c1,rfl,C,aa⟩;obtain⟨y,O⟩:=eS aa;have PM:=((hw.alloc _).alloc _).grown aa;clear Q;have g:=(((Below.refl w.heap.size w).alloc zl (Xt u a c)).alloc (by simp only[World.size_alloc];omega) (.cells #[.int .i64 0,.int .i64 0,.int .i64 0,.bool false,.string ⟨#[]⟩,.string ⟨#[]⟩,.slice none 0 0] 25)).trans (aa.mono (by simp only[World.size_alloc];omega));have P:eb<w.heap.size:=zb e0;have PN:eb<h.heap.size:=Nat.lt_of_lt_of_le P g.size;have g0:=TS.cell_kept g e0;have g1:=TS.cell_kept g N;have g2:=TS.cell_kept g e2;have g3:=TS.cell_kept g e3;have g4:=TS.cell_kept g e4;have g5:=TS.cell_kept g e5;have g6:=TS.cell_kept g e6;clear h7 e0 N e2 e3 e4 e5 e6;obtain⟨l0,l1,l2,l3,l4,l5,l6⟩:=((dE w u a c 25).alloc _).below aa;go_wp2_with fail
  refine bodyPost_ret (v:=Xt x a' c') (by simp[results,results8,go_sem,y]) rfl ?_;rw[I.out];refine⟨p,a',c',rfl,.refl _ _,?_,Z,?_⟩
  ·refine hw.grown ?_
   repeat(refine Below.setCell ?_ zs _)
   exact g
  ·repeat(refine Below.setCell ?_ zs _)
   exact g
 ·by_cases i:(bare u).k=15
  ·have G:=q.form.sq i
   have I:=zh (jk i G);have M:((bare u).k==11)=false:=by simp[b]
   have PH:((bare u).k==15)=true:=by simp[i]
   clear q B A s b i F G;generalize bare u=v at*;go_enter func8,ntmps8;go_wp2_with fail
   refine(Q _ ((hw.alloc _).alloc _)).mono ?_;rintro N h ⟨S,c1,rfl,C,aa⟩;obtain⟨y,O⟩:=eS aa;obtain⟨l0,l1,l2,l3,l4,l5,l6⟩:=((dE w u a c 25).alloc _).below aa;have hz:w.heap.size+1<h.heap.size:=by have:=aa.size;simp at this;omega
   obtain⟨r0,r1,r2,r3,r4,r5,r6⟩:=(yg (w.alloc _) 25).below aa;simp only[World.size_alloc,cC,U.k,U.n,U.m,U.v,U.nm,U.tg,U.es]at r0 r1 r2 r3 r4 r5 r6;have PI:w.heap.size<h.heap.size:=zo;have PJ:w.heap.size<h.heap.size+1:=zo;have PO:w.heap.size<h.heap.size+1+1:=zo;go_wp2_with fail
   refine bodyPost_ret (v:=Xt aP (Xa (h+1+1) 0) 1) (by simp[results,results8,go_sem,r0,r1,r2,r3,r4,r5,r6,hz,PI,PJ];exact⟨rfl,rfl,rfl,rfl,rfl,rfl,rfl⟩) rfl ?_;rw[I.out];have t:=(((Below.refl w.heap.size w).alloc zl _).alloc zs _).trans (aa.mono zp);have d1:∀o,p (h.heap.size+1) o=none:=fun o=>hw.aF zo o;have d2:∀o,p (h.heap.size+1+1) o=none:=fun o=>hw.aF zo o;have d3:∀o,p (w.heap.size+1) o=none:=fun o=>hw.aF zo o;have d4:∀cs o,p.add (h.heap.size+1) cs (h.heap.size+1+1) o=none:=fun cs o=>by rw[Pm.aQ _ _ _ zo];exact d2 o
   refine⟨(p.add (h.heap.size+1) #[.int .i64 1,.int .i64 16,.int .i64 0,.bool false,.string ⟨#[]⟩,.string ⟨#[]⟩,.slice none 0 0]).add (h.heap.size+1+1) #[.int .i64 7,.int .i64 0,.int .i64 0,.bool false,.string ⟨#[69,114,114,111,114]⟩,.string ⟨#[]⟩,.slice (Xa (h+1) 0) 1 1],_,_,rfl,(Pm.du d1 zo).trans (Pm.du (n:=w.heap.size) (d4 _) zo) zl,?_,?_,?_⟩
   ·refine KW.ns (KW.ns ((hw.grown ?_).alloc _) _ _ zs) _ _ zs
    iterate 14 (refine Below.setCell ?_ zs _)
    exact t
   ·refine yj (b1:=h.heap.size+1) ?_ ?_
    ·refine⟨?_,?_,?_,?_,?_,?_,?_⟩<;>(rw[Pm.aQ _ _ _ zo,Pm.aU];rfl)
    ·refine⟨?_,?_,?_,?_,?_,?_,?_⟩<;>(rw[Pm.aU];rfl)
   ·refine((Below.alloc ?_ zp _).alloc zp _).alloc zp _
    iterate 14 (refine Below.setCell ?_ zs _)
    exact t
  ·have I:=zh (iz b i)
   have M:((bare u).k==11)=false:=by simp[b]
   have PH:((bare u).k==15)=false:=by simp[i]
   clear q B A s b i F;generalize bare u=v at*;go_enter func8,ntmps8;go_wp2_with fail
   refine(Q _ ((hw.alloc _).alloc _)).mono ?_;rintro N h ⟨S,c1,rfl,C,aa⟩;obtain⟨y,O⟩:=eS aa;obtain⟨l0,l1,l2,l3,l4,l5,l6⟩:=((dE w u a c 25).alloc _).below aa;go_wp2_with fail
   refine bodyPost_ret (v:=Xt v S c1) (by simp[results,results8,go_sem,y]) rfl ?_;rw[I.out];have t:=(((Below.refl w.heap.size w).alloc zl _).alloc zs _).trans (aa.mono zp);refine⟨p,S,c1,rfl,.refl _ _,?_,C,?_⟩
   ·refine hw.grown ?_
    repeat(refine Below.setCell ?_ zs _)
    exact t
   ·repeat(refine Below.setCell ?_ zs _)
    exact t
theorem f_(p:Pm)(D:Dl)(dc:Nat)(u:U)(pos f:Nat)(a:Option Addr)(c:Nat)(w:World)(g:Pl D.len u pos f)(h:f≤2)(b:f≠0)(d:u.k≠12)(e:u.k≠13)(hu:ai p D u a c)(hw:KW p w):
 Xk 8 #[Xd D dc,Xt u a c] w (RU p D (under u) w):=sr p D D dc u pos f a c w (DW.refl hw) g h b d e hu hw
end Go.Proofs.YtkochlhejabdcaaGreatDoor
