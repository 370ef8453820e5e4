import Derived.Test.YtdkmnkjhhhmglaaGreatDoorYae
set_option maxRecDepth 100000
set_option maxHeartbeats 8000000
set_option linter.all false
namespace Go.Proofs.YtdkmnkjhhhmglaaGreatDoor
open Go.RowKit TS
theorem jv(p:Pm)(D:Dl)(dc:Nat)(u:U)(pos f:Nat)(a:Option Addr)(c:Nat)(w:World)(z:Pl D.len u pos f)(hf:f≤2)(L:f≠0)(M:u.k≠12)(N:u.k≠13)(hu:ak p D u a c)(hw:KW p w):
 Calls Tryz.prog 11 #[.slice D.a D.len dc,.agg #[.int .i64 u.k,.int .i64 u.n,.int .i64 u.m,.bool u.v,.string u.nm,.string u.tg,.slice a u.es.length c]] w (RU p D (under u) w):=by
 obtain⟨i,s,j,t⟩:=z.bare hf M N;have I:=fun W hk=>nX p D u pos f a c W z hu hk;by_cases b:(bare u).k=11
 ·obtain⟨⟨PM,O⟩,_,J,B⟩:=i.form.kV b
  obtain⟨x,A⟩:=dD (l:=(bare u).un) (by have:=B L;cases T:(bare u).un with|nil=>exact absurd T this|cons a r=>rw[T]at J;simp at J⊢;exact J);have C:=Lib.hid (jn b A);obtain⟨a0,c0,E⟩:=hu.bare z;obtain⟨db,d,a',c',V,h7,P⟩:=yV i A b E rfl;obtain⟨Da,Dn⟩:=D;simp only at V O;subst V;have F:((bare u).k==11)=true:=by simp[b]
  clear i t s j J B b z E A;generalize bare u=v at*;go_enter Tryz.func11,Tryz.ntmps11;go_wp2_with fail
  refine(I _ ((hw.alloc _).alloc _)).mono ?_;rintro X g ⟨K,c1,rfl,y,aa⟩;obtain⟨q,G⟩:=j_ aa;have H:=((hw.alloc _).alloc _).grown aa;clear I;obtain⟨g0,g1,g2,g3,g4,g5,g6⟩:=h7.world H;have PN:=H.lt h7.1;have Y:db<w.heap.size:=hw.lt h7.1;clear h7;obtain⟨Z,l1,l2,l3,l4,l5,l6⟩:=((jm w u a c 25).alloc _).below aa;go_wp2_with fail
  refine bodyPost_ret (v:= .agg #[.int .i64 x.k,.int .i64 x.n,.int .i64 x.m,.bool x.v,.string x.nm,.string x.tg,.slice a' x.es.length c']) (by simp[results,Tryz.results11,go_sem,q]) rfl ?_;rw[C.out];have e:=(((Below.refl w.heap.size w).alloc (Nat.le_refl _) _).alloc (by simp) _).trans (aa.mono (by simp;omega));refine⟨p,a',c',rfl,.refl _ _,?_,P,?_⟩
  ·refine hw.grown ?_
   repeat(refine Below.setCell ?_ (by simp) _)
   exact e
  ·repeat(refine Below.setCell ?_ (by simp) _)
   exact e
 ·by_cases h:(bare u).k=15
  ·have A:=i.form.sT h
   have C:=Lib.hid (jo h A);have F:((bare u).k==11)=false:=by simp[b]
   have Q:((bare u).k==15)=true:=by simp[h]
   clear i t s j b h z A;generalize bare u=v at*;go_enter Tryz.func11,Tryz.ntmps11;go_wp2_with fail
   refine(I _ ((hw.alloc _).alloc _)).mono ?_;rintro X g ⟨K,c1,rfl,y,aa⟩;obtain⟨q,G⟩:=j_ aa;obtain⟨Z,l1,l2,l3,l4,l5,l6⟩:=((jm w u a c 25).alloc _).below aa;have hz:w.heap.size+1<g.heap.size:=by have:=aa.size;simp at this;omega
   obtain⟨r0,r1,r2,r3,r4,r5,r6⟩:=(yR (w.alloc _) 25).below aa;simp only[World.size_alloc,cg,U.k,U.n,U.m,U.v,U.nm,U.tg,U.es]at r0 r1 r2 r3 r4 r5 r6;have R:w.heap.size<g.heap.size:=by omega
   have S:w.heap.size<g.heap.size+1:=by omega
   have PO:w.heap.size<g.heap.size+1+1:=by omega
   go_wp2_with fail
   refine bodyPost_ret (v:= .agg #[.int .i64 aI.k,.int .i64 aI.n,.int .i64 aI.m,.bool aI.v,.string aI.nm,.string aI.tg,.slice (some ⟨g.heap.size+1+1,0,none⟩) aI.es.length 1]) (by simp[results,Tryz.results11,go_sem,r0,r1,r2,r3,r4,r5,r6,hz,R,S];exact⟨rfl,rfl,rfl,rfl,rfl,rfl,rfl⟩) rfl ?_;rw[C.out];have e:=(((Below.refl w.heap.size w).alloc (Nat.le_refl _) _).alloc (by simp) _).trans (aa.mono (by simp;omega));have d1:∀o,p (g.heap.size+1) o=none:=fun o=>hw.aJ (by omega) o;have d2:∀o,p (g.heap.size+1+1) o=none:=fun o=>hw.aJ (by omega) o;have d3:∀o,p (w.heap.size+1) o=none:=fun o=>hw.aJ (by omega) o;have d4:∀cs o,p.add (g.heap.size+1) cs (g.heap.size+1+1) o=none:=fun cs o=>by rw[Pm.aO _ _ _ (by omega)];exact d2 o
   refine⟨(p.add (g.heap.size+1) #[.int .i64 1,.int .i64 16,.int .i64 0,.bool false,.string ⟨#[]⟩,.string ⟨#[]⟩,.slice none 0 0]).add (g.heap.size+1+1) #[.int .i64 7,.int .i64 0,.int .i64 0,.bool false,.string ⟨#[69,114,114,111,114]⟩,.string ⟨#[]⟩,.slice (some ⟨g.heap.size+1,0,none⟩) 1 1],_,_,rfl,(Pm.dC d1 (by omega)).trans (Pm.dC (n:=w.heap.size) (d4 _) (by omega)) (Nat.le_refl _),?_,?_,?_⟩
   ·refine KW.nP (KW.nP ((hw.grown ?_).alloc _) _ _ (by simp)) _ _ (by simp)
    iterate 14 (refine Below.setCell ?_ (by simp) _)
    exact e
   ·refine yU (b1:=g.heap.size+1) ?_ ?_
    ·refine⟨?_,?_,?_,?_,?_,?_,?_⟩<;>(rw[Pm.aO _ _ _ (by omega),Pm.aX];rfl)
    ·refine⟨?_,?_,?_,?_,?_,?_,?_⟩<;>(rw[Pm.aX];rfl)
   ·refine((Below.alloc ?_ (by simp;omega) _).alloc (by simp;omega) _).alloc (by simp;omega) _
    iterate 14 (refine Below.setCell ?_ (by simp) _)
    exact e
  ·have C:=Lib.hid (ik b h)
   have F:((bare u).k==11)=false:=by simp[b]
   have Q:((bare u).k==15)=false:=by simp[h]
   clear i t s j b h z;generalize bare u=v at*;go_enter Tryz.func11,Tryz.ntmps11;go_wp2_with fail
   refine(I _ ((hw.alloc _).alloc _)).mono ?_;rintro X g ⟨K,c1,rfl,y,aa⟩;obtain⟨q,G⟩:=j_ aa;obtain⟨Z,l1,l2,l3,l4,l5,l6⟩:=((jm w u a c 25).alloc _).below aa;go_wp2_with fail
   refine bodyPost_ret (v:= .agg #[.int .i64 v.k,.int .i64 v.n,.int .i64 v.m,.bool v.v,.string v.nm,.string v.tg,.slice K v.es.length c1]) (by simp[results,Tryz.results11,go_sem,q]) rfl ?_;rw[C.out];have e:=(((Below.refl w.heap.size w).alloc (Nat.le_refl _) _).alloc (by simp) _).trans (aa.mono (by simp;omega));refine⟨p,K,c1,rfl,.refl _ _,?_,y,?_⟩
   ·refine hw.grown ?_
    repeat(refine Below.setCell ?_ (by simp) _)
    exact e
   ·repeat(refine Below.setCell ?_ (by simp) _)
    exact e
end Go.Proofs.YtdkmnkjhhhmglaaGreatDoor
