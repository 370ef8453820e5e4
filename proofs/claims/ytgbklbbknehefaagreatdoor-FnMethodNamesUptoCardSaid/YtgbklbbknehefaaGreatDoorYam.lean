import Derived.Test.YtgbklbbknehefaaGreatDoorProg
import Derived.WalkLawsBesides
import Derived.WalkSpells
import Derived.Test.YtgbklbbknehefaaGreatDoorYae
set_option maxRecDepth 100000
set_option maxHeartbeats 8000000
set_option linter.all false
namespace Go.Proofs.YtgbklbbknehefaaGreatDoor
open Go.RowKit TS
theorem vq(p:Pm)(D:Dl)(es:List U)(a:Option Addr)(c g:Nat)(lb:Array Value)(P:U→Bool)(w:World)(hw:KW p w)(s:aw p D es a)(E:(es.length:Int)≤1048576)
 (F:∀args w,(callFunc g args).run Tryz.prog w= .ok (.enter g args) w)
 (H:∀i(h:i<es.length) W a' c',Below w.heap.size w W→ai p D es[i] a' c'→Calls Tryz.prog g (#[.agg #[.int .i64 es[i].k,.int .i64 es[i].n,.int .i64 es[i].m,.bool es[i].v,.string es[i].nm,.string es[i].tg,.slice a' es[i].es.length c']]++lb) W (RB (P es[i]) W)):
 Calls Tryz.prog 44 #[.slice a es.length c,.func (.func g) #[] lb] w fun e q=>(∃k:Nat,e= .returned (.int .i64 k)∧∃h:k<es.length,P es[k]=true)∧Below w.heap.size w q∨(e= .returned (.int .i64 (-1))∧∀x∈es,P x=false)∧Below w.heap.size w q:=by
 have B:=Lib.hid H;clear H;go_enter Tryz.func44,Tryz.ntmps44;go_wp2_with fail
 go_loopw [8] (fun t wr=> ∃k:Nat,k≤es.length∧t= .int .i64 k∧(∀x∈es.take k,P x=false)∧Below w.heap.size w wr) (fun t _=>es.length- (intOf t).toNat)
 case atStart=>exact⟨0,Nat.zero_le _,rfl,by simp,Below.refl _ _⟩
 case round=>
  obtain⟨k,hk,rfl,j,d⟩:=hrel;by_cases f:k<es.length
  ·obtain⟨b,o,rfl⟩:=s.bt (by omega)
   obtain⟨a',c',h7,hu⟩:=s.get k f;have C:=B.out k f wr a' c' d hu;have r:=hw.grown d;generalize u:es[k]=x at*;obtain⟨g0,g1,g2,g3,g4,g5,g6⟩:=h7.world r;clear h7;go_wp2_with fail
   refine C.mono ?_;rintro e q ⟨bb,rfl,z,A⟩;cases bb<;>go_wp2_with fail
   ·go_roundw
    case rel=>
     refine⟨k+1,by omega,by go_num,?_,d.trans (A.mono d.size)⟩;intro y l;rw[List.take_succ_eq_append_getElem f,List.mem_append,List.mem_singleton,u]at l;rcases l with l|rfl
     ·exact j y l
     ·exact z.out.symm
    case measure=>simp[intOf];omega
   ·go_ret
    exact .inl ⟨⟨k,rfl,f,by rw[u];exact z.out.symm⟩,d.trans (A.mono d.size)⟩
  ·go_wp2_with fail
   go_ret;rw[List.take_of_length_le (by omega)]at j;exact .inr ⟨⟨rfl,j⟩,d⟩
theorem kh(p:Pm)(D:Dl)(es:List U)(a:Option Addr)(c g:Nat)(lb:Array Value)(P:U→Bool)(w:World)(hw:KW p w)(j:aw p D es a)(l:(es.length:Int)≤1048576)
 (o:∀args w,(callFunc g args).run Tryz.prog w= .ok (.enter g args) w)
 (H:∀i(h:i<es.length) W a' c',Below w.heap.size w W→ai p D es[i] a' c'→Calls Tryz.prog g (#[.agg #[.int .i64 es[i].k,.int .i64 es[i].n,.int .i64 es[i].m,.bool es[i].v,.string es[i].nm,.string es[i].tg,.slice a' es[i].es.length c']]++lb) W (RB (P es[i]) W)):
 Calls Tryz.prog 18 #[.slice a es.length c,.func (.func g) #[] lb] w (RB (es.any P) w):=by
 have q:=Lib.hid (vq p D es a c g lb P w hw j l o H);clear H;go_enter Tryz.func18,Tryz.ntmps18;go_wp2_with fail
 refine q.out.mono ?_;rintro e s (⟨⟨k,rfl,hk,b⟩,d⟩|⟨⟨rfl,b⟩,d⟩)
 ·have f:Hid (true=es.any P):=(List.any_eq_true.2 ⟨_,List.getElem_mem hk,b⟩).symm
  clear b;go_wp2_with fail
  go_ret;exact⟨_,rfl,f,d⟩
 ·have f:Hid (false=es.any P):=(List.any_eq_false.2 fun x r=>by simp[b x r]).symm
  clear b;go_wp2_with fail
  go_ret;exact⟨_,rfl,f,d⟩
theorem gK(n:Nat)(p:Pm)(D:Dl)(es:List U)(b:n=es.length)(a:Option Addr)(c g:Nat)(lb:Array Value)(P:U→Bool)(w:World)(hw:KW p w)(d:aw p D es a)(e:(es.length:Int)≤1048576)
 (f:∀args w,(callFunc g args).run Tryz.prog w= .ok (.enter g args) w)
 (H:∀i(h:i<es.length) W a' c',Below w.heap.size w W→ai p D es[i] a' c'→Calls Tryz.prog g (#[.agg #[.int .i64 es[i].k,.int .i64 es[i].n,.int .i64 es[i].m,.bool es[i].v,.string es[i].nm,.string es[i].tg,.slice a' es[i].es.length c']]++lb) W (RB (P es[i]) W)):
 Calls Tryz.prog 18 #[.slice a n c,.func (.func g) #[] lb] w (RB (es.any P) w):=by
 subst b;exact kh p D es a c g lb P w hw d e f H
theorem lH(p:Pm)(D:Dl):∀(u:U)(pos f:Nat)(a:Option Addr)(c:Nat)(w:World),Pl D.len u pos f→ai p D u a c→KW p w→
 Calls Tryz.prog 43 #[.agg #[.int .i64 u.k,.int .i64 u.n,.int .i64 u.m,.bool u.v,.string u.nm,.string u.tg,.slice a u.es.length c]] w fun e C=> ∃a' c',e= .returned (.agg #[.int .i64 (bare u).k,.int .i64 (bare u).n,.int .i64 (bare u).m,.bool (bare u).v,.string (bare u).nm,.string (bare u).tg,.slice a' (bare u).es.length c'])∧ai p D (bare u) a' c'∧Below w.heap.size w C:=by
 intro u;induction u using U.bg with
 |_ u ih=>
  intro pos f a c w j hu hw;by_cases h2:u.k=2
  ·have h1:=j.form.eQ h2
   obtain⟨e,he⟩:=cT h1;have y:=j.part 0 (by omega);have l:=hu.list;have z:u.es[0]'(by omega)=e:=by simp[he]
   obtain⟨b,o,rfl⟩:=l.bt (by omega);obtain⟨a',c',h7,q⟩:=l.get 0 (by omega);have G:=l.lt (by omega) hw;simp only[z,Nat.zero_mul,Nat.add_zero]at*;obtain⟨g0,g1,g2,g3,g4,g5,g6⟩:=h7.world hw;have A:=fun W hk=>ih e (U.au (by rw[he];simp)) _ _ a' c' W y q hk;have g:=Lib.hid (iR h2 he);have h:(u.k==2)=true:=by simp[h2]
   have H:(0:Int)<u.es.length:=by omega
   clear h2 h1 j y z h7;have E:=Lib.hid he;clear he ih;have r:=Lib.hid A;clear A;go_enter Tryz.func43,Tryz.ntmps43;go_wp2_with fail
   refine(r.out _ ((hw.alloc _).alloc _)).mono ?_;rintro I J ⟨B,c1,rfl,s,aa⟩;obtain⟨t,F⟩:=iQ aa;go_wp2_with fail
   refine bodyPost_ret (v:= .agg #[.int .i64 (bare e).k,.int .i64 (bare e).n,.int .i64 (bare e).m,.bool (bare e).v,.string (bare e).nm,.string (bare e).tg,.slice B (bare e).es.length c1]) (by simp[results,Tryz.results43,go_sem,t]) rfl ?_;rw[g.out];refine⟨B,c1,rfl,s,?_⟩;have x:=(((Below.refl w.heap.size w).alloc (Nat.le_refl _) _).alloc (by simp) _).trans (aa.mono (by simp;omega));repeat(refine Below.setCell ?_ (by simp) _)
   exact x
  ·by_cases d:u.k=14
   ·have h:(u.k==2)=false:=by simp[h2]
    have i:(u.k==14)=true:=by simp[d]
    have g:=Lib.hid (gd d);clear h2 d;go_enter Tryz.func43,Tryz.ntmps43;go_wp2_with fail
    refine bodyPost_ret (v:= .agg #[.int .i64 br.k,.int .i64 br.n,.int .i64 br.m,.bool br.v,.string br.nm,.string br.tg,.slice none br.es.length 0]) (by simp[results,Tryz.results43,go_sem];exact⟨rfl,rfl,rfl,rfl,rfl,rfl,rfl⟩) rfl ?_;rw[g.out];exact⟨none,0,rfl,pS _ _,((Below.refl _ _).alloc (Nat.le_refl _) _).alloc (by simp) _⟩
   ·have h:(u.k==2)=false:=by simp[h2]
    have i:(u.k==14)=false:=by simp[d]
    have g:=Lib.hid (ca h2 d);clear h2 d;go_enter Tryz.func43,Tryz.ntmps43;go_wp2_with fail
    refine bodyPost_ret (v:= .agg #[.int .i64 u.k,.int .i64 u.n,.int .i64 u.m,.bool u.v,.string u.nm,.string u.tg,.slice a u.es.length c]) (by simp[results,Tryz.results43,go_sem]) rfl ?_;rw[g.out];exact⟨a,c,rfl,hu,((Below.refl _ _).alloc (Nat.le_refl _) _).alloc (by simp) _⟩
theorem ik(p:Pm)(D:Dl)(dc:Nat)(u:U)(pos f:Nat)(a:Option Addr)(c:Nat)(w:World)(z:Pl D.len u pos f)(hf:f≤2)(L:f≠0)(M:u.k≠12)(N:u.k≠13)(hu:ai p D u a c)(hw:KW p w):
 Calls Tryz.prog 15 #[.slice D.a D.len dc,.agg #[.int .i64 u.k,.int .i64 u.n,.int .i64 u.m,.bool u.v,.string u.nm,.string u.tg,.slice a u.es.length c]] w (RU p D (under u) w):=by
 obtain⟨i,s,j,t⟩:=z.bare hf M N;have I:=fun W hk=>lH p D u pos f a c W z hu hk;by_cases b:(bare u).k=11
 ·obtain⟨⟨P4,O⟩,_,J,B⟩:=i.form.jw b
  obtain⟨x,A⟩:=cT (l:=(bare u).un) (by have:=B L;cases T:(bare u).un with|nil=>exact absurd T this|cons a r=>rw[T]at J;simp at J⊢;exact J);have C:=Lib.hid (gY b A);obtain⟨a0,c0,E⟩:=hu.bare z;obtain⟨db,d,a',c',V,h7,P⟩:=uT i A b E rfl;obtain⟨Da,Dn⟩:=D;simp only at V O;subst V;have F:((bare u).k==11)=true:=by simp[b]
  clear i t s j J B b z E A;generalize bare u=v at*;go_enter Tryz.func15,Tryz.ntmps15;go_wp2_with fail
  refine(I _ ((hw.alloc _).alloc _)).mono ?_;rintro X g ⟨K,c1,rfl,y,aa⟩;obtain⟨q,G⟩:=iQ aa;have H:=((hw.alloc _).alloc _).grown aa;clear I;obtain⟨g0,g1,g2,g3,g4,g5,g6⟩:=h7.world H;have P5:=H.lt h7.1;have Y:db<w.heap.size:=hw.lt h7.1;clear h7;obtain⟨Z,l1,l2,l3,l4,l5,l6⟩:=((gW w u a c 25).alloc _).below aa;go_wp2_with fail
  refine bodyPost_ret (v:= .agg #[.int .i64 x.k,.int .i64 x.n,.int .i64 x.m,.bool x.v,.string x.nm,.string x.tg,.slice a' x.es.length c']) (by simp[results,Tryz.results15,go_sem,q]) rfl ?_;rw[C.out];have e:=(((Below.refl w.heap.size w).alloc (Nat.le_refl _) _).alloc (by simp) _).trans (aa.mono (by simp;omega));refine⟨p,a',c',rfl,.refl _ _,?_,P,?_⟩
  ·refine hw.grown ?_
   repeat(refine Below.setCell ?_ (by simp) _)
   exact e
  ·repeat(refine Below.setCell ?_ (by simp) _)
   exact e
 ·by_cases h:(bare u).k=15
  ·have A:=i.form.pT h
   have C:=Lib.hid (gZ h A);have F:((bare u).k==11)=false:=by simp[b]
   have Q:((bare u).k==15)=true:=by simp[h]
   clear i t s j b h z A;generalize bare u=v at*;go_enter Tryz.func15,Tryz.ntmps15;go_wp2_with fail
   refine(I _ ((hw.alloc _).alloc _)).mono ?_;rintro X g ⟨K,c1,rfl,y,aa⟩;obtain⟨q,G⟩:=iQ aa;obtain⟨Z,l1,l2,l3,l4,l5,l6⟩:=((gW w u a c 25).alloc _).below aa;have hz:w.heap.size+1<g.heap.size:=by have:=aa.size;simp at this;omega
   obtain⟨r0,r1,r2,r3,r4,r5,r6⟩:=(uO (w.alloc _) 25).below aa;simp only[World.size_alloc,bP,U.k,U.n,U.m,U.v,U.nm,U.tg,U.es]at r0 r1 r2 r3 r4 r5 r6;have R:w.heap.size<g.heap.size:=by omega
   have S:w.heap.size<g.heap.size+1:=by omega
   have P6:w.heap.size<g.heap.size+1+1:=by omega
   go_wp2_with fail
   refine bodyPost_ret (v:= .agg #[.int .i64 aF.k,.int .i64 aF.n,.int .i64 aF.m,.bool aF.v,.string aF.nm,.string aF.tg,.slice (some ⟨g.heap.size+1+1,0,none⟩) aF.es.length 1]) (by simp[results,Tryz.results15,go_sem,r0,r1,r2,r3,r4,r5,r6,hz,R,S];exact⟨rfl,rfl,rfl,rfl,rfl,rfl,rfl⟩) rfl ?_;rw[C.out];have e:=(((Below.refl w.heap.size w).alloc (Nat.le_refl _) _).alloc (by simp) _).trans (aa.mono (by simp;omega));have d1:∀o,p (g.heap.size+1) o=none:=fun o=>hw.aG (by omega) o;have d2:∀o,p (g.heap.size+1+1) o=none:=fun o=>hw.aG (by omega) o;have d3:∀o,p (w.heap.size+1) o=none:=fun o=>hw.aG (by omega) o;have d4:∀cs o,p.add (g.heap.size+1) cs (g.heap.size+1+1) o=none:=fun cs o=>by rw[Pm.aJ _ _ _ (by omega)];exact d2 o
   refine⟨(p.add (g.heap.size+1) #[.int .i64 1,.int .i64 16,.int .i64 0,.bool false,.string ⟨#[]⟩,.string ⟨#[]⟩,.slice none 0 0]).add (g.heap.size+1+1) #[.int .i64 7,.int .i64 0,.int .i64 0,.bool false,.string ⟨#[69,114,114,111,114]⟩,.string ⟨#[]⟩,.slice (some ⟨g.heap.size+1,0,none⟩) 1 1],_,_,rfl,(Pm.cW d1 (by omega)).trans (Pm.cW (n:=w.heap.size) (d4 _) (by omega)) (Nat.le_refl _),?_,?_,?_⟩
   ·refine KW.lu (KW.lu ((hw.grown ?_).alloc _) _ _ (by simp)) _ _ (by simp)
    iterate 14 (refine Below.setCell ?_ (by simp) _)
    exact e
   ·refine uS (b1:=g.heap.size+1) ?_ ?_
    ·refine⟨?_,?_,?_,?_,?_,?_,?_⟩<;>(rw[Pm.aJ _ _ _ (by omega),Pm.aQ];rfl)
    ·refine⟨?_,?_,?_,?_,?_,?_,?_⟩<;>(rw[Pm.aQ];rfl)
   ·refine((Below.alloc ?_ (by simp;omega) _).alloc (by simp;omega) _).alloc (by simp;omega) _
    iterate 14 (refine Below.setCell ?_ (by simp) _)
    exact e
  ·have C:=Lib.hid (gh b h)
   have F:((bare u).k==11)=false:=by simp[b]
   have Q:((bare u).k==15)=false:=by simp[h]
   clear i t s j b h z;generalize bare u=v at*;go_enter Tryz.func15,Tryz.ntmps15;go_wp2_with fail
   refine(I _ ((hw.alloc _).alloc _)).mono ?_;rintro X g ⟨K,c1,rfl,y,aa⟩;obtain⟨q,G⟩:=iQ aa;obtain⟨Z,l1,l2,l3,l4,l5,l6⟩:=((gW w u a c 25).alloc _).below aa;go_wp2_with fail
   refine bodyPost_ret (v:= .agg #[.int .i64 v.k,.int .i64 v.n,.int .i64 v.m,.bool v.v,.string v.nm,.string v.tg,.slice K v.es.length c1]) (by simp[results,Tryz.results15,go_sem,q]) rfl ?_;rw[C.out];have e:=(((Below.refl w.heap.size w).alloc (Nat.le_refl _) _).alloc (by simp) _).trans (aa.mono (by simp;omega));refine⟨p,K,c1,rfl,.refl _ _,?_,y,?_⟩
   ·refine hw.grown ?_
    repeat(refine Below.setCell ?_ (by simp) _)
    exact e
   ·repeat(refine Below.setCell ?_ (by simp) _)
    exact e
theorem ar{a b:Int}(h:a≠b):(a==b)=false:=by simp[h]
theorem dA{a b:Int}(h:a=b):(a==b)=true:=by simp[h]
theorem nB(a b c d e f g:Value)(w:World):(Instr.field 25 (.agg #[a,b,c,d,e,f,g]) 0).run Tryz.prog w= .ok a w:=by kernel_rfl
theorem gl(p:Pm)(D:Dl)(dc:Nat)(u:U)(pos f:Nat)(a:Option Addr)(c:Nat)(w:World)(x:Pl D.len u pos f)(C:f≤2)(g:f≠0)(h:u.k≠12)(i:u.k≠13)(hu:ai p D u a c)(hw:KW p w):
 Calls Tryz.prog 17 #[.slice D.a D.len dc,.agg #[.int .i64 u.k,.int .i64 u.n,.int .i64 u.m,.bool u.v,.string u.nm,.string u.tg,.slice a u.es.length c]] w (RB (isIface u) w):=by
 have j:=fun W hk=>ik p D dc u pos f a c W x C g h i hu hk;by_cases b:(under u).k=10
 ·have l:Hid (true=isIface u):=by simp[Hid,isIface,b]
  have bC:=dA b;clear b h i g x;generalize under u=v at*;go_enter Tryz.func17,Tryz.ntmps17;go_wp2_with fail
  refine(j _ (hw.alloc _)).mono ?_;rintro z o ⟨q,A,c1,rfl,B,r,s,aa⟩;clear j;have t:=nB;go_wp2_with fail
  go_ret;have e:Below w.heap.size w o:=Below.trans ((Below.refl w.heap.size w).alloc (Nat.le_refl _) _) (aa.mono (by simp));exact⟨_,rfl,l,e⟩
 ·by_cases d:(under u).k=16
  ·have l:Hid (true=isIface u):=by simp[Hid,isIface,d]
   have bC:=ar b;have y:=dA d;clear b h i g x d;generalize under u=v at*;go_enter Tryz.func17,Tryz.ntmps17;go_wp2_with fail
   refine(j _ (hw.alloc _)).mono ?_;rintro z o ⟨q,A,c1,rfl,B,r,s,aa⟩;clear j;have t:=nB;go_wp2_with fail
   go_ret;have e:Below w.heap.size w o:=Below.trans ((Below.refl w.heap.size w).alloc (Nat.le_refl _) _) (aa.mono (by simp));exact⟨_,rfl,l,e⟩
  ·have l:Hid (false=isIface u):=by simp[Hid,isIface,d,b]
   have bC:=ar b;have y:=ar d;clear b h i g x d;generalize under u=v at*;go_enter Tryz.func17,Tryz.ntmps17;go_wp2_with fail
   refine(j _ (hw.alloc _)).mono ?_;rintro z o ⟨q,A,c1,rfl,B,r,s,aa⟩;clear j;have t:=nB;go_wp2_with fail
   go_ret;have e:Below w.heap.size w o:=Below.trans ((Below.refl w.heap.size w).alloc (Nat.le_refl _) _) (aa.mono (by simp));exact⟨_,rfl,l,e⟩
theorem iZ(n m:Int)(w:World):Calls Tryz.prog 54 #[.int .i64 n,.int .i64 m] w (RQ (decide (0≤n)&&decide (n<m)) w):=by
 obtain⟨r,hr⟩:∃r,r=(decide (0≤n)&&decide (n<m)):=⟨_,rfl⟩
 rw[←hr];by_cases b:0≤n
 ·by_cases h1:n<m
  ·have a:Hid (true=r):=by simp[Hid,b,h1,hr]
   clear hr;go_enter Tryz.func54,Tryz.ntmps54;go_wp2_with fail
   go_ret;exact⟨_,rfl,a,rfl⟩
  ·have a:Hid (false=r):=by simp[Hid,b,hr];omega
   have c:m≤n:=by omega
   clear hr;go_enter Tryz.func54,Tryz.ntmps54;go_wp2_with fail
   go_ret;exact⟨_,rfl,a,rfl⟩
 ·have a:Hid (false=r):=by simp[Hid,hr];omega
  have d:n<0:=by omega
  clear hr;go_enter Tryz.func54,Tryz.ntmps54;go_wp2_with fail
  go_ret;exact⟨_,rfl,a,rfl⟩
def fR(i:Nat)(c:UInt8):Bool:=j7 c||(97≤c&&c≤122&&i !=0)
theorem lI(s:ByteArray):aL s=true↔(∀j(h:j<s.size),fR j s[j]=true)∧1≤s.size∧s.size≤8:=by
 obtain⟨⟨l⟩⟩:=s;show jv l=true↔(∀j(h:j<l.length),fR j l[j]=true)∧1≤l.length∧l.length≤8;cases l with
 |nil=>simp[jv]
 |cons c r=>
  simp only[jv,Bool.and_eq_true,decide_eq_true_eq,List.all_eq_true,List.length_cons];constructor
  ·rintro⟨⟨h1,h2⟩,h3⟩
   refine⟨fun j h=> ?_,by omega,by omega⟩;cases j with
   |zero=>simp[fR,h1]
   |succ j=>
    have:=h2 _ (List.getElem_mem (by simpa using h:j<r.length));simp only[mZ,List.getElem_cons_succ,fR]at this⊢;simpa using this
  ·rintro⟨h1,_,h3⟩
   refine⟨⟨?_,?_⟩,by omega⟩
   ·have:=h1 0 (by simp);simpa [fR]using this
   ·intro x a
    obtain⟨j,b,rfl⟩:=List.getElem_of_mem a;have:=h1 (j+1) (by simpa using b);simp only[mZ,List.getElem_cons_succ,fR]at this⊢;simpa using this
theorem qw(i:Nat)(c:UInt8):fR i c=true↔((65:Int)≤(c.toNat:Int)∧(c.toNat:Int)≤90)∨((97:Int)≤(c.toNat:Int)∧(c.toNat:Int)≤122∧i≠0):=by
 simp only[fR,j7,Bool.or_eq_true,Bool.and_eq_true,decide_eq_true_eq,UInt8.le_iff_toNat_le,bne_iff_ne];have a:(65:UInt8).toNat=65:=rfl;have b:(90:UInt8).toNat=90:=rfl;have d:(97:UInt8).toNat=97:=rfl;have e:(122:UInt8).toNat=122:=rfl;rw[a,b,d,e];omega
theorem ki(s:ByteArray)(w:World)(y:(s.size:Int)≤1048576):Calls Tryz.prog 49 #[.string s] w (RQ (aL s) w):=by
 obtain⟨r,hr⟩:∃r,r=aL s:=⟨_,rfl⟩
 rw[←hr];have d:=Lib.hid hr;clear hr;go_enter Tryz.func49,Tryz.ntmps49;go_wp2_with fail
 go_loop [7] (fun i=> ∃k:Nat,k≤s.size∧i= .int .i64 k∧∀j(h:j<k)(l:j<s.size),fR j s[j]=true) (fun i=>s.size- (intOf i).toNat)
 case atStart=>exact⟨0,Nat.zero_le _,rfl,fun j h=>by omega⟩
 case round=>
  obtain⟨k,hk,rfl,f⟩:=hrel;by_cases m:k<s.size
  ·have z:=s[k].toNat_lt
   have b:=Lib.hid f;clear f;by_cases hO:fR k s[k]=true
   ·have c:Hid (∀j(h:j<k+1)(l:j<s.size),fR j s[j]=true):=fun j h l=>by
     by_cases e:j=k
     ·subst e;exact hO
     ·exact b.out j (by omega) l
    rw[qw]at hO;rcases hO with⟨h1,h2⟩|⟨h1,h2,h3⟩
    ·have u:¬(s[k].toNat:Int)<65:=by omega
     have n:¬90<(s[k].toNat:Int):=by omega
     have o:(s[k].toNat:Int)<97:=by omega
     go_wp2_with fail
     go_round
     case rel=>exact⟨k+1,by omega,by go_num,c.out⟩
     case measure=>simp[intOf];omega
    ·have u:¬(s[k].toNat:Int)<65:=by omega
     have n:90<(s[k].toNat:Int):=by omega
     have o:((k:Int)==0)=false:=by simp;omega
     go_wp2_with fail
     go_round
     case rel=>exact⟨k+1,by omega,by go_num,c.out⟩
     case measure=>simp[intOf];omega
   ·have hF:Hid (false=r):=by
     unfold Hid;cases a:r
     ·rfl
     ·rw[d.out,lI]at a
      exact absurd (a.1 k m) hO
    rw[qw]at hO;by_cases h1:(s[k].toNat:Int)<65
    ·have o:(s[k].toNat:Int)<97:=by omega
     go_wp2_with fail
     go_ret;exact⟨_,rfl,hF,rfl⟩
    ·have h2:90<(s[k].toNat:Int):=by omega
     by_cases h3:(s[k].toNat:Int)<97
     ·clear hO
      go_wp2_with fail
      go_ret;exact⟨_,rfl,hF,rfl⟩
     ·by_cases u:(s[k].toNat:Int)≤122
      ·have n:k=0:=by omega
       have o:((k:Int)==0)=true:=by simp;omega
       clear hO n;have p:(97:Int)≤s[k].toNat:=by omega
       go_wp2_with fail
       go_ret;exact⟨_,rfl,hF,rfl⟩
      ·have p:(97:Int)≤s[k].toNat:=by omega
       have v:(122:Int)<s[k].toNat:=by omega
       clear hO;go_wp2_with fail
       go_ret;exact⟨_,rfl,hF,rfl⟩
  ·have g:k=s.size:=by omega
   have b:=Lib.hid f;clear f;by_cases h1:1≤s.size
   ·have q:(1:Int)≤s.size:=by omega
    by_cases x:s.size≤8
    ·have t:(s.size:Int)≤8:=by omega
     have hT:Hid (true=r):=by
      unfold Hid;rw[d.out];symm;rw[lI];exact⟨fun j h=>b.out j (by omega) h,h1,x⟩
     clear g;go_wp2_with fail
     go_ret;exact⟨_,rfl,hT,rfl⟩
    ·have t:¬(s.size:Int)≤8:=by omega
     have hT:Hid (false=r):=by
      unfold Hid;cases a:r
      ·rfl
      ·rw[d.out,lI]at a;omega
     clear g;go_wp2_with fail
     go_ret;exact⟨_,rfl,hT,rfl⟩
   ·have q:(s.size:Int)<1:=by omega
    have hT:Hid (false=r):=by
     unfold Hid;cases a:r
     ·rfl
     ·rw[d.out,lI]at a;omega
    clear g;go_wp2_with fail
    go_ret;exact⟨_,rfl,hT,rfl⟩
def cH(p:Pm)(D:Dl)(dc:Nat)(u:U):Prop:=
 ∀(q:Pc)(a:Option Addr)(c:Nat)(w:World),ai p D u a c→KW p w→
  Calls Tryz.prog 27 #[.slice D.a D.len dc,.agg #[.int .i64 u.k,.int .i64 u.n,.int .i64 u.m,.bool u.v,.string u.nm,.string u.tg,.slice a u.es.length c],.agg #[.int .i64 q.d,.bool q.v,.bool q.t]] w (RB (ah D.len u q .type) w)
theorem vs(p:Pm)(D:Dl)(dc:Nat)(u:U)(q:Pc)(a:Option Addr)(c:Nat)(w:World)(j:cH p D dc u)(hu:ai p D u a c)(hw:KW p w)(i f:Nat)
 (h1:w.cell? ⟨i,0,none⟩=some (.slice D.a D.len dc))(h2:w.cell? ⟨f,0,none⟩=some (.int .i64 q.d))(h3:w.cell? ⟨f,1,none⟩=some (.bool q.v))(r:w.cell? ⟨f,2,none⟩=some (.bool q.t)):
 Calls Tryz.prog 97 #[.agg #[.int .i64 u.k,.int .i64 u.n,.int .i64 u.m,.bool u.v,.string u.nm,.string u.tg,.slice a u.es.length c],.pointer (some ⟨i,0,none⟩),.pointer (some ⟨f,0,none⟩)] w (RB (!ah D.len u q .type) w):=by
 have b1:=World.block_lt_of_cell? _ _ h1;have l:=World.block_lt_of_cell? _ _ h2;simp only at b1 l;go_enter Tryz.func97,Tryz.ntmps97;go_wp2_with fail
 refine(j q a c _ hu (hw.alloc _)).mono ?_;rintro s o ⟨b,rfl,g,aa⟩;have e:Below w.heap.size w o:=Below.trans ((Below.refl w.heap.size w).alloc (Nat.le_refl _) _) (aa.mono (by simp));cases b
 ·have h:Hid (true= !ah D.len u q .type):=by have:=g.out;simp[Hid,←this]
  clear g aa;go_wp2_with fail
  go_ret;exact⟨_,rfl,h,e⟩
 ·have h:Hid (false= !ah D.len u q .type):=by have:=g.out;simp[Hid,←this]
  clear g aa;go_wp2_with fail
  go_ret;exact⟨_,rfl,h,e⟩
theorem im(p:Pm)(D:Dl)(dc:Nat)(es:List U)(q:Pc)(a:Option Addr)(c:Nat)(w:World)(m:∀e∈es,cH p D dc e)(o:aw p D es a)(r:(es.length:Int)≤1048576)(hw:KW p w):
 Calls Tryz.prog 55 #[.slice D.a D.len dc,.slice a es.length c,.agg #[.int .i64 q.d,.bool q.v,.bool q.t]] w (RB (es.all fun e=>ah D.len e q .type) w):=by
 have s:∀args w,(callFunc 97 args).run Tryz.prog w= .ok (.enter 97 args) w:=dI Tryz.func97 (by kernel_rfl) rfl;have u:=Lib.hid fun W (x:KW p W) lb H=>kh p D es a c 97 lb (fun e=> !ah D.len e q .type) W x o r s H;have n:es.any (fun e=> !ah D.len e q .type)= !es.all fun e=>ah D.len e q .type:=j_ _ _;have g:=Lib.hid n;clear n;have y:∀(fn:Fn)(first cap:Array Value)(w:World),(Instr.makeFunc fn first cap).run Tryz.prog w= .ok (.func fn first cap) w:=fun _ _ _ _=>rfl;go_enter Tryz.func55,Tryz.ntmps55;go_wp2_with fail
 refine(u.out _ ((hw.alloc _).alloc _) _ ?_).mono ?_
 ·intro i hi W a' c' f k
  refine vs p D dc es[i] q a' c' W (m _ (List.getElem_mem hi)) k (((hw.alloc _).alloc _).grown f) _ _ (cell_kept f (by simp)) (cell_kept f (by simp)) (cell_kept f (by simp)) (cell_kept f (by simp))
 rintro A z ⟨b,rfl,j,aa⟩;clear m;have h:Below w.heap.size w z:=Below.trans (((Below.refl w.heap.size w).alloc (Nat.le_refl _) _).alloc (by simp) _) (aa.mono (by simp;omega));cases b
 ·have l:Hid (true=es.all fun e=>ah D.len e q .type):=by have:=j.out;rw[g.out]at this;unfold Hid;simpa using this
  clear j aa;go_wp2_with fail
  go_ret;exact⟨_,rfl,l,h⟩
 ·have l:Hid (false=es.all fun e=>ah D.len e q .type):=by have:=j.out;rw[g.out]at this;unfold Hid;simpa using this
  clear j aa;go_wp2_with fail
  go_ret;exact⟨_,rfl,l,h⟩
end Go.Proofs.YtgbklbbknehefaaGreatDoor
