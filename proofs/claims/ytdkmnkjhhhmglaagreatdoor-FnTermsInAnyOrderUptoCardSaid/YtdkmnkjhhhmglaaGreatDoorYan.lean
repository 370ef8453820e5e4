import Derived.BigQuiet
import Derived.Deep.QuietTactic
import Derived.StillTailTactics
import Derived.Test.YtdkmnkjhhhmglaaGreatDoorYai
import Derived.Test.YtdkmnkjhhhmglaaGreatDoorYaj
set_option maxRecDepth 100000
set_option maxHeartbeats 8000000
set_option linter.all false
namespace Go.Proofs.YtdkmnkjhhhmglaaGreatDoor
open Go.RowKit TS
theorem qj{len:Nat}{u:U}{q:Pc}(h:u.k=13):ah len u q .term=(decide (u.es.length=1)&&u.es.all fun e=>ah len e q .type):=by
 rw[ah];simp only[h,if_true];simp
theorem qk{len:Nat}{u:U}{q:Pc}(h:u.k≠13):ah len u q .term=ah len u q .type:=by
 rw[ah];simp only[h,if_false]
theorem nZ{len:Nat}{u:U}{q:Pc}(h:u.k=12):ah len u q .elem=(decide (2≤u.es.length)&&decide (u.es.length≤8)&&u.es.all fun e=>ah len e q .term):=by
 rw[ah];simp only[h,if_true];simp
theorem ql{len:Nat}{u:U}{q:Pc}(h:u.k≠12):ah len u q .elem=ah len u q .term:=by
 rw[ah,ah.eq_def len u q .term];simp only[h,if_false]
theorem tK(p:Pm)(D:Dl)(dc:Nat)(u:U)(q:Pc)(a:Option Addr)(c:Nat)(w:World)(l:c_ p D dc u)(g:∀e∈u.es,c_ p D dc e)(hu:ak p D u a c)(hw:KW p w):
 Calls Tryz.prog 157 #[.slice D.a D.len dc,.agg #[.int .i64 u.k,.int .i64 u.n,.int .i64 u.m,.bool u.v,.string u.nm,.string u.tg,.slice a u.es.length c],.agg #[.int .i64 q.d,.bool q.v,.bool q.t]] w (RB (ah D.len u q .term) w):=by
 by_cases f:u.k=13
 ·have r:=dX f
  have hT:=qj (len:=D.len) (q:=q) f;by_cases h1:u.es.length=1
  ·obtain⟨e,he⟩:=dD h1
   have y:u.es[0]'(by omega)=e:=by simp[he]
   obtain⟨b,o,rfl⟩:=hu.list.bN (by omega);obtain⟨a',c',h7,s⟩:=hu.list.get 0 (by omega);have G:=hu.list.lt (by omega) hw;simp only[y,Nat.zero_mul,Nat.add_zero]at*;obtain⟨g0,g1,g2,g3,g4,g5,g6⟩:=h7.world hw;have B:=g e (by rw[he];simp) q a' c';have h:Hid (ah D.len u q .term=ah D.len e q .type):=by rw[hT];simp[Hid,he]
   have C:((u.es.length:Int)==1)=true:=by simp[h1]
   have H:(0:Int)<u.es.length:=by omega
   clear hT h1 g l y h7 f;have E:=Lib.hid he;clear he;rw[h.out];go_enter Tryz.func157,Tryz.ntmps157;go_wp2_with fail
   have I:0<u.es.length:=by omega
   have ag:Up p w ((w.alloc (.cells #[.int .i64 u.k,.int .i64 u.n,.int .i64 u.m,.bool u.v,.string u.nm,.string u.tg,.slice (some ⟨b,o,none⟩) u.es.length c] 25)).alloc (.cells #[.int .i64 q.d,.bool q.v,.bool q.t] 54)):=((Up.refl hw).alloc _).alloc _
   refine oR (fun W=>W.cell? ⟨w.heap.size,6,none⟩=some (.slice (some ⟨b,o,none⟩) u.es.length c)∧(W.cell? ⟨w.heap.size+1,0,none⟩=some (.int .i64 q.d)∧W.cell? ⟨w.heap.size+1,1,none⟩=some (.bool q.v)∧W.cell? ⟨w.heap.size+1,2,none⟩=some (.bool q.t))∧(W.cell? ⟨b,o,none⟩=some (.int .i64 e.k)∧W.cell? ⟨b,o+1,none⟩=some (.int .i64 e.n)∧W.cell? ⟨b,o+2,none⟩=some (.int .i64 e.m)∧W.cell? ⟨b,o+3,none⟩=some (.bool e.v)∧W.cell? ⟨b,o+4,none⟩=some (.string e.nm)∧W.cell? ⟨b,o+5,none⟩=some (.string e.tg)∧W.cell? ⟨b,o+6,none⟩=some (.slice a' e.es.length c'))∧Up p w W)
    [(0,true),(1,true),(2,true),(3,true),(4,true),(5,true),(6,true),(7,true),(8,true),(9,true),(10,true),(11,false),(12,true),(13,true)] oK (fun j=> ?_)
   repeat(first|(refine oS ?_;try simp only[Act.put,oa,ob,oc])|(refine oF j ?_;try simp only[Act.put,oa,ob,oc])|(refine oL fun K z=> ?_;go_simp;first|(go_at_call 31;refine(B _ s (Up.kw (by first|assumption|exact ag.drew))).mono ?_;rintro F A ⟨bb,rfl,i,aa⟩;(try simp only[]);refine z _ _ oK fun j=> ?_;clear z K;try simp only[Act.put,oa,ob,oc])))
   refine ch ?_;go_wp2_with fail
   go_ret;exact⟨_,rfl,i,(ag.drew.step aa).up⟩
  ·have h:Hid (false=ah D.len u q .term):=by rw[hT];simp[Hid,h1]
   have C:((u.es.length:Int)==1)=false:=by simp;omega
   clear hT h1 g l f;have ag:Up p w ((w.alloc (.cells #[.int .i64 u.k,.int .i64 u.n,.int .i64 u.m,.bool u.v,.string u.nm,.string u.tg,.slice a u.es.length c] 25)).alloc (.cells #[.int .i64 q.d,.bool q.v,.bool q.t] 54)):=((Up.refl hw).alloc _).alloc _;go_enter Tryz.func157,Tryz.ntmps157;go_wp2_with fail
   go_quiet (fail)
   go_wp2_with fail
   go_ret;exact⟨_,rfl,h,(ag.drewN _).up⟩
 ·have r:=aA f
  have hT:=Lib.hid (qk (len:=D.len) (q:=q) f);clear f;rw[hT.out];go_enter Tryz.func157,Tryz.ntmps157;go_wp2_with fail
  refine(l q a c _ hu ((hw.alloc _).alloc _)).mono ?_;rintro F A ⟨bb,rfl,i,aa⟩;have x:Below w.heap.size w A:=Below.trans (((Below.refl w.heap.size w).alloc (Nat.le_refl _) _).alloc (by simp) _) (aa.mono (by simp;omega));clear l;go_wp2_with fail
  go_ret;exact⟨_,rfl,i,x⟩
theorem zp(p:Pm)(D:Dl)(dc:Nat)(u:U)(q:Pc)(a:Option Addr)(c:Nat)(w:World)(l:c_ p D dc u)(f:∀e∈u.es,c_ p D dc e)(hu:ak p D u a c)(hw:KW p w)(o h:Nat)
 (h1:w.cell? ⟨o,0,none⟩=some (.slice D.a D.len dc))(h2:w.cell? ⟨h,0,none⟩=some (.int .i64 q.d))(h3:w.cell? ⟨h,1,none⟩=some (.bool q.v))(y:w.cell? ⟨h,2,none⟩=some (.bool q.t)):
 Calls Tryz.prog 158 #[.agg #[.int .i64 u.k,.int .i64 u.n,.int .i64 u.m,.bool u.v,.string u.nm,.string u.tg,.slice a u.es.length c],.pointer (some ⟨o,0,none⟩),.pointer (some ⟨h,0,none⟩)] w (RB (!ah D.len u q .term) w):=by
 have b1:=World.block_lt_of_cell? _ _ h1;have r:=World.block_lt_of_cell? _ _ h2;simp only at b1 r;have hT:=Lib.hid fun W s=>tK p D dc u q a c W l f hu s;clear l f;go_enter Tryz.func158,Tryz.ntmps158;go_wp2_with fail
 refine(hT.out _ (hw.alloc _)).mono ?_;rintro z x ⟨b,rfl,i,aa⟩;have g:Below w.heap.size w x:=Below.trans ((Below.refl w.heap.size w).alloc (Nat.le_refl _) _) (aa.mono (by simp));cases b
 ·have j:Hid (true= !ah D.len u q .term):=by have:=i.out;simp[Hid,←this]
  clear i aa;go_wp2_with fail
  go_ret;exact⟨_,rfl,j,g⟩
 ·have j:Hid (false= !ah D.len u q .term):=by have:=i.out;simp[Hid,←this]
  clear i aa;go_wp2_with fail
  go_ret;exact⟨_,rfl,j,g⟩
theorem zq(p:Pm)(D:Dl)(dc:Nat)(u:U)(q:Pc)(a:Option Addr)(c:Nat)(w:World)(r:c_ p D dc u)(g:∀e∈u.es,c_ p D dc e∧∀J∈e.es,c_ p D dc J)(hu:ak p D u a c)(hw:KW p w):
 Calls Tryz.prog 116 #[.slice D.a D.len dc,.agg #[.int .i64 u.k,.int .i64 u.n,.int .i64 u.m,.bool u.v,.string u.nm,.string u.tg,.slice a u.es.length c],.agg #[.int .i64 q.d,.bool q.v,.bool q.t]] w (RB (ah D.len u q .elem) w):=by
 by_cases f:u.k=12
 ·have A:=dX f
  have hT:=nZ (len:=D.len) (q:=q) f;have h:=hu.cap;have hk:=Lib.hid fun W (B:KW p W) lb H=>mg p D u.es a c 158 lb (fun e=> !ah D.len e q .term) W B hu.list (by omega) (ep Tryz.func158 (by kernel_rfl) rfl) H;rw[lW]at hk;have K:∀(fn:Fn)(first cap:Array Value)(w:World),(Instr.makeFunc fn first cap).run Tryz.prog w= .ok (.func fn first cap) w:=fun _ _ _ _=>rfl;by_cases h2:2≤u.es.length
  ·by_cases y:u.es.length≤8
   ·have j:Hid (ah D.len u q .elem=u.es.all fun e=>ah D.len e q .term):=by rw[hT];simp[Hid,h2,y]
    have I:(2:Int)≤u.es.length:=by omega
    have L:(u.es.length:Int)≤8:=by omega
    clear hT h2 y f h;have s:=Lib.hid g;clear g r;rw[j.out];go_enter Tryz.func116,Tryz.ntmps116;go_wp2_with fail
    refine(hk.out _ (((hw.alloc _).alloc _).alloc _) _ ?_).mono ?_
    ·intro i hi W a' c' l C
     have x:=s.out _ (List.getElem_mem hi);refine zp p D dc u.es[i] q a' c' W x.1 x.2 C ((((hw.alloc _).alloc _).alloc _).grown l) _ (w.heap.size+1+1) (cell_kept l (by simp[go_sem])) (cell_kept l (by simp[go_sem])) (cell_kept l (by simp[go_sem])) (cell_kept l (by simp[go_sem]))
    rintro M E ⟨b,rfl,z,aa⟩;have o:Below w.heap.size w E:=Below.trans ((((Below.refl w.heap.size w).alloc (Nat.le_refl _) _).alloc (by simp) _).alloc (by simp;omega) _) (aa.mono (by simp;omega));cases b
    ·have F:Hid (true=u.es.all fun e=>ah D.len e q .term):=by have:=z.out;unfold Hid;simpa using this
     clear z aa;go_wp2_with fail
     go_ret;exact⟨_,rfl,F,o⟩
    ·have F:Hid (false=u.es.all fun e=>ah D.len e q .term):=by have:=z.out;unfold Hid;simpa using this
     clear z aa;go_wp2_with fail
     go_ret;exact⟨_,rfl,F,o⟩
   ·have j:Hid (false=ah D.len u q .elem):=by rw[hT];simp[Hid,y]
    have I:(2:Int)≤u.es.length:=by omega
    have L:¬(u.es.length:Int)≤8:=by omega
    clear hT h2 y f h g r hk;go_enter Tryz.func116,Tryz.ntmps116;go_wp2_with fail
    go_ret;exact⟨_,rfl,j,((((Below.refl w.heap.size w).alloc (Nat.le_refl _) _).alloc (by simp) _).alloc (by simp;omega) _)⟩
  ·have j:Hid (false=ah D.len u q .elem):=by rw[hT];simp[Hid,h2]
   have I:¬(2:Int)≤u.es.length:=by omega
   clear hT h2 f h g r hk;go_enter Tryz.func116,Tryz.ntmps116;go_wp2_with fail
   go_ret;exact⟨_,rfl,j,((((Below.refl w.heap.size w).alloc (Nat.le_refl _) _).alloc (by simp) _).alloc (by simp;omega) _)⟩
 ·have A:=aA f
  have hT:=Lib.hid (ql (len:=D.len) (q:=q) f);have N:=Lib.hid fun W B=>tK p D dc u q a c W r (fun e he=>(g e he).1) hu B;clear f r g;rw[hT.out];go_enter Tryz.func116,Tryz.ntmps116;go_wp2_with fail
  refine(N.out _ (((hw.alloc _).alloc _).alloc _)).mono ?_;rintro M E ⟨bb,rfl,G,aa⟩;have o:Below w.heap.size w E:=Below.trans ((((Below.refl w.heap.size w).alloc (Nat.le_refl _) _).alloc (by simp) _).alloc (by simp;omega) _) (aa.mono (by simp;omega));go_wp2_with fail
  go_ret;exact⟨_,rfl,G,o⟩
theorem tL(l:List U):eK l=true↔∀i(h:i<l.length),l[i].k=7∧aM l[i].nm=true∧(∀(a:0<i),Go.Op.bytesLess (l[i- 1]'(by omega)).nm.toList l[i].nm.toList=true):=by
 induction l with
 |nil=>simp[eK]
 |cons e r ih=>
  simp only[eK,Bool.and_eq_true,beq_iff_eq,ih];constructor
  ·rintro⟨⟨⟨h7,b⟩,c⟩,hr⟩ i hi
   cases i with
   |zero=>exact⟨h7,b,fun h=>by omega⟩
   |succ i=>
    have:=hr i (by simpa using hi);refine⟨this.1,this.2.1,fun _=> ?_⟩;cases i with
    |zero=>
     cases r with
     |nil=>simp at hi
     |cons d f=>simpa using c
    |succ i=>simpa using this.2.2 (by omega)
  ·intro h
   have a:=h 0 (by simp);refine⟨⟨⟨a.1,a.2.1⟩,?_⟩,fun i hi=> ?_⟩
   ·cases r with
    |nil=>rfl
    |cons d f=>exact(h 1 (by simp)).2.2 (by omega)
   ·have:=h (i+1) (by simpa using hi)
    refine⟨this.1,this.2.1,fun a=> ?_⟩;have h2:=this.2.2 (by omega);obtain⟨j,rfl⟩:∃j,i=j+1:=⟨i- 1,by omega⟩
    simpa using h2
def eL(len:Nat)(u:U)(q:Pc):Bool:=
 b4 u.m (u.es.length+1)&&decide (u.es.length- u.m≤4)&&eK (u.es.take u.m.toNat)&&((u.es.take u.m.toNat).all fun e=>ah len e q.behind .type)&&((u.es.drop u.m.toNat).all fun e=>ah len e q.inside .elem)
theorem zs(p:Pm)(D:Dl)(dc:Nat)(u:U)(q:Pc)(a:Option Addr)(c:Nat)(w:World)(l:c_ p D dc u)(f:∀e∈u.es,c_ p D dc e∧∀r∈e.es,c_ p D dc r)(hu:ak p D u a c)(hw:KW p w)(o h:Nat)
 (h1:w.cell? ⟨o,0,none⟩=some (.slice D.a D.len dc))(h2:w.cell? ⟨h,0,none⟩=some (.int .i64 q.d))(h3:w.cell? ⟨h,1,none⟩=some (.bool q.v))(z:w.cell? ⟨h,2,none⟩=some (.bool q.t)):
 Calls Tryz.prog 115 #[.agg #[.int .i64 u.k,.int .i64 u.n,.int .i64 u.m,.bool u.v,.string u.nm,.string u.tg,.slice a u.es.length c],.pointer (some ⟨o,0,none⟩),.pointer (some ⟨h,0,none⟩)] w (RB (!ah D.len u q .elem) w):=by
 have b1:=World.block_lt_of_cell? _ _ h1;have s:=World.block_lt_of_cell? _ _ h2;simp only at b1 s;have hT:=Lib.hid fun W x=>zq p D dc u q a c W l f hu x;clear l f;go_enter Tryz.func115,Tryz.ntmps115;go_wp2_with fail
 refine(hT.out _ (hw.alloc _)).mono ?_;rintro A y ⟨b,rfl,i,aa⟩;have g:Below w.heap.size w y:=Below.trans ((Below.refl w.heap.size w).alloc (Nat.le_refl _) _) (aa.mono (by simp));cases b
 ·have j:Hid (true= !ah D.len u q .elem):=by have:=i.out;simp[Hid,←this]
  clear i aa;go_wp2_with fail
  go_ret;exact⟨_,rfl,j,g⟩
 ·have j:Hid (false= !ah D.len u q .elem):=by have:=i.out;simp[Hid,←this]
  clear i aa;go_wp2_with fail
  go_ret;exact⟨_,rfl,j,g⟩
theorem qo{len:Nat}{u:U}{q:Pc}{k:Nat}(h:k<u.m.toNat)(hk:k<u.es.length)(bad:u.es[k].k≠7∨aM u.es[k].nm=false∨∃a:0<k,Go.Op.bytesLess (u.es[k- 1]'(by omega)).nm.toList u.es[k].nm.toList=false):eL len u q=false:=by
 cases c:eL len u q
 ·rfl
 ·simp only[eL,Bool.and_eq_true]at c
  have:=(tL _).1 c.1.1.2 k (by simp;omega);simp only[List.getElem_take]at this;rcases bad with b|b|⟨a,b⟩
  ·exact absurd this.1 b
  ·rw[b]at this;exact absurd this.2.1 (by simp)
  ·have h2:=this.2.2 a;rw[b]at h2;cases h2
theorem tM{len:Nat}{u:U}{q:Pc}{k:Nat}(h:k<u.m.toNat)(hk:k<u.es.length)(bad:ah len u.es[k] q.behind .type=false):eL len u q=false:=by
 cases a:eL len u q
 ·rfl
 ·simp only[eL,Bool.and_eq_true]at a
  have:=List.all_eq_true.1 a.1.2 u.es[k] (by rw[List.mem_take_iff_getElem];exact⟨k,by omega,rfl⟩);rw[bad]at this;cases this
theorem tN{l:List U}{k:Nat}(hk:k<l.length)(h:eK (l.take k)=true)(h7:l[k].k=7)(a:aM l[k].nm=true)(b:∀d:0<k,Go.Op.bytesLess (l[k- 1]'(by omega)).nm.toList l[k].nm.toList=true):eK (l.take (k+1))=true:=by
 rw[tL]at h⊢;intro i hi;have c:i<k+1:=by simp at hi;omega
 simp only[List.getElem_take];by_cases e:i=k
 ·subst e;exact⟨h7,a,b⟩
 ·have:=h i (by simp;omega)
  simpa only[List.getElem_take]using this
theorem tO{l:List U}{k:Nat}(hk:k<l.length){f:U→Bool}(h:(l.take k).all f=true)(a:f l[k]=true):(l.take (k+1)).all f=true:=by
 rw[List.take_succ_eq_append_getElem hk,List.all_append,h];simp[a]
theorem zu(p:Pm)(D:Dl)(dc:Nat)(u:U)(q:Pc)(a:Option Addr)(c:Nat)(w:World)(hC:∀u',u'.sz<u.sz→c_ p D dc u')(hu:ak p D u a c)(hw:KW p w):
 Calls Tryz.prog 65 #[.slice D.a D.len dc,.agg #[.int .i64 u.k,.int .i64 u.n,.int .i64 u.m,.bool u.v,.string u.nm,.string u.tg,.slice a u.es.length c],.agg #[.int .i64 q.d,.bool q.v,.bool q.t]] w (RB (eL D.len u q) w):=by
 obtain⟨r,hr⟩:∃r,r=eL D.len u q:=⟨_,rfl⟩
 rw[←hr];have x:=Lib.hid hr;clear hr;have P8:=hu.cap;have hints:=hu.ints;have A:=fun W=>kj u.m (u.es.length+1) W;by_cases hm:0≤u.m∧u.m≤u.es.length
 ·obtain⟨Qc,Qd⟩:=hm
  have R:=fun W=>gm (b:=true) (A W) (by simp;omega);by_cases h4:u.es.length- u.m≤4
  ·have PZ:¬4<u.es.length- u.m:=by omega
   have P0:u.m.toNat≤u.es.length:=by omega
   have Qe:max u.m 0=u.m:=by omega
   clear h4 A;go_enter Tryz.func65,Tryz.ntmps65;go_wp2_with fail
   refine(R _).mono ?_;rintro z C ⟨rfl,rfl⟩;clear R;go_wp2_with fail
   go_loopw [33] (fun i wr=> ∃k:Nat,k≤u.m.toNat∧i= .int .i64 k∧eK (u.es.take k)=true∧((u.es.take k).all fun e=>ah D.len e q.behind .type)=true∧Up p w wr∧
    wr.cell? ⟨w.heap.size,0,none⟩=some (.slice D.a D.len dc)∧(wr.cell? ⟨w.heap.size+1,0,none⟩=some (.int .i64 u.k)∧wr.cell? ⟨w.heap.size+1,1,none⟩=some (.int .i64 u.n)∧wr.cell? ⟨w.heap.size+1,2,none⟩=some (.int .i64 u.m)∧wr.cell? ⟨w.heap.size+1,3,none⟩=some (.bool u.v)∧wr.cell? ⟨w.heap.size+1,4,none⟩=some (.string u.nm)∧wr.cell? ⟨w.heap.size+1,5,none⟩=some (.string u.tg)∧wr.cell? ⟨w.heap.size+1,6,none⟩=some (.slice a u.es.length c))∧(wr.cell? ⟨w.heap.size+1+1,0,none⟩=some (.int .i64 q.d)∧wr.cell? ⟨w.heap.size+1+1,1,none⟩=some (.bool false)∧wr.cell? ⟨w.heap.size+1+1,2,none⟩=some (.bool q.t))∧wr.frozen? ⟨w.heap.size+1+1,1,none⟩=false∧wr.frozen? ⟨w.heap.size+1+1,2,none⟩=false) (fun i _=>u.m.toNat- (intOf i).toNat)
   case atStart=>
    refine⟨0,Nat.zero_le _,rfl,rfl,rfl,((((Up.refl hw).alloc _).alloc _).alloc _),?_⟩;repeat' apply And.intro
    all_goals simp[go_sem]
   case round=>
    obtain⟨k,hk,rfl,hh,hp,hU,c0,⟨l0,l1,l2,l3,l4,l5,l6⟩,⟨q0,q1,q2⟩,z1,z2⟩:=hrel;have P1:=World.block_lt_of_cell? _ _ q0;simp only at P1;have P2:=World.block_lt_of_cell? _ _ c0;simp only at P2;have S:=Lib.hid hh;have T:=Lib.hid hp;clear hh hp;by_cases F:k<u.m.toNat
    ·have PQ:(k:Int)<u.m:=by omega
     have y:k<u.es.length:=by omega
     obtain⟨b,o,rfl⟩:=hu.list.bN (by omega);obtain⟨a',c',h7,B⟩:=hu.list.get k y;have s:=hC u.es[k] (U.az (List.getElem_mem _)) q.behind a' c';obtain⟨e,he⟩:∃e,e=u.es[k]:=⟨_,rfl⟩
     rw[←he]at h7 B s;obtain⟨g0,g1,g2,g3,g4,g5,g6⟩:=h7.world hU.kw;have N:=hU.kw.lt h7.1;have g:=Lib.hid he;clear he;obtain⟨x0,x1,x2,x3,x4,x5,x6⟩:=jm wr e a' c' 25;have ag:=hU.alloc (.cells #[.int .i64 e.k,.int .i64 e.n,.int .i64 e.m,.bool e.v,.string e.nm,.string e.tg,.slice a' e.es.length c'] 25);by_cases E:e.k=7
     ·have k7:(e.k !=7)=false:=by simp[E]
      have O:=Lib.hid E;clear E;cases hn:aM e.nm
      ·have V:=fun W=>sR (mh e.nm W (by have:=B.names;omega)) hn
       have hF:Hid (false=r):=(x.out.trans (qo F y (.inr (.inl (by rw[←g.out];exact hn))))).symm;clear hn s;go_wp2_with fail
       go_quiet ((go_at_call 56;exact Calls.quiet_of_same (V _)))
       go_wp2_with fail
       go_ret;exact⟨_,rfl,hF,(ag.drewN _).up⟩
      ·have V:=fun W=>sR (mh e.nm W (by have:=B.names;omega)) hn
       have PR:=Lib.hid hn;clear hn;rcases Nat.eq_zero_or_pos k with G|G
       ·have hz:decide ((0:Int)<k)=false:=by simp;omega
        have Qf:decide (0<k)=false:=by simp;omega
        have I:=Lib.hid G;clear G;cases h:ah D.len e q.behind .type
        ·have M:=fun W A=>aW (s W B A) h
         have hF:Hid (false=r):=(x.out.trans (tM F y (by rw[←g.out];exact h))).symm;clear h s;go_wp2_with fail
         refine oR (fun W=>(W.cell? ⟨wr.heap.size,0,none⟩=some (.int .i64 e.k)∧W.cell? ⟨wr.heap.size,1,none⟩=some (.int .i64 e.n)∧W.cell? ⟨wr.heap.size,2,none⟩=some (.int .i64 e.m)∧W.cell? ⟨wr.heap.size,3,none⟩=some (.bool e.v)∧W.cell? ⟨wr.heap.size,4,none⟩=some (.string e.nm)∧W.cell? ⟨wr.heap.size,5,none⟩=some (.string e.tg)∧W.cell? ⟨wr.heap.size,6,none⟩=some (.slice a' e.es.length c'))∧W.cell? ⟨w.heap.size+1,6,none⟩=some (.slice (some ⟨b,o,none⟩) u.es.length c)∧
          (W.cell? ⟨w.heap.size,0,none⟩=some (.slice D.a D.len dc))∧(W.cell? ⟨w.heap.size+1+1,0,none⟩=some (.int .i64 q.d)∧W.cell? ⟨w.heap.size+1+1,1,none⟩=some (.bool false)∧W.cell? ⟨w.heap.size+1+1,2,none⟩=some (.bool q.t))∧Up p w W)
          [(0,true),(1,true),(2,true),(3,true),(4,true),(5,true),(6,false),(7,true),(8,true),(9,true),(10,true),(11,true),(12,true),(13,true),(14,true),(15,true),(16,true),(17,true),(18,true),(19,true),(20,true),(21,true),(22,true),(23,true),(24,true),(25,true),(26,true),(27,true),(28,true),(29,false),(30,true),(31,true)] oK (fun f=> ?_)
         repeat(first|(refine oS ?_;try simp only[Act.put,oa,ob,oc])|(refine oF f ?_;try simp only[Act.put,oa,ob,oc])|(refine oL fun K l=> ?_;go_simp;first|(go_at_call 56;refine(V _).mono ?_;rintro z C ⟨rfl,rfl⟩;simp only[];refine l _ _ f (fun f=> ?_);clear l K;try simp only[Act.put,oa,ob,oc])|(go_at_call 31;refine(M _ (Up.kw (by first|assumption|exact ag.drew))).mono ?_;rintro z C ⟨rfl,aa⟩;(try simp only[]);refine l _ _ oK fun f=> ?_;clear l K;try simp only[Act.put,oa,ob,oc])))
         refine ch ?_;go_wp2_with fail
         go_ret;exact⟨_,rfl,hF,(ag.drew.step aa).up⟩
        ·have M:=fun W A=>aW (s W B A) h
         have hA:Hid (((u.es.take (k+1)).all fun e=>ah D.len e q.behind .type)=true):=tO y T.out (by rw[←g.out];exact h);have hH:Hid (eK (u.es.take (k+1))=true):=tN y S.out (by rw[←g.out];exact O.out) (by rw[←g.out];exact PR.out) (fun h0=>by have:=I.out;omega);clear h s;go_wp2_with fail
         refine oR (fun W=>(W.cell? ⟨wr.heap.size,0,none⟩=some (.int .i64 e.k)∧W.cell? ⟨wr.heap.size,1,none⟩=some (.int .i64 e.n)∧W.cell? ⟨wr.heap.size,2,none⟩=some (.int .i64 e.m)∧W.cell? ⟨wr.heap.size,3,none⟩=some (.bool e.v)∧W.cell? ⟨wr.heap.size,4,none⟩=some (.string e.nm)∧W.cell? ⟨wr.heap.size,5,none⟩=some (.string e.tg)∧W.cell? ⟨wr.heap.size,6,none⟩=some (.slice a' e.es.length c'))∧W.cell? ⟨w.heap.size+1,6,none⟩=some (.slice (some ⟨b,o,none⟩) u.es.length c)∧
          (W.cell? ⟨w.heap.size,0,none⟩=some (.slice D.a D.len dc))∧(W.cell? ⟨w.heap.size+1+1,0,none⟩=some (.int .i64 q.d)∧W.cell? ⟨w.heap.size+1+1,1,none⟩=some (.bool false)∧W.cell? ⟨w.heap.size+1+1,2,none⟩=some (.bool q.t))∧Up p w W)
          [(0,true),(1,true),(2,true),(3,true),(4,true),(5,true),(6,false),(7,true),(8,true),(9,true),(10,true),(11,true),(12,true),(13,true),(14,true),(15,true),(16,true),(17,true),(18,true),(19,true),(20,true),(21,true),(22,true),(23,true),(24,true),(25,true),(26,true),(27,true),(28,true),(29,false),(30,true),(31,true)] oK (fun f=> ?_)
         repeat(first|(refine oS ?_;try simp only[Act.put,oa,ob,oc])|(refine oF f ?_;try simp only[Act.put,oa,ob,oc])|(refine oL fun K l=> ?_;go_simp;first|(go_at_call 56;refine(V _).mono ?_;rintro z C ⟨rfl,rfl⟩;simp only[];refine l _ _ f (fun f=> ?_);clear l K;try simp only[Act.put,oa,ob,oc])|(go_at_call 31;refine(M _ (Up.kw (by first|assumption|exact ag.drew))).mono ?_;rintro z C ⟨rfl,aa⟩;(try simp only[]);refine l _ _ oK fun f=> ?_;clear l K;try simp only[Act.put,oa,ob,oc])))
         refine ch ?_;go_wp2_with fail
         go_roundw
         case rel=>
          refine⟨k+1,by omega,by go_num,hH.out,hA.out,ag.drew.step aa,?_⟩;repeat' apply And.intro
          all_goals first|exact cell_kept aa (by first|(simp[go_sem];done)|(go_keep;done))|exact frozen_kept aa (by simp;omega) (by rw[World.frozen?_drew,World.frozen?_alloc_old _ _ _ (by simp;omega)];assumption)
         case measure=>simp[intOf];omega
       ·have PS:k- 1<u.es.length:=by omega
        obtain⟨a2,c2,PT,P3⟩:=hu.list.get (k- 1) PS;clear P3;obtain⟨P,X⟩:∃P,P=u.es[k- 1]'PS:=⟨_,rfl⟩
        rw[←X]at PT;have Q:=Lib.hid X;clear X;have p4:=(PT.world hU.kw).2.2.2.2.1;have I:=Lib.hid G;obtain⟨j,hj⟩:∃j,j=k- 1:=⟨_,rfl⟩
        rw[←hj]at p4;have hz:(0:Int)<k:=by omega
        have Qg:decide ((0:Int)<k)=true:=by simp;omega
        have Qh:decide (0<k)=true:=by simp;omega
        have P9:(0:Int)≤j:=by omega
        have P_:(j:Int)<u.es.length:=by omega
        have Qa:j<u.es.length:=by omega
        have Qi:IntKind.i64.wrap ((k:Int)- 1)=j:=by rw[IntWalk.i64_in _ (by omega)];omega
        have Qj:=Lib.hid hj;clear hj G;cases ho:Go.Op.bytesLess P.nm.toList e.nm.toList
        ·have hF:Hid (false=r):=(x.out.trans (qo F y (.inr (.inr ⟨I.out,by rw[←g.out,←Q.out];exact ho⟩)))).symm
         have M:True:=trivial;clear s;go_wp2_with fail
         refine oR (fun W=>(W.cell? ⟨wr.heap.size,0,none⟩=some (.int .i64 e.k)∧W.cell? ⟨wr.heap.size,1,none⟩=some (.int .i64 e.n)∧W.cell? ⟨wr.heap.size,2,none⟩=some (.int .i64 e.m)∧W.cell? ⟨wr.heap.size,3,none⟩=some (.bool e.v)∧W.cell? ⟨wr.heap.size,4,none⟩=some (.string e.nm)∧W.cell? ⟨wr.heap.size,5,none⟩=some (.string e.tg)∧W.cell? ⟨wr.heap.size,6,none⟩=some (.slice a' e.es.length c'))∧W.cell? ⟨w.heap.size+1,6,none⟩=some (.slice (some ⟨b,o,none⟩) u.es.length c)∧
          (W.cell? ⟨w.heap.size,0,none⟩=some (.slice D.a D.len dc))∧(W.cell? ⟨w.heap.size+1+1,0,none⟩=some (.int .i64 q.d)∧W.cell? ⟨w.heap.size+1+1,1,none⟩=some (.bool false)∧W.cell? ⟨w.heap.size+1+1,2,none⟩=some (.bool q.t))∧W.cell? ⟨b,o+j*7+4,none⟩=some (.string P.nm)∧Up p w W)
          [(0,true),(1,true),(2,true),(3,true),(4,true),(5,true),(6,false),(7,true),(8,true),(9,true),(10,true),(11,true),(12,true),(13,true),(14,true),(15,true),(16,true),(17,true),(18,true),(19,true),(20,true),(21,true),(22,true),(23,true),(24,true),(25,true),(26,true),(27,true),(28,true),(29,false),(30,true),(31,true)] oK (fun f=> ?_)
         repeat(first|(refine oS ?_;try simp only[Act.put,oa,ob,oc])|(refine oF f ?_;try simp only[Act.put,oa,ob,oc])|(refine oL fun K l=> ?_;go_simp;first|(go_at_call 56;refine(V _).mono ?_;rintro z C ⟨rfl,rfl⟩;simp only[];refine l _ _ f (fun f=> ?_);clear l K;try simp only[Act.put,oa,ob,oc])|(go_at_call 31;refine(M _ (Up.kw (by first|assumption|exact ag.drew))).mono ?_;rintro z C ⟨rfl,aa⟩;(try simp only[]);refine l _ _ oK fun f=> ?_;clear l K;try simp only[Act.put,oa,ob,oc])))
         refine ch ?_;go_wp2_with fail
         go_ret;exact⟨_,rfl,hF,(ag.drew).up⟩
        ·have P4:=Lib.hid ho
         cases h:ah D.len e q.behind .type
         ·have M:=fun W A=>aW (s W B A) h
          have hF:Hid (false=r):=(x.out.trans (tM F y (by rw[←g.out];exact h))).symm;clear h s;go_wp2_with fail
          refine oR (fun W=>(W.cell? ⟨wr.heap.size,0,none⟩=some (.int .i64 e.k)∧W.cell? ⟨wr.heap.size,1,none⟩=some (.int .i64 e.n)∧W.cell? ⟨wr.heap.size,2,none⟩=some (.int .i64 e.m)∧W.cell? ⟨wr.heap.size,3,none⟩=some (.bool e.v)∧W.cell? ⟨wr.heap.size,4,none⟩=some (.string e.nm)∧W.cell? ⟨wr.heap.size,5,none⟩=some (.string e.tg)∧W.cell? ⟨wr.heap.size,6,none⟩=some (.slice a' e.es.length c'))∧W.cell? ⟨w.heap.size+1,6,none⟩=some (.slice (some ⟨b,o,none⟩) u.es.length c)∧
           (W.cell? ⟨w.heap.size,0,none⟩=some (.slice D.a D.len dc))∧(W.cell? ⟨w.heap.size+1+1,0,none⟩=some (.int .i64 q.d)∧W.cell? ⟨w.heap.size+1+1,1,none⟩=some (.bool false)∧W.cell? ⟨w.heap.size+1+1,2,none⟩=some (.bool q.t))∧W.cell? ⟨b,o+j*7+4,none⟩=some (.string P.nm)∧Up p w W)
           [(0,true),(1,true),(2,true),(3,true),(4,true),(5,true),(6,false),(7,true),(8,true),(9,true),(10,true),(11,true),(12,true),(13,true),(14,true),(15,true),(16,true),(17,true),(18,true),(19,true),(20,true),(21,true),(22,true),(23,true),(24,true),(25,true),(26,true),(27,true),(28,true),(29,false),(30,true),(31,true)] oK (fun f=> ?_)
          repeat(first|(refine oS ?_;try simp only[Act.put,oa,ob,oc])|(refine oF f ?_;try simp only[Act.put,oa,ob,oc])|(refine oL fun K l=> ?_;go_simp;first|(go_at_call 56;refine(V _).mono ?_;rintro z C ⟨rfl,rfl⟩;simp only[];refine l _ _ f (fun f=> ?_);clear l K;try simp only[Act.put,oa,ob,oc])|(go_at_call 31;refine(M _ (Up.kw (by first|assumption|exact ag.drew))).mono ?_;rintro z C ⟨rfl,aa⟩;(try simp only[]);refine l _ _ oK fun f=> ?_;clear l K;try simp only[Act.put,oa,ob,oc])))
          refine ch ?_;go_wp2_with fail
          go_ret;exact⟨_,rfl,hF,(ag.drew.step aa).up⟩
         ·have M:=fun W A=>aW (s W B A) h
          have hA:Hid (((u.es.take (k+1)).all fun e=>ah D.len e q.behind .type)=true):=tO y T.out (by rw[←g.out];exact h);have hH:Hid (eK (u.es.take (k+1))=true):=tN y S.out (by rw[←g.out];exact O.out) (by rw[←g.out];exact PR.out) (fun h0=>by rw[←g.out,←Q.out];exact P4.out);clear h s;go_wp2_with fail
          refine oR (fun W=>(W.cell? ⟨wr.heap.size,0,none⟩=some (.int .i64 e.k)∧W.cell? ⟨wr.heap.size,1,none⟩=some (.int .i64 e.n)∧W.cell? ⟨wr.heap.size,2,none⟩=some (.int .i64 e.m)∧W.cell? ⟨wr.heap.size,3,none⟩=some (.bool e.v)∧W.cell? ⟨wr.heap.size,4,none⟩=some (.string e.nm)∧W.cell? ⟨wr.heap.size,5,none⟩=some (.string e.tg)∧W.cell? ⟨wr.heap.size,6,none⟩=some (.slice a' e.es.length c'))∧W.cell? ⟨w.heap.size+1,6,none⟩=some (.slice (some ⟨b,o,none⟩) u.es.length c)∧
           (W.cell? ⟨w.heap.size,0,none⟩=some (.slice D.a D.len dc))∧(W.cell? ⟨w.heap.size+1+1,0,none⟩=some (.int .i64 q.d)∧W.cell? ⟨w.heap.size+1+1,1,none⟩=some (.bool false)∧W.cell? ⟨w.heap.size+1+1,2,none⟩=some (.bool q.t))∧W.cell? ⟨b,o+j*7+4,none⟩=some (.string P.nm)∧Up p w W)
           [(0,true),(1,true),(2,true),(3,true),(4,true),(5,true),(6,false),(7,true),(8,true),(9,true),(10,true),(11,true),(12,true),(13,true),(14,true),(15,true),(16,true),(17,true),(18,true),(19,true),(20,true),(21,true),(22,true),(23,true),(24,true),(25,true),(26,true),(27,true),(28,true),(29,false),(30,true),(31,true)] oK (fun f=> ?_)
          repeat(first|(refine oS ?_;try simp only[Act.put,oa,ob,oc])|(refine oF f ?_;try simp only[Act.put,oa,ob,oc])|(refine oL fun K l=> ?_;go_simp;first|(go_at_call 56;refine(V _).mono ?_;rintro z C ⟨rfl,rfl⟩;simp only[];refine l _ _ f (fun f=> ?_);clear l K;try simp only[Act.put,oa,ob,oc])|(go_at_call 31;refine(M _ (Up.kw (by first|assumption|exact ag.drew))).mono ?_;rintro z C ⟨rfl,aa⟩;(try simp only[]);refine l _ _ oK fun f=> ?_;clear l K;try simp only[Act.put,oa,ob,oc])))
          refine ch ?_;go_wp2_with fail
          go_roundw
          case rel=>
           refine⟨k+1,by omega,by go_num,hH.out,hA.out,ag.drew.step aa,?_⟩;repeat' apply And.intro
           all_goals first|exact cell_kept aa (by first|(simp[go_sem];done)|(go_keep;done))|exact frozen_kept aa (by simp;omega) (by rw[World.frozen?_drew,World.frozen?_alloc_old _ _ _ (by simp;omega)];assumption)
          case measure=>simp[intOf];omega
     ·have k7:(e.k !=7)=true:=by simp[E]
      have hF:Hid (false=r):=(x.out.trans (qo F y (.inl (by rw[←g.out];exact E)))).symm;clear E;go_wp2_with fail
      go_quiet (fail)
      go_wp2_with fail
      go_ret;exact⟨_,rfl,hF,(ag.drewN _).up⟩
    ·have Y:k=u.m.toNat:=by omega
     have PQ:¬(k:Int)<u.m:=by omega
     have Qk:∀(fn:Fn)(first cap:Array Value)(w:World),(Instr.makeFunc fn first cap).run Tryz.prog w= .ok (.func fn first cap) w:=fun _ _ _ _=>rfl;have PU:∀e∈u.es.drop u.m.toNat,c_ p D dc e∧∀e'∈e.es,c_ p D dc e'∧∀Z∈e'.es,c_ p D dc Z:=fun e he=>by
      have h1:=U.az (List.mem_of_mem_drop he);exact⟨hC e h1,fun e' g=>⟨hC e' (by have:=U.az g;omega),fun Z PV=>hC Z (by have:=U.az g;have:=U.az PV;omega)⟩⟩
     have PM:=Lib.hid fun W (A:KW p W) a2 c2 (hL:aj p D (u.es.drop u.m.toNat) a2) lb H=>iU (u.es.length- u.m.toNat) p D (u.es.drop u.m.toNat) (by simp) a2 c2 115 lb (fun e=> !ah D.len e q.inside .elem) W A hL (by simp;omega) (ep Tryz.func115 (by kernel_rfl) rfl) H;simp only[lW]at PM;have PW:Hid (∀b,(b= !(u.es.drop u.m.toNat).all fun e=>ah D.len e q.inside .elem)→(!b)=r):=fun b N=>by
      subst Y;rw[x.out,N,eL,S.out,T.out];have z:b4 u.m (u.es.length+1)=true:=by simp[b4];omega
      have P:decide ((u.es.length:Int)- u.m≤4)=true:=by simp;omega
      rw[z,P];simp
     have Qb:=Lib.hid Y;clear Y;have J:=(hU.up.setCell (p:=⟨w.heap.size+1+1,1,none⟩) (by simp;omega) (.bool true)).setCell (p:=⟨w.heap.size+1+1,2,none⟩) (by simp;omega) (.bool true);have PN:=hw.grown J;by_cases Ql:u.m.toNat<c
     all_goals
      clear hC;have PX:=Lib.hid PU;clear PU;go_wp2_with fail
     ·refine(PM.out _ PN _ _ (hu.list.cut _ P0) _ ?_).mono ?_
      ·intro i hi W a' c' L P5
       have PY:=PX.out _ (List.getElem_mem hi);exact zs p D dc (u.es.drop u.m.toNat)[i] q.inside a' c' W PY.1 PY.2 P5 (PN.grown L) _ (w.heap.size+1+1) (cell_kept L (by simp[go_sem];assumption)) (cell_kept L (by simp[go_sem];assumption)) (cell_kept L (by simp[go_sem];exact World.cell?_setCell_same _ _ _ q1)) (cell_kept L (World.cell?_setCell_same _ _ _ (u:= .bool q.t) (by simp[go_sem];assumption)))
      rintro z C ⟨b,rfl,N,aa⟩;have hI:=Lib.hid (PW.out b N.out);have PO:=J.trans (aa.mono J.size);clear N aa;cases b
      all_goals
       go_wp2_with fail
       go_ret;exact⟨_,rfl,hI,PO⟩
     ·have hE:u.es.drop u.m.toNat= []:=List.drop_eq_nil_of_le (by omega)
      have P6:aj p D (u.es.drop u.m.toNat) a:=by rw[hE];exact aj.nil
      refine(PM.out _ PN _ _ P6 _ ?_).mono ?_
      ·intro i hi
       rw[hE]at hi;simp at hi
      rintro z C ⟨b,rfl,N,aa⟩;have hI:=Lib.hid (PW.out b N.out);have PO:=J.trans (aa.mono J.size);clear N aa;cases b
      all_goals
       go_wp2_with fail
       go_ret;exact⟨_,rfl,hI,PO⟩
  ·have hF:Hid (false=r):=by rw[x.out];simp[Hid,eL,h4]
   have PZ:4<u.es.length- u.m:=by omega
   clear h4 x A;go_enter Tryz.func65,Tryz.ntmps65;go_wp2_with fail
   refine(R _).mono ?_;rintro z C ⟨rfl,rfl⟩;go_wp2_with fail
   go_ret;exact⟨_,rfl,hF,(((Below.refl w.heap.size w).alloc (Nat.le_refl _) _).alloc (by simp) _).alloc (by simp;omega) _⟩
 ·have P7:=fun W=>gm (b:=false) (A W) (by simp;omega)
  have hF:Hid (false=r):=by rw[x.out];unfold Hid eL b4;simp;omega
  clear x A;go_enter Tryz.func65,Tryz.ntmps65;go_wp2_with fail
  refine(P7 _).mono ?_;rintro z C ⟨rfl,rfl⟩;go_wp2_with fail
  go_ret;exact⟨_,rfl,hF,(((Below.refl w.heap.size w).alloc (Nat.le_refl _) _).alloc (by simp) _).alloc (by simp;omega) _⟩
theorem _root_.TS.Up.setCell{p:Pm}{w W:World}(h:Up p w W)(hw:KW p w){x:Addr}(a:w.heap.size≤x.block)(v:Value):Up p w (W.setCell x v):=
 ⟨hw.grown (h.up.setCell a v),h.up.setCell a v⟩
section
variable {len:Nat} {u:U} {q:Pc}
theorem qp(h:u.k=1):ah len u q .type=(b4 u.n 18&&decide (u.es.length=0)):=by rw[ah.eq_def];simp[h]
theorem lg(h:u.k=14∨u.k=15∨u.k=16):ah len u q .type=decide (u.es.length=0):=by
 rw[ah.eq_def];rcases h with h|h|h<;>simp[h]
theorem qq(h:u.k=11):ah len u q .type=(b4 u.n len&&(!q.v&& !q.t||decide (u.n<q.d))&&decide (u.es.length=0)):=by rw[ah.eq_def];simp[h]
theorem n_(h:u.k=2∨u.k=3):ah len u q .type=(decide (0≤u.n)&&decide (u.es.length=1)&&u.es.all fun e=>ah len e q .type):=by
 rw[ah.eq_def];rcases h with h|h<;>simp[h]
theorem qu(h:u.k=5):ah len u q .type=(fm u.es&&u.es.all fun e=>ah len e q .type):=by rw[ah.eq_def];simp[h]
theorem mi(h:u.k=10):ah len u q .type=eL len u q:=by rw[ah.eq_def];simp[h,eL]
theorem mj(h:u.k=4∨u.k=6∨u.k=9):ah len u q .type=(b4 u.n 3&&decide (u.es.length=1)&&u.es.all fun e=>ah len e q.behind .type):=by
 rw[ah.eq_def];rcases h with h|h|h<;>simp[h]
theorem qw(h:u.k=8):ah len u q .type=(decide (u.es.length=2)&&u.es.all fun e=>ah len e q.behind .type):=by rw[ah.eq_def];simp[h]
theorem qx(h:u.k=7):ah len u q .type=(b4 u.m (u.es.length+1)&&(!u.v||decide (0<u.m)&&((u.es.getD (u.m.toNat- 1) cg).k==4))&&u.es.all fun e=>ah len e q.behind .type):=by rw[ah.eq_def];simp[h]
theorem qy(h:¬(u.k=1∨(u.k=14∨u.k=15∨u.k=16)∨u.k=11∨(u.k=2∨u.k=3)∨u.k=5∨u.k=10∨(u.k=4∨u.k=6∨u.k=9)∨u.k=8∨u.k=7)):ah len u q .type=false:=by
 rw[ah.eq_def];simp only[not_or]at h;simp[h]
end
theorem zw(u:U)(s:ByteArray)(a:Option Addr)(c:Nat)(w:World)(B:Nat)(b:w.cell? ⟨B,4,none⟩=some (.string s)):
 Calls Tryz.prog 64 #[.agg #[.int .i64 u.k,.int .i64 u.n,.int .i64 u.m,.bool u.v,.string u.nm,.string u.tg,.slice a u.es.length c],.pointer (some ⟨B,0,none⟩)] w (RB (decide (u.nm.toList=s.toList)) w):=by
 have b1:=World.block_lt_of_cell? _ _ b;simp only at b1;have d:Hid ((u.nm.toList==s.toList)=decide (u.nm.toList=s.toList)):=by simp only[Hid];rw[Bool.eq_iff_iff];simp
 go_enter Tryz.func64,Tryz.ntmps64;go_wp2_with fail
 go_ret;exact⟨_,rfl,d,(Below.refl w.heap.size w).alloc (Nat.le_refl _) _⟩
theorem zx(p:Pm)(D:Dl)(dc:Nat)(u:U)(q:Pc)(a:Option Addr)(c:Nat)(w:World)(h:u.k=1)(hw:KW p w):
 Calls Tryz.prog 31 #[.slice D.a D.len dc,.agg #[.int .i64 u.k,.int .i64 u.n,.int .i64 u.m,.bool u.v,.string u.nm,.string u.tg,.slice a u.es.length c],.agg #[.int .i64 q.d,.bool q.v,.bool q.t]] w (RB (ah D.len u q .type) w):=by
 have l:=dX h;obtain⟨x,e⟩:∃x,x=b4 u.n 18:=⟨_,rfl⟩
 have f:=fun W=>gm (kj u.n 18 W) e.symm;have ag:Up p w ((w.alloc (.cells #[.int .i64 u.k,.int .i64 u.n,.int .i64 u.m,.bool u.v,.string u.nm,.string u.tg,.slice a u.es.length c] 25)).alloc (.cells #[.int .i64 q.d,.bool q.v,.bool q.t] 54)):=((Up.refl hw).alloc _).alloc _;have hT:=Lib.hid (qp (len:=D.len) (q:=q) h);clear h;by_cases b:u.es.length=0
 ·have g:((u.es.length:Int)==0)=true:=by simp[b]
  have hF:Hid (x=ah D.len u q .type):=by rw[hT.out];simp[Hid,b,e]
  clear hT b e;cases x
  all_goals
   go_enter Tryz.func31,Tryz.ntmps31;go_wp2_with fail
   refine(f _).mono ?_;rintro i j ⟨rfl,rfl⟩;go_wp2_with fail
   go_ret;exact⟨_,rfl,hF,ag.up⟩
 ·have g:((u.es.length:Int)==0)=false:=by simp;intro h;simp[h]at b
  have hF:Hid (false=ah D.len u q .type):=by rw[hT.out];simp[Hid,b]
  clear hT b e;cases x
  all_goals
   go_enter Tryz.func31,Tryz.ntmps31;go_wp2_with fail
   refine(f _).mono ?_;rintro i j ⟨rfl,rfl⟩;go_wp2_with fail
   go_ret;exact⟨_,rfl,hF,ag.up⟩
theorem zy(p:Pm)(D:Dl)(dc:Nat)(u:U)(q:Pc)(a:Option Addr)(c:Nat)(w:World)(h:u.k=14)(hw:KW p w):
 Calls Tryz.prog 31 #[.slice D.a D.len dc,.agg #[.int .i64 u.k,.int .i64 u.n,.int .i64 u.m,.bool u.v,.string u.nm,.string u.tg,.slice a u.es.length c],.agg #[.int .i64 q.d,.bool q.v,.bool q.t]] w (RB (ah D.len u q .type) w):=by
 have t1:(u.k==1)=false:=aA (by omega);have t14:(u.k==14)=true:=dX h;have ag:Up p w ((w.alloc (.cells #[.int .i64 u.k,.int .i64 u.n,.int .i64 u.m,.bool u.v,.string u.nm,.string u.tg,.slice a u.es.length c] 25)).alloc (.cells #[.int .i64 q.d,.bool q.v,.bool q.t] 54)):=((Up.refl hw).alloc _).alloc _;have hT:Hid (((u.es.length:Int)==0)=ah D.len u q .type):=by rw[lg (by omega)];simp only[Hid];rw[Bool.eq_iff_iff];simp
 clear h;go_enter Tryz.func31,Tryz.ntmps31;go_wp2_with fail
 go_ret;exact⟨_,rfl,hT,ag.up⟩
theorem zA(p:Pm)(D:Dl)(dc:Nat)(u:U)(q:Pc)(a:Option Addr)(c:Nat)(w:World)(h:u.k=15)(hw:KW p w):
 Calls Tryz.prog 31 #[.slice D.a D.len dc,.agg #[.int .i64 u.k,.int .i64 u.n,.int .i64 u.m,.bool u.v,.string u.nm,.string u.tg,.slice a u.es.length c],.agg #[.int .i64 q.d,.bool q.v,.bool q.t]] w (RB (ah D.len u q .type) w):=by
 have t1:(u.k==1)=false:=aA (by omega);have t14:(u.k==14)=false:=aA (by omega);have t15:(u.k==15)=true:=dX h;have ag:Up p w ((w.alloc (.cells #[.int .i64 u.k,.int .i64 u.n,.int .i64 u.m,.bool u.v,.string u.nm,.string u.tg,.slice a u.es.length c] 25)).alloc (.cells #[.int .i64 q.d,.bool q.v,.bool q.t] 54)):=((Up.refl hw).alloc _).alloc _;have hT:Hid (((u.es.length:Int)==0)=ah D.len u q .type):=by rw[lg (by omega)];simp only[Hid];rw[Bool.eq_iff_iff];simp
 clear h;go_enter Tryz.func31,Tryz.ntmps31;go_wp2_with fail
 go_ret;exact⟨_,rfl,hT,ag.up⟩
theorem zB(p:Pm)(D:Dl)(dc:Nat)(u:U)(q:Pc)(a:Option Addr)(c:Nat)(w:World)(h:u.k=16)(hw:KW p w):
 Calls Tryz.prog 31 #[.slice D.a D.len dc,.agg #[.int .i64 u.k,.int .i64 u.n,.int .i64 u.m,.bool u.v,.string u.nm,.string u.tg,.slice a u.es.length c],.agg #[.int .i64 q.d,.bool q.v,.bool q.t]] w (RB (ah D.len u q .type) w):=by
 have t1:(u.k==1)=false:=aA (by omega);have t14:(u.k==14)=false:=aA (by omega);have t15:(u.k==15)=false:=aA (by omega);have t16:(u.k==16)=true:=dX h;have ag:Up p w ((w.alloc (.cells #[.int .i64 u.k,.int .i64 u.n,.int .i64 u.m,.bool u.v,.string u.nm,.string u.tg,.slice a u.es.length c] 25)).alloc (.cells #[.int .i64 q.d,.bool q.v,.bool q.t] 54)):=((Up.refl hw).alloc _).alloc _;have hT:Hid (((u.es.length:Int)==0)=ah D.len u q .type):=by rw[lg (by omega)];simp only[Hid];rw[Bool.eq_iff_iff];simp
 clear h;go_enter Tryz.func31,Tryz.ntmps31;go_wp2_with fail
 go_ret;exact⟨_,rfl,hT,ag.up⟩
theorem zC(p:Pm)(D:Dl)(dc:Nat)(u:U)(q:Pc)(a:Option Addr)(c:Nat)(w:World)(h:u.k=10)(f:∀g,g.sz<u.sz→c_ p D dc g)(hu:ak p D u a c)(hw:KW p w):
 Calls Tryz.prog 31 #[.slice D.a D.len dc,.agg #[.int .i64 u.k,.int .i64 u.n,.int .i64 u.m,.bool u.v,.string u.nm,.string u.tg,.slice a u.es.length c],.agg #[.int .i64 q.d,.bool q.v,.bool q.t]] w (RB (ah D.len u q .type) w):=by
 have t1:(u.k==1)=false:=aA (by omega);have t14:(u.k==14)=false:=aA (by omega);have t15:(u.k==15)=false:=aA (by omega);have t16:(u.k==16)=false:=aA (by omega);have t11:(u.k==11)=false:=aA (by omega);have t2:(u.k==2)=false:=aA (by omega);have t3:(u.k==3)=false:=aA (by omega);have t5:(u.k==5)=false:=aA (by omega);have t10:(u.k==10)=true:=dX h;have ag:Up p w ((w.alloc (.cells #[.int .i64 u.k,.int .i64 u.n,.int .i64 u.m,.bool u.v,.string u.nm,.string u.tg,.slice a u.es.length c] 25)).alloc (.cells #[.int .i64 q.d,.bool q.v,.bool q.t] 54)):=((Up.refl hw).alloc _).alloc _;have hT:=Lib.hid (mi (len:=D.len) (q:=q) h);have i:=fun W (j:KW p W)=>zu p D dc u q a c W f hu j;clear h f;rw[hT.out];go_enter Tryz.func31,Tryz.ntmps31;go_wp2_with fail
 refine(i _ ag.kw).mono ?_;rintro o r ⟨b,rfl,l,aa⟩;have e:=ag.up.trans (aa.mono ag.up.size);clear i;go_wp2_with fail
 go_ret;exact⟨_,rfl,l,e⟩
theorem zD(p:Pm)(D:Dl)(dc:Nat)(u:U)(q:Pc)(a:Option Addr)(c:Nat)(w:World)(h:¬(u.k=1∨(u.k=14∨u.k=15∨u.k=16)∨u.k=11∨(u.k=2∨u.k=3)∨u.k=5∨u.k=10∨(u.k=4∨u.k=6∨u.k=9)∨u.k=8∨u.k=7))(hw:KW p w):
 Calls Tryz.prog 31 #[.slice D.a D.len dc,.agg #[.int .i64 u.k,.int .i64 u.n,.int .i64 u.m,.bool u.v,.string u.nm,.string u.tg,.slice a u.es.length c],.agg #[.int .i64 q.d,.bool q.v,.bool q.t]] w (RB (ah D.len u q .type) w):=by
 have t1:(u.k==1)=false:=aA (by omega);have t14:(u.k==14)=false:=aA (by omega);have t15:(u.k==15)=false:=aA (by omega);have t16:(u.k==16)=false:=aA (by omega);have t11:(u.k==11)=false:=aA (by omega);have t2:(u.k==2)=false:=aA (by omega);have t3:(u.k==3)=false:=aA (by omega);have t5:(u.k==5)=false:=aA (by omega);have t10:(u.k==10)=false:=aA (by omega);have t4:(u.k==4)=false:=aA (by omega);have t6:(u.k==6)=false:=aA (by omega);have t9:(u.k==9)=false:=aA (by omega);have t8:(u.k==8)=false:=aA (by omega);have t7:(u.k==7)=false:=aA (by omega);have ag:Up p w ((w.alloc (.cells #[.int .i64 u.k,.int .i64 u.n,.int .i64 u.m,.bool u.v,.string u.nm,.string u.tg,.slice a u.es.length c] 25)).alloc (.cells #[.int .i64 q.d,.bool false,.bool q.t] 54)):=((Up.refl hw).alloc _).alloc _;have hT:=Lib.hid (qy (len:=D.len) (q:=q) h);clear h;go_enter Tryz.func31,Tryz.ntmps31;go_wp2_with fail
 go_ret;exact⟨_,rfl,hT.out.symm,ag.up⟩
theorem zE(p:Pm)(D:Dl)(dc:Nat)(u:U)(q:Pc)(a:Option Addr)(c:Nat)(w:World)(h:u.k=11)(hw:KW p w):
 Calls Tryz.prog 31 #[.slice D.a D.len dc,.agg #[.int .i64 u.k,.int .i64 u.n,.int .i64 u.m,.bool u.v,.string u.nm,.string u.tg,.slice a u.es.length c],.agg #[.int .i64 q.d,.bool q.v,.bool q.t]] w (RB (ah D.len u q .type) w):=by
 have t1:(u.k==1)=false:=aA (by omega);have t14:(u.k==14)=false:=aA (by omega);have t15:(u.k==15)=false:=aA (by omega);have t16:(u.k==16)=false:=aA (by omega);have t11:(u.k==11)=true:=dX h;have ag:Up p w ((w.alloc (.cells #[.int .i64 u.k,.int .i64 u.n,.int .i64 u.m,.bool u.v,.string u.nm,.string u.tg,.slice a u.es.length c] 25)).alloc (.cells #[.int .i64 q.d,.bool q.v,.bool q.t] 54)):=((Up.refl hw).alloc _).alloc _;have hT:=Lib.hid (qq (len:=D.len) (q:=q) h);clear h;obtain⟨x,g⟩:∃x,x=b4 u.n D.len:=⟨_,rfl⟩
 have b:=fun W=>gm (kj u.n D.len W) g.symm;obtain⟨y,f⟩:∃y,y=decide (u.n<q.d):=⟨_,rfl⟩
 obtain⟨z,i⟩:∃z,z=((u.es.length:Int)==0):=⟨_,rfl⟩
 have e:decide (u.es.length=0)=z:=by rw[i,Bool.eq_iff_iff];simp
 obtain⟨s,j,l⟩:=q;have hF:Hid ((x&&(!j&& !l||y)&&z)=ah D.len u ⟨s,j,l⟩ .type):=by rw[hT.out,e,←g,←f];simp[Hid]
 simp only at ag f b;have A:=f.symm;have B:=i.symm;clear hT e f i g;cases x
 ·go_enter Tryz.func31,Tryz.ntmps31
  go_wp2_with fail
  refine(b _).mono ?_;rintro o r ⟨rfl,rfl⟩;clear b;cases z
  all_goals
   go_wp2_with fail
   go_ret;exact⟨_,rfl,hF,ag.up⟩
 ·cases j
  ·cases l
   ·go_enter Tryz.func31,Tryz.ntmps31
    go_wp2_with fail
    refine(b _).mono ?_;rintro o r ⟨rfl,rfl⟩;clear b;cases z
    all_goals
     go_wp2_with fail
     go_ret;exact⟨_,rfl,hF,ag.up⟩
   ·go_enter Tryz.func31,Tryz.ntmps31
    go_wp2_with fail
    refine(b _).mono ?_;rintro o r ⟨rfl,rfl⟩;clear b;cases y
    all_goals
     cases z
     all_goals
      go_wp2_with fail
      go_ret;exact⟨_,rfl,hF,ag.up⟩
  ·go_enter Tryz.func31,Tryz.ntmps31
   go_wp2_with fail
   refine(b _).mono ?_;rintro o r ⟨rfl,rfl⟩;clear b;cases y
   all_goals
    cases z
    all_goals
     go_wp2_with fail
     go_ret;exact⟨_,rfl,hF,ag.up⟩
theorem zF(p:Pm)(D:Dl)(dc:Nat)(u:U)(q:Pc)(a:Option Addr)(c:Nat)(w:World)(h:u.k=2)(l:∀e∈u.es,c_ p D dc e)(hu:ak p D u a c)(hw:KW p w):
 Calls Tryz.prog 31 #[.slice D.a D.len dc,.agg #[.int .i64 u.k,.int .i64 u.n,.int .i64 u.m,.bool u.v,.string u.nm,.string u.tg,.slice a u.es.length c],.agg #[.int .i64 q.d,.bool q.v,.bool q.t]] w (RB (ah D.len u q .type) w):=by
 have t1:(u.k==1)=false:=aA (by omega);have t14:(u.k==14)=false:=aA (by omega);have t15:(u.k==15)=false:=aA (by omega);have t16:(u.k==16)=false:=aA (by omega);have t11:(u.k==11)=false:=aA (by omega);have t2:(u.k==2)=true:=dX h;have o:=hu.cap;have ag:Up p w ((w.alloc (.cells #[.int .i64 u.k,.int .i64 u.n,.int .i64 u.m,.bool u.v,.string u.nm,.string u.tg,.slice a u.es.length c] 25)).alloc (.cells #[.int .i64 q.d,.bool q.v,.bool q.t] 54)):=((Up.refl hw).alloc _).alloc _;have hT:=Lib.hid (n_ (len:=D.len) (q:=q) (u:=u) (by omega));clear h;have g:=fun W (r:KW p W)=>jw p D dc u.es q a c W l hu.list (by omega) r;clear l;by_cases i:0≤u.n
 ·have s:decide ((0:Int)≤u.n)=true:=by simp[i]
  by_cases f:u.es.length=1
  ·have x:((u.es.length:Int)==1)=true:=by simp[f]
   have hF:Hid ((u.es.all fun e=>ah D.len e q .type)=ah D.len u q .type):=by rw[hT.out];simp[Hid,f,i]
   rw[←hF.out];clear hT f hF;go_enter Tryz.func31,Tryz.ntmps31;go_wp2_with fail
   refine(g _ ag.kw).mono ?_;rintro z A ⟨b,rfl,y,aa⟩;have j:=ag.up.trans (aa.mono ag.up.size);clear g;go_wp2_with fail
   go_ret;exact⟨_,rfl,y,j⟩
  ·have x:((u.es.length:Int)==1)=false:=by simp;omega
   have hF:Hid (false=ah D.len u q .type):=by rw[hT.out];simp[Hid,f]
   clear hT f g;go_enter Tryz.func31,Tryz.ntmps31;go_wp2_with fail
   go_ret;exact⟨_,rfl,hF,ag.up⟩
 ·have s:decide ((0:Int)≤u.n)=false:=by simp;omega
  have hF:Hid (false=ah D.len u q .type):=by rw[hT.out];simp[Hid,i]
  clear hT g;go_enter Tryz.func31,Tryz.ntmps31;go_wp2_with fail
  go_ret;exact⟨_,rfl,hF,ag.up⟩
theorem zG(p:Pm)(D:Dl)(dc:Nat)(u:U)(q:Pc)(a:Option Addr)(c:Nat)(w:World)(h:u.k=3)(l:∀e∈u.es,c_ p D dc e)(hu:ak p D u a c)(hw:KW p w):
 Calls Tryz.prog 31 #[.slice D.a D.len dc,.agg #[.int .i64 u.k,.int .i64 u.n,.int .i64 u.m,.bool u.v,.string u.nm,.string u.tg,.slice a u.es.length c],.agg #[.int .i64 q.d,.bool q.v,.bool q.t]] w (RB (ah D.len u q .type) w):=by
 have t1:(u.k==1)=false:=aA (by omega);have t14:(u.k==14)=false:=aA (by omega);have t15:(u.k==15)=false:=aA (by omega);have t16:(u.k==16)=false:=aA (by omega);have t11:(u.k==11)=false:=aA (by omega);have t2:(u.k==2)=false:=aA (by omega);have t3:(u.k==3)=true:=dX h;have o:=hu.cap;have ag:Up p w ((w.alloc (.cells #[.int .i64 u.k,.int .i64 u.n,.int .i64 u.m,.bool u.v,.string u.nm,.string u.tg,.slice a u.es.length c] 25)).alloc (.cells #[.int .i64 q.d,.bool q.v,.bool q.t] 54)):=((Up.refl hw).alloc _).alloc _;have hT:=Lib.hid (n_ (len:=D.len) (q:=q) (u:=u) (by omega));clear h;have g:=fun W (r:KW p W)=>jw p D dc u.es q a c W l hu.list (by omega) r;clear l;by_cases i:0≤u.n
 ·have s:decide ((0:Int)≤u.n)=true:=by simp[i]
  by_cases f:u.es.length=1
  ·have x:((u.es.length:Int)==1)=true:=by simp[f]
   have hF:Hid ((u.es.all fun e=>ah D.len e q .type)=ah D.len u q .type):=by rw[hT.out];simp[Hid,f,i]
   rw[←hF.out];clear hT f hF;go_enter Tryz.func31,Tryz.ntmps31;go_wp2_with fail
   refine(g _ ag.kw).mono ?_;rintro z A ⟨b,rfl,y,aa⟩;have j:=ag.up.trans (aa.mono ag.up.size);clear g;go_wp2_with fail
   go_ret;exact⟨_,rfl,y,j⟩
  ·have x:((u.es.length:Int)==1)=false:=by simp;omega
   have hF:Hid (false=ah D.len u q .type):=by rw[hT.out];simp[Hid,f]
   clear hT f g;go_enter Tryz.func31,Tryz.ntmps31;go_wp2_with fail
   go_ret;exact⟨_,rfl,hF,ag.up⟩
 ·have s:decide ((0:Int)≤u.n)=false:=by simp;omega
  have hF:Hid (false=ah D.len u q .type):=by rw[hT.out];simp[Hid,i]
  clear hT g;go_enter Tryz.func31,Tryz.ntmps31;go_wp2_with fail
  go_ret;exact⟨_,rfl,hF,ag.up⟩
theorem zH(p:Pm)(D:Dl)(dc:Nat)(u:U)(q:Pc)(a:Option Addr)(c:Nat)(w:World)(h:u.k=4)(s:∀e∈u.es,c_ p D dc e)(hu:ak p D u a c)(hw:KW p w):
 Calls Tryz.prog 31 #[.slice D.a D.len dc,.agg #[.int .i64 u.k,.int .i64 u.n,.int .i64 u.m,.bool u.v,.string u.nm,.string u.tg,.slice a u.es.length c],.agg #[.int .i64 q.d,.bool q.v,.bool q.t]] w (RB (ah D.len u q .type) w):=by
 have t1:(u.k==1)=false:=aA (by omega);have t14:(u.k==14)=false:=aA (by omega);have t15:(u.k==15)=false:=aA (by omega);have t16:(u.k==16)=false:=aA (by omega);have t11:(u.k==11)=false:=aA (by omega);have t2:(u.k==2)=false:=aA (by omega);have t3:(u.k==3)=false:=aA (by omega);have t5:(u.k==5)=false:=aA (by omega);have t10:(u.k==10)=false:=aA (by omega);have t4:(u.k==4)=true:=dX h;have y:=hu.cap;have ag:Up p w ((w.alloc (.cells #[.int .i64 u.k,.int .i64 u.n,.int .i64 u.m,.bool u.v,.string u.nm,.string u.tg,.slice a u.es.length c] 25)).alloc (.cells #[.int .i64 q.d,.bool false,.bool q.t] 54)):=((Up.refl hw).alloc _).alloc _;have hT:=Lib.hid (mj (len:=D.len) (q:=q) (u:=u) (by omega));clear h;obtain⟨x,f⟩:∃x,x=b4 u.n 3:=⟨_,rfl⟩
 have g:=fun W=>gm (kj u.n 3 W) f.symm;have j:∀W,KW p W→Calls Tryz.prog 63 #[.slice D.a D.len dc,.slice a u.es.length c,.agg #[.int .i64 q.d,.bool false,.bool q.t]] W (RB (u.es.all fun e=>ah D.len e q.behind .type) W):=fun W z=>jw p D dc u.es q.behind a c W s hu.list (by omega) z;clear s;cases x
 ·have hF:Hid (false=ah D.len u q .type):=by rw[hT.out,←f];simp[Hid]
  clear hT j f;go_enter Tryz.func31,Tryz.ntmps31;go_wp2_with fail
  refine(g _).mono ?_;rintro l o ⟨rfl,rfl⟩;clear g;go_wp2_with fail
  go_ret;exact⟨_,rfl,hF,ag.up⟩
 ·by_cases i:u.es.length=1
  ·have A:((u.es.length:Int)==1)=true:=by simp[i]
   have hF:Hid ((u.es.all fun e=>ah D.len e q.behind .type)=ah D.len u q .type):=by rw[hT.out];simp[Hid,i,←f]
   rw[←hF.out];clear hT i hF f;go_enter Tryz.func31,Tryz.ntmps31;go_wp2_with fail
   refine(g _).mono ?_;rintro l o ⟨rfl,rfl⟩;clear g;go_wp2_with fail
   refine(j _ ag.kw).mono ?_;rintro l o ⟨b,rfl,B,aa⟩;have r:=ag.up.trans (aa.mono ag.up.size);clear j;go_wp2_with fail
   go_ret;exact⟨_,rfl,B,r⟩
  ·have A:((u.es.length:Int)==1)=false:=by simp;omega
   have hF:Hid (false=ah D.len u q .type):=by rw[hT.out];simp[Hid,i]
   clear hT i j f;go_enter Tryz.func31,Tryz.ntmps31;go_wp2_with fail
   refine(g _).mono ?_;rintro l o ⟨rfl,rfl⟩;clear g;go_wp2_with fail
   go_ret;exact⟨_,rfl,hF,ag.up⟩
theorem zI(p:Pm)(D:Dl)(dc:Nat)(u:U)(q:Pc)(a:Option Addr)(c:Nat)(w:World)(h:u.k=6)(s:∀e∈u.es,c_ p D dc e)(hu:ak p D u a c)(hw:KW p w):
 Calls Tryz.prog 31 #[.slice D.a D.len dc,.agg #[.int .i64 u.k,.int .i64 u.n,.int .i64 u.m,.bool u.v,.string u.nm,.string u.tg,.slice a u.es.length c],.agg #[.int .i64 q.d,.bool q.v,.bool q.t]] w (RB (ah D.len u q .type) w):=by
 have t1:(u.k==1)=false:=aA (by omega);have t14:(u.k==14)=false:=aA (by omega);have t15:(u.k==15)=false:=aA (by omega);have t16:(u.k==16)=false:=aA (by omega);have t11:(u.k==11)=false:=aA (by omega);have t2:(u.k==2)=false:=aA (by omega);have t3:(u.k==3)=false:=aA (by omega);have t5:(u.k==5)=false:=aA (by omega);have t10:(u.k==10)=false:=aA (by omega);have t4:(u.k==4)=false:=aA (by omega);have t6:(u.k==6)=true:=dX h;have y:=hu.cap;have ag:Up p w ((w.alloc (.cells #[.int .i64 u.k,.int .i64 u.n,.int .i64 u.m,.bool u.v,.string u.nm,.string u.tg,.slice a u.es.length c] 25)).alloc (.cells #[.int .i64 q.d,.bool false,.bool q.t] 54)):=((Up.refl hw).alloc _).alloc _;have hT:=Lib.hid (mj (len:=D.len) (q:=q) (u:=u) (by omega));clear h;obtain⟨x,f⟩:∃x,x=b4 u.n 3:=⟨_,rfl⟩
 have g:=fun W=>gm (kj u.n 3 W) f.symm;have j:∀W,KW p W→Calls Tryz.prog 63 #[.slice D.a D.len dc,.slice a u.es.length c,.agg #[.int .i64 q.d,.bool false,.bool q.t]] W (RB (u.es.all fun e=>ah D.len e q.behind .type) W):=fun W z=>jw p D dc u.es q.behind a c W s hu.list (by omega) z;clear s;cases x
 ·have hF:Hid (false=ah D.len u q .type):=by rw[hT.out,←f];simp[Hid]
  clear hT j f;go_enter Tryz.func31,Tryz.ntmps31;go_wp2_with fail
  refine(g _).mono ?_;rintro l o ⟨rfl,rfl⟩;clear g;go_wp2_with fail
  go_ret;exact⟨_,rfl,hF,ag.up⟩
 ·by_cases i:u.es.length=1
  ·have A:((u.es.length:Int)==1)=true:=by simp[i]
   have hF:Hid ((u.es.all fun e=>ah D.len e q.behind .type)=ah D.len u q .type):=by rw[hT.out];simp[Hid,i,←f]
   rw[←hF.out];clear hT i hF f;go_enter Tryz.func31,Tryz.ntmps31;go_wp2_with fail
   refine(g _).mono ?_;rintro l o ⟨rfl,rfl⟩;clear g;go_wp2_with fail
   refine(j _ ag.kw).mono ?_;rintro l o ⟨b,rfl,B,aa⟩;have r:=ag.up.trans (aa.mono ag.up.size);clear j;go_wp2_with fail
   go_ret;exact⟨_,rfl,B,r⟩
  ·have A:((u.es.length:Int)==1)=false:=by simp;omega
   have hF:Hid (false=ah D.len u q .type):=by rw[hT.out];simp[Hid,i]
   clear hT i j f;go_enter Tryz.func31,Tryz.ntmps31;go_wp2_with fail
   refine(g _).mono ?_;rintro l o ⟨rfl,rfl⟩;clear g;go_wp2_with fail
   go_ret;exact⟨_,rfl,hF,ag.up⟩
theorem zJ(p:Pm)(D:Dl)(dc:Nat)(u:U)(q:Pc)(a:Option Addr)(c:Nat)(w:World)(h:u.k=9)(s:∀e∈u.es,c_ p D dc e)(hu:ak p D u a c)(hw:KW p w):
 Calls Tryz.prog 31 #[.slice D.a D.len dc,.agg #[.int .i64 u.k,.int .i64 u.n,.int .i64 u.m,.bool u.v,.string u.nm,.string u.tg,.slice a u.es.length c],.agg #[.int .i64 q.d,.bool q.v,.bool q.t]] w (RB (ah D.len u q .type) w):=by
 have t1:(u.k==1)=false:=aA (by omega);have t14:(u.k==14)=false:=aA (by omega);have t15:(u.k==15)=false:=aA (by omega);have t16:(u.k==16)=false:=aA (by omega);have t11:(u.k==11)=false:=aA (by omega);have t2:(u.k==2)=false:=aA (by omega);have t3:(u.k==3)=false:=aA (by omega);have t5:(u.k==5)=false:=aA (by omega);have t10:(u.k==10)=false:=aA (by omega);have t4:(u.k==4)=false:=aA (by omega);have t6:(u.k==6)=false:=aA (by omega);have t9:(u.k==9)=true:=dX h;have y:=hu.cap;have ag:Up p w ((w.alloc (.cells #[.int .i64 u.k,.int .i64 u.n,.int .i64 u.m,.bool u.v,.string u.nm,.string u.tg,.slice a u.es.length c] 25)).alloc (.cells #[.int .i64 q.d,.bool false,.bool q.t] 54)):=((Up.refl hw).alloc _).alloc _;have hT:=Lib.hid (mj (len:=D.len) (q:=q) (u:=u) (by omega));clear h;obtain⟨x,f⟩:∃x,x=b4 u.n 3:=⟨_,rfl⟩
 have g:=fun W=>gm (kj u.n 3 W) f.symm;have j:∀W,KW p W→Calls Tryz.prog 63 #[.slice D.a D.len dc,.slice a u.es.length c,.agg #[.int .i64 q.d,.bool false,.bool q.t]] W (RB (u.es.all fun e=>ah D.len e q.behind .type) W):=fun W z=>jw p D dc u.es q.behind a c W s hu.list (by omega) z;clear s;cases x
 ·have hF:Hid (false=ah D.len u q .type):=by rw[hT.out,←f];simp[Hid]
  clear hT j f;go_enter Tryz.func31,Tryz.ntmps31;go_wp2_with fail
  refine(g _).mono ?_;rintro l o ⟨rfl,rfl⟩;clear g;go_wp2_with fail
  go_ret;exact⟨_,rfl,hF,ag.up⟩
 ·by_cases i:u.es.length=1
  ·have A:((u.es.length:Int)==1)=true:=by simp[i]
   have hF:Hid ((u.es.all fun e=>ah D.len e q.behind .type)=ah D.len u q .type):=by rw[hT.out];simp[Hid,i,←f]
   rw[←hF.out];clear hT i hF f;go_enter Tryz.func31,Tryz.ntmps31;go_wp2_with fail
   refine(g _).mono ?_;rintro l o ⟨rfl,rfl⟩;clear g;go_wp2_with fail
   refine(j _ ag.kw).mono ?_;rintro l o ⟨b,rfl,B,aa⟩;have r:=ag.up.trans (aa.mono ag.up.size);clear j;go_wp2_with fail
   go_ret;exact⟨_,rfl,B,r⟩
  ·have A:((u.es.length:Int)==1)=false:=by simp;omega
   have hF:Hid (false=ah D.len u q .type):=by rw[hT.out];simp[Hid,i]
   clear hT i j f;go_enter Tryz.func31,Tryz.ntmps31;go_wp2_with fail
   refine(g _).mono ?_;rintro l o ⟨rfl,rfl⟩;clear g;go_wp2_with fail
   go_ret;exact⟨_,rfl,hF,ag.up⟩
theorem zK(p:Pm)(D:Dl)(dc:Nat)(u:U)(q:Pc)(a:Option Addr)(c:Nat)(w:World)(h:u.k=8)(j:∀e∈u.es,c_ p D dc e)(hu:ak p D u a c)(hw:KW p w):
 Calls Tryz.prog 31 #[.slice D.a D.len dc,.agg #[.int .i64 u.k,.int .i64 u.n,.int .i64 u.m,.bool u.v,.string u.nm,.string u.tg,.slice a u.es.length c],.agg #[.int .i64 q.d,.bool q.v,.bool q.t]] w (RB (ah D.len u q .type) w):=by
 have t1:(u.k==1)=false:=aA (by omega);have t14:(u.k==14)=false:=aA (by omega);have t15:(u.k==15)=false:=aA (by omega);have t16:(u.k==16)=false:=aA (by omega);have t11:(u.k==11)=false:=aA (by omega);have t2:(u.k==2)=false:=aA (by omega);have t3:(u.k==3)=false:=aA (by omega);have t5:(u.k==5)=false:=aA (by omega);have t10:(u.k==10)=false:=aA (by omega);have t4:(u.k==4)=false:=aA (by omega);have t6:(u.k==6)=false:=aA (by omega);have t9:(u.k==9)=false:=aA (by omega);have t8:(u.k==8)=true:=dX h;have l:=hu.cap;have ag:Up p w ((w.alloc (.cells #[.int .i64 u.k,.int .i64 u.n,.int .i64 u.m,.bool u.v,.string u.nm,.string u.tg,.slice a u.es.length c] 25)).alloc (.cells #[.int .i64 q.d,.bool false,.bool q.t] 54)):=((Up.refl hw).alloc _).alloc _;have hT:=Lib.hid (qw (len:=D.len) (q:=q) (u:=u) (by omega));clear h;have g:∀W,KW p W→Calls Tryz.prog 63 #[.slice D.a D.len dc,.slice a u.es.length c,.agg #[.int .i64 q.d,.bool false,.bool q.t]] W (RB (u.es.all fun e=>ah D.len e q.behind .type) W):=fun W o=>jw p D dc u.es q.behind a c W j hu.list (by omega) o;clear j;by_cases f:u.es.length=2
 ·have r:((u.es.length:Int)==2)=true:=by simp[f]
  have hF:Hid ((u.es.all fun e=>ah D.len e q.behind .type)=ah D.len u q .type):=by rw[hT.out];simp[Hid,f]
  rw[←hF.out];clear hT f hF;go_enter Tryz.func31,Tryz.ntmps31;go_wp2_with fail
  refine(g _ ag.kw).mono ?_;rintro x y ⟨b,rfl,s,aa⟩;have i:=ag.up.trans (aa.mono ag.up.size);clear g;go_wp2_with fail
  go_ret;exact⟨_,rfl,s,i⟩
 ·have r:((u.es.length:Int)==2)=false:=by simp;omega
  have hF:Hid (false=ah D.len u q .type):=by rw[hT.out];simp[Hid,f]
  clear hT f g;go_enter Tryz.func31,Tryz.ntmps31;go_wp2_with fail
  go_ret;exact⟨_,rfl,hF,ag.up⟩
end Go.Proofs.YtdkmnkjhhhmglaaGreatDoor
