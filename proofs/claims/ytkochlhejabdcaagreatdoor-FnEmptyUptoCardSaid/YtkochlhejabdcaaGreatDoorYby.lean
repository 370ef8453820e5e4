import Derived.Test.YtkochlhejabdcaaGreatDoorYbx
set_option maxRecDepth 100000
set_option maxHeartbeats 8000000
set_option linter.all false
namespace Go.Proofs.YtkochlhejabdcaaGreatDoor
open Go.RowKit TS Tryz
theorem Hk{p:Pm}{g:Ge}{w:World}(hw:KW p w)(a:Option Addr)(c:Nat)(d:List Tm)(q:d.length≤1099511627776)(hT:mh p g a d)(k:d= [none]∨none ∉ d):
 Xk 121 #[.slice a d.length c] w fun e r=>e= .returned (.bool (dh d))∧w=r:=by
 obtain⟨f,hr,m⟩:=hT;have n:bJ w a d.length f:=fun i hi=>by
  obtain⟨b,o,e,h⟩:=hr i hi;exact⟨b,o,e,hw _ _ _ h⟩
 rcases k with rfl|k
 ·have h1:=m 0 zs
  simp only[List.getElem_cons_zero]at h1;exact qR a _ c f w n zs (hw _ _ _ h1)
 ·have s:dh d=false:=by
   unfold dh;rw[List.any_eq_false];intro t l u;cases t with
   |none=>exact k l
   |some _=>cases u
  rw[s];refine qS a _ c f w q n fun i hi=> ?_;have h1:=m i hi;have hm:d[i]∈d:=zm hi;cases j:d[i]with
  |none=>rw[j]at hm;exact absurd hm k
  |some t=>
   rw[j]at h1;obtain⟨_,x,v,y⟩:=h1;obtain⟨t',z,rfl⟩:=y.val;exact⟨_,_,hw _ _ _ v⟩
theorem Hl(b tb n c k j:Nat)(a l:Option Addr)(cmp all:Bool)(w:World)(m:Xc w b 0 (.pointer none))(o:Xc w b 6 (Xp tb))(h1:Xc w tb 1 (.slice l k j))(p:Xc w tb 2 (.slice a n c))(q:Xc w tb 3 (.bool cmp))
 (h:Xk 121 #[.slice a n c] w fun e d=>e= .returned (.bool all)∧w=d):
 Xk 21 #[Xp b] w fun e d=>e= .returned (.bool (!cmp&&all&&k==0))∧w=d:=by
 have hT:=zh (jD b tb w m o);have g:=zh h;have hk:((k:Int)==0)=(k==0):=by cases k<;>rfl
 obtain⟨i,f⟩:∃i,i=(k==0):=⟨_,rfl⟩
 rw[←f]at hk⊢;clear h f;cases cmp
 all_goals
  go_enter func21,ntmps21;go_wp2_with fail
  refine hT.out.mono ?_;rintro e d ⟨rfl,rfl⟩;go_wp2_with fail
  go_enter func54,ntmps54;go_wp2_with fail
  go_enter func114,ntmps114;go_wp2_with fail
 ·refine g.out.mono ?_
  rintro e d ⟨rfl,rfl⟩;cases all
  all_goals
   go_wp2_with fail
   go_ret;go_wp2_with fail
   try(go_ret;go_wp2_with fail)
 ·go_ret
  go_wp2_with fail
  try(go_ret;go_wp2_with fail)
theorem Hm(pa:Pm)(D:Dl)(dc:Nat)(T:List U)(fds:List aC)(hO:rU D T fds)(hD:ca pa D fds)(u:U)(a:Option Addr)(c:Nat)(w:World)(hw:KW pa w)(s:bU w)(hu:ai pa D u a c)(I:∀C:BC,C.D=D→C.T=T→C.i=D.len→iq C u)(hi:isIface u=true)(J:cn u≤1099511627776)
 (L:bare (bare u)=bare u)(hf:(bare u).k=11→∃y,(bare u).un= [y]∧y.k≠16)(M:(bare u).k≠12)(N:(bare u).k≠13)(O:(under u).k=10→under (under u)=under u):
 Xk 9 #[Xd D dc,Xt u a c] w fun e w'=>(∃E cmp,Hid (gO (fu u) E cmp)∧e= .returned (.bool (!cmp&&dh E&&(an (fu u)).length==0)))∧Below w w w':=by
 have p:Below w w ((w.alloc (Xt u a c)).drew):=(zB.alloc zl _).drew;have n:bU ((w.alloc (Xt u a c)).drew):=fun k h1 h2=>az p (s k h1 h2);have P:=zh (Hc pa D dc T fds hO hD _ (hw.grown p) n);have t:=zh p;have Q:=zh I;have PM:=zh hu;have R:=zh J;have PN:=zh hi;have d:=zh (And.intro L (And.intro hf (And.intro M (And.intro N O))));clear hO hD hw s hu I hi J L hf M N O p n;go_enter func9,ntmps9;go_wp2_with fail
 refine oR (fun W=>(Xl W w u a c)) [(0,true),(2,true),(1,false),(3,false),(4,true)] (by(repeat' apply And.intro)<;>first|(simp[go_sem];done)|(go_keep;done)) (fun j=> ?_);repeat((first|refine oS ?_|refine oF j ?_);try simp only[Act.put,oa,ob,oc])
 refine oL fun K S=> ?_;go_simp;go_at_call 19
 refine P.out.mono ?_;rintro e1 w1 ⟨C,q,g,rfl,F,V,X,x,Y,Z,m⟩;have PU:w.heap.size<w1.heap.size:=by have:=m.size;simp at this;omega
 have z:=zh (t.out.trans (m.mono t.out.size));have PG:=zh (Ha C u (rQ C u (Q.out C F V X)) PN.out d.out.1 d.out.2.1 d.out.2.2.1 d.out.2.2.2.1 d.out.2.2.2.2 q g _ [] a c w1 Z (by simpa using R.out) (by rw[x,F];exact PM.out));have PH:=zh Y;obtain⟨s0,s1,s2,s3,s4,s5,s6⟩:=j;(try simp only[]);refine S _ _ (by(repeat' apply And.intro)<;>exact az m za) fun j=> ?_;clear S K;try simp only[Act.put,oa,ob,oc]
 clear s0 s1 s2 s3 s4 s5 s6 Z F V X x P m Y;repeat((first|refine oS ?_|refine oF j ?_);try simp only[Act.put,oa,ob,oc])
 refine oL fun K S=> ?_;go_simp;go_at_call 20
 refine PG.out.mono ?_;rintro e2 w2 ⟨b,q2,g2,rfl,PI,G,PO,PJ,r⟩;have PQ:=r.size;have PW:w.heap.size<C.B0:=by rw[PH.out];simp
 have PK:=zh (Below.own z.out (r.mono fun c _ h=>h) z.out.size fun c (h:C.B0≤c)=>by omega);have A:∀o v,Xc w1 w o v→Xc w2 w o v:=fun o v h=>by
  rw[r.cell (zb h) (fun h:C.B0≤w.heap.size=>by omega)];exact h
 obtain⟨s0,s1,PR,s3,s4,s5,s6⟩:=j;(try simp only[]);refine S _ _ (by(repeat' apply And.intro)<;>exact A _ _ za) fun j=> ?_;clear S K;try simp only[Act.put,oa,ob,oc]
 clear s0 s1 PR s3 s4 s5 s6 A;have H:=G.ifs b _ PI;have PS:cS q2 (g2.below b) b (fu u):=by
  rcases H.2.2.2 with h|⟨h,_⟩
  ·exact h
  ·cases h
 have B:=H.2.1;obtain⟨tb,ma,mc,f,ta,tc,E,cmp,t6,_,t1,_,_,_,_,t2,_,tl,tm,t3,tok,_⟩:=PS;have l:=G.wb.kw;have n0:=l _ _ _ B;have n6:=l _ _ _ t6;have n1:=l _ _ _ t1;have n2:=l _ _ _ t2;have n3:=l _ _ _ t3;have PT:=zh (Hl b tb E.length tc _ mc ta ma cmp (dh E) w2 n0 n6 n1 n2 n3 (Hk l ta tc E tl tm (tok.cP.imp id fun h=>h.2.1)));have PL:=zh tok;clear tok tm tl t1 t2 t3 t6 n0 n6 n1 n2 n3 l H G PI PO PJ r PG B;repeat((first|refine oS ?_|refine oF j ?_);try simp only[Act.put,oa,ob,oc])
 refine bZ ?_;clear j;go_wp2_with fail
 refine PT.out.mono ?_;rintro e3 w3 ⟨rfl,rfl⟩;go_wp2_with fail
 go_ret;exact⟨⟨E,cmp,PL,rfl⟩,PK.out⟩
end Go.Proofs.YtkochlhejabdcaaGreatDoor
