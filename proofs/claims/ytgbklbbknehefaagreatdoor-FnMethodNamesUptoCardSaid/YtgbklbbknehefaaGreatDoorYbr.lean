import Derived.Test.YtgbklbbknehefaaGreatDoorYbp
set_option maxRecDepth 100000
set_option maxHeartbeats 8000000
set_option linter.all false
namespace TS
theorem uC{D:Dl}{T:List U}{NS:List (List UInt8)}{i:Nat}(E:Env D T NS i){t:U}{pos f:Nat}{g:Bool}(h:b7 D T NS i t pos f)(c:t.k=10)
 (o:∀e∈t.es.drop t.m.toNat,mt T .elem e g=true)(hM:∀m∈t.es.take t.m.toNat,mt T .type m false=true):
 (∀m∈aj t,aM m)∧∀e∈t.es.drop t.m.toNat,aT e=true→∀m∈aj e,aM m:=by
 have hu:under t=t:=cB (by omega) (by omega) (by omega) (by omega);have d:∀e∈t.es.drop t.m.toNat,aT e=true→∀m∈aj e,aM m:=fun e he a=>by
  unfold aT at a;simp only[Bool.and_eq_true,bne_iff_ne,ne_eq]at a;have b:=o e he;rw[iU a.1.1]at b;simp only[Bool.and_eq_true]at b;have j:=b.1;rw[gJ a.1.2]at j;have hk:=h.elem c he;exact(jE E.ok E.bB E.mt e 2 2 _ i (Nat.le_refl _) hk.bB hk.pl (by omega) a.1.1 a.1.2 j).1
 refine⟨fun m hm=> ?_,d⟩;rcases(gI hm).2 with hm|⟨e,he,a,hm⟩
 ·rw[hu]at hm
  obtain⟨n,hk⟩:=h.ij c hm;have l:=hk.pl.form.aA;exact(jE E.ok E.bB E.mt m 0 n false i (Nat.le_refl _) hk.bB hk.pl hk.f2 l.1 l.2 (hM m hm)).2 (kg m 0 n hk.bB hk.pl hk.f2 l.1 l.2 (hM m hm))
 ·rw[hu]at he
  exact d e he a m hm
end TS
namespace Go.Proofs.YtgbklbbknehefaaGreatDoor
open Go.RowKit TS
theorem DE{D:Dl}{T:List U}{NS:List (List UInt8)}{i:Nat}(E:Env D T NS i)(p:Pm)(dc:Nat){t:U}{pos f:Nat}(h:b7 D T NS i t pos f)(I:t.k=10)(hM:∀x,x.sz<t.sz→gU D dc T NS i x)
 (hT:dX p D T)(g:Bool)(a:Option Addr)(c:Nat)(w:World)(hu:ai p D t a c)(hw:KW p w):
 Calls Tryz.prog 58 #[.slice D.a D.len dc,.agg #[.int .i64 t.k,.int .i64 t.n,.int .i64 t.m,.bool t.v,.string t.nm,.string t.tg,.slice a t.es.length c],.bool g] w (RB (mt T .type t g) w):=by
 obtain⟨r,hr⟩:∃r,r=mt T .type t g:=⟨_,rfl⟩
 rw[←hr];have hR:Hid (r=(((t.es.drop t.m.toNat).all fun e=>mt T .elem e g)&&(((t.es.take t.m.toNat).all fun e=>mt T .type e false)&&fO t&&decide (ch t≤50)))):=by unfold Hid;rw[hr];exact iV I
 clear hr;obtain⟨QB,Qr,h4⟩:=h.pl.form.jG I;have ag:Up p w (w.alloc (.cells #[.int .i64 t.k,.int .i64 t.n,.int .i64 t.m,.bool t.v,.string t.nm,.string t.tg,.slice a t.es.length c] 25)):=(Up.refl hw).alloc _;have Z:=hu.cap
 have Qh:=Lib.hid fun e (he:e∈t.es.drop t.m.toNat) W (z:KW p W) a' c' (S:ai p D e a' c')=>DD E p dc (h.elem I he) (hM e (U.au (List.mem_of_mem_drop he)))
  (fun x hx=>⟨hM x (by have:=U.au hx;have:=U.au (List.mem_of_mem_drop he);omega),fun y hy=>hM y (by have:=U.au hy;have:=U.au hx;have:=U.au (List.mem_of_mem_drop he);omega)⟩) hT g a' c' W S z
 have Qi:=Lib.hid fun e (he:e∈t.es.take t.m.toNat) a c W (S:ai p D e a c) (z:KW p W)=>show Calls Tryz.prog 28 #[.slice D.a D.len dc,.agg #[.int .i64 e.k,.int .i64 e.n,.int .i64 e.m,.bool e.v,.string e.nm,.string e.tg,.slice a e.es.length c],.bool false] W (RB (mt T .type e false) W)from
  let⟨f',hk⟩:=h.ij I he;hM e (U.au (List.mem_of_mem_take he)) false p 0 f' a c W hk hk.pl.form.aA.1 hk.pl.form.aA.2 hT S z
 have A:=fun W z n hn=>uy p D dc T (t.es.take t.m.toNat) a n c W hn Qi.out (hu.list.take _) (by simp;omega) z;obtain⟨f1,Qj,Qb,Qk⟩:=h.pl.iq h.f2 I;have M:=fun W z=>wR D dc t p 0 f1 a c W Qk Qj Qb (by omega) (by omega) h.dep hu z;have Qs:=Lib.hid fun(Ql:∀e∈t.es.drop t.m.toNat,mt T .elem e g=true) (Qe:∀m∈t.es.take t.m.toNat,mt T .type m false=true) W (z:KW p W)=>
  Dx p D dc NS E.cI t pos f a c W h.pl h.f2 I h.aB (uC E h I Ql Qe).1 (uC E h I Ql Qe).2 hu z
 have QC:max t.m 0=t.m:=by omega
 have Qv:t.m≤t.es.length:=by omega
 have Qw:¬t.m<0:=by omega
 have QD:=Z.1;have QE:=Z.2;have QF:t.m.toNat≤c:=by omega
 have Qx:t.m≤c:=by omega
 have Qm:t.m.toNat<c∨c=t.m.toNat:=by omega
 have Qy:((t.es.drop t.m.toNat).length:Int)≤4:=by simp;omega
 have R:=Lib.hid ag;clear hM h Qk Qj Qb Qi Z ag hT;have fin:∀(N:World),Up p w N→(N.cell? ⟨w.heap.size,0,none⟩=some (.int .i64 t.k)∧N.cell? ⟨w.heap.size,1,none⟩=some (.int .i64 t.n)∧N.cell? ⟨w.heap.size,2,none⟩=some (.int .i64 t.m)∧N.cell? ⟨w.heap.size,3,none⟩=some (.bool t.v)∧N.cell? ⟨w.heap.size,4,none⟩=some (.string t.nm)∧N.cell? ⟨w.heap.size,5,none⟩=some (.string t.tg)∧N.cell? ⟨w.heap.size,6,none⟩=some (.slice a t.es.length c))→(∀e∈t.es.drop t.m.toNat,mt T .elem e g=true)→Hid (Up p w N∧(N.cell? ⟨w.heap.size,0,none⟩=some (.int .i64 t.k)∧N.cell? ⟨w.heap.size,1,none⟩=some (.int .i64 t.n)∧N.cell? ⟨w.heap.size,2,none⟩=some (.int .i64 t.m)∧N.cell? ⟨w.heap.size,3,none⟩=some (.bool t.v)∧N.cell? ⟨w.heap.size,4,none⟩=some (.string t.nm)∧N.cell? ⟨w.heap.size,5,none⟩=some (.string t.tg)∧N.cell? ⟨w.heap.size,6,none⟩=some (.slice a t.es.length c))∧r=(((t.es.take t.m.toNat).all fun e=>mt T .type e false)&&fO t&&decide (ch t≤50))∧∀(Qe:∀m∈t.es.take t.m.toNat,mt T .type m false=true) W(z:KW p W),Calls Tryz.prog 101 #[.slice D.a D.len dc,.agg #[.int .i64 t.k,.int .i64 t.n,.int .i64 t.m,.bool t.v,.string t.nm,.string t.tg,.slice a t.es.length c]] W (RB (fO t) W)):=fun N h1 h2 h3=>
  ⟨h1,h2,by rw[hR.out,show((t.es.drop t.m.toNat).all fun e=>mt T .elem e g)=true from List.all_eq_true.2 h3,Bool.true_and],Qs.out h3⟩
 have Qn:=hR;clear hR I;rcases Qm with Qm|rfl
 ·go_enter Tryz.func58,Tryz.ntmps58
  go_wp2_with fail
  have hL:=hu.list.cut _ Qr;have hlen:(t.es.drop t.m.toNat).length=t.es.length- t.m.toNat:=by simp
  have Qo:((w.alloc (.cells #[.int .i64 t.k,.int .i64 t.n,.int .i64 t.m,.bool t.v,.string t.nm,.string t.tg,.slice a t.es.length c] 25)).cell? ⟨w.heap.size,0,none⟩=some (.int .i64 t.k)∧(w.alloc (.cells #[.int .i64 t.k,.int .i64 t.n,.int .i64 t.m,.bool t.v,.string t.nm,.string t.tg,.slice a t.es.length c] 25)).cell? ⟨w.heap.size,1,none⟩=some (.int .i64 t.n)∧(w.alloc (.cells #[.int .i64 t.k,.int .i64 t.n,.int .i64 t.m,.bool t.v,.string t.nm,.string t.tg,.slice a t.es.length c] 25)).cell? ⟨w.heap.size,2,none⟩=some (.int .i64 t.m)∧(w.alloc (.cells #[.int .i64 t.k,.int .i64 t.n,.int .i64 t.m,.bool t.v,.string t.nm,.string t.tg,.slice a t.es.length c] 25)).cell? ⟨w.heap.size,3,none⟩=some (.bool t.v)∧(w.alloc (.cells #[.int .i64 t.k,.int .i64 t.n,.int .i64 t.m,.bool t.v,.string t.nm,.string t.tg,.slice a t.es.length c] 25)).cell? ⟨w.heap.size,4,none⟩=some (.string t.nm)∧(w.alloc (.cells #[.int .i64 t.k,.int .i64 t.n,.int .i64 t.m,.bool t.v,.string t.nm,.string t.tg,.slice a t.es.length c] 25)).cell? ⟨w.heap.size,5,none⟩=some (.string t.tg)∧(w.alloc (.cells #[.int .i64 t.k,.int .i64 t.n,.int .i64 t.m,.bool t.v,.string t.nm,.string t.tg,.slice a t.es.length c] 25)).cell? ⟨w.heap.size,6,none⟩=some (.slice a t.es.length c)):=by
   repeat' apply And.intro
   all_goals simp[go_sem]
  have Qc:=Lib.hid Qo;clear Qo;generalize t.es.drop t.m.toNat=ds at*;generalize Qp:t.es.length- t.m.toNat=n2 at*;have Qz:=Lib.hid Qp;clear Qp;subst hlen;go_loopw [15] (fun i wr=> ∃k:Nat,k≤ds.length∧i= .int .i64 k∧(∀e∈ds.take k,mt T .elem e g=true)∧(wr.cell? ⟨w.heap.size,0,none⟩=some (.int .i64 t.k)∧wr.cell? ⟨w.heap.size,1,none⟩=some (.int .i64 t.n)∧wr.cell? ⟨w.heap.size,2,none⟩=some (.int .i64 t.m)∧wr.cell? ⟨w.heap.size,3,none⟩=some (.bool t.v)∧wr.cell? ⟨w.heap.size,4,none⟩=some (.string t.nm)∧wr.cell? ⟨w.heap.size,5,none⟩=some (.string t.tg)∧wr.cell? ⟨w.heap.size,6,none⟩=some (.slice a t.es.length c))∧Up p w wr) (fun i _=>ds.length- (intOf i).toNat)
  case atStart=>exact⟨0,Nat.zero_le _,rfl,(fun e he=>by simp at he),Qc.out,R.out⟩
  case round=>
   clear Qc R;obtain⟨k,hk,rfl,Qd,⟨x0,x1,x2,x3,x4,x5,x6⟩,hU⟩:=hrel;have Q:=Lib.hid Qd;clear Qd;have b0:=World.block_lt_of_cell? _ _ x0;simp only at b0;by_cases P_:k<ds.length
   ·obtain⟨b,o,Qf⟩:=hL.bt (by omega)
    rw[Qf]at hL;obtain⟨a5,c5,h7,S⟩:=hL.get k P_;have P4:=fun W z=>Qh.out ds[k] (List.getElem_mem P_) W z a5 c5 S;have J:Hid (mt T .elem ds[k] g=true→∀e∈ds.take (k+1),mt T .elem e g=true):=fun h1 e he=>by
     rw[List.take_succ_eq_append_getElem P_]at he;rcases List.mem_append.1 he with he|he
     ·exact Q.out e he
     ·simp at he;subst he;exact h1
    have K:Hid (mt T .elem ds[k] g=false→false=r):=fun h1=>by
     rw[Qn.out,show(ds.all fun e=>mt T .elem e g)=false from by rw[List.all_eq_false];exact⟨_,List.getElem_mem P_,by rw[h1];simp⟩];rfl
    obtain⟨e,he⟩:∃e,e=ds[k]:=⟨_,rfl⟩
    rw[←he]at h7 S P4 J K;clear he;obtain⟨g0,g1,g2,g3,g4,g5,g6⟩:(wr.cell? ⟨b,o+k*7,none⟩=some (.int .i64 e.k)∧wr.cell? ⟨b,o+k*7+1,none⟩=some (.int .i64 e.n)∧wr.cell? ⟨b,o+k*7+2,none⟩=some (.int .i64 e.m)∧wr.cell? ⟨b,o+k*7+3,none⟩=some (.bool e.v)∧wr.cell? ⟨b,o+k*7+4,none⟩=some (.string e.nm)∧wr.cell? ⟨b,o+k*7+5,none⟩=some (.string e.tg)∧wr.cell? ⟨b,o+k*7+6,none⟩=some (.slice a5 e.es.length c5)):=h7.world hU.kw;clear h7;have QA:(k:Int)<ds.length:=by omega
    have Qa:=hU.alloc (.cells #[.int .i64 e.k,.int .i64 e.n,.int .i64 e.m,.bool e.v,.string e.nm,.string e.tg,.slice a5 e.es.length c5] 25);have s7:((wr.alloc (.cells #[.int .i64 e.k,.int .i64 e.n,.int .i64 e.m,.bool e.v,.string e.nm,.string e.tg,.slice a5 e.es.length c5] 25)).cell? ⟨w.heap.size,0,none⟩=some (.int .i64 t.k)∧(wr.alloc (.cells #[.int .i64 e.k,.int .i64 e.n,.int .i64 e.m,.bool e.v,.string e.nm,.string e.tg,.slice a5 e.es.length c5] 25)).cell? ⟨w.heap.size,1,none⟩=some (.int .i64 t.n)∧(wr.alloc (.cells #[.int .i64 e.k,.int .i64 e.n,.int .i64 e.m,.bool e.v,.string e.nm,.string e.tg,.slice a5 e.es.length c5] 25)).cell? ⟨w.heap.size,2,none⟩=some (.int .i64 t.m)∧(wr.alloc (.cells #[.int .i64 e.k,.int .i64 e.n,.int .i64 e.m,.bool e.v,.string e.nm,.string e.tg,.slice a5 e.es.length c5] 25)).cell? ⟨w.heap.size,3,none⟩=some (.bool t.v)∧(wr.alloc (.cells #[.int .i64 e.k,.int .i64 e.n,.int .i64 e.m,.bool e.v,.string e.nm,.string e.tg,.slice a5 e.es.length c5] 25)).cell? ⟨w.heap.size,4,none⟩=some (.string t.nm)∧(wr.alloc (.cells #[.int .i64 e.k,.int .i64 e.n,.int .i64 e.m,.bool e.v,.string e.nm,.string e.tg,.slice a5 e.es.length c5] 25)).cell? ⟨w.heap.size,5,none⟩=some (.string t.tg)∧(wr.alloc (.cells #[.int .i64 e.k,.int .i64 e.n,.int .i64 e.m,.bool e.v,.string e.nm,.string e.tg,.slice a5 e.es.length c5] 25)).cell? ⟨w.heap.size,6,none⟩=some (.slice a t.es.length c)):=L7.alloc (w:=wr) (b:=w.heap.size) (u:=t) ⟨x0,x1,x2,x3,x4,x5,x6⟩ _;have Qt:=Lib.hid s7;clear s7;cases hm:mt T .elem e g
    ·have P5:=fun W z=>aP (P4 W z) hm
     have hF:=Lib.hid (K.out hm);clear P4 hm J K;simp only[Qf]at*;go_wp2_with fail
     refine(P5 _ Qa.kw).mono ?_;rintro V l ⟨rfl,j⟩;have X:=Lib.hid (Qa.step j).up;clear j P5;go_wp2_with fail
     go_ret;exact⟨_,rfl,hF.out,X.out⟩
    ·have P5:=fun W z=>aP (P4 W z) hm
     have hN:=Lib.hid (J.out hm);clear P4 hm J K;simp only[Qf]at*;go_wp2_with fail
     refine(P5 _ Qa.kw).mono ?_;rintro V l ⟨rfl,j⟩;have B:=Lib.hid (Qa.step j);have s8:(l.cell? ⟨w.heap.size,0,none⟩=some (.int .i64 t.k)∧l.cell? ⟨w.heap.size,1,none⟩=some (.int .i64 t.n)∧l.cell? ⟨w.heap.size,2,none⟩=some (.int .i64 t.m)∧l.cell? ⟨w.heap.size,3,none⟩=some (.bool t.v)∧l.cell? ⟨w.heap.size,4,none⟩=some (.string t.nm)∧l.cell? ⟨w.heap.size,5,none⟩=some (.string t.tg)∧l.cell? ⟨w.heap.size,6,none⟩=some (.slice a t.es.length c)):=L7.below (w:=wr.alloc (.cells #[.int .i64 e.k,.int .i64 e.n,.int .i64 e.m,.bool e.v,.string e.nm,.string e.tg,.slice a5 e.es.length c5] 25)) (b:=w.heap.size) (u:=t) Qt.out j;have Qu:=Lib.hid s8;clear j P5 s8;go_wp2_with fail
     go_roundw
     case rel=>exact⟨k+1,by omega,by go_num,hN.out,Qu.out,B.out⟩
     case measure=>simp only[intOf];omega
   ·have hX:=fin _ hU ⟨x0,x1,x2,x3,x4,x5,x6⟩ (fun e he=>Q.out e (by rw[List.take_of_length_le (by omega)];exact he))
    clear x0 x1 x2 x3 x4 x5 x6 hU Q fin;obtain⟨q,⟨x0,x1,x2,x3,x4,x5,x6⟩,P6,O⟩:=hX.out;have G:=Lib.hid P6;have H:=Lib.hid O;clear P6 O hX;cases L:(t.es.take t.m.toNat).all fun e=>mt T .type e false
    ·have d:=fun W z n hn=>aP (A W z n hn) L
     have hF:Hid (false=r):=by unfold Hid;rw[G.out,L];rfl
     clear A L M H;go_wp2_with fail
     refine(d _ q.kw _ (by simp;try omega)).mono ?_;rintro V l ⟨rfl,j⟩;have X:=Lib.hid (q.step j).up;clear j d;go_wp2_with fail
     go_ret;exact⟨_,rfl,hF.out,X.out⟩
    have d:=fun W z n hn=>aP (A W z n hn) L;have C:=H.out (List.all_eq_true.1 L);clear H;cases Y:fO t
    ·have s:=fun W z=>aP (C W z) Y
     have hF:Hid (false=r):=by unfold Hid;rw[G.out,L,Y];rfl
     clear A L M C Y;go_wp2_with fail
     refine(d _ q.kw _ (by simp;try omega)).mono ?_;rintro V l ⟨rfl,j⟩;have B:=q.step j;obtain⟨y0,y1,y2,y3,y4,y5,y6⟩:(l.cell? ⟨w.heap.size,0,none⟩=some (.int .i64 t.k)∧l.cell? ⟨w.heap.size,1,none⟩=some (.int .i64 t.n)∧l.cell? ⟨w.heap.size,2,none⟩=some (.int .i64 t.m)∧l.cell? ⟨w.heap.size,3,none⟩=some (.bool t.v)∧l.cell? ⟨w.heap.size,4,none⟩=some (.string t.nm)∧l.cell? ⟨w.heap.size,5,none⟩=some (.string t.tg)∧l.cell? ⟨w.heap.size,6,none⟩=some (.slice a t.es.length c)):=by
      repeat' apply And.intro
      all_goals exact TS.cell_kept j (by assumption)
     clear j d q;go_wp2_with fail
     refine(s _ B.kw).mono ?_;rintro V P ⟨rfl,F⟩;have X:=Lib.hid (B.step F).up;clear F s;go_wp2_with fail
     go_ret;exact⟨_,rfl,hF.out,X.out⟩
    have s:=fun W z=>aP (C W z) Y;have hF:Hid (decide (ch t≤50)=r):=by unfold Hid;rw[G.out,L,Y];rfl
    generalize ch t=wt at*;clear A L C Y;go_wp2_with fail
    refine(d _ q.kw _ (by simp;try omega)).mono ?_;rintro V l ⟨rfl,j⟩;have B:=q.step j;obtain⟨y0,y1,y2,y3,y4,y5,y6⟩:(l.cell? ⟨w.heap.size,0,none⟩=some (.int .i64 t.k)∧l.cell? ⟨w.heap.size,1,none⟩=some (.int .i64 t.n)∧l.cell? ⟨w.heap.size,2,none⟩=some (.int .i64 t.m)∧l.cell? ⟨w.heap.size,3,none⟩=some (.bool t.v)∧l.cell? ⟨w.heap.size,4,none⟩=some (.string t.nm)∧l.cell? ⟨w.heap.size,5,none⟩=some (.string t.tg)∧l.cell? ⟨w.heap.size,6,none⟩=some (.slice a t.es.length c)):=by
     repeat' apply And.intro
     all_goals exact TS.cell_kept j (by assumption)
    clear j d q x0 x1 x2 x3 x4 x5 x6;go_wp2_with fail
    refine(s _ B.kw).mono ?_;rintro V P ⟨rfl,F⟩;have P7:=B.step F;obtain⟨x0,x1,x2,x3,x4,x5,x6⟩:(P.cell? ⟨w.heap.size,0,none⟩=some (.int .i64 t.k)∧P.cell? ⟨w.heap.size,1,none⟩=some (.int .i64 t.n)∧P.cell? ⟨w.heap.size,2,none⟩=some (.int .i64 t.m)∧P.cell? ⟨w.heap.size,3,none⟩=some (.bool t.v)∧P.cell? ⟨w.heap.size,4,none⟩=some (.string t.nm)∧P.cell? ⟨w.heap.size,5,none⟩=some (.string t.tg)∧P.cell? ⟨w.heap.size,6,none⟩=some (.slice a t.es.length c)):=by
     repeat' apply And.intro
     all_goals exact TS.cell_kept F (by assumption)
    clear F s B y0 y1 y2 y3 y4 y5 y6;go_wp2_with fail
    refine(M _ P7.kw).mono ?_;rintro V w5 ⟨⟨nx,rfl,Qg⟩,P8⟩;have P9:=Qg.out;subst P9;have X:=Lib.hid (P7.step P8).up;clear P8 M;go_wp2_with fail
    go_ret;exact⟨_,rfl,hF.out,X.out⟩
 ·have Qq:t.es.drop t.m.toNat= []:=List.drop_eq_nil_of_le (by omega)
  have hX:=fin _ R.out (by repeat' apply And.intro
                           all_goals simp[go_sem]) (fun e he=>by rw[Qq]at he;cases he)
  clear Qq fin R Qn Qh;obtain⟨q,⟨x0,x1,x2,x3,x4,x5,x6⟩,P6,O⟩:=hX.out;have G:=Lib.hid P6;have H:=Lib.hid O;clear P6 O hX;cases L:(t.es.take t.m.toNat).all fun e=>mt T .type e false
  ·have d:=fun W z n hn=>aP (A W z n hn) L
   have hF:Hid (false=r):=by unfold Hid;rw[G.out,L];rfl
   clear A L M H;go_enter Tryz.func58,Tryz.ntmps58;go_wp2_with fail
   refine wp_loop_rounds 1 ?_;rw[rounds_succ];go_wp2_with fail
   refine(d _ q.kw _ (by simp;try omega)).mono ?_;rintro V l ⟨rfl,j⟩;have X:=Lib.hid (q.step j).up;clear j d;go_wp2_with fail
   go_ret;exact⟨_,rfl,hF.out,X.out⟩
  have d:=fun W z n hn=>aP (A W z n hn) L;have C:=H.out (List.all_eq_true.1 L);clear H;cases Y:fO t
  ·have s:=fun W z=>aP (C W z) Y
   have hF:Hid (false=r):=by unfold Hid;rw[G.out,L,Y];rfl
   clear A L M C Y;go_enter Tryz.func58,Tryz.ntmps58;go_wp2_with fail
   refine wp_loop_rounds 1 ?_;rw[rounds_succ];go_wp2_with fail
   refine(d _ q.kw _ (by simp;try omega)).mono ?_;rintro V l ⟨rfl,j⟩;have B:=q.step j;obtain⟨y0,y1,y2,y3,y4,y5,y6⟩:(l.cell? ⟨w.heap.size,0,none⟩=some (.int .i64 t.k)∧l.cell? ⟨w.heap.size,1,none⟩=some (.int .i64 t.n)∧l.cell? ⟨w.heap.size,2,none⟩=some (.int .i64 t.m)∧l.cell? ⟨w.heap.size,3,none⟩=some (.bool t.v)∧l.cell? ⟨w.heap.size,4,none⟩=some (.string t.nm)∧l.cell? ⟨w.heap.size,5,none⟩=some (.string t.tg)∧l.cell? ⟨w.heap.size,6,none⟩=some (.slice a t.es.length t.m.toNat)):=by
    repeat' apply And.intro
    all_goals exact TS.cell_kept j (by assumption)
   clear j d q;go_wp2_with fail
   refine(s _ B.kw).mono ?_;rintro V P ⟨rfl,F⟩;have X:=Lib.hid (B.step F).up;clear F s;go_wp2_with fail
   go_ret;exact⟨_,rfl,hF.out,X.out⟩
  have s:=fun W z=>aP (C W z) Y;have hF:Hid (decide (ch t≤50)=r):=by unfold Hid;rw[G.out,L,Y];rfl
  generalize ch t=wt at*;clear A L C Y;go_enter Tryz.func58,Tryz.ntmps58;go_wp2_with fail
  refine wp_loop_rounds 1 ?_;rw[rounds_succ];go_wp2_with fail
  refine(d _ q.kw _ (by simp;try omega)).mono ?_;rintro V l ⟨rfl,j⟩;have B:=q.step j;obtain⟨y0,y1,y2,y3,y4,y5,y6⟩:(l.cell? ⟨w.heap.size,0,none⟩=some (.int .i64 t.k)∧l.cell? ⟨w.heap.size,1,none⟩=some (.int .i64 t.n)∧l.cell? ⟨w.heap.size,2,none⟩=some (.int .i64 t.m)∧l.cell? ⟨w.heap.size,3,none⟩=some (.bool t.v)∧l.cell? ⟨w.heap.size,4,none⟩=some (.string t.nm)∧l.cell? ⟨w.heap.size,5,none⟩=some (.string t.tg)∧l.cell? ⟨w.heap.size,6,none⟩=some (.slice a t.es.length t.m.toNat)):=by
   repeat' apply And.intro
   all_goals exact TS.cell_kept j (by assumption)
  clear j d q x0 x1 x2 x3 x4 x5 x6;go_wp2_with fail
  refine(s _ B.kw).mono ?_;rintro V P ⟨rfl,F⟩;have P7:=B.step F;obtain⟨x0,x1,x2,x3,x4,x5,x6⟩:(P.cell? ⟨w.heap.size,0,none⟩=some (.int .i64 t.k)∧P.cell? ⟨w.heap.size,1,none⟩=some (.int .i64 t.n)∧P.cell? ⟨w.heap.size,2,none⟩=some (.int .i64 t.m)∧P.cell? ⟨w.heap.size,3,none⟩=some (.bool t.v)∧P.cell? ⟨w.heap.size,4,none⟩=some (.string t.nm)∧P.cell? ⟨w.heap.size,5,none⟩=some (.string t.tg)∧P.cell? ⟨w.heap.size,6,none⟩=some (.slice a t.es.length t.m.toNat)):=by
   repeat' apply And.intro
   all_goals exact TS.cell_kept F (by assumption)
  clear F s B y0 y1 y2 y3 y4 y5 y6;go_wp2_with fail
  refine(M _ P7.kw).mono ?_;rintro V w5 ⟨⟨nx,rfl,Qg⟩,P8⟩;have P9:=Qg.out;subst P9;have X:=Lib.hid (P7.step P8).up;clear P8 M;go_wp2_with fail
  go_ret;exact⟨_,rfl,hF.out,X.out⟩
end Go.Proofs.YtgbklbbknehefaaGreatDoor
namespace Go.Proofs.YtgbklbbknehefaaGreatDoor
open Go.RowKit TS
theorem pz{D:Dl}{T:List U}{NS:List (List UInt8)}{i:Nat}(E:Env D T NS i)(dc:Nat):∀u,gU D dc T NS i u:=by
 intro u;induction u using U.bg with
 |_ u ih=>
  intro g p pos f a c w h z M hT hu hw;have ag:Up p w (w.alloc (.cells #[.int .i64 u.k,.int .i64 u.n,.int .i64 u.m,.bool u.v,.string u.nm,.string u.tg,.slice a u.es.length c] 25)):=(Up.refl hw).alloc _;by_cases h2:u.k=2
  ·have P:(u.k==2)=true:=by simp[h2]
   have h1:=h.pl.form.eQ h2;obtain⟨e,he⟩:=cT h1;have A:=h.lQ (by omega) z 0 (by omega);have N:u.es[0]'(by omega)=e:=by simp[he]
   rw[N]at A;obtain⟨b,o,rfl⟩:=hu.list.bt (by omega);obtain⟨a',c',h7,s⟩:=hu.list.get 0 (by omega);simp only[N,Nat.zero_mul,Nat.add_zero]at h7 s;have B:=A.pl.form.aA;have C:=fun W l=>ih e (U.au (by rw[he];simp)) g p 0 _ a' c' W A B.1 B.2 hT s l;have F:Hid (mt T .type u g=mt T .type e g):=by unfold Hid;rw[kd h2,he];simp
   have Y:0<u.es.length:=by omega
   have Q:(0:Int)<u.es.length:=by omega
   obtain⟨z0,Z,z2,z3,z4,z5,z6⟩:(w.cell? ⟨b,o,none⟩=some (.int .i64 e.k)∧w.cell? ⟨b,o+1,none⟩=some (.int .i64 e.n)∧w.cell? ⟨b,o+2,none⟩=some (.int .i64 e.m)∧w.cell? ⟨b,o+3,none⟩=some (.bool e.v)∧w.cell? ⟨b,o+4,none⟩=some (.string e.nm)∧w.cell? ⟨b,o+5,none⟩=some (.string e.tg)∧w.cell? ⟨b,o+6,none⟩=some (.slice a' e.es.length c')):=h7.world hw;have hb:=hw.lt h7.1;have R:=Lib.hid he;rw[F.out];clear he h7 N h1 h2 ih A h F B;go_enter Tryz.func28,Tryz.ntmps28;go_wp2_with fail
   refine(C _ ag.kw).mono ?_;rintro G q ⟨x,rfl,t,aa⟩;have y:=Lib.hid (ag.step aa).up;clear aa C;go_wp2_with fail
   go_ret;exact⟨_,rfl,t,y.out⟩
  have P:(u.k==2)=false:=by simp[h2]
  by_cases d:u.k=10
  ·have bC:(u.k==10)=true:=by simp[d]
   have C:=fun W l=>DE E p dc h d (fun x t=>ih x t) hT g a c W hu l;clear h h2 d ih;go_enter Tryz.func28,Tryz.ntmps28;go_wp2_with fail
   refine(C _ ag.kw).mono ?_;rintro G q ⟨x,rfl,t,aa⟩;have y:=Lib.hid (ag.step aa).up;clear aa C;go_wp2_with fail
   go_ret;exact⟨_,rfl,t,y.out⟩
  have bC:(u.k==10)=false:=by simp[d]
  have K:=fun W l=>DA E p dc h h2 d z M hT a c W hu l;have F:Hid (mt T .type u g=((g|| !aW (cQ T u))&&u.es.all fun e=>mt T .type e false)):=lA h2 d;have H:=hu.cap;have L:=fun W l=>uy p D dc T u.es a u.es.length c W rfl (fun e he a' c' S s O=>by
   obtain⟨j,V,rfl⟩:=List.getElem_of_mem he;have A:=h.lQ d z j V;have B:=A.pl.form.aA;exact ih _ (U.au he) false p 0 _ a' c' S A B.1 B.2 hT s O) hu.list (by omega) l
  rw[F.out];generalize aW (cQ T u)=X at*;generalize (u.es.all fun e=>mt T .type e false)=al at*;clear h h2 d ih F H;cases g
  case true=>
   go_enter Tryz.func28,Tryz.ntmps28;go_wp2_with fail
   refine(L _ ag.kw).mono ?_;rintro G q ⟨x,rfl,t,aa⟩;have y:=Lib.hid (ag.step aa).up;clear aa L;go_wp2_with fail
   go_ret;exact⟨_,rfl,t.out,y.out⟩
  cases X
  case true=>
   have r:=fun W l=>aP (K W l) rfl;clear K;go_enter Tryz.func28,Tryz.ntmps28;go_wp2_with fail
   refine(r _ ag.kw).mono ?_;rintro G q ⟨rfl,aa⟩;have y:=Lib.hid (ag.step aa).up;clear aa r;go_wp2_with fail
   go_ret;exact⟨_,rfl,rfl,y.out⟩
  have r:=fun W l=>aP (K W l) rfl;clear K;go_enter Tryz.func28,Tryz.ntmps28;go_wp2_with fail
  refine(r _ ag.kw).mono ?_;rintro G q ⟨rfl,aa⟩;have I:=ag.step aa;obtain⟨x0,x1,x2,x3,x4,x5,x6⟩:(q.cell? ⟨w.heap.size,0,none⟩=some (.int .i64 u.k)∧q.cell? ⟨w.heap.size,1,none⟩=some (.int .i64 u.n)∧q.cell? ⟨w.heap.size,2,none⟩=some (.int .i64 u.m)∧q.cell? ⟨w.heap.size,3,none⟩=some (.bool u.v)∧q.cell? ⟨w.heap.size,4,none⟩=some (.string u.nm)∧q.cell? ⟨w.heap.size,5,none⟩=some (.string u.tg)∧q.cell? ⟨w.heap.size,6,none⟩=some (.slice a u.es.length c)):=by
   repeat' apply And.intro
   all_goals exact TS.cell_kept aa (by first|(simp[go_sem];done)|(go_keep;done))
  clear aa r ag;go_wp2_with fail
  refine(L _ I.kw).mono ?_;rintro G w2 ⟨x,rfl,t,J⟩;have y:=Lib.hid (I.step J).up;clear J L;go_wp2_with fail
  go_ret;exact⟨_,rfl,t.out,y.out⟩
theorem DF(p:Pm)(D:Dl)(dc:Nat)(m:cA)(x:Bool)(a:Option Addr)(c:Nat)(w:World)(e:∀W,KW p W→Calls Tryz.prog 28 #[.slice D.a D.len dc,.agg #[.int .i64 m.sig.k,.int .i64 m.sig.n,.int .i64 m.sig.m,.bool m.sig.v,.string m.sig.nm,.string m.sig.tg,.slice a m.sig.es.length c],.bool false] W (RB x W))(hw:KW p w)(f:Nat)
 (h1:w.cell? ⟨f,0,none⟩=some (.slice D.a D.len dc)):
 Calls Tryz.prog 53 #[.agg #[.string m.nm,.bool m.ptr,.int .i64 m.sig.k,.int .i64 m.sig.n,.int .i64 m.sig.m,.bool m.sig.v,.string m.sig.nm,.string m.sig.tg,.slice a m.sig.es.length c],.pointer (some ⟨f,0,none⟩)] w (RB (!x) w):=by
 have b1:=World.block_lt_of_cell? _ _ h1;simp only at b1;have ag:Up p w (w.alloc (.cells #[.string m.nm,.bool m.ptr,.int .i64 m.sig.k,.int .i64 m.sig.n,.int .i64 m.sig.m,.bool m.sig.v,.string m.sig.nm,.string m.sig.tg,.slice a m.sig.es.length c] 81)):=(Up.refl hw).alloc _;go_enter Tryz.func53,Tryz.ntmps53;go_wp2_with fail
 refine(e _ ag.kw).mono ?_;rintro h i ⟨b,rfl,g,aa⟩;have d:=(ag.step aa).up;have hF:Hid ((!b)= !x):=by unfold Hid;rw[g.out]
 clear g aa e;go_wp2_with fail
 go_ret;exact⟨_,rfl,hF,d⟩
theorem DG(p:Pm)(D:Dl)(dc:Nat)(T:List U)(d:aH)(a:Option Addr)(c:Nat)(l:Option Addr)(j:Nat)(w:World)
 (u:∀W,KW p W→Calls Tryz.prog 28 #[.slice D.a D.len dc,.agg #[.int .i64 d.un.k,.int .i64 d.un.n,.int .i64 d.un.m,.bool d.un.v,.string d.un.nm,.string d.un.tg,.slice a d.un.es.length c],.bool true] W (RB (mt T .type d.un true) W))
 (x:∀m∈d.ms,∀a c W,ai p D m.sig a c→KW p W→Calls Tryz.prog 28 #[.slice D.a D.len dc,.agg #[.int .i64 m.sig.k,.int .i64 m.sig.n,.int .i64 m.sig.m,.bool m.sig.v,.string m.sig.nm,.string m.sig.tg,.slice a m.sig.es.length c],.bool false] W (RB (mt T .type m.sig false) W))
 (hm:dn p D d.ms l)(o:d.ms.length≤j∧j≤1048576)(hw:KW p w):
 Calls Tryz.prog 25 #[.slice D.a D.len dc,.agg #[.int .i64 d.un.k,.int .i64 d.un.n,.int .i64 d.un.m,.bool d.un.v,.string d.un.nm,.string d.un.tg,.slice a d.un.es.length c,.slice l d.ms.length j]] w (RB (fm T d) w):=by
 have I:=Lib.hid (show ∀args w,(callFunc 53 args).run Tryz.prog w= .ok (.enter 53 args) w from dI Tryz.func53 (by kernel_rfl) rfl);have J:∀(fn:Fn)(first cap:Array Value)(w:World),(Instr.makeFunc fn first cap).run Tryz.prog w= .ok (.func fn first cap) w:=fun _ _ _ _=>rfl;have ag:Up p w ((w.alloc (.cells #[.slice D.a D.len dc] 22)).alloc (.cells #[.int .i64 d.un.k,.int .i64 d.un.n,.int .i64 d.un.m,.bool d.un.v,.string d.un.nm,.string d.un.tg,.slice a d.un.es.length c,.slice l d.ms.length j] 56)):=((Up.refl hw).alloc _).alloc _;obtain⟨r,hr⟩:∃r,r=fm T d:=⟨_,rfl⟩
 rw[←hr];cases e:mt T .type d.un true
 ·have f:=fun W q=>aP (u W q) e
  have hF:Hid (false=r):=by unfold Hid;rw[hr,fm,e];rfl
  clear u e hr x o;go_enter Tryz.func25,Tryz.ntmps25;go_wp2_with fail
  refine(f _ ag.kw).mono ?_;rintro E g ⟨rfl,aa⟩;have y:=Lib.hid (ag.step aa).up;clear aa f;go_wp2_with fail
  go_ret;exact⟨_,rfl,hF.out,y.out⟩
 have f:=fun W q=>aP (u W q) e;have hF:Hid (r= !(d.ms.any fun m=> !mt T .type m.sig false)):=by unfold Hid;rw[hr,fm,e];simp[List.not_any_eq_all_not]
 have F:=Lib.hid fun W (q:KW p W) lb H=>qE d.ms.length p D d.ms rfl l j 53 lb (fun m=> !mt T .type m.sig false) W q hm (by omega) I.out H;have z:=Lib.hid x;clear u e hr x o;go_enter Tryz.func25,Tryz.ntmps25;go_wp2_with fail
 refine(f _ ag.kw).mono ?_;rintro E g ⟨rfl,aa⟩;have h:=ag.step aa;have c0:g.cell? ⟨w.heap.size,0,none⟩=some (.slice D.a D.len dc):=TS.cell_kept aa (by simp[go_sem]);obtain⟨L,M,N,O,P,Q,R,S⟩:(g.cell? ⟨w.heap.size+1,0,none⟩=some (.int .i64 d.un.k)∧g.cell? ⟨w.heap.size+1,1,none⟩=some (.int .i64 d.un.n)∧g.cell? ⟨w.heap.size+1,2,none⟩=some (.int .i64 d.un.m)∧g.cell? ⟨w.heap.size+1,3,none⟩=some (.bool d.un.v)∧g.cell? ⟨w.heap.size+1,4,none⟩=some (.string d.un.nm)∧g.cell? ⟨w.heap.size+1,5,none⟩=some (.string d.un.tg)∧g.cell? ⟨w.heap.size+1,6,none⟩=some (.slice a d.un.es.length c)∧g.cell? ⟨w.heap.size+1,7,none⟩=some (.slice l d.ms.length j)):=by
  repeat' apply And.intro
  all_goals exact TS.cell_kept aa (by first|(simp[go_sem];done)|(go_keep;done))
 clear aa f ag;go_wp2_with fail
 refine(F.out _ h.kw _ ?_).mono ?_
 ·intro i hi W a' c' s A
  exact DF p D dc d.ms[i] _ a' c' W (fun K B=>z.out _ (List.getElem_mem hi) a' c' K A B) (h.kw.grown s) _ (TS.cell_kept s c0)
 rintro E V ⟨b,rfl,G,t⟩;have y:=Lib.hid (h.step t).up;have C:Hid ((!b)=r):=by unfold Hid;rw[G.out];exact hF.out.symm
 clear G t F;go_wp2_with fail
 go_ret;exact⟨_,rfl,C.out,y.out⟩
theorem DH(p:Pm)(D:Dl)(es:List aH)(dc g:Nat)(lb:Array Value)(P:aH→Bool)(w:World)(hw:KW p w)(z:cU p D es)(L:(es.length:Int)≤1048576)
 (M:∀args w,(callFunc g args).run Tryz.prog w= .ok (.enter g args) w)
 (H:∀i(h:i<es.length) W a' c' s j,(∀x∈es.take i,P x=false)→Below w.heap.size w W→ai p D es[i].un a' c'→dn p D es[i].ms s→es[i].ms.length≤j∧j≤1048576→Calls Tryz.prog g (#[.agg #[.int .i64 es[i].un.k,.int .i64 es[i].un.n,.int .i64 es[i].un.m,.bool es[i].un.v,.string es[i].un.nm,.string es[i].un.tg,.slice a' es[i].un.es.length c',.slice s es[i].ms.length j]]++lb) W (RB (P es[i]) W)):
 Calls Tryz.prog 52 #[.slice D.a D.len dc,.func (.func g) #[] lb] w fun e A=>(∃k:Nat,e= .returned (.int .i64 k)∧∃h:k<es.length,P es[k]=true)∧Below w.heap.size w A∨(e= .returned (.int .i64 (-1))∧∀x∈es,P x=false)∧Below w.heap.size w A:=by
 have J:=Lib.hid H;clear H;have hlen:=z.len;obtain⟨N,O⟩:=D;simp only at hlen;subst hlen;go_enter Tryz.func52,Tryz.ntmps52;go_wp2_with fail
 go_loopw [8] (fun t wr=> ∃k:Nat,k≤es.length∧t= .int .i64 k∧(∀x∈es.take k,P x=false)∧Below w.heap.size w wr) (fun t _=>es.length- (intOf t).toNat)
 case atStart=>exact⟨0,Nat.zero_le _,rfl,by simp,Below.refl _ _⟩
 case round=>
  obtain⟨k,hk,rfl,d,c⟩:=hrel;by_cases f:k<es.length
  ·obtain⟨b,o,l⟩:=z.bt (by omega)
   simp only at l;subst l;obtain⟨a',c',s,j,h7,E,hu,B,C,hm⟩:=z.get rfl k f;have K:=J.out k f wr a' c' s j d c hu hm ⟨B,C⟩;have q:=hw.grown c;have r:=Lib.hid d;clear d;generalize F:es[k]=x at*;obtain⟨g0,g1,g2,g3,g4,g5,g6⟩:(wr.cell? ⟨b,o+k*8,none⟩=some (.int .i64 x.un.k)∧wr.cell? ⟨b,o+k*8+1,none⟩=some (.int .i64 x.un.n)∧wr.cell? ⟨b,o+k*8+2,none⟩=some (.int .i64 x.un.m)∧wr.cell? ⟨b,o+k*8+3,none⟩=some (.bool x.un.v)∧wr.cell? ⟨b,o+k*8+4,none⟩=some (.string x.un.nm)∧wr.cell? ⟨b,o+k*8+5,none⟩=some (.string x.un.tg)∧wr.cell? ⟨b,o+k*8+6,none⟩=some (.slice a' x.un.es.length c')):=h7.world q;have gs:=q _ _ _ E;clear h7 E;go_wp2_with fail
   refine K.mono ?_;rintro e A ⟨bb,rfl,G,I⟩;cases bb<;>go_wp2_with fail
   ·go_roundw
    case rel=>
     refine⟨k+1,by omega,by go_num,?_,c.trans (I.mono c.size)⟩;intro y u;rw[List.take_succ_eq_append_getElem f,List.mem_append,List.mem_singleton,F]at u;rcases u with u|rfl
     ·exact r.out y u
     ·exact G.out.symm
    case measure=>simp[intOf];omega
   ·go_ret
    exact .inl ⟨⟨k,rfl,f,by rw[F];exact G.out.symm⟩,c.trans (I.mono c.size)⟩
  ·go_wp2_with fail
   go_ret;rw[List.take_of_length_le (by omega)]at d;exact .inr ⟨⟨rfl,d⟩,c⟩
theorem DI(p:Pm)(D:Dl)(es:List aH)(dc g:Nat)(lb:Array Value)(P:aH→Bool)(w:World)(hw:KW p w)(l:cU p D es)(o:(es.length:Int)≤1048576)
 (q:∀args w,(callFunc g args).run Tryz.prog w= .ok (.enter g args) w)
 (H:∀i(h:i<es.length) W a' c' j c,(∀x∈es.take i,P x=false)→Below w.heap.size w W→ai p D es[i].un a' c'→dn p D es[i].ms j→es[i].ms.length≤c∧c≤1048576→Calls Tryz.prog g (#[.agg #[.int .i64 es[i].un.k,.int .i64 es[i].un.n,.int .i64 es[i].un.m,.bool es[i].un.v,.string es[i].un.nm,.string es[i].un.tg,.slice a' es[i].un.es.length c',.slice j es[i].ms.length c]]++lb) W (RB (P es[i]) W)):
 Calls Tryz.prog 23 #[.slice D.a D.len dc,.func (.func g) #[] lb] w (RB (es.any P) w):=by
 have r:=Lib.hid (DH p D es dc g lb P w hw l o q H);clear H;go_enter Tryz.func23,Tryz.ntmps23;go_wp2_with fail
 refine r.out.mono ?_;rintro e t (⟨⟨k,rfl,hk,b⟩,d⟩|⟨⟨rfl,b⟩,d⟩)
 ·have f:Hid (true=es.any P):=(List.any_eq_true.2 ⟨_,List.getElem_mem hk,b⟩).symm
  clear b;go_wp2_with fail
  go_ret;exact⟨_,rfl,f,d⟩
 ·have f:Hid (false=es.any P):=(List.any_eq_false.2 fun x s=>by simp[b x s]).symm
  clear b;go_wp2_with fail
  go_ret;exact⟨_,rfl,f,d⟩
theorem DJ(p:Pm)(D:Dl)(dc:Nat)(d:aH)(x:Bool)(a:Option Addr)(c:Nat)(e:Option Addr)(f:Nat)(w:World)(h:∀W,KW p W→Calls Tryz.prog 25 #[.slice D.a D.len dc,.agg #[.int .i64 d.un.k,.int .i64 d.un.n,.int .i64 d.un.m,.bool d.un.v,.string d.un.nm,.string d.un.tg,.slice a d.un.es.length c,.slice e d.ms.length f]] W (RB x W))(hw:KW p w)(i:Nat)
 (h1:w.cell? ⟨i,0,none⟩=some (.slice D.a D.len dc)):
 Calls Tryz.prog 24 #[.agg #[.int .i64 d.un.k,.int .i64 d.un.n,.int .i64 d.un.m,.bool d.un.v,.string d.un.nm,.string d.un.tg,.slice a d.un.es.length c,.slice e d.ms.length f],.pointer (some ⟨i,0,none⟩)] w (RB (!x) w):=by
 have b1:=World.block_lt_of_cell? _ _ h1;simp only at b1;have ag:Up p w (w.alloc (.cells #[.int .i64 d.un.k,.int .i64 d.un.n,.int .i64 d.un.m,.bool d.un.v,.string d.un.nm,.string d.un.tg,.slice a d.un.es.length c,.slice e d.ms.length f] 56)):=(Up.refl hw).alloc _;go_enter Tryz.func24,Tryz.ntmps24;go_wp2_with fail
 refine(h _ ag.kw).mono ?_;rintro l o ⟨b,rfl,j,aa⟩;have g:=(ag.step aa).up;have hF:Hid ((!b)= !x):=by unfold Hid;rw[j.out]
 clear j aa h;go_wp2_with fail
 go_ret;exact⟨_,rfl,hF,g⟩
structure fw(D:Dl)(ds:List aH):Prop where
 pl:∀k(h:k<ds.length),dq D.len k ds[k]=true
 mt:∀d∈bV ds,fm (aR ds) d=true
theorem DK{D:Dl}{ds:List aH}{NS:List (List UInt8)}(R:Raw NS ds)(hlen:ds.length=D.len)(F:∀k(h:k<ds.length),dq D.len k ds[k]=true)(p:Pm)(dc:Nat)(H:cU p D ds)(i:Nat)(hi:i<(bV ds).length)
 (w:∀x∈(bV ds).take i,(!fm (aR ds) x)=false)(a:Option Addr)(c:Nat)(y:Option Addr)(s:Nat)(hu:ai p D (bV ds)[i].un a c)(hm:dn p D (bV ds)[i].ms y)(z:(bV ds)[i].ms.length≤s∧s≤1048576)(W:World)(I:KW p W):
 Calls Tryz.prog 25 #[.slice D.a D.len dc,.agg #[.int .i64 ((bV ds)[i].un).k,.int .i64 ((bV ds)[i].un).n,.int .i64 ((bV ds)[i].un).m,.bool ((bV ds)[i].un).v,.string ((bV ds)[i].un).nm,.string ((bV ds)[i].un).tg,.slice a ((bV ds)[i].un).es.length c,.slice y (bV ds)[i].ms.length s]] W (RB (fm (aR ds) (bV ds)[i]) W):=by
 have b:i<ds.length:=by rw[eM]at hi;exact hi
 have E:Env D (aR ds) NS i:=o7 R hlen F i fun j A J=>by
  rw[dg]at A;have K:j<(bV ds).length:=by rw[eM];exact A
  have l:(bV ds)[j]∈(bV ds).take i:=by
   rw[show(bV ds)[j]=((bV ds).take i)[j]'(by rw[List.length_take];omega) by rw[List.getElem_take]];exact List.getElem_mem _
  have:=w _ l;rw[gD ds j A]at this;unfold fm at this;simp only[Bool.not_eq_false',Bool.and_eq_true]at this;exact this.1
 have hT:=mN H;have L:=gD ds i b;generalize (bV ds)[i]=d at*;subst L;refine DG p D dc (aR ds) _ a c y s W (fun B e=> ?_) (fun m o a' c' B C e=> ?_) hm z I
 ·have hk:=tM R E b
  exact pz E dc _ true p 0 1 a c B hk hk.pl.form.aA.1 hk.pl.form.aA.2 hT hu e
 ·simp only[List.mem_map]at o
  obtain⟨m0,r,rfl⟩:=o;have f:=F i b;unfold dq eC at f;simp only[Bool.and_eq_true,List.all_eq_true]at f;have g:=f.1.2.1 m0 r;unfold fE at g;simp only[Bool.and_eq_true]at g;have G:=R.ms _ (List.getElem_mem b) m0 r;have hk:=o8 E (by rw[dg];omega) R.err R.emp (fun t M=>(lg R M).2) (u:=m0.sig) (q:=⟨i,false,false⟩) (by simp) g.1.2 G.1 G.2;exact pz E dc _ false p 0 0 a' c' B hk hk.pl.form.aA.1 hk.pl.form.aA.2 hT C e
theorem DL(p:Pm)(D:Dl)(dc:Nat)(ds:List aH)(NS:List (List UInt8))(R:Raw NS ds)(q:cU p D ds)(w:World)(hw:KW p w):
 Calls Tryz.prog 8 #[.slice D.a D.len dc] w fun e w'=>(∃b,e= .returned (.bool b)∧Hid (b=true→fw D ds))∧Below w.heap.size w w':=by
 have ag:Up p w (w.alloc (.cells #[.slice D.a D.len dc] 22)):=(Up.refl hw).alloc _;have hlen:=q.len;have l:=q.kb;have t:=Lib.hid fun(I:∀k(h:k<ds.length),dq D.len k ds[k]=true) W (r:KW p W) (K:W.cell? ⟨w.heap.size,0,none⟩=some (.slice D.a D.len dc))=>
  DI p D (bV ds) dc 24 #[.pointer (some ⟨w.heap.size,0,none⟩)] (fun d=> !fm (aR ds) d) W r (o6 q) (by rw[eM];omega)
   (dI Tryz.func24 (by kernel_rfl) rfl) (fun i hi W' a' c' u z L Y hu hm M=>DJ p D dc _ _ a' c' u z W' (fun N A=>DK R hlen I p dc q i hi L a' c' u z hu hm M N A) (r.grown Y) _ (TS.cell_kept Y K))
 have P5:∀(fn:Fn)(first cap:Array Value)(w:World),(Instr.makeFunc fn first cap).run Tryz.prog w= .ok (.func fn first cap) w:=fun _ _ _ _=>rfl;have P6:(ds.length:Int)≤1048576:=by omega
 have P7:ds.length≤1048576:=by omega
 have O:=Lib.hid hlen;obtain⟨Z,Dn⟩:=D;simp only at hlen;subst hlen;clear l;go_enter Tryz.func8,Tryz.ntmps8;go_wp2_with fail
 go_loopw [7] (fun i wr=> ∃k:Nat,k≤ds.length∧i= .int .i64 k∧(∀j(h:j<k)(P:j<ds.length),dq ds.length j ds[j]=true)∧wr.cell? ⟨w.heap.size,0,none⟩=some (.slice Z ds.length dc)∧Up p w wr) (fun i _=>ds.length- (intOf i).toNat)
 case atStart=>exact⟨0,Nat.zero_le _,rfl,(fun j h=>by omega),by simp,ag⟩
 case round=>
  clear ag;obtain⟨k,hk,rfl,g,c0,B⟩:=hrel;have b0:=World.block_lt_of_cell? _ _ c0;simp only at b0;have f:=Lib.hid g;clear g;by_cases Q:k<ds.length
  ·have P4:(k:Int)<ds.length:=by omega
   obtain⟨b,o,C⟩:=q.bt (by omega);simp only at C;subst C;obtain⟨a',c',u,z,h7,S,hu,E,T,hm⟩:=q.get rfl k Q;have c:Hid (dq ds.length k ds[k]=true→∀j(h:j<k+1)(P:j<ds.length),dq ds.length j ds[j]=true):=fun h j hj P=>by
    by_cases e:j=k
    ·subst e;exact h
    ·exact f.out j (by omega) P
   obtain⟨d,J⟩:∃d,d=ds[k]:=⟨_,rfl⟩
   rw[←J]at h7 S hu E hm c;clear J;obtain⟨g0,g1,g2,g3,g4,g5,g6⟩:(wr.cell? ⟨b,o+k*8,none⟩=some (.int .i64 d.un.k)∧wr.cell? ⟨b,o+k*8+1,none⟩=some (.int .i64 d.un.n)∧wr.cell? ⟨b,o+k*8+2,none⟩=some (.int .i64 d.un.m)∧wr.cell? ⟨b,o+k*8+3,none⟩=some (.bool d.un.v)∧wr.cell? ⟨b,o+k*8+4,none⟩=some (.string d.un.nm)∧wr.cell? ⟨b,o+k*8+5,none⟩=some (.string d.un.tg)∧wr.cell? ⟨b,o+k*8+6,none⟩=some (.slice a' d.un.es.length c')):=h7.world B.kw;have gs:=B.kw _ _ _ S;clear h7 S;have F:=B.alloc (.cells #[.int .i64 d.un.k,.int .i64 d.un.n,.int .i64 d.un.m,.bool d.un.v,.string d.un.nm,.string d.un.tg,.slice a' d.un.es.length c',.slice u d.ms.length z] 56);have U:=fun W r=>wa p ⟨some ⟨b,o,none⟩,ds.length⟩ dc d k a' c' u z W hu hm ⟨E,T⟩ r;simp only at U;generalize dq ds.length k d=x at*;go_wp2_with fail
   refine(U _ F.kw).mono ?_;rintro e1 w1 ⟨y,rfl,s,aa⟩;have G:=Lib.hid (F.step aa);have c2:w1.cell? ⟨w.heap.size,0,none⟩=some (.slice (some ⟨b,o,none⟩) ds.length dc):=TS.cell_kept aa (by rw[World.cell?_alloc_lt _ _ _ b0];exact c0);clear aa U;cases y
   ·have V:=Lib.hid G.out.up
    clear s c;go_wp2_with fail
    go_ret;exact⟨⟨_,rfl,fun h=>by cases h⟩,V.out⟩
   ·have hN:=Lib.hid (c.out s.out.symm)
    clear s c;go_wp2_with fail
    go_roundw
    case rel=>exact⟨k+1,by omega,by go_num,hN.out,c2,G.out⟩
    case measure=>simp only[intOf];omega
  ·have I:Hid (∀k(h:k<ds.length),dq ds.length k ds[k]=true):=fun j h=>f.out j (by omega) h
   have X:=fun W r K=>t.out I.out W r K;try simp only at X
   clear t f;go_wp2_with fail
   refine(X _ B.kw c0).mono ?_;rintro e1 w1 ⟨y,rfl,s,aa⟩;have V:=Lib.hid (B.step aa).up;have hF:Hid ((!y)=true→fw ⟨Z,ds.length⟩ ds):=fun h=>⟨I.out,fun d J=>by
    have H:=s.out;rw[show y=false by simpa using h]at H;have:=List.any_eq_false.1 H.symm d J;simpa using this⟩
   clear aa X s;go_wp2_with fail
   go_ret;exact⟨⟨_,rfl,hF⟩,V.out⟩
theorem DM{α:Type}{l:List α}{f g:α→Bool}(h:∀x∈l,f x=g x):l.all f=l.all g:=by
 rw[Bool.eq_iff_iff,List.all_eq_true,List.all_eq_true];exact⟨fun k x a=>by rw[←h x a];exact k x a,fun k x a=>by rw[h x a];exact k x a⟩
theorem DN{len:Nat}:∀(u:U)(q a:Pc)(s:Pt),q.d=len→a.d=len→ah len u q s=ah len u a s:=by
 intro u;induction u using U.bg with
 |_ u ih=>
  intro q a s h b;have parts:∀(l:List U)(s:Pt),(∀e∈l,e∈u.es)→∀p m:Pc,p.d=len→m.d=len→(l.all fun e=>ah len e p s)=l.all fun e=>ah len e m s:=fun l s A p m h1 h2=>DM fun e he=>ih e (U.au (A e he)) p m s h1 h2;have type:ah len u q .type=ah len u a .type:=by
   have o:q.behind.d=len:=h;have c:a.behind.d=len:=b;by_cases r:u.k=1
   ·rw[nJ r,nJ r]
   by_cases i:u.k=14∨u.k=15∨u.k=16
   ·rw[kj i,kj i]
   by_cases j:u.k=11
   ·rw[nK j,nK j,h,b]
    cases hw:bQ u.n len
    ·simp
    ·have:decide (u.n<(len:Int))=true:=by unfold bQ at hw;simp only[Bool.and_eq_true]at hw;exact hw.2
     rw[this];simp
   by_cases t:u.k=2∨u.k=3
   ·rw[lJ t,lJ t,parts u.es .type (fun e he=>he) q a h b]
   by_cases v:u.k=5
   ·rw[nL v,nL v,parts u.es .type (fun e he=>he) q a h b]
   by_cases bC:u.k=10
   ·rw[nM bC,nM bC,en,en,parts _ .type (fun e he=>List.mem_of_mem_take he) q.behind a.behind o c,parts _ .elem (fun e he=>List.mem_of_mem_drop he) q.inside a.inside h b]
   by_cases w:u.k=4∨u.k=6∨u.k=9
   ·rw[kk w,kk w,parts u.es .type (fun e he=>he) q.behind a.behind o c]
   by_cases x:u.k=8
   ·rw[nN x,nN x,parts u.es .type (fun e he=>he) q.behind a.behind o c]
   by_cases y:u.k=7
   ·rw[nO y,nO y,parts u.es .type (fun e he=>he) q.behind a.behind o c]
   ·have z:¬(u.k=1∨(u.k=14∨u.k=15∨u.k=16)∨u.k=11∨(u.k=2∨u.k=3)∨u.k=5∨u.k=10∨(u.k=4∨u.k=6∨u.k=9)∨u.k=8∨u.k=7):=by omega
    rw[nP z,nP z]
  have term:ah len u q .term=ah len u a .term:=by
   by_cases f:u.k=13
   ·rw[nE f,nE f,parts u.es .type (fun e he=>he) q a h b]
   ·rw[nF f,nF f,type]
  cases s with
  |type=>exact type
  |term=>exact term
  |elem=>
   by_cases g:u.k=12
   ·rw[nG g,nG g,parts u.es .term (fun e he=>he) q a h b]
   ·rw[nH g,nH g,term]
def bH(ds:List aH)(u:U):U:=aN (aR ds) 1 u
def fA(D:Dl)(ds:List aH)(u:U):Bool:=ah D.len u ⟨D.len,false,false⟩ .type&&isIface (bH ds u)&&mt (aR ds) .type (bH ds u) true
theorem mW{D:Dl}{ds:List aH}{NS:List (List UInt8)}(R:Raw NS ds)(hlen:ds.length=D.len)(V:fw D ds):Env D (aR ds) NS ds.length:=
 o7 R hlen V.pl _ fun j a _=>by
  rw[dg]at a;have b:j<(bV ds).length:=by rw[eM];exact a
  have:=V.mt _ (List.getElem_mem b);rw[gD ds j a]at this;unfold fm at this;simp only[Bool.and_eq_true]at this;exact this.1
theorem uD{D:Dl}{ds:List aH}{NS:List (List UInt8)}(R:Raw NS ds)(hlen:ds.length=D.len)(V:fw D ds){u:U}(b:ah D.len u ⟨D.len,false,false⟩ .type=true)(c:Names NS u)(a:u.dep≤1048576):b7 D (aR ds) NS ds.length (bH ds u) 0 1:=by
 have:=o8 (mW R hlen V) (by rw[dg];omega) R.err R.emp (fun t d=>(lg R d).2) (u:=u) (q:=⟨D.len,true,false⟩) (by simp[hlen]) (by rw[←DN u ⟨D.len,false,false⟩ _ _ rfl rfl];exact b) c a;rw[List.take_of_length_le (by rw[dg];omega)]at this;exact this
theorem pC(ds:List aH)(u:U):(bH ds u).k=u.k∧(bH ds u).n=u.n∧(bH ds u).m=u.m∧(bH ds u).v=u.v∧(bH ds u).nm=u.nm∧(bH ds u).tg=u.tg∧(bH ds u).es.length=u.es.length:=
 ⟨cG _ _ _,fQ _ _ _,eR _ _ _,lB _ _ _,iW _ _ _,nr _ _ _,cj _ _ _⟩
theorem DO{D:Dl}{ds:List aH}{NS:List (List UInt8)}(R:Raw NS ds)(hlen:ds.length=D.len)(V:fw D ds)(p:Pm)(dc:Nat)(G:cU p D ds)(u:U)(Q:Names NS u)(q:u.dep≤1048576)(a:Option Addr)(c:Nat)(w:World)(hu:ai p D u a c)(hw:KW p w)(s:Nat)
 (h1:w.cell? ⟨s,0,none⟩=some (.slice D.a D.len dc)):
 Calls Tryz.prog 26 #[.agg #[.int .i64 u.k,.int .i64 u.n,.int .i64 u.m,.bool u.v,.string u.nm,.string u.tg,.slice a u.es.length c],.pointer (some ⟨s,0,none⟩)] w (RB (!fA D ds u) w):=by
 have b1:=World.block_lt_of_cell? _ _ h1;simp only at b1;have ag:Up p w (w.alloc (.cells #[.int .i64 u.k,.int .i64 u.n,.int .i64 u.m,.bool u.v,.string u.nm,.string u.tg,.slice a u.es.length c] 25)):=(Up.refl hw).alloc _;have t:=fun W h=>nR p D dc u ⟨D.len,false,false⟩ a c W hu h;simp only at t;obtain⟨r,hr⟩:∃r,r=fA D ds u:=⟨_,rfl⟩
 rw[←hr];cases e:ah D.len u ⟨D.len,false,false⟩ .type
 ·have f:=fun W h=>aP (t W h) e
  have hF:Hid (true= !r):=by unfold Hid;rw[hr,fA,e];rfl
  clear t e hr V R G;go_enter Tryz.func26,Tryz.ntmps26;go_wp2_with fail
  refine(f _ ag.kw).mono ?_;rintro z d ⟨rfl,aa⟩;have A:=Lib.hid (ag.step aa).up;clear aa f;go_wp2_with fail
  go_ret;exact⟨_,rfl,hF.out,A.out⟩
 have f:=fun W h=>aP (t W h) e;have hk:=uD R hlen V e Q q;have hT:=mN G;have o:ai p D (bH ds u) a c:=jX hT u 1 hu;have B:=fun W h=>gl p D dc (bH ds u) 0 1 a c W hk.pl (by omega) (by omega) hk.pl.form.aA.1 hk.pl.form.aA.2 o h;have hM:=fun W h=>pz (mW R hlen V) dc (bH ds u) true p 0 1 a c W hk hk.pl.form.aA.1 hk.pl.form.aA.2 hT o h;obtain⟨f1,f2,f3,f4,f5,f6,f7⟩:=pC ds u;rw[f1,f2,f3,f4,f5,f6,f7]at B hM;have F:Hid (r=(isIface (bH ds u)&&mt (aR ds) .type (bH ds u) true)):=by unfold Hid;rw[hr,fA,e];rfl
 generalize isIface (bH ds u)=x at*;generalize mt (aR ds) .type (bH ds u) true=y at*;clear t e hr V R G hk hT o f1 f2 f3 f4 f5 f6 f7 hlen;cases x
 ·have j:=fun W h=>aP (B W h) rfl
  have hF:Hid (true= !r):=by unfold Hid;rw[F.out];rfl
  clear B hM F;go_enter Tryz.func26,Tryz.ntmps26;go_wp2_with fail
  refine(f _ ag.kw).mono ?_;rintro z d ⟨rfl,aa⟩;have i:=ag.step aa;have c0:d.cell? ⟨s,0,none⟩=some (.slice D.a D.len dc):=TS.cell_kept aa (by rw[World.cell?_alloc_lt _ _ _ b1];exact h1);obtain⟨I,J,K,L,M,N,O⟩:(d.cell? ⟨w.heap.size,0,none⟩=some (.int .i64 u.k)∧d.cell? ⟨w.heap.size,1,none⟩=some (.int .i64 u.n)∧d.cell? ⟨w.heap.size,2,none⟩=some (.int .i64 u.m)∧d.cell? ⟨w.heap.size,3,none⟩=some (.bool u.v)∧d.cell? ⟨w.heap.size,4,none⟩=some (.string u.nm)∧d.cell? ⟨w.heap.size,5,none⟩=some (.string u.tg)∧d.cell? ⟨w.heap.size,6,none⟩=some (.slice a u.es.length c)):=by
   repeat' apply And.intro
   all_goals exact TS.cell_kept aa (by first|(simp[go_sem];done)|(go_keep;done))
  clear aa f ag;go_wp2_with fail
  refine(j _ i.kw).mono ?_;rintro z l ⟨rfl,g⟩;have A:=Lib.hid (i.step g).up;clear g j;go_wp2_with fail
  go_ret;exact⟨_,rfl,hF.out,A.out⟩
 have j:=fun W h=>aP (B W h) rfl;have hF:Hid (r=y):=by unfold Hid;rw[F.out];rfl
 clear B F;go_enter Tryz.func26,Tryz.ntmps26;go_wp2_with fail
 refine(f _ ag.kw).mono ?_;rintro z d ⟨rfl,aa⟩;have i:=ag.step aa;have c0:d.cell? ⟨s,0,none⟩=some (.slice D.a D.len dc):=TS.cell_kept aa (by rw[World.cell?_alloc_lt _ _ _ b1];exact h1);obtain⟨I,J,K,L,M,N,O⟩:(d.cell? ⟨w.heap.size,0,none⟩=some (.int .i64 u.k)∧d.cell? ⟨w.heap.size,1,none⟩=some (.int .i64 u.n)∧d.cell? ⟨w.heap.size,2,none⟩=some (.int .i64 u.m)∧d.cell? ⟨w.heap.size,3,none⟩=some (.bool u.v)∧d.cell? ⟨w.heap.size,4,none⟩=some (.string u.nm)∧d.cell? ⟨w.heap.size,5,none⟩=some (.string u.tg)∧d.cell? ⟨w.heap.size,6,none⟩=some (.slice a u.es.length c)):=by
  repeat' apply And.intro
  all_goals exact TS.cell_kept aa (by first|(simp[go_sem];done)|(go_keep;done))
 clear aa f ag;go_wp2_with fail
 refine(j _ i.kw).mono ?_;rintro z l ⟨rfl,g⟩;have C:=i.step g;have d0:l.cell? ⟨s,0,none⟩=some (.slice D.a D.len dc):=TS.cell_kept g c0;obtain⟨S,T,X,Y,Z,y5,y6⟩:(l.cell? ⟨w.heap.size,0,none⟩=some (.int .i64 u.k)∧l.cell? ⟨w.heap.size,1,none⟩=some (.int .i64 u.n)∧l.cell? ⟨w.heap.size,2,none⟩=some (.int .i64 u.m)∧l.cell? ⟨w.heap.size,3,none⟩=some (.bool u.v)∧l.cell? ⟨w.heap.size,4,none⟩=some (.string u.nm)∧l.cell? ⟨w.heap.size,5,none⟩=some (.string u.tg)∧l.cell? ⟨w.heap.size,6,none⟩=some (.slice a u.es.length c)):=by
  repeat' apply And.intro
  all_goals exact TS.cell_kept g (by assumption)
 clear g j i I J K L M N O c0;go_wp2_with fail
 refine(hM _ C.kw).mono ?_;rintro z w3 ⟨b,rfl,P,E⟩;have A:=Lib.hid (C.step E).up;have H:Hid ((!b)= !r):=by unfold Hid;rw[P.out,hF.out]
 clear P E hM;go_wp2_with fail
 go_ret;exact⟨_,rfl,H.out,A.out⟩
theorem DP{D:Dl}{ds:List aH}{NS:List (List UInt8)}(R:Raw NS ds)(hlen:ds.length=D.len)(V:fw D ds)(p:Pm)(dc:Nat)(j:cU p D ds)(l:List U)(f:∀u∈l,Names NS u∧u.dep≤1048576)(a:Option Addr)(n c:Nat)(w:World)(d:n=l.length)(o:(l.length:Int)≤1048576)(q:aw p D l a)(hw:KW p w):
 Calls Tryz.prog 9 #[.slice D.a D.len dc,.slice a n c] w (RB (l.all (fA D ds)) w):=by
 have k:∀args w,(callFunc 26 args).run Tryz.prog w= .ok (.enter 26 args) w:=dI Tryz.func26 (by kernel_rfl) rfl;have ag:Up p w (w.alloc (.cells #[.slice D.a D.len dc] 22)):=(Up.refl hw).alloc _
 have r:=Lib.hid (gK n p D l d a c 26 #[.pointer (some ⟨w.heap.size,0,none⟩)] (fun u=> !fA D ds u) _ ag.kw q o k
  (fun i hi W a' c' e g=>DO R hlen V p dc j l[i] (f _ (List.getElem_mem hi)).1 (f _ (List.getElem_mem hi)).2 a' c' W g (ag.kw.grown e) w.heap.size (TS.cell_kept e (by simp))))
 have s:=Lib.hid (j_ l (fA D ds));have t:∀(fn:Fn)(first cap:Array Value)(w:World),(Instr.makeFunc fn first cap).run Tryz.prog w= .ok (.func fn first cap) w:=fun _ _ _ _=>rfl;clear hlen V R j f k d;go_enter Tryz.func9,Tryz.ntmps9;go_wp2_with fail
 refine r.out.mono ?_;rintro v x ⟨b,rfl,m,aa⟩;have h:=(ag.step aa).up;have hF:Hid ((!b)=l.all (fA D ds)):=by unfold Hid;rw[m.out,s.out];simp
 clear m aa;go_wp2_with fail
 go_ret;exact⟨_,rfl,hF.out,h⟩
theorem DV{p:Pm}{D:Dl}(u:U)(a:Option Addr)(c:Nat)(w:World)(hu:ai p D u a c):Calls Tryz.prog 4 #[.agg #[.int .i64 u.k,.int .i64 u.n,.int .i64 u.m,.bool u.v,.string u.nm,.string u.tg,.slice a u.es.length c]] w fun e f=>e= .returned (.bool true)∧Below w.heap.size w f:=by
 have h1:¬(2147483647:Int)<(u.nm.size:Int):=by have:=hu.names.1;omega
 have h2:¬(2147483647:Int)<(u.tg.size:Int):=by have:=hu.names.2;omega
 have h3:¬(2147483647:Int)<(u.es.length:Int):=by have:=hu.cap;omega
 have d:Below w.heap.size w (w.alloc (.cells #[.int .i64 u.k,.int .i64 u.n,.int .i64 u.m,.bool u.v,.string u.nm,.string u.tg,.slice a u.es.length c] 25)):=(Below.refl _ _).alloc (Nat.le_refl _) _;have b:=Lib.hid d;clear hu d;go_enter Tryz.func4,Tryz.ntmps4;go_wp2_with fail
 go_ret;exact⟨rfl,b.out⟩
theorem DW{D:Dl}{ds:List aH}{NS:List (List UInt8)}(R:Raw NS ds)(hlen:ds.length=D.len)(p:Pm)(dc:Nat)(k:cU p D ds)(u:U)(o:Names NS u∧u.dep≤1048576)(a:Option Addr)(w:World)(q:aw p D [u] a)(hw:KW p w):
 Calls Tryz.prog 5 #[.slice D.a D.len dc,.slice a 1 1] w fun e t=>(∃b,e= .returned (.bool b)∧Hid (b=true→fw D ds∧fA D ds u=true))∧Below w.heap.size w t:=by
 have v:=Lib.hid (DL p D dc ds NS R k w hw);have r:=Lib.hid (fun(V:fw D ds) W (y:KW p W)=>DP R hlen V p dc k [u] (fun x z=>by have e:x=u:=(by simpa using z);rw[e];exact o) a 1 1 W rfl (by simp) q y);have l:=Lib.hid hw;clear R hlen k o q hw;go_enter Tryz.func5,Tryz.ntmps5;go_wp2_with fail
 refine v.out.mono ?_;rintro C A ⟨⟨b,rfl,s⟩,c⟩;cases b with
 |false=>
  go_wp2_with fail
  go_ret;exact⟨⟨_,rfl,Lib.hid fun h=>by cases h⟩,c⟩
 |true=>
  have g:=Lib.hid (s.out rfl);have m:=Lib.hid (r.out g.out A (l.out.grown c));have d:=Lib.hid c;clear s c r;go_wp2_with fail
  refine m.out.mono ?_;rintro E F ⟨B,rfl,i,f⟩;have j:Hid (B=true→fw D ds∧fA D ds u=true):=fun h=>⟨g.out,by have:=i.out;rw[h]at this;simpa using this.symm⟩
  have n:=Lib.hid (d.out.trans (f.mono d.out.size));clear i f;go_wp2_with fail
  go_ret;exact⟨⟨_,rfl,j⟩,n.out⟩
end Go.Proofs.YtgbklbbknehefaaGreatDoor
