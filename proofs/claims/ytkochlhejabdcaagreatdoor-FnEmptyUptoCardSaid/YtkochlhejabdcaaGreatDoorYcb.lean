/-
  laws.FnEmpty answers true at whatever declarations and type, and its arguments read behind the call as they did before: the card of the second form.
  Conditions: what the two arguments hold is together of bulk at most 1048576; the variables that the row lists hold what the program's text lays in them (the card's tie).
-/
import Derived.Test.YtkochlhejabdcaaGreatDoorYag
import Derived.Test.YtkochlhejabdcaaGreatDoorYca
set_option maxRecDepth 100000
set_option maxHeartbeats 8000000
set_option linter.all false
namespace Go.Proofs.YtkochlhejabdcaaGreatDoor
open Go.ChangeShapes Go.WideShapes Go.ChangeAt Go.RowKit TS
theorem HQ{W:World}(h:laidMetH Tryz.prog Rows.fnEmptyUptoRow.laid W):bU W:=by
 rw[MakeChecks.laidMetH_plain _ _ _ (by kernel_rfl)]at h;have h1:Lib.TabIs Tryz.prog W "unicode.properties" .u8 props:=Lib.tabIs_of_head x_ HF Tryz.underlying337 Tryz.underlying5 HI HG h.tail;intro c a d;have b:=h1.cell x_ c (by show c<256;omega);rw[HJ c (by omega) a]at b;exact b
theorem HR{P:Program}{W:World}{r:Reach}{b t e:Nat}{a:Addr}{l c:Nat}(d:P.underlying t=some (.slice e))(h:Value.okWide P W r b t (.slice (some a) l c)):a.spot=none:=by
 simp only[Value.okWide,d,Cell.okWide,Cell.ok]at h;exact h.2.2.2.1
theorem HS(H:Type)(enc:TypeId×Value→H)(W:World)(base:Nat)(args:Array Value)(ds gs:List (DataW H))(before:List MemPlace)
 (b:∀(j:Nat) t v,Tryz.f3.params[j]?=some t→args[j]?=some v→Value.okWide Tryz.prog W .any base t v)
 (O:DataW.Whole enc Tryz.prog Tryz.f3.params.toList Rows.fnEmptySpec.vars false W args.toList ds gs before)(hk:Rows.uptoSmall H (ds++gs)=true)(U:laidMetH Tryz.prog Rows.fnEmptyUptoRow.laid W):
 Calls Tryz.prog 3 args W fun e P=> ∃v,e= .returned v∧Rows.fnEmptySpec.post enc Tryz.prog Tryz.f3 false true false false W args v P:=by
 have d:=O;obtain⟨p,q,hA0,Q,rfl,V,hnd⟩:=O;have F:DataW.TrodAll enc Tryz.prog W 0 (fun _=>true) true Tryz.f3.params.toList args.toList ds p:=hA0;rw[Tryz.params3]at F b;obtain⟨v1,v2,d1,d2,G,I,rfl,rfl,rfl,h1,o⟩:=trodAll_two F;obtain⟨rfl,rfl⟩:=trodVars_none Q;clear hA0 F Q;have X:Rows.uptoBulk d1+Rows.uptoBulk d2≤1048576:=by
  have h:=of_decide_eq_true hk;simp only[List.append_nil,Rows.uptoBulkAll,Nat.add_zero]at h;exact h
 have f:=b 0 _ v1 rfl rfl;have g:=b 1 _ v2 rfl rfl;obtain⟨S,T,c1,rfl⟩:=okWide_slice Tryz.underlying22 f;obtain⟨i,rfl,_⟩:∃cs,v2= .agg cs∧cs.size=Tryz.prog.cellsOf 25:=by
  simp only[Value.okWide]at g;obtain⟨cs,C,E,_⟩:=g;exact⟨cs,C,E⟩
 have r:=h1;have s:=o;obtain⟨Y,h1⟩:=h1;obtain⟨Z,o⟩:=o;obtain⟨D,ds,dc,u,a,c,NS,C,E,R,hlen,hD,J,hn,w,K,hu,hq,L⟩:=HE W Y Z _ _ _ _ h1 o X fun a l c e=>by
  cases e;exact HR Tryz.underlying22 f
 have y:Value.slice S T c1= .slice D.a D.len dc:=by
  have: [Value.slice S T c1]= [.slice D.a D.len dc]:=C;exact List.head_eq_of_cons_eq this
 have z:Value.agg i= .agg #[.int .i64 u.k,.int .i64 u.n,.int .i64 u.m,.bool u.v,.string u.nm,.string u.tg,.slice a u.es.length c]:=by
  have:i.toList=_:=E;rw[←Array.toArray_toList (xs:=i),this]
 simp only[List.append_nil]at d;have A:∀x∈G,x.block<W.heap.size:=fun x M=>by simpa using d.lt x (List.mem_append_left _ M)
 have B:∀x∈I,x.block<W.heap.size:=fun x M=>by simpa using d.lt x (List.mem_append_right _ M)
 clear h1 o f g b hk C E;rw[y]at r;rw[z]at s;rw[y,z]at*;refine(Hv R hlen (pm W) dc hD J u hn.1 (Nat.le_trans w (by decide)) (Nat.le_trans K (by decide)) a c W hu (Hw W) (HQ U) hq L).mono fun e P ⟨he,N⟩=> ?_;subst he;refine⟨_,rfl,[d1,d2],[],G++I,[],G++I,[],d,trodAll_mk1 (shut_bool Tryz.underlying4 _),?_,rfl,N.frame _,fun h=>by cases h⟩;rw[Tryz.params3];exact trodAll_mk2 (Below.trod laidOut (by kernel_rfl) (of_decide_eq_true (by kernel_rfl)) r N A) (Below.trod laidOut (by kernel_rfl) (of_decide_eq_true (by kernel_rfl)) s N B)
theorem cardUpto:Rows.FnEmptyUptoCardSaid:=HO HS
end Go.Proofs.YtkochlhejabdcaaGreatDoor
