/-
  laws.FnAnyAddsNothing answers true at whatever declarations and type, and its arguments read behind the call as they did before: the card of the second form.
  Conditions: what the two arguments hold is together of bulk at most 1048576; the variables that the row lists hold what the program's text lays in them (the card's tie).
-/
import Derived.Test.YtdkmnkjhhhmglaaGreatDoorYac
import Derived.Test.YtdkmnkjhhhmglaaGreatDoorYbs
import Derived.Test.YtdkmnkjhhhmglaaGreatDoorYbu
set_option maxRecDepth 100000
set_option maxHeartbeats 8000000
set_option linter.all false
namespace Go.Proofs.YtdkmnkjhhhmglaaGreatDoor
open Go.ChangeShapes Go.WideShapes Go.ChangeAt Go.RowKit TS
theorem sF{W:World}(h:laidMetH Tryz.prog Rows.fnAnyAddsNothingUptoRow.laid W):br W:=by
 rw[MakeChecks.laidMetH_plain _ _ _ (by kernel_rfl)]at h;have h1:Lib.TabIs Tryz.prog W "unicode.properties" .u8 props:=Lib.tabIs_of_head nN sq Tryz.underlying328 Tryz.underlying5 ss sr h.tail;intro c a b;have h2:=h1.cell nN c (by show c<256;omega);rw[su c (by omega) a]at h2;exact h2
theorem sH{P:Program}{W:World}{r:Reach}{b t e:Nat}{a:Addr}{l c:Nat}(d:P.underlying t=some (.slice e))(h:Value.okWide P W r b t (.slice (some a) l c)):a.spot=none:=by
 simp only[Value.okWide,d,Cell.okWide,Cell.ok]at h;exact h.2.2.2.1
theorem sI(H:Type)(enc:TypeId×Value→H)(W:World)(base:Nat)(args:Array Value)(ds gs:List (DataW H))(before:List MemPlace)
 (b:∀(j:Nat) t v,Tryz.f3.params[j]?=some t→args[j]?=some v→Value.okWide Tryz.prog W .any base t v)
 (M:DataW.Whole enc Tryz.prog Tryz.f3.params.toList Rows.fnAnyAddsNothingSpec.vars false W args.toList ds gs before)(hk:Rows.uptoSmall H (ds++gs)=true)(S:laidMetH Tryz.prog Rows.fnAnyAddsNothingUptoRow.laid W):
 Calls Tryz.prog 3 args W fun e N=> ∃v,e= .returned v∧Rows.fnAnyAddsNothingSpec.post enc Tryz.prog Tryz.f3 false true false false W args v N:=by
 have d:=M;obtain⟨p,q,hA0,O,rfl,T,hnd⟩:=M;have E:DataW.TrodAll enc Tryz.prog W 0 (fun _=>true) true Tryz.f3.params.toList args.toList ds p:=hA0;rw[Tryz.params3]at E b;obtain⟨v1,v2,d1,d2,F,G,rfl,rfl,rfl,h1,h2⟩:=trodAll_two E;obtain⟨rfl,rfl⟩:=trodVars_none O;clear hA0 E O;have U:Rows.uptoBulk d1+Rows.uptoBulk d2≤1048576:=by
  have h:=of_decide_eq_true hk;simp only[List.append_nil,Rows.uptoBulkAll,Nat.add_zero]at h;exact h
 have f:=b 0 _ v1 rfl rfl;have g:=b 1 _ v2 rfl rfl;obtain⟨P,Q,c1,rfl⟩:=okWide_slice Tryz.underlying22 f;obtain⟨i,rfl,_⟩:∃cs,v2= .agg cs∧cs.size=Tryz.prog.cellsOf 25:=by
  simp only[Value.okWide]at g;obtain⟨cs,B,C,_⟩:=g;exact⟨cs,B,C⟩
 have o:=h1;have r:=h2;obtain⟨V,h1⟩:=h1;obtain⟨X,h2⟩:=h2;obtain⟨D,ds,dc,u,a,c,NS,B,C,R,hlen,Y,I,Z,s,J,hu⟩:=HF W V X _ _ _ _ h1 h2 U fun a l c e=>by
  cases e;exact sH Tryz.underlying22 f
 have w:Value.slice P Q c1= .slice D.a D.len dc:=by
  have: [Value.slice P Q c1]= [.slice D.a D.len dc]:=B;exact List.head_eq_of_cons_eq this
 have y:Value.agg i= .agg #[.int .i64 u.k,.int .i64 u.n,.int .i64 u.m,.bool u.v,.string u.nm,.string u.tg,.slice a u.es.length c]:=by
  have:i.toList=_:=C;rw[←Array.toArray_toList (xs:=i),this]
 simp only[List.append_nil]at d;have z:∀x∈F,x.block<W.heap.size:=fun x K=>by simpa using d.lt x (List.mem_append_left _ K)
 have A:∀x∈G,x.block<W.heap.size:=fun x K=>by simpa using d.lt x (List.mem_append_right _ K)
 clear h1 h2 f g b hk B C;rw[w]at o;rw[y]at r;rw[w,y]at*;refine(sk R hlen (pm W) dc Y I u Z s J a c W hu (yG W) (sF S)).mono fun e N ⟨he,L⟩=> ?_;subst he;refine⟨_,rfl,[d1,d2],[],F++G,[],F++G,[],d,trodAll_mk1 (shut_bool Tryz.underlying4 _),?_,rfl,L.frame _,fun h=>by cases h⟩;rw[Tryz.params3];exact trodAll_mk2 (Below.trod laidOut (by kernel_rfl) (of_decide_eq_true (by kernel_rfl)) o L z) (Below.trod laidOut (by kernel_rfl) (of_decide_eq_true (by kernel_rfl)) r L A)
theorem cardUpto:Rows.FnAnyAddsNothingUptoCardSaid:=sE sI
end Go.Proofs.YtdkmnkjhhhmglaaGreatDoor
