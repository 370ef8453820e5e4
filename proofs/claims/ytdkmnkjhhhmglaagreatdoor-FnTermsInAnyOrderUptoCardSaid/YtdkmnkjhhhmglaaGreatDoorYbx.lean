/-
  laws.FnTermsInAnyOrder answers true at whatever declarations and types, and its arguments read behind the call as they did before: the card of the second form.
  Conditions: what the three arguments hold is together of bulk at most 1048576; the variables that the row lists hold what the program's text lays in them (the card's tie).
-/
import Derived.Test.YtdkmnkjhhhmglaaGreatDoorYad
import Derived.Test.YtdkmnkjhhhmglaaGreatDoorYbs
import Derived.Test.YtdkmnkjhhhmglaaGreatDoorYbw
set_option maxRecDepth 100000
set_option maxHeartbeats 8000000
set_option linter.all false
namespace Go.Proofs.YtdkmnkjhhhmglaaGreatDoor
open Go.ChangeShapes Go.WideShapes Go.ChangeAt Go.RowKit TS
theorem sF{W:World}(h:laidMetH Tryz.prog Rows.fnTermsInAnyOrderUptoRow.laid W):br W:=by
 rw[MakeChecks.laidMetH_plain _ _ _ (by kernel_rfl)]at h;have h1:Lib.TabIs Tryz.prog W "unicode.properties" .u8 props:=Lib.tabIs_of_head nN sq Tryz.underlying328 Tryz.underlying5 ss sr h.tail;intro c a b;have h2:=h1.cell nN c (by show c<256;omega);rw[su c (by omega) a]at h2;exact h2
theorem sH{P:Program}{W:World}{r:Reach}{b t e:Nat}{a:Addr}{l c:Nat}(d:P.underlying t=some (.slice e))(h:Value.okWide P W r b t (.slice (some a) l c)):a.spot=none:=by
 simp only[Value.okWide,d,Cell.okWide,Cell.ok]at h;exact h.2.2.2.1
theorem sI(H:Type)(enc:TypeId×Value→H)(W:World)(base:Nat)(args:Array Value)(ds gs:List (DataW H))(before:List MemPlace)
 (b:∀(j:Nat) t v,Tryz.f4.params[j]?=some t→args[j]?=some v→Value.okWide Tryz.prog W .any base t v)
 (T:DataW.Whole enc Tryz.prog Tryz.f4.params.toList Rows.fnTermsInAnyOrderSpec.vars false W args.toList ds gs before)(hk:Rows.uptoSmall H (ds++gs)=true)(Z:laidMetH Tryz.prog Rows.fnTermsInAnyOrderUptoRow.laid W):
 Calls Tryz.prog 4 args W fun e U=> ∃v,e= .returned v∧Rows.fnTermsInAnyOrderSpec.post enc Tryz.prog Tryz.f4 false true false false W args v U:=by
 have d:=T;obtain⟨p,q,hA0,f,rfl,PM,hnd⟩:=T;have N:DataW.TrodAll enc Tryz.prog W 0 (fun _=>true) true Tryz.f4.params.toList args.toList ds p:=hA0;rw[Tryz.params4]at N b;obtain⟨v1,v2,v3,d1,d2,d3,O,P,Q,rfl,rfl,rfl,h1,h2,h3⟩:=trodAll_three N;obtain⟨rfl,rfl⟩:=trodVars_none f;clear hA0 N f;have hb:Rows.uptoBulk d1+Rows.uptoBulk d2+Rows.uptoBulk d3≤1048576:=by
  have h:=of_decide_eq_true hk;simp only[List.append_nil,Rows.uptoBulkAll,Nat.add_zero]at h;omega
 have g:=b 0 _ v1 rfl rfl;have i:=b 1 _ v2 rfl rfl;have o:=b 2 _ v3 rfl rfl;obtain⟨V,X,c1,rfl⟩:=okWide_slice Tryz.underlying22 g;obtain⟨r,rfl,_⟩:∃cs,v2= .agg cs∧cs.size=Tryz.prog.cellsOf 25:=by
  simp only[Value.okWide]at i;obtain⟨cs,w,y,_⟩:=i;exact⟨cs,w,y⟩
 obtain⟨s,rfl,_⟩:∃cs,v3= .agg cs∧cs.size=Tryz.prog.cellsOf 25:=by
  simp only[Value.okWide]at o;obtain⟨cs,w,y,_⟩:=o;exact⟨cs,w,y⟩
 have z:=h1;have A:=h2;have B:=h3;obtain⟨n1,h1⟩:=h1;obtain⟨n2,h2⟩:=h2;obtain⟨n3,h3⟩:=h3;obtain⟨D,ds,dc,u,v,a,a',c,c',NS,w,y,Y,R,hlen,hD,S,L,f⟩:=HG W n1 n2 n3 _ _ _ _ _ _ h1 h2 h3 hb fun a l c e=>by
  cases e;exact sH Tryz.underlying22 g
 have C:Value.slice V X c1= .slice D.a D.len dc:=by
  have: [Value.slice V X c1]= [.slice D.a D.len dc]:=w;exact List.head_eq_of_cons_eq this
 have E:Value.agg r= .agg #[.int .i64 u.k,.int .i64 u.n,.int .i64 u.m,.bool u.v,.string u.nm,.string u.tg,.slice a u.es.length c]:=by
  have:r.toList=_:=y;rw[←Array.toArray_toList (xs:=r),this]
 have F:Value.agg s= .agg #[.int .i64 v.k,.int .i64 v.n,.int .i64 v.m,.bool v.v,.string v.nm,.string v.tg,.slice a' v.es.length c']:=by
  have:s.toList=_:=Y;rw[←Array.toArray_toList (xs:=s),this]
 simp only[List.append_nil]at d;have G:∀x∈O,x.block<W.heap.size:=fun x I=>by simpa using d.lt x (List.mem_append_left _ (List.mem_append_left _ I))
 have J:∀x∈P,x.block<W.heap.size:=fun x I=>by simpa using d.lt x (List.mem_append_left _ (List.mem_append_right _ I))
 have K:∀x∈Q,x.block<W.heap.size:=fun x I=>by simpa using d.lt x (List.mem_append_right _ I)
 clear h1 h2 h3 g i o b hk w y Y;rw[C]at z;rw[E]at A;rw[F]at B;rw[C,E,F]at*;refine(sk R hlen (pm W) dc hD S u v L.1 f.1 L.2.1 f.2.1 L.2.2.1 f.2.2.1 a a' c c' W L.2.2.2 f.2.2.2 (yG W) (sF Z)).mono fun e U ⟨he,M⟩=> ?_;subst he;refine⟨_,rfl,[d1,d2,d3],[],O++P++Q,[],O++P++Q,[],d,trodAll_mk1 (shut_bool Tryz.underlying4 _),?_,rfl,M.frame _,fun h=>by cases h⟩;rw[Tryz.params4];rw[List.append_assoc];exact trodAll_mk3 (Below.trod laidOut (by kernel_rfl) (of_decide_eq_true (by kernel_rfl)) z M G) (Below.trod laidOut (by kernel_rfl) (of_decide_eq_true (by kernel_rfl)) A M J) (Below.trod laidOut (by kernel_rfl) (of_decide_eq_true (by kernel_rfl)) B M K)
theorem cardUpto:Rows.FnTermsInAnyOrderUptoCardSaid:=sE sI
end Go.Proofs.YtdkmnkjhhhmglaaGreatDoor
