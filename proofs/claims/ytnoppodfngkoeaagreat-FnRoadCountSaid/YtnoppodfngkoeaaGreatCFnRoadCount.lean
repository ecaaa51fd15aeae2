/- PROVED: whatever comes in, laws.FnRoadCount returns true (the dates of a rule with a count are the first ones of the rule without) and its arguments read as before. Conditions: none. -/
import Derived.Test.YtnoppodfngkoeaaGreatCFnRoadCountX1
set_option linter.unusedVariables false
set_option linter.unusedSimpArgs false
set_option maxRecDepth 20000
namespace Go.Proofs.YtnoppodfngkoeaaGreat
open Go.Proofs.Tryz Go.IntKind
namespace FnRoadCount
open Go.ChangeShapes Go.WideShapes Go.ChangeAt Go.RowKit Go.Proofs.YtnoppodfngkoeaaGreat.AL Go.Proofs.YtnoppodfngkoeaaGreat.F
set_option maxRecDepth 100000
theorem contract (H:Type) (enc:TypeId×Value→H) (W:World) (base:Nat) (args:Array Value) (ds gs:List (DataW H)) (aC:List MemPlace)
  (hval:∀(j:Nat) t v,Tryz.f4.params[j]?=some t→args[j]?=some v→Value.okWide prog W .any base t v)
  (hW:DataW.Whole enc prog Tryz.f4.params.toList Rows.fnRoadCountSpec.vars false W args.toList ds gs aC) (hpos:0<W.heap.size) :
  Calls prog 4 args W fun e W'=>∃v,e=.returned v∧Rows.fnRoadCountSpec.post enc prog Tryz.f4 false true false false W args v W':=by
 have hW':=hW
 obtain⟨p,q,hA0,hV,rfl,hfz,hnd⟩:=hW
 have hA:DataW.TrodAll enc prog W 0 (fun _=>true) true Tryz.f4.params.toList args.toList ds p:=hA0
 rw[Tryz.params4] at hA hval
 obtain⟨v0,vs0,d0,ds0,p0,q0,hargs,rfl,rfl,h0,r0⟩:=trodAll_cons hA
 obtain⟨v1,vs1,d1,ds1,p1,q1,rfl,rfl,rfl,h1,r1⟩:=trodAll_cons r0
 obtain⟨rfl,rfl,rfl⟩:=trodAll_nil r1
 obtain rfl:args=#[v0,v1]:=by cases args;simp_all
 obtain⟨rfl,rfl⟩:=trodVars_none hV
 obtain⟨w1,rfl,rfl,rfl,ww1⟩:=open_int Tryz.underlying5 (hval 1 5 v1 rfl rfl) h1
 obtain⟨ru,xs,L,hnum,hll,hLo,hat,hrel⟩:=aMf hpos (hval 0 25 v0 rfl rfl) h0
 clear hA0
 have k0:=h0
 have lt0:∀x∈p0,x.block<W.heap.size:=by obtain⟨m,hm⟩:=k0;exact DataW.trod_lt m _ _ _ hm
 have bw1:=aC8 ww1
 obtain⟨n1,rfl⟩:∃n:Nat,w1=(n:Int):=⟨w1.toNat,by omega⟩
 have walk:=(aSj ru (xs 1) hnum n1 (by omega) (qP L) (hat 1 _ fun i p hi=>(aBH hi).1)).2 (mG L) W #[v0,.int .u8 n1] (aMg L hLo)
  ⟨hrel 1 _ fun i p hi=>(aBH hi).2,rfl,trivial⟩
 refine walk.mono fun e W' hh=>?_
 obtain⟨rv,m',H',r,rfl,hfw,hr,rfl⟩:=hh
 have hrv:rv=.bool true:=hr
 subst hrv
 have bel:Below W.heap.size W W':=hfw.rep.below
 exact⟨_,rfl,_,_,_,[],_,[],hW',trodAll_mk1 (shut_bool Tryz.underlying4 _),trodAll_cons_mk (Below.trod aPT (by kernel_rfl) (odT (by kernel_rfl)) k0 bel lt0) (trodAll_cons_mk (shut_int Tryz.underlying5 ww1) trodAll_mk0),rfl,bel.frame _,fun h=>by cases h⟩
theorem lifted (os:Os) (started:os.Started) (H:Type) (enc:TypeId×Value→H) :
  ReturnsInHanded {} Tryz.checked os 4 .any (Rows.fnRoadCountSpec.pre6 enc prog Tryz.f4 Rows.fnRoadCountRow.domain false)
   (Rows.fnRoadCountSpec.post enc prog Tryz.f4 false true false false):=by
 refine returnsInHanded_of_change_shaped (C:=Tryz.checked) own started (by kernel_rfl) Tryz.func4
  (ChangeSpec.witness6 (enc:=enc) (C:=Tryz.checked) false ⟨#[],#[.agg #[.int .u8 0,.bool false,.int .i64 0,.int .i64 0,.int .i64 0,.int .i64 0,.bool false,.int .i64 0,.slice none 0 0,.slice none 0 0,.slice none 0 0,.slice none 0 0,.slice none 0 0,.slice none 0 0,.slice none 0 0,.slice none 0 0,.slice none 0 0,.slice none 0 0],.int .u8 0],[]⟩ 8 (by kernel_rfl) (by kernel_rfl) (by kernel_rfl) (by kernel_rfl)) ?_
 intro W base args ds gs aC hval hW _ _ hsh _
 exact contract H enc W base args ds gs aC hval hW (aMh hsh)
theorem said:Rows.FnRoadCountSaid:=
 OpenClaim.holds_of_wide 4 Tryz.f4 rfl rfl rfl rfl rfl rfl rfl ⟨rfl,rfl,rfl,rfl,rfl⟩ rfl rfl rfl rfl rfl (by kernel_rfl) Tryz.func4 (by kernel_rfl)
  (odT (by kernel_rfl)) (by unfold Func.isWrapper;first|(rw[if_pos (by decide +kernel)];kernel_rfl)|(rw[if_neg (by decide +kernel)];exact⟨rfl,rfl⟩))
  (fun os started H enc _=>lifted os started H enc)
#print axioms said
end FnRoadCount
end Go.Proofs.YtnoppodfngkoeaaGreat
