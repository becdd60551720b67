/- The card of FnParse. -/
import Derived.Test.YtmbencknblcocaaGreatDoorCards
import Derived.Test.YtmbencknblcocaaGreatDoorTie
import Derived.Test.YtmbencknblcocaaGreatDoorYak
import Derived.Test.YtmbencknblcocaaGreatDoorYbo
import Derived.WalkKit
import Derived.ProofKit
import Derived.OpenShut
import Derived.Deep.DeepHandedRow
import Derived.Deep.DeepWitnessRowRef
namespace Go.Proofs.YtmbencknblcocaaGreatDoor.fnParse
open Go.ChangeShapes Go.WideShapes Go.ChangeAt Go.RowKit
open Go.ChangeMaps (open_string shut_string)
theorem reads (os : Os) {H : Type} (enc : TypeId × Value → H) :
  Option.map (fun x => (x.1,x.2.1)) (DataW.whole enc Tryz.prog ((laidWorld os).forCall (fun _ _ => 0) ⟨#[],#[.string ⟨#[]⟩,.bool false,.bool false],[]⟩).memory Tryz.f5.params.toList Rows.fnParseSpec.vars false #[Value.string ⟨#[]⟩,.bool false,.bool false].toList 8) =
   some ([.lit (.string []),.lit (.bool false),.lit (.bool false)],[]):=by kernel_rfl
set_option maxRecDepth 100000 in
theorem contract (H : Type) (enc : TypeId × Value → H) (W : World) (base : Nat) (args : Array Value) (ds gs : List (DataW H)) (before : List MemPlace)
  (hval : ∀ (j : Nat) t v,Tryz.f5.params[j]? = some t → args[j]? = some v → Value.okWide Tryz.prog W .any base t v)
  (hW : DataW.Whole enc Tryz.prog Tryz.f5.params.toList Rows.fnParseSpec.vars false W args.toList ds gs before) (hL : laidMetH Tryz.prog Rows.fnParseRow.laid W) :
  Calls Tryz.prog 5 args W fun e W' => ∃ v,e = .returned v ∧ Rows.fnParseSpec.post enc Tryz.prog Tryz.f5 false true false false W args v W':=by
 have hW':=hW
 obtain ⟨p,q,hA0,hV,rfl,hfz,hnd⟩:=hW
 have hA : DataW.TrodAll enc Tryz.prog W 0 (fun _ => true) true Tryz.f5.params.toList args.toList ds p:=hA0
 rw [Tryz.params5] at hA hval
 obtain ⟨v0,vs0,d0,ds0,p0,q0,hargs,rfl,rfl,h0,r0⟩:=trodAll_cons hA
 obtain ⟨v1,vs1,d1,ds1,p1,q1,hargs1,rfl,rfl,h1,r1⟩:=trodAll_cons r0
 obtain ⟨v2,vs2,d2,ds2,p2,q2,hargs2,rfl,rfl,h2,r2⟩:=trodAll_cons r1
 obtain ⟨rfl,rfl,rfl⟩:=trodAll_nil r2
 obtain rfl : args = #[v0,v1,v2]:=by cases args; simp_all
 obtain ⟨rfl,rfl⟩:=trodVars_none hV
 obtain ⟨s,rfl,rfl,rfl,ws⟩:=open_string Tryz.underlying9 (hval 0 9 v0 rfl rfl) h0
 obtain ⟨f,rfl,rfl,rfl⟩:=open_bool Tryz.underlying4 (hval 1 4 v1 rfl rfl) h1
 obtain ⟨d,rfl,rfl,rfl⟩:=open_bool Tryz.underlying4 (hval 2 4 v2 rfl rfl) h2
 clear hA0
 have hs : s = ⟨⟨s.data.toList⟩⟩:=rfl
 have walk : Calls Tryz.prog 5 #[.string s,.bool f,.bool d] W fun e w' => e = .returned (.bool true) ∧ Wk.Ext W w':=by
  rw [hs]
  exact Calls.mono (Wk.law5_fn (t:=s.data.toList) (f:=f) (d:=d) (tabsB (tabs_of hL)) (Nat.le_refl _)).out fun _ _ ⟨v,he,hv,hx⟩ => ⟨by rw [he,hv],hx⟩
 refine walk.mono fun e W' ⟨he,hg⟩ => ?_
 subst he
 refine ⟨_,rfl,_,_,_,[],[],[],hW',?_,?_,?_,Below.frame hg _,fun h => by cases h⟩
 ·exact trodAll_mk1 (shut_bool Tryz.underlying4 _)
 ·exact trodAll_cons_mk (shut_string Tryz.underlying9 ws) (trodAll_cons_mk (shut_bool Tryz.underlying4 _) (trodAll_mk1 (shut_bool Tryz.underlying4 _)))
 ·rfl
set_option maxRecDepth 100000 in
theorem lifted (os : Os) (started : os.Started) (H : Type) (enc : TypeId × Value → H) (F : Stop.Interp) :
  ReturnsInHanded {} Tryz.checked os 5 .any ((OpenSpec.ofChange Rows.fnParseSpec).preRow enc Tryz.prog Tryz.f5 Rows.fnParseRow.domain false Rows.fnParseRow.laid) (((OpenSpec.ofChange Rows.fnParseSpec).at F).post enc Tryz.prog Tryz.f5 false true false false):=by
 obtain ⟨⟨x1,x2,x3⟩,hx,hx1⟩:=Option.map_eq_some_iff.1 (reads os enc)
 simp only [Prod.mk.injEq] at hx1
 obtain ⟨rfl,rfl⟩:=hx1
 refine returnsInHanded_of_row (C:=Tryz.checked) (s:=OpenSpec.ofChange Rows.fnParseSpec) own started (by kernel_rfl) Tryz.func5
  (witness_row_atRef (enc:=enc) (C:=Tryz.checked) false (laidWorld os) #[.string ⟨#[]⟩,.bool false,.bool false] rfl (by kernel_rfl) (by kernel_rfl) (by kernel_rfl)
   (OpenSpec.preRow_of_cond 8 hx (by kernel_rfl) (fun k hk => by cases hk) (by kernel_rfl) (laid_met os _))) ?_
 intro W base args ds gs before hval hW _ _ _ hL _ _
 exact contract H enc W base args ds gs before hval hW hL
theorem said : Rows.FnParseSaid:=
 OpenClaim.holds_of_cond 5 Tryz.f5 rfl rfl rfl rfl rfl rfl rfl ⟨rfl,rfl,rfl,rfl,rfl⟩ rfl rfl rfl rfl rfl (by kernel_rfl) Tryz.func5 (by kernel_rfl)
  (of_decide_eq_true (by kernel_rfl)) (by unfold Func.isWrapper; first | (rw [if_pos (by decide +kernel)]; kernel_rfl) | (rw [if_neg (by decide +kernel)]; exact ⟨rfl,rfl⟩))
  (fun os started H enc _ F => by rw [OpenClaim.pre_eq_preRow]; exact lifted os started H enc F)
theorem plain (f : FuncId) (fn : Func) (hf : Tryz.pinned.checked.prog.funcNamed "pub-quirehand/laws.FnParse" = some f) (hfn : Tryz.pinned.checked.prog.funcs[f]? = some fn) :
  false = Tryz.pinned.checked.prog.looks [] ∧ ∀ (j : Nat) t,fn.params[j]? = some t → Tryz.pinned.checked.prog.wantsStandIn t = false:=by
 obtain rfl : f = 5 := Option.some.inj ((show Tryz.prog.funcNamed "pub-quirehand/laws.FnParse" = some 5 by kernel_rfl).symm.trans hf) |>.symm
 obtain rfl : fn = Tryz.f5:=(Option.some.inj (Tryz.func5.symm.trans hfn)).symm
 refine ⟨by kernel_rfl,fun j t ht => ?_⟩
 rw [Tryz.params5] at ht
 have h:=Array.mem_of_getElem? ht
 simp only [List.mem_toArray,List.mem_cons,List.not_mem_nil,or_false] at h
 rcases h with rfl | rfl | rfl
 ·exact (show Tryz.prog.wantsStandIn 9 = false by kernel_rfl)
 ·exact (show Tryz.prog.wantsStandIn 4 = false by kernel_rfl)
 ·exact (show Tryz.prog.wantsStandIn 4 = false by kernel_rfl)
theorem card : Rows.FnParseCardSaid:=
 Claim7.holds_tied_plain_at .later [] _ _ _ _ said (fun _ h => by cases h) (by kernel_rfl) (fun _ h => by cases h) fnParse_row_tie rfl ⟨rfl,rfl⟩ (by kernel_rfl) rfl plain (by kernel_rfl)
end Go.Proofs.YtmbencknblcocaaGreatDoor.fnParse
