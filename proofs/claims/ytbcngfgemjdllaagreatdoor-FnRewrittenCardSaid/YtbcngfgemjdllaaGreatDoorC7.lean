/- FnRewritten returns true for every input, and its arguments read as they did. Conditions: none beyond the given row's own (its tables hold what the program's text lays). -/
import Derived.Test.YtbcngfgemjdllaaGreatDoorCards
import Derived.Test.YtbcngfgemjdllaaGreatDoorTie
import Derived.SevenTiedAt
import Derived.WalkKit
import Derived.ProofKit
import Derived.OpenShut
import Derived.Deep.DeepHandedRow
import Derived.Carry
import Derived.Test.YtbcngfgemjdllaaGreatDoorA7
import Derived.Test.YtbcngfgemjdllaaGreatDoorB47
import Derived.Test.YtbcngfgemjdllaaGreatDoorF7
set_option linter.unusedVariables false
set_option linter.unusedSimpArgs false
namespace Go.Proofs.YtbcngfgemjdllaaGreatDoor.fnRewritten
open Go.ChangeShapes Go.WideShapes Go.ChangeAt Go.RowKit Go.ChangeMaps
theorem own:ownKnob Tryz.prog.godebug=none:=by kernel_rfl
theorem laidOut:laidOutB Tryz.prog=true:=by kernel_rfl
set_option maxRecDepth 100000 in
set_option maxHeartbeats 4000000 in
theorem contract (H:Type) (enc:TypeId × Value→H) (W:World) (base:Nat) (args:Array Value) (ds gs:List (DataW H)) (before:List MemPlace)
    (hval:∀ (j:Nat) t v,Tryz.f7.params[j]? = some t→args[j]? = some v→Value.okWide Tryz.prog W .any base t v)
    (hW:DataW.Whole enc Tryz.prog Tryz.f7.params.toList Rows.fnRewrittenSpec.vars false W args.toList ds gs before)
    (hz:(DataW.weightsEach Tryz.prog (Tryz.f7.params.toList++(OpenSpec.ofChange Rows.fnRewrittenSpec).bare.plain.varTypes Tryz.prog) (ds++gs)).all (· ≤ reachBytes)=true) :
    Calls Tryz.prog 7 args W fun e W'=>∃ v,e=.returned v∧Rows.fnRewrittenSpec.post enc Tryz.prog Tryz.f7 false true false false W args v W':=by
  have hW':=hW
  obtain ⟨p,q,hA0,hV,rfl,_,_⟩:=hW
  have hA:DataW.TrodAll enc Tryz.prog W 0 (fun _=>true) true Tryz.f7.params.toList args.toList ds p:=hA0
  have hz':(DataW.weightsEach Tryz.prog ([22,9]) (ds++gs)).all (· ≤ reachBytes)=true:=hz
  rw [Tryz.params7] at hA hval
  obtain ⟨v0,v1,d0,d1,p0,p1,rfl,rfl,rfl,h0,h1⟩:=trodAll_two hA
  obtain ⟨rfl,rfl⟩:=trodVars_none hV
  obtain ⟨a0,len0,cap0,rfl⟩:=okWide_slice Tryz.underlying22 (hval 0 22 v0 rfl rfl)
  obtain ⟨s1,rfl,rfl,rfl,ws1⟩:=open_string Tryz.underlying9 (hval 1 9 v1 rfl rfl) h1
  clear hA0
  simp only [List.append_nil] at hW'
  have hlt:∀ x ∈ p0++[],x.block<W.heap.size:=fun x hx=>by simpa using hW'.lt x (by simpa using hx)
  obtain ⟨subs,rfl,hS,hL⟩:=open_rules h0 (by
    intro x hx
    have h1:=List.all_eq_true.1 hz' x (by
      simp only [List.append_nil,List.cons_append,List.nil_append,DataW.weightsEach,List.mem_append]
      first | exact .inl hx | exact hx)
    simpa using h1)
  refine (c7 hS hL).mono fun e W' ⟨he,hb⟩ => ?_
  subst he
  have harg:DataW.Trod enc Tryz.prog W' 0 (fun b=>decide (b<W.heap.size)) true 22 (.slice a0 subs.length cap0) d0 p0 :=
    Below.trod laidOut (by kernel_rfl) (of_decide_eq_true (by kernel_rfl)) h0 hb (fun x hx=>hlt x (by simpa using hx))
  exact ⟨_,rfl,_,_,_,[],_,[],hW',trodAll_mk1 (shut_bool Tryz.underlying4 _),trodAll_mk2 harg (shut_string Tryz.underlying9 ws1),rfl,hb.frame _,fun h=>by cases h⟩
noncomputable def laidWorld (os:Os):World :=
  let w0:=World.holding Tryz.prog os ⟨#[],#[],[]⟩
  let put (h:Array Obj) (g:Nat) (cs:Array Value):Array Obj:=h.modify g fun
    | .cells _ t frozen=>.cells cs t frozen
    | o=>o
  let h1:=put w0.heap 0 #[.int .u64 1,.int .u64 10,.int .u64 100,.int .u64 1000,.int .u64 10000,.int .u64 100000,.int .u64 1000000,.int .u64 10000000,.int .u64 100000000,.int .u64 1000000000,.int .u64 10000000000,.int .u64 100000000000,.int .u64 1000000000000,.int .u64 10000000000000,.int .u64 100000000000000,.int .u64 1000000000000000,.int .u64 10000000000000000,.int .u64 100000000000000000,.int .u64 1000000000000000000,.int .u64 10000000000000000000]
  let h2:=put h1 1 #[.int .u8 0,.int .u8 1,.int .u8 28,.int .u8 2,.int .u8 29,.int .u8 14,.int .u8 24,.int .u8 3,.int .u8 30,.int .u8 22,.int .u8 20,.int .u8 15,.int .u8 25,.int .u8 17,.int .u8 4,.int .u8 8,.int .u8 31,.int .u8 27,.int .u8 13,.int .u8 23,.int .u8 21,.int .u8 19,.int .u8 16,.int .u8 7,.int .u8 26,.int .u8 12,.int .u8 18,.int .u8 6,.int .u8 11,.int .u8 5,.int .u8 10,.int .u8 9]
  let h3:=put h2 2 #[.int .u8 0,.int .u8 1,.int .u8 56,.int .u8 2,.int .u8 57,.int .u8 49,.int .u8 28,.int .u8 3,.int .u8 61,.int .u8 58,.int .u8 42,.int .u8 50,.int .u8 38,.int .u8 29,.int .u8 17,.int .u8 4,.int .u8 62,.int .u8 47,.int .u8 59,.int .u8 36,.int .u8 45,.int .u8 43,.int .u8 51,.int .u8 22,.int .u8 53,.int .u8 39,.int .u8 33,.int .u8 30,.int .u8 24,.int .u8 18,.int .u8 12,.int .u8 5,.int .u8 63,.int .u8 55,.int .u8 48,.int .u8 27,.int .u8 60,.int .u8 41,.int .u8 37,.int .u8 16,.int .u8 46,.int .u8 35,.int .u8 44,.int .u8 21,.int .u8 52,.int .u8 32,.int .u8 23,.int .u8 11,.int .u8 54,.int .u8 26,.int .u8 40,.int .u8 15,.int .u8 34,.int .u8 20,.int .u8 31,.int .u8 10,.int .u8 25,.int .u8 14,.int .u8 19,.int .u8 9,.int .u8 13,.int .u8 8,.int .u8 7,.int .u8 6]
  { w0 with heap:=h3 }
theorem laid_met (os:Os):laidMet Tryz.prog Rows.fnRewrittenRow.laid ((laidWorld os).forCall (fun _ _=>0) ⟨#[],#[.slice none 0 0,.string ⟨#[]⟩],[]⟩).memory :=
  laidMet_of_run' 8 (by kernel_rfl) (by kernel_rfl)
theorem reads (os:Os) {H:Type} (enc:TypeId × Value→H):∃ places,DataW.whole enc Tryz.prog ((laidWorld os).forCall (fun _ _=>0) ⟨#[],#[.slice none 0 0,.string ⟨#[]⟩],[]⟩).memory Tryz.f7.params.toList Rows.fnRewrittenSpec.vars false #[Value.slice none 0 0,Value.string ⟨#[]⟩].toList 8=some ([.nil,.lit (.string [])],[],places) :=
  ⟨[],by kernel_rfl⟩
set_option maxRecDepth 100000 in
theorem lifted (os:Os) (started:os.Started) (H:Type) (enc:TypeId × Value→H) (F:Stop.Interp) :
    ReturnsInHanded {} Tryz.checked os 7 .any ((OpenSpec.ofChange Rows.fnRewrittenSpec).preRow enc Tryz.prog Tryz.f7 Rows.fnRewrittenRow.domain false Rows.fnRewrittenRow.laid) (((OpenSpec.ofChange Rows.fnRewrittenSpec).at F).post enc Tryz.prog Tryz.f7 false true false false):=by
  obtain ⟨places,hx⟩:=reads os enc
  refine returnsInHanded_of_row (C:=Tryz.checked) (s:=OpenSpec.ofChange Rows.fnRewrittenSpec) own started (by kernel_rfl) Tryz.func7
    (witness_row_at (enc:=enc) (C:=Tryz.checked) false (laidWorld os) #[.slice none 0 0,.string ⟨#[]⟩] rfl (by kernel_rfl) (by kernel_rfl) (by kernel_rfl)
      (OpenSpec.preRow_of_cond 8 hx (by kernel_rfl) (fun k hk=>by cases hk) (by kernel_rfl) (laid_met os))) ?_
  intro W base args ds gs before hval hW _ _ hz _ _ _
  exact contract H enc W base args ds gs before hval hW hz
theorem said:Rows.FnRewrittenSaid :=
  OpenClaim.holds_of_cond 7 Tryz.f7 rfl rfl rfl rfl rfl rfl rfl ⟨rfl,rfl,rfl,rfl,rfl⟩ rfl rfl rfl rfl rfl (by as_aux_lemma=>kernel_rfl) Tryz.func7 facts
    instOf wrapOf
    (fun os started H enc _ F=>by rw [OpenClaim.pre_eq_preRow]; exact lifted os started H enc F)
theorem plain (f : FuncId) (fn : Func) (hf : Tryz.pinned.checked.prog.funcNamed "loop.example/pub-tokensoflexers/laws.FnRewritten" = some f) (hfn : Tryz.pinned.checked.prog.funcs[f]? = some fn) :
    true=Tryz.pinned.checked.prog.looks []∧∀ (j:Nat) t,fn.params[j]? = some t→Tryz.pinned.checked.prog.wantsStandIn t=false:=by
  obtain rfl : f = 7 := Option.some.inj ((show Tryz.prog.funcNamed "loop.example/pub-tokensoflexers/laws.FnRewritten" = some 7 by kernel_rfl).symm.trans hf) |>.symm
  obtain rfl:fn=Tryz.f7:=(Option.some.inj (Tryz.func7.symm.trans hfn)).symm
  refine ⟨by kernel_rfl,fun j t ht => ?_⟩
  rw [Tryz.params7] at ht
  have h:t=22∨t=9∨t=3:=by
    have:=Array.mem_of_getElem? ht
    have h2:t ∈ [22,9]:=by simpa using this
    simp only [List.mem_cons,List.not_mem_nil,or_false] at h2
    rcases h2 with h | h <;> simp [h]
  rcases h with rfl | rfl | rfl
  · exact (show Tryz.prog.wantsStandIn 22=false by kernel_rfl)
  · exact (show Tryz.prog.wantsStandIn 9=false by kernel_rfl)
  · exact (show Tryz.prog.wantsStandIn 3=false by kernel_rfl)
end Go.Proofs.YtbcngfgemjdllaaGreatDoor.fnRewritten
namespace Go.Proofs.YtbcngfgemjdllaaGreatDoor
theorem fnRewritten_holds:Rows.FnRewrittenCardSaid :=
  Claim7.holds_tied_plain_at .later [] _ _ _ _ fnRewritten.said (fun _ h=>by cases h) fnRewritten.wfOf (fun _ h=>by cases h) fnRewritten_row_tie rfl ⟨rfl,rfl⟩ (by as_aux_lemma=>kernel_rfl) rfl fnRewritten.plain fnRewritten.goesOf
end Go.Proofs.YtbcngfgemjdllaaGreatDoor
