/- Part 1: Sl3, E1, T7, D1, Sl4. -/
import Derived.MapKept
import Derived.Laws.Pointers
import Derived.Deep.RegionHeld3
import Derived.Deep.AppendLies
import Derived.Deep.QuietTactic
import Derived.BigQuiet
import Derived.WalkSpells
import Derived.Test.YtbcngfgemjdllaaGreatDoorB00
set_option linter.unusedVariables false
set_option linter.unusedSimpArgs false
section
namespace Go.Own
open Go.RowKit
def mfind (h:Int):List (Int × Value)→Option Value
  | []=>none
  | (k,v)::l=>if k=h then some v else mfind h l
def midx (h:Int):List (Int × Value)→Nat→Option (Nat × Value)
  | [],_=>none
  | (k,v)::l,i=>if k=h then some (i,v) else midx h l (i+1)
def mset (h:Int) (x:Value):List (Int × Value)→List (Int × Value)
  | []=>[(h,x)]
  | (k,v)::l=>if k=h then (k,x)::l else (k,v)::mset h x l
def Ents (es:List MapEntry) (D:List (Int × Value)):Prop:=es.map (fun e=>(e.key,e.val))=D.map (fun p=>(Value.int .i64 p.1,p.2))
def Mp (b:Nat) (D:List (Int × Value)):HP:=fun h=>∃ es clock,Ents es.toList D∧pto b (.map es clock) h
theorem findNow_int (h:Int):∀ (es:List MapEntry) (D:List (Int × Value)) (i:Nat),Ents es D→Instr.findNow (.int .i64) (.int .i64 h) es i=some (midx h D i)
  | [],D,i,e=>by
    cases D with
    | nil=>rfl
    | cons p D=>simp [Ents] at e
  | e :: es, D, i, he => by
    obtain ⟨⟨k,v⟩,D',rfl⟩:∃ p D',D=p::D':=by cases D with | nil=>simp [Ents] at he | cons p D'=>exact ⟨p,D',rfl⟩
    simp only [Ents,List.map_cons,List.cons.injEq,Prod.mk.injEq] at he
    obtain ⟨⟨hk,hv⟩,he⟩:=he
    simp only [Instr.findNow,Instr.sameNow,hk,if_true,midx]
    by_cases hh:k=h
    · subst hh; simp [hv]
    · have:(h == k)=false:=by simpa using fun e=>hh e.symm
      simp only [this,if_neg hh]
      exact findNow_int h es D' (i+1) he
theorem midx_find (h:Int):∀ (D:List (Int × Value)) (i:Nat),(midx h D i).map (·.2)=mfind h D
  | [],_=>rfl
  | (k,v)::D,i=>by
    simp only [midx,mfind]
    split
    · rfl
    · exact midx_find h D (i+1)
theorem midx_some (h:Int) (x:Value):∀ (D:List (Int × Value)) (es:List MapEntry) (i j:Nat) (v:Value),Ents es D→midx h D i=some (j,v)→i≤j∧(es[j - i]?).map (·.key)=some (.int .i64 h) ∧
    Ents (es.modify (j - i) fun e => { e with key:=.int .i64 h,val:=x }) (mset h x D)
  | [],_,_,_,_,_,hm=>by simp [midx] at hm
  | (k,v)::D,es,i,j,u,he,hm=>by
    obtain ⟨e,es',rfl⟩:∃ e es',es=e::es':=by cases es with | nil=>simp [Ents] at he | cons e es'=>exact ⟨e,es',rfl⟩
    simp only [Ents,List.map_cons,List.cons.injEq,Prod.mk.injEq] at he
    obtain ⟨⟨hk,hv⟩,he⟩:=he
    simp only [midx] at hm
    split at hm
    · rename_i hh
      subst hh
      cases hm
      simp [Ents,mset,hk,he]
    · rename_i hh
      obtain ⟨h1,h2,h3⟩:=midx_some h x D es' (i+1) j u he hm
      have e1:j - i=(j - (i+1))+1:=by omega
      rw [e1]
      refine ⟨by omega,by simpa using h2,?_⟩
      simp only [Ents,mset,if_neg hh,List.modify_succ_cons,List.map_cons,hk,hv]
      rw [show List.map (fun e:MapEntry=>(e.key,e.val)) _=_ from h3]
theorem midx_none (h:Int) (x:Value):∀ (D:List (Int × Value)) (i:Nat),midx h D i=none→mset h x D=D++[(h,x)]
  | [],_,_=>rfl
  | (k,v)::D,i,hm=>by
    simp only [midx] at hm
    split at hm
    · cases hm
    · rename_i hh
      simp only [mset,if_neg hh,midx_none h x D (i+1) hm,List.cons_append]
theorem isKey_int (h:Int):MapKept.IsKey (.int .i64) (.int .i64 h):=rfl
structure MapT (P:Program) (T K E:TypeId) (z:Value):Prop where
  und:P.underlying T=some (.map K E)
  key:P.underlying K=some (.int .i64)
  zero:∃ i,P.info? E=some i∧i.zero=some z
section
variable {P:Program} {B:Nat} {w0 w:World} {r:List HP} {T K E:TypeId} {z:Value} {b:Nat} {D:List (Int × Value)}
theorem St.mp (H:St B w0 (Mp b D::r) w):∃ es clock,Ents es.toList D∧St B w0 (pto b (.map es clock)::r) w:=by
  obtain ⟨a,c,d,e,⟨es,cl,he,hp⟩,hc⟩:=H.own
  exact ⟨es,cl,he,H.le,H.below,a,c,d,e,hp,hc⟩
theorem St.toMp {es:Array MapEntry} {cl:Nat} (H:St B w0 (pto b (.map es cl)::r) w) (he:Ents es.toList D):St B w0 (Mp b D::r) w:=H.imp fun _ hh=>⟨es,cl,he,hh⟩
theorem run_lookup_map (M:MapT P T K E z) {es:Array MapEntry} {cl:Nat} (hb:w.heap[b]? = some (.map es cl)) (he:Ents es.toList D) (h:Int) :
    (Instr.lookup T (.map (some b)) (.int .i64 h) false).run P w=.ok ((mfind h D).getD z) w:=by
  obtain ⟨hu,hk,i,hi,hz⟩:=M
  have hf:=findNow_int h es.toList D 0 he
  have hm:=midx_find h D 0
  cases hx:midx h D 0 with
  | none =>
    rw [hx] at hf hm
    simp only [Option.map_none] at hm
    simp [Instr.lookup,run_underlying hu,MapKept.run_getObj_map hb,MapKept.run_checkKey hk (isKey_int h),MapKept.run_findKey hk hf,zeroValue,typeInfo,hi,hz,← hm]
  | some p =>
    rw [hx] at hf hm
    simp only [Option.map_some] at hm
    simp [Instr.lookup,run_underlying hu,MapKept.run_getObj_map hb,MapKept.run_checkKey hk (isKey_int h),MapKept.run_findKey hk hf,← hm]
theorem run_mapUpdate_st (M:MapT P T K E z) (H:St B w0 (Mp b D::r) w) (h:Int) (x:Value) :
    ∃ w',(Instr.mapUpdate T (.map (some b)) (.int .i64 h) x).run P w=.ok () w'∧St B w0 (Mp b (mset h x D)::r) w'∧(∀ g,g≠b→w'.heap[g]? = w.heap[g]?):=by
  obtain ⟨hu,hk,_⟩:=M
  obtain ⟨es,cl,he,H1⟩:=H.mp
  have hb:=H1.heap.2
  have hf:=findNow_int h es.toList D 0 he
  cases hx:midx h D 0 with
  | none =>
    rw [hx] at hf
    refine ⟨{ w with heap:=w.heap.setIfInBounds b (.map (es.push { key:=.int .i64 h,val:=x,born:=cl }) (cl+1)) },?_,?_,fun g hg=>by simp [Array.getElem?_setIfInBounds]; intro e; exact (hg e.symm).elim⟩
    · simp [Instr.mapUpdate,run_underlying hu,MapKept.run_getObj_map hb,MapKept.run_checkKey hk (isKey_int h),MapKept.run_findKey hk hf,MapKept.run_setObj_map _ hb]
    · refine (H1.setObj _).toMp ?_
      rw [midx_none h x D 0 hx]
      simp only [Ents,Array.toList_push,List.map_append,List.map_cons,List.map_nil]
      rw [show List.map (fun e:MapEntry=>(e.key,e.val)) es.toList=_ from he]
  | some p =>
    obtain ⟨j,v⟩:=p
    rw [hx] at hf
    obtain ⟨h1,h2,h3⟩:=midx_some h x D es.toList 0 j v he hx
    simp only [Nat.sub_zero,Array.getElem?_toList] at h2 h3
    refine ⟨{ w with heap:=w.heap.setIfInBounds b (.map (es.modify j fun e => { e with key:=.int .i64 h,val:=x }) cl) },?_,?_,fun g hg=>by simp [Array.getElem?_setIfInBounds]; intro e; exact (hg e.symm).elim⟩
    · have hkk:((es[j]?).map (·.key)).getD (.int .i64 h)=.int .i64 h:=by rw [h2]; rfl
      simp [Instr.mapUpdate,run_underlying hu,MapKept.run_getObj_map hb,MapKept.run_checkKey hk (isKey_int h),MapKept.run_findKey hk hf,hkk,MapKept.run_keyThatStays (isKey_int h),MapKept.run_setObj_map _ hb]
    · refine (H1.setObj _).toMp ?_
      rw [Array.toList_modify]; exact h3
theorem wp_lookup_st {Q:Exit→Act→World→Prop} {A:Act} {o:Oper} {N:Act→World→Prop} (m k:Operand) (ho:o.op=.lookup T m k false) (M:MapT P T K E z) (H:St B w0 (Mp b D::r) w) (hm:A.eval m=.map (some b))
    (h:Int) (hk:A.eval k=.int .i64 h) (hN:N (A.put o.dst ((mfind h D).getD z)) w):o.wp P A w N Q:=by
  obtain ⟨es,cl,he,H1⟩:=H.mp
  unfold Oper.wp execOp
  simp only [ho,hm,hk,Sem.run_bind,run_lookup_map M H1.heap.2 he h,Result.andThen_ok,Sem.run_pure]
  exact hN
theorem wpList_lookup_st {ops:Array Oper} {Q:Exit→Act→World→Prop} {A:Act} {rest:List Oper} {o:Oper} (hgd:o.guard=none) (m k:Operand) (ho:o.op=.lookup T m k false) (M:MapT P T K E z) (H:St B w0 (Mp b D::r) w) (hm:A.eval m=.map (some b))
    (h:Int) (hk:A.eval k=.int .i64 h) (hN:wpList P ops Q rest (A.put o.dst ((mfind h D).getD z)) w):wpList P ops Q (o::rest) A w :=
  wpList_plain hgd fun _ hK=>wp_lookup_st m k ho M H hm h hk (hK _ _ hN)
end
end Go.Own
end
section
namespace Go.Proofs.YtbcngfgemjdllaaGreatDoor
open Go.RowKit Go.Own
def ty (k:Nat):TypeId:=match k with
  | 1=>364 | 2=>305 | 3=>367 | 4=>326 | 5=>340 | 6=>239 | 7=>271 | 8=>301 | 9=>332 | 10=>160 | 11=>322 | 12=>290 | _=>0
def tyT (k:Nat):TypeId:=match k with | 1=>317 | 2=>384 | 5=>391 | _=>0
structure KOk (k:Nat):Prop where
  lo:1≤k
  hi:k≤12
theorem KOk.cases {k:Nat} (h:KOk k):k=1∨k=2∨k=3∨k=4∨k=5∨k=6∨k=7∨k=8∨k=9∨k=10∨k=11∨k=12:=by have:=h.lo; have:=h.hi; omega
structure DOk (k:Nat):Prop where
  is:k=3∨k=4∨k=5∨k=6∨k=10∨k=11
structure BOk (k:Nat):Prop where
  is:k=3∨k=4∨k=5
structure TOk (k:Nat):Prop where
  is:k=1∨k=2∨k=5
@[go_sem] theorem m_st_GetStateNumber {k : Nat} (hk : KOk k) (b : Nat) (w : World) : (method 734 (ty k) (.pointer (some ⟨b, 0, none⟩)) "GetStateNumber").run Tryz.prog w = .ok (287, .pointer (some ⟨b, 0, none⟩)) w := by
  rcases hk.cases with rfl | rfl | rfl | rfl | rfl | rfl | rfl | rfl | rfl | rfl | rfl | rfl <;> kernel_rfl
@[go_sem] theorem m_st_SetStateNumber {k : Nat} (hk : KOk k) (b : Nat) (w : World) : (method 734 (ty k) (.pointer (some ⟨b, 0, none⟩)) "SetStateNumber").run Tryz.prog w = .ok (293, .pointer (some ⟨b, 0, none⟩)) w := by
  rcases hk.cases with rfl | rfl | rfl | rfl | rfl | rfl | rfl | rfl | rfl | rfl | rfl | rfl <;> kernel_rfl
@[go_sem] theorem m_st_GetTransitions {k : Nat} (hk : KOk k) (b : Nat) (w : World) : (method 734 (ty k) (.pointer (some ⟨b, 0, none⟩)) "GetTransitions").run Tryz.prog w = .ok (129, .pointer (some ⟨b, 0, none⟩)) w := by
  rcases hk.cases with rfl | rfl | rfl | rfl | rfl | rfl | rfl | rfl | rfl | rfl | rfl | rfl <;> kernel_rfl
@[go_sem] theorem m_st_AddTransition {k : Nat} (hk : KOk k) (b : Nat) (w : World) : (method 734 (ty k) (.pointer (some ⟨b, 0, none⟩)) "AddTransition").run Tryz.prog w = .ok (128, .pointer (some ⟨b, 0, none⟩)) w := by
  rcases hk.cases with rfl | rfl | rfl | rfl | rfl | rfl | rfl | rfl | rfl | rfl | rfl | rfl <;> kernel_rfl
@[go_sem] theorem m_st_GetEpsilonOnlyTransitions {k : Nat} (hk : KOk k) (b : Nat) (w : World) : (method 734 (ty k) (.pointer (some ⟨b, 0, none⟩)) "GetEpsilonOnlyTransitions").run Tryz.prog w = .ok (284, .pointer (some ⟨b, 0, none⟩)) w := by
  rcases hk.cases with rfl | rfl | rfl | rfl | rfl | rfl | rfl | rfl | rfl | rfl | rfl | rfl <;> kernel_rfl
@[go_sem] theorem m_st_GetRuleIndex {k : Nat} (hk : KOk k) (b : Nat) (w : World) : (method 734 (ty k) (.pointer (some ⟨b, 0, none⟩)) "GetRuleIndex").run Tryz.prog w = .ok (286, .pointer (some ⟨b, 0, none⟩)) w := by
  rcases hk.cases with rfl | rfl | rfl | rfl | rfl | rfl | rfl | rfl | rfl | rfl | rfl | rfl <;> kernel_rfl
@[go_sem] theorem m_st_SetRuleIndex {k : Nat} (hk : KOk k) (b : Nat) (w : World) : (method 734 (ty k) (.pointer (some ⟨b, 0, none⟩)) "SetRuleIndex").run Tryz.prog w = .ok (292, .pointer (some ⟨b, 0, none⟩)) w := by
  rcases hk.cases with rfl | rfl | rfl | rfl | rfl | rfl | rfl | rfl | rfl | rfl | rfl | rfl <;> kernel_rfl
@[go_sem] theorem m_st_SetATN {k : Nat} (hk : KOk k) (b : Nat) (w : World) : (method 734 (ty k) (.pointer (some ⟨b, 0, none⟩)) "SetATN").run Tryz.prog w = .ok (290, .pointer (some ⟨b, 0, none⟩)) w := by
  rcases hk.cases with rfl | rfl | rfl | rfl | rfl | rfl | rfl | rfl | rfl | rfl | rfl | rfl <;> kernel_rfl
@[go_sem] theorem m_de_getDecision {k : Nat} (hk : DOk k) (b : Nat) (w : World) : (method 734 (ty k) (.pointer (some ⟨b, 0, none⟩)) "loop.example/pub-tokensoflexers/pub/antlratn.getDecision").run Tryz.prog w = .ok (295, .pointer (some ⟨b, 0, none⟩)) w := by
  rcases hk.is with rfl | rfl | rfl | rfl | rfl | rfl <;> kernel_rfl
@[go_sem] theorem m_de_setDecision {k : Nat} (hk : DOk k) (b : Nat) (w : World) : (method 734 (ty k) (.pointer (some ⟨b, 0, none⟩)) "loop.example/pub-tokensoflexers/pub/antlratn.setDecision").run Tryz.prog w = .ok (297, .pointer (some ⟨b, 0, none⟩)) w := by
  rcases hk.is with rfl | rfl | rfl | rfl | rfl | rfl <;> kernel_rfl
@[go_sem] theorem m_de_getNonGreedy {k : Nat} (hk : DOk k) (b : Nat) (w : World) : (method 734 (ty k) (.pointer (some ⟨b, 0, none⟩)) "loop.example/pub-tokensoflexers/pub/antlratn.getNonGreedy").run Tryz.prog w = .ok (296, .pointer (some ⟨b, 0, none⟩)) w := by
  rcases hk.is with rfl | rfl | rfl | rfl | rfl | rfl <;> kernel_rfl
@[go_sem] theorem m_bl_getEndState {k : Nat} (hk : BOk k) (b : Nat) (w : World) : (method 734 (ty k) (.pointer (some ⟨b, 0, none⟩)) "loop.example/pub-tokensoflexers/pub/antlratn.getEndState").run Tryz.prog w = .ok (326, .pointer (some ⟨b, 0, none⟩)) w := by
  rcases hk.is with rfl | rfl | rfl <;> kernel_rfl
@[go_sem] theorem m_bl_setEndState {k : Nat} (hk : BOk k) (b : Nat) (w : World) : (method 734 (ty k) (.pointer (some ⟨b, 0, none⟩)) "loop.example/pub-tokensoflexers/pub/antlratn.setEndState").run Tryz.prog w = .ok (327, .pointer (some ⟨b, 0, none⟩)) w := by
  rcases hk.is with rfl | rfl | rfl <;> kernel_rfl
@[go_sem] theorem m_tr_getTarget {k : Nat} (hk : TOk k) (b : Nat) (w : World) : (method 734 (tyT k) (.pointer (some ⟨b, 0, none⟩)) "loop.example/pub-tokensoflexers/pub/antlratn.getTarget").run Tryz.prog w = .ok (126, .pointer (some ⟨b, 0, none⟩)) w := by
  rcases hk.is with rfl | rfl | rfl <;> kernel_rfl
@[go_sem] theorem m_tr_getIsEpsilon {k : Nat} (hk : TOk k) (b : Nat) (w : World) : (method 734 (tyT k) (.pointer (some ⟨b, 0, none⟩)) "loop.example/pub-tokensoflexers/pub/antlratn.getIsEpsilon").run Tryz.prog w = .ok (320, .pointer (some ⟨b, 0, none⟩)) w := by
  rcases hk.is with rfl | rfl | rfl <;> kernel_rfl
@[go_sem] theorem m_tr_getSerializationType {k : Nat} (hk : TOk k) (b : Nat) (w : World) : (method 734 (tyT k) (.pointer (some ⟨b, 0, none⟩)) "loop.example/pub-tokensoflexers/pub/antlratn.getSerializationType").run Tryz.prog w = .ok (322, .pointer (some ⟨b, 0, none⟩)) w := by
  rcases hk.is with rfl | rfl | rfl <;> kernel_rfl
@[go_sem] theorem m_tr1_Matches (b : Nat) (w : World) : (method 734 317 (.pointer (some ⟨b, 0, none⟩)) "Matches").run Tryz.prog w = .ok (324, .pointer (some ⟨b, 0, none⟩)) w := by kernel_rfl
@[go_sem] theorem m_tr2_Matches (b : Nat) (w : World) : (method 734 384 (.pointer (some ⟨b, 0, none⟩)) "Matches").run Tryz.prog w = .ok (334, .pointer (some ⟨b, 0, none⟩)) w := by kernel_rfl
@[go_sem] theorem m_tr5_Matches (b : Nat) (w : World) : (method 734 391 (.pointer (some ⟨b, 0, none⟩)) "Matches").run Tryz.prog w = .ok (341, .pointer (some ⟨b, 0, none⟩)) w := by kernel_rfl
@[go_sem] theorem m_pr_Hash (b : Nat) (w : World) : (method 734 428 (.pointer (some ⟨b, 0, none⟩)) "Hash").run Tryz.prog w = .ok (385, .pointer (some ⟨b, 0, none⟩)) w := by kernel_rfl
@[go_sem] theorem m_ch_Consume (b : Nat) (w : World) : (method 734 123 (.pointer (some ⟨b, 0, none⟩)) "Consume").run Tryz.prog w = .ok (276, .pointer (some ⟨b, 0, none⟩)) w := by kernel_rfl
@[go_sem] theorem m_ch_LA (b : Nat) (w : World) : (method 734 123 (.pointer (some ⟨b, 0, none⟩)) "LA").run Tryz.prog w = .ok (277, .pointer (some ⟨b, 0, none⟩)) w := by kernel_rfl
@[go_sem] theorem m_ch_Mark (b : Nat) (w : World) : (method 734 123 (.pointer (some ⟨b, 0, none⟩)) "Mark").run Tryz.prog w = .ok (278, .pointer (some ⟨b, 0, none⟩)) w := by kernel_rfl
@[go_sem] theorem m_ch_Index (b : Nat) (w : World) : (method 734 123 (.pointer (some ⟨b, 0, none⟩)) "Index").run Tryz.prog w = .ok (43, .pointer (some ⟨b, 0, none⟩)) w := by kernel_rfl
@[go_sem] theorem m_ch_Seek (b : Nat) (w : World) : (method 734 123 (.pointer (some ⟨b, 0, none⟩)) "Seek").run Tryz.prog w = .ok (280, .pointer (some ⟨b, 0, none⟩)) w := by kernel_rfl
@[go_sem] theorem m_ch_Release (b : Nat) (w : World) : (method 734 123 (.pointer (some ⟨b, 0, none⟩)) "Release").run Tryz.prog w = .ok (279, .pointer (some ⟨b, 0, none⟩)) w := by kernel_rfl
@[go_sem] theorem m_cf_Hash (b : Nat) (w : World) : (method 734 222 (.pointer (some ⟨b, 0, none⟩)) "Hash").run Tryz.prog w = .ok (99, .pointer (some ⟨b, 0, none⟩)) w := by kernel_rfl
@[go_sem] theorem m_cf_Equals (b : Nat) (w : World) : (method 734 222 (.pointer (some ⟨b, 0, none⟩)) "Equals").run Tryz.prog w = .ok (311, .pointer (some ⟨b, 0, none⟩)) w := by kernel_rfl
@[go_sem] theorem m_ds_Hash (b : Nat) (w : World) : (method 734 157 (.pointer (some ⟨b, 0, none⟩)) "Hash").run Tryz.prog w = .ok (68, .pointer (some ⟨b, 0, none⟩)) w := by kernel_rfl
@[go_sem] theorem m_ds_Equals (b : Nat) (w : World) : (method 734 157 (.pointer (some ⟨b, 0, none⟩)) "Equals").run Tryz.prog w = .ok (407, .pointer (some ⟨b, 0, none⟩)) w := by kernel_rfl
@[go_sem] theorem m_cc_Hash1 (b : Nat) (w : World) : (method 734 346 (.pointer (some ⟨b, 0, none⟩)) "Hash1").run Tryz.prog w = .ok (329, .pointer (some ⟨b, 0, none⟩)) w := by kernel_rfl
@[go_sem] theorem m_cc_Equals2 (b : Nat) (w : World) : (method 734 346 (.pointer (some ⟨b, 0, none⟩)) "Equals2").run Tryz.prog w = .ok (328, .pointer (some ⟨b, 0, none⟩)) w := by kernel_rfl
@[go_sem] theorem m_cd_Hash1 (b : Nat) (w : World) : (method 734 355 (.pointer (some ⟨b, 0, none⟩)) "Hash1").run Tryz.prog w = .ok (331, .pointer (some ⟨b, 0, none⟩)) w := by kernel_rfl
@[go_sem] theorem m_cd_Equals2 (b : Nat) (w : World) : (method 734 355 (.pointer (some ⟨b, 0, none⟩)) "Equals2").run Tryz.prog w = .ok (330, .pointer (some ⟨b, 0, none⟩)) w := by kernel_rfl
@[go_sem] theorem m_cs_Equals (b : Nat) (w : World) : (method 734 173 (.pointer (some ⟨b, 0, none⟩)) "Equals").run Tryz.prog w = .ok (408, .pointer (some ⟨b, 0, none⟩)) w := by kernel_rfl
end Go.Proofs.YtbcngfgemjdllaaGreatDoor
end
section
namespace Go.Proofs.YtbcngfgemjdllaaGreatDoor
open Go.RowKit Go.Own
set_option maxRecDepth 100000 in
theorem c95_ex (h v:Int):∃ n:Int,∀ (w:World),Calls Tryz.prog 95 #[.int .i64 h,.int .i64 v] w fun e w'=>e=.returned (.int .i64 n)∧w=w':=by
  refine ⟨?n,fun w => ?_⟩
  rotate_left
  go_enter Tryz.func95,Tryz.ntmps95
  go_wp2
  go_ret
  refine ⟨?_,rfl⟩
  simp only [List.getD_cons_succ,List.getD_cons_zero,Array.getD_eq_getD_getElem?,List.getElem?_toArray,List.getElem?_cons_succ,List.getElem?_cons_zero,Option.getD_some]
  exact rfl
set_option maxRecDepth 100000 in
theorem c97_ex (h v:Int):∃ n:Int,∀ (w:World),Calls Tryz.prog 97 #[.int .i64 h,.int .i64 v] w fun e w'=>e=.returned (.int .i64 n)∧w=w':=by
  refine ⟨?n,fun w => ?_⟩
  rotate_left
  go_enter Tryz.func97,Tryz.ntmps97
  go_wp2
  go_ret
  refine ⟨?_,rfl⟩
  simp only [List.getD_cons_succ,List.getD_cons_zero,Array.getD_eq_getD_getElem?,List.getElem?_toArray,List.getElem?_cons_succ,List.getElem?_cons_zero,Option.getD_some]
  exact rfl
noncomputable def mU (h v:Int):Int:=Classical.choose (c95_ex h v)
noncomputable def mF (h v:Int):Int:=Classical.choose (c97_ex h v)
theorem c95 (h v:Int) (w:World):Calls Tryz.prog 95 #[.int .i64 h,.int .i64 v] w fun e w'=>e=.returned (.int .i64 (mU h v))∧w=w':=Classical.choose_spec (c95_ex h v) w
theorem c97 (h v:Int) (w:World):Calls Tryz.prog 97 #[.int .i64 h,.int .i64 v] w fun e w'=>e=.returned (.int .i64 (mF h v))∧w=w':=Classical.choose_spec (c97_ex h v) w
theorem c94 (h:Int) (w:World):Calls Tryz.prog 94 #[.int .i64 h] w fun e w'=>e=.returned (.int .i64 h)∧w=w':=by
  go_enter Tryz.func94,Tryz.ntmps94
  go_wp2
  go_ret
  exact ⟨rfl,rfl⟩
theorem c193 (w:World):Calls Tryz.prog 193 #[.pointer none] w fun e w'=>e=.returned (.int .i64 61)∧w=w':=by
  go_enter Tryz.func193,Tryz.ntmps193
  go_wp2
  go_ret
  exact ⟨rfl,rfl⟩
theorem c385 (b:Nat) (w:World) (h0:w.cell? ⟨b,0,none⟩=some (.int .i64 (-1))) (h1:w.cell? ⟨b,1,none⟩=some (.int .i64 (-1))) (h2:w.cell? ⟨b,2,none⟩=some (.bool false)) :
    Calls Tryz.prog 385 #[.pointer (some ⟨b,0,none⟩)] w fun e w'=>e=.returned (.int .i64 (mF (mU (mU (mU 0 (-1)) (-1)) 0) 3))∧w=w':=by
  go_enter Tryz.func385,Tryz.ntmps385
  go_wp2_with (first | (go_at_call 94; refine (c94 _ _).mono ?_; rintro e w' ⟨rfl,rfl⟩) | (go_at_call 95; refine (c95 _ _ _).mono ?_; rintro e w' ⟨rfl,rfl⟩) | (go_at_call 97; refine (c97 _ _ _).mono ?_; rintro e w' ⟨rfl,rfl⟩))
  go_ret
  exact ⟨rfl,rfl⟩
end Go.Proofs.YtbcngfgemjdllaaGreatDoor
end
section
namespace Go.Own
theorem run_sameAddr {P:Program} {w:World} {b c:Nat} {x y:Array Value} {T U:TypeId} (hb:w.heap[b]? = some (.cells x T (0,0))) (hc:w.heap[c]? = some (.cells y U (0,0))) :
    (sameAddr ⟨b,0,none⟩ ⟨c,0,none⟩).run P w=.ok (b == c) w:=by
  by_cases h:b=c
  · subst h; simp [sameAddr]
  · have h':(b == c)=false:=by simpa using h
    have fr:∀ (g:Nat) (z:Array Value) (V:TypeId),w.heap[g]? = some (.cells z V (0,0))→∀ o,w.frozen? ⟨g,o,none⟩=false:=fun g z V hg o=>by simp [World.frozen?,hg]
    have sh:∀ (g:Nat) (z:Array Value) (V:TypeId),w.heap[g]? = some (.cells z V (0,0))→w.shape? g=some (V,z.size):=fun g z V hg=>by simp [World.shape?,hg]
    have f1:=fr b x T hb
    have f2:=fr c y U hc
    have s1:=sh b x T hb
    have s2:=sh c y U hc
    simp [sameAddr,h',frozen,shape,noView,viewAt,mayBeOne,stringish,Sem.run,f1,f2,s1,s2]
theorem run_equalIn_ptr {P:Program} {w:World} {t:TypeId} {e:TypeId} (d:Nat) (ht:P.underlying t=some (.pointer e)) {n:Nat} (he:(P.info? e).map (·.size)=some (n+1)) {b c:Nat} {x y:Array Value} {T U:TypeId} (hb:w.heap[b]? = some (.cells x T (0,0))) (hc:w.heap[c]? = some (.cells y U (0,0))) :
    (Op.equalIn (d+1) t (.pointer (some ⟨b,0,none⟩)) (.pointer (some ⟨c,0,none⟩))).run P w=.ok (b == c) w:=by
  have h:=run_sameAddr (P:=P) hb hc
  cases hi:P.info? e with
  | none=>rw [hi] at he; cases he
  | some i =>
    have hs:i.size=n+1:=by simpa [hi] using he
    simp [Op.equalIn,run_underlying ht,samePointer,sizeOf,typeInfo,hi,hs,h]
theorem run_eql_ptr {P:Program} {w:World} {t:TypeId} {e:TypeId} (ht:P.underlying t=some (.pointer e)) {n:Nat} (he:(P.info? e).map (·.size)=some (n+1)) {b c:Nat} {x y:Array Value} {T U:TypeId} (hb:w.heap[b]? = some (.cells x T (0,0))) (hc:w.heap[c]? = some (.cells y U (0,0))) :
    (binOp .eql t (.pointer (some ⟨b,0,none⟩)) (.pointer (some ⟨c,0,none⟩))).run P w=.ok (.bool (b == c)) w:=by
  have h:(Op.equal t (.pointer (some ⟨b,0,none⟩)) (.pointer (some ⟨c,0,none⟩))).run P w=.ok (b == c) w:=run_equalIn_ptr 9999 ht he hb hc
  simp only [binOp]
  simp [h]
@[go_sem] theorem run_assert_hit {P:Program} {w:World} {t e xt:TypeId} {x:Value} (ht:P.underlying t=some (.pointer e)):(Instr.typeAssert (.iface t x) xt t true).run P w=.ok (.tuple #[x,.bool true]) w:=by
  simp [Instr.typeAssert,run_underlying ht]
theorem run_assert_miss {P:Program} {w:World} {t e xt u:TypeId} {x:Value} (ht:P.underlying t=some (.pointer e)) (hz:(P.info? t).bind (·.zero)=some (.pointer none)) (hne:u≠t) :
    (Instr.typeAssert (.iface u x) xt t true).run P w=.ok (.tuple #[.pointer none,.bool false]) w:=by
  cases hi:P.info? t with
  | none=>rw [hi] at hz; cases hz
  | some i =>
    have h:i.zero=some (.pointer none):=by simpa [hi] using hz
    simp [Instr.typeAssert,run_underlying ht,hne,zeroValue,typeInfo,hi,h]
end Go.Own
namespace Go.Proofs.YtbcngfgemjdllaaGreatDoor
open Go.RowKit Go.Own
def cfC (k sb:Nat) (a:Int) (xb pb:Nat):List Value :=
  [.bool false,.iface (ty k) (.pointer (some ⟨sb,0,none⟩)),.int .i64 a,.pointer (some ⟨xb,0,none⟩),.iface 428 (.pointer (some ⟨pb,0,none⟩)),.int .i64 0,.int .i64 0,.pointer none,.bool false]
structure CtxW (w:World) (xb pb:Nat):Prop where
  x0:w.cell? ⟨xb,0,none⟩=some (.int .i64 0)
  x1:w.cell? ⟨xb,1,none⟩=some (.int .i64 0)
  x3:w.cell? ⟨xb,3,none⟩=some (.int .i64 2147483647)
  p0:w.cell? ⟨pb,0,none⟩=some (.int .i64 (-1))
  p1:w.cell? ⟨pb,1,none⟩=some (.int .i64 (-1))
  p2:w.cell? ⟨pb,2,none⟩=some (.bool false)
  hx:w.heap[xb]? = some (ob 351 [.int .i64 0,.int .i64 0,.pointer none,.int .i64 2147483647,.slice none 0 0,.slice none 0 0])
noncomputable def hC (s a:Int):Int:=mF (mU (mU (mU (mU (mU (mU 7 s) a) 0) (mF (mU (mU (mU 0 (-1)) (-1)) 0) 3)) 0) 61) 6
structure CfgW (w:World) (cb k sb:Nat) (s a:Int) (xb pb:Nat):Prop where
  ob:w.heap[cb]? = some (ob 227 (cfC k sb a xb pb))
  ok:KOk k
  num:w.cell? ⟨sb,4,none⟩=some (.int .i64 s)
  ctx:CtxW w xb pb
set_option maxRecDepth 100000 in
theorem c138 {cb k sb:Nat} {s a:Int} {xb pb:Nat} {w:World} (h:CfgW w cb k sb s a xb pb):Calls Tryz.prog 138 #[.pointer (some ⟨cb,0,none⟩)] w fun e w'=>e=.returned (.int .i64 (hC s a))∧w=w':=by
  obtain ⟨ho,hk,hn,hx⟩:=h
  obtain ⟨x0,x1,x3,p0,p1,p2,_⟩:=hx
  obtain ⟨hc,hf⟩:=cells_at ho
  unfold cfC at hc
  clear ho hf
  go_enter Tryz.func138,Tryz.ntmps138
  go_wp2_with (first
    | (go_at_call 94; refine (c94 _ _).mono ?_; rintro e w' ⟨rfl,rfl⟩)
    | (go_at_call 95; refine (c95 _ _ _).mono ?_; rintro e w' ⟨rfl,rfl⟩)
    | (go_at_call 97; refine (c97 _ _ _).mono ?_; rintro e w' ⟨rfl,rfl⟩)
    | (go_at_call 287; refine (c287 _ _ _ hn).mono ?_; rintro e w' ⟨rfl,rfl⟩)
    | (go_at_call 192; refine (c192 _ _ _ x0).mono ?_; rintro e w' ⟨rfl,rfl⟩)
    | (go_at_call 193; refine (c193 _).mono ?_; rintro e w' ⟨rfl,rfl⟩)
    | (go_at_call 385; refine (c385 _ _ p0 p1 p2).mono ?_; rintro e w' ⟨rfl,rfl⟩))
  go_ret
  exact ⟨rfl,rfl⟩
theorem c99 {cb k sb:Nat} {s a:Int} {xb pb:Nat} {w:World} (h:CfgW w cb k sb s a xb pb):Calls Tryz.prog 99 #[.pointer (some ⟨cb,0,none⟩)] w fun e w'=>e=.returned (.int .i64 (hC s a))∧w=w':=by
  obtain ⟨hc,hf⟩:=cells_at h.ob
  unfold cfC at hc
  clear hf
  go_enter Tryz.func99,Tryz.ntmps99
  go_wp2_with (first
    | (go_at_call 138; refine (c138 h).mono ?_; rintro e w' ⟨rfl,rfl⟩))
  go_ret
  exact ⟨rfl,rfl⟩
theorem c329 {cb k sb:Nat} {s a:Int} {xb pb:Nat} {w:World} (v:Value) (h:CfgW w cb k sb s a xb pb):Calls Tryz.prog 329 #[v,.pointer (some ⟨cb,0,none⟩)] w fun e w'=>e=.returned (.int .i64 (hC s a))∧w=w':=by
  go_enter Tryz.func329,Tryz.ntmps329
  go_wp2_with (first
    | (go_at_call 99; refine (c99 h).mono ?_; rintro e w' ⟨rfl,rfl⟩))
  go_ret
  exact ⟨rfl,rfl⟩
set_option maxRecDepth 100000 in
theorem c312 {cb k sb k' sb':Nat} {a a':Int} {xb pb xb' pb' cb':Nat} {w:World} (h:w.heap[cb]? = some (ob 227 (cfC k sb a xb pb))) (h':w.heap[cb']? = some (ob 227 (cfC k' sb' a' xb' pb'))) :
    Calls Tryz.prog 312 #[.pointer (some ⟨cb,0,none⟩),.iface 222 (.pointer (some ⟨cb',0,none⟩))] w fun e w'=>e=.returned (.bool true)∧∃ n,w'=w.drewN n:=by
  have hp:=run_eql_ptr (P:=Tryz.prog) (w:=w) (t:=222) (e:=227) (n:=8) (by kernel_rfl) (by kernel_rfl) h h'
  obtain ⟨hc,hf⟩:=cells_at h
  obtain ⟨hc',hf'⟩:=cells_at h'
  unfold cfC at hc hc'
  clear hf hf' h h'
  go_enter Tryz.func312,Tryz.ntmps312
  go_wp2_with (first | (go_quiet (fail)))
  · go_ret
    exact ⟨rfl,0,rfl⟩
  · go_ret
    exact ⟨rfl,_,rfl⟩
theorem c311 {cb k sb k' sb':Nat} {a a':Int} {xb pb xb' pb' cb':Nat} {w:World} (h:w.heap[cb]? = some (ob 227 (cfC k sb a xb pb))) (h':w.heap[cb']? = some (ob 227 (cfC k' sb' a' xb' pb'))) :
    Calls Tryz.prog 311 #[.pointer (some ⟨cb,0,none⟩),.iface 222 (.pointer (some ⟨cb',0,none⟩))] w fun e w'=>e=.returned (.bool true)∧∃ n,w'=w.drewN n:=by
  obtain ⟨hc,hf⟩:=cells_at h
  unfold cfC at hc
  clear hf
  go_enter Tryz.func311,Tryz.ntmps311
  go_wp2_with (first | (go_at_call 312; refine (c312 h h').mono ?_; rintro e w' ⟨rfl,hw⟩))
  go_ret
  exact ⟨rfl,hw⟩
theorem c328 {cb k sb k' sb':Nat} {a a':Int} {xb pb xb' pb' cb':Nat} {w:World} (v:Value) (h:w.heap[cb]? = some (ob 227 (cfC k sb a xb pb))) (h':w.heap[cb']? = some (ob 227 (cfC k' sb' a' xb' pb'))) :
    Calls Tryz.prog 328 #[v,.pointer (some ⟨cb,0,none⟩),.pointer (some ⟨cb',0,none⟩)] w fun e w'=>e=.returned (.bool true)∧∃ n,w'=w.drewN n:=by
  go_enter Tryz.func328,Tryz.ntmps328
  go_wp2_with (first | (go_at_call 311; refine (c311 h h').mono ?_; rintro e w' ⟨rfl,hw⟩))
  go_ret
  exact ⟨rfl,hw⟩
end Go.Proofs.YtbcngfgemjdllaaGreatDoor
end
section
namespace Go.Own
open Go.RowKit
section
variable {P:Program} {B:Nat} {w0 w:World} {r:List HP} {T K E:TypeId} {z:Value} {b:Nat} {D:List (Int × Value)}
theorem St.drewN (H:St B w0 r w) (n:Nat):St B w0 r (w.drewN n):=⟨H.le,⟨H.below.os,H.below.tape,H.below.output,H.below.size,H.below.block⟩,H.own⟩
theorem wp_append1_st {v:Value} {n sz:Nat} {xs:List Value} {Q:Exit→Act→World→Prop} {A:Act} {N:Act→World→Prop} {o:Oper} {t e:TypeId} {bytes:Nat} (s x:Operand)
    (ho:o.op=.call { callee:=.builtin .append,args:=#[s,x],argTypes:=#[t,t] }) (T:SlT P t e sz bytes z) {g g':Nat} {news:List Value} (H:St B w0 (pts g e news::Osl v e sz n xs::r) w) (hs:A.eval s=v)
    (m:Nat) (hx:A.eval x=.slice (some ⟨g',0,none⟩) m m) (hg:g'=g) (hl:news.length=m * sz) (h1:∀ u ∈ news,u.oneCell'=true)
    (h63:n+m≤maxLen) (hbytes:(n+m) * bytes≤140737488355328)
    (h:∀ a' c' w',St B w0 (Osl (.slice a' (n+m) c') e sz (n+m) (xs++news)::r) w'→N (A.put o.dst (.slice a' (n+m) c')) w'):o.wp P A w N Q:=by
  subst hg
  have hn:∀ j u,news[j]? = some u→w.cell? ((⟨g',0,none⟩:Addr).add j)=some u:=fun j u hu=>by
    have hadd:(⟨g',0,none⟩:Addr).add j=⟨g',j,none⟩:=by unfold Addr.add; split <;> simp_all
    rw [hadd,H.cells.1]; exact hu
  obtain ⟨v',w',hr,h2,h3⟩:=run_append_st (ty:=o.type) T H.drop ⟨g',0,none⟩ m m news hl hn h1 h63 hbytes
  unfold Oper.wp execOp
  simp only [ho,resolve,invoke,builtin,Sem.run_bind,Sem.run_pure,Result.andThen_ok,List.map_toArray,List.map_cons,List.map_nil,hs,hx,hr]
  obtain ⟨a',c',rfl⟩:=h2.ownVal
  exact h a' c' w' h2
theorem step_append1_st {v:Value} {n sz:Nat} {xs:List Value} {ops:Array Oper} {F:Prop} {Q:Exit→Act→World→Prop} {A:Act} {N:Act→World→Prop} {o:Oper} {t e:TypeId} {bytes:Nat} (hgd:o.guard=none) (s x:Operand)
    (ho:o.op=.call { callee:=.builtin .append,args:=#[s,x],argTypes:=#[t,t] }) (T:SlT P t e sz bytes z) {g g':Nat} {news:List Value} (H:St B w0 (pts g e news::Osl v e sz n xs::r) w) (hs:A.eval s=v)
    (m:Nat) (hx:A.eval x=.slice (some ⟨g',0,none⟩) m m) (hg:g'=g) (hl:news.length=m * sz) (h1:∀ u ∈ news,u.oneCell'=true)
    (h63:n+m≤maxLen) (hbytes:(n+m) * bytes≤140737488355328)
    (h:∀ a' c' w',St B w0 (Osl (.slice a' (n+m) c') e sz (n+m) (xs++news)::r) w'→N (A.put o.dst (.slice a' (n+m) c')) w') :
    if Region.wanted o (yielded ops A.tmps)=true then Oper.wp P o A w N Q else F:=by
  rw [if_pos (by simp [Region.wanted,hgd])]
  exact wp_append1_st s x ho T H hs m hx hg hl h1 h63 hbytes h
end
end Go.Own
end
