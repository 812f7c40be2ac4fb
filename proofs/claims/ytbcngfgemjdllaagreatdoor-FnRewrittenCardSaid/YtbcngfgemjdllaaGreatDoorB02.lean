/- Part 2: D2, D3, D4, D5. -/
import Derived.IntWalk
import Derived.Deep.RegionLaw
import Derived.Test.YtbcngfgemjdllaaGreatDoorB01
set_option linter.unusedVariables false
set_option linter.unusedSimpArgs false
section
namespace Go.Own
theorem run_lookup_st {P:Program} {B:Nat} {w0 w:World} {r:List HP} {T K E:TypeId} {z:Value} {b:Nat} {D:List (Int × Value)} (M:MapT P T K E z) (H:St B w0 (Mp b D::r) w) (h:Int) :
    (Instr.lookup T (.map (some b)) (.int .i64 h) false).run P w=.ok ((mfind h D).getD z) w:=by
  obtain ⟨es,cl,he,H1⟩:=H.mp
  exact run_lookup_map M H1.heap.2 he h
end Go.Own
namespace Go.Proofs.YtbcngfgemjdllaaGreatDoor
open Go.RowKit Go.Own
theorem sl_inf {P:Program} {e:TypeId} {z:Value} {sz by_:Nat} (h:(P.info? e).map (fun i=>(i.zero,i.size,i.bytes))=some (some z,sz,by_)):∃ i,P.info? e=some i∧i.zero=some z∧i.size=sz∧i.bytes=by_:=by
  cases hi:P.info? e with
  | none=>rw [hi] at h; cases h
  | some i=>rw [hi] at h; simp at h; exact ⟨i,rfl,h.1,h.2.1,h.2.2⟩
theorem mp_zero {P:Program} {e:TypeId} {z:Value} (h:(P.info? e).map (fun i=>i.zero)=some (some z)):∃ i,P.info? e=some i∧i.zero=some z:=by
  cases hi:P.info? e with
  | none=>rw [hi] at h; cases h
  | some i=>rw [hi] at h; simp at h; exact ⟨i,rfl,h⟩
theorem sl218:SlT Tryz.prog 218 222 1 8 (.pointer none):=⟨by kernel_rfl,sl_inf (by kernel_rfl),by kernel_rfl,by decide⟩
theorem mt260:MapT Tryz.prog 260 3 218 (.slice none 0 0):=⟨by kernel_rfl,by kernel_rfl,mp_zero (by kernel_rfl)⟩
set_option maxRecDepth 100000 in
set_option maxHeartbeats 1000000 in
theorem c198_new {B:Nat} {w0 w:World} {r:List HP} {jb mb cmb:Nat} {len:Int} {D:List (Int × Value)} {cb k sb:Nat} {s a:Int} {xb pb:Nat}
    (H:St B w0 (pts jb 262 [.map (some mb),.int .i64 len,.iface 346 (.pointer (some ⟨cmb,0,none⟩))]::Mp mb D::r) w) (hc:CfgW w cb k sb s a xb pb) (hm:mfind (hC s a) D=none) (hl:0≤len) (hl2:len<1099511627776) :
    Calls Tryz.prog 198 #[.pointer (some ⟨jb,0,none⟩),.pointer (some ⟨cb,0,none⟩)] w fun e w'=>e=.returned (.tuple #[.pointer (some ⟨cb,0,none⟩),.bool false])∧∃ a' c',
      St B w0 (pts jb 262 [.map (some mb),.int .i64 (len+1),.iface 346 (.pointer (some ⟨cmb,0,none⟩))]::Mp mb (mset (hC s a) (.slice a' 1 c') D)::Osl (.slice a' 1 c') 222 1 1 [.pointer (some ⟨cb,0,none⟩)]::r) w':=by
  obtain ⟨hj,hf⟩:=H.cells
  have hj0:=hj 0
  have hj2:=hj 2
  have hj1:=hj 1
  simp only [List.getElem?_cons_zero,List.getElem?_cons_succ] at hj0 hj1 hj2
  have hf1:=hf 1
  clear hj hf
  go_enter Tryz.func198,Tryz.ntmps198
  go_wp2_with (first
    | (go_at_call 329; refine (c329 _ hc).mono ?_; rintro e w' ⟨rfl,rfl⟩)
    | (refine wpList_lookup_st rfl (.tmp 18) (.tmp 19) rfl mt260 (H.pick 1) rfl (hC s a) rfl ?_; rw [hm])
    | (refine wp_loop_once ?_))
  have hL:=run_lookup_st mt260 (H.pick 1) (hC s a)
  have HA:∀ o,St B w0 (pto w.heap.size o::Osl (.slice none 0 0) 222 1 0 []::pts jb 262 [.map (some mb),.int .i64 len,.iface 346 (.pointer (some ⟨cmb,0,none⟩))]::Mp mb D::r) (w.drew.alloc o):=fun o=>(H.drew.ownNil 222 1).alloc o
  have hL1:=fun o=>run_lookup_st mt260 ((HA o).pick 3) (hC s a)
  have hL2:=run_lookup_st mt260 (H.drew.pick 1) (hC s a)
  have hL3:=fun o=>run_lookup_st mt260 ((H.alloc o).drew.pick 2) (hC s a)
  simp only [hm] at hL3
  rw [hm] at hL hL2
  simp only [hm] at hL1
  have e1:=World.new_ne w _ hj0
  go_region_held3 (fun w'=>w'.cell? ⟨jb,0,none⟩=some (.map (some mb)))
    (first
      | go_keep
      | exact (H2.pick 2).cells.1 0
      | exact (H1.pick 1).cells.1 0)
    (first
      | (refine step_append1_st rfl _ _ rfl sl218 (g:=w.heap.size) (news:=[.pointer (some ⟨cb,0,none⟩)]) (HA _) rfl 1 rfl rfl rfl (by simp [Value.oneCell']) (by decide) (by decide) ?_; intro a' c' w1 H1; simp only [Nat.zero_add,List.nil_append]; obtain ⟨w2,hu,H2,hw2⟩:=run_mapUpdate_st mt260 (H1.pick 2) (hC s a) (.slice a' 1 c')))
  all_goals
    obtain ⟨hk,hfk⟩:=(H2.pick 2).cells
    have hk1:=hk 1
    have hfk1:=hfk 1
    simp only [List.getElem?_cons_zero,List.getElem?_cons_succ] at hk1
    clear hk hfk
    go_wp2_with fail
    go_ret2
  all_goals
    refine ⟨rfl,a',c',?_⟩
    have HZ:=((H2.pick 2).setCell (off:=1) (.int .i64 (len+1))).perm (List.Perm.cons _ (List.Perm.refl _))
    simp only [List.set_cons_succ,List.set_cons_zero] at HZ
    have hw1:IntKind.i64.wrap (len+1)=len+1:=IntWalk.i64_in _ (by omega)
    first | exact HZ | (rw [hw1]; exact HZ)
set_option maxRecDepth 100000 in
theorem c198_old {w:World} {jb mb cmb g c:Nat} {cb k sb k' sb' cb':Nat} {s a a':Int} {xb pb xb' pb':Nat}
    (hj0:w.cell? ⟨jb,0,none⟩=some (.map (some mb))) (hj2:w.cell? ⟨jb,2,none⟩=some (.iface 346 (.pointer (some ⟨cmb,0,none⟩))))
    (hc:CfgW w cb k sb s a xb pb) (hL:(Instr.lookup 260 (.map (some mb)) (.int .i64 (hC s a)) false).run Tryz.prog w=.ok (.slice (some ⟨g,0,none⟩) 1 c) w)
    (hg:w.cell? ⟨g,0,none⟩=some (.pointer (some ⟨cb',0,none⟩))) (h':w.heap[cb']? = some (ob 227 (cfC k' sb' a' xb' pb'))) :
    Calls Tryz.prog 198 #[.pointer (some ⟨jb,0,none⟩),.pointer (some ⟨cb,0,none⟩)] w fun e w'=>e=.returned (.tuple #[.pointer (some ⟨cb',0,none⟩),.bool true])∧∃ n,w'=w.drewN n:=by
  go_enter Tryz.func198,Tryz.ntmps198
  go_wp2_with (first
    | (go_at_call 329; refine (c329 _ hc).mono ?_; rintro e w' ⟨rfl,rfl⟩)
    | (go_at_call 328; refine (c328 _ hc.ob h').mono ?_; rintro e w' ⟨rfl,n,rfl⟩)
    | (refine wp_loop_once ?_))
  go_ret2
  exact ⟨rfl,n,rfl⟩
end Go.Proofs.YtbcngfgemjdllaaGreatDoor
end
section
namespace Go.Own
theorem setCell_same {w:World} {b off:Nat} {T:TypeId} {cs:List Value} {v:Value} (h:w.heap[b]? = some (ob T cs)) (hv:cs[off]? = some v):w.setCell ⟨b,off,none⟩ v=w:=by
  have hs : (w.setCell ⟨b, off, none⟩ v).heap = w.heap := by
    apply Array.ext_getElem?
    intro k
    simp only [World.setCell,Array.getElem?_modify]
    by_cases hn:b=k
    · subst hn
      rw [if_pos rfl,h]
      have:cs.set off v=cs:=by
        apply List.ext_getElem?
        intro j
        rw [List.getElem?_set]
        split
        · rename_i e; subst e
          obtain ⟨hlt,_⟩:=List.getElem?_eq_some_iff.1 hv
          rw [if_pos hlt,hv]
        · rfl
      simp [ob,this]
    · rw [if_neg hn]
  have e:w.setCell ⟨b,off,none⟩ v = { w with heap:=(w.setCell ⟨b,off,none⟩ v).heap } := rfl
  rw [e,hs]
def isIf:TypeDesc→Bool
  | .interface _=>true
  | _=>false
theorem run_eql_iface_ptr {P:Program} {w:World} {ti:TypeId} {t e:TypeId} (hif:(P.underlying ti).map isIf=some true) (hcm:(P.info? t).map (·.comparable)=some true) (ht:P.underlying t=some (.pointer e)) {n:Nat} (he:(P.info? e).map (·.size)=some (n+1))
    {b c:Nat} {x y:Array Value} {T U:TypeId} (hb:w.heap[b]? = some (.cells x T (0,0))) (hc:w.heap[c]? = some (.cells y U (0,0))) :
    (binOp .eql ti (.iface t (.pointer (some ⟨b,0,none⟩))) (.iface t (.pointer (some ⟨c,0,none⟩)))).run P w=.ok (.bool (b == c)) w:=by
  obtain ⟨ms,hi⟩:∃ ms,P.underlying ti=some (.interface ms):=by
    cases hd:P.underlying ti with
    | none=>rw [hd] at hif; cases hif
    | some d =>
      rw [hd] at hif
      cases d <;> simp [isIf] at hif ⊢
  have hp:(Op.equalIn (9998+1) t (.pointer (some ⟨b,0,none⟩)) (.pointer (some ⟨c,0,none⟩))).run P w=.ok (b == c) w:=run_equalIn_ptr 9998 ht he hb hc
  have h:(Op.equal ti (.iface t (.pointer (some ⟨b,0,none⟩))) (.iface t (.pointer (some ⟨c,0,none⟩)))).run P w=.ok (b == c) w:=by
    show (Op.equalIn (9999+1) ti _ _).run P w=_
    cases hj:P.info? t with
    | none=>rw [hj] at hcm; cases hcm
    | some i =>
      have hcm:i.comparable=true:=by simpa [hj] using hcm
      rw [Op.equalIn.eq_def]
      simp only [Sem.run_bind,run_underlying hi,Result.andThen_ok,ne_eq,not_true_eq_false,if_false,typeInfo,hj,hcm,Bool.not_true,Bool.false_eq_true]
      simpa [typeInfo,hj,hcm] using hp
  simp only [binOp]
  simp [h]
@[go_sem] theorem run_assert_plain {P:Program} {w:World} {t e xt:TypeId} {x:Value} (ht:P.underlying t=some (.pointer e)):(Instr.typeAssert (.iface t x) xt t false).run P w=.ok x w:=by
  simp [Instr.typeAssert,run_underlying ht]
end Go.Own
namespace Go.Proofs.YtbcngfgemjdllaaGreatDoor
open Go.RowKit Go.Own
theorem c201 (b:Nat) (n:Int) (w:World) {cs:List Value} (h:w.heap[b]? = some (ob 227 cs)) (hv:cs[5]? = some (.int .i64 n)):Calls Tryz.prog 201 #[.pointer (some ⟨b,0,none⟩),.int .i64 n] w fun e w'=>e=.returned (.tuple #[])∧w=w':=by
  obtain ⟨hc,hf⟩:=cells_at h
  have hc5:=hc 5
  have hf5:=hf 5
  clear hc hf
  rw [hv] at hc5
  go_enter Tryz.func201,Tryz.ntmps201
  go_wp2_with fail
  go_end0
  exact ⟨rfl,(setCell_same h hv).symm⟩
theorem c205 (b x:Nat) (w:World) {cs:List Value} (h:w.heap[b]? = some (ob 227 cs)) (hv:cs[3]? = some (.pointer (some ⟨x,0,none⟩))):Calls Tryz.prog 205 #[.pointer (some ⟨b,0,none⟩),.pointer (some ⟨x,0,none⟩)] w fun e w'=>e=.returned (.tuple #[])∧w=w':=by
  obtain ⟨hc,hf⟩:=cells_at h
  have hc5:=hc 3
  have hf5:=hf 3
  clear hc hf
  rw [hv] at hc5
  go_enter Tryz.func205,Tryz.ntmps205
  go_wp2_with fail
  go_end0
  exact ⟨rfl,(setCell_same h hv).symm⟩
theorem c202 (w:World):Calls Tryz.prog 202 #[.int .i64 0,.int .i64 0] w fun e w'=>e=.returned (.int .i64 0)∧w=w':=by
  go_enter Tryz.func202,Tryz.ntmps202
  go_wp2_with fail
  go_ret
  exact ⟨rfl,rfl⟩
theorem c195 (b:Nat) (w:World) (h0:w.cell? ⟨b,0,none⟩=some (.int .i64 (-1))) (h1:w.cell? ⟨b,1,none⟩=some (.int .i64 (-1))):Calls Tryz.prog 195 #[.iface 428 (.pointer (some ⟨b,0,none⟩))] w fun e w'=>e=.returned (.bool true)∧w=w':=by
  go_enter Tryz.func195,Tryz.ntmps195
  go_wp2_with fail
  go_ret
  exact ⟨rfl,rfl⟩
def ctxC:List Value:=[.int .i64 0,.int .i64 0,.pointer none,.int .i64 2147483647,.slice none 0 0,.slice none 0 0]
theorem c142 (b:Nat) (w:World) (h:w.cell? ⟨b,1,none⟩=some (.int .i64 0)):Calls Tryz.prog 142 #[.pointer (some ⟨b,0,none⟩)] w fun e w'=>e=.returned (.bool true)∧w=w':=by
  go_enter Tryz.func142,Tryz.ntmps142
  go_wp2_with fail
  go_ret
  exact ⟨rfl,rfl⟩
theorem c135 (b:Nat) (w:World) (h:w.cell? ⟨b,1,none⟩=some (.int .i64 0)):Calls Tryz.prog 135 #[.pointer (some ⟨b,0,none⟩)] w fun e w'=>e=.returned (.int .i64 1)∧w=w':=by
  go_enter Tryz.func135,Tryz.ntmps135
  go_wp2_with fail
  go_ret
  exact ⟨rfl,rfl⟩
theorem c136 (b:Nat) (i:Int) (w:World) (h:w.cell? ⟨b,1,none⟩=some (.int .i64 0)) (h3:w.cell? ⟨b,3,none⟩=some (.int .i64 2147483647)):Calls Tryz.prog 136 #[.pointer (some ⟨b,0,none⟩),.int .i64 i] w fun e w'=>e=.returned (.int .i64 2147483647)∧w=w':=by
  go_enter Tryz.func136,Tryz.ntmps136
  go_wp2_with fail
  go_ret
  exact ⟨rfl,rfl⟩
theorem c141 (b:Nat) (w:World) (h:w.cell? ⟨b,1,none⟩=some (.int .i64 0)) (h3:w.cell? ⟨b,3,none⟩=some (.int .i64 2147483647)):Calls Tryz.prog 141 #[.pointer (some ⟨b,0,none⟩)] w fun e w'=>e=.returned (.bool true)∧w=w':=by
  go_enter Tryz.func141,Tryz.ntmps141
  go_wp2_with (first
    | (go_at_call 135; refine (c135 _ _ h).mono ?_; rintro e w' ⟨rfl,rfl⟩)
    | (go_at_call 136; refine (c136 _ _ _ h h3).mono ?_; rintro e w' ⟨rfl,rfl⟩))
  go_ret
  exact ⟨rfl,rfl⟩
set_option maxRecDepth 100000 in
theorem c220 (a b:Nat) (w:World) (ha:w.heap[a]? = some (ob 351 ctxC)) (hb:w.heap[b]? = some (ob 351 ctxC)):Calls Tryz.prog 220 #[.pointer (some ⟨a,0,none⟩),.iface 190 (.pointer (some ⟨b,0,none⟩))] w fun e w'=>e=.returned (.bool true)∧w=w':=by
  have h1:w.cell? ⟨a,1,none⟩=some (.int .i64 0):=(cells_at ha).1 1
  have h2:w.cell? ⟨b,1,none⟩=some (.int .i64 0):=(cells_at hb).1 1
  have hp:(binOp .eql 511 (.iface 190 (.pointer (some ⟨a,0,none⟩))) (.iface 190 (.pointer (some ⟨b,0,none⟩)))).run Tryz.prog w=.ok (.bool (a == b)) w:=run_eql_iface_ptr (ti:=511) (e:=351) (n:=5) (by kernel_rfl) (by kernel_rfl) (by kernel_rfl) (by kernel_rfl) ha hb
  go_enter Tryz.func220,Tryz.ntmps220
  go_wp2_with (first
    | (go_at_call 142; refine (c142 _ _ h2).mono ?_; rintro e w' ⟨rfl,rfl⟩))
  all_goals go_ret
  all_goals exact ⟨rfl,rfl⟩
set_option maxRecDepth 100000 in
theorem c199 (b c:Nat) (t:Bool) (w:World) (ha:w.heap[b]? = some (ob 351 ctxC)) (hb:w.heap[c]? = some (ob 351 ctxC)):Calls Tryz.prog 199 #[.pointer (some ⟨b,0,none⟩),.pointer (some ⟨c,0,none⟩),.bool t,.pointer none] w fun e w'=>e=.returned (.pointer (some ⟨b,0,none⟩))∧w=w':=by
  have hp:=run_eql_ptr (P:=Tryz.prog) (w:=w) (t:=190) (e:=351) (n:=5) (by kernel_rfl) (by kernel_rfl) ha hb
  by_cases hbc:b=c
  · subst hbc
    rw [beq_self_eq_true] at hp
    go_enter Tryz.func199,Tryz.ntmps199
    go_wp2_with fail
    go_ret
    exact ⟨rfl,rfl⟩
  have hbc':(b == c)=false:=by simpa using hbc
  rw [hbc'] at hp
  go_enter Tryz.func199,Tryz.ntmps199
  go_wp2_with (first
    | (go_at_call 220; refine (c220 _ _ _ ha hb).mono ?_; rintro e w' ⟨rfl,rfl⟩))
  all_goals go_ret
  all_goals exact ⟨rfl,rfl⟩
end Go.Proofs.YtbcngfgemjdllaaGreatDoor
end
section
namespace Go.Own
theorem St.pickMem {B:Nat} {w0 w:World} {l r:List HP} {x:HP} (H:St B w0 (stars l::r) w) (hx:x ∈ l):∃ l',St B w0 (x::(l'++r)) w:=by
  obtain ⟨l1,l2,rfl⟩:=List.append_of_mem hx
  refine ⟨l1++l2,H.splits.perm ?_⟩
  simp only [List.append_assoc,List.cons_append]
  exact List.perm_middle
theorem St.push {B:Nat} {w0 w:World} {l r:List HP} {x:HP} (H:St B w0 (x::stars l::r) w):St B w0 (stars (l++[x])::r) w:=by
  have H2:=(H.pick 1).splits.perm (r:=l++[x]++r) (by simp)
  exact H2.joins
theorem mset_new {h:Int} {v:Value} : ∀ {D:List (Int × Value)},mfind h D=none→mset h v D=D++[(h,v)]
  | [],_=>rfl
  | (k,u)::D,hm=>by
    simp only [mfind] at hm
    split at hm
    · cases hm
    · rename_i hk
      simp only [mset,if_neg hk,mset_new hm,List.cons_append]
theorem St.has {B:Nat} {w0 w:World} {l:List HP} {X:HP} (H:St B w0 l w) (hx:X ∈ l):∃ l',St B w0 (X::l') w:=by
  obtain ⟨l1,l2,rfl⟩:=List.append_of_mem hx
  exact ⟨l1++l2,H.perm List.perm_middle⟩
end Go.Own
namespace Go.Proofs.YtbcngfgemjdllaaGreatDoor
open Go.RowKit Go.Own
structure CfM where
  n:Nat
  a:Nat
  cb:Nat
  bv:Value
section
variable (kd bk xf pf:Nat→Nat)
def cfN (x:Nat × Nat):List Value:=cfC (kd x.1) (bk x.1) x.2 (xf x.2) (pf x.2)
noncomputable def hN (x:Nat × Nat):Int:=hC x.1 x.2
def CfP (m:CfM):HP:=star (Osl m.bv 222 1 1 [.pointer (some ⟨m.cb,0,none⟩)]) (pts m.cb 227 (cfN kd bk xf pf (m.n,m.a)))
def setL (av cv:Value) (ch:Int) (jb:Nat) (ro:Bool):List Value :=
  [av,.int .i64 ch,.pointer (some ⟨jb,0,none⟩),cv,.pointer none,.bool false,.bool false,.bool false,.bool ro,.int .i64 0]
def SetX (b:Nat) (av cv:Value) (ch:Int) (ro:Bool) (jb mb cmb:Nat) (ms:List CfM) (aq:List (Nat × Nat)):List HP :=
  [pts b 221 (setL av cv ch jb ro),Osl av 227 9 aq.length (aq.flatMap (cfN kd bk xf pf)),Osl cv 222 1 ms.length (ms.map fun m=>.pointer (some ⟨m.cb,0,none⟩)),
   pts jb 262 [.map (some mb),.int .i64 ms.length,.iface 346 (.pointer (some ⟨cmb,0,none⟩))],Mp mb (ms.map fun m=>(hN (m.n,m.a),m.bv)),stars (ms.map (CfP kd bk xf pf))]
structure NetB (B:Nat) (w0:World) (N:Nat):Prop where
  kok:∀ n,n<N→KOk (kd n)
  num:∀ n,n<N→w0.cell? ⟨bk n,4,none⟩=some (.int .i64 n)
  blt:∀ n,n<N→bk n<B
structure CtxX (B:Nat) (w0:World) (X:HP) (A:Nat):Prop where
  ctx:∀ l w',St B w0 (X::l) w'→∀ a,a<A→CtxW w' (xf a) (pf a)
end
variable {kd bk xf pf:Nat→Nat} {B N A:Nat} {w0 w:World} {r:List HP} {X:HP}
theorem CtxX.has {l:List HP} (h:CtxX xf pf B w0 X A) (H:St B w0 l w) (hX:X ∈ l) {a:Nat} (ha:a<A):CtxW w (xf a) (pf a):=by
  obtain ⟨l',H'⟩:=H.has hX
  exact h.ctx l' w H' a ha
theorem NetB.cfW {l:List HP} {cb:Nat} {x:Nat × Nat} (h:NetB kd bk B w0 N) (hc:CtxX xf pf B w0 X A) (hx:x.1<N) (ha:x.2<A) (H:St B w0 (pts cb 227 (cfN kd bk xf pf x)::l) w) (hX:X ∈ l):CfgW w cb (kd x.1) (bk x.1) x.1 x.2 (xf x.2) (pf x.2) :=
  ⟨H.heap.2,h.kok _ hx,by rw [H.old.1 _ _ (h.blt _ hx),h.num _ hx],hc.has H (by simp [hX]) ha⟩
theorem sl216:SlT Tryz.prog 216 227 9 88 (.agg #[.bool false,.nilIface,.int .i64 0,.pointer none,.nilIface,.int .i64 0,.int .i64 0,.pointer none,.bool false]):=⟨by kernel_rfl,sl_inf (by kernel_rfl),by kernel_rfl,by decide⟩
set_option maxRecDepth 100000 in
set_option maxHeartbeats 1000000 in
theorem c143_new (h:NetB kd bk B w0 N) (hcx:CtxX xf pf B w0 X A) {b:Nat} {av cv:Value} {jb mb cmb:Nat} {ms:List CfM} {aq:List (Nat × Nat)} {cb:Nat} {x:Nat × Nat} (hx:x.1<N) (ha:x.2<A) (hX:X ∈ r)
    (H:St B w0 (pts cb 227 (cfN kd bk xf pf x)::SetX kd bk xf pf b av cv (-1) false jb mb cmb ms aq++r) w) (hm:mfind (hN x) (ms.map fun m=>(hN (m.n,m.a),m.bv))=none)
    (hl:ms.length<1099511627776) (hl2:aq.length<1099511627776) :
    Calls Tryz.prog 143 #[.pointer (some ⟨b,0,none⟩),.pointer (some ⟨cb,0,none⟩),.pointer none] w fun e w'=>e=.returned (.bool true)∧w'.heap[cb]? = some (ob 227 (cfN kd bk xf pf x))∧∃ av' cv' bv,
      St B w0 (SetX kd bk xf pf b av' cv' (-1) false jb mb cmb (ms++[⟨x.1,x.2,cb,bv⟩]) (aq++[x])++r) w':=by
  have hW:=h.cfW hcx hx ha H (by simp [hX])
  obtain ⟨x0,x1,x3,p0,p1,p2,_⟩:=hW.ctx
  unfold SetX at H
  simp only [List.cons_append,List.nil_append] at H
  obtain ⟨a1,c1,rfl⟩:=(H.pick 2).ownVal
  obtain ⟨a2,c2,rfl⟩:=(H.pick 3).ownVal
  obtain ⟨hc,_⟩:=H.cells
  obtain ⟨hs,hf⟩:=(H.pick 1).cells
  unfold cfN cfC at hc
  unfold setL at hs
  have hs8:=hs 8
  have hs0:=hs 0
  have hs2:=hs 2
  have hf0:=hf 0
  simp only [List.getElem?_cons_zero,List.getElem?_cons_succ] at hs0 hs8 hs2
  clear hs hf
  have hc4:=hc 4
  have hc5:=hc 5
  have hc0:=hc 0
  go_enter Tryz.func143,Tryz.ntmps143
  go_wp2_with (first
    | (go_at_call 196; refine (c196 _ _ _ hc4).mono ?_; rintro e w' ⟨rfl,rfl⟩)
    | (go_at_call 195; refine (c195 _ _ p0 p1).mono ?_; rintro e w' ⟨rfl,rfl⟩)
    | (go_at_call 197; refine (c197 _ _ _ hc5).mono ?_; rintro e w' ⟨rfl,rfl⟩))
  have hcc:∀ j u,(cfN kd bk xf pf x)[j]? = some u→w.cell? ⟨cb,j,none⟩=some u:=fun j u hu=>by rw [(H.cells).1]; exact hu
  have HA:∀ o,St B w0 (pto w.heap.size o::Osl (.slice a1 aq.length c1) 227 9 aq.length (aq.flatMap (cfN kd bk xf pf))::_) (w.drew.alloc o):=fun o=>(H.drew.pick 2).alloc o
  have hsa:∀ o,((w.alloc o).drew).cell? ⟨b,0,none⟩=some (.slice a1 aq.length c1):=fun o=>((H.alloc o).drew.pick 2).cells.1 0
  have hsd:w.drew.cell? ⟨b,0,none⟩=some (.slice a1 aq.length c1):=(H.drew.pick 1).cells.1 0
  have e0:=World.new_ne w _ (hc 0)
  have e1:=World.new_ne w _ hs0
  have hc1:=hc 1
  have hc2:=hc 2
  have hc3:=hc 3
  have hc6:=hc 6
  have hc7:=hc 7
  have hc8:=hc 8
  simp only [List.getElem?_cons_zero,List.getElem?_cons_succ] at hc0 hc1 hc2 hc3 hc4 hc5 hc6 hc7 hc8
  clear hc
  go_region_law
    (first
      | (refine step_append1_st rfl _ _ rfl sl216 (g:=w.heap.size) (news:=cfN kd bk xf pf x) (HA _) rfl 1 rfl rfl rfl (by simp [cfN,cfC,Value.oneCell']) (by simp only [maxLen]; omega) (by omega) ?_; intro a' c' w1 H1; have H2:=(H1.pick 2).setCell (off:=0) (.slice a' (aq.length+1) c'); have hfs:=(H1.pick 2).cells.2 0; have hcs:=(H1.pick 2).cells.1 0; simp only [setL,List.getElem?_cons_zero] at hcs))
  all_goals
    generalize w1.setCell _ _=w2 at H2 ⊢
    have hW2:=h.cfW hcx hx ha (H2.pick 2) (by simp [hX])
    have hb2:w2.cell? ⟨b,2,none⟩=some (.pointer (some ⟨jb,0,none⟩)):=H2.cells.1 2
    have h198:=c198_new ((H2.pick 5).pick 5) hW2 hm (by omega) (by omega)
    clear hfs hcs H1 e0 e1 hsa hsd HA hcc hc0 hc1 hc2 hc3 hc4 hc5 hc6 hc7 hc8 hs0 hs2 hs8 hf0 p0 p1 p2 x0 x1 x3 hW H
    go_wp2_with (first
      | (go_at_call 198; refine h198.mono ?_; rintro e w3 ⟨rfl,a4,c4,H3⟩
         have hf1:=(H3.pick 3).cells.2 1
         have hc1:=(H3.pick 3).cells.1 1
         have H4:=(H3.pick 3).setCell (off:=1) (.int .i64 (-1))
         have hc3:=H4.cells.1 3
         have hf3:=H4.cells.2 3
         simp only [setL,List.set_cons_succ,List.set_cons_zero,List.getElem?_cons_zero,List.getElem?_cons_succ] at hc1 hc3 H4)
      | (at_builtin; go_must (refine wpList_append1_st rfl _ _ rfl sl218 (news:=[.pointer (some ⟨cb,0,none⟩)]) ((H4.pick 6).alloc (ob 222 [.pointer (some ⟨cb,0,none⟩)])) rfl 1 rfl (by simp) rfl (by simp [Value.oneCell']) (by simp only [maxLen]; omega) (by omega) ?_)
         intro a5 c5 w5 H5
         have hf3':=(H5.pick 1).cells.2 3
         have hc3':=(H5.pick 1).cells.1 3
         have H6:=(H5.pick 1).setCell (off:=3) (.slice a5 (ms.length+1) c5)
         simp only [List.set_cons_succ,List.set_cons_zero,List.getElem?_cons_zero,List.getElem?_cons_succ] at hc3' H6))
    go_ret
  all_goals
    refine ⟨rfl,(H6.pick 6).heap.2,.slice a' (aq.length+1) c',.slice a5 (ms.length+1) c5,.slice a4 1 c4,?_⟩
    have H7:=((((((((H6.pick 7).pick 7).pick 6).join).push).pick 4).pick 4).pick 4 |>.pick 5).pick 5
    have hm':∀ v,mset (hC x.1 x.2) v (ms.map fun m=>(hN (m.n,m.a),m.bv))=(ms.map fun m=>(hN (m.n,m.a),m.bv))++[(hC x.1 x.2,v)]:=fun v=>mset_new hm
    rw [hm'] at H7
    have e1:(aq++[x]).flatMap (cfN kd bk xf pf)=aq.flatMap (cfN kd bk xf pf)++cfN kd bk xf pf x:=by simp
    have e2:(((ms++[⟨x.1,x.2,cb,.slice a4 1 c4⟩]:List CfM).length:Nat):Int)=(ms.length:Int)+1:=by simp
    unfold SetX
    rw [e1,e2,List.length_append,List.length_append,List.map_append,List.map_append,List.map_append]
    exact H7
end Go.Proofs.YtbcngfgemjdllaaGreatDoor
end
section
namespace Go.Own
theorem mfind_map {α : Type} {h:Int} {f : α → Int} {g : α → Value} {v:Value} : ∀ {l:List α},mfind h (l.map fun x=>(f x,g x))=some v→∃ m ∈ l,f m=h∧v=g m
  | [],hm=>by simp [mfind] at hm
  | x :: l, hm => by
    simp only [List.map_cons,mfind] at hm
    split at hm
    · rename_i hk
      exact ⟨x,by simp,hk,(by simpa using hm.symm)⟩
    · obtain ⟨m,h1,h2,h3⟩:=mfind_map hm
      exact ⟨m,by simp [h1],h2,h3⟩
end Go.Own
namespace Go.Proofs.YtbcngfgemjdllaaGreatDoor
open Go.RowKit Go.Own
variable {kd bk xf pf:Nat→Nat} {B N A:Nat} {w0 w:World} {r:List HP} {X:HP}
theorem CfP.split {l:List HP} {m:CfM} (H:St B w0 (CfP kd bk xf pf m::l) w):w.heap[m.cb]? = some (ob 227 (cfN kd bk xf pf (m.n,m.a)))∧∃ g c,m.bv=.slice (some ⟨g,0,none⟩) 1 c∧w.cell? ⟨g,0,none⟩=some (.pointer (some ⟨m.cb,0,none⟩)):=by
  have H1:=H.split
  refine ⟨(H1.pick 1).heap.2,?_⟩
  rcases H1.ownCell with ⟨_,h,_⟩ | ⟨g,cap,h1,_,h2,_⟩
  · cases h
  · exact ⟨g,cap,h1,h2 0 _ rfl⟩
set_option maxRecDepth 100000 in
set_option maxHeartbeats 1000000 in
theorem c143_old (h:NetB kd bk B w0 N) (hcx:CtxX xf pf B w0 X A) {b:Nat} {av cv:Value} {jb mb cmb:Nat} {ms:List CfM} {aq:List (Nat × Nat)} {cb:Nat} {x:Nat × Nat} {v:Value} (hx:x.1<N) (ha:x.2<A) (hX:X ∈ r) (hms:∀ m ∈ ms,m.a<A)
    (H:St B w0 (pts cb 227 (cfN kd bk xf pf x)::SetX kd bk xf pf b av cv (-1) false jb mb cmb ms aq++r) w) (hm:mfind (hN x) (ms.map fun m=>(hN (m.n,m.a),m.bv))=some v)
    (hl:ms.length<1099511627776) (hl2:aq.length<1099511627776) :
    Calls Tryz.prog 143 #[.pointer (some ⟨b,0,none⟩),.pointer (some ⟨cb,0,none⟩),.pointer none] w fun e w'=>e=.returned (.bool true)∧w'.heap[cb]? = some (ob 227 (cfN kd bk xf pf x))∧∃ av' cv',
      St B w0 (SetX kd bk xf pf b av' cv' (-1) false jb mb cmb ms (aq++[x])++r) w':=by
  have hW:=h.cfW hcx hx ha H (by simp [hX])
  obtain ⟨x0,x1,x3,p0,p1,p2,_⟩:=hW.ctx
  unfold SetX at H
  simp only [List.cons_append,List.nil_append] at H
  obtain ⟨a1,c1,rfl⟩:=(H.pick 2).ownVal
  obtain ⟨a2,c2,rfl⟩:=(H.pick 3).ownVal
  obtain ⟨hc,_⟩:=H.cells
  obtain ⟨hs,hf⟩:=(H.pick 1).cells
  unfold cfN cfC at hc
  unfold setL at hs
  have hs8:=hs 8
  have hs0:=hs 0
  have hs2:=hs 2
  have hf0:=hf 0
  simp only [List.getElem?_cons_zero,List.getElem?_cons_succ] at hs0 hs8 hs2
  clear hs hf
  have hc4:=hc 4
  have hc5:=hc 5
  have hc0:=hc 0
  go_enter Tryz.func143,Tryz.ntmps143
  go_wp2_with (first
    | (go_at_call 196; refine (c196 _ _ _ hc4).mono ?_; rintro e w' ⟨rfl,rfl⟩)
    | (go_at_call 195; refine (c195 _ _ p0 p1).mono ?_; rintro e w' ⟨rfl,rfl⟩)
    | (go_at_call 197; refine (c197 _ _ _ hc5).mono ?_; rintro e w' ⟨rfl,rfl⟩))
  have hcc:∀ j u,(cfN kd bk xf pf x)[j]? = some u→w.cell? ⟨cb,j,none⟩=some u:=fun j u hu=>by rw [(H.cells).1]; exact hu
  have HA:∀ o,St B w0 (pto w.heap.size o::Osl (.slice a1 aq.length c1) 227 9 aq.length (aq.flatMap (cfN kd bk xf pf))::_) (w.drew.alloc o):=fun o=>(H.drew.pick 2).alloc o
  have hsa:∀ o,((w.alloc o).drew).cell? ⟨b,0,none⟩=some (.slice a1 aq.length c1):=fun o=>((H.alloc o).drew.pick 2).cells.1 0
  have hsd:w.drew.cell? ⟨b,0,none⟩=some (.slice a1 aq.length c1):=(H.drew.pick 1).cells.1 0
  have e0:=World.new_ne w _ (hc 0)
  have e1:=World.new_ne w _ hs0
  have hc1:=hc 1
  have hc2:=hc 2
  have hc3:=hc 3
  have hc6:=hc 6
  have hc7:=hc 7
  have hc8:=hc 8
  simp only [List.getElem?_cons_zero,List.getElem?_cons_succ] at hc0 hc1 hc2 hc3 hc4 hc5 hc6 hc7 hc8
  clear hc
  go_region_law
    (first
      | (refine step_append1_st rfl _ _ rfl sl216 (g:=w.heap.size) (news:=cfN kd bk xf pf x) (HA _) rfl 1 rfl rfl rfl (by simp [cfN,cfC,Value.oneCell']) (by simp only [maxLen]; omega) (by omega) ?_; intro a' c' w1 H1; have H2:=(H1.pick 2).setCell (off:=0) (.slice a' (aq.length+1) c'); have hfs:=(H1.pick 2).cells.2 0; have hcs:=(H1.pick 2).cells.1 0; simp only [setL,List.getElem?_cons_zero] at hcs))
  all_goals
    generalize w1.setCell _ _=w2 at H2 ⊢
    have hW2:=h.cfW hcx hx ha (H2.pick 2) (by simp [hX])
    have hb2:w2.cell? ⟨b,2,none⟩=some (.pointer (some ⟨jb,0,none⟩)):=H2.cells.1 2
    obtain ⟨m,hmem,hmh,rfl⟩:=mfind_map hm
    obtain ⟨l',HM⟩:=(H2.pick 6).pickMem (List.mem_map_of_mem hmem)
    obtain ⟨hob,g,c,hbv,hgc⟩:=CfP.split HM
    have hL:=run_lookup_st mt260 (H2.pick 5) (hC x.1 x.2)
    have hm':mfind (hC x.1 x.2) (ms.map fun m=>(hN (m.n,m.a),m.bv))=some m.bv:=hm
    rw [hm',hbv] at hL
    have h198:=c198_old ((H2.pick 4).cells.1 0) ((H2.pick 4).cells.1 2) hW2 hL hgc hob
    clear hL hm' hfs hcs H1 e0 e1 hsa hsd HA hcc hc0 hc1 hc2 hc3 hc4 hc5 hc6 hc7 hc8 hs0 hs2 hs8 hf0 p0 p1 p2 x0 x1 x3 hW H hob hgc HM hW2
    go_wp2_with (first
      | (go_at_call 198; refine h198.mono ?_; rintro e w3 ⟨rfl,n,rfl⟩
         have H3:=H2.drewN n
         generalize w2.drewN n=w3 at H3 ⊢
         obtain ⟨l2,HM⟩:=(H3.pick 6).pickMem (List.mem_map_of_mem hmem)
         have hob:=(CfP.split HM).1
         have hxx:=(hcx.has H3 (by simp [hX]) ha).hx
         have hxm:=(hcx.has H3 (by simp [hX]) (hms m hmem)).hx
         have hb6:w3.cell? ⟨b,6,none⟩=some (.bool false):=H3.cells.1 6
         have hq0:w3.cell? ⟨m.cb,0,none⟩=some (.bool false):=(cells_at hob).1 0
         have hq3:w3.cell? ⟨m.cb,3,none⟩=some (.pointer (some ⟨xf m.a,0,none⟩)):=(cells_at hob).1 3
         have hq5:w3.cell? ⟨m.cb,5,none⟩=some (.int .i64 0):=(cells_at hob).1 5
         have hp0:w3.cell? ⟨cb,0,none⟩=some (.bool false):=(H3.pick 2).cells.1 0
         have hp3:w3.cell? ⟨cb,3,none⟩=some (.pointer (some ⟨xf x.2,0,none⟩)):=(H3.pick 2).cells.1 3
         have hp5:w3.cell? ⟨cb,5,none⟩=some (.int .i64 0):=(H3.pick 2).cells.1 5)
      | (go_at_call 199; refine (c199 _ _ _ _ hxm hxx).mono ?_; rintro e w' ⟨rfl,rfl⟩)
      | (go_at_call_of 200 (Value.pointer (some (⟨m.cb,0,none⟩:Addr))); refine (c200 _ _ _ hq3).mono ?_; rintro e w' ⟨rfl,rfl⟩)
      | (go_at_call 200; refine (c200 _ _ _ hp3).mono ?_; rintro e w' ⟨rfl,rfl⟩)
      | (go_at_call 201; refine (c201 _ _ _ hob rfl).mono ?_; rintro e w' ⟨rfl,rfl⟩)
      | (go_at_call 202; refine (c202 _).mono ?_; rintro e w' ⟨rfl,rfl⟩)
      | (go_at_call 203; refine (c203 _ _ _ hp0).mono ?_; rintro e w' ⟨rfl,rfl⟩)
      | (go_at_call 205; refine (c205 _ _ _ hob rfl).mono ?_; rintro e w' ⟨rfl,rfl⟩)
      | (go_at_call_of 197 (Value.pointer (some (⟨m.cb,0,none⟩:Addr))); refine (c197 _ _ _ hq5).mono ?_; rintro e w' ⟨rfl,rfl⟩)
      | (go_at_call 197; refine (c197 _ _ _ hp5).mono ?_; rintro e w' ⟨rfl,rfl⟩))
    go_ret
    refine ⟨rfl,(H3.pick 2).heap.2,.slice a' (aq.length+1) c',.slice a2 ms.length c2,?_⟩
    have H7:=(H3.pick 2).drop
    have e1:(aq++[x]).flatMap (cfN kd bk xf pf)=aq.flatMap (cfN kd bk xf pf)++cfN kd bk xf pf x:=by simp
    unfold SetX
    rw [e1,List.length_append]
    exact H7
end Go.Proofs.YtbcngfgemjdllaaGreatDoor
end
