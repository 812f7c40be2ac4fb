/- Part 13: S4, S0, S5. -/
import Derived.Test.YtbcngfgemjdllaaGreatDoorB01
import Derived.Test.YtbcngfgemjdllaaGreatDoorB12
set_option linter.unusedVariables false
set_option linter.unusedSimpArgs false
section
namespace Go.Proofs.YtbcngfgemjdllaaGreatDoor
open Go.RowKit Go.Own
def GdC (d:Nat) (e:Lx.Ex):Prop:=∀ v w,ExV w e v→Calls Tryz.prog 23 #[v,.int .i64 (d:Int)] w fun e' w'=>e'=.returned (.bool (Lx.good d e))∧Below w.heap.size w w'
theorem all_take {d:Nat} {ss:List Lx.Ex} {k:Nat} {s:Lx.Ex} (hk:ss[k]? = some s) (h:∀ x ∈ ss.take k,Lx.good d x=true) (he:Lx.good d s=true):∀ x ∈ ss.take (k+1),Lx.good d x=true:=by
  rw [List.take_add_one,hk]
  intro x hx
  rcases List.mem_append.1 hx with hx | hx
  · exact h x hx
  · simp at hx; subst hx; exact he
theorem good_false {d:Nat} {op a b:Int} {ss:List Lx.Ex} {s:Lx.Ex} (hm:s ∈ ss) (hs:Lx.good d s=false):Lx.good (d+1) (.mk op a b ss)=false:=by
  cases h:Lx.good (d+1) (.mk op a b ss) with
  | false=>rfl
  | true =>
    obtain ⟨d',e,_,h2,_⟩:=good_sub h
    cases e
    rw [h2 s hm] at hs; cases hs
theorem good_kind {d:Nat} {op a b:Int} {ss:List Lx.Ex} (hl:ss.length≤4) (h:∀ x ∈ ss,Lx.good d x=true):Lx.good (d+1) (.mk op a b ss)=Lx.kindOk op a b ss.length:=by
  have:ss.all (Lx.good d)=true:=List.all_eq_true.2 h
  simp [Lx.good,hl,this]
theorem c23_zero {e:Lx.Ex} : GdC 0 e:=by
  intro v w hv
  cases e with
  | mk op a b subs =>
    obtain ⟨sa,c,rfl,hS⟩:=hv
    have H0:=(St.nil w).alloc (ob 28 [.int .i64 op,.int .i64 a,.int .i64 b,.slice sa subs.length c])
    unfold exV
    clear hS
    go_enter Tryz.func23,Tryz.ntmps23
    go_wp2_with fail
    go_ret
    exact ⟨rfl,H0.below⟩
theorem c23_many {d:Nat} {D op a b:Int} {n c:Nat} {sa:Option Addr} {w:World} (hD:(D == 0)=false) (hn:(4:Int)<(n:Int)):Calls Tryz.prog 23 #[exV op a b sa n c,.int .i64 D] w fun e' w'=>e'=.returned (.bool false)∧Below w.heap.size w w':=by
  have H0:=(St.nil w).alloc (ob 28 [.int .i64 op,.int .i64 a,.int .i64 b,.slice sa n c])
  unfold exV
  go_enter Tryz.func23,Tryz.ntmps23
  go_wp2_with fail
  go_ret
  exact ⟨rfl,H0.below⟩
theorem k_chars (a b:Int) (n:Nat):(¬ 0≤a∧Lx.kindOk 0 a b n=false)∨(0≤a ∧ ¬ a≤b∧Lx.kindOk 0 a b n=false)∨(0≤a∧a≤b ∧ ¬ b≤127∧Lx.kindOk 0 a b n=false) ∨
    (0≤a∧a≤b∧b≤127∧((n:Int) == 0)=false∧Lx.kindOk 0 a b n=false)∨(0≤a∧a≤b∧b≤127∧((n:Int) == 0)=true∧Lx.kindOk 0 a b n=true):=by
  by_cases h1:0≤a
  · by_cases h2:a≤b
    · by_cases h3:b≤127
      · by_cases h4:n=0
        · subst h4; simp [Lx.kindOk,h1,h2,h3]
        · have h5 : ¬ (n:Int)=0:=by omega
          simp [Lx.kindOk,h1,h2,h3,h4,h5]
      · simp [Lx.kindOk,h1,h2,h3]
    · simp [Lx.kindOk,h1,h2]
  · simp [Lx.kindOk,h1]
theorem k_rest {op:Int} (a b:Int) (n:Nat) (h0:(op == 0)=false) (h1:(op == 1)=false) (h2:(op == 2)=false):(¬ 3≤op∧Lx.kindOk op a b n=false)∨(3≤op ∧ ¬ op≤5∧Lx.kindOk op a b n=false) ∨
    (3≤op∧op≤5∧((n:Int) == 1)=false∧Lx.kindOk op a b n=false)∨(3≤op∧op≤5∧((n:Int) == 1)=true∧Lx.kindOk op a b n=true):=by
  rw [beq_eq_false_iff_ne] at h0 h1 h2
  by_cases h3:3≤op
  · by_cases h5:op≤5
    · by_cases h4:n=1
      · subst h4; simp [Lx.kindOk,h0,h1,h2,h3,h5]
      · have h6 : ¬ (n:Int)=1:=by omega
        simp [Lx.kindOk,h0,h1,h2,h3,h5,h4,h6]
    · simp [Lx.kindOk,h0,h1,h2,h3,h5]
  · simp [Lx.kindOk,h0,h1,h2,h3]
set_option maxRecDepth 100000 in
set_option maxHeartbeats 1000000 in
theorem c23_chars {a b D:Int} {d:Nat} {subs:List Lx.Ex} {sa:Option Addr} {c:Nat} {w:World} (hD:(D == 0)=false) (hD1:wrap64 (D - 1)=(d:Int)) (hl:subs.length≤4) (ih:∀ s ∈ subs,GdC d s) (HS:Hid (ExS w subs sa 0)) :
    Calls Tryz.prog 23 #[exV 0 a b sa subs.length c,.int .i64 D] w fun e' w'=>e'=.returned (.bool (Lx.good (d+1) (.mk 0 a b subs)))∧Below w.heap.size w w':=by
  have H0:=(St.nil w).alloc (ob 28 [.int .i64 0,.int .i64 a,.int .i64 b,.slice sa subs.length c])
  have hl4 : ¬ (4:Int)<(subs.length:Int):=by omega
  unfold exV
  rcases k_chars a b subs.length with ⟨h1,hK⟩ | ⟨h1,h2,hK⟩ | ⟨h1,h2,h3,hK⟩ | ⟨h1,h2,h3,h4,hK⟩ | ⟨h1,h2,h3,h4,hK⟩
  all_goals
    go_enter Tryz.func23,Tryz.ntmps23
    go_wp2_with fail
    go_loopw [18] (IdxRel w w.heap.size [.int .i64 0,.int .i64 a,.int .i64 b,.slice sa subs.length c] subs.length fun k=>∀ x ∈ subs.take k,Lx.good d x=true) (fun i _=>subs.length - (intOf i).toNat)
    case atStart=>exact ⟨0,Nat.zero_le _,by simp,rfl,H0⟩
    case round =>
      obtain ⟨k,hk,hp,rfl,H1⟩:=hrel
      by_cases hlt:k<subs.length
      · obtain ⟨g,o,op',a',b',sa',n',c',rfl,hat⟩:=HS.out.get0 (List.getElem?_eq_getElem hlt)
        have hat:=hat.mono H1.below
        have hk0:(0:Int)≤(k:Int):=Int.natCast_nonneg _
        have hk1:(k:Int)<(subs.length:Int):=by omega
        have e0:=hat.c0
        have e1:=hat.c1
        have e2:=hat.c2
        have e3:=hat.c3
        have h23:=fun W h=>ih subs[k] (List.getElem_mem hlt) _ W (hat.v.mono h)
        have hw:=wrapS hlt (by omega)
        have Hw:=Lib.hid hw
        have Hp:=Lib.hid hp
        clear ih hw hp
        cases he:Lx.good d subs[k]
        all_goals
          rw [he] at h23
          have He:=Lib.hid he
          clear he
          go_wp2_with (first
            | (go_at_call 23; refine (h23 _ ((St.nil _).alloc _).below).mono ?_; rintro e w1 ⟨rfl,hb⟩
               have H2:=afterNew H1 hb
               clear hb))
        · go_ret
          exact ⟨by rw [good_false (List.getElem_mem hlt) He.out]; rfl,H2.below⟩
        · first | rw [Hw.out] | rw [show ((k:Int)+1)=((k+1:Nat):Int) from by omega]
          exact ⟨⟨k+1,hlt,all_take (List.getElem?_eq_getElem hlt) Hp.out He.out,rfl,H2⟩,measS hlt⟩
      · have hk1 : ¬ (k:Int)<(subs.length:Int):=by omega
        have hkl:k=subs.length:=by omega
        rw [hkl,List.take_length] at hp
        have hq:=good_kind (op:=0) (a:=a) (b:=b) hl hp
        have ho:=H1.cells.1 0
        have ho1:=H1.cells.1 1
        have ho2:=H1.cells.1 2
        have ho3:=H1.cells.1 3
        have HQ:=Lib.hid (hq.trans hK)
        have Hp:=Lib.hid hp
        clear hp hkl hq
        go_wp2_with fail
        go_ret
        exact ⟨by rw [HQ.out]; rfl,H1.below⟩
set_option maxRecDepth 100000 in
set_option maxHeartbeats 1000000 in
theorem c23_row {a b D:Int} {d:Nat} {subs:List Lx.Ex} {sa:Option Addr} {c:Nat} {w:World} (hD:(D == 0)=false) (hD1:wrap64 (D - 1)=(d:Int)) (hl:subs.length≤4) (ih:∀ s ∈ subs,GdC d s) (HS:Hid (ExS w subs sa 0)) :
    Calls Tryz.prog 23 #[exV 1 a b sa subs.length c,.int .i64 D] w fun e' w'=>e'=.returned (.bool (Lx.good (d+1) (.mk 1 a b subs)))∧Below w.heap.size w w':=by
  have H0:=(St.nil w).alloc (ob 28 [.int .i64 1,.int .i64 a,.int .i64 b,.slice sa subs.length c])
  have hl4 : ¬ (4:Int)<(subs.length:Int):=by omega
  unfold exV
  have hK:Lx.kindOk 1 a b subs.length=true:=by simp [Lx.kindOk]
  all_goals
    go_enter Tryz.func23,Tryz.ntmps23
    go_wp2_with fail
    go_loopw [18] (IdxRel w w.heap.size [.int .i64 1,.int .i64 a,.int .i64 b,.slice sa subs.length c] subs.length fun k=>∀ x ∈ subs.take k,Lx.good d x=true) (fun i _=>subs.length - (intOf i).toNat)
    case atStart=>exact ⟨0,Nat.zero_le _,by simp,rfl,H0⟩
    case round =>
      obtain ⟨k,hk,hp,rfl,H1⟩:=hrel
      by_cases hlt:k<subs.length
      · obtain ⟨g,o,op',a',b',sa',n',c',rfl,hat⟩:=HS.out.get0 (List.getElem?_eq_getElem hlt)
        have hat:=hat.mono H1.below
        have hk0:(0:Int)≤(k:Int):=Int.natCast_nonneg _
        have hk1:(k:Int)<(subs.length:Int):=by omega
        have e0:=hat.c0
        have e1:=hat.c1
        have e2:=hat.c2
        have e3:=hat.c3
        have h23:=fun W h=>ih subs[k] (List.getElem_mem hlt) _ W (hat.v.mono h)
        have hw:=wrapS hlt (by omega)
        have Hw:=Lib.hid hw
        have Hp:=Lib.hid hp
        clear ih hw hp
        cases he:Lx.good d subs[k]
        all_goals
          rw [he] at h23
          have He:=Lib.hid he
          clear he
          go_wp2_with (first
            | (go_at_call 23; refine (h23 _ ((St.nil _).alloc _).below).mono ?_; rintro e w1 ⟨rfl,hb⟩
               have H2:=afterNew H1 hb
               clear hb))
        · go_ret
          exact ⟨by rw [good_false (List.getElem_mem hlt) He.out]; rfl,H2.below⟩
        · first | rw [Hw.out] | rw [show ((k:Int)+1)=((k+1:Nat):Int) from by omega]
          exact ⟨⟨k+1,hlt,all_take (List.getElem?_eq_getElem hlt) Hp.out He.out,rfl,H2⟩,measS hlt⟩
      · have hk1 : ¬ (k:Int)<(subs.length:Int):=by omega
        have hkl:k=subs.length:=by omega
        rw [hkl,List.take_length] at hp
        have hq:=good_kind (op:=1) (a:=a) (b:=b) hl hp
        have ho:=H1.cells.1 0
        have ho1:=H1.cells.1 1
        have ho2:=H1.cells.1 2
        have ho3:=H1.cells.1 3
        have HQ:=Lib.hid (hq.trans hK)
        have Hp:=Lib.hid hp
        clear hp hkl hq
        go_wp2_with fail
        go_ret
        exact ⟨by rw [HQ.out]; rfl,H1.below⟩
set_option maxRecDepth 100000 in
set_option maxHeartbeats 1000000 in
theorem c23_choice {a b D:Int} {d:Nat} {subs:List Lx.Ex} {sa:Option Addr} {c:Nat} {w:World} (hD:(D == 0)=false) (hD1:wrap64 (D - 1)=(d:Int)) (hl:subs.length≤4) (ih:∀ s ∈ subs,GdC d s) (HS:Hid (ExS w subs sa 0)) :
    Calls Tryz.prog 23 #[exV 2 a b sa subs.length c,.int .i64 D] w fun e' w'=>e'=.returned (.bool (Lx.good (d+1) (.mk 2 a b subs)))∧Below w.heap.size w w':=by
  have H0:=(St.nil w).alloc (ob 28 [.int .i64 2,.int .i64 a,.int .i64 b,.slice sa subs.length c])
  have hl4 : ¬ (4:Int)<(subs.length:Int):=by omega
  unfold exV
  have hK:Lx.kindOk 2 a b subs.length=decide (0<subs.length):=by simp [Lx.kindOk]
  all_goals
    go_enter Tryz.func23,Tryz.ntmps23
    go_wp2_with fail
    go_loopw [18] (IdxRel w w.heap.size [.int .i64 2,.int .i64 a,.int .i64 b,.slice sa subs.length c] subs.length fun k=>∀ x ∈ subs.take k,Lx.good d x=true) (fun i _=>subs.length - (intOf i).toNat)
    case atStart=>exact ⟨0,Nat.zero_le _,by simp,rfl,H0⟩
    case round =>
      obtain ⟨k,hk,hp,rfl,H1⟩:=hrel
      by_cases hlt:k<subs.length
      · obtain ⟨g,o,op',a',b',sa',n',c',rfl,hat⟩:=HS.out.get0 (List.getElem?_eq_getElem hlt)
        have hat:=hat.mono H1.below
        have hk0:(0:Int)≤(k:Int):=Int.natCast_nonneg _
        have hk1:(k:Int)<(subs.length:Int):=by omega
        have e0:=hat.c0
        have e1:=hat.c1
        have e2:=hat.c2
        have e3:=hat.c3
        have h23:=fun W h=>ih subs[k] (List.getElem_mem hlt) _ W (hat.v.mono h)
        have hw:=wrapS hlt (by omega)
        have Hw:=Lib.hid hw
        have Hp:=Lib.hid hp
        clear ih hw hp
        cases he:Lx.good d subs[k]
        all_goals
          rw [he] at h23
          have He:=Lib.hid he
          clear he
          go_wp2_with (first
            | (go_at_call 23; refine (h23 _ ((St.nil _).alloc _).below).mono ?_; rintro e w1 ⟨rfl,hb⟩
               have H2:=afterNew H1 hb
               clear hb))
        · go_ret
          exact ⟨by rw [good_false (List.getElem_mem hlt) He.out]; rfl,H2.below⟩
        · first | rw [Hw.out] | rw [show ((k:Int)+1)=((k+1:Nat):Int) from by omega]
          exact ⟨⟨k+1,hlt,all_take (List.getElem?_eq_getElem hlt) Hp.out He.out,rfl,H2⟩,measS hlt⟩
      · have hk1 : ¬ (k:Int)<(subs.length:Int):=by omega
        have hkl:k=subs.length:=by omega
        rw [hkl,List.take_length] at hp
        have hq:=good_kind (op:=2) (a:=a) (b:=b) hl hp
        have ho:=H1.cells.1 0
        have ho1:=H1.cells.1 1
        have ho2:=H1.cells.1 2
        have ho3:=H1.cells.1 3
        have HQ:=Lib.hid (hq.trans hK)
        have Hp:=Lib.hid hp
        clear hp hkl hq
        go_wp2_with fail
        go_ret
        exact ⟨by rw [HQ.out]; rfl,H1.below⟩
set_option maxRecDepth 100000 in
set_option maxHeartbeats 1000000 in
theorem c23_rest {op a b D:Int} {d:Nat} {subs:List Lx.Ex} {sa:Option Addr} {c:Nat} {w:World} (h0:(op == 0)=false) (h1:(op == 1)=false) (h2:(op == 2)=false) (hD:(D == 0)=false) (hD1:wrap64 (D - 1)=(d:Int)) (hl:subs.length≤4) (ih:∀ s ∈ subs,GdC d s) (HS:Hid (ExS w subs sa 0)) :
    Calls Tryz.prog 23 #[exV op a b sa subs.length c,.int .i64 D] w fun e' w'=>e'=.returned (.bool (Lx.good (d+1) (.mk op a b subs)))∧Below w.heap.size w w':=by
  have H0:=(St.nil w).alloc (ob 28 [.int .i64 op,.int .i64 a,.int .i64 b,.slice sa subs.length c])
  have hl4 : ¬ (4:Int)<(subs.length:Int):=by omega
  unfold exV
  rcases k_rest a b subs.length h0 h1 h2 with ⟨h3,hK⟩ | ⟨h3,h4,hK⟩ | ⟨h3,h4,h5,hK⟩ | ⟨h3,h4,h5,hK⟩
  all_goals
    go_enter Tryz.func23,Tryz.ntmps23
    go_wp2_with fail
    go_loopw [18] (IdxRel w w.heap.size [.int .i64 op,.int .i64 a,.int .i64 b,.slice sa subs.length c] subs.length fun k=>∀ x ∈ subs.take k,Lx.good d x=true) (fun i _=>subs.length - (intOf i).toNat)
    case atStart=>exact ⟨0,Nat.zero_le _,by simp,rfl,H0⟩
    case round =>
      obtain ⟨k,hk,hp,rfl,H1⟩:=hrel
      by_cases hlt:k<subs.length
      · obtain ⟨g,o,op',a',b',sa',n',c',rfl,hat⟩:=HS.out.get0 (List.getElem?_eq_getElem hlt)
        have hat:=hat.mono H1.below
        have hk0:(0:Int)≤(k:Int):=Int.natCast_nonneg _
        have hk1:(k:Int)<(subs.length:Int):=by omega
        have e0:=hat.c0
        have e1:=hat.c1
        have e2:=hat.c2
        have e3:=hat.c3
        have h23:=fun W h=>ih subs[k] (List.getElem_mem hlt) _ W (hat.v.mono h)
        have hw:=wrapS hlt (by omega)
        have Hw:=Lib.hid hw
        have Hp:=Lib.hid hp
        clear ih hw hp
        cases he:Lx.good d subs[k]
        all_goals
          rw [he] at h23
          have He:=Lib.hid he
          clear he
          go_wp2_with (first
            | (go_at_call 23; refine (h23 _ ((St.nil _).alloc _).below).mono ?_; rintro e w1 ⟨rfl,hb⟩
               have H2:=afterNew H1 hb
               clear hb))
        · go_ret
          exact ⟨by rw [good_false (List.getElem_mem hlt) He.out]; rfl,H2.below⟩
        · first | rw [Hw.out] | rw [show ((k:Int)+1)=((k+1:Nat):Int) from by omega]
          exact ⟨⟨k+1,hlt,all_take (List.getElem?_eq_getElem hlt) Hp.out He.out,rfl,H2⟩,measS hlt⟩
      · have hk1 : ¬ (k:Int)<(subs.length:Int):=by omega
        have hkl:k=subs.length:=by omega
        rw [hkl,List.take_length] at hp
        have hq:=good_kind (op:=op) (a:=a) (b:=b) hl hp
        have ho:=H1.cells.1 0
        have ho1:=H1.cells.1 1
        have ho2:=H1.cells.1 2
        have ho3:=H1.cells.1 3
        have HQ:=Lib.hid (hq.trans hK)
        have Hp:=Lib.hid hp
        clear hp hkl hq
        go_wp2_with fail
        go_ret
        exact ⟨by rw [HQ.out]; rfl,H1.below⟩
theorem c23:∀ (d:Nat) (e:Lx.Ex),d<4611686018427387904→GdC d e:=by
  intro d
  induction d with
  | zero=>exact fun e _=>c23_zero
  | succ d ih =>
    intro e hd v w hv
    cases e with
    | mk op a b subs =>
      obtain ⟨sa,c,rfl,hS⟩:=hv
      have hD:(((d+1:Nat):Int) == 0)=false:=by rw [beq_eq_false_iff_ne]; omega
      have hD1:wrap64 (((d+1:Nat):Int) - 1)=(d:Int):=by rw [IntWalk.wrap64_in _ (by omega)]; omega
      have ih':∀ s ∈ subs,GdC d s:=fun s _=>ih s (by omega)
      by_cases hl:subs.length≤4
      · by_cases h0:op=0
        · subst h0; exact c23_chars hD hD1 hl ih' (Lib.hid hS)
        by_cases h1:op=1
        · subst h1; exact c23_row hD hD1 hl ih' (Lib.hid hS)
        by_cases h2:op=2
        · subst h2; exact c23_choice hD hD1 hl ih' (Lib.hid hS)
        exact c23_rest (by simpa using h0) (by simpa using h1) (by simpa using h2) hD hD1 hl ih' (Lib.hid hS)
      · rw [show Lx.good (d+1) (.mk op a b subs)=false from by simp [Lx.good,hl]]
        exact c23_many (d:=d) hD (by omega)
end Go.Proofs.YtbcngfgemjdllaaGreatDoor
end
section
namespace Go.Proofs.YtbcngfgemjdllaaGreatDoor
open Go.RowKit Go.Own
def tx (s:ByteArray):List Nat:=s.data.toList.map UInt8.toNat
theorem tx_len (s:ByteArray):(tx s).length=s.size:=by simp [tx]
theorem tx_get {s:ByteArray} {i:Nat} (h:i<s.size):(tx s)[i]? = some (s[i]'h).toNat:=by
  rw [List.getElem?_eq_getElem (by rw [tx_len]; exact h)]
  simp [tx]
  rfl
end Go.Proofs.YtbcngfgemjdllaaGreatDoor
end
section
namespace Go.Proofs.YtbcngfgemjdllaaGreatDoor
open Go.RowKit Go.Own
def TxRel (s:ByteArray) (w:World) (i:Value) (wr:World):Prop:=∃ k:Nat,k≤s.size∧(∀ c ∈ (tx s).take k,c≤127)∧i=.int .i64 k∧wr=w
def textB (t:List Nat):Bool:=t.all (fun c=>decide (c≤127)) && decide (t.length≤60)
theorem tx_take {s:ByteArray} {k:Nat} (hlt:k<s.size) (h:∀ c ∈ (tx s).take k,c≤127) (hc:(s[k]'hlt).toNat≤127):∀ c ∈ (tx s).take (k+1),c≤127:=by
  rw [List.take_add_one,tx_get hlt]
  intro c hc'
  rcases List.mem_append.1 hc' with hx | hx
  · exact h c hx
  · simp at hx; subst hx; exact hc
theorem textB_no {s:ByteArray} {k:Nat} (hlt:k<s.size) (hc:127<(s[k]'hlt).toNat):textB (tx s)=false:=by
  unfold textB
  rw [Bool.and_eq_false_iff]
  left
  rw [List.all_eq_false]
  exact ⟨_,List.mem_of_getElem? (tx_get hlt),by simpa using hc⟩
theorem textB_len {s:ByteArray} (h:∀ c ∈ tx s,c≤127):textB (tx s)=decide ((s.size:Int)≤60):=by
  unfold textB
  rw [List.all_eq_true.2 (by simpa using h),Bool.true_and,tx_len]
  apply decide_eq_decide.2
  omega
set_option maxRecDepth 100000 in
theorem c13 {s:ByteArray} {w:World} (hl:s.size<1099511627776):Calls Tryz.prog 13 #[.string s] w fun e' w'=>e'=.returned (.bool (textB (tx s)))∧w'=w:=by
  go_enter Tryz.func13,Tryz.ntmps13
  go_wp2_with fail
  go_loopw [6] (TxRel s w) (fun i _=>s.size - (intOf i).toNat)
  case atStart=>exact ⟨0,Nat.zero_le _,by simp,rfl,rfl⟩
  case round =>
    obtain ⟨k,hk,hp,rfl,rfl⟩:=hrel
    have Hp:=Lib.hid hp
    clear hp
    by_cases hlt:k<s.size
    · have hk0:(0:Int)≤(k:Int):=Int.natCast_nonneg _
      have hk1:(k:Int)<(s.size:Int):=by omega
      by_cases hc:(127:Int)<((s[k]'hlt).toNat:Int)
      · go_wp2_with fail
        go_ret
        exact ⟨by rw [textB_no hlt (by omega)]; rfl,rfl⟩
      · go_wp2_with fail
        rw [show ((k:Int)+1)=((k+1:Nat):Int) from by omega]
        exact ⟨⟨k+1,hlt,tx_take hlt Hp.out (by omega),rfl,rfl⟩,measS hlt⟩
    · have hk1 : ¬ (k:Int)<(s.size:Int):=by omega
      have hkl:k=(tx s).length:=by rw [tx_len]; omega
      have hp:=Hp.out
      rw [hkl,List.take_length] at hp
      have Hq:=Lib.hid (textB_len hp)
      clear hp hkl
      cases h60:decide ((s.size:Int)≤60)
      all_goals
        have Hd:=Lib.hid h60
        simp only [decide_eq_false_iff_not,decide_eq_true_eq] at h60
        go_wp2_with fail
        go_ret
        exact ⟨by rw [Hq.out,Hd.out]; rfl,rfl⟩
theorem sizes_le {d M:Nat} : ∀ (ss:List Lx.Ex),(∀ s ∈ ss,Lx.size s≤M)→Lx.sizes ss≤ss.length * M
  | [],_=>by simp [Lx.sizes]
  | s::ss,h=>by
    have h1:=h s (by simp)
    have h2:=sizes_le (d:=d) ss fun x hx=>h x (by simp [hx])
    simp only [Lx.sizes,List.length_cons,Nat.add_mul]
    omega
theorem size_good:∀ (d:Nat) (e:Lx.Ex),Lx.good d e=true→Lx.size e≤8 ^ d
  | 0,e,h=>by simp [Lx.good] at h
  | d+1,.mk op a b ss,h=>by
    obtain ⟨d',e,hl,hs,_⟩:=good_sub h
    cases e
    have h1:=sizes_le (d:=d) ss fun s hm=>size_good d s (hs s hm)
    have h2:ss.length * 8 ^ d≤4 * 8 ^ d:=Nat.mul_le_mul_right _ hl
    have h3:1≤8 ^ d:=Nat.pow_pos (by omega)
    simp only [Lx.size,Nat.pow_succ]
    omega
def okE (e:Lx.Ex):Bool:=Lx.good 5 e && !Lx.empty e && !Lx.loops e
def goodB (rs:List Lx.Ex):Bool:=rs.all okE && decide (1≤rs.length) && decide (rs.length≤5) && decide (Lx.sizes rs≤40)
def GdRel (w:World) (rs:List Lx.Ex) (n i:Value) (wr:World):Prop :=
  ∃ k:Nat,k≤rs.length∧(∀ e ∈ rs.take k,okE e=true)∧n=.int .i64 ((Lx.sizes (rs.take k):Nat):Int)∧i=.int .i64 k∧St w.heap.size w [] wr
theorem okE_take {ss:List Lx.Ex} {k:Nat} {s:Lx.Ex} (hk:ss[k]? = some s) (h:∀ x ∈ ss.take k,okE x=true) (he:okE s=true):∀ x ∈ ss.take (k+1),okE x=true:=by
  rw [List.take_add_one,hk]
  intro x hx
  rcases List.mem_append.1 hx with hx | hx
  · exact h x hx
  · simp at hx; subst hx; exact he
theorem goodB_no {rs:List Lx.Ex} {s:Lx.Ex} (hm:s ∈ rs) (h:okE s=false):goodB rs=false:=by
  unfold goodB
  rw [List.all_eq_false.2 ⟨s,hm,by simp [h]⟩]
  rfl
theorem goodB_len {rs:List Lx.Ex} (h:∀ x ∈ rs,okE x=true):goodB rs=(decide (1≤(rs.length:Int)) && decide ((rs.length:Int)≤5) && decide ((Lx.sizes rs:Int)≤40)):=by
  unfold goodB
  rw [List.all_eq_true.2 h,Bool.true_and]
  congr 1
  · congr 1
    · apply decide_eq_decide.2; omega
    · apply decide_eq_decide.2; omega
  · apply decide_eq_decide.2; omega
theorem okE_size {e:Lx.Ex} (h:okE e=true):Lx.size e≤32768:=by
  simp only [okE,Bool.and_eq_true] at h
  exact size_good 5 e h.1.1
set_option maxRecDepth 100000 in
set_option maxHeartbeats 1000000 in
theorem c12 {rs : List Lx.Ex} {sa : Option Addr} {c : Nat} {w : World} (hl : rs.length < 1099511627776) (hS : ExS w rs sa 0) :
    Calls Tryz.prog 12 #[.slice sa rs.length c] w fun e' w'=>e'=.returned (.bool (goodB rs))∧Below w.heap.size w w':=by
  have HS:=Lib.hid hS
  clear hS
  go_enter Tryz.func12,Tryz.ntmps12
  go_wp2_with fail
  go_loopw [3,8] (GdRel w rs) (fun _ i _=>rs.length - (intOf i).toNat)
  case atStart=>exact ⟨0,Nat.zero_le _,by simp,by simp [Lx.sizes],rfl,St.nil w⟩
  case round =>
    obtain ⟨k,hk,hp,rfl,rfl,H1⟩:=hrel
    by_cases hlt:k<rs.length
    · obtain ⟨g, o, op', a', b', sa', n', c', rfl, hat⟩ := HS.out.get0 (List.getElem?_eq_getElem hlt)
      have hat:=hat.mono H1.below
      have hk0:(0:Int)≤(k:Int):=Int.natCast_nonneg _
      have hk1:(k:Int)<(rs.length:Int):=by omega
      have e0:=hat.c0
      have e1:=hat.c1
      have e2:=hat.c2
      have e3:=hat.c3
      have h23:=fun W h=>c23 5 rs[k] (by omega) _ W (hat.v.mono h)
      have h24:=fun (hg:Lx.good 5 (rs[k]'hlt)=true) (W0 W:World) (h:Below wr.heap.size wr W0) (h':Below W0.heap.size W0 W)=>c24 rs[k] 5 _ hg W ((hat.v.mono h).mono h')
      have h25:=fun (hg:Lx.good 5 (rs[k]'hlt)=true) (W0 W:World) (h:Below wr.heap.size wr W0) (h':Below W0.heap.size W0 W)=>c25 rs[k] 5 _ hg W ((hat.v.mono h).mono h')
      have h26:=fun (hg:okE (rs[k]'hlt)=true) (W0 W:World) (h:Below wr.heap.size wr W0) (h':Below W0.heap.size W0 W)=>c26 rs[k] _ (Nat.lt_of_le_of_lt (okE_size hg) (by omega)) W ((hat.v.mono h).mono h')
      have hw:=wrapS hlt (by omega)
      have Hw:=Lib.hid hw
      have Hp:=Lib.hid hp
      have Hm:=Lib.hid (List.getElem_mem hlt)
      have Hsz:=Lib.hid (sizes_succ (List.getElem?_eq_getElem hlt))
      have hz:Lx.sizes (rs.take k)≤k * 32768:=by
        have h1:=sizes_le (d:=0) (M:=32768) (rs.take k) fun s hm=>okE_size (hp s hm)
        have h2:(rs.take k).length≤k:=by simp; omega
        exact Nat.le_trans h1 (Nat.mul_le_mul_right _ h2)
      have Hz:=Lib.hid hz
      clear hw hp hz
      have Hg:=Lib.hid (List.getElem?_eq_getElem hlt)
      generalize rs[k]=s at h23 h24 h25 h26 Hm Hg Hsz
      cases hg:Lx.good 5 s
      · rw [hg] at h23
        have Hok:=Lib.hid (show okE s=false by simp [okE,hg])
        clear hg
        go_wp2_with (first
          | (go_at_call 23; refine (h23 _ ((St.nil _).alloc _).below).mono ?_; rintro e w1 ⟨rfl,hb⟩
             have H2:=afterNew H1 hb
             clear hb))
        go_ret
        exact ⟨by rw [goodB_no Hm.out Hok.out]; rfl,H2.below⟩
      · rw [hg] at h23
        replace h24:=h24 hg
        replace h25:=h25 hg
        cases he:Lx.empty s
        · rw [he] at h24
          cases hlo:Lx.loops s
          · rw [hlo] at h25
            have hok:okE s=true:=by simp [okE,hg,he,hlo]
            replace h26:=h26 hok
            have Hok:=Lib.hid hok
            clear hg he hlo hok
            go_wp2_with (first
              | (go_at_call 23; refine (h23 _ ((St.nil _).alloc _).below).mono ?_; rintro e w1 ⟨rfl,hb⟩
                 have H2:=afterNew H1 hb
                 have ht:=((St.nil wr).alloc (ob 28 [.int .i64 op',.int .i64 a',.int .i64 b',.slice sa' n' c'])).grow hb
                 have f1:=ht.cells.1 0
                 have f2:=ht.cells.1 1
                 have f3:=ht.cells.1 2
                 have f4:=ht.cells.1 3
                 have Hb:=Lib.hid hb
                 clear hb)
              | (go_at_call 24; refine (h24 _ _ ((St.nil _).alloc _).below Hb.out).mono ?_; rintro e w2 ⟨rfl,hb2⟩
                 have H2:=H2.grow hb2
                 replace ht:=ht.grow hb2
                 have f1:=ht.cells.1 0
                 have f2:=ht.cells.1 1
                 have f3:=ht.cells.1 2
                 have f4:=ht.cells.1 3
                 have Hb2:=Lib.hid (Below.trans Hb.out (hb2.mono Hb.out.size))
                 clear hb2)
              | (go_at_call 25; refine (h25 _ _ ((St.nil _).alloc _).below Hb2.out).mono ?_; rintro e w3 ⟨rfl,hb3⟩
                 have H2:=H2.grow hb3
                 replace ht:=ht.grow hb3
                 have f1:=ht.cells.1 0
                 have f2:=ht.cells.1 1
                 have f3:=ht.cells.1 2
                 have f4:=ht.cells.1 3
                 have Hb3:=Lib.hid (Below.trans Hb2.out (hb3.mono Hb2.out.size))
                 clear hb3)
              | (go_at_call 26; refine (h26 _ _ ((St.nil _).alloc _).below Hb3.out).mono ?_; rintro e w4 ⟨rfl,hb4⟩
                 have H2:=H2.grow hb4
                 clear hb4))
            have h1:=Hsz.out
            have h2:=Hz.out
            have h4:=okE_size Hok.out
            have h3:wrap64 ((Lx.sizes (rs.take k):Int)+(Lx.size s:Int))=((Lx.sizes (rs.take (k+1)):Nat):Int):=by
              rw [h1,IntWalk.wrap64_in _ (by omega)]; omega
            rw [h3]
            first | rw [Hw.out] | rw [show ((k:Int)+1)=((k+1:Nat):Int) from by omega]
            exact ⟨⟨k+1,hlt,okE_take Hg.out Hp.out Hok.out,rfl,rfl,H2⟩,measS hlt⟩
          · rw [hlo] at h25
            have Hok:=Lib.hid (show okE s=false by simp [okE,hg,he,hlo])
            clear hg he hlo h26
            go_wp2_with (first
              | (go_at_call 23; refine (h23 _ ((St.nil _).alloc _).below).mono ?_; rintro e w1 ⟨rfl,hb⟩
                 have H2:=afterNew H1 hb
                 have ht:=((St.nil wr).alloc (ob 28 [.int .i64 op',.int .i64 a',.int .i64 b',.slice sa' n' c'])).grow hb
                 have f1:=ht.cells.1 0
                 have f2:=ht.cells.1 1
                 have f3:=ht.cells.1 2
                 have f4:=ht.cells.1 3
                 have Hb:=Lib.hid hb
                 clear hb)
              | (go_at_call 24; refine (h24 _ _ ((St.nil _).alloc _).below Hb.out).mono ?_; rintro e w2 ⟨rfl,hb2⟩
                 have H2:=H2.grow hb2
                 replace ht:=ht.grow hb2
                 have f1:=ht.cells.1 0
                 have f2:=ht.cells.1 1
                 have f3:=ht.cells.1 2
                 have f4:=ht.cells.1 3
                 have Hb2:=Lib.hid (Below.trans Hb.out (hb2.mono Hb.out.size))
                 clear hb2)
              | (go_at_call 25; refine (h25 _ _ ((St.nil _).alloc _).below Hb2.out).mono ?_; rintro e w3 ⟨rfl,hb3⟩
                 have H2:=H2.grow hb3
                 replace ht:=ht.grow hb3
                 have f1:=ht.cells.1 0
                 have f2:=ht.cells.1 1
                 have f3:=ht.cells.1 2
                 have f4:=ht.cells.1 3
                 have Hb3:=Lib.hid (Below.trans Hb2.out (hb3.mono Hb2.out.size))
                 clear hb3))
            go_ret
            exact ⟨by rw [goodB_no Hm.out Hok.out]; rfl,H2.below⟩
        · rw [he] at h24
          have Hok:=Lib.hid (show okE s=false by simp [okE,hg,he])
          clear hg he h25 h26
          go_wp2_with (first
            | (go_at_call 23; refine (h23 _ ((St.nil _).alloc _).below).mono ?_; rintro e w1 ⟨rfl,hb⟩
               have H2:=afterNew H1 hb
               have ht:=((St.nil wr).alloc (ob 28 [.int .i64 op',.int .i64 a',.int .i64 b',.slice sa' n' c'])).grow hb
               have f1:=ht.cells.1 0
               have f2:=ht.cells.1 1
               have f3:=ht.cells.1 2
               have f4:=ht.cells.1 3
               have Hb:=Lib.hid hb
               clear hb)
            | (go_at_call 24; refine (h24 _ _ ((St.nil _).alloc _).below Hb.out).mono ?_; rintro e w2 ⟨rfl,hb2⟩
               have H2:=H2.grow hb2
               replace ht:=ht.grow hb2
               have f1:=ht.cells.1 0
               have f2:=ht.cells.1 1
               have f3:=ht.cells.1 2
               have f4:=ht.cells.1 3
               have Hb2:=Lib.hid (Below.trans Hb.out (hb2.mono Hb.out.size))
               clear hb2))
          go_ret
          exact ⟨by rw [goodB_no Hm.out Hok.out]; rfl,H2.below⟩
    · have hk1 : ¬ (k:Int)<(rs.length:Int):=by omega
      have hkl:k=rs.length:=by omega
      rw [hkl,List.take_length] at hp ⊢
      have Hq:=Lib.hid (goodB_len hp)
      clear hp hkl hk1
      by_cases g1:1≤(rs.length:Int)
      · by_cases g2:(rs.length:Int)≤5
        · by_cases g3:(Lx.sizes rs:Int)≤40
          · have Hv:=Lib.hid (show (decide (1≤(rs.length:Int)) && decide ((rs.length:Int)≤5) && decide ((Lx.sizes rs:Int)≤40))=true by simp only [g1,g2,g3,decide_true,Bool.and_true])
            go_wp2_with fail
            go_ret
            exact ⟨by rw [Hq.out,Hv.out]; rfl,H1.below⟩
          · have Hv:=Lib.hid (show (decide (1≤(rs.length:Int)) && decide ((rs.length:Int)≤5) && decide ((Lx.sizes rs:Int)≤40))=false by simp only [g3,decide_false,Bool.and_false])
            go_wp2_with fail
            go_ret
            exact ⟨by rw [Hq.out,Hv.out]; rfl,H1.below⟩
        · have Hv:=Lib.hid (show (decide (1≤(rs.length:Int)) && decide ((rs.length:Int)≤5) && decide ((Lx.sizes rs:Int)≤40))=false by simp only [g2,decide_false,Bool.and_false,Bool.false_and])
          go_wp2_with fail
          go_ret
          exact ⟨by rw [Hq.out,Hv.out]; rfl,H1.below⟩
      · have Hv:=Lib.hid (show (decide (1≤(rs.length:Int)) && decide ((rs.length:Int)≤5) && decide ((Lx.sizes rs:Int)≤40))=false by simp only [g1,decide_false,Bool.and_false,Bool.false_and])
        go_wp2_with fail
        go_ret
        exact ⟨by rw [Hq.out,Hv.out]; rfl,H1.below⟩
end Go.Proofs.YtbcngfgemjdllaaGreatDoor
end
