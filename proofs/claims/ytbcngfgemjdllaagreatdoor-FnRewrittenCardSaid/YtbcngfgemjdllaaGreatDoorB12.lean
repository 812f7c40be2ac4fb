/- Part 12: S1, S2, S3. -/
import Derived.LoopN
import Derived.IntWalk
import Derived.Outline
import Derived.Test.YtbcngfgemjdllaaGreatDoorB01
import Derived.Test.YtbcngfgemjdllaaGreatDoorB07
import Derived.Test.YtbcngfgemjdllaaGreatDoorB11
set_option linter.unusedVariables false
set_option linter.unusedSimpArgs false
section
namespace Go.Proofs.YtbcngfgemjdllaaGreatDoor
open Go.RowKit Go.Own
def exV (op a b:Int) (sa:Option Addr) (n c:Nat):Value:=.agg #[.int .i64 op,.int .i64 a,.int .i64 b,.slice sa n c]
mutual
def ExV (w:World):Lx.Ex→Value→Prop
  | .mk op a b ss,v=>∃ sa c,v=exV op a b sa ss.length c∧ExS w ss sa 0
def ExS (w:World):List Lx.Ex→Option Addr→Nat→Prop
  | [],_,_=>True
  | s :: ss, sa, i => (∃ g o op a b sa' n c, sa = some ⟨g, o, none⟩ ∧ w.cell? ⟨g, o + i * 4, none⟩ = some (.int .i64 op) ∧ w.cell? ⟨g, o + i * 4 + 1, none⟩ = some (.int .i64 a) ∧ w.cell? ⟨g, o + i * 4 + 2, none⟩ = some (.int .i64 b) ∧
      w.cell? ⟨g,o+i * 4+3,none⟩=some (.slice sa' n c)∧ExV w s (exV op a b sa' n c))∧ExS w ss sa (i+1)
end
structure ExAt (w:World) (e:Lx.Ex) (g p:Nat) (op a b:Int) (sa:Option Addr) (n c:Nat):Prop where
  c0:w.cell? ⟨g,p,none⟩=some (.int .i64 op)
  c1:w.cell? ⟨g,p+1,none⟩=some (.int .i64 a)
  c2:w.cell? ⟨g,p+2,none⟩=some (.int .i64 b)
  c3:w.cell? ⟨g,p+3,none⟩=some (.slice sa n c)
  v:ExV w e (exV op a b sa n c)
theorem ExS.get {w:World} : ∀ {ss:List Lx.Ex} {sa:Option Addr} {i k:Nat} {s:Lx.Ex},ExS w ss sa i→ss[k]? = some s→∃ g o op a b sa' n c,sa=some ⟨g,o,none⟩∧ExAt w s g (o+(i+k) * 4) op a b sa' n c
  | [],_,_,_,_,_,h=>by simp at h
  | s::ss,sa,i,0,s',h,hk=>by
    simp at hk; subst hk
    obtain ⟨⟨g,o,op,a,b,sa',n,c,h1,h2,h3,h4,h5,h6⟩,_⟩:=h
    exact ⟨g,o,op,a,b,sa',n,c,h1,h2,h3,h4,h5,h6⟩
  | s::ss,sa,i,k+1,s',h,hk=>by
    obtain ⟨g,o,op,a,b,sa',n,c,h1,h2⟩:=ExS.get h.2 (k:=k) (s:=s') (by simpa using hk)
    exact ⟨g,o,op,a,b,sa',n,c,h1,by rw [show i+(k+1)=i+1+k from by omega]; exact h2⟩
theorem ExS.get0 {w:World} {ss:List Lx.Ex} {sa:Option Addr} {k:Nat} {s:Lx.Ex} (h:ExS w ss sa 0) (hk:ss[k]? = some s):∃ g o op a b sa' n c,sa=some ⟨g,o,none⟩∧ExAt w s g (o+k * 4) op a b sa' n c:=by
  have:=h.get hk
  rwa [Nat.zero_add] at this
def RdE (e:Lx.Ex):Prop:=∀ (w w':World) (v:Value),Below w.heap.size w w'→ExV w e v→ExV w' e v
theorem exS_mono:∀ (ss:List Lx.Ex),(∀ s ∈ ss,RdE s)→∀ (w w':World) (sa:Option Addr) (i:Nat),Below w.heap.size w w'→ExS w ss sa i→ExS w' ss sa i
  | [],_,_,_,_,_,_,_=>trivial
  | s::ss,hs,w,w',sa,i,hb,h=>by
    obtain ⟨⟨g,o,op,a,b,sa',n,c,h1,h2,h3,h4,h5,h6⟩,h7⟩:=h
    have hlt:g<w.heap.size:=World.block_lt_of_cell? _ _ h2
    refine ⟨⟨g,o,op,a,b,sa',n,c,h1,?_,?_,?_,?_,hs s (by simp) w w' _ hb h6⟩,exS_mono ss (fun s hm=>hs s (by simp [hm])) w w' sa (i+1) hb h7⟩
    · rw [hb.cell (p:=⟨g,_,none⟩) hlt]; exact h2
    · rw [hb.cell (p:=⟨g,_,none⟩) hlt]; exact h3
    · rw [hb.cell (p:=⟨g,_,none⟩) hlt]; exact h4
    · rw [hb.cell (p:=⟨g,_,none⟩) hlt]; exact h5
theorem exV_mono:∀ e,RdE e:=by
  intro e
  induction e using Lx.Ex.ind with
  | h op a b subs ih =>
    intro w w' v hb h
    obtain ⟨sa,c,h1,h2⟩:=h
    exact ⟨sa,c,h1,exS_mono subs ih w w' sa 0 hb h2⟩
theorem ExS.mono {w w':World} {ss:List Lx.Ex} {sa:Option Addr} {i:Nat} (h:ExS w ss sa i) (hb:Below w.heap.size w w'):ExS w' ss sa i:=exS_mono ss (fun s _=>exV_mono s) w w' sa i hb h
theorem ExV.mono {w w':World} {e:Lx.Ex} {v:Value} (h:ExV w e v) (hb:Below w.heap.size w w'):ExV w' e v:=exV_mono e w w' v hb h
theorem ExAt.mono {w w':World} {e:Lx.Ex} {g p n c:Nat} {op a b:Int} {sa:Option Addr} (h:ExAt w e g p op a b sa n c) (hb:Below w.heap.size w w'):ExAt w' e g p op a b sa n c:=by
  have hlt:g<w.heap.size:=World.block_lt_of_cell? _ _ h.c0
  refine ⟨?_,?_,?_,?_,h.v.mono hb⟩
  · rw [hb.cell (p:=⟨g,_,none⟩) hlt]; exact h.c0
  · rw [hb.cell (p:=⟨g,_,none⟩) hlt]; exact h.c1
  · rw [hb.cell (p:=⟨g,_,none⟩) hlt]; exact h.c2
  · rw [hb.cell (p:=⟨g,_,none⟩) hlt]; exact h.c3
def RdC (f:Nat) (e:Lx.Ex) (v:Value) (post:Value):Prop:=∀ w,ExV w e v→Calls Tryz.prog f #[v] w fun e' w'=>e'=.returned post∧Below w.heap.size w w'
def SizRel (w:World) (b:Nat) (vs:List Value) (ss:List Lx.Ex) (n i:Value) (wr:World):Prop :=
  ∃ k:Nat,k≤ss.length∧n=.int .i64 ((1+Lx.sizes (ss.take k):Nat):Int)∧i=.int .i64 k∧St w.heap.size w [pts b 28 vs] wr
theorem sizes_succ {ss:List Lx.Ex} {k:Nat} {s:Lx.Ex} (h:ss[k]? = some s):Lx.sizes (ss.take (k+1))=Lx.sizes (ss.take k)+Lx.size s:=by
  induction ss generalizing k with
  | nil=>simp at h
  | cons x ss ih =>
    cases k with
    | zero=>simp at h; subst h; simp [Lx.sizes]
    | succ k=>simp at h; simp only [List.take_succ_cons,Lx.sizes]; rw [ih h]; omega
theorem sizes_take (ss:List Lx.Ex) (k:Nat):Lx.sizes (ss.take k)≤Lx.sizes ss:=by
  induction ss generalizing k with
  | nil=>simp [Lx.sizes]
  | cons x ss ih=>cases k with
    | zero=>simp [Lx.sizes]
    | succ k=>simp only [List.take_succ_cons,Lx.sizes]; have:=ih k; omega
theorem size_pos (e:Lx.Ex):1≤Lx.size e:=by cases e; simp only [Lx.size]; omega
theorem sizes_len (ss:List Lx.Ex):ss.length≤Lx.sizes ss:=by
  induction ss with
  | nil=>simp
  | cons x ss ih=>have:=size_pos x; simp only [List.length_cons,Lx.sizes]; omega
theorem wrapS {n k:Nat} (h:k<n) (hn:n<4611686018427387904):wrap64 ((k:Int)+1)=((k+1:Nat):Int):=by rw [IntWalk.wrap64_in _ (by omega)]; rfl
theorem measS {n k:Nat} (h:k<n):n - (intOf (.int .i64 ((k+1:Nat):Int))).toNat<n - (intOf (.int .i64 (k:Int))).toNat:=by
  show n - (((k+1:Nat):Int)).toNat<n - ((k:Nat):Int).toNat
  rw [Int.toNat_natCast,Int.toNat_natCast]
  omega
theorem afterNew {B:Nat} {w0 w w':World} {l:List HP} {o:Obj} (H:St B w0 l w) (hb:Below (w.alloc o).heap.size (w.alloc o) w'):St B w0 l w':=((H.alloc o).grow hb).drop
set_option maxRecDepth 100000 in
theorem c26:∀ (e:Lx.Ex) (v:Value),Lx.size e<4611686018427387904→RdC 26 e v (.int .i64 (Lx.size e)):=by
  intro e
  induction e using Lx.Ex.ind with
  | h op a b subs ih =>
    intro v hs w hv
    obtain ⟨sa,c,rfl,hS⟩:=hv
    have HS:=Lib.hid hS
    have H0:=(St.nil w).alloc (ob 28 [.int .i64 op,.int .i64 a,.int .i64 b,.slice sa subs.length c])
    unfold exV
    clear hS
    go_enter Tryz.func26,Tryz.ntmps26
    go_wp2_with fail
    go_loopw [3,9] (SizRel w w.heap.size [.int .i64 op,.int .i64 a,.int .i64 b,.slice sa subs.length c] subs) (fun _ i _=>subs.length - (intOf i).toNat)
    case atStart=>exact ⟨0,Nat.zero_le _,by simp [Lx.sizes],rfl,H0⟩
    case round =>
      obtain ⟨k,hk,rfl,rfl,H1⟩:=hrel
      by_cases hlt:k<subs.length
      · obtain ⟨g,o,op',a',b',sa',n',c',rfl,hat⟩:=HS.out.get0 (List.getElem?_eq_getElem hlt)
        have hat:=hat.mono H1.below
        have hk0:(0:Int)≤(k:Int):=Int.natCast_nonneg _
        have hk1:(k:Int)<(subs.length:Int):=by omega
        have e0:=hat.c0
        have e1:=hat.c1
        have e2:=hat.c2
        have e3:=hat.c3
        have hs1:Lx.size subs[k]<4611686018427387904∧1+Lx.sizes (subs.take k)+Lx.size subs[k]<4611686018427387904:=by
          have:=sizes_succ (List.getElem?_eq_getElem hlt)
          have h2:=sizes_take subs (k+1)
          simp only [Lx.size] at hs
          omega
        have h26:=fun W h=>ih subs[k] (List.getElem_mem hlt) _ hs1.1 W (hat.v.mono h)
        have Hs:=Lib.hid (sizes_succ (List.getElem?_eq_getElem hlt))
        have Hk:=Lib.hid hs1
        have hl:=sizes_len subs
        have hw:=wrapS hlt (by simp only [Lx.size] at hs; omega)
        have Hw:=Lib.hid hw
        clear ih hs1 hw hs
        go_wp2_with fail
        go_at_call 26
        refine (h26 _ ((St.nil _).alloc _).below).mono ?_
        rintro e w1 ⟨rfl,hb⟩
        have H2:=afterNew H1 hb
        clear hb
        go_wp2_with fail
        have h1:=Hs.out
        have h2:=Hk.out
        have h3:wrap64 (1+(Lx.sizes (subs.take k):Int)+(Lx.size subs[k]:Int))=((1+Lx.sizes (subs.take (k+1)):Nat):Int):=by
          rw [h1,IntWalk.wrap64_in _ (by omega)]; omega
        rw [h3,Hw.out]
        exact ⟨⟨k+1,hlt,rfl,rfl,H2⟩,measS hlt⟩
      · have hk1 : ¬ (k:Int)<(subs.length:Int):=by omega
        have hkl:k=subs.length:=by omega
        rw [hkl,List.take_length]
        go_wp2_with fail
        go_ret
        exact ⟨rfl,H1.below⟩
end Go.Proofs.YtbcngfgemjdllaaGreatDoor
end
section
namespace Go.Proofs.YtbcngfgemjdllaaGreatDoor
open Go.RowKit Go.Own
def IdxRel (w:World) (b:Nat) (vs:List Value) (n:Nat) (P:Nat→Prop) (i:Value) (wr:World):Prop :=
  ∃ k:Nat,k≤n∧P k∧i=.int .i64 k∧St w.heap.size w [pts b 28 vs] wr
theorem good_sub {d:Nat} {op a b:Int} {ss:List Lx.Ex} (h:Lx.good d (.mk op a b ss)=true):∃ d',d=d'+1∧ss.length≤4∧(∀ s ∈ ss,Lx.good d' s=true)∧Lx.kindOk op a b ss.length=true:=by
  cases d with
  | zero=>simp [Lx.good] at h
  | succ d =>
    simp only [Lx.good,Bool.and_eq_true,decide_eq_true_eq,List.all_eq_true] at h
    exact ⟨d,rfl,h.1,h.2.1,h.2.2⟩
theorem allEmpty_take {ss:List Lx.Ex} {k:Nat} {s:Lx.Ex} (hk:ss[k]? = some s) (h:∀ x ∈ ss.take k,Lx.empty x=true) (he:Lx.empty s=true):∀ x ∈ ss.take (k+1),Lx.empty x=true:=by
  rw [List.take_add_one,hk]
  intro x hx
  rcases List.mem_append.1 hx with hx | hx
  · exact h x hx
  · simp at hx; subst hx; exact he
theorem anyEmpty_take {ss:List Lx.Ex} {k:Nat} {s:Lx.Ex} (hk:ss[k]? = some s) (h:∀ x ∈ ss.take k,Lx.empty x=false) (he:Lx.empty s=false):∀ x ∈ ss.take (k+1),Lx.empty x=false:=by
  rw [List.take_add_one,hk]
  intro x hx
  rcases List.mem_append.1 hx with hx | hx
  · exact h x hx
  · simp at hx; subst hx; exact he
theorem allE_false {ss:List Lx.Ex} {s:Lx.Ex} (hs:s ∈ ss) (he:Lx.empty s=false):Lx.allEmpty ss=false:=by
  cases h:Lx.allEmpty ss with
  | false=>rfl
  | true=>rw [Lx.allEmpty_iff] at h; rw [h s hs] at he; cases he
theorem anyE_true {ss:List Lx.Ex} {s:Lx.Ex} (hs:s ∈ ss) (he:Lx.empty s=true):Lx.anyEmpty ss=true:=(Lx.anyEmpty_iff ss).2 ⟨s,hs,he⟩
theorem anyE_false {ss:List Lx.Ex} (h:∀ s ∈ ss,Lx.empty s=false):Lx.anyEmpty ss=false:=Lx.anyEmpty_false h
set_option maxRecDepth 100000 in
theorem c24_row {a b:Int} {subs:List Lx.Ex} {sa:Option Addr} {c:Nat} {w:World} (hl:subs.length≤4) (ih:∀ s ∈ subs,∀ v,RdC 24 s v (.bool (Lx.empty s))) (HS:Hid (ExS w subs sa 0)) :
    Calls Tryz.prog 24 #[exV 1 a b sa subs.length c] w fun e' w'=>e'=.returned (.bool (Lx.allEmpty subs))∧Below w.heap.size w w':=by
  have H0:=(St.nil w).alloc (ob 28 [.int .i64 1,.int .i64 a,.int .i64 b,.slice sa subs.length c])
  unfold exV
  go_enter Tryz.func24,Tryz.ntmps24
  go_wp2_with fail
  go_loopw [26] (IdxRel w w.heap.size [.int .i64 1,.int .i64 a,.int .i64 b,.slice sa subs.length c] subs.length fun k=>∀ x ∈ subs.take k,Lx.empty x=true) (fun i _=>subs.length - (intOf i).toNat)
  case atStart=>exact ⟨0,Nat.zero_le _,by simp,rfl,H0⟩
  case round =>
    obtain ⟨k,hk,hp,rfl,H1⟩:=hrel
    by_cases hlt:k<subs.length
    · obtain ⟨g,o,op',a',b',sa',n',c',rfl,hat⟩:=HS.out.get0 (List.getElem?_eq_getElem hlt)
      have hat:=hat.mono H1.below
      have hk0:(0:Int)≤(k:Int):=Int.natCast_nonneg _
      have hk1:(k:Int)<(subs.length:Int):=by omega
      have e0:=hat.c0
      have e1:=hat.c1
      have e2:=hat.c2
      have e3:=hat.c3
      have h24:=fun W h=>ih subs[k] (List.getElem_mem hlt) _ W (hat.v.mono h)
      have hw:=wrapS hlt (by omega)
      have Hw:=Lib.hid hw
      have Hp:=Lib.hid hp
      clear ih hw hp
      cases he:Lx.empty subs[k]
      all_goals
        rw [he] at h24
        have He:=Lib.hid he
        clear he
        go_wp2_with (first
          | (go_at_call 24; refine (h24 _ ((St.nil _).alloc _).below).mono ?_; rintro e w1 ⟨rfl,hb⟩
             have H2:=afterNew H1 hb
             clear hb))
      · go_ret
        exact ⟨by rw [allE_false (List.getElem_mem hlt) He.out]; rfl,H2.below⟩
      · first | rw [Hw.out] | rw [show ((k:Int)+1)=((k+1:Nat):Int) from by omega]
        exact ⟨⟨k+1,hlt,allEmpty_take (List.getElem?_eq_getElem hlt) Hp.out He.out,rfl,H2⟩,measS hlt⟩
    · have hk1 : ¬ (k:Int)<(subs.length:Int):=by omega
      have hkl:k=subs.length:=by omega
      rw [hkl,List.take_length] at hp
      have Hp:=Lib.hid hp
      clear hp hkl
      go_wp2_with fail
      go_ret
      exact ⟨by rw [(Lx.allEmpty_iff subs).2 Hp.out]; rfl,H1.below⟩
set_option maxRecDepth 100000 in
theorem c24_any {op a b:Int} {subs:List Lx.Ex} {sa:Option Addr} {c:Nat} {w:World} (h0:(op == 0)=false) (h3:(op == 3)=false) (h5:(op == 5)=false) (h4:(op == 4)=false) (h1:(op == 1)=false) (hl:subs.length≤4) (ih:∀ s ∈ subs,∀ v,RdC 24 s v (.bool (Lx.empty s))) (HS:Hid (ExS w subs sa 0)) :
    Calls Tryz.prog 24 #[exV op a b sa subs.length c] w fun e' w'=>e'=.returned (.bool (Lx.anyEmpty subs))∧Below w.heap.size w w':=by
  have H0:=(St.nil w).alloc (ob 28 [.int .i64 op,.int .i64 a,.int .i64 b,.slice sa subs.length c])
  unfold exV
  go_enter Tryz.func24,Tryz.ntmps24
  go_wp2_with fail
  go_loopw [37] (IdxRel w w.heap.size [.int .i64 op,.int .i64 a,.int .i64 b,.slice sa subs.length c] subs.length fun k=>∀ x ∈ subs.take k,Lx.empty x=false) (fun i _=>subs.length - (intOf i).toNat)
  case atStart=>exact ⟨0,Nat.zero_le _,by simp,rfl,H0⟩
  case round =>
    obtain ⟨k,hk,hp,rfl,H1⟩:=hrel
    by_cases hlt:k<subs.length
    · obtain ⟨g,o,op',a',b',sa',n',c',rfl,hat⟩:=HS.out.get0 (List.getElem?_eq_getElem hlt)
      have hat:=hat.mono H1.below
      have hk0:(0:Int)≤(k:Int):=Int.natCast_nonneg _
      have hk1:(k:Int)<(subs.length:Int):=by omega
      have e0:=hat.c0
      have e1:=hat.c1
      have e2:=hat.c2
      have e3:=hat.c3
      have h24:=fun W h=>ih subs[k] (List.getElem_mem hlt) _ W (hat.v.mono h)
      have hw:=wrapS hlt (by omega)
      have Hw:=Lib.hid hw
      have Hp:=Lib.hid hp
      clear ih hw hp
      cases he:Lx.empty subs[k]
      all_goals
        rw [he] at h24
        have He:=Lib.hid he
        clear he
        go_wp2_with (first
          | (go_at_call 24; refine (h24 _ ((St.nil _).alloc _).below).mono ?_; rintro e w1 ⟨rfl,hb⟩
             have H2:=afterNew H1 hb
             clear hb))
      · first | rw [Hw.out] | rw [show ((k:Int)+1)=((k+1:Nat):Int) from by omega]
        exact ⟨⟨k+1,hlt,anyEmpty_take (List.getElem?_eq_getElem hlt) Hp.out He.out,rfl,H2⟩,measS hlt⟩
      · go_ret
        exact ⟨by rw [anyE_true (List.getElem_mem hlt) He.out]; rfl,H2.below⟩
    · have hk1 : ¬ (k:Int)<(subs.length:Int):=by omega
      have hkl:k=subs.length:=by omega
      rw [hkl,List.take_length] at hp
      have Hp:=Lib.hid hp
      clear hp hkl
      go_wp2_with fail
      go_ret
      exact ⟨by rw [anyE_false Hp.out]; rfl,H1.below⟩
set_option maxRecDepth 100000 in
theorem c24_plus {a b:Int} {s:Lx.Ex} {sa:Option Addr} {c:Nat} {w:World} (ih:∀ v,RdC 24 s v (.bool (Lx.empty s))) (HS:Hid (ExS w [s] sa 0)) :
    Calls Tryz.prog 24 #[exV 4 a b sa 1 c] w fun e' w'=>e'=.returned (.bool (Lx.empty s))∧Below w.heap.size w w':=by
  have H0:=(St.nil w).alloc (ob 28 [.int .i64 4,.int .i64 a,.int .i64 b,.slice sa 1 c])
  obtain ⟨g,o,op',a',b',sa',n',c',rfl,hat⟩:=HS.out.get0 (k:=0) rfl
  rw [Nat.zero_mul,Nat.add_zero] at hat
  have e0:=hat.c0
  have e1:=hat.c1
  have e2:=hat.c2
  have e3:=hat.c3
  have hgl:g<w.heap.size:=World.block_lt_of_cell? _ _ hat.c0
  have hne : ¬ g=w.heap.size:=by omega
  have h24:=ih _ _ (hat.v.mono H0.below)
  clear ih hat
  unfold exV
  go_enter Tryz.func24,Tryz.ntmps24
  go_wp2_with (first
    | (go_at_call 24; refine h24.mono ?_; rintro e w1 ⟨rfl,hb⟩
       have H2:=H0.grow hb
       clear hb))
  go_ret
  exact ⟨rfl,H2.below⟩
set_option maxRecDepth 100000 in
theorem c24_no {a b:Int} {n:Nat} {sa:Option Addr} {c:Nat} {w:World} : Calls Tryz.prog 24 #[exV 0 a b sa n c] w fun e' w'=>e'=.returned (.bool false)∧Below w.heap.size w w':=by
  have H0:=(St.nil w).alloc (ob 28 [.int .i64 0,.int .i64 a,.int .i64 b,.slice sa n c])
  unfold exV
  go_enter Tryz.func24,Tryz.ntmps24
  go_wp2_with fail
  go_ret
  exact ⟨rfl,H0.below⟩
set_option maxRecDepth 100000 in
theorem c24_yes {op a b:Int} (ho:op=3∨op=5) {n:Nat} {sa:Option Addr} {c:Nat} {w:World} : Calls Tryz.prog 24 #[exV op a b sa n c] w fun e' w'=>e'=.returned (.bool true)∧Below w.heap.size w w':=by
  have H0:=(St.nil w).alloc (ob 28 [.int .i64 op,.int .i64 a,.int .i64 b,.slice sa n c])
  unfold exV
  rcases ho with rfl | rfl
  all_goals
    go_enter Tryz.func24,Tryz.ntmps24
    go_wp2_with fail
    go_ret
    exact ⟨rfl,H0.below⟩
theorem c24:∀ (e:Lx.Ex) (d:Nat) (v:Value),Lx.good d e=true→RdC 24 e v (.bool (Lx.empty e)):=by
  intro e
  induction e using Lx.Ex.ind with
  | h op a b subs ih =>
    intro d v hg w hv
    obtain ⟨d,rfl,hl,hs,hk⟩:=good_sub hg
    obtain ⟨sa,c,rfl,hS⟩:=hv
    have HS:=Lib.hid hS
    have ih':∀ s ∈ subs,∀ v,RdC 24 s v (.bool (Lx.empty s)):=fun s hm v=>ih s hm d v (hs s hm)
    by_cases h0:op=0
    · subst h0; rw [show Lx.empty (.mk 0 a b subs)=false from by simp [Lx.empty]]; exact c24_no
    by_cases h35:op=3∨op=5
    · rw [show Lx.empty (.mk op a b subs)=true from by simp [Lx.empty,h0,h35]]; exact c24_yes h35
    by_cases h1:op=1
    · subst h1; rw [show Lx.empty (.mk 1 a b subs)=Lx.allEmpty subs from by simp [Lx.empty]]; exact c24_row hl ih' HS
    have he:Lx.empty (.mk op a b subs)=Lx.anyEmpty subs:=by simp [Lx.empty,h0,h35,h1]
    rw [he]
    by_cases h4:op=4
    · subst h4
      have:subs.length=1:=by simpa [Lx.kindOk] using hk
      obtain ⟨s,rfl⟩:=Lx.len_one this
      have e2:Lx.anyEmpty [s]=Lx.empty s:=by simp [Lx.anyEmpty]
      rw [e2]
      exact c24_plus (ih' s (by simp)) HS
    · simp only [not_or] at h35
      exact c24_any (by simpa using h0) (by simpa using h35.1) (by simpa using h35.2) (by simpa using h4) (by simpa using h1) hl ih' HS
end Go.Proofs.YtbcngfgemjdllaaGreatDoor
end
section
namespace Go.Proofs.YtbcngfgemjdllaaGreatDoor
open Go.RowKit Go.Own
theorem anyLoops_take {op:Int} {ss:List Lx.Ex} {k:Nat} {s:Lx.Ex} (hk:ss[k]? = some s) (h:∀ x ∈ ss.take k,(Lx.loops x || (op == 3 || op == 4) && Lx.empty x)=false) (he:(Lx.loops s || (op == 3 || op == 4) && Lx.empty s)=false):∀ x ∈ ss.take (k+1),(Lx.loops x || (op == 3 || op == 4) && Lx.empty x)=false:=by
  rw [List.take_add_one,hk]
  intro x hx
  rcases List.mem_append.1 hx with hx | hx
  · exact h x hx
  · simp at hx; subst hx; exact he
theorem anyL_false {op:Int} : ∀ {ss:List Lx.Ex},(∀ x ∈ ss,(Lx.loops x || (op == 3 || op == 4) && Lx.empty x)=false)→Lx.anyLoops op ss=false
  | [],_=>rfl
  | s::ss,h=>by
    simp only [Lx.anyLoops]
    rw [h s (by simp),anyL_false fun x hx=>h x (by simp [hx])]
    rfl
theorem anyL_true {op:Int} : ∀ {ss:List Lx.Ex} {s:Lx.Ex},s ∈ ss→(Lx.loops s || (op == 3 || op == 4) && Lx.empty s)=true→Lx.anyLoops op ss=true
  | s'::ss,s,hm,h=>by
    simp only [Lx.anyLoops]
    rcases List.mem_cons.1 hm with rfl | hm
    · rw [h]; rfl
    · rw [anyL_true hm h,Bool.or_true]
set_option maxRecDepth 100000 in
set_option maxHeartbeats 1000000 in
theorem c25_go {op a b:Int} {subs:List Lx.Ex} {sa:Option Addr} {c d:Nat} {w:World} (hl:subs.length≤4) (hg:∀ s ∈ subs,Lx.good d s=true) (ih:∀ s ∈ subs,∀ v,RdC 25 s v (.bool (Lx.loops s))) (HS:Hid (ExS w subs sa 0)) :
    Calls Tryz.prog 25 #[exV op a b sa subs.length c] w fun e' w'=>e'=.returned (.bool (Lx.anyLoops op subs))∧Below w.heap.size w w':=by
  have H0:=(St.nil w).alloc (ob 28 [.int .i64 op,.int .i64 a,.int .i64 b,.slice sa subs.length c])
  unfold exV
  cases h3:(op == 3) <;> cases h4:(op == 4)
  all_goals
    go_enter Tryz.func25,Tryz.ntmps25
    go_wp2_with fail
    go_loopw [8] (IdxRel w w.heap.size [.int .i64 op,.int .i64 a,.int .i64 b,.slice sa subs.length c] subs.length fun k=>∀ x ∈ subs.take k,(Lx.loops x || (op == 3 || op == 4) && Lx.empty x)=false) (fun i _=>subs.length - (intOf i).toNat)
    case atStart=>exact ⟨0,Nat.zero_le _,by simp,rfl,H0⟩
    case round =>
      obtain ⟨k,hk,hp,rfl,H1⟩:=hrel
      by_cases hlt:k<subs.length
      · obtain ⟨g,o,op',a',b',sa',n',c',rfl,hat⟩:=HS.out.get0 (List.getElem?_eq_getElem hlt)
        have hat:=hat.mono H1.below
        have hk0:(0:Int)≤(k:Int):=Int.natCast_nonneg _
        have hk1:(k:Int)<(subs.length:Int):=by omega
        have e0:=hat.c0
        have e1:=hat.c1
        have e2:=hat.c2
        have e3:=hat.c3
        have h25:=fun W h=>ih subs[k] (List.getElem_mem hlt) _ W (hat.v.mono h)
        have h24:=fun (W0 W:World) (h:Below wr.heap.size wr W0) (h':Below W0.heap.size W0 W)=>c24 subs[k] d _ (hg subs[k] (List.getElem_mem hlt)) W ((hat.v.mono h).mono h')
        have ho:=H1.cells.1 0
        have hol:w.heap.size<wr.heap.size:=World.block_lt_of_cell? _ _ ho
        have hon : ¬ w.heap.size=wr.heap.size:=by omega
        have hw:=wrapS hlt (by omega)
        have Hw:=Lib.hid hw
        have Hp:=Lib.hid hp
        have He:=Lib.hid (rfl:(Lx.loops subs[k] || (op == 3 || op == 4) && Lx.empty subs[k])=(Lx.loops subs[k] || (op == 3 || op == 4) && Lx.empty subs[k]))
        have H3:=Lib.hid h3
        have H4:=Lib.hid h4
        have Hm:=Lib.hid (List.getElem_mem hlt)
        have Hg:=Lib.hid (List.getElem?_eq_getElem hlt)
        clear ih hw hp hg
        generalize subs[k]=s at h24 h25 He Hm Hg
        cases he:Lx.loops s <;> cases hz:Lx.empty s
        all_goals
          rw [he] at h25
          rw [hz] at h24
          have He1:=Lib.hid he
          have Hz1:=Lib.hid hz
          clear he hz
          go_wp2_with (first
            | (go_at_call 25; refine (h25 _ ((St.nil _).alloc _).below).mono ?_; rintro e w1 ⟨rfl,hb⟩
               have H2:=afterNew H1 hb
               have f0:=H2.cells.1 0
               have ht:=((St.nil wr).alloc (ob 28 [.int .i64 op',.int .i64 a',.int .i64 b',.slice sa' n' c'])).grow hb
               have f1:=ht.cells.1 0
               have f2:=ht.cells.1 1
               have f3:=ht.cells.1 2
               have f4:=ht.cells.1 3
               have Hb:=Lib.hid hb
               clear hb ht)
            | (go_at_call 24; refine (h24 _ _ ((St.nil _).alloc _).below Hb.out).mono ?_; rintro e w2 ⟨rfl,hb2⟩
               have H2:=H2.grow hb2
               clear hb2))
          first
            | (go_ret
               exact ⟨by rw [anyL_true Hm.out (by rw [He1.out,Hz1.out,H3.out,H4.out]; rfl)]; rfl,H2.below⟩)
            | (first | rw [Hw.out] | rw [show ((k:Int)+1)=((k+1:Nat):Int) from by omega]
               exact ⟨⟨k+1,hlt,anyLoops_take Hg.out Hp.out (by rw [He1.out,Hz1.out,H3.out,H4.out]; rfl),rfl,H2⟩,measS hlt⟩)
      · have hk1 : ¬ (k:Int)<(subs.length:Int):=by omega
        have hkl:k=subs.length:=by omega
        rw [hkl,List.take_length] at hp
        have Hp:=Lib.hid hp
        clear hp hkl
        go_wp2_with fail
        go_ret
        exact ⟨by rw [anyL_false Hp.out]; rfl,H1.below⟩
theorem c25:∀ (e:Lx.Ex) (d:Nat) (v:Value),Lx.good d e=true→RdC 25 e v (.bool (Lx.loops e)):=by
  intro e
  induction e using Lx.Ex.ind with
  | h op a b subs ih =>
    intro d v hg w hv
    obtain ⟨d,rfl,hl,hs,hk⟩:=good_sub hg
    obtain ⟨sa,c,rfl,hS⟩:=hv
    rw [show Lx.loops (.mk op a b subs)=Lx.anyLoops op subs from by simp [Lx.loops]]
    exact c25_go hl hs (fun s hm v=>ih s hm d v (hs s hm)) (Lib.hid hS)
end Go.Proofs.YtbcngfgemjdllaaGreatDoor
end
