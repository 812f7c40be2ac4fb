/- Part 45: A3, L1, L2, S7, S8. -/
import Derived.BigQuiet
import Derived.Test.YtbcngfgemjdllaaGreatDoorB14
import Derived.Test.YtbcngfgemjdllaaGreatDoorB30
import Derived.Test.YtbcngfgemjdllaaGreatDoorB42
import Derived.Test.YtbcngfgemjdllaaGreatDoorB44
set_option linter.unusedVariables false
set_option linter.unusedSimpArgs false
section
namespace Go.Proofs.YtbcngfgemjdllaaGreatDoor
open Go.RowKit Go.Own
variable {rules:List Lx.Ex} {n at_:Nat} {bk:Nat→Nat} {w w0 w1:World} {r:List HP}
theorem sl30a:SlT Tryz.prog 30 36 5 40 (.agg #[.int .i64 0,.int .i64 0,.int .i64 0,.int .i64 0,.int .i64 0]):=⟨by kernel_rfl,sl_inf' (by kernel_rfl),by kernel_rfl,by decide⟩
def nE (X:List T5):List T5:=X.filter fun y=>y.1 != -1
theorem nE_take {X:List T5} {k:Nat} {x:T5} (h:X[k]? = some x):nE (X.take (k+1))=nE (X.take k)++(if x.1 = -1 then [] else [x]):=by
  unfold nE
  rw [List.take_add_one,h,List.filter_append]
  congr 1
  by_cases hx:x.1 = -1 <;> simp [hx]
def A3Rel (w1:World) (X:List T5) (v i:Value) (wr:World):Prop :=
  ∃ (k:Nat) (a:Option Addr) (c:Nat),k≤X.length∧i=.int .i64 k∧v=.slice a (nE (X.take k)).length c∧St w1.heap.size w1 [Osl (.slice a (nE (X.take k)).length c) 36 5 (nE (X.take k)).length ((nE (X.take k)).flatMap q5)] wr
noncomputable def TK (rules:List Lx.Ex) (n:Nat) (t:List Nat):List T5:=(Lx.noEnd (LX rules n t).1).map t5
set_option maxRecDepth 100000 in
set_option maxHeartbeats 4000000 in
theorem c15 (hG:GdR rules n) {sa:Option Addr} {c0:Nat} (hE:ExS w rules sa 0) {s:ByteArray} (ht:∀ c ∈ tx s,c≤127) (hl:s.size≤60) :
    Calls Tryz.prog 15 #[.slice sa rules.length c0,.string s] w fun e w'=>∃ (a:Option Addr) (c:Nat),e=.returned (.tuple #[.slice a (TK rules n (tx s)).length c,.int .i64 (LX rules n (tx s)).2.1])∧RowAt w' a ((TK rules n (tx s)).flatMap q5)∧Below w.heap.size w w':=by
  have h21:=c21 (c:=c0) (by have:=hG.len; omega) hG.size (fun e he=>(hG.good e he).1) hE
  have H21:=Lib.hid h21
  have HG:=Lib.hid (And.intro hG (And.intro ht hl))
  have hlt:=tx_len s
  have hXl:∀ X,MA rules n (tx s) X→X.length≤62:=fun X h=>by have:=h.len; omega
  have HX:=Lib.hid hXl
  clear h21 hG hE ht hl hlt hXl
  go_enter Tryz.func15,Tryz.ntmps15
  go_wp2_with fail
  go_at_call 21
  refine H21.out.mono ?_
  rintro e w1 ⟨V,ru,rfl,hN,hb⟩
  have H29:=Lib.hid (c29 HG.out.1 hN HG.out.2.1 HG.out.2.2)
  have HB1:=Lib.hid hb
  clear hN hb
  go_wp2_with fail
  go_at_call 29
  refine H29.out.mono ?_
  rintro e w2 ⟨X,a,c,rfl,hMA,hrow,hb2⟩
  have HB2:=Lib.hid (HB1.out.trans (hb2.mono HB1.out.size))
  have hX:=HX.out X hMA
  have HM:=Lib.hid (And.intro hMA hrow)
  have H1:=St.ownFull (m:=0) (sz:=5) ((St.nil w2).alloc (ob 36 [])) rfl (by simp [maxLen])
  have HH:=Lib.hid H1
  clear hMA hrow hb2 H1 HX
  go_wp2_with fail
  go_loopw [8,21] (A3Rel w2 X) (fun _ i _=>X.length - (intOf i).toNat)
  case atStart=>exact ⟨0,_,0,Nat.zero_le _,rfl,rfl,by rw [List.take_zero]; exact HH.out⟩
  case round =>
    obtain ⟨k,a1,c1,hk,rfl,rfl,H1⟩:=hrel
    by_cases hlt:k<X.length
    · obtain ⟨g,hga,hgc⟩:=(HM.out.2.mono H1.below).get (f:=q5) (n:=5) (fun _=>rfl) (by omega) (List.getElem?_eq_getElem hlt)
      subst hga
      have hk0:(0:Int)≤(k:Int):=Int.natCast_nonneg _
      have hk1:(k:Int)<(X.length:Int):=by omega
      have e0:wr.cell? ⟨g,k * 5,none⟩=some (.int .i64 X[k].1):=hgc 0 _ rfl
      have e1:wr.cell? ⟨g,k * 5+1,none⟩=some (.int .i64 X[k].2.1):=hgc 1 _ rfl
      have e2:wr.cell? ⟨g,k * 5+2,none⟩=some (.int .i64 X[k].2.2.1):=hgc 2 _ rfl
      have e3:wr.cell? ⟨g,k * 5+3,none⟩=some (.int .i64 X[k].2.2.2.1):=hgc 3 _ rfl
      have e4:wr.cell? ⟨g,k * 5+4,none⟩=some (.int .i64 X[k].2.2.2.2):=hgc 4 _ rfl
      have hft:=nE_take (List.getElem?_eq_getElem hlt)
      have Hw:=Lib.hid (wrapS hlt (by omega))
      have hm:(nE (X.take k)).length≤62:=Nat.le_trans (List.length_filter_le _ _) (by rw [List.length_take]; omega)
      by_cases hx:X[k].1 = -1
      · rw [if_pos hx,List.append_nil] at hft
        have hq:q5 X[k]=[.int .i64 (-1),.int .i64 X[k].2.1,.int .i64 X[k].2.2.1,.int .i64 X[k].2.2.2.1,.int .i64 X[k].2.2.2.2]:=by unfold q5; rw [hx]
        have h0:=H1.alloc (ob 41 (q5 X[k]))
        rw [hq] at h0
        have HA:=Lib.hid h0
        clear h0 hq
        have Hft:=Lib.hid hft
        have hxb:(X[k].1 == (-1:Int))=true:=by rw [hx]; rfl
        clear hgc H1 hft
        generalize hXk:X[k]=xk at *
        rw [hx] at e0
        go_wp2_with fail
        first | rw [Hw.out] | rw [show ((k:Int)+1)=((k+1:Nat):Int) from by omega]
        refine ⟨⟨k+1,a1,c1,hlt,rfl,by rw [Hft.out],?_⟩,measS hlt⟩
        rw [Hft.out]
        exact HA.out.drop
      · rw [if_neg hx] at hft
        have Ha:=((H1.alloc (ob 41 (q5 X[k]))).alloc (ob 36 (q5 X[k])))
        rw [show (wr.alloc (ob 41 (q5 X[k]))).heap.size=wr.heap.size+1 from Array.size_push _] at Ha
        have HA:=Lib.hid ((Ha.pick 2).pick 1)
        have Hft:=Lib.hid hft
        have hxb:(X[k].1 == (-1:Int))=false:=by rw [beq_eq_false_iff_ne]; exact hx
        have hmb:(nE (X.take k)).length+1≤maxLen:=by simp only [maxLen]; omega
        clear hgc H1 Ha hft
        generalize nE (X.take k)=Y at *
        go_wp2_with (first
          | (at_builtin; go_must (refine wpList_append1_st rfl _ _ rfl sl30a (g:=wr.heap.size+1) (news:=q5 X[k]) HA.out rfl 1 rfl rfl rfl (by simp [q5,Value.oneCell']) hmb (by omega) ?_)
             intro a5 c5 w5 H5))
        first | rw [Hw.out] | rw [show ((k:Int)+1)=((k+1:Nat):Int) from by omega]
        refine ⟨⟨k+1,a5,c5,hlt,rfl,by rw [Hft.out]; simp,?_⟩,measS hlt⟩
        rw [Hft.out]
        have h6:=(H5.pick 1).drop
        simpa [List.flatMap_append] using h6
    · have hk1 : ¬ (k:Int)<(X.length:Int):=by omega
      have hkl:k=X.length:=by omega
      subst hkl
      rw [List.take_length] at H1
      have HF:=Lib.hid H1
      clear H1 hk
      go_wp2_with fail
      go_ret2
      have hfil:nE X=TK rules n (tx s):=HM.out.1.fil
      rw [← hfil]
      exact ⟨a1,⟨c1,rfl⟩,RowAt.of HF.out,HB2.out.trans (HF.out.below.mono HB2.out.size)⟩
end Go.Proofs.YtbcngfgemjdllaaGreatDoor
end
section
namespace Go.Proofs.YtbcngfgemjdllaaGreatDoor
open Go.RowKit Go.Own
variable {rules:List Lx.Ex} {n:Nat}
theorem ap_of {A:List (List Lx.Cf × List Lx.Cf)} {X:List MX} (hX:X=A.map fun q=>(0,q.1,q.2)) (h:P1 X X.length):Lx.AP hN hS A:=by
  have hget:∀ q ∈ A,∃ i,i<X.length∧X[i]? = some ((0,q.1,q.2):MX):=fun q hq=>by
    obtain ⟨i,hi⟩:=List.mem_iff_getElem?.1 hq
    have h1:X[i]? = some ((0,q.1,q.2):MX):=by rw [hX,List.getElem?_map,hi]; rfl
    exact ⟨i,(List.getElem?_eq_some_iff.1 h1).1,h1⟩
  refine ⟨fun x hx y hy h1 h2 => ?_,fun x hx c hc d hd e => ?_⟩
  · obtain ⟨i,hi,ei⟩:=hget x hx
    obtain ⟨j,hj,ej⟩:=hget y hy
    rcases Nat.lt_trichotomy i j with hij | hij | hij
    · exact ((h j _ hj ej).1 i _ hij ei h1.symm h2.symm).symm
    · subst hij; rw [ei] at ej; injection ej with ej; injection ej with _ ej; injection ej
    · exact (h i _ hi ei).1 j _ hij ej h1 h2
  · obtain ⟨i,hi,ei⟩:=hget x hx
    have hA:=(h i _ hi ei).2
    obtain ⟨k,hk⟩:=List.mem_iff_getElem?.1 hc
    obtain ⟨l,hl⟩:=List.mem_iff_getElem?.1 hd
    have hk2:=(List.getElem?_eq_some_iff.1 hk).1
    have hl2:=(List.getElem?_eq_some_iff.1 hl).1
    rcases Nat.lt_trichotomy k l with hij | hij | hij
    · exact (hA l d hl2 hl k c hij hk e.symm).symm
    · subst hij; rw [hk] at hl; cases hl; rfl
    · exact hA k c hk2 hk l d hij hl e
theorem model_ok (hG:GdR rules n) {t:List Nat} (hap:P1 (AX rules n t) (AX rules n t).length):Lx.AllR rules t 0 (Lx.noEnd (LX rules n t).1) (LX rules n t).2.1 :=
  Lx.lexF_ok (Lx.nFit hG.good hG.dep) (fun r i j h=>Lx.nPos hG.good t r i j h) _ _ 0 1 0 (Nat.zero_le _) (by omega) Lx.Inv.nil (by simp [Lx.plc]) (ap_of rfl hap)
theorem tk_ok (hG:GdR rules n) {t:List Nat} (hap:P1 (AX rules n t) (AX rules n t).length) {ts:List Lx.Tok} {f:Int} (h:Lx.AllR rules t 0 ts f):TK rules n t=ts.map t5∧(LX rules n t).2.1=f:=by
  obtain ⟨h1,h2⟩:=Lx.AllR.unique (model_ok hG hap) h
  exact ⟨by unfold TK; rw [h1],h2⟩
end Go.Proofs.YtbcngfgemjdllaaGreatDoor
end
section
namespace Go.Proofs.YtbcngfgemjdllaaGreatDoor
open Go.RowKit Go.Own
variable {B:Nat} {w0 w:World} {r:List HP}
def Q17 (w:World) (X Y:List T5) (e:Ending) (w':World):Prop:=e=.returned (.bool (decide (X=Y)))∧Below w.heap.size w w'
def R17 (w:World) (X Y:List T5) (i:Value) (wr:World):Prop:=∃ k:Nat,k≤X.length∧i=.int .i64 (k:Int)∧(∀ k':Nat,k'<k→X[k']? = Y[k']?)∧St w.heap.size w [] wr
set_option maxRecDepth 100000 in
set_option maxHeartbeats 8000000 in
theorem c17 {X Y : List T5} {a b : Option Addr} {c d : Nat} (hX : RowAt w a (X.flatMap q5)) (hY : RowAt w b (Y.flatMap q5)) (hl : X.length < 1000000) :
    Calls Tryz.prog 17 #[.slice a X.length c,.slice b Y.length d] w (Q17 w X Y):=by
  have HR:=Lib.hid (And.intro hX hY)
  clear hX hY
  by_cases hn:X.length=Y.length
  · have hb : ((X.length : Int) != (Y.length : Int)) = false := by rw [hn]; exact bne_self_eq_false _
    have HN:=Lib.hid hn
    clear hn
    go_enter Tryz.func17,Tryz.ntmps17
    go_wp2_with fail
    go_loopw [13] (R17 w X Y) (fun i _=>X.length - (intOf i).toNat)
    case atStart=>exact ⟨0,Nat.zero_le _,rfl,fun _ h=>absurd h (Nat.not_lt_zero _),St.nil w⟩
    case round =>
      obtain ⟨k,hk,rfl,hP,H1⟩:=hrel
      by_cases hlt:k<X.length
      · have hk0 : (0 : Int) ≤ (k : Int) := Int.natCast_nonneg _
        have hk1:(k:Int)<(X.length:Int):=by omega
        have hk2:(k:Int)<(Y.length:Int):=by have:=HN.out; omega
        have Hw:=Lib.hid (wrapS hlt (by omega))
        obtain ⟨⟨x1,x2,x3,x4,x5⟩,hx⟩:∃ x,X[k]? = some x:=⟨_,List.getElem?_eq_getElem hlt⟩
        obtain ⟨⟨y1,y2,y3,y4,y5⟩,hy⟩:∃ y,Y[k]? = some y:=⟨_,List.getElem?_eq_getElem (by have:=HN.out; omega)⟩
        obtain ⟨g,rfl,hgx⟩:=(HR.out.1.mono H1.below).get (f:=q5) (n:=5) (fun _=>rfl) (by omega) hx
        obtain ⟨g2,rfl,hgy⟩:=(HR.out.2.mono H1.below).get (f:=q5) (n:=5) (fun _=>rfl) (by omega) hy
        have e0:wr.cell? ⟨g,k * 5,none⟩=some (.int .i64 x1):=hgx 0 _ rfl
        have f0:wr.cell? ⟨g2,k * 5,none⟩=some (.int .i64 y1):=hgy 0 _ rfl
        have e1:wr.cell? ⟨g,k * 5+1,none⟩=some (.int .i64 x2):=hgx 1 _ rfl
        have f1:wr.cell? ⟨g2,k * 5+1,none⟩=some (.int .i64 y2):=hgy 1 _ rfl
        have e2:wr.cell? ⟨g,k * 5+2,none⟩=some (.int .i64 x3):=hgx 2 _ rfl
        have f2:wr.cell? ⟨g2,k * 5+2,none⟩=some (.int .i64 y3):=hgy 2 _ rfl
        have e3:wr.cell? ⟨g,k * 5+3,none⟩=some (.int .i64 x4):=hgx 3 _ rfl
        have f3:wr.cell? ⟨g2,k * 5+3,none⟩=some (.int .i64 y4):=hgy 3 _ rfl
        have e4:wr.cell? ⟨g,k * 5+4,none⟩=some (.int .i64 x5):=hgx 4 _ rfl
        have f4:wr.cell? ⟨g2,k * 5+4,none⟩=some (.int .i64 y5):=hgy 4 _ rfl
        have HH:=Lib.hid (And.intro hP (And.intro H1 (And.intro hx hy)))
        clear hP H1 hx hy hgx hgy
        by_cases h:x1=y1
        · subst h
          by_cases h:x2=y2
          · subst h
            by_cases h:x3=y3
            · subst h
              by_cases h:x4=y4
              · subst h
                by_cases h:x5=y5
                · subst h
                  go_wp2_with (first | (go_quiet (fail)))
                  first | rw [Hw.out] | rw [show ((k:Int)+1)=((k+1:Nat):Int) from by omega]
                  refine ⟨⟨k+1,hlt,rfl,fun k' hk' => ?_,HH.out.2.1.drewN _⟩,measS hlt⟩
                  by_cases hkk:k'=k
                  · subst hkk; rw [HH.out.2.2.1,HH.out.2.2.2]
                  · exact HH.out.1 k' (by omega)
                · have HD:=Lib.hid h
                  go_wp2_with (first | (go_quiet (fail)))
                  refine bodyPost_ret (v:=.bool (decide (X=Y))) ?_ rfl ⟨rfl,(HH.out.2.1.drewN _).below⟩
                  have hne:X≠Y:=fun e=>by
                    have h1:=HH.out.2.2.1
                    rw [e,HH.out.2.2.2] at h1
                    simp only [Option.some.injEq,Prod.mk.injEq] at h1
                    exact HD.out (by simp [h1])
                  rw [decide_eq_false hne]
                  simp [results,Tryz.results17,go_sem]
              · have HD:=Lib.hid h
                go_wp2_with (first | (go_quiet (fail)))
                refine bodyPost_ret (v:=.bool (decide (X=Y))) ?_ rfl ⟨rfl,(HH.out.2.1.drewN _).below⟩
                have hne:X≠Y:=fun e=>by
                  have h1:=HH.out.2.2.1
                  rw [e,HH.out.2.2.2] at h1
                  simp only [Option.some.injEq,Prod.mk.injEq] at h1
                  exact HD.out (by simp [h1])
                rw [decide_eq_false hne]
                simp [results,Tryz.results17,go_sem]
            · have HD:=Lib.hid h
              go_wp2_with (first | (go_quiet (fail)))
              refine bodyPost_ret (v:=.bool (decide (X=Y))) ?_ rfl ⟨rfl,(HH.out.2.1.drewN _).below⟩
              have hne:X≠Y:=fun e=>by
                have h1:=HH.out.2.2.1
                rw [e,HH.out.2.2.2] at h1
                simp only [Option.some.injEq,Prod.mk.injEq] at h1
                exact HD.out (by simp [h1])
              rw [decide_eq_false hne]
              simp [results,Tryz.results17,go_sem]
          · have HD:=Lib.hid h
            go_wp2_with (first | (go_quiet (fail)))
            refine bodyPost_ret (v:=.bool (decide (X=Y))) ?_ rfl ⟨rfl,(HH.out.2.1.drewN _).below⟩
            have hne:X≠Y:=fun e=>by
              have h1:=HH.out.2.2.1
              rw [e,HH.out.2.2.2] at h1
              simp only [Option.some.injEq,Prod.mk.injEq] at h1
              exact HD.out (by simp [h1])
            rw [decide_eq_false hne]
            simp [results,Tryz.results17,go_sem]
        · have HD:=Lib.hid h
          go_wp2_with (first | (go_quiet (fail)))
          refine bodyPost_ret (v:=.bool (decide (X=Y))) ?_ rfl ⟨rfl,(HH.out.2.1.drewN _).below⟩
          have hne:X≠Y:=fun e=>by
            have h1:=HH.out.2.2.1
            rw [e,HH.out.2.2.2] at h1
            simp only [Option.some.injEq,Prod.mk.injEq] at h1
            exact HD.out (by simp [h1])
          rw [decide_eq_false hne]
          simp [results,Tryz.results17,go_sem]
      · have hk1 : ¬ (k:Int)<(X.length:Int):=by omega
        have hkl:k=X.length:=by omega
        have hXY:X=Y:=by
          apply List.ext_getElem?
          intro k'
          by_cases hkk:k'<X.length
          · exact hP k' (by omega)
          · rw [List.getElem?_eq_none_iff.2 (by omega),List.getElem?_eq_none_iff.2 (by have:=HN.out; omega)]
        have HD:=Lib.hid (And.intro hXY H1)
        clear hXY hP H1 hk hkl
        go_wp2_with fail
        refine bodyPost_ret (v:=.bool (decide (X=Y))) ?_ rfl ⟨rfl,HD.out.2.below⟩
        rw [decide_eq_true HD.out.1]
        simp [results,Tryz.results17,go_sem]
  · have hb:((X.length:Int) != (Y.length:Int))=true:=by rw [bne_iff_ne]; omega
    have HN:=Lib.hid hn
    clear hn
    go_enter Tryz.func17,Tryz.ntmps17
    go_wp2_with fail
    refine bodyPost_ret (v:=.bool (decide (X=Y))) ?_ rfl ⟨rfl,(St.nil w).below⟩
    rw [decide_eq_false (fun e=>HN.out (by rw [e]))]
    simp [results,Tryz.results17,go_sem]
end Go.Proofs.YtbcngfgemjdllaaGreatDoor
end
section
namespace Go.Proofs.YtbcngfgemjdllaaGreatDoor
open Go.RowKit Go.Own
def ChRel (w:World) (b0 g0 m:Nat) (vs:List Value) (F:Nat→Nat→Bool) (i:Value) (wr:World):Prop :=
  ∃ k:Nat,k≤m∧i=.int .i64 k∧St w.heap.size w [pts g0 4 (bl m (F k)),pts b0 28 vs] wr
theorem ch_cases (fk:Bool) (x a b:Int):(fk=true∧a≤x∧x≤b∧(fk && (decide (a≤x) && decide (x≤b)))=true)∨(fk=false∧(fk && (decide (a≤x) && decide (x≤b)))=false) ∨
    (fk=true ∧ ¬ a≤x∧(fk && (decide (a≤x) && decide (x≤b)))=false)∨(fk=true∧a≤x ∧ ¬ x≤b∧(fk && (decide (a≤x) && decide (x≤b)))=false):=by
  cases fk <;> by_cases h1:a≤x <;> by_cases h2:x≤b <;> simp [h1,h2]
set_option maxRecDepth 100000 in
set_option maxHeartbeats 1000000 in
theorem c31_chars {a b:Int} {n c:Nat} {sa:Option Addr} {s:ByteArray} {m c' g:Nat} {f:Nat→Bool} {w:World} {ss:List Lx.Ex} (hm:m=s.size+1) (hm2:m<1073741824) (hf:BlAt w g m f) :
    Calls Tryz.prog 31 #[exV 0 a b sa n c,.string s,.slice (some ⟨g,0,none⟩) m c'] w fun e' w'=>∃ g',e'=.returned (.slice (some ⟨g',0,none⟩) m m)∧St w.heap.size w [pts g' 4 (bl m (Lx.eB (tx s) (.mk 0 a b ss) f))] w':=by
  have H0:=((St.nil w).alloc (ob 28 [.int .i64 0,.int .i64 a,.int .i64 b,.slice sa n c])).alloc (ob 4 (bl m fun _=>false))
  have hmk:=fun W=>run_make70 (m:=m) (by omega) W
  have hsz:(w.alloc (ob 28 [.int .i64 0,.int .i64 a,.int .i64 b,.slice sa n c])).heap.size=w.heap.size+1:=Array.size_push _
  rw [hsz] at H0
  unfold exV
  have HF:=Lib.hid hf
  have Hm:=Lib.hid hm
  clear hf hm hsz
  go_enter Tryz.func31,Tryz.ntmps31
  go_wp2_with fail
  go_loopw [68] (ChRel w w.heap.size (w.heap.size+1) m [.int .i64 0,.int .i64 a,.int .i64 b,.slice sa n c] (chK (tx s) a b f)) (fun i _=>m - (intOf i).toNat)
  case atStart =>
    refine ⟨0,Nat.zero_le _,rfl,?_⟩
    rw [show chK (tx s) a b f 0=fun _=>false from by funext j; cases j <;> simp [chK]]
    exact H0
  case round =>
    obtain ⟨k,hk,rfl,H1⟩:=hrel
    by_cases hlt:k<m
    · have hk0:(0:Int)≤(k:Int):=Int.natCast_nonneg _
      have hk1:(k:Int)<(m:Int):=by omega
      have hfk:=(HF.out.mono H1.below) k hlt
      have hb:=(H1.pick 1).cells.1
      have b1:=hb 1
      have b2:=hb 2
      have Hk:=Lib.hid hlt
      clear hb
      by_cases hks:k<s.size
      · have hks1:(k:Int)<(s.size:Int):=by omega
        have hin:=Lib.hid (inR_tx hks a b)
        have hg1:=H1.cells.1 (k+1)
        rw [bl_get (by have:=Hm.out; omega)] at hg1
        have hg2:=H1.cells.2 (k+1)
        have hk2:((k:Int)+1)<(m:Int):=by have:=Hm.out; omega
        have hk3:(0:Int)≤(k:Int)+1:=by omega
        have hk4:((k:Int)+1).toNat=k+1:=by omega
        have hw:=wrapS (n:=m) (k:=k) hlt (by omega)
        have Hw:=Lib.hid hw
        clear hw
        have hwr:IntKind.i64.wrap ((s[k]'hks).toNat:Int)=((s[k]'hks).toNat:Int):=by
          have:=UInt8.toNat_lt (s[k]'hks)
          rw [IntKind.wrap_i64]; omega
        rcases ch_cases (f k) ((s[k]'hks).toNat:Int) a b with ⟨hfv,ha,hbb,hc⟩ | ⟨hfv,hc⟩ | ⟨hfv,ha,hc⟩ | ⟨hfv,ha,hbb,hc⟩
        all_goals
          rw [← hin.out] at hc
          rw [hfv] at hfk
          have Hc:=Lib.hid hc
          clear hfv hc
          go_wp2_with (first | (go_quiet (fail)))
        · have H2:=(H1.drewN nq).setCell (off:=k+1) (.bool true)
          rw [bl_set,chK_yes Hc.out] at H2
          first | rw [Hw.out] | rw [show ((k:Int)+1)=((k+1:Nat):Int) from by omega]
          exact ⟨⟨k+1,hlt,rfl,H2⟩,measS hlt⟩
        all_goals
          first | rw [Hw.out] | rw [show ((k:Int)+1)=((k+1:Nat):Int) from by omega]
          exact ⟨⟨k+1,hlt,rfl,by rw [chK_no Hc.out]; exact H1.drewN _⟩,measS hlt⟩
      · have hks1 : ¬ (k:Int)<(s.size:Int):=by omega
        have hin:=Lib.hid (show (f k && Lx.inR (tx s) k a b)=false by rw [inR_end hks,Bool.and_false])
        have hw:=wrapS (n:=m) (k:=k) hlt (by omega)
        have Hw:=Lib.hid hw
        clear hw
        cases hfv:f k
        all_goals
          rw [hfv] at hfk
          clear hfv
          go_wp2_with (first | (go_quiet (fail)))
          first | rw [Hw.out] | rw [show ((k:Int)+1)=((k+1:Nat):Int) from by omega]
          exact ⟨⟨k+1,hlt,rfl,by rw [chK_no hin.out]; exact H1.drewN _⟩,measS hlt⟩
    · have hk1 : ¬ (k:Int)<(m:Int):=by omega
      have hkl:k=m:=by omega
      rw [hkl,chK_all (ss:=ss)] at H1
      have H2:=(H1.pick 1).drop
      clear hkl H1
      go_wp2_with fail
      go_ret
      exact ⟨_,rfl,H2⟩
end Go.Proofs.YtbcngfgemjdllaaGreatDoor
end
section
namespace Go.Proofs.YtbcngfgemjdllaaGreatDoor
open Go.RowKit Go.Own
theorem eRow_take {t:List Nat} {ss:List Lx.Ex} {k:Nat} {s:Lx.Ex} (hk:ss[k]? = some s) (F:Nat→Bool):Lx.eRow t (ss.take (k+1)) F=Lx.eB t s (Lx.eRow t (ss.take k) F):=by
  induction ss generalizing k F with
  | nil=>simp at hk
  | cons x ss ih =>
    cases k with
    | zero=>simp at hk; subst hk; simp [Lx.eRow]
    | succ k=>simp at hk; simp only [List.take_succ_cons,Lx.eRow]; exact ih hk _
def RowRel (w:World) (b0 m:Nat) (vs:List Value) (F:Nat→Nat→Bool) (n:Nat) (v i:Value) (wr:World):Prop :=
  ∃ k g:Nat,k≤n∧i=.int .i64 k∧v=.slice (some ⟨g,0,none⟩) m m∧St w.heap.size w [pts b0 28 vs,pts g 4 (bl m (F k))] wr
set_option maxRecDepth 100000 in
set_option maxHeartbeats 1000000 in
theorem c31_row {a b:Int} {c:Nat} {sa:Option Addr} {s:ByteArray} {m c' g:Nat} {f:Nat→Bool} {w:World} {subs:List Lx.Ex} (hl:subs.length≤4) (ih:∀ e ∈ subs,EndC e) (hS:ExS w subs sa 0) (hm:m=s.size+1) (hm2:m<1073741824) (hf:BlAt w g m f) :
    Calls Tryz.prog 31 #[exV 1 a b sa subs.length c,.string s,.slice (some ⟨g,0,none⟩) m c'] w fun e' w'=>∃ g',e'=.returned (.slice (some ⟨g',0,none⟩) m m)∧St w.heap.size w [pts g' 4 (bl m (Lx.eRow (tx s) subs f))] w':=by
  have H0:=((St.nil w).alloc (ob 28 [.int .i64 1,.int .i64 a,.int .i64 b,.slice sa subs.length c])).alloc (ob 4 (bl m fun _=>false))
  have hmk:=fun W=>run_make70 (m:=m) (by omega) W
  have hsz:(w.alloc (ob 28 [.int .i64 1,.int .i64 a,.int .i64 b,.slice sa subs.length c])).heap.size=w.heap.size+1:=Array.size_push _
  rw [hsz] at H0
  have hf0:=hf.mono H0.below
  unfold exV
  have HF0:=Lib.hid hf0
  have HS:=Lib.hid hS
  have HF:=Lib.hid hf
  have H00:=Lib.hid H0
  have Hm:=Lib.hid hm
  have Hih:=Lib.hid ih
  clear hf hm hsz hf0 H0 hS ih
  go_enter Tryz.func31,Tryz.ntmps31
  go_wp2_with (first
    | (refine wpList_copy_st rfl _ _ 70 rfl 4 und70 inf4 H00.out rfl rfl (bl_len m f) (bl_len _ _) ?_ bl_one ?_
       (· intro j v hj
          have hj2:j<m:=by have:=(List.getElem?_eq_some_iff.1 hj).1; rwa [bl_len] at this
          rw [bl_get hj2] at hj
          rw [← hj]
          exact HF0.out j hj2)
       intro w1 H1
       have x3:w1.cell? ⟨w.heap.size,3,none⟩=some (.slice sa subs.length c):=(H1.pick 1).cells.1 3))
  have H1:St w.heap.size w [pts w.heap.size 28 [.int .i64 1,.int .i64 a,.int .i64 b,.slice sa subs.length c],pts (w.heap.size+1) 4 (bl m f)] w1:=H1.pick 1
  clear x3
  go_loopw [7,111] (RowRel w w.heap.size m [.int .i64 1,.int .i64 a,.int .i64 b,.slice sa subs.length c] (fun k=>Lx.eRow (tx s) (subs.take k) f) subs.length) (fun _ i _=>subs.length - (intOf i).toNat)
  case atStart=>exact ⟨0,_,Nat.zero_le _,rfl,rfl,by simpa [Lx.eRow] using H1⟩
  case round =>
    clear H1
    obtain ⟨k,gk,hk,rfl,rfl,H1⟩:=hrel
    by_cases hlt:k<subs.length
    · obtain ⟨g2,o,op',a',b',sa',n',cc',rfl,hat⟩:=HS.out.get0 (List.getElem?_eq_getElem hlt)
      have hat:=hat.mono H1.below
      have hk0:(0:Int)≤(k:Int):=Int.natCast_nonneg _
      have hk1:(k:Int)<(subs.length:Int):=by omega
      have e0:=hat.c0
      have e1:=hat.c1
      have e2:=hat.c2
      have e3:=hat.c3
      have hbl:=BlAt.of (H1.pick 1)
      have h31:=fun W (h:Below wr.heap.size wr W)=>Hih.out subs[k] (List.getElem_mem hlt) s m m gk _ _ W Hm.out hm2 (hat.v.mono h) (hbl.mono h)
      have hw:=wrapS hlt (by omega)
      have Hw:=Lib.hid hw
      have Hg:=Lib.hid (eRow_take (t:=tx s) (List.getElem?_eq_getElem hlt) f)
      clear hw hbl hat
      go_wp2_with (first
        | (go_at_call 31; refine (h31 _ ((St.nil _).alloc _).below).mono ?_; rintro e w2 ⟨g',rfl,h2⟩
           have H2:=(((H1.pick 1).drop).alloc (ob 28 [.int .i64 op',.int .i64 a',.int .i64 b',.slice sa' n' cc'])).over_base h2
           have H3:=(H2.pick 1).drop.pick 1
           clear h2 H2))
      first | rw [Hw.out] | rw [show ((k:Int)+1)=((k+1:Nat):Int) from by omega]
      exact ⟨⟨k+1,g',hlt,rfl,rfl,by dsimp only; rw [Hg.out]; exact H3⟩,measS hlt⟩
    · have hk1 : ¬ (k:Int)<(subs.length:Int):=by omega
      have hkl:k=subs.length:=by omega
      dsimp only at H1
      rw [hkl,List.take_length] at H1
      have H2:=H1.drop
      clear hkl H1
      go_wp2_with fail
      go_ret
      exact ⟨_,rfl,H2⟩
end Go.Proofs.YtbcngfgemjdllaaGreatDoor
end
