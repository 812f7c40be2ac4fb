/- Part 46: S9. -/
import Derived.Test.YtbcngfgemjdllaaGreatDoorB45
set_option linter.unusedVariables false
set_option linter.unusedSimpArgs false
namespace Go.Proofs.YtbcngfgemjdllaaGreatDoor
open Go.RowKit Go.Own
theorem BlAt.set {B:Nat} {w0 w:World} {r:List HP} {g gO m i:Nat} {f:Nat→Bool} {v:Value} {cs:List Value} (h:BlAt w g m f) (hne:g≠gO):BlAt (w.setCell ⟨gO,i,none⟩ v) g m f:=fun j hj=>by
  rw [World.cell?_setCell_other _ _ _ _ (by simp [Ne.symm hne])]
  exact h j hj
theorem St_eq {B:Nat} {w0 w:World} {r:List HP} {g:Nat} {L L':List Value} (h:St B w0 (pts g 4 L::r) w) (e:L=L'):St B w0 (pts g 4 L'::r) w:=e ▸ h
def orK (F E:Nat→Bool) (k:Nat):Nat→Bool:=fun j=>F j || (decide (j<k) && E j)
theorem orK_zero {F E:Nat→Bool} : orK F E 0=F:=by funext j; simp [orK]
theorem orK_at {F E:Nat→Bool} {k:Nat} : orK F E k k=F k:=by simp [orK]
theorem orK_succ {F E:Nat→Bool} {k:Nat} {b:Bool} (hb:b=(F k || E k)):fset (orK F E k) k b=orK F E (k+1):=by
  funext j
  unfold fset orK
  by_cases e:j=k
  · subst e; simp [hb]
  · rw [if_neg e]
    congr 2
    apply decide_eq_decide.2; omega
theorem orK_all {F E:Nat→Bool} {m:Nat} : bl m (orK F E m)=bl m (fun j=>F j || E j):=bl_congr fun i hi=>by simp [orK,hi]
def myK (E f:Nat→Bool) (k:Nat):Nat→Bool:=fun j=>decide (j<k) && (E j || f j)
theorem myK_zero {E f:Nat→Bool} : myK E f 0=fun _=>false:=by funext j; simp [myK]
theorem myK_succ {E f:Nat→Bool} {k:Nat} {b:Bool} (hb:b=(E k || f k)):fset (myK E f k) k b=myK E f (k+1):=by
  funext j
  unfold fset myK
  by_cases e:j=k
  · subst e; simp [hb]
  · rw [if_neg e]
    congr 1
    apply decide_eq_decide.2; omega
theorem myK_all {E f:Nat→Bool} {m:Nat} : bl m (myK E f m)=bl m (fun j=>E j || f j):=bl_congr fun i hi=>by simp [myK,hi]
theorem eAlt_take {t:List Nat} {ss:List Lx.Ex} {k:Nat} {s:Lx.Ex} (hk:ss[k]? = some s) (F:Nat→Bool) (j:Nat):Lx.eAlt t (ss.take (k+1)) F j=(Lx.eAlt t (ss.take k) F j || Lx.eB t s F j):=by
  induction ss generalizing k with
  | nil=>simp at hk
  | cons x ss ih =>
    cases k with
    | zero=>simp at hk; subst hk; simp [Lx.eAlt]
    | succ k=>simp at hk; simp only [List.take_succ_cons,Lx.eAlt]; rw [ih hk,Bool.or_assoc]
def altF (t:List Nat) (ss:List Lx.Ex) (f:Nat→Bool) (k:Nat):Nat→Bool:=fun j=>Lx.eAlt t (ss.take k) f j
theorem altF_zero {t:List Nat} {ss:List Lx.Ex} {f:Nat→Bool} : altF t ss f 0=fun _=>false:=by funext j; simp [altF,Lx.eAlt]
theorem altF_succ {t:List Nat} {ss:List Lx.Ex} {f:Nat→Bool} {k:Nat} {s:Lx.Ex} (hk:ss[k]? = some s):altF t ss f (k+1)=fun j=>altF t ss f k j || Lx.eB t s f j:=by funext j; unfold altF; rw [eAlt_take hk]
theorem altF_all {t:List Nat} {ss:List Lx.Ex} {f:Nat→Bool} : altF t ss f ss.length=fun j=>Lx.eAlt t ss f j:=by unfold altF; rw [List.take_length]
def OrRel (w:World) (b0 gO gr m:Nat) (vs:List Value) (F:Nat→Nat→Bool) (E:Nat→Bool) (i:Value) (wr:World):Prop :=
  ∃ k:Nat,k≤m∧i=.int .i64 k∧gr≠gO∧BlAt wr gr m E∧St w.heap.size w [pts gO 4 (bl m (F k)),pts b0 28 vs] wr
def AltRel (w:World) (b0 g0 m:Nat) (vs:List Value) (F:Nat→Nat→Bool) (n:Nat) (i:Value) (wr:World):Prop :=
  ∃ k:Nat,k≤n∧i=.int .i64 k∧St w.heap.size w [pts g0 4 (bl m (F k)),pts b0 28 vs] wr
theorem row_new {B:Nat} {w0 w w':World} {l:List HP} {gO g' m:Nat} {T:TypeId} {cs:List Value} {f:Nat→Bool} (H:St B w0 (pts gO T cs::l) w) (h:St w.heap.size w [pts g' 4 (bl m f)] w'):g'≠gO∧BlAt w' g' m f∧St B w0 (pts gO T cs::l) w':=by
  have H2:=H.over_base h
  exact ⟨H2.ne,BlAt.of H2,H2.drop⟩
set_option maxRecDepth 100000 in
set_option maxHeartbeats 2000000 in
theorem c31_choice {a b:Int} {c:Nat} {sa:Option Addr} {s:ByteArray} {m c' g:Nat} {f:Nat→Bool} {w:World} {subs:List Lx.Ex} (hl:subs.length≤4) (ih:∀ e ∈ subs,EndC e) (hS:ExS w subs sa 0) (hm:m=s.size+1) (hm2:m<1073741824) (hf:BlAt w g m f) :
    Calls Tryz.prog 31 #[exV 2 a b sa subs.length c,.string s,.slice (some ⟨g,0,none⟩) m c'] w fun e' w'=>∃ g',e'=.returned (.slice (some ⟨g',0,none⟩) m m)∧St w.heap.size w [pts g' 4 (bl m fun j=>Lx.eAlt (tx s) subs f j)] w':=by
  have H0:=((St.nil w).alloc (ob 28 [.int .i64 2,.int .i64 a,.int .i64 b,.slice sa subs.length c])).alloc (ob 4 (bl m fun _=>false))
  have hmk:=fun W=>run_make70 (m:=m) (by omega) W
  have hsz:(w.alloc (ob 28 [.int .i64 2,.int .i64 a,.int .i64 b,.slice sa subs.length c])).heap.size=w.heap.size+1:=Array.size_push _
  rw [hsz] at H0
  have HF:=Lib.hid hf
  unfold exV
  have HS:=Lib.hid hS
  have Hm:=Lib.hid hm
  have Hih:=Lib.hid ih
  clear hf hm hsz hS ih
  go_enter Tryz.func31,Tryz.ntmps31
  go_wp2_with fail
  go_loopw [125] (AltRel w w.heap.size (w.heap.size+1) m [.int .i64 2,.int .i64 a,.int .i64 b,.slice sa subs.length c] (altF (tx s) subs f) subs.length) (fun i _=>subs.length - (intOf i).toNat)
  case atStart=>exact ⟨0,Nat.zero_le _,rfl,by rw [altF_zero]; exact H0⟩
  case round =>
    clear H0
    obtain ⟨k,hk,rfl,H1⟩:=hrel
    by_cases hlt:k<subs.length
    · obtain ⟨g2,o,op',a',b',sa',n',cc',rfl,hat⟩:=HS.out.get0 (List.getElem?_eq_getElem hlt)
      have hat:=hat.mono H1.below
      have hk0:(0:Int)≤(k:Int):=Int.natCast_nonneg _
      have hk1:(k:Int)<(subs.length:Int):=by omega
      have e0:=hat.c0
      have e1:=hat.c1
      have e2:=hat.c2
      have e3:=hat.c3
      have hbl:=HF.out.mono H1.below
      have h31:=fun W (h:Below wr.heap.size wr W)=>Hih.out subs[k] (List.getElem_mem hlt) s m c' g f _ W Hm.out hm2 (hat.v.mono h) (hbl.mono h)
      have hw:=wrapS hlt (by omega)
      have Hw:=Lib.hid hw
      have Hg:=Lib.hid (altF_succ (t:=tx s) (f:=f) (List.getElem?_eq_getElem hlt))
      clear hw hbl hat
      go_wp2_with (first
        | (go_at_call 31; refine (h31 _ ((St.nil _).alloc _).below).mono ?_; rintro e w2 ⟨g',rfl,h2⟩
           obtain ⟨hn2,hb2,H2⟩:=row_new ((H1.alloc (ob 28 [.int .i64 op',.int .i64 a',.int .i64 b',.slice sa' n' cc'])).pick 1) h2
           have H3:=(H2.pick 1).drop
           have Hb2:=Lib.hid hb2
           clear h2 H2 hb2))
      go_loopw [134] (OrRel w w.heap.size (w.heap.size+1) g' m [.int .i64 2,.int .i64 a,.int .i64 b,.slice (some ⟨g2,o,none⟩) subs.length c] (orK (altF (tx s) subs f k) (Lx.eB (tx s) subs[k] f)) (Lx.eB (tx s) subs[k] f)) (fun i _=>m - (intOf i).toNat)
      case atStart=>exact ⟨0,Nat.zero_le _,rfl,hn2,Hb2.out,by rw [orK_zero]; exact H3⟩
      case round =>
        clear H3 Hb2 H1 h31 e0 e1 e2 e3
        obtain ⟨j,hj,rfl,hne,hbl,H4⟩:=hrel
        by_cases hjt:j<m
        · have hj0:(0:Int)≤(j:Int):=Int.natCast_nonneg _
          have hj1:(j:Int)<(m:Int):=by omega
          have hr:=hbl j hjt
          have ho:=H4.cells.1 j
          have hof:=H4.cells.2 j
          rw [bl_get hjt] at ho
          rw [orK_at] at ho
          have hwj:=wrapS hjt (by omega)
          have Hwj:=Lib.hid hwj
          have hst:=fun b=>H4.setCell (off:=j) (.bool b)
          have hbs:=fun b=>BlAt.set (B:=w.heap.size) (w0:=w) (r:=[]) (cs:=[]) (i:=j) (v:=.bool b) hbl hne
          have Hst:=Lib.hid hst
          have Hbs:=Lib.hid hbs
          clear hwj hst hbs H4 hbl
          cases ha:(altF (tx s) subs f k) j <;> cases hb:Lx.eB (tx s) subs[k] f j
          all_goals
            rw [ha] at ho
            rw [hb] at hr
            have Ha:=Lib.hid ha
            have Hb:=Lib.hid hb
            clear ha hb
            go_wp2_with fail
            first | rw [Hwj.out] | rw [show ((j:Int)+1)=((j+1:Nat):Int) from by omega]
            refine ⟨⟨j+1,hjt,rfl,hne,Hbs.out _,?_⟩,measS hjt⟩
            refine St_eq (Hst.out _) ?_
            rw [bl_set,orK_succ (by rw [Ha.out,Hb.out]; rfl)]
        · have hj1 : ¬ (j:Int)<(m:Int):=by omega
          have hjl:j=m:=by omega
          rw [hjl,orK_all] at H4
          have HB:=Lib.hid hbl
          clear hjl hbl
          go_wp2_with fail
          first | rw [Hw.out] | rw [show ((k:Int)+1)=((k+1:Nat):Int) from by omega]
          exact ⟨⟨k+1,hlt,rfl,by rw [Hg.out]; exact H4⟩,measS hlt⟩
    · have hk1 : ¬ (k:Int)<(subs.length:Int):=by omega
      have hkl:k=subs.length:=by omega
      rw [hkl,altF_all] at H1
      have H2:=(H1.pick 1).drop
      clear hkl H1
      go_wp2_with fail
      go_ret
      exact ⟨_,rfl,H2⟩
set_option maxRecDepth 100000 in
set_option maxHeartbeats 2000000 in
theorem c31_may {a b:Int} {c:Nat} {sa:Option Addr} {s:ByteArray} {m c' g:Nat} {f:Nat→Bool} {w:World} {e:Lx.Ex} (ih:EndC e) (hS:ExS w [e] sa 0) (hm:m=s.size+1) (hm2:m<1073741824) (hf:BlAt w g m f) :
    Calls Tryz.prog 31 #[exV 5 a b sa 1 c,.string s,.slice (some ⟨g,0,none⟩) m c'] w fun e' w'=>∃ g',e'=.returned (.slice (some ⟨g',0,none⟩) m m)∧St w.heap.size w [pts g' 4 (bl m fun j=>Lx.eB (tx s) e f j || f j)] w':=by
  obtain ⟨g2,o,op',a',b',sa',n',cc',rfl,hat⟩:=hS.get0 (k:=0) rfl
  rw [Nat.zero_mul,Nat.add_zero] at hat
  have hgl:g2<w.heap.size:=World.block_lt_of_cell? _ _ hat.c0
  have H0:=((St.nil w).alloc (ob 28 [.int .i64 5,.int .i64 a,.int .i64 b,.slice (some ⟨g2,o,none⟩) 1 c])).alloc (ob 4 (bl m fun _=>false))
  have hmk:=fun W=>run_make70 (m:=m) (by omega) W
  have hsz:(w.alloc (ob 28 [.int .i64 5,.int .i64 a,.int .i64 b,.slice (some ⟨g2,o,none⟩) 1 c])).heap.size=w.heap.size+1:=Array.size_push _
  rw [hsz] at H0
  have HF:=Lib.hid hf
  have e0:=hat.c0
  have e1:=hat.c1
  have e2:=hat.c2
  have e3:=hat.c3
  have hne1 : ¬ g2=w.heap.size:=by omega
  have hne2 : ¬ g2=w.heap.size+1:=by omega
  have h31:=fun W (h:Below w.heap.size w W)=>ih s m c' g f _ W hm hm2 (hat.v.mono h) (hf.mono h)
  unfold exV
  have H00:=Lib.hid H0
  clear hf hm hsz hS ih hat H0
  go_enter Tryz.func31,Tryz.ntmps31
  go_wp2_with (first
    | (go_at_call 31; refine (h31 _ H00.out.below).mono ?_; rintro e w2 ⟨g',rfl,h2⟩
       obtain ⟨hn2,hb2,H3⟩:=row_new H00.out h2
       have Hb2:=Lib.hid hb2
       clear h2 hb2))
  go_loopw [161] (OrRel w w.heap.size (w.heap.size+1) g' m [.int .i64 5,.int .i64 a,.int .i64 b,.slice (some ⟨g2,o,none⟩) 1 c] (myK (Lx.eB (tx s) e f) f) (Lx.eB (tx s) e f)) (fun i _=>m - (intOf i).toNat)
  case atStart=>exact ⟨0,Nat.zero_le _,rfl,hn2,Hb2.out,by rw [myK_zero]; exact H3⟩
  case round =>
    clear H3 Hb2 h31 e0 e1 e2 e3
    obtain ⟨j,hj,rfl,hne,hbl,H4⟩:=hrel
    by_cases hjt:j<m
    · have hj0:(0:Int)≤(j:Int):=Int.natCast_nonneg _
      have hj1:(j:Int)<(m:Int):=by omega
      have hr:=hbl j hjt
      have ho:=H4.cells.1 j
      have hof:=H4.cells.2 j
      rw [bl_get hjt] at ho
      have hfj:=(HF.out.mono H4.below) j hjt
      have hwj:=wrapS hjt (by omega)
      have Hwj:=Lib.hid hwj
      have hst:=fun b=>H4.setCell (off:=j) (.bool b)
      have hbs:=fun b=>BlAt.set (B:=w.heap.size) (w0:=w) (r:=[]) (cs:=[]) (i:=j) (v:=.bool b) hbl hne
      have Hst:=Lib.hid hst
      have Hbs:=Lib.hid hbs
      clear hwj hst hbs H4 hbl
      cases ha:(Lx.eB (tx s) e f) j <;> cases hb:f j
      all_goals
        rw [ha] at hr
        rw [hb] at hfj
        have Ha:=Lib.hid ha
        have Hb:=Lib.hid hb
        clear ha hb
        go_wp2_with fail
        first | rw [Hwj.out] | rw [show ((j:Int)+1)=((j+1:Nat):Int) from by omega]
        refine ⟨⟨j+1,hjt,rfl,hne,Hbs.out _,?_⟩,measS hjt⟩
        refine St_eq (Hst.out _) ?_
        rw [bl_set,myK_succ (by rw [Ha.out,Hb.out]; rfl)]
    · have hj1 : ¬ (j:Int)<(m:Int):=by omega
      have hjl:j=m:=by omega
      rw [hjl,myK_all] at H4
      have HB:=Lib.hid hbl
      clear hjl hbl
      go_wp2_with fail
      go_ret
      exact ⟨_,rfl,(H4.pick 1).drop⟩
def gE (t:List Nat) (e:Lx.Ex):(Nat→Bool)→Nat→Bool:=fun G=>Lx.eAlt t [e] G
theorem gE_eq {t:List Nat} {e:Lx.Ex} (G:Nat→Bool):gE t e G=Lx.eB t e G:=by funext j; simp [gE,Lx.eAlt]
def stF (t:List Nat) (e:Lx.Ex) (f0 f:Nat→Bool) (k:Nat):Nat→Bool:=fun j=>f0 j || Lx.itOr (gE t e) k f j
theorem stF_zero {t:List Nat} {e:Lx.Ex} {f0 f:Nat→Bool} : stF t e f0 f 0=f0:=by funext j; simp [stF,Lx.itOr]
theorem stF_succ {t:List Nat} {e:Lx.Ex} {f0 f:Nat→Bool} {k:Nat} : stF t e f0 f (k+1)=fun j=>stF t e f0 f k j || Lx.eB t e (Lx.itN (gE t e) k f) j:=by
  funext j
  simp only [stF,Lx.itOr,Lx.itN,gE_eq,Bool.or_assoc]
theorem itN_succ {t:List Nat} {e:Lx.Ex} {f:Nat→Bool} {k:Nat} : Lx.itN (gE t e) (k+1) f=Lx.eB t e (Lx.itN (gE t e) k f):=by funext j; simp only [Lx.itN,gE_eq]
def StRel (w:World) (b0 gO m:Nat) (vs:List Value) (t:List Nat) (e:Lx.Ex) (f0 f:Nat→Bool) (v i:Value) (wr:World):Prop :=
  ∃ k gn cn:Nat,k≤m∧i=.int .i64 k∧v=.slice (some ⟨gn,0,none⟩) m cn∧gn≠gO∧BlAt wr gn m (Lx.itN (gE t e) k f)∧St w.heap.size w [pts gO 4 (bl m (stF t e f0 f k)),pts b0 28 vs] wr
set_option maxRecDepth 100000 in
set_option maxHeartbeats 2000000 in
theorem c31_star {a b:Int} {c:Nat} {sa:Option Addr} {s:ByteArray} {m c' g:Nat} {f:Nat→Bool} {w:World} {e:Lx.Ex} (ih:EndC e) (hS:ExS w [e] sa 0) (hm:m=s.size+1) (hm2:m<1073741824) (hf:BlAt w g m f) :
    Calls Tryz.prog 31 #[exV 3 a b sa 1 c,.string s,.slice (some ⟨g,0,none⟩) m c'] w fun e' w'=>∃ g',e'=.returned (.slice (some ⟨g',0,none⟩) m m)∧St w.heap.size w [pts g' 4 (bl m (stF (tx s) e (f) f m))] w':=by
  obtain ⟨g2,o,op',a',b',sa',n',cc',rfl,hat⟩:=hS.get0 (k:=0) rfl
  rw [Nat.zero_mul,Nat.add_zero] at hat
  have hgl:g2<w.heap.size:=World.block_lt_of_cell? _ _ hat.c0
  have H0:=((St.nil w).alloc (ob 28 [.int .i64 3,.int .i64 a,.int .i64 b,.slice (some ⟨g2,o,none⟩) 1 c])).alloc (ob 4 (bl m fun _=>false))
  have hmk:=fun W=>run_make70 (m:=m) (by omega) W
  have hsz:(w.alloc (ob 28 [.int .i64 3,.int .i64 a,.int .i64 b,.slice (some ⟨g2,o,none⟩) 1 c])).heap.size=w.heap.size+1:=Array.size_push _
  rw [hsz] at H0
  have HF:=Lib.hid hf
  have hgf:0<m→g≠w.heap.size+1:=fun h0=>by
    have:g<w.heap.size:=World.block_lt_of_cell? _ _ (hf 0 h0)
    omega
  have hm0:0<m:=by omega
  have hat0:=Lib.hid hat
  have Hm:=Lib.hid hm
  have Hih:=Lib.hid ih
  have hf0:=hf.mono H0.below
  have HF0:=Lib.hid hf0
  unfold exV
  have H00:=Lib.hid H0
  clear hf hm hsz hS ih hat H0 hf0
  go_enter Tryz.func31,Tryz.ntmps31
  go_wp2_with (first
    | (refine wpList_copy_st rfl _ _ 70 rfl 4 und70 inf4 H00.out rfl rfl (bl_len m f) (bl_len _ _) ?_ bl_one ?_
       (· intro j v hj
          have hj2:j<m:=by have:=(List.getElem?_eq_some_iff.1 hj).1; rwa [bl_len] at this
          rw [bl_get hj2] at hj
          rw [← hj]
          exact HF0.out j hj2)
       intro w1 H1))
  go_loopw [18,36] (StRel w w.heap.size (w.heap.size+1) m [.int .i64 3,.int .i64 a,.int .i64 b,.slice (some ⟨g2,o,none⟩) 1 c] (tx s) e (f) f) (fun _ i _=>m - (intOf i).toNat)
  case atStart=>exact ⟨0,g,c',Nat.zero_le _,rfl,rfl,hgf hm0,HF.out.mono (H1).below,by rw [stF_zero]; exact H1⟩
  case round =>
    clear H1
    obtain ⟨k,gn,cn,hk,rfl,rfl,hgn,hbn,H1⟩:=hrel
    have hsz1:((k:Int)<wrap64 ((s.size:Int)+1)) ↔ k<m:=by
      have:=Hm.out
      rw [IntWalk.wrap64_in _ (by omega)]; omega
    by_cases hlt:k<m
    · have hat:=hat0.out.mono H1.below
      have hk0:(0:Int)≤(k:Int):=Int.natCast_nonneg _
      have hk1:=hsz1.2 hlt
      have hk2:(k:Int)<(s.size:Int)+1:=by have:=Hm.out; omega
      have hb3:=(H1.pick 1).cells.1 3
      have e0:=hat.c0
      have e1:=hat.c1
      have e2:=hat.c2
      have e3:=hat.c3
      have h31:=Hih.out s m cn gn _ _ wr Hm.out hm2 hat.v hbn
      have hw:=wrapS hlt (by omega)
      have Hw:=Lib.hid hw
      have Hn:=Lib.hid (itN_succ (t:=tx s) (e:=e) (f:=f) (k:=k))
      have Hg:=Lib.hid (stF_succ (t:=tx s) (e:=e) (f0:=f) (f:=f) (k:=k))
      clear hw hbn hat hsz1
      go_wp2_with (first
        | (go_at_call 31; refine h31.mono ?_; rintro e w2 ⟨g',rfl,h2⟩
           obtain ⟨hn2,hb2,H3⟩:=row_new H1 h2
           have Hb2:=Lib.hid hb2
           clear h2 hb2))
      go_loopw [47] (OrRel w w.heap.size (w.heap.size+1) g' m [.int .i64 3,.int .i64 a,.int .i64 b,.slice (some ⟨g2,o,none⟩) 1 c] (orK (stF (tx s) e (f) f k) (Lx.eB (tx s) e (Lx.itN (gE (tx s) e) k f))) (Lx.eB (tx s) e (Lx.itN (gE (tx s) e) k f))) (fun i _=>m - (intOf i).toNat)
      case atStart=>exact ⟨0,Nat.zero_le _,rfl,hn2,Hb2.out,by rw [orK_zero]; exact H3⟩
      case round =>
        clear H3 Hb2 H1 h31 e0 e1 e2 e3
        obtain ⟨j,hj,rfl,hne,hbl,H4⟩:=hrel
        by_cases hjt:j<m
        · have hj0:(0:Int)≤(j:Int):=Int.natCast_nonneg _
          have hj1:(j:Int)<(m:Int):=by omega
          have hr:=hbl j hjt
          have ho:=H4.cells.1 j
          have hof:=H4.cells.2 j
          rw [bl_get hjt] at ho
          rw [orK_at] at ho
          have hwj:=wrapS hjt (by omega)
          have Hwj:=Lib.hid hwj
          have hst:=fun b=>H4.setCell (off:=j) (.bool b)
          have hbs:=fun b=>BlAt.set (B:=w.heap.size) (w0:=w) (r:=[]) (cs:=[]) (i:=j) (v:=.bool b) hbl hne
          have Hst:=Lib.hid hst
          have Hbs:=Lib.hid hbs
          clear hwj hst hbs H4 hbl
          cases ha:(stF (tx s) e (f) f k) j <;> cases hb:(Lx.eB (tx s) e (Lx.itN (gE (tx s) e) k f)) j
          all_goals
            rw [ha] at ho
            rw [hb] at hr
            have Ha:=Lib.hid ha
            have Hb:=Lib.hid hb
            clear ha hb
            go_wp2_with fail
            first | rw [Hwj.out] | rw [show ((j:Int)+1)=((j+1:Nat):Int) from by omega]
            refine ⟨⟨j+1,hjt,rfl,hne,Hbs.out _,?_⟩,measS hjt⟩
            refine St_eq (Hst.out _) ?_
            rw [bl_set,orK_succ (by rw [Ha.out,Hb.out]; rfl)]
        · have hj1 : ¬ (j:Int)<(m:Int):=by omega
          have hjl:j=m:=by omega
          rw [hjl,orK_all] at H4
          have HB:=Lib.hid hbl
          clear hjl hbl
          go_wp2_with fail
          first | rw [Hw.out] | rw [show ((k:Int)+1)=((k+1:Nat):Int) from by omega]
          exact ⟨⟨k+1,g',m,hlt,rfl,rfl,hne,by rw [Hn.out]; exact HB.out,by rw [Hg.out]; exact H4⟩,measS hlt⟩
    · have hk1 : ¬ (k:Int)<wrap64 ((s.size:Int)+1):=fun h=>hlt (hsz1.1 h)
      have hk2 : ¬ (k:Int)<(s.size:Int)+1:=by have:=Hm.out; omega
      have hkl:k=m:=by omega
      rw [hkl] at H1
      have H2:=(H1.pick 1).drop
      clear hkl H1
      go_wp2_with fail
      go_ret
      exact ⟨_,rfl,H2⟩
set_option maxRecDepth 100000 in
set_option maxHeartbeats 2000000 in
theorem c31_plus {a b:Int} {c:Nat} {sa:Option Addr} {s:ByteArray} {m c' g:Nat} {f:Nat→Bool} {w:World} {e:Lx.Ex} (ih:EndC e) (hS:ExS w [e] sa 0) (hm:m=s.size+1) (hm2:m<1073741824) (hf:BlAt w g m f) :
    Calls Tryz.prog 31 #[exV 4 a b sa 1 c,.string s,.slice (some ⟨g,0,none⟩) m c'] w fun e' w'=>∃ g',e'=.returned (.slice (some ⟨g',0,none⟩) m m)∧St w.heap.size w [pts g' 4 (bl m (stF (tx s) e (fun _=>false) f m))] w':=by
  obtain ⟨g2,o,op',a',b',sa',n',cc',rfl,hat⟩:=hS.get0 (k:=0) rfl
  rw [Nat.zero_mul,Nat.add_zero] at hat
  have hgl:g2<w.heap.size:=World.block_lt_of_cell? _ _ hat.c0
  have H0:=((St.nil w).alloc (ob 28 [.int .i64 4,.int .i64 a,.int .i64 b,.slice (some ⟨g2,o,none⟩) 1 c])).alloc (ob 4 (bl m fun _=>false))
  have hmk:=fun W=>run_make70 (m:=m) (by omega) W
  have hsz:(w.alloc (ob 28 [.int .i64 4,.int .i64 a,.int .i64 b,.slice (some ⟨g2,o,none⟩) 1 c])).heap.size=w.heap.size+1:=Array.size_push _
  rw [hsz] at H0
  have HF:=Lib.hid hf
  have hgf:0<m→g≠w.heap.size+1:=fun h0=>by
    have:g<w.heap.size:=World.block_lt_of_cell? _ _ (hf 0 h0)
    omega
  have hm0:0<m:=by omega
  have hat0:=Lib.hid hat
  have Hm:=Lib.hid hm
  have Hih:=Lib.hid ih
  have hf0:=hf.mono H0.below
  have HF0:=Lib.hid hf0
  unfold exV
  have H00:=Lib.hid H0
  clear hf hm hsz hS ih hat H0 hf0
  go_enter Tryz.func31,Tryz.ntmps31
  go_wp2_with fail
  go_loopw [18,36] (StRel w w.heap.size (w.heap.size+1) m [.int .i64 4,.int .i64 a,.int .i64 b,.slice (some ⟨g2,o,none⟩) 1 c] (tx s) e (fun _=>false) f) (fun _ i _=>m - (intOf i).toNat)
  case atStart=>exact ⟨0,g,c',Nat.zero_le _,rfl,rfl,hgf hm0,HF.out.mono (H00.out).below,by rw [stF_zero]; exact H00.out⟩
  case round =>
    skip
    obtain ⟨k,gn,cn,hk,rfl,rfl,hgn,hbn,H1⟩:=hrel
    have hsz1:((k:Int)<wrap64 ((s.size:Int)+1)) ↔ k<m:=by
      have:=Hm.out
      rw [IntWalk.wrap64_in _ (by omega)]; omega
    by_cases hlt:k<m
    · have hat:=hat0.out.mono H1.below
      have hk0:(0:Int)≤(k:Int):=Int.natCast_nonneg _
      have hk1:=hsz1.2 hlt
      have hk2:(k:Int)<(s.size:Int)+1:=by have:=Hm.out; omega
      have hb3:=(H1.pick 1).cells.1 3
      have e0:=hat.c0
      have e1:=hat.c1
      have e2:=hat.c2
      have e3:=hat.c3
      have h31:=Hih.out s m cn gn _ _ wr Hm.out hm2 hat.v hbn
      have hw:=wrapS hlt (by omega)
      have Hw:=Lib.hid hw
      have Hn:=Lib.hid (itN_succ (t:=tx s) (e:=e) (f:=f) (k:=k))
      have Hg:=Lib.hid (stF_succ (t:=tx s) (e:=e) (f0:=fun _=>false) (f:=f) (k:=k))
      clear hw hbn hat hsz1
      go_wp2_with (first
        | (go_at_call 31; refine h31.mono ?_; rintro e w2 ⟨g',rfl,h2⟩
           obtain ⟨hn2,hb2,H3⟩:=row_new H1 h2
           have Hb2:=Lib.hid hb2
           clear h2 hb2))
      go_loopw [47] (OrRel w w.heap.size (w.heap.size+1) g' m [.int .i64 4,.int .i64 a,.int .i64 b,.slice (some ⟨g2,o,none⟩) 1 c] (orK (stF (tx s) e (fun _=>false) f k) (Lx.eB (tx s) e (Lx.itN (gE (tx s) e) k f))) (Lx.eB (tx s) e (Lx.itN (gE (tx s) e) k f))) (fun i _=>m - (intOf i).toNat)
      case atStart=>exact ⟨0,Nat.zero_le _,rfl,hn2,Hb2.out,by rw [orK_zero]; exact H3⟩
      case round =>
        clear H3 Hb2 H1 h31 e0 e1 e2 e3
        obtain ⟨j,hj,rfl,hne,hbl,H4⟩:=hrel
        by_cases hjt:j<m
        · have hj0:(0:Int)≤(j:Int):=Int.natCast_nonneg _
          have hj1:(j:Int)<(m:Int):=by omega
          have hr:=hbl j hjt
          have ho:=H4.cells.1 j
          have hof:=H4.cells.2 j
          rw [bl_get hjt] at ho
          rw [orK_at] at ho
          have hwj:=wrapS hjt (by omega)
          have Hwj:=Lib.hid hwj
          have hst:=fun b=>H4.setCell (off:=j) (.bool b)
          have hbs:=fun b=>BlAt.set (B:=w.heap.size) (w0:=w) (r:=[]) (cs:=[]) (i:=j) (v:=.bool b) hbl hne
          have Hst:=Lib.hid hst
          have Hbs:=Lib.hid hbs
          clear hwj hst hbs H4 hbl
          cases ha:(stF (tx s) e (fun _=>false) f k) j <;> cases hb:(Lx.eB (tx s) e (Lx.itN (gE (tx s) e) k f)) j
          all_goals
            rw [ha] at ho
            rw [hb] at hr
            have Ha:=Lib.hid ha
            have Hb:=Lib.hid hb
            clear ha hb
            go_wp2_with fail
            first | rw [Hwj.out] | rw [show ((j:Int)+1)=((j+1:Nat):Int) from by omega]
            refine ⟨⟨j+1,hjt,rfl,hne,Hbs.out _,?_⟩,measS hjt⟩
            refine St_eq (Hst.out _) ?_
            rw [bl_set,orK_succ (by rw [Ha.out,Hb.out]; rfl)]
        · have hj1 : ¬ (j:Int)<(m:Int):=by omega
          have hjl:j=m:=by omega
          rw [hjl,orK_all] at H4
          have HB:=Lib.hid hbl
          clear hjl hbl
          go_wp2_with fail
          first | rw [Hw.out] | rw [show ((k:Int)+1)=((k+1:Nat):Int) from by omega]
          exact ⟨⟨k+1,g',m,hlt,rfl,rfl,hne,by rw [Hn.out]; exact HB.out,by rw [Hg.out]; exact H4⟩,measS hlt⟩
    · have hk1 : ¬ (k:Int)<wrap64 ((s.size:Int)+1):=fun h=>hlt (hsz1.1 h)
      have hk2 : ¬ (k:Int)<(s.size:Int)+1:=by have:=Hm.out; omega
      have hkl:k=m:=by omega
      rw [hkl] at H1
      have H2:=(H1.pick 1).drop
      clear hkl H1
      go_wp2_with fail
      go_ret
      exact ⟨_,rfl,H2⟩
theorem c31:∀ (e:Lx.Ex) (d:Nat),Lx.good d e=true→EndC e:=by
  intro e
  induction e using Lx.Ex.ind with
  | h op a b subs ih =>
    intro d hg s m c g f v w hm hm2 hv hf
    obtain ⟨d,rfl,hl,hs,hk⟩:=good_sub hg
    obtain ⟨sa,c0,rfl,hS⟩:=hv
    have ih':∀ e ∈ subs,EndC e:=fun e he=>ih e he d (hs e he)
    by_cases h0:op=0
    · subst h0; exact c31_chars hm hm2 hf
    by_cases h1:op=1
    · subst h1
      rw [show bl m (Lx.eB (tx s) (.mk 1 a b subs) f)=bl m (Lx.eRow (tx s) subs f) from bl_congr fun i _=>by simp [Lx.eB]]
      exact c31_row hl ih' hS hm hm2 hf
    by_cases h2:op=2
    · subst h2
      rw [show bl m (Lx.eB (tx s) (.mk 2 a b subs) f)=bl m (fun j=>Lx.eAlt (tx s) subs f j) from bl_congr fun i _=>by simp [Lx.eB]]
      exact c31_choice hl ih' hS hm hm2 hf
    have h3:(op=3∨op=4∨op=5)∧subs.length=1:=by
      simp only [Lx.kindOk,h0,h1,h2,if_false,Bool.and_eq_true,decide_eq_true_eq,beq_iff_eq] at hk
      exact ⟨by omega,hk.2⟩
    obtain ⟨h3,h4⟩:=h3
    obtain ⟨e,rfl⟩:=Lx.len_one h4
    have ht:(tx s).length+1=m:=by rw [tx_len,hm]
    rcases h3 with rfl | rfl | rfl
    · rw [show bl m (Lx.eB (tx s) (.mk 3 a b [e]) f)=bl m (stF (tx s) e f f m) from bl_congr fun i _=>by simp only [Lx.eB,stF,ht]; rfl]
      exact c31_star (ih' e (by simp)) hS hm hm2 hf
    · rw [show bl m (Lx.eB (tx s) (.mk 4 a b [e]) f)=bl m (stF (tx s) e (fun _=>false) f m) from bl_congr fun i _=>by simp only [Lx.eB,stF,ht]; rfl]
      exact c31_plus (ih' e (by simp)) hS hm hm2 hf
    · rw [show bl m (Lx.eB (tx s) (.mk 5 a b [e]) f)=bl m (fun j=>Lx.eB (tx s) e f j || f j) from bl_congr fun i _=>by simp [Lx.eB,Lx.eAlt]]
      exact c31_may (ih' e (by simp)) hS hm hm2 hf
end Go.Proofs.YtbcngfgemjdllaaGreatDoor
