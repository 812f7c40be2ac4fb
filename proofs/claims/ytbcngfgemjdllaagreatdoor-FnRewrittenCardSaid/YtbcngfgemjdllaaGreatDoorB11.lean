/- Part 11: Pl12. -/
import Derived.Test.YtbcngfgemjdllaaGreatDoorB10
set_option linter.unusedVariables false
set_option linter.unusedSimpArgs false
namespace Lx
mutual
def Fd:Ex→Nat
  | .mk op _ _ ss=>if op=0 then 1 else if op=1 then Fr ss else if op=2 then Fc ss else if op=4 then Fc ss else Fc ss+1
def Fr:List Ex→Nat
  | []=>1
  | s::ss=>Fd s * Fr ss
def Fc:List Ex→Nat
  | []=>0
  | s::ss=>Fd s+Fc ss
end
mutual
def Gd:Ex→Nat
  | .mk op _ _ ss=>if op=0 then 1 else if op=1 then Gr ss else if op=2 then Gc ss else if op=5 then Gc ss else 2 * (Gc ss * (Fc ss+1))
def Gr:List Ex→Nat
  | []=>0
  | s::ss=>Gd s * Fr ss+Gr ss
def Gc:List Ex→Nat
  | []=>0
  | s::ss=>Gd s+Gc ss
end
theorem fAlt_append (l m:List Ex) (k:Nat):fAlt (l++m) k=fAlt l k+fAlt m k:=by
  induction l with
  | nil=>simp [fAlt]
  | cons s l ih=>simp only [List.cons_append,fAlt,ih,Nat.add_assoc]
theorem gAlt_append (l m:List Ex) (k:Nat):gAlt (l++m) k=gAlt l k+gAlt m k:=by
  induction l with
  | nil=>simp [gAlt]
  | cons s l ih=>simp only [List.cons_append,gAlt,ih,Nat.add_assoc]
theorem fAlt_rev (l:List Ex) (k:Nat):fAlt l.reverse k=fAlt l k:=by
  induction l with
  | nil=>rfl
  | cons s l ih=>rw [List.reverse_cons,fAlt_append,ih]; simp only [fAlt]; omega
theorem gAlt_rev (l:List Ex) (k:Nat):gAlt l.reverse k=gAlt l k:=by
  induction l with
  | nil=>rfl
  | cons s l ih=>rw [List.reverse_cons,gAlt_append,ih]; simp only [gAlt]; omega
structure Bnd (e e':Ex):Prop where
  f1:1≤Fd e
  ff:∀ k,fE e' k=fE e k
  f:∀ k m,1≤m→k≤m→fE e k≤Fd e * m
  g:∀ k m,1≤m→k≤m→gE e k≤Gd e * m
  g':∀ k m,1≤m→k≤m→gE e' k≤Gd e * m
theorem bnd_row:∀ (ss:List Ex),(∀ s ∈ ss,Bnd s (rew s))→1≤Fr ss∧∀ k m,1≤m→k≤m→fRow (rews ss) k=fRow ss k∧fRow ss k≤Fr ss * m∧gRow ss k≤Gr ss * m∧gRow (rews ss) k≤Gr ss * m
  | [],_=>⟨Nat.le_refl _,fun k m h1 h2=>by simp [rews,fRow,Fr,gRow]; exact h2⟩
  | s::ss,h=>by
    have hs:=h s (by simp)
    obtain ⟨a1,a2⟩:=bnd_row ss fun t ht=>h t (by simp [ht])
    refine ⟨Nat.le_trans (Nat.le_of_eq (Nat.mul_one 1).symm) (Nat.mul_le_mul hs.f1 a1),fun k m h1 h2 => ?_⟩
    obtain ⟨b1,b2,b3,b4⟩:=a2 k m h1 h2
    have hm:1≤Fr ss * m:=Nat.le_trans (Nat.le_of_eq (Nat.mul_one 1).symm) (Nat.mul_le_mul a1 h1)
    simp only [rews,fRow,gRow,Fr,Gr,b1]
    refine ⟨hs.ff _,?_,?_,?_⟩
    · rw [Nat.mul_assoc]; exact hs.f _ _ hm b2
    · rw [Nat.add_mul,Nat.mul_assoc]; exact Nat.add_le_add (hs.g _ _ hm b2) b3
    · rw [Nat.add_mul,Nat.mul_assoc]; exact Nat.add_le_add (hs.g' _ _ hm b2) b4
theorem bnd_alt:∀ (ss:List Ex),(∀ s ∈ ss,Bnd s (rew s))→(0<ss.length→1≤Fc ss)∧∀ k,fAlt (rews ss) k=fAlt ss k∧∀ m,1≤m→k≤m→fAlt ss k≤Fc ss * m∧gAlt ss k≤Gc ss * m∧gAlt (rews ss) k≤Gc ss * m
  | [],_=>⟨fun h=>by simp at h,fun k=>⟨rfl,fun m _ _=>by simp [rews,fAlt,gAlt]⟩⟩
  | s :: ss, h => by
    have hs:=h s (by simp)
    obtain ⟨a1,a2⟩:=bnd_alt ss fun t ht=>h t (by simp [ht])
    refine ⟨fun _=>by have:=hs.f1; simp only [Fc]; omega,fun k=>⟨?_,fun m h1 h2 => ?_⟩⟩
    · simp only [rews,fAlt,(a2 k).1,hs.ff]
    · obtain ⟨b1,b2,b3⟩:=(a2 k).2 m h1 h2
      simp only [rews,fAlt,gAlt,Fc,Gc,Nat.add_mul]
      exact ⟨Nat.add_le_add (hs.f _ _ h1 h2) b1,Nat.add_le_add (hs.g _ _ h1 h2) b2,Nat.add_le_add (hs.g' _ _ h1 h2) b3⟩
theorem len_one {ss:List Ex} (h:ss.length=1):∃ s,ss=[s]:=by
  match ss,h with
  | [s],_=>exact ⟨s,rfl⟩
theorem bnd_all:∀ (e:Ex) (d:Nat),good d e=true→loops e=false→Bnd e (rew e):=by
  intro e
  induction e using Ex.ind with
  | h op a b ss ih =>
    intro d hd hlo
    obtain ⟨d,rfl⟩:∃ d',d=d'+1:=by cases d with | zero=>simp [good] at hd | succ d=>exact ⟨d,rfl⟩
    simp only [good,Bool.and_eq_true,List.all_eq_true] at hd
    have hk:=hd.2.2
    simp only [loops] at hlo
    have hls:=loops_mem hlo
    have ih':∀ s ∈ ss,Bnd s (rew s):=fun s hs=>ih s hs d (hd.2.1 s hs) (hls s hs).1
    clear ih
    have hrow:=bnd_row ss ih'
    have halt:=bnd_alt ss ih'
    by_cases h0:op=0
    · subst h0
      have er:rew (.mk 0 a b ss)=.mk 0 a b (rews ss):=by simp [rew]
      rw [er]
      constructor
      · simp [Fd]
      · intro k; simp [fE]
      · intro k m h1 h2; simp [fE,Fd]; exact h1
      · intro k m h1 h2; simp [gE,Gd]; exact h2
      · intro k m h1 h2; simp [gE,Gd]; exact h2
    by_cases h1:op=1
    · subst h1
      have er:rew (.mk 1 a b ss)=.mk 1 a b (rews ss):=by simp [rew]
      rw [er]
      constructor
      · simp [Fd]; exact hrow.1
      · intro k; simp [fE]; exact (hrow.2 k (max 1 k) (Nat.le_max_left _ _) (Nat.le_max_right _ _)).1
      · intro k m h1 h2; simp [fE,Fd]; exact (hrow.2 k m h1 h2).2.1
      · intro k m h1 h2; simp [gE,Gd]; exact (hrow.2 k m h1 h2).2.2.1
      · intro k m h1 h2; simp [gE,Gd]; exact (hrow.2 k m h1 h2).2.2.2
    by_cases h2:op=2
    · subst h2
      have hn:0<ss.length:=by simp [kindOk] at hk; exact hk
      have er:rew (.mk 2 a b ss)=.mk 2 a b (rews ss).reverse:=by simp [rew]
      rw [er]
      constructor
      · simp [Fd]; exact halt.1 hn
      · intro k; simp [fE,fAlt_rev]; exact (halt.2 k).1
      · intro k m h1 h2; simp [fE,Fd]; exact ((halt.2 k).2 m h1 h2).1
      · intro k m h1 h2; simp [gE,Gd]; exact ((halt.2 k).2 m h1 h2).2.1
      · intro k m h1 h2; simp [gE,Gd,gAlt_rev]; exact ((halt.2 k).2 m h1 h2).2.2
    have hone:ss.length=1:=by
      simp only [kindOk,if_neg h0,if_neg h1,if_neg h2,Bool.and_eq_true,decide_eq_true_eq,beq_iff_eq] at hk
      omega
    obtain ⟨s,rfl⟩:=len_one hone
    have hs:=ih' s (by simp)
    have hz:∀ k m,1≤m→k≤m→fE s 0+k≤(Fd s+1) * m:=fun k m h1 h2=>by
      rw [Nat.succ_mul]
      exact Nat.add_le_add (hs.f 0 m h1 (Nat.zero_le _)) h2
    have hz1:∀ m,1≤m→1≤(Fd s+1) * m:=fun m h1=>Nat.le_trans (Nat.le_of_eq (Nat.mul_one 1).symm) (Nat.mul_le_mul (Nat.succ_le_succ (Nat.zero_le _)) h1)
    by_cases h5:op=5
    · subst h5
      have er:rew (.mk 5 a b [s])=.mk 2 0 0 [.mk 1 0 0 [],rew s]:=by simp [rew,rews]
      rw [er]
      constructor
      · simp [Fd]
      · intro k; simp [fE,fAlt,fRow,hs.ff]; omega
      · intro k m h1 h2; simp [fE,Fd,fAlt,Fc]; rw [Nat.succ_mul]; exact Nat.add_le_add (hs.f _ _ h1 h2) h2
      · intro k m h1 h2; simp [gE,Gd,gAlt,Gc]; exact hs.g _ _ h1 h2
      · intro k m h1 h2; simp [gE,Gd,gAlt,gRow,Gc]; exact hs.g' _ _ h1 h2
    by_cases h3:op=3
    · subst h3
      have er:rew (.mk 3 a b [s])=.mk 3 a b [rew s]:=by simp [rew,rews]
      rw [er]
      constructor
      · simp [Fd]
      · intro k; simp [fE,fAlt,hs.ff]
      · intro k m h1 h2; simp [fE,Fd,fAlt,Fc]; exact hz k m h1 h2
      · intro k m h1 h2
        simp [gE,Gd,fAlt,gAlt,Gc,Fc]
        have:=hs.g _ _ (hz1 m h1) (hz k m h1 h2)
        rw [show 2 * (Gd s * (Fd s+1)) * m=2 * (Gd s * ((Fd s+1) * m)) from by ac_rfl]
        omega
      · intro k m h1 h2
        simp [gE,Gd,fAlt,gAlt,Gc,Fc,hs.ff]
        have:=hs.g' _ _ (hz1 m h1) (hz k m h1 h2)
        rw [show 2 * (Gd s * (Fd s+1)) * m=2 * (Gd s * ((Fd s+1) * m)) from by ac_rfl]
        omega
    · have h4:op=4:=by
        simp only [kindOk,if_neg h0,if_neg h1,if_neg h2,Bool.and_eq_true,decide_eq_true_eq] at hk
        omega
      subst h4
      have hne:empty s=false:=(hls s (by simp)).2 (.inr rfl)
      have er:rew (.mk 4 a b [s])=.mk 1 0 0 [rew s,.mk 3 0 0 [rew s]]:=by simp [rew,rews]
      rw [er]
      constructor
      · simp [Fd,Fc]; exact hs.f1
      · intro k
        simp [fE,fRow,fAlt,hs.ff]
        exact fE_const s hne _ _
      · intro k m h1 h2; simp [fE,Fd,fAlt,Fc]; exact hs.f 0 m h1 (Nat.zero_le _)
      · intro k m h1 h2
        simp [gE,Gd,fAlt,gAlt,Gc,Fc]
        have:=hs.g _ _ (hz1 m h1) (hz k m h1 h2)
        rw [show 2 * (Gd s * (Fd s+1)) * m=2 * (Gd s * ((Fd s+1) * m)) from by ac_rfl]
        omega
      · intro k m h1 h2
        simp [gE,Gd,fE,fAlt,gAlt,gRow,fRow,Gc,Fc,hs.ff]
        have:=hs.g' _ _ (hz1 m h1) (hz k m h1 h2)
        rw [show 2 * (Gd s * (Fd s+1)) * m=2 * (Gd s * ((Fd s+1) * m)) from by ac_rfl]
        omega
def tb (T:List Nat) (s:Nat):Nat:=T.getD s 0
def chk (g:Nat→Nat→Nat) (R:List Nat):Bool:=(List.range 41).all fun s=>(List.range (41 - s)).all fun t=>Nat.ble (g s t) (tb R (s+t))
theorem chk_le {g:Nat→Nat→Nat} {R:List Nat} (h:chk g R=true) {s t:Nat} (hst:s+t≤40):g s t≤tb R (s+t):=by
  unfold chk at h
  rw [List.all_eq_true] at h
  have h1:=h s (List.mem_range.2 (by omega))
  rw [List.all_eq_true] at h1
  exact Nat.le_of_ble_eq_true (h1 t (List.mem_range.2 (by omega)))
def okL (F G:List Nat) (RF RG CF CG:List (List Nat)):Bool:=Nat.ble 1 (tb (RF.getD 0 []) 0) && (List.range 4).all fun n =>
  chk (fun s t=>tb F s * tb (RF.getD n []) t) (RF.getD (n+1) []) && (chk (fun s t=>tb G s * tb (RF.getD n []) t+tb (RG.getD n []) t) (RG.getD (n+1) []) &&
  (chk (fun s t=>tb F s+tb (CF.getD n []) t) (CF.getD (n+1) []) && chk (fun s t=>tb G s+tb (CG.getD n []) t) (CG.getD (n+1) [])))
def okN (RF RG CF CG:List (List Nat)) (F G:List Nat):Bool:=(List.range 40).all fun t=>Nat.ble 1 (tb F (1+t)) && (Nat.ble 1 (tb G (1+t)) && (Nat.ble (tb (CF.getD 1 []) t+1) (tb F (1+t)) && (Nat.ble (2 * (tb (CG.getD 1 []) t * (tb (CF.getD 1 []) t+1))) (tb G (1+t)) &&
  (List.range 5).all fun n=>Nat.ble (tb (RF.getD n []) t) (tb F (1+t)) && (Nat.ble (tb (CF.getD n []) t) (tb F (1+t)) && (Nat.ble (tb (RG.getD n []) t) (tb G (1+t)) && Nat.ble (tb (CG.getD n []) t) (tb G (1+t)))))))
def Tb (F G:List Nat) (e:Ex):Prop:=size e≤40→Fd e≤tb F (size e)∧Gd e≤tb G (size e)
theorem list_tab {F G:List Nat} {RF RG CF CG:List (List Nat)} (ok:okL F G RF RG CF CG=true):∀ (ss:List Ex),(∀ s ∈ ss,Tb F G s)→ss.length≤4→sizes ss≤40 →
    Fr ss≤tb (RF.getD ss.length []) (sizes ss)∧Gr ss≤tb (RG.getD ss.length []) (sizes ss)∧Fc ss≤tb (CF.getD ss.length []) (sizes ss)∧Gc ss≤tb (CG.getD ss.length []) (sizes ss)
  | [],_,_,_=>by
    simp only [okL,Bool.and_eq_true] at ok
    refine ⟨?_,Nat.zero_le _,Nat.zero_le _,Nat.zero_le _⟩
    simp only [Fr,sizes,List.length_nil]
    exact Nat.le_of_ble_eq_true ok.1
  | s::ss,h,hl,hs=>by
    simp only [sizes,List.length_cons] at hl hs ⊢
    obtain ⟨a1,a2,a3,a4⟩:=list_tab ok ss (fun t ht=>h t (by simp [ht])) (by omega) (by omega)
    obtain ⟨b1,b2⟩:=h s (by simp) (by omega)
    simp only [okL,Bool.and_eq_true,List.all_eq_true] at ok
    obtain ⟨c1,c2,c3,c4⟩:=ok.2 ss.length (List.mem_range.2 (by omega))
    simp only [Fr,Gr,Fc,Gc]
    refine ⟨Nat.le_trans (Nat.mul_le_mul b1 a1) (chk_le c1 hs),Nat.le_trans (Nat.add_le_add (Nat.mul_le_mul b2 a1) a2) (chk_le c2 hs),Nat.le_trans (Nat.add_le_add b1 a3) (chk_le c3 hs),Nat.le_trans (Nat.add_le_add b2 a4) (chk_le c4 hs)⟩
theorem step_tab {d:Nat} {F G F' G':List Nat} {RF RG CF CG:List (List Nat)} (h:∀ e,good d e=true→Tb F G e) (ok:okL F G RF RG CF CG=true) (on:okN RF RG CF CG F' G'=true):∀ e,good (d+1) e=true→Tb F' G' e:=by
  intro e hg hs
  obtain ⟨op,a,b,ss⟩:=e
  simp only [good,Bool.and_eq_true,List.all_eq_true,decide_eq_true_eq] at hg
  obtain ⟨hl,hss,hk⟩:=hg
  simp only [size] at hs ⊢
  obtain ⟨a1,a2,a3,a4⟩:=list_tab ok ss (fun s hm=>h s (hss s hm)) hl (by omega)
  simp only [okN,Bool.and_eq_true,List.all_eq_true] at on
  obtain ⟨n1,n2,n3,n4,n5⟩:=on (sizes ss) (List.mem_range.2 (by omega))
  obtain ⟨m1,m2,m3,m4⟩:=n5 ss.length (List.mem_range.2 (by omega))
  replace n1:=Nat.le_of_ble_eq_true n1
  replace n2:=Nat.le_of_ble_eq_true n2
  replace n3:=Nat.le_of_ble_eq_true n3
  replace n4:=Nat.le_of_ble_eq_true n4
  replace m1:=Nat.le_of_ble_eq_true m1
  replace m2:=Nat.le_of_ble_eq_true m2
  replace m3:=Nat.le_of_ble_eq_true m3
  replace m4:=Nat.le_of_ble_eq_true m4
  simp only [Fd,Gd]
  by_cases h0:op=0
  · simp only [if_pos h0]; exact ⟨n1,n2⟩
  simp only [if_neg h0]
  by_cases h1:op=1
  · simp only [if_pos h1]; exact ⟨Nat.le_trans a1 m1,Nat.le_trans a2 m3⟩
  simp only [if_neg h1]
  by_cases h2:op=2
  · simp only [if_pos h2]; exact ⟨Nat.le_trans a3 m2,Nat.le_trans a4 m4⟩
  simp only [if_neg h2]
  have hone:ss.length=1:=by
    simp only [kindOk,if_neg h0,if_neg h1,if_neg h2,Bool.and_eq_true,decide_eq_true_eq,beq_iff_eq] at hk
    omega
  rw [hone] at a3 a4
  have g1:2 * (Gc ss * (Fc ss+1))≤tb G' (1+sizes ss):=Nat.le_trans (Nat.mul_le_mul_left 2 (Nat.mul_le_mul a4 (Nat.succ_le_succ a3))) n4
  have f1:Fc ss+1≤tb F' (1+sizes ss):=Nat.le_trans (Nat.succ_le_succ a3) n3
  have g2:Gc ss≤tb G' (1+sizes ss):=by rw [hone] at m4; exact Nat.le_trans a4 m4
  constructor
  · split <;> omega
  · split <;> omega
theorem base_tab:∀ e,good 1 e=true→size e=1∧Fd e≤1∧Gd e≤1:=by
  intro e hg
  obtain ⟨op,a,b,ss⟩:=e
  simp only [good,Bool.and_eq_true,List.all_eq_true,decide_eq_true_eq] at hg
  obtain ⟨hl,hss,hk⟩:=hg
  cases ss with
  | cons s ss=>have:=hss s (by simp); simp [good] at this
  | nil =>
    simp only [size,sizes,Fd,Gd,Fr,Fc,Gr,Gc,true_and]
    simp only [kindOk,List.length_nil] at hk
    by_cases h0:op=0
    · simp [h0]
    by_cases h1:op=1
    · subst h1; simp
    by_cases h2:op=2
    · subst h2; simp at hk
    · simp [h0,h1,h2] at hk
def tF1:List Nat:=[0,1,0,0,0,0,0,0,0,0,0,0,0,0,0,0,0,0,0,0,0,0,0,0,0,0,0,0,0,0,0,0,0,0,0,0,0,0,0,0,0]
def tG1:List Nat:=[0,1,0,0,0,0,0,0,0,0,0,0,0,0,0,0,0,0,0,0,0,0,0,0,0,0,0,0,0,0,0,0,0,0,0,0,0,0,0,0,0]
def tRF1:List (List Nat):=[[1,0,0,0,0,0,0,0,0,0,0,0,0,0,0,0,0,0,0,0,0,0,0,0,0,0,0,0,0,0,0,0,0,0,0,0,0,0,0,0,0],[0,1,0,0,0,0,0,0,0,0,0,0,0,0,0,0,0,0,0,0,0,0,0,0,0,0,0,0,0,0,0,0,0,0,0,0,0,0,0,0,0],[0,0,1,0,0,0,0,0,0,0,0,0,0,0,0,0,0,0,0,0,0,0,0,0,0,0,0,0,0,0,0,0,0,0,0,0,0,0,0,0,0],[0,0,0,1,0,0,0,0,0,0,0,0,0,0,0,0,0,0,0,0,0,0,0,0,0,0,0,0,0,0,0,0,0,0,0,0,0,0,0,0,0],[0,0,0,0,1,0,0,0,0,0,0,0,0,0,0,0,0,0,0,0,0,0,0,0,0,0,0,0,0,0,0,0,0,0,0,0,0,0,0,0,0]]
def tRG1:List (List Nat):=[[0,0,0,0,0,0,0,0,0,0,0,0,0,0,0,0,0,0,0,0,0,0,0,0,0,0,0,0,0,0,0,0,0,0,0,0,0,0,0,0,0],[0,1,0,0,0,0,0,0,0,0,0,0,0,0,0,0,0,0,0,0,0,0,0,0,0,0,0,0,0,0,0,0,0,0,0,0,0,0,0,0,0],[0,1,2,1,1,1,1,1,1,1,1,1,1,1,1,1,1,1,1,1,1,1,1,1,1,1,1,1,1,1,1,1,1,1,1,1,1,1,1,1,1],[0,1,2,3,2,2,2,2,2,2,2,2,2,2,2,2,2,2,2,2,2,2,2,2,2,2,2,2,2,2,2,2,2,2,2,2,2,2,2,2,2],[0,1,2,3,4,3,3,3,3,3,3,3,3,3,3,3,3,3,3,3,3,3,3,3,3,3,3,3,3,3,3,3,3,3,3,3,3,3,3,3,3]]
def tCF1:List (List Nat):=[[0,0,0,0,0,0,0,0,0,0,0,0,0,0,0,0,0,0,0,0,0,0,0,0,0,0,0,0,0,0,0,0,0,0,0,0,0,0,0,0,0],[0,1,1,1,1,1,1,1,1,1,1,1,1,1,1,1,1,1,1,1,1,1,1,1,1,1,1,1,1,1,1,1,1,1,1,1,1,1,1,1,1],[0,1,2,2,2,2,2,2,2,2,2,2,2,2,2,2,2,2,2,2,2,2,2,2,2,2,2,2,2,2,2,2,2,2,2,2,2,2,2,2,2],[0,1,2,3,3,3,3,3,3,3,3,3,3,3,3,3,3,3,3,3,3,3,3,3,3,3,3,3,3,3,3,3,3,3,3,3,3,3,3,3,3],[0,1,2,3,4,4,4,4,4,4,4,4,4,4,4,4,4,4,4,4,4,4,4,4,4,4,4,4,4,4,4,4,4,4,4,4,4,4,4,4,4]]
def tCG1:List (List Nat):=[[0,0,0,0,0,0,0,0,0,0,0,0,0,0,0,0,0,0,0,0,0,0,0,0,0,0,0,0,0,0,0,0,0,0,0,0,0,0,0,0,0],[0,1,1,1,1,1,1,1,1,1,1,1,1,1,1,1,1,1,1,1,1,1,1,1,1,1,1,1,1,1,1,1,1,1,1,1,1,1,1,1,1],[0,1,2,2,2,2,2,2,2,2,2,2,2,2,2,2,2,2,2,2,2,2,2,2,2,2,2,2,2,2,2,2,2,2,2,2,2,2,2,2,2],[0,1,2,3,3,3,3,3,3,3,3,3,3,3,3,3,3,3,3,3,3,3,3,3,3,3,3,3,3,3,3,3,3,3,3,3,3,3,3,3,3],[0,1,2,3,4,4,4,4,4,4,4,4,4,4,4,4,4,4,4,4,4,4,4,4,4,4,4,4,4,4,4,4,4,4,4,4,4,4,4,4,4]]
def tF2:List Nat:=[0,1,2,2,3,4,4,4,4,4,4,4,4,4,4,4,4,4,4,4,4,4,4,4,4,4,4,4,4,4,4,4,4,4,4,4,4,4,4,4,4]
def tG2:List Nat:=[0,1,4,4,4,4,4,4,4,4,4,4,4,4,4,4,4,4,4,4,4,4,4,4,4,4,4,4,4,4,4,4,4,4,4,4,4,4,4,4,4]
def tRF2:List (List Nat):=[[1,0,0,0,0,0,0,0,0,0,0,0,0,0,0,0,0,0,0,0,0,0,0,0,0,0,0,0,0,0,0,0,0,0,0,0,0,0,0,0,0],[0,1,2,2,3,4,4,4,4,4,4,4,4,4,4,4,4,4,4,4,4,4,4,4,4,4,4,4,4,4,4,4,4,4,4,4,4,4,4,4,4],[0,0,1,2,4,4,6,8,9,12,16,16,16,16,16,16,16,16,16,16,16,16,16,16,16,16,16,16,16,16,16,16,16,16,16,16,16,16,16,16,16],[0,0,0,1,2,4,8,8,12,16,18,24,32,36,48,64,64,64,64,64,64,64,64,64,64,64,64,64,64,64,64,64,64,64,64,64,64,64,64,64,64],[0,0,0,0,1,2,4,8,16,16,24,32,36,48,64,72,96,128,144,192,256,256,256,256,256,256,256,256,256,256,256,256,256,256,256,256,256,256,256,256,256]]
def tRG2:List (List Nat):=[[0,0,0,0,0,0,0,0,0,0,0,0,0,0,0,0,0,0,0,0,0,0,0,0,0,0,0,0,0,0,0,0,0,0,0,0,0,0,0,0,0],[0,1,4,4,4,4,4,4,4,4,4,4,4,4,4,4,4,4,4,4,4,4,4,4,4,4,4,4,4,4,4,4,4,4,4,4,4,4,4,4,4],[0,1,4,6,12,12,16,20,20,20,20,20,20,20,20,20,20,20,20,20,20,20,20,20,20,20,20,20,20,20,20,20,20,20,20,20,20,20,20,20,20],[0,1,4,6,12,16,28,28,40,52,56,68,84,84,84,84,84,84,84,84,84,84,84,84,84,84,84,84,84,84,84,84,84,84,84,84,84,84,84,84,84],[0,1,4,6,12,16,28,36,60,60,88,116,128,164,212,228,276,340,340,340,340,340,340,340,340,340,340,340,340,340,340,340,340,340,340,340,340,340,340,340,340]]
def tCF2:List (List Nat):=[[0,0,0,0,0,0,0,0,0,0,0,0,0,0,0,0,0,0,0,0,0,0,0,0,0,0,0,0,0,0,0,0,0,0,0,0,0,0,0,0,0],[0,1,2,2,3,4,4,4,4,4,4,4,4,4,4,4,4,4,4,4,4,4,4,4,4,4,4,4,4,4,4,4,4,4,4,4,4,4,4,4,4],[0,1,2,3,4,4,5,6,6,7,8,8,8,8,8,8,8,8,8,8,8,8,8,8,8,8,8,8,8,8,8,8,8,8,8,8,8,8,8,8,8],[0,1,2,3,4,5,6,6,7,8,8,9,10,10,11,12,12,12,12,12,12,12,12,12,12,12,12,12,12,12,12,12,12,12,12,12,12,12,12,12,12],[0,1,2,3,4,5,6,7,8,8,9,10,10,11,12,12,13,14,14,15,16,16,16,16,16,16,16,16,16,16,16,16,16,16,16,16,16,16,16,16,16]]
def tCG2:List (List Nat):=[[0,0,0,0,0,0,0,0,0,0,0,0,0,0,0,0,0,0,0,0,0,0,0,0,0,0,0,0,0,0,0,0,0,0,0,0,0,0,0,0,0],[0,1,4,4,4,4,4,4,4,4,4,4,4,4,4,4,4,4,4,4,4,4,4,4,4,4,4,4,4,4,4,4,4,4,4,4,4,4,4,4,4],[0,1,4,5,8,8,8,8,8,8,8,8,8,8,8,8,8,8,8,8,8,8,8,8,8,8,8,8,8,8,8,8,8,8,8,8,8,8,8,8,8],[0,1,4,5,8,9,12,12,12,12,12,12,12,12,12,12,12,12,12,12,12,12,12,12,12,12,12,12,12,12,12,12,12,12,12,12,12,12,12,12,12],[0,1,4,5,8,9,12,13,16,16,16,16,16,16,16,16,16,16,16,16,16,16,16,16,16,16,16,16,16,16,16,16,16,16,16,16,16,16,16,16,16]]
def tF3:List Nat:=[0,1,2,3,3,4,5,8,8,16,16,24,32,36,48,64,72,96,128,144,192,256,256,256,256,256,256,256,256,256,256,256,256,256,256,256,256,256,256,256,256]
def tG3:List Nat:=[0,1,4,24,24,32,40,40,40,60,60,88,116,128,164,212,228,276,340,340,340,340,340,340,340,340,340,340,340,340,340,340,340,340,340,340,340,340,340,340,340]
def tRF3:List (List Nat):=[[1,0,0,0,0,0,0,0,0,0,0,0,0,0,0,0,0,0,0,0,0,0,0,0,0,0,0,0,0,0,0,0,0,0,0,0,0,0,0,0,0],[0,1,2,3,3,4,5,8,8,16,16,24,32,36,48,64,72,96,128,144,192,256,256,256,256,256,256,256,256,256,256,256,256,256,256,256,256,256,256,256,256],[0,0,1,2,4,6,9,9,12,16,24,32,48,48,72,96,128,144,256,256,384,512,576,768,1024,1152,1536,2048,2304,3072,4096,4608,6144,8192,9216,12288,16384,18432,24576,32768,36864],[0,0,0,1,2,4,8,12,18,27,27,36,48,72,96,144,144,216,288,384,512,768,768,1152,1536,2048,2304,4096,4096,6144,8192,9216,12288,16384,18432,24576,32768,36864,49152,65536,73728],[0,0,0,0,1,2,4,8,16,24,36,54,81,81,108,144,216,288,432,432,648,864,1152,1536,2304,2304,3456,4608,6144,8192,12288,12288,18432,24576,32768,36864,65536,65536,98304,131072,147456]]
def tRG3:List (List Nat):=[[0,0,0,0,0,0,0,0,0,0,0,0,0,0,0,0,0,0,0,0,0,0,0,0,0,0,0,0,0,0,0,0,0,0,0,0,0,0,0,0,0],[0,1,4,24,24,32,40,40,40,60,60,88,116,128,164,212,228,276,340,340,340,340,340,340,340,340,340,340,340,340,340,340,340,340,340,340,340,340,340,340,340],[0,1,4,24,27,52,96,96,128,160,232,232,444,444,664,884,992,1316,1748,1956,2580,3412,3796,4948,6484,6484,8532,10580,10580,11860,15700,17236,22868,30036,33108,42324,54612,58708,70996,87380,87380],[0,1,4,24,27,52,96,123,196,312,312,416,544,808,1000,1596,1596,2392,3188,4064,4772,7892,8100,11796,15700,17620,23380,31060,34132,45396,59732,65876,85588,114004,127828,170324,226644,254292,337236,447828,501076],[0,1,4,24,27,52,96,123,196,312,411,628,960,960,1280,1696,2536,3304,5052,5052,7576,10100,13280,17060,26324,26532,39444,52564,66772,78676,129364,132436,192852,256340,287060,380500,507220,570196,760148,1013076,1139028]]
def tCF3:List (List Nat):=[[0,0,0,0,0,0,0,0,0,0,0,0,0,0,0,0,0,0,0,0,0,0,0,0,0,0,0,0,0,0,0,0,0,0,0,0,0,0,0,0,0],[0,1,2,3,3,4,5,8,8,16,16,24,32,36,48,64,72,96,128,144,192,256,256,256,256,256,256,256,256,256,256,256,256,256,256,256,256,256,256,256,256],[0,1,2,3,4,5,6,8,9,16,17,24,32,36,48,64,72,96,128,144,192,256,257,258,259,259,260,261,264,264,272,272,280,288,292,304,320,328,352,384,400],[0,1,2,3,4,5,6,8,9,16,17,24,32,36,48,64,72,96,128,144,192,256,257,258,259,260,261,262,264,265,272,273,280,288,292,304,320,328,352,384,400],[0,1,2,3,4,5,6,8,9,16,17,24,32,36,48,64,72,96,128,144,192,256,257,258,259,260,261,262,264,265,272,273,280,288,292,304,320,328,352,384,400]]
def tCG3:List (List Nat):=[[0,0,0,0,0,0,0,0,0,0,0,0,0,0,0,0,0,0,0,0,0,0,0,0,0,0,0,0,0,0,0,0,0,0,0,0,0,0,0,0,0],[0,1,4,24,24,32,40,40,40,60,60,88,116,128,164,212,228,276,340,340,340,340,340,340,340,340,340,340,340,340,340,340,340,340,340,340,340,340,340,340,340],[0,1,4,24,25,32,48,48,56,64,64,88,116,128,164,212,228,276,340,341,344,364,364,372,380,380,380,400,400,428,456,468,504,552,568,616,680,680,680,680,680],[0,1,4,24,25,32,48,49,56,72,72,88,116,128,164,212,228,276,340,341,344,364,365,372,388,388,396,404,404,428,456,468,504,552,568,616,680,681,684,704,704],[0,1,4,24,25,32,48,49,56,72,73,88,116,128,164,212,228,276,340,341,344,364,365,372,388,389,396,412,412,428,456,468,504,552,568,616,680,681,684,704,705]]
def tF4:List Nat:=[0,1,2,3,4,4,6,9,12,18,27,36,54,81,81,108,144,216,288,432,432,648,864,1152,1536,2304,2304,3456,4608,6144,8192,12288,12288,18432,24576,32768,36864,65536,65536,98304,131072]
def tG4:List Nat:=[0,1,4,24,192,192,320,480,720,720,2040,2040,4400,7656,9472,16072,27560,33288,53544,87720,98600,131240,174760,174760,174760,174760,174760,174760,174760,174760,174760,174760,174760,192852,256340,287060,380500,507220,570196,760148,1013076]
def tRF4:List (List Nat):=[[1,0,0,0,0,0,0,0,0,0,0,0,0,0,0,0,0,0,0,0,0,0,0,0,0,0,0,0,0,0,0,0,0,0,0,0,0,0,0,0,0],[0,1,2,3,4,4,6,9,12,18,27,36,54,81,81,108,144,216,288,432,432,648,864,1152,1536,2304,2304,3456,4608,6144,8192,12288,12288,18432,24576,32768,36864,65536,65536,98304,131072],[0,0,1,2,4,6,9,12,16,18,27,36,54,81,108,162,243,324,324,486,729,972,1458,2187,2916,4374,6561,6561,8748,11664,17496,23328,34992,34992,52488,69984,93312,124416,186624,186624,279936],[0,0,0,1,2,4,8,12,18,27,36,48,64,81,108,162,243,324,486,729,972,1296,1458,2187,2916,4374,6561,8748,13122,19683,26244,26244,39366,59049,78732,118098,177147,236196,354294,531441,531441],[0,0,0,0,1,2,4,8,16,24,36,54,81,108,144,192,256,324,486,729,972,1458,2187,2916,3888,5184,6561,8748,13122,19683,26244,39366,59049,78732,104976,118098,177147,236196,354294,531441,708588]]
def tRG4:List (List Nat):=[[0,0,0,0,0,0,0,0,0,0,0,0,0,0,0,0,0,0,0,0,0,0,0,0,0,0,0,0,0,0,0,0,0,0,0,0,0,0,0,0,0],[0,1,4,24,192,192,320,480,720,720,2040,2040,4400,7656,9472,16072,27560,33288,53544,87720,98600,131240,174760,174760,174760,174760,174760,174760,174760,174760,174760,174760,174760,192852,256340,287060,380500,507220,570196,760148,1013076],[0,1,4,24,192,196,388,600,960,984,2040,2208,4400,7656,9472,16072,27560,33288,55124,87720,110432,175444,263184,351072,394592,526640,789960,1053360,1579680,2370480,3159960,4741280,7112976,7994256,10638096,14163216,18980808,25316904,37982760,42682920,56973800],[0,1,4,24,192,196,388,600,960,1348,2116,2904,4400,7656,9472,16072,27560,33288,55124,87720,110432,175444,263184,351072,526516,789868,1053240,1404480,1579944,2370480,3160128,4741280,7112976,9483232,14226712,21343520,28454568,31979688,42719640,64058312,85439284],[0,1,4,24,192,196,388,600,960,1348,2116,2904,4416,7656,9472,16072,27560,33288,55124,87720,110432,175444,263184,351072,526516,789868,1053240,1579920,2369788,3160036,4213464,5618480,7112976,9483232,14226712,21343520,28454568,42687044,64035600,85374272,113860564]]
def tCF4:List (List Nat):=[[0,0,0,0,0,0,0,0,0,0,0,0,0,0,0,0,0,0,0,0,0,0,0,0,0,0,0,0,0,0,0,0,0,0,0,0,0,0,0,0,0],[0,1,2,3,4,4,6,9,12,18,27,36,54,81,81,108,144,216,288,432,432,648,864,1152,1536,2304,2304,3456,4608,6144,8192,12288,12288,18432,24576,32768,36864,65536,65536,98304,131072],[0,1,2,3,4,5,6,9,12,18,27,36,54,81,82,108,144,216,288,432,433,648,864,1152,1536,2304,2305,3456,4608,6144,8192,12288,12289,18432,24576,32768,36864,65536,65537,98304,131072],[0,1,2,3,4,5,6,9,12,18,27,36,54,81,82,108,144,216,288,432,433,648,864,1152,1536,2304,2305,3456,4608,6144,8192,12288,12289,18432,24576,32768,36864,65536,65537,98304,131072],[0,1,2,3,4,5,6,9,12,18,27,36,54,81,82,108,144,216,288,432,433,648,864,1152,1536,2304,2305,3456,4608,6144,8192,12288,12289,18432,24576,32768,36864,65536,65537,98304,131072]]
def tCG4:List (List Nat):=[[0,0,0,0,0,0,0,0,0,0,0,0,0,0,0,0,0,0,0,0,0,0,0,0,0,0,0,0,0,0,0,0,0,0,0,0,0,0,0,0,0],[0,1,4,24,192,192,320,480,720,720,2040,2040,4400,7656,9472,16072,27560,33288,53544,87720,98600,131240,174760,174760,174760,174760,174760,174760,174760,174760,174760,174760,174760,192852,256340,287060,380500,507220,570196,760148,1013076],[0,1,4,24,192,193,320,480,720,721,2040,2041,4400,7656,9472,16072,27560,33288,53544,87720,98600,131240,174760,174761,174764,174784,174952,174952,175080,175240,175480,175480,176800,192852,256340,287060,380500,507220,570196,760148,1013076],[0,1,4,24,192,193,320,480,720,721,2040,2041,4400,7656,9472,16072,27560,33288,53544,87720,98600,131240,174760,174761,174764,174784,174952,174953,175080,175240,175480,175481,176800,192852,256340,287060,380500,507220,570196,760148,1013076],[0,1,4,24,192,193,320,480,720,721,2040,2041,4400,7656,9472,16072,27560,33288,53544,87720,98600,131240,174760,174761,174764,174784,174952,174953,175080,175240,175480,175481,176800,192852,256340,287060,380500,507220,570196,760148,1013076]]
def tF5:List Nat:=[0,1,2,3,4,5,6,9,12,18,27,36,54,81,108,144,192,256,324,486,729,972,1458,2187,2916,3888,5184,6561,8748,13122,19683,26244,39366,59049,78732,104976,118098,177147,236196,354294,531441]
def tG5:List Nat:=[0,1,4,24,192,1920,1920,4480,9600,18720,27360,114240,150960,484000,1255584,1553408,3503696,7992400,14446992,30948432,75965520,85387600,170349520,302334800,402996560,537212240,805643600,805643600,1208290640,1610937680,2147800400,2863617360,4295251280,4295251280,7109681832,12600136360,18813338280,28054265000,66483354280,74737870504,149452698280]
theorem tab1:∀ e,good 1 e=true→Tb tF1 tG1 e:=fun e hg _=>by
  obtain ⟨h1,h2,h3⟩:=base_tab e hg
  rw [h1]
  exact ⟨h2,h3⟩
set_option maxRecDepth 100000 in
theorem tab2:∀ e,good 2 e=true→Tb tF2 tG2 e:=step_tab tab1 (RF:=tRF1) (RG:=tRG1) (CF:=tCF1) (CG:=tCG1) (by decide) (by decide)
set_option maxRecDepth 100000 in
theorem tab3:∀ e,good 3 e=true→Tb tF3 tG3 e:=step_tab tab2 (RF:=tRF2) (RG:=tRG2) (CF:=tCF2) (CG:=tCG2) (by decide) (by decide)
set_option maxRecDepth 100000 in
theorem tab4:∀ e,good 4 e=true→Tb tF4 tG4 e:=step_tab tab3 (RF:=tRF3) (RG:=tRG3) (CF:=tCF3) (CG:=tCG3) (by decide) (by decide)
set_option maxRecDepth 100000 in
theorem tab5:∀ e,good 5 e=true→Tb tF5 tG5 e:=step_tab tab4 (RF:=tRF4) (RG:=tRG4) (CF:=tCF4) (CG:=tCG4) (by decide) (by decide)
theorem few {e:Ex} (hg:good 5 e=true) (hs:size e≤40):Fd e≤219902325555∧Gd e≤219902325555:=by
  obtain ⟨h1,h2⟩:=tab5 e hg hs
  have h3:(List.range 41).all (fun s=>Nat.ble (tb tF5 s) 219902325555 && Nat.ble (tb tG5 s) 219902325555)=true:=by decide
  rw [List.all_eq_true] at h3
  have h4:=h3 (size e) (List.mem_range.2 (by omega))
  rw [Bool.and_eq_true] at h4
  exact ⟨Nat.le_trans h1 (Nat.le_of_ble_eq_true h4.1),Nat.le_trans h2 (Nat.le_of_ble_eq_true h4.2)⟩
structure Small (rules:List Ex):Prop where
  len:rules.length≤5
  f:∀ e ∈ rules,fE e 1≤219902325555
  g:∀ e ∈ rules,gE e 1≤219902325555
theorem size_mem {rules:List Ex} : ∀ {e:Ex},e ∈ rules→size e≤sizes rules:=by
  induction rules with
  | nil=>intro e h; simp at h
  | cons x l ih =>
    intro e h
    simp only [sizes]
    rcases List.mem_cons.1 h with rfl | h
    · omega
    · have:=ih h; omega
theorem small_of {rules:List Ex} (hl:rules.length≤5) (hg:∀ e ∈ rules,good 5 e=true∧loops e=false) (hs:sizes rules≤40):Small rules∧Small (rules.map rew):=by
  have key:∀ e ∈ rules,fE e 1≤219902325555∧gE e 1≤219902325555∧fE (rew e) 1≤219902325555∧gE (rew e) 1≤219902325555:=by
    intro e he
    obtain ⟨h1,h2⟩:=hg e he
    have hb:=bnd_all e 5 h1 h2
    obtain ⟨h3,h4⟩:=few h1 (Nat.le_trans (size_mem he) hs)
    have a:=hb.f 1 1 (Nat.le_refl _) (Nat.le_refl _)
    have b:=hb.g 1 1 (Nat.le_refl _) (Nat.le_refl _)
    have c:=hb.g' 1 1 (Nat.le_refl _) (Nat.le_refl _)
    have f:=hb.ff 1
    omega
  refine ⟨⟨hl,fun e he=>(key e he).1,fun e he=>(key e he).2.1⟩,⟨by simpa using hl,fun e he => ?_,fun e he => ?_⟩⟩
  · obtain ⟨x,hx,rfl⟩:=List.mem_map.1 he; exact (key x hx).2.2.1
  · obtain ⟨x,hx,rfl⟩:=List.mem_map.1 he; exact (key x hx).2.2.2
end Lx
