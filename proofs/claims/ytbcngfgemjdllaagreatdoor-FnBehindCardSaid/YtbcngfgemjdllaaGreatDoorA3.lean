/- Part A3: PB, EQ, L3g, LB. No conditions beyond those each statement names. -/
import Derived.BigQuiet
import Derived.Deep.RegionLaw
import Derived.Test.YtbcngfgemjdllaaGreatDoorB08
import Derived.Test.YtbcngfgemjdllaaGreatDoorB12
import Derived.Test.YtbcngfgemjdllaaGreatDoorB14
import Derived.Test.YtbcngfgemjdllaaGreatDoorB17
import Derived.Test.YtbcngfgemjdllaaGreatDoorB19
import Derived.Test.YtbcngfgemjdllaaGreatDoorB43
import Derived.Test.YtbcngfgemjdllaaGreatDoorB45
import Derived.Test.YtbcngfgemjdllaaGreatDoorB47
set_option linter.unusedVariables false
set_option linter.unusedSimpArgs false
section
namespace Lx
theorem mt_app {rules:List Ex} {e:Ex} {t:List Nat} {r i j:Nat} (h:Mt rules t r i j):Mt (rules++[e]) t r i j:=by
  obtain ⟨x,hx,h2⟩:=h
  exact ⟨x,by rw [List.getElem?_append_left (List.getElem?_eq_some_iff.1 hx).1]; exact hx,h2⟩
theorem mt_app_r {rules:List Ex} {e:Ex} {k:Nat} (hk:rules[k]? = some e) {t:List Nat} {r i j:Nat} (h:Mt (rules++[e]) t r i j):Mt rules t r i j∨(r=rules.length∧Mt rules t k i j):=by
  obtain ⟨x,hx,h2⟩:=h
  by_cases hr:r<rules.length
  · rw [List.getElem?_append_left hr] at hx
    exact .inl ⟨x,hx,h2⟩
  · rw [List.getElem?_append_right (by omega)] at hx
    have h0:r - rules.length=0:=by
      have:=(List.getElem?_eq_some_iff.1 hx).1
      simp at this; omega
    rw [h0] at hx
    simp at hx
    subst hx
    exact .inr ⟨by omega,e,hk,h2⟩
theorem lgst_app {rules:List Ex} {e:Ex} {k:Nat} (hk:rules[k]? = some e) {t:List Nat} {i r j:Nat} (h:Lgst rules t i r j):Lgst (rules++[e]) t i r j:=by
  obtain ⟨h1,h2,h3⟩:=h
  have hlt:=(List.getElem?_eq_some_iff.1 hk).1
  refine ⟨mt_app h1,fun r' j' h => ?_,fun r' h => ?_⟩
  · rcases mt_app_r hk h with h | ⟨_,h⟩
    · exact h2 _ _ h
    · exact h2 _ _ h
  · rcases mt_app_r hk h with h' | ⟨rfl,h'⟩
    · exact h3 _ h'
    · have:=h3 _ h'
      omega
theorem allR_app {rules:List Ex} {e:Ex} {k:Nat} (hk:rules[k]? = some e) {t:List Nat} {i:Nat} {l:List Tok} {f:Int} (h:AllR rules t i l f):AllR (rules++[e]) t i l f:=by
  induction h with
  | done h=>exact .done h
  | fail h hn =>
    refine .fail h fun r j hm => ?_
    rcases mt_app_r hk hm with h' | ⟨_,h'⟩
    · exact hn _ _ h'
    · exact hn _ _ h'
  | step h1 h2 h3 h4 h5 h6 h7 _ ih=>exact .step h1 h2 h3 h4 h5 h6 (lgst_app hk h7) ih
end Lx
end
section
namespace Go.Proofs.YtbcngfgemjdllaaGreatDoor
open Go.RowKit Go.Own
abbrev E6:=Int × Int × Int × Option Addr × Nat × Nat
def exC (x:E6):List Value:=[.int .i64 x.1,.int .i64 x.2.1,.int .i64 x.2.2.1,.slice x.2.2.2.1 x.2.2.2.2.1 x.2.2.2.2.2]
def exW (x:E6):Value:=exV x.1 x.2.1 x.2.2.1 x.2.2.2.1 x.2.2.2.2.1 x.2.2.2.2.2
def exQ (w:World):List Lx.Ex→List E6→Prop
  | [],[]=>True
  | s::ss,x::xs=>ExV w s (exW x)∧exQ w ss xs
  | _,_=>False
theorem exQ.len {w:World} : ∀ {ss:List Lx.Ex} {Q:List E6},exQ w ss Q→Q.length=ss.length
  | [],[],_=>rfl
  | _::_,_::_,h=>by rw [List.length_cons,List.length_cons,exQ.len h.2]
  | [],_::_,h=>h.elim
  | _::_,[],h=>h.elim
theorem exQ.mono {w w':World} (hb:Below w.heap.size w w'):∀ {ss:List Lx.Ex} {Q:List E6},exQ w ss Q→exQ w' ss Q
  | [],[],_=>trivial
  | _::_,_::_,h=>⟨h.1.mono hb,exQ.mono hb h.2⟩
  | [],_::_,h=>h.elim
  | _::_,[],h=>h.elim
theorem exQ.app {w:World} : ∀ {ss ss':List Lx.Ex} {Q Q':List E6},exQ w ss Q→exQ w ss' Q'→exQ w (ss++ss') (Q++Q')
  | [],_,[],_,_,h=>h
  | _::_,_,_::_,_,h,h'=>⟨h.1,exQ.app h.2 h'⟩
  | [],_,_::_,_,h,_=>h.elim
  | _::_,_,[],_,h,_=>h.elim
theorem exQ.get {w:World} : ∀ {ss:List Lx.Ex} {Q:List E6} {k:Nat} {s:Lx.Ex},exQ w ss Q→ss[k]? = some s→∃ x,Q[k]? = some x∧ExV w s (exW x)
  | s::ss,x::Q,0,s',h,hk=>by
    simp at hk; subst hk
    exact ⟨x,rfl,h.1⟩
  | s::ss,x::Q,k+1,s',h,hk=>by
    obtain ⟨y,h1,h2⟩:=exQ.get (k:=k) (s:=s') h.2 (by simpa using hk)
    exact ⟨y,by simpa using h1,h2⟩
  | [],_,_,_,_,hk=>by simp at hk
  | _::_,[],_,_,h,_=>h.elim
theorem exC_len (Q:List E6):(Q.flatMap exC).length=Q.length * 4:=flat_len (f:=exC) (n:=4) (fun _=>rfl) Q
theorem exC_one (Q:List E6):∀ u ∈ Q.flatMap exC,u.oneCell'=true:=by
  intro u hu
  obtain ⟨x,_,h⟩:=List.mem_flatMap.1 hu
  simp only [exC,List.mem_cons,List.not_mem_nil,or_false] at h
  rcases h with rfl | rfl | rfl | rfl <;> rfl
theorem ex_row {w:World} {g o:Nat} : ∀ {ss:List Lx.Ex} {i:Nat},ExS w ss (some ⟨g,o,none⟩) i→∃ Q,exQ w ss Q∧∀ j u,(Q.flatMap exC)[j]? = some u→w.cell? ⟨g,o+i * 4+j,none⟩=some u
  | [],_,_=>⟨[],trivial,fun j u h=>by simp at h⟩
  | s :: ss, i, h => by
    obtain ⟨⟨g',o',op,a,b,sa,n,c,h0,h1,h2,h3,h4,h5⟩,h6⟩:=h
    injection h0 with h0
    injection h0 with e1 e2 _
    subst e1 e2
    obtain ⟨Q,hq,hc⟩:=ex_row h6
    refine ⟨(op,a,b,sa,n,c)::Q,⟨h5,hq⟩,fun j u hj => ?_⟩
    rw [List.flatMap_cons] at hj
    match j,hj with
    | 0,hj=>simp [exC] at hj; subst hj; exact h1
    | 1,hj=>simp [exC] at hj; subst hj; exact h2
    | 2,hj=>simp [exC] at hj; subst hj; exact h3
    | 3,hj=>simp [exC] at hj; subst hj; exact h4
    | j+4,hj =>
      have:=hc j u (by simpa [exC] using hj)
      rw [show o+i * 4+(j+4)=o+(i+1) * 4+j from by omega]
      exact this
theorem row_ex {w:World} {g:Nat} : ∀ {ss:List Lx.Ex} {Q:List E6} {i:Nat},exQ w ss Q→(∀ j u,(Q.flatMap exC)[j]? = some u→w.cell? ⟨g,i * 4+j,none⟩=some u)→ExS w ss (some ⟨g,0,none⟩) i
  | [],[],_,_,_=>trivial
  | s :: ss, x :: Q, i, h, hc => by
    refine ⟨⟨g,0,x.1,x.2.1,x.2.2.1,x.2.2.2.1,x.2.2.2.2.1,x.2.2.2.2.2,rfl,?_,?_,?_,?_,h.1⟩,row_ex h.2 fun j u hj => ?_⟩
    · rw [Nat.zero_add]; exact hc 0 _ rfl
    · rw [Nat.zero_add]; exact hc 1 _ rfl
    · rw [Nat.zero_add]; exact hc 2 _ rfl
    · rw [Nat.zero_add]; exact hc 3 _ rfl
    · rw [show (i+1) * 4+j=i * 4+(j+4) from by omega]
      exact hc (j+4) u (by rw [List.flatMap_cons]; simpa [exC] using hj)
  | [],_::_,_,h,_=>h.elim
  | _::_,[],_,h,_=>h.elim
theorem row_exS {w:World} {ss:List Lx.Ex} {Q:List E6} {a:Option Addr} (h:exQ w ss Q) (hr:RowAt w a (Q.flatMap exC)):ExS w ss a 0:=by
  cases ss with
  | nil=>trivial
  | cons s ss =>
    cases Q with
    | nil=>exact h.elim
    | cons x Q =>
      obtain ⟨g,rfl,hc⟩:=hr (by simp [exC])
      exact row_ex h fun j u hj=>by rw [Nat.zero_mul,Nat.zero_add]; exact hc j u hj
theorem exC_app (Q:List E6) (o a b:Int) (n c:Nat) (sa:Option Addr):Q.flatMap exC++[.int .i64 o,.int .i64 a,.int .i64 b,.slice sa n c]=(Q++[(o,a,b,sa,n,c)]).flatMap exC:=by rw [List.flatMap_append]; rfl
theorem addr_add2 {g o j:Nat} : (⟨g,o,none⟩:Addr).add j=⟨g,o+j,none⟩:=by unfold Addr.add; split <;> simp_all
end Go.Proofs.YtbcngfgemjdllaaGreatDoor
end
section
namespace Go.Proofs.YtbcngfgemjdllaaGreatDoor
open Go.RowKit Go.Own
variable {B:Nat} {w0 w:World} {r:List HP}
def LwQ (w:World) (e:Ending) (w':World):Prop:=e=.returned (.bool true)∧Below w.heap.size w w'
theorem gd_of {rs:List Lx.Ex} (h:goodB rs=true):∃ n,GdR rs n:=by
  simp only [goodB,okE,Bool.and_eq_true,List.all_eq_true,decide_eq_true_eq,Bool.not_eq_true'] at h
  obtain ⟨⟨⟨h1,h2⟩,h3⟩,h4⟩:=h
  have hg:Lx.GoodR rs:=fun e he=>⟨⟨5,(h1 e he).1.1⟩,(h1 e he).1.2,(h1 e he).2⟩
  obtain ⟨n,hn⟩:=Lx.nDep hg
  exact ⟨n,hg,(Lx.small_of h3 (fun e he=>⟨(h1 e he).1.1,(h1 e he).2⟩) h4).1,by omega,by omega,by omega,hn⟩
theorem tx_of {s:ByteArray} (h:textB (tx s)=true):(∀ c ∈ tx s,c≤127)∧s.size≤60:=by
  simp only [textB,Bool.and_eq_true,List.all_eq_true,decide_eq_true_eq,tx_len] at h
  exact h
theorem tkV_q5 {ts:List Lx.Tok} : ts.flatMap tkV=(ts.map t5).flatMap q5:=by rw [List.flatMap_map]; rfl
theorem c16x {rs:List Lx.Ex} {sa:Option Addr} {c:Nat} {s:ByteArray} (hl:rs.length≤1000) (hg:Lx.GoodR rs) (hS:ExS w rs sa 0) (hs:s.size<1000000) :
    Calls Tryz.prog 16 #[.slice sa rs.length c,.string s] w fun e' w'=>∃ (X:List T5) (f:Int) (sa':Option Addr) (c':Nat),e'=.returned (.tuple #[.slice sa' X.length c',.int .i64 f])∧(∃ ts,X=ts.map t5∧Lx.AllR rs (tx s) 0 ts f)∧X.length≤s.size∧RowAt w' sa' (X.flatMap q5)∧Below w.heap.size w w':=by
  refine (c16 hl hg hS hs).mono ?_
  rintro e w5 ⟨ts,f,sa2,c2,rfl,hall,htl,h16⟩
  refine ⟨ts.map t5,f,sa2,c2,by rw [List.length_map],⟨ts,rfl,hall⟩,by rw [List.length_map]; exact htl,?_,h16.below⟩
  have hrow:=RowAt.of h16
  rwa [tkV_q5] at hrow
theorem c15x {rules:List Lx.Ex} {n:Nat} (hG:GdR rules n) {sa:Option Addr} {c0:Nat} (hE:ExS w rules sa 0) {s:ByteArray} (ht:∀ c ∈ tx s,c≤127) (hl:s.size≤60) :
    Calls Tryz.prog 15 #[.slice sa rules.length c0,.string s] w fun e w'=>∃ (X:List T5) (f:Int) (a:Option Addr) (c:Nat),e=.returned (.tuple #[.slice a X.length c,.int .i64 f])∧(X=TK rules n (tx s)∧f=(LX rules n (tx s)).2.1)∧X.length≤62∧RowAt w' a (X.flatMap q5)∧Below w.heap.size w w':=by
  have hta:=tx_len s
  refine (c15 hG hE ht hl).mono ?_
  rintro e w5 ⟨a,c,rfl,hrow,hb⟩
  refine ⟨_,_,a,c,rfl,⟨rfl,rfl⟩,?_,hrow,hb⟩
  unfold TK LX
  rw [List.length_map]
  have h1:=List.length_filter_le (fun tk:Lx.Tok=>tk.kind != -1) (Lx.lexF hN hS (Lx.nOut rules) n (Lx.nStop rules) (Lx.nKind rules) (tx s) ((tx s).length+1) dsN 0 1 0).1
  have h2:=lexF_len (h:=hN) (hs:=hS) (out:=Lx.nOut rules) (n:=n) (stop:=Lx.nStop rules) (kindOf:=Lx.nKind rules) (t:=tx s) ((tx s).length+1) dsN 0 1 0
  unfold Lx.noEnd
  omega
end Go.Proofs.YtbcngfgemjdllaaGreatDoor
end
section
namespace Go.Proofs.YtbcngfgemjdllaaGreatDoor
open Go.RowKit Go.Own
variable {B:Nat} {w0 w:World} {r:List HP}
set_option maxRecDepth 100000 in
set_option maxHeartbeats 8000000 in
theorem c3 {subs : List Lx.Ex} {sa : Option Addr} {c : Nat} {s : ByteArray} {nw : Int} (hS : ExS w subs sa 0) (hLs : LenE.LenS subs) : Calls Tryz.prog 3 #[.slice sa subs.length c, .int .i64 nw, .string s] w (LwQ w) := by
  have HH:=Lib.hid (And.intro hS hLs)
  clear hS hLs
  by_cases h1:subs.length≤2147483647
  · by_cases h2 : s.size ≤ 2147483647
    · have i1 : ¬ (2147483647:Int)<(subs.length:Int):=by omega
      have i2 : ¬ (2147483647:Int)<(s.size:Int):=by omega
      have H11:=Lib.hid (c11 (c:=c) (by omega) HH.out.2 HH.out.1)
      have HL:=Lib.hid (And.intro h1 h2)
      clear h1 h2
      go_enter Tryz.func3,Tryz.ntmps3
      go_wp2_with fail
      go_at_call 11
      refine H11.out.mono ?_
      rintro e w1 ⟨sa1,c1,rfl,hS1,hb1⟩
      obtain ⟨gb,hgb⟩:∃ g,g=goodB subs:=⟨_,rfl⟩
      have h12:=c12 (c:=c1) (by have:=HL.out.1; omega) hS1
      rw [← hgb] at h12
      have H12:=Lib.hid h12
      have HS1:=Lib.hid (And.intro hS1 (And.intro hb1 hgb))
      clear h12 hS1 hb1 hgb H11
      go_wp2_with fail
      go_at_call 12
      refine H12.out.mono ?_
      rintro e w2 ⟨rfl,hb2⟩
      have HB2:=Lib.hid (bl_tr HS1.out.2.1 hb2)
      have HS2:=Lib.hid (HS1.out.1.mono hb2)
      clear hb2 H12
      cases gb with
      | false =>
        go_wp2_with fail
        refine bodyPost_ret (v:=.bool true) ?_ rfl ⟨rfl,HB2.out⟩
        simp [results,Tryz.results3,go_sem]
      | true =>
        obtain ⟨n,hG⟩:=gd_of HS1.out.2.2.symm
        obtain ⟨tb,htb⟩:∃ g,g=textB (tx s):=⟨_,rfl⟩
        have h13:=c13 (s:=s) (w:=w2) (by have:=HL.out.2; omega)
        rw [← htb] at h13
        have H13:=Lib.hid h13
        have HT:=Lib.hid (And.intro htb hG)
        clear h13 htb hG
        go_wp2_with fail
        go_at_call 13
        refine H13.out.mono ?_
        rintro e w3 ⟨rfl,rfl⟩
        clear H13
        cases tb with
        | false =>
          go_wp2_with fail
          refine bodyPost_ret (v:=.bool true) ?_ rfl ⟨rfl,HB2.out⟩
          simp [results,Tryz.results3,go_sem]
        | true =>
          obtain ⟨ht1,ht2⟩:=tx_of HT.out.1.symm
          have HTx:=Lib.hid (And.intro ht1 ht2)
          clear ht1 ht2
          by_cases hn0:nw<0
          · go_wp2_with fail
            refine bodyPost_ret (v:=.bool true) ?_ rfl ⟨rfl,HB2.out⟩
            simp [results,Tryz.results3,go_sem]
          · obtain ⟨k, rfl⟩ : ∃ k : Nat, nw = (k : Int) := ⟨nw.toNat, by omega⟩
            by_cases hk:k<subs.length
            · have hk0 : (0 : Int) ≤ (k : Int) := Int.natCast_nonneg _
              have hk1:(k:Int)<(subs.length:Int):=by omega
              have hk2 : ¬ (subs.length:Int)≤(k:Int):=by omega
              have hk3 : ¬ (k:Int)<0:=by omega
              obtain ⟨g,o,_,_,_,_,_,_,rfl,_⟩:=HS2.out.get0 (List.getElem?_eq_getElem hk)
              obtain ⟨Q,hQ,hc⟩:=ex_row HS2.out
              obtain ⟨⟨x0,x1,x2,xa,xn,xc⟩,hx,hxv⟩:=hQ.get (List.getElem?_eq_getElem hk)
              have hfl:=fun t ht=>flatN (f:=exC) (n:=4) (fun _=>rfl) hx (t:=t) ht
              have a0:w3.cell? ⟨g,o+k * 4,none⟩=some (.int .i64 x0):=by have h:=hc _ _ (hfl 0 (by omega)); simpa using h
              have a1:w3.cell? ⟨g,o+k * 4+1,none⟩=some (.int .i64 x1):=by have h:=hc _ _ (hfl 1 (by omega)); simpa [Nat.add_assoc] using h
              have a2:w3.cell? ⟨g,o+k * 4+2,none⟩=some (.int .i64 x2):=by have h:=hc _ _ (hfl 2 (by omega)); simpa [Nat.add_assoc] using h
              have a3:w3.cell? ⟨g,o+k * 4+3,none⟩=some (.slice xa xn xc):=by have h:=hc _ _ (hfl 3 (by omega)); simpa [Nat.add_assoc] using h
              have HE:=St.ownFull (m:=0) (sz:=4) ((St.nil w3).alloc (ob 28 [])).drew rfl (by simp [maxLen])
              have HE2:=(((St.nil w3).alloc (ob 28 [])).alloc (ob 28 [.int .i64 x0,.int .i64 x1,.int .i64 x2,.slice xa xn xc])).drew
              rw [show (w3.alloc (ob 28 [])).heap.size=w3.heap.size+1 from Array.size_push _] at HE2
              have HE2:=St.ownFull (m:=0) (sz:=4) (HE2.pick 1) rfl (by simp [maxLen])
              have HE3:=(((St.nil w3).alloc (ob 28 [.int .i64 x0,.int .i64 x1,.int .i64 x2,.slice xa xn xc])).alloc (ob 28 [])).drew
              rw [show (w3.alloc (ob 28 [.int .i64 x0,.int .i64 x1,.int .i64 x2,.slice xa xn xc])).heap.size=w3.heap.size+1 from Array.size_push _] at HE3
              have HE3:=St.ownFull (m:=0) (sz:=4) HE3 rfl (by simp [maxLen])
              have hnews:∀ (W:World),Below w3.heap.size w3 W→∀ j u,(Q.flatMap exC)[j]? = some u→W.cell? ((⟨g,o,none⟩:Addr).add j)=some u:=fun W hb j u hj=>by
                rw [addr_add2]; have h:=hc j u hj; rw [Nat.zero_mul,Nat.add_zero] at h; exact cell_mono hb h
              have HN:=Lib.hid hnews
              have HQ:=Lib.hid (And.intro hQ (And.intro hx hxv))
              have Hql:=Lib.hid hQ.len
              have d0:(w3.alloc (.cells #[] 28)).cell? ⟨g,o+k * 4,none⟩=some (.int .i64 x0):=cell_mono ((St.nil w3).alloc (ob 28 [])).below a0
              have d1:(w3.alloc (.cells #[] 28)).cell? ⟨g,o+k * 4+1,none⟩=some (.int .i64 x1):=cell_mono ((St.nil w3).alloc (ob 28 [])).below a1
              have d2:(w3.alloc (.cells #[] 28)).cell? ⟨g,o+k * 4+2,none⟩=some (.int .i64 x2):=cell_mono ((St.nil w3).alloc (ob 28 [])).below a2
              have d3:(w3.alloc (.cells #[] 28)).cell? ⟨g,o+k * 4+3,none⟩=some (.slice xa xn xc):=cell_mono ((St.nil w3).alloc (ob 28 [])).below a3
              have HE1:=Lib.hid HE
              have HE2:=Lib.hid HE2
              have HE3:=Lib.hid HE3
              clear hnews hQ hx hxv hfl hc HE
              go_wp2_with fail
              go_region_law
                (first
                  | (refine step_append1_st (v:=.slice a5 subs.length c5) rfl _ _ rfl sl23 (g:=w5.heap.size) (news:=[.int .i64 x0,.int .i64 x1,.int .i64 x2,.slice xa xn xc]) (by exact HA5.out) rfl 1 rfl rfl rfl (by simp [Value.oneCell']) (by have:=HL.out.1; simp only [maxLen]; omega) (by have:=HL.out.1; omega) ?_
                     intro a6 c6 w6 H6)
                  | (refine step_append1_st (v:=.slice a5 subs.length c5) rfl _ _ rfl sl23 (g:=w3.heap.size+1) (news:=[.int .i64 x0,.int .i64 x1,.int .i64 x2,.slice xa xn xc]) (by exact HA7.out) rfl 1 rfl rfl rfl (by simp [Value.oneCell']) (by have:=HL.out.1; simp only [maxLen]; omega) (by have:=HL.out.1; omega) ?_
                     intro a6 c6 w6 H6)
                  | (refine step_append1_st (v:=.slice a5 subs.length c5) rfl _ _ rfl sl23 (g:=w3.heap.size) (news:=[.int .i64 x0,.int .i64 x1,.int .i64 x2,.slice xa xn xc]) (by exact HA9.out) rfl 1 rfl rfl rfl (by simp [Value.oneCell']) (by have:=HL.out.1; simp only [maxLen]; omega) (by have:=HL.out.1; omega) ?_
                     intro a6 c6 w6 H6)
                  | (refine step_append_st (v:=.slice (some ⟨w3.heap.size,0,none⟩) 0 0) (xs:=[]) (n:=0) rfl _ _ rfl sl23 (by exact HE1.out) rfl ⟨g,o,none⟩ subs.length c1 (Q.flatMap exC) rfl (by rw [exC_len,Hql.out]) (by exact HN.out _ HE1.out.below) (exC_one Q) (by have:=HL.out.1; simp only [maxLen]; omega) (by have:=HL.out.1; omega) ?_
                     intro a5 c5 w5 H5
                     simp only [Nat.zero_add,List.nil_append] at H5
                     have b0:w5.cell? ⟨g,o+k * 4,none⟩=some (.int .i64 x0):=cell_mono H5.below a0
                     have b1:w5.cell? ⟨g,o+k * 4+1,none⟩=some (.int .i64 x1):=cell_mono H5.below a1
                     have b2:w5.cell? ⟨g,o+k * 4+2,none⟩=some (.int .i64 x2):=cell_mono H5.below a2
                     have b3:w5.cell? ⟨g,o+k * 4+3,none⟩=some (.slice xa xn xc):=cell_mono H5.below a3
                     have HA5:=Lib.hid (H5.alloc (ob 28 [.int .i64 x0,.int .i64 x1,.int .i64 x2,.slice xa xn xc]))
                     clear H5)
                  | (refine step_append_st (v:=.slice (some ⟨w3.heap.size,0,none⟩) 0 0) (xs:=[]) (n:=0) rfl _ _ rfl sl23 (by exact HE2.out) rfl ⟨g,o,none⟩ subs.length c1 (Q.flatMap exC) rfl (by rw [exC_len,Hql.out]) (by exact HN.out _ HE2.out.below) (exC_one Q) (by have:=HL.out.1; simp only [maxLen]; omega) (by have:=HL.out.1; omega) ?_
                     intro a5 c5 w5 H5
                     simp only [Nat.zero_add,List.nil_append] at H5
                     have HA7:=Lib.hid (H5.pick 1)
                     clear H5)
                  | (refine step_append_st (v:=.slice (some ⟨w3.heap.size+1,0,none⟩) 0 0) (xs:=[]) (n:=0) rfl _ _ rfl sl23 (by exact HE3.out) rfl ⟨g,o,none⟩ subs.length c1 (Q.flatMap exC) rfl (by rw [exC_len,Hql.out]) (by exact HN.out _ HE3.out.below) (exC_one Q) (by have:=HL.out.1; simp only [maxLen]; omega) (by have:=HL.out.1; omega) ?_
                     intro a5 c5 w5 H5
                     simp only [Nat.zero_add,List.nil_append] at H5
                     have HA9:=Lib.hid (H5.pick 1)
                     clear H5))
              all_goals
                have HR6:=RowAt.of H6
                rw [exC_app] at HR6
                have hrx:∃ sk,subs[k]? = some sk∧ExS w6 (subs++[sk]) a6 0 :=
                  ⟨_,List.getElem?_eq_getElem hk,row_exS (exQ.mono H6.below (HQ.out.1.app (ss':=[subs[k]]) (Q':=[_]) ⟨HQ.out.2.2,trivial⟩)) HR6⟩
                obtain ⟨sk,hsk,hE⟩:=hrx
                have HE:=Lib.hid (And.intro hE hsk)
                have HB3:=Lib.hid (bl_tr HB2.out H6.below)
                have HS3:=Lib.hid (HS2.out.mono H6.below)
                have hml:subs.length+1=(subs++[sk]).length:=by rw [List.length_append]; rfl
                have Hml:=Lib.hid hml
                obtain ⟨gb2,hgb2⟩:∃ g,g=goodB (subs++[sk]):=⟨_,rfl⟩
                have h12:=c12 (c:=c6) (by rw [← hml]; have:=HL.out.1; omega) hE
                rw [← hgb2,← hml] at h12
                have H12:=Lib.hid h12
                have HG2:=Lib.hid hgb2
                clear hE H6 HR6 hml HS2 HB2 h12 hgb2 hsk a0 a1 a2 a3 d0 d1 d2 d3 HE1 HE2 HE3 HN HQ
                go_wp2_with fail
                go_at_call 12
                refine H12.out.mono ?_
                rintro e wz ⟨rfl,hbz⟩
                have HE:=Lib.hid (And.intro (HE.out.1.mono hbz) HE.out.2)
                have HB3:=Lib.hid (bl_tr HB3.out hbz)
                have HS3:=Lib.hid (HS3.out.mono hbz)
                clear hbz H12
                cases gb2 with
                | false =>
                  go_wp2_with fail
                  refine bodyPost_ret (v:=.bool true) ?_ rfl ⟨rfl,HB3.out⟩
                  simp [results,Tryz.results3,go_sem]
                | true =>
                  obtain ⟨n2,hG2⟩:=gd_of HG2.out.symm
                  have HG2:=Lib.hid hG2
                  have H14:=Lib.hid (c14 (c0:=c1) HT.out.2 HS3.out HTx.out.1 HTx.out.2)
                  clear hG2
                  go_wp2_with fail
                  go_at_call 14
                  refine H14.out.mono ?_
                  rintro e w4 ⟨ab,rfl,hap,hb4⟩
                  have HA:=Lib.hid (And.intro hap (And.intro (bl_tr HB3.out hb4) (And.intro (HS3.out.mono hb4) (HE.out.1.mono hb4))))
                  clear hap hb4 H14 HB3 HS3
                  cases ab with
                  | false =>
                    go_wp2_with fail
                    refine bodyPost_ret (v:=.bool true) ?_ rfl ⟨rfl,HA.out.2.1⟩
                    simp [results,Tryz.results3,go_sem]
                  | true =>
                    have h14:=c14 (c0:=c6) HG2.out HA.out.2.2.2 HTx.out.1 HTx.out.2
                    rw [← Hml.out] at h14
                    have H14:=Lib.hid h14
                    clear h14
                    go_wp2_with fail
                    go_at_call 14
                    refine H14.out.mono ?_
                    rintro e w5 ⟨ab2,rfl,hap2,hb5⟩
                    have HA5:=Lib.hid (And.intro hap2 (And.intro (bl_tr HA.out.2.1 hb5) (And.intro (HA.out.2.2.1.mono hb5) (HA.out.2.2.2.mono hb5))))
                    have HAP:=Lib.hid (HA.out.1 (by first | trivial | rfl))
                    clear hap2 hb5 H14 HA
                    cases ab2 with
                    | false =>
                      go_wp2_with fail
                      refine bodyPost_ret (v:=.bool true) ?_ rfl ⟨rfl,HA5.out.2.1⟩
                      simp [results,Tryz.results3,go_sem]
                    | true =>
                      have HAP2:=Lib.hid (HA5.out.1 (by first | trivial | rfl))
                      have H15:=Lib.hid (c15x (c0:=c1) HT.out.2 HA5.out.2.2.1 HTx.out.1 HTx.out.2)
                      go_wp2_with fail
                      go_at_call 15
                      refine H15.out.mono ?_
                      rintro e w6 ⟨X,f,a8,c8,rfl,hXf,hXl,hrow6,hb6⟩
                      have HX:=Lib.hid (And.intro hXf hXl)
                      have HR6:=Lib.hid (And.intro hrow6 (And.intro (bl_tr HA5.out.2.1 hb6) (And.intro (HA5.out.2.2.1.mono hb6) (HA5.out.2.2.2.mono hb6))))
                      have h15:=c15x (c0:=c6) HG2.out HR6.out.2.2.2 HTx.out.1 HTx.out.2
                      rw [← Hml.out] at h15
                      have H152:=Lib.hid h15
                      clear hXf hXl hrow6 hb6 H15 HA5 h15
                      go_wp2_with fail
                      go_at_call 15
                      refine H152.out.mono ?_
                      rintro e w7 ⟨X2,f2,a9,c9,rfl,hXf2,hXl2,hrow7,hb7⟩
                      have HX2:=Lib.hid (And.intro hXf2 hXl2)
                      have HR7:=Lib.hid (And.intro (HR6.out.1.mono hb7) (And.intro hrow7 (And.intro (bl_tr HR6.out.2.1 hb7) (HR6.out.2.2.1.mono hb7))))
                      have H16:=Lib.hid (c16x (c:=c1) (s:=s) (by have:=HT.out.2.len; omega) HT.out.2.good HR7.out.2.2.2 (by have:=HTx.out.2; omega))
                      clear hXf2 hXl2 hrow7 hb7 H152 HR6
                      go_wp2_with fail
                      go_at_call 16
                      refine H16.out.mono ?_
                      rintro e w10 ⟨Y,f6,sa10,c10,rfl,hall,htl,hrow8,hb8⟩
                      have hXY:(X=Y∧f=f6)∧X2=Y∧f2=f6:=by
                        obtain ⟨ts,rfl,hts⟩:=hall
                        have h:=tk_ok HT.out.2 HAP.out hts
                        have h2:=tk_ok HG2.out HAP2.out (Lx.allR_app HE.out.2 hts)
                        have h3:=HX.out.1
                        have h4:=HX2.out.1
                        rw [h3.1,h3.2,h4.1,h4.2]; exact ⟨h,h2⟩
                      obtain ⟨⟨rfl,rfl⟩,rfl,rfl⟩:=hXY
                      have HR8:=Lib.hid (And.intro (HR7.out.1.mono hb8) (And.intro (HR7.out.2.1.mono hb8) (bl_tr HR7.out.2.2.1 hb8)))
                      have h17:=(c17 (c:=c8) (d:=c9) HR8.out.1 HR8.out.2.1 (by have:=HX.out.2; omega)).mono (fun e w' h=>show e=.returned (.bool true)∧Below w10.heap.size w10 w' from ⟨by rw [h.1,decide_eq_true rfl],h.2⟩)
                      have H17:=Lib.hid h17
                      clear hrow8 hb8 hall htl H16 HR7 h17
                      go_wp2_with fail
                      go_at_call 17
                      refine H17.out.mono ?_
                      rintro e w11 ⟨rfl,hb9⟩
                      have HB9:=Lib.hid (bl_tr HR8.out.2.2 hb9)
                      clear hb9 H17 HR8
                      go_wp2_with fail
                      refine bodyPost_ret (v:=.bool true) ?_ rfl ⟨rfl,HB9.out⟩
                      simp [results,Tryz.results3,go_sem]
            · have hk1:(subs.length:Int)≤(k:Int):=by omega
              have hk2 : ¬ (k:Int)<(subs.length:Int):=by omega
              go_wp2_with fail
              refine bodyPost_ret (v:=.bool true) ?_ rfl ⟨rfl,HB2.out⟩
              simp [results,Tryz.results3,go_sem]
    · have i1 : ¬ (2147483647:Int)<(subs.length:Int):=by omega
      have i2:(2147483647:Int)<(s.size:Int):=by omega
      clear h1 h2
      go_enter Tryz.func3,Tryz.ntmps3
      go_wp2_with fail
      refine bodyPost_ret (v:=.bool true) ?_ rfl ⟨rfl,(St.nil w).below⟩
      simp [results,Tryz.results3,go_sem]
  · have i1:(2147483647:Int)<(subs.length:Int):=by omega
    clear h1
    go_enter Tryz.func3,Tryz.ntmps3
    go_wp2_with fail
    refine bodyPost_ret (v:=.bool true) ?_ rfl ⟨rfl,(St.nil w).below⟩
    simp [results,Tryz.results3,go_sem]
end Go.Proofs.YtbcngfgemjdllaaGreatDoor
end
