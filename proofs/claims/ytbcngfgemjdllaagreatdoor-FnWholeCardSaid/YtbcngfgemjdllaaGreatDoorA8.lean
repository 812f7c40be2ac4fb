/- Part A8: L3g, L8. No conditions beyond those each statement names. -/
import Derived.BigQuiet
import Derived.Test.YtbcngfgemjdllaaGreatDoorB14
import Derived.Test.YtbcngfgemjdllaaGreatDoorB45
import Derived.Test.YtbcngfgemjdllaaGreatDoorB47
set_option linter.unusedVariables false
set_option linter.unusedSimpArgs false
section
namespace Go.Proofs.YtbcngfgemjdllaaGreatDoor
open Go.RowKit Go.Own
variable {B:Nat} {w0 w:World} {r:List HP}
def LwQ (w:World) (e:Ending) (w':World):Prop:=e=.returned (.bool true)∧Below w.heap.size w w'
theorem gd_of {rs:List Lx.Ex} (h:goodB rs=true):∃ n,GdR rs n:=by
  simp only [goodB,okE,Bool.and_eq_true,List.all_eq_true,decide_eq_true_eq,Bool.not_eq_true'] at h
  obtain ⟨⟨⟨h1,h2⟩,h3⟩,h4⟩:=h
  have hg:Lx.GoodR rs:=fun e he=>⟨⟨5,(h1 e he).1.1⟩,(h1 e he).1.2,(h1 e he).2⟩
  obtain ⟨n,hn⟩:=Lx.nDep hg
  exact ⟨n,hg,(Lx.small_of h3 (fun e he=>⟨(h1 e he).1.1,(h1 e he).2⟩) h4).1,by omega,by omega,by omega,hn⟩
theorem tx_of {s:ByteArray} (h:textB (tx s)=true):(∀ c ∈ tx s,c≤127)∧s.size≤60:=by
  simp only [textB,Bool.and_eq_true,List.all_eq_true,decide_eq_true_eq,tx_len] at h
  exact h
theorem tkV_q5 {ts:List Lx.Tok} : ts.flatMap tkV=(ts.map t5).flatMap q5:=by rw [List.flatMap_map]; rfl
theorem c16x {rs:List Lx.Ex} {sa:Option Addr} {c:Nat} {s:ByteArray} (hl:rs.length≤1000) (hg:Lx.GoodR rs) (hS:ExS w rs sa 0) (hs:s.size<1000000) :
    Calls Tryz.prog 16 #[.slice sa rs.length c,.string s] w fun e' w'=>∃ (X:List T5) (f:Int) (sa':Option Addr) (c':Nat),e'=.returned (.tuple #[.slice sa' X.length c',.int .i64 f])∧(∃ ts,X=ts.map t5∧Lx.AllR rs (tx s) 0 ts f)∧X.length≤s.size∧RowAt w' sa' (X.flatMap q5)∧Below w.heap.size w w':=by
  refine (c16 hl hg hS hs).mono ?_
  rintro e w5 ⟨ts,f,sa2,c2,rfl,hall,htl,h16⟩
  refine ⟨ts.map t5,f,sa2,c2,by rw [List.length_map],⟨ts,rfl,hall⟩,by rw [List.length_map]; exact htl,?_,h16.below⟩
  have hrow:=RowAt.of h16
  rwa [tkV_q5] at hrow
theorem c15x {rules:List Lx.Ex} {n:Nat} (hG:GdR rules n) {sa:Option Addr} {c0:Nat} (hE:ExS w rules sa 0) {s:ByteArray} (ht:∀ c ∈ tx s,c≤127) (hl:s.size≤60) :
    Calls Tryz.prog 15 #[.slice sa rules.length c0,.string s] w fun e w'=>∃ (X:List T5) (f:Int) (a:Option Addr) (c:Nat),e=.returned (.tuple #[.slice a X.length c,.int .i64 f])∧(X=TK rules n (tx s)∧f=(LX rules n (tx s)).2.1)∧X.length≤62∧RowAt w' a (X.flatMap q5)∧Below w.heap.size w w':=by
  have hta:=tx_len s
  refine (c15 hG hE ht hl).mono ?_
  rintro e w5 ⟨a,c,rfl,hrow,hb⟩
  refine ⟨_,_,a,c,rfl,⟨rfl,rfl⟩,?_,hrow,hb⟩
  unfold TK LX
  rw [List.length_map]
  have h1:=List.length_filter_le (fun tk:Lx.Tok=>tk.kind != -1) (Lx.lexF hN hS (Lx.nOut rules) n (Lx.nStop rules) (Lx.nKind rules) (tx s) ((tx s).length+1) dsN 0 1 0).1
  have h2:=lexF_len (h:=hN) (hs:=hS) (out:=Lx.nOut rules) (n:=n) (stop:=Lx.nStop rules) (kindOf:=Lx.nKind rules) (t:=tx s) ((tx s).length+1) dsN 0 1 0
  unfold Lx.noEnd
  omega
end Go.Proofs.YtbcngfgemjdllaaGreatDoor
end
section
namespace Go.Proofs.YtbcngfgemjdllaaGreatDoor
open Go.RowKit Go.Own
variable {B:Nat} {w0 w:World} {r:List HP}
def eW (X:List T5):Nat→Int
  | 0=>0
  | k+1=>((X[k]?).getD (0,0,0,0,0)).2.2.1
theorem eW_succ {X:List T5} {k:Nat} {x:T5} (h:X[k]? = some x):eW X (k+1)=x.2.2.1:=by simp [eW,h]
def WhP (X:List T5) (f:Int) (len m:Nat):Prop :=
  (∀ (k:Nat) (x:T5),X[k]? = some x→x.2.1=eW X k∧x.2.1<x.2.2.1∧1≤x.1∧x.1≤(m:Int)) ∧
    ((f = -1∧eW X X.length=(len:Int))∨(f=eW X X.length∧0≤eW X X.length∧eW X X.length<(len:Int)))
theorem eW_map {ts:List Lx.Tok} {k:Nat} : eW (ts.map t5) (k+1)=(((ts.map Lx.Tok.stop)[k]?).getD 0:Nat):=by
  simp only [eW,List.getElem?_map]
  cases ts[k]? <;> rfl
theorem eW_last {ts:List Lx.Tok} : eW (ts.map t5) (ts.map t5).length=((((ts.map Lx.Tok.stop).getLast?).getD 0:Nat):Int):=by
  rw [List.length_map,List.getLast?_eq_getElem?,List.length_map]
  cases h:ts.length with
  | zero=>simp [List.length_eq_zero_iff.1 h,eW]
  | succ m=>rw [eW_map]; rfl
theorem whP {rules:List Lx.Ex} {n:Nat} {t:List Nat} (h:Lx.AllR rules t 0 (Lx.noEnd (LX rules n t).1) (LX rules n t).2.1):WhP (TK rules n t) (LX rules n t).2.1 t.length rules.length:=by
  obtain ⟨h1,h2⟩:=h.facts
  unfold TK
  refine ⟨fun k x hx => ?_,?_⟩
  · rw [List.getElem?_map] at hx
    obtain ⟨tk,htk,rfl⟩:=Option.map_eq_some_iff.1 hx
    obtain ⟨a1,a2,_,⟨r,a4,a5,_⟩,_⟩:=h1 k tk htk
    simp only [t5]
    refine ⟨?_,by omega,by omega,by omega⟩
    rw [a1]
    cases k with
    | zero=>simp [eW]
    | succ k=>rw [eW_map]; simp
  · rw [eW_last]
    rcases h2 with ⟨h3,h4⟩ | ⟨h3,h4,_⟩
    · exact .inl ⟨h3,by rw [h4]⟩
    · exact .inr ⟨h3,Int.natCast_nonneg _,by omega⟩
def R8 (w:World) (X:List T5) (i a:Value) (wr:World):Prop:=∃ k:Nat,k≤X.length∧i=.int .i64 (k:Int)∧a=.int .i64 (eW X k)∧St w.heap.size w [] wr
set_option maxRecDepth 100000 in
set_option maxHeartbeats 8000000 in
theorem c8 {subs : List Lx.Ex} {sa : Option Addr} {c : Nat} {s : ByteArray} (hS : ExS w subs sa 0) (hLs : LenE.LenS subs) : Calls Tryz.prog 8 #[.slice sa subs.length c, .string s] w (LwQ w) := by
  have HH:=Lib.hid (And.intro hS hLs)
  clear hS hLs
  by_cases h1:subs.length≤2147483647
  · by_cases h2 : s.size ≤ 2147483647
    · have i1 : ¬ (2147483647:Int)<(subs.length:Int):=by omega
      have i2 : ¬ (2147483647:Int)<(s.size:Int):=by omega
      have H11:=Lib.hid (c11 (c:=c) (by omega) HH.out.2 HH.out.1)
      have HL:=Lib.hid (And.intro h1 h2)
      clear h1 h2
      go_enter Tryz.func8,Tryz.ntmps8
      go_wp2_with fail
      go_at_call 11
      refine H11.out.mono ?_
      rintro e w1 ⟨sa1,c1,rfl,hS1,hb1⟩
      obtain ⟨gb,hgb⟩:∃ g,g=goodB subs:=⟨_,rfl⟩
      have h12:=c12 (c:=c1) (by have:=HL.out.1; omega) hS1
      rw [← hgb] at h12
      have H12:=Lib.hid h12
      have HS1:=Lib.hid (And.intro hS1 (And.intro hb1 hgb))
      clear h12 hS1 hb1 hgb H11
      go_wp2_with fail
      go_at_call 12
      refine H12.out.mono ?_
      rintro e w2 ⟨rfl,hb2⟩
      have HB2:=Lib.hid (bl_tr HS1.out.2.1 hb2)
      have HS2:=Lib.hid (HS1.out.1.mono hb2)
      clear hb2 H12
      cases gb with
      | false =>
        go_wp2_with fail
        refine bodyPost_ret (v:=.bool true) ?_ rfl ⟨rfl,HB2.out⟩
        simp [results,Tryz.results8,go_sem]
      | true =>
        obtain ⟨n,hG⟩:=gd_of HS1.out.2.2.symm
        obtain ⟨tb,htb⟩:∃ g,g=textB (tx s):=⟨_,rfl⟩
        have h13:=c13 (s:=s) (w:=w2) (by have:=HL.out.2; omega)
        rw [← htb] at h13
        have H13:=Lib.hid h13
        have HT:=Lib.hid (And.intro htb hG)
        clear h13 htb hG
        go_wp2_with fail
        go_at_call 13
        refine H13.out.mono ?_
        rintro e w3 ⟨rfl,rfl⟩
        clear H13
        cases tb with
        | false =>
          go_wp2_with fail
          refine bodyPost_ret (v:=.bool true) ?_ rfl ⟨rfl,HB2.out⟩
          simp [results,Tryz.results8,go_sem]
        | true =>
          obtain ⟨ht1,ht2⟩:=tx_of HT.out.1.symm
          have H14:=Lib.hid (c14 (c0:=c1) HT.out.2 HS2.out ht1 ht2)
          have HTx:=Lib.hid (And.intro ht1 ht2)
          clear ht1 ht2
          go_wp2_with fail
          go_at_call 14
          refine H14.out.mono ?_
          rintro e w4 ⟨ab,rfl,hap,hb4⟩
          have HA:=Lib.hid (And.intro hap (And.intro (bl_tr HB2.out hb4) (HS2.out.mono hb4)))
          clear hap hb4 H14
          cases ab with
          | false =>
            go_wp2_with fail
            refine bodyPost_ret (v:=.bool true) ?_ rfl ⟨rfl,HA.out.2.1⟩
            simp [results,Tryz.results8,go_sem]
          | true =>
            have H15:=Lib.hid (c15x (c0:=c1) HT.out.2 HA.out.2.2 HTx.out.1 HTx.out.2)
            go_wp2_with fail
            go_at_call 15
            refine H15.out.mono ?_
            rintro e w6 ⟨X,f6,a6,c6,rfl,hXf,hXl,hrow6,hb6⟩
            have hwh:WhP X f6 s.size subs.length:=by
              obtain ⟨rfl,rfl⟩:=hXf
              have h:=whP (model_ok HT.out.2 (HA.out.1 (by first | trivial | rfl)))
              rw [tx_len] at h
              exact h
            have HE:=Lib.hid (And.intro hrow6 (And.intro (bl_tr HA.out.2.1 hb6) hwh))
            have HX:=Lib.hid hXl
            clear hXf hrow6 hb6 hXl H15 hwh
            go_wp2_with fail
            go_loopw [43,8] (R8 w6 X) (fun i _ _=>X.length - (intOf i).toNat)
            case atStart=>exact ⟨0,Nat.zero_le _,rfl,rfl,St.nil w6⟩
            case round =>
              obtain ⟨k,hk,rfl,rfl,H1⟩:=hrel
              by_cases hlt:k<X.length
              · have hk0:(0:Int)≤(k:Int):=Int.natCast_nonneg _
                have hk1:(k:Int)<(X.length:Int):=by omega
                have Hw:=Lib.hid (wrapS hlt (by have:=HX.out; omega))
                obtain ⟨⟨x1,x2,x3,x4,x5⟩,hx⟩:∃ x,X[k]? = some x:=⟨_,List.getElem?_eq_getElem hlt⟩
                obtain ⟨g,rfl,hgx⟩:=(HE.out.1.mono H1.below).get (f:=q5) (n:=5) (fun _=>rfl) (by omega) hx
                have hE1:=eW_succ hx
                obtain ⟨p1,p2,p3,p4⟩:=HE.out.2.2.1 k _ hx
                simp only at p1 p2 p3 p4 hE1
                rw [← p1]
                have H2:=H1.alloc (ob 36 [.int .i64 x1,.int .i64 x2,.int .i64 x3,.int .i64 x4,.int .i64 x5])
                have e0:wr.cell? ⟨g,k * 5,none⟩=some (.int .i64 x1):=hgx 0 _ rfl
                have e1:wr.cell? ⟨g,k * 5+1,none⟩=some (.int .i64 x2):=hgx 1 _ rfl
                have e2:wr.cell? ⟨g,k * 5+2,none⟩=some (.int .i64 x3):=hgx 2 _ rfl
                have e3:wr.cell? ⟨g,k * 5+3,none⟩=some (.int .i64 x4):=hgx 3 _ rfl
                have e4:wr.cell? ⟨g,k * 5+4,none⟩=some (.int .i64 x5):=hgx 4 _ rfl
                have d0:(wr.alloc (.cells #[.int .i64 x1,.int .i64 x2,.int .i64 x3,.int .i64 x4,.int .i64 x5] 36)).cell? ⟨wr.heap.size,0,none⟩=some (.int .i64 x1):=H2.cells.1 0
                have d1:(wr.alloc (.cells #[.int .i64 x1,.int .i64 x2,.int .i64 x3,.int .i64 x4,.int .i64 x5] 36)).cell? ⟨wr.heap.size,1,none⟩=some (.int .i64 x2):=H2.cells.1 1
                have d2:(wr.alloc (.cells #[.int .i64 x1,.int .i64 x2,.int .i64 x3,.int .i64 x4,.int .i64 x5] 36)).cell? ⟨wr.heap.size,2,none⟩=some (.int .i64 x3):=H2.cells.1 2
                have b1:(x2 != x2)=false:=bne_self_eq_false _
                have b2 : ¬ x3≤x2:=by omega
                have b3 : ¬ x1<1:=by omega
                have b4 : ¬ (subs.length:Int)<x1:=by omega
                have HP:=Lib.hid (And.intro H1 (And.intro H2 hE1))
                clear H1 H2 hx hgx hE1 p1 p2 p3 p4
                go_wp2_with fail
                first | rw [Hw.out] | rw [show ((k:Int)+1)=((k+1:Nat):Int) from by omega]
                refine ⟨⟨k+1,hlt,rfl,by rw [HP.out.2.2],?_⟩,measS hlt⟩
                exact HP.out.2.1.drop
              · have hk1 : ¬ (k:Int)<(X.length:Int):=by omega
                have hkl:k=X.length:=by omega
                subst hkl
                have hend:=HE.out.2.2.2
                have HD:=Lib.hid H1
                clear H1
                obtain ⟨v,hv⟩:∃ v,v=eW X X.length:=⟨_,rfl⟩
                rw [← hv] at hend ⊢
                clear hv
                rcases hend with ⟨rfl,hend⟩ | ⟨rfl,h0,hend⟩
                · subst hend
                  go_wp2_with fail
                  refine bodyPost_ret (v:=.bool true) ?_ rfl ⟨rfl,bl_tr HE.out.2.1 HD.out.below⟩
                  simp [results,Tryz.results8,go_sem]
                · have j1:(f6 == (-1:Int))=false:=beq_eq_false_iff_ne.2 (by omega)
                  have j2:(f6 == f6)=true:=beq_self_eq_true _
                  have j3:f6<(s.size:Int):=hend
                  clear h0 hend
                  go_wp2_with fail
                  refine bodyPost_ret (v:=.bool true) ?_ rfl ⟨rfl,bl_tr HE.out.2.1 HD.out.below⟩
                  simp [results,Tryz.results8,go_sem]
    · have i1 : ¬ (2147483647:Int)<(subs.length:Int):=by omega
      have i2:(2147483647:Int)<(s.size:Int):=by omega
      clear h1 h2
      go_enter Tryz.func8,Tryz.ntmps8
      go_wp2_with fail
      refine bodyPost_ret (v:=.bool true) ?_ rfl ⟨rfl,(St.nil w).below⟩
      simp [results,Tryz.results8,go_sem]
  · have i1:(2147483647:Int)<(subs.length:Int):=by omega
    clear h1
    go_enter Tryz.func8,Tryz.ntmps8
    go_wp2_with fail
    refine bodyPost_ret (v:=.bool true) ?_ rfl ⟨rfl,(St.nil w).below⟩
    simp [results,Tryz.results8,go_sem]
end Go.Proofs.YtbcngfgemjdllaaGreatDoor
end
