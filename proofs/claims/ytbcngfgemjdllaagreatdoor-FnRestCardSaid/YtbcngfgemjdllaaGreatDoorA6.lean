/- Part A6: L3g, L6. No conditions beyond those each statement names. -/
import Derived.BigQuiet
import Derived.Test.YtbcngfgemjdllaaGreatDoorB14
import Derived.Test.YtbcngfgemjdllaaGreatDoorB45
import Derived.Test.YtbcngfgemjdllaaGreatDoorB47
set_option linter.unusedVariables false
set_option linter.unusedSimpArgs false
section
namespace Go.Proofs.YtbcngfgemjdllaaGreatDoor
open Go.RowKit Go.Own
variable {B:Nat} {w0 w:World} {r:List HP}
def LwQ (w:World) (e:Ending) (w':World):Prop:=e=.returned (.bool true)∧Below w.heap.size w w'
theorem gd_of {rs:List Lx.Ex} (h:goodB rs=true):∃ n,GdR rs n:=by
  simp only [goodB,okE,Bool.and_eq_true,List.all_eq_true,decide_eq_true_eq,Bool.not_eq_true'] at h
  obtain ⟨⟨⟨h1,h2⟩,h3⟩,h4⟩:=h
  have hg:Lx.GoodR rs:=fun e he=>⟨⟨5,(h1 e he).1.1⟩,(h1 e he).1.2,(h1 e he).2⟩
  obtain ⟨n,hn⟩:=Lx.nDep hg
  exact ⟨n,hg,(Lx.small_of h3 (fun e he=>⟨(h1 e he).1.1,(h1 e he).2⟩) h4).1,by omega,by omega,by omega,hn⟩
theorem tx_of {s:ByteArray} (h:textB (tx s)=true):(∀ c ∈ tx s,c≤127)∧s.size≤60:=by
  simp only [textB,Bool.and_eq_true,List.all_eq_true,decide_eq_true_eq,tx_len] at h
  exact h
theorem tkV_q5 {ts:List Lx.Tok} : ts.flatMap tkV=(ts.map t5).flatMap q5:=by rw [List.flatMap_map]; rfl
theorem c16x {rs:List Lx.Ex} {sa:Option Addr} {c:Nat} {s:ByteArray} (hl:rs.length≤1000) (hg:Lx.GoodR rs) (hS:ExS w rs sa 0) (hs:s.size<1000000) :
    Calls Tryz.prog 16 #[.slice sa rs.length c,.string s] w fun e' w'=>∃ (X:List T5) (f:Int) (sa':Option Addr) (c':Nat),e'=.returned (.tuple #[.slice sa' X.length c',.int .i64 f])∧(∃ ts,X=ts.map t5∧Lx.AllR rs (tx s) 0 ts f)∧X.length≤s.size∧RowAt w' sa' (X.flatMap q5)∧Below w.heap.size w w':=by
  refine (c16 hl hg hS hs).mono ?_
  rintro e w5 ⟨ts,f,sa2,c2,rfl,hall,htl,h16⟩
  refine ⟨ts.map t5,f,sa2,c2,by rw [List.length_map],⟨ts,rfl,hall⟩,by rw [List.length_map]; exact htl,?_,h16.below⟩
  have hrow:=RowAt.of h16
  rwa [tkV_q5] at hrow
theorem c15x {rules:List Lx.Ex} {n:Nat} (hG:GdR rules n) {sa:Option Addr} {c0:Nat} (hE:ExS w rules sa 0) {s:ByteArray} (ht:∀ c ∈ tx s,c≤127) (hl:s.size≤60) :
    Calls Tryz.prog 15 #[.slice sa rules.length c0,.string s] w fun e w'=>∃ (X:List T5) (f:Int) (a:Option Addr) (c:Nat),e=.returned (.tuple #[.slice a X.length c,.int .i64 f])∧(X=TK rules n (tx s)∧f=(LX rules n (tx s)).2.1)∧X.length≤62∧RowAt w' a (X.flatMap q5)∧Below w.heap.size w w':=by
  have hta:=tx_len s
  refine (c15 hG hE ht hl).mono ?_
  rintro e w5 ⟨a,c,rfl,hrow,hb⟩
  refine ⟨_,_,a,c,rfl,⟨rfl,rfl⟩,?_,hrow,hb⟩
  unfold TK LX
  rw [List.length_map]
  have h1:=List.length_filter_le (fun tk:Lx.Tok=>tk.kind != -1) (Lx.lexF hN hS (Lx.nOut rules) n (Lx.nStop rules) (Lx.nKind rules) (tx s) ((tx s).length+1) dsN 0 1 0).1
  have h2:=lexF_len (h:=hN) (hs:=hS) (out:=Lx.nOut rules) (n:=n) (stop:=Lx.nStop rules) (kindOf:=Lx.nKind rules) (t:=tx s) ((tx s).length+1) dsN 0 1 0
  unfold Lx.noEnd
  omega
end Go.Proofs.YtbcngfgemjdllaaGreatDoor
end
section
namespace Go.Proofs.YtbcngfgemjdllaaGreatDoor
open Go.RowKit Go.Own
variable {B:Nat} {w0 w:World} {r:List HP}
theorem tx_extract (s:ByteArray) (p:Nat):tx (s.extract p s.size)=(tx s).drop p:=by
  have h:(s.extract p s.size).data.toList=s.data.toList.drop p:=by
    rw [ByteArray.data_extract,Array.toList_extract]
    have h2:s.data.toList.length=s.size:=rfl
    simp only [List.extract]
    rw [← h2]
    exact List.take_of_length_le (by rw [List.length_drop]; exact Nat.le_refl _)
  unfold tx
  rw [h,List.map_drop]
theorem allR_ge {rules:List Lx.Ex} {t:List Nat} {i:Nat} {l:List Lx.Tok} {f:Int} (h:Lx.AllR rules t i l f):(∀ tk ∈ l,i≤tk.start∧i≤tk.stop)∧(f = -1∨(i:Int)≤f):=by
  induction h with
  | done h=>exact ⟨by simp,.inl rfl⟩
  | fail h hn=>exact ⟨by simp,.inr (Int.le_refl _)⟩
  | @step i r tk l f h1 h2 h3 h4 h5 h6 h7 _ ih =>
    obtain ⟨a1,a2⟩:=ih
    refine ⟨fun x hx => ?_,?_⟩
    · rcases List.mem_cons.1 hx with rfl | hx
      · omega
      · have:=a1 x hx; omega
    · rcases a2 with rfl | a2
      · exact .inl rfl
      · right; omega
def R6 (w:World) (X:List T5) (i:Value) (wr:World):Prop:=∃ k:Nat,k≤X.length∧i=.int .i64 (k:Int)∧St w.heap.size w [] wr
def RstP (len:Nat) (X:List T5) (f:Int) (X':List T5) (f':Int) (p:Int):Prop :=
  X'.length+1=X.length∧(∀ (k:Nat) (x':T5),X'[k]? = some x'→∃ x,X[k+1]? = some x∧x'.1=x.1∧x'.2.1+p=x.2.1∧x'.2.2.1+p=x.2.2.1∧0≤x.2.1∧x.2.1≤(len:Int)∧0≤x.2.2.1∧x.2.2.1≤(len:Int))∧((0≤f'∧f'+p=f∧f≤(len:Int))∨(f'<0∧f<0))
theorem restP {rules:List Lx.Ex} {n:Nat} {t:List Nat} {X:List T5} {f:Int} (h:Lx.AllR rules t 0 (Lx.noEnd (LX rules n t).1) (LX rules n t).2.1) (hX:X=TK rules n t) (hf:f=(LX rules n t).2.1)
    {x1 x2 x3 x4 x5:Int} (hx:X[0]? = some (x1,x2,x3,x4,x5)) :
    ∃ p:Nat,x3=(p:Int)∧p≤t.length∧∀ ts' f',Lx.AllR rules (t.drop p) 0 ts' f'→RstP t.length X f (ts'.map t5) f' p:=by
  subst hX; subst hf
  unfold TK at hx ⊢
  generalize Lx.noEnd (LX rules n t).1=l at h hx ⊢
  generalize (LX rules n t).2.1=f at h ⊢
  cases h with
  | done h=>simp at hx
  | fail h hn=>simp at hx
  | @step _ r tk l f h1 h2 h3 h4 h5 h6 h7 h8 =>
    simp only [List.map_cons,List.getElem?_cons_zero,Option.some.injEq,t5,Prod.mk.injEq] at hx
    refine ⟨tk.stop,hx.2.2.1.symm,h5,fun ts' f' h' => ?_⟩
    obtain ⟨rfl,rfl⟩:=Lx.AllR.unique h' (Lx.AllR_drop h8 (by omega) h5)
    obtain ⟨g1,g2⟩:=allR_ge h8
    refine ⟨by simp,fun k x' hk => ?_,?_⟩
    · simp only [List.map_map,List.getElem?_map,Option.map_eq_some_iff] at hk
      obtain ⟨tk',hk,rfl⟩:=hk
      have hg:=g1 tk' (List.mem_of_getElem? hk)
      obtain ⟨_,q2,q3,_,_⟩:=h8.facts.1 k tk' hk
      refine ⟨t5 tk',by simp [hk],rfl,?_,?_,?_,?_,?_,?_⟩
      all_goals simp only [Function.comp,t5,Lx.shT]; omega
    · have h9:=h8.facts.2
      split
      · right; omega
      · left
        rcases h9 with ⟨h9,_⟩ | ⟨h9,h10,_⟩
        · omega
        · omega
set_option maxRecDepth 100000 in
set_option maxHeartbeats 8000000 in
theorem c6 {subs : List Lx.Ex} {sa : Option Addr} {c : Nat} {s : ByteArray} (hS : ExS w subs sa 0) (hLs : LenE.LenS subs) : Calls Tryz.prog 6 #[.slice sa subs.length c, .string s] w (LwQ w) := by
  have HH:=Lib.hid (And.intro hS hLs)
  clear hS hLs
  by_cases h1:subs.length≤2147483647
  · by_cases h2 : s.size ≤ 2147483647
    · have i1 : ¬ (2147483647:Int)<(subs.length:Int):=by omega
      have i2 : ¬ (2147483647:Int)<(s.size:Int):=by omega
      have H11:=Lib.hid (c11 (c:=c) (by omega) HH.out.2 HH.out.1)
      have HL:=Lib.hid (And.intro h1 h2)
      clear h1 h2
      go_enter Tryz.func6,Tryz.ntmps6
      go_wp2_with fail
      go_at_call 11
      refine H11.out.mono ?_
      rintro e w1 ⟨sa1,c1,rfl,hS1,hb1⟩
      obtain ⟨gb,hgb⟩:∃ g,g=goodB subs:=⟨_,rfl⟩
      have h12:=c12 (c:=c1) (by have:=HL.out.1; omega) hS1
      rw [← hgb] at h12
      have H12:=Lib.hid h12
      have HS1:=Lib.hid (And.intro hS1 (And.intro hb1 hgb))
      clear h12 hS1 hb1 hgb H11
      go_wp2_with fail
      go_at_call 12
      refine H12.out.mono ?_
      rintro e w2 ⟨rfl,hb2⟩
      have HB2:=Lib.hid (bl_tr HS1.out.2.1 hb2)
      have HS2:=Lib.hid (HS1.out.1.mono hb2)
      clear hb2 H12
      cases gb with
      | false =>
        go_wp2_with fail
        refine bodyPost_ret (v:=.bool true) ?_ rfl ⟨rfl,HB2.out⟩
        simp [results,Tryz.results6,go_sem]
      | true =>
        obtain ⟨n,hG⟩:=gd_of HS1.out.2.2.symm
        obtain ⟨tb,htb⟩:∃ g,g=textB (tx s):=⟨_,rfl⟩
        have h13:=c13 (s:=s) (w:=w2) (by have:=HL.out.2; omega)
        rw [← htb] at h13
        have H13:=Lib.hid h13
        have HT:=Lib.hid (And.intro htb hG)
        clear h13 htb hG
        go_wp2_with fail
        go_at_call 13
        refine H13.out.mono ?_
        rintro e w3 ⟨rfl,rfl⟩
        clear H13
        cases tb with
        | false =>
          go_wp2_with fail
          refine bodyPost_ret (v:=.bool true) ?_ rfl ⟨rfl,HB2.out⟩
          simp [results,Tryz.results6,go_sem]
        | true =>
          obtain ⟨ht1,ht2⟩:=tx_of HT.out.1.symm
          have H14:=Lib.hid (c14 (c0:=c1) HT.out.2 HS2.out ht1 ht2)
          have HTx:=Lib.hid (And.intro ht1 ht2)
          clear ht1 ht2
          go_wp2_with fail
          go_at_call 14
          refine H14.out.mono ?_
          rintro e w4 ⟨ab,rfl,hap,hb4⟩
          have HA:=Lib.hid (And.intro hap (And.intro (bl_tr HB2.out hb4) (HS2.out.mono hb4)))
          clear hap hb4 H14
          cases ab with
          | false =>
            go_wp2_with fail
            refine bodyPost_ret (v:=.bool true) ?_ rfl ⟨rfl,HA.out.2.1⟩
            simp [results,Tryz.results6,go_sem]
          | true =>
            have H15:=Lib.hid (c15x (c0:=c1) HT.out.2 HA.out.2.2 HTx.out.1 HTx.out.2)
            go_wp2_with fail
            go_at_call 15
            refine H15.out.mono ?_
            rintro e w5 ⟨X,f,a5,c5,rfl,hXf,hXl,hrow5,hb5⟩
            have H16:=Lib.hid (c16x (c:=c1) (s:=s) (by have:=HT.out.2.len; omega) HT.out.2.good (HA.out.2.2.mono hb5) (by have:=HTx.out.2; omega))
            have HR:=Lib.hid (And.intro hrow5 (And.intro (bl_tr HA.out.2.1 hb5) (HA.out.2.2.mono hb5)))
            have HX:=Lib.hid (And.intro hXl hXf)
            clear hrow5 hb5 hXl hXf H15
            go_wp2_with fail
            go_at_call 16
            refine H16.out.mono ?_
            rintro e w6 ⟨Y,f6,sa2,c2,rfl,hall,htl,hrow6,hb6⟩
            have hXY:Y=X∧f6=f:=by
              obtain ⟨ts,rfl,hts⟩:=hall
              have h:=tk_ok HT.out.2 (HA.out.1 (by first | trivial | rfl)) hts
              have h2:=HX.out.2
              rw [h2.1,h2.2]; exact ⟨h.1.symm,h.2.symm⟩
            obtain ⟨rfl,rfl⟩:=hXY
            have HE:=Lib.hid (And.intro (HR.out.1.mono hb6) (And.intro (bl_tr HR.out.2.1 hb6) (HR.out.2.2.mono hb6)))
            clear hrow6 hb6 hall htl H16 HR
            by_cases hz:Y.length=0
            · have z1:((Y.length:Int) == 0)=true:=by rw [hz]; rfl
              have z2:((Y.length:Int) == (Y.length:Int))=true:=beq_self_eq_true _
              have z3:(f6 == f6)=true:=beq_self_eq_true _
              clear hz
              go_wp2_with fail
              refine bodyPost_ret (v:=.bool true) ?_ rfl ⟨rfl,HE.out.2.1⟩
              simp [results,Tryz.results6,go_sem]
            · have z1 : ((Y.length : Int) == 0) = false := beq_eq_false_iff_ne.2 (by omega)
              obtain ⟨⟨x1,x2,x3,x4,x5⟩,hx⟩:∃ x,Y[0]? = some x:=⟨_,List.getElem?_eq_getElem (by omega)⟩
              obtain ⟨g,rfl,hgx⟩:=HE.out.1.get (f:=q5) (n:=5) (fun _=>rfl) (by omega) hx
              have e2:w6.cell? ⟨g,2,none⟩=some (.int .i64 x3):=by simpa using hgx 2 _ rfl
              have hp:=restP (by have h:=model_ok HT.out.2 (HA.out.1 (by first | trivial | rfl)); exact h) HX.out.2.1 HX.out.2.2 hx
              rw [tx_len] at hp
              obtain ⟨p,rfl,hp2,hrest⟩:=hp
              have i3:(0:Int)<(Y.length:Int):=by omega
              have i4 : ¬ ((p:Nat):Int)<0:=by omega
              have i5 : ¬ (s.size:Int)<((p:Nat):Int):=by omega
              have i6:(0:Int)≤((p:Nat):Int):=by omega
              have i7:((p:Nat):Int)≤(s.size:Int):=by omega
              have HP:=Lib.hid (And.intro hp2 (And.intro hrest hz))
              clear hp2 hrest hz
              go_wp2_with fail
              have hts:=tx_extract s p
              have HX2:=Lib.hid hts
              have H14:=Lib.hid (c14 (s:=s.extract p s.size) (c0:=c1) HT.out.2 HE.out.2.2 (by rw [hts]; exact fun x hx=>HTx.out.1 x (List.mem_of_mem_drop hx)) (by have:=HTx.out.2; have h:=tx_len (s.extract p s.size); rw [hts,List.length_drop,tx_len] at h; omega))
              clear hts
              go_at_call 14
              refine H14.out.mono ?_
              rintro e w7 ⟨ab2,rfl,hap2,hb7⟩
              have HB7:=Lib.hid (bl_tr HE.out.2.1 hb7)
              have HE7:=Lib.hid (HE.out.2.2.mono hb7)
              have HR7:=Lib.hid (HE.out.1.mono hb7)
              have HA7:=Lib.hid hap2
              have e3:w7.cell? ⟨g,2,none⟩=some (.int .i64 p):=by
                obtain ⟨g',hg',hgx'⟩:=HR7.out.get (f:=q5) (n:=5) (fun _=>rfl) (by have:=HX.out.1; omega) hx
                injection hg' with hg'
                injection hg' with hg' _ _
                subst hg'
                have h:=hgx' 2 _ rfl
                simpa using h
              clear hap2 hb7 H14 e2
              cases ab2 with
              | false =>
                go_wp2_with fail
                refine bodyPost_ret (v:=.bool true) ?_ rfl ⟨rfl,HB7.out⟩
                simp [results,Tryz.results6,go_sem]
              | true =>
                have H15:=Lib.hid (c15x (s:=s.extract p s.size) (c0:=c1) HT.out.2 HE7.out (by rw [HX2.out]; exact fun x hx=>HTx.out.1 x (List.mem_of_mem_drop hx)) (by have:=HTx.out.2; have h:=tx_len (s.extract p s.size); rw [HX2.out,List.length_drop,tx_len] at h; omega))
                go_wp2_with fail
                go_at_call 15
                refine H15.out.mono ?_
                rintro e w8 ⟨X,f,a8,c8,rfl,hXf,hXl,hrow8,hb8⟩
                have hR:RstP s.size Y f6 X f p:=by
                  obtain ⟨rfl,rfl⟩:=hXf
                  have hm:=model_ok HT.out.2 (HA7.out (by first | trivial | rfl))
                  rw [HX2.out] at hm ⊢
                  exact HP.out.2.1 _ _ hm
                have HR8:=Lib.hid (HR7.out.mono hb8)
                have HN8:=Lib.hid hrow8
                have HB8:=Lib.hid (bl_tr HB7.out hb8)
                have e4:w8.cell? ⟨g,2,none⟩=some (.int .i64 p):=by
                  obtain ⟨g',hg',hgx'⟩:=HR8.out.get (f:=q5) (n:=5) (fun _=>rfl) (by have:=HX.out.1; omega) hx
                  injection hg' with hg'
                  injection hg' with hg' _ _
                  subst hg'
                  have h:=hgx' 2 _ rfl
                  simpa using h
                have HQ:=Lib.hid hR
                have HXl:=Lib.hid hXl
                have w1:wrap64 ((Y.length:Int) - 1)=(X.length:Int):=by
                  have:=hR.1; have:=HX.out.1
                  rw [IntWalk.wrap64_in _ (by omega)]; omega
                have j0:((X.length:Int) != (X.length:Int))=false:=bne_self_eq_false _
                have Hlp:∀ wz,St w8.heap.size w8 [] wz→LwQ w (.returned (.bool true)) wz:=fun wz h=>⟨rfl,bl_tr HB8.out h.below⟩
                have HL8:=Lib.hid Hlp
                clear Hlp hXf hXl hrow8 hb8 H15 e3 HB8 HB7 HE7 HR7 HA7
                have hcond:∃ b1 b2:Bool,b1=decide ((0:Int)≤f)∧b2=decide (f<0):=⟨_,_,rfl,rfl⟩
                clear hcond
                rcases hR.2.2 with ⟨k1,k2,k3⟩ | ⟨k1,k2⟩
                · have k4:wrap64 (f+(p:Int))=f6:=by
                    have:=HTx.out.2
                    rw [IntWalk.wrap64_in _ (by omega)]; exact k2
                  have k5:(f6 != f6)=false:=bne_self_eq_false _
                  have k6 : ¬ f<0:=by omega
                  clear k2 k3 hR
                  go_wp2_with fail
                  clear k1 k4 k5 k6 w1 j0
                  go_loopw [132] (R6 w8 X) (fun i _=>X.length - (intOf i).toNat)
                  case atStart=>exact ⟨0,Nat.zero_le _,rfl,St.nil w8⟩
                  case round =>
                    obtain ⟨k,hk,rfl,H1⟩:=hrel
                    by_cases hlt:k<X.length
                    · have hk0:(0:Int)≤(k:Int):=Int.natCast_nonneg _
                      have hk1:(k:Int)<(X.length:Int):=by omega
                      obtain ⟨m,hm⟩:∃ m,m=k+1:=⟨_,rfl⟩
                      have hw:wrap64 ((k:Int)+1)=(m:Int):=by
                        have:=HXl.out
                        rw [IntWalk.wrap64_in _ (by omega)]; omega
                      have hm0:(0:Int)≤(m:Int):=Int.natCast_nonneg _
                      have hm1:(m:Int)<(Y.length:Int):=by have:=HQ.out.1; omega
                      obtain ⟨⟨y1,y2,y3,y4,y5⟩,hy⟩:∃ x,X[k]? = some x:=⟨_,List.getElem?_eq_getElem hlt⟩
                      obtain ⟨⟨u1,u2,u3,u4,u5⟩,hu,v1,v2,v3,v4⟩:=HQ.out.2.1 k _ hy
                      rw [← hm] at hu
                      simp only at v1 v2 v3 v4
                      subst v1
                      have H2:=H1.alloc (ob 36 [.int .i64 y1,.int .i64 y2,.int .i64 y3,.int .i64 y4,.int .i64 y5])
                      obtain ⟨g8,rfl,hgx8⟩:=(HN8.out.mono H1.below).get (f:=q5) (n:=5) (fun _=>rfl) (by omega) hy
                      obtain ⟨g',hg',hgx'⟩:=(HR8.out.mono H2.below).get (f:=q5) (n:=5) (fun _=>rfl) (by have:=HX.out.1; omega) hu
                      injection hg' with hg'
                      injection hg' with hg' _ _
                      subst hg'
                      have r0:wr.cell? ⟨g8,k * 5,none⟩=some (.int .i64 y1):=hgx8 0 _ rfl
                      have r1:wr.cell? ⟨g8,k * 5+1,none⟩=some (.int .i64 y2):=hgx8 1 _ rfl
                      have r2:wr.cell? ⟨g8,k * 5+2,none⟩=some (.int .i64 y3):=hgx8 2 _ rfl
                      have r3:wr.cell? ⟨g8,k * 5+3,none⟩=some (.int .i64 y4):=hgx8 3 _ rfl
                      have r4:wr.cell? ⟨g8,k * 5+4,none⟩=some (.int .i64 y5):=hgx8 4 _ rfl
                      have f0:(wr.alloc (.cells #[.int .i64 y1,.int .i64 y2,.int .i64 y3,.int .i64 y4,.int .i64 y5] 36)).cell? ⟨g,m * 5,none⟩=some (.int .i64 y1):=hgx' 0 _ rfl
                      have f1:(wr.alloc (.cells #[.int .i64 y1,.int .i64 y2,.int .i64 y3,.int .i64 y4,.int .i64 y5] 36)).cell? ⟨g,m * 5+1,none⟩=some (.int .i64 u2):=hgx' 1 _ rfl
                      have f2:(wr.alloc (.cells #[.int .i64 y1,.int .i64 y2,.int .i64 y3,.int .i64 y4,.int .i64 y5] 36)).cell? ⟨g,m * 5+2,none⟩=some (.int .i64 u3):=hgx' 2 _ rfl
                      have f3:(wr.alloc (.cells #[.int .i64 y1,.int .i64 y2,.int .i64 y3,.int .i64 y4,.int .i64 y5] 36)).cell? ⟨g,2,none⟩=some (.int .i64 p):=H2.below.cell (p:=⟨g,2,none⟩) (World.block_lt_of_cell? _ _ e4) ▸ e4
                      have d0:(wr.alloc (.cells #[.int .i64 y1,.int .i64 y2,.int .i64 y3,.int .i64 y4,.int .i64 y5] 36)).cell? ⟨wr.heap.size,0,none⟩=some (.int .i64 y1):=H2.cells.1 0
                      have d1:(wr.alloc (.cells #[.int .i64 y1,.int .i64 y2,.int .i64 y3,.int .i64 y4,.int .i64 y5] 36)).cell? ⟨wr.heap.size,1,none⟩=some (.int .i64 y2):=H2.cells.1 1
                      have d2:(wr.alloc (.cells #[.int .i64 y1,.int .i64 y2,.int .i64 y3,.int .i64 y4,.int .i64 y5] 36)).cell? ⟨wr.heap.size,2,none⟩=some (.int .i64 y3):=H2.cells.1 2
                      have o1:wrap64 (y2+(p:Int))=u2:=by have:=HTx.out.2; rw [IntWalk.wrap64_in _ (by omega)]; exact v2
                      have o2:wrap64 (y3+(p:Int))=u3:=by have:=HTx.out.2; rw [IntWalk.wrap64_in _ (by omega)]; exact v3
                      have HPP:=Lib.hid (And.intro H2 hm)
                      have hz0:(0:Int)<(Y.length:Int):=by omega
                      clear H1 H2 hy hu hgx8 hgx' hm v2 v3 v4 e4
                      go_wp2_with (first | (go_quiet (fail)))
                      rw [hw]
                      have hmk:=HPP.out.2
                      subst hmk
                      exact ⟨⟨k+1,hlt,rfl,(HPP.out.1.drop).drewN _⟩,measS hlt⟩
                    · have hk1 : ¬ (k:Int)<(X.length:Int):=by omega
                      have HD:=Lib.hid (HL8.out _ H1)
                      clear H1
                      go_wp2_with fail
                      refine bodyPost_ret (v:=.bool true) ?_ rfl HD.out
                      simp [results,Tryz.results6,go_sem]
                · have k4 : ¬ (0:Int)≤f:=by omega
                  have k5 : ¬ (0:Int)≤f6:=by omega
                  clear k2 hR
                  go_wp2_with fail
                  clear k1 k4 k5 w1 j0
                  go_loopw [132] (R6 w8 X) (fun i _=>X.length - (intOf i).toNat)
                  case atStart=>exact ⟨0,Nat.zero_le _,rfl,St.nil w8⟩
                  case round =>
                    obtain ⟨k,hk,rfl,H1⟩:=hrel
                    by_cases hlt:k<X.length
                    · have hk0:(0:Int)≤(k:Int):=Int.natCast_nonneg _
                      have hk1:(k:Int)<(X.length:Int):=by omega
                      obtain ⟨m,hm⟩:∃ m,m=k+1:=⟨_,rfl⟩
                      have hw:wrap64 ((k:Int)+1)=(m:Int):=by
                        have:=HXl.out
                        rw [IntWalk.wrap64_in _ (by omega)]; omega
                      have hm0:(0:Int)≤(m:Int):=Int.natCast_nonneg _
                      have hm1:(m:Int)<(Y.length:Int):=by have:=HQ.out.1; omega
                      obtain ⟨⟨y1,y2,y3,y4,y5⟩,hy⟩:∃ x,X[k]? = some x:=⟨_,List.getElem?_eq_getElem hlt⟩
                      obtain ⟨⟨u1,u2,u3,u4,u5⟩,hu,v1,v2,v3,v4⟩:=HQ.out.2.1 k _ hy
                      rw [← hm] at hu
                      simp only at v1 v2 v3 v4
                      subst v1
                      have H2:=H1.alloc (ob 36 [.int .i64 y1,.int .i64 y2,.int .i64 y3,.int .i64 y4,.int .i64 y5])
                      obtain ⟨g8,rfl,hgx8⟩:=(HN8.out.mono H1.below).get (f:=q5) (n:=5) (fun _=>rfl) (by omega) hy
                      obtain ⟨g',hg',hgx'⟩:=(HR8.out.mono H2.below).get (f:=q5) (n:=5) (fun _=>rfl) (by have:=HX.out.1; omega) hu
                      injection hg' with hg'
                      injection hg' with hg' _ _
                      subst hg'
                      have r0:wr.cell? ⟨g8,k * 5,none⟩=some (.int .i64 y1):=hgx8 0 _ rfl
                      have r1:wr.cell? ⟨g8,k * 5+1,none⟩=some (.int .i64 y2):=hgx8 1 _ rfl
                      have r2:wr.cell? ⟨g8,k * 5+2,none⟩=some (.int .i64 y3):=hgx8 2 _ rfl
                      have r3:wr.cell? ⟨g8,k * 5+3,none⟩=some (.int .i64 y4):=hgx8 3 _ rfl
                      have r4:wr.cell? ⟨g8,k * 5+4,none⟩=some (.int .i64 y5):=hgx8 4 _ rfl
                      have f0:(wr.alloc (.cells #[.int .i64 y1,.int .i64 y2,.int .i64 y3,.int .i64 y4,.int .i64 y5] 36)).cell? ⟨g,m * 5,none⟩=some (.int .i64 y1):=hgx' 0 _ rfl
                      have f1:(wr.alloc (.cells #[.int .i64 y1,.int .i64 y2,.int .i64 y3,.int .i64 y4,.int .i64 y5] 36)).cell? ⟨g,m * 5+1,none⟩=some (.int .i64 u2):=hgx' 1 _ rfl
                      have f2:(wr.alloc (.cells #[.int .i64 y1,.int .i64 y2,.int .i64 y3,.int .i64 y4,.int .i64 y5] 36)).cell? ⟨g,m * 5+2,none⟩=some (.int .i64 u3):=hgx' 2 _ rfl
                      have f3:(wr.alloc (.cells #[.int .i64 y1,.int .i64 y2,.int .i64 y3,.int .i64 y4,.int .i64 y5] 36)).cell? ⟨g,2,none⟩=some (.int .i64 p):=H2.below.cell (p:=⟨g,2,none⟩) (World.block_lt_of_cell? _ _ e4) ▸ e4
                      have d0:(wr.alloc (.cells #[.int .i64 y1,.int .i64 y2,.int .i64 y3,.int .i64 y4,.int .i64 y5] 36)).cell? ⟨wr.heap.size,0,none⟩=some (.int .i64 y1):=H2.cells.1 0
                      have d1:(wr.alloc (.cells #[.int .i64 y1,.int .i64 y2,.int .i64 y3,.int .i64 y4,.int .i64 y5] 36)).cell? ⟨wr.heap.size,1,none⟩=some (.int .i64 y2):=H2.cells.1 1
                      have d2:(wr.alloc (.cells #[.int .i64 y1,.int .i64 y2,.int .i64 y3,.int .i64 y4,.int .i64 y5] 36)).cell? ⟨wr.heap.size,2,none⟩=some (.int .i64 y3):=H2.cells.1 2
                      have o1:wrap64 (y2+(p:Int))=u2:=by have:=HTx.out.2; rw [IntWalk.wrap64_in _ (by omega)]; exact v2
                      have o2:wrap64 (y3+(p:Int))=u3:=by have:=HTx.out.2; rw [IntWalk.wrap64_in _ (by omega)]; exact v3
                      have HPP:=Lib.hid (And.intro H2 hm)
                      have hz0:(0:Int)<(Y.length:Int):=by omega
                      clear H1 H2 hy hu hgx8 hgx' hm v2 v3 v4 e4
                      go_wp2_with (first | (go_quiet (fail)))
                      rw [hw]
                      have hmk:=HPP.out.2
                      subst hmk
                      exact ⟨⟨k+1,hlt,rfl,(HPP.out.1.drop).drewN _⟩,measS hlt⟩
                    · have hk1 : ¬ (k:Int)<(X.length:Int):=by omega
                      have HD:=Lib.hid (HL8.out _ H1)
                      clear H1
                      go_wp2_with fail
                      refine bodyPost_ret (v:=.bool true) ?_ rfl HD.out
                      simp [results,Tryz.results6,go_sem]
    · have i1 : ¬ (2147483647:Int)<(subs.length:Int):=by omega
      have i2:(2147483647:Int)<(s.size:Int):=by omega
      clear h1 h2
      go_enter Tryz.func6,Tryz.ntmps6
      go_wp2_with fail
      refine bodyPost_ret (v:=.bool true) ?_ rfl ⟨rfl,(St.nil w).below⟩
      simp [results,Tryz.results6,go_sem]
  · have i1:(2147483647:Int)<(subs.length:Int):=by omega
    clear h1
    go_enter Tryz.func6,Tryz.ntmps6
    go_wp2_with fail
    refine bodyPost_ret (v:=.bool true) ?_ rfl ⟨rfl,(St.nil w).below⟩
    simp [results,Tryz.results6,go_sem]
end Go.Proofs.YtbcngfgemjdllaaGreatDoor
end
