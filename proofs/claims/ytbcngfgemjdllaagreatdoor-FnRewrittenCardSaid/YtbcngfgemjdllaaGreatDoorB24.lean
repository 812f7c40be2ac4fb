/- Part 24: D40, D41, D42, D43, D44. -/
import Derived.StillTailTactics
import Derived.WalkSmall
import Derived.Test.YtbcngfgemjdllaaGreatDoorB23
set_option linter.unusedVariables false
set_option linter.unusedSimpArgs false
section
namespace Go.Proofs.YtbcngfgemjdllaaGreatDoor
open Go.RowKit Go.Own
variable {kd bk xf pf ru:Nat→Nat} {out:Nat→List Lx.Tr} {kindOf:Nat→Int} {stop:Nat→Bool} {B n N A at_ nr:Nat} {w0 w:World} {r:List HP} {X:HP} {m:DM} {D:Lx.DS} {s:SM} {d:Nat} {ats:Value} {dec:Int} {P:List Lx.Cf→Prop}
theorem SetH.cellO {b jb mb cmb k o:Nat} {S:Lx.CS} {av cv jp:Value} {ms:List CfM} (H:SetH kd bk xf pf B w0 b jb mb cmb S (OpnL kd bk xf pf d ats dec m k s av cv jp ms++r) w):w.cell? ⟨s.sb,o,none⟩=s.cells[o]? := by
  obtain ⟨av',cv',ms',hk,H⟩:=H.ex
  have hin:pts s.sb 178 s.cells ∈ (SetX kd bk xf pf b av' cv' (-1) false jb mb cmb ms' S.ask++(OpnL kd bk xf pf d ats dec m k s av cv jp ms++r)):=by simp [OpnL]
  obtain ⟨l,H2⟩:=H.has hin
  exact H2.cells.1 o
theorem stepSet (hR:NetR kd bk out ru kindOf B w0 N at_ nr) (hcx:CtxX xf pf B w0 X A) (hX:X ∈ r) (hE:Env out n N A P) {k l:Nat} {iv:Value} {c:Int} (hc0:c = -1∨0≤c) (hP:P s.L) (hl:s.L.length<1099511627776) {b jb mb cmb:Nat} {av cv jp:Value} {ms:List CfM}
    (hkey:ms.map CfM.key=s.L) (H:SetH kd bk xf pf B w0 b jb mb cmb ⟨[],[]⟩ (OpnL kd bk xf pf d ats dec m k s av cv jp ms++r) w) :
    Calls Tryz.prog 112 #[bp l,iv,bp s.b,bp b,.int .i64 c] w fun e w'=>e=.returned (.tuple #[])∧SetH kd bk xf pf B w0 b jb mb cmb (Lx.adds hN ⟨[],[]⟩ (Lx.rch1 out n s.L c)) (OpnL kd bk xf pf d ats dec m k s av cv jp ms++r) w':=by
  have hin:stars (SetW kd bk xf pf s.b s.L s.A s.ro (kHash s.L s.ro) av cv jp ms) ∈ (OpnL kd bk xf pf d ats dec m k s av cv jp ms++r):=by simp [OpnL]
  obtain ⟨l0,HD⟩:=H.inD hin
  have HO:=HD.splits
  obtain ⟨a,c1,e⟩:=(show St B w0 (Osl cv 222 1 ms.length (ms.map cbP)::_) w from HO.pick 2).ownVal
  have hlen:ms.length=s.L.length:=by rw [← hkey]; simp
  rw [hlen] at e
  subst e
  have hrow:s.L≠[]→∃ g,a=some ⟨g,0,none⟩:=by
    intro hne
    rcases (show St B w0 (Osl (.slice a s.L.length c1) 222 1 ms.length (ms.map cbP)::_) w from HO.pick 2).ownCell with ⟨_,h0,_⟩ | ⟨g,cap,e,_⟩
    · exact absurd (List.eq_nil_of_length_eq_zero (by omega)) hne
    · exact ⟨g,by injection e⟩
  exact c112 hR.toNetT hcx (by simp [hX]) hin (SetW.fsx hkey hrow) (hE.lt _ hP) (by omega) (fun x hx tr htr=>hE.dep _ (hE.lt _ hP x hx).1 tr htr) (hE.len _ hP c) (fun e x hx tr htr=>by rw [e]; exact hE.neg _ (hE.lt _ hP x hx).1 tr htr) H
set_option maxRecDepth 100000 in
set_option maxHeartbeats 1000000 in
theorem c76_neg (hR:NetR kd bk out ru kindOf B w0 N at_ nr) (hcx:CtxX xf pf B w0 X A) (hX:X ∈ r) (hE:Env out n N A P) {k l:Nat} {iv:Value} (hk:m.ms[k]? = some s) (hP:P s.L) (hl:s.L.length<1099511627776) (H:St B w0 (DfaL kd bk xf pf d ats dec m++r) w) :
    Calls Tryz.prog 76 #[bp l,iv,bp s.sb,.int .i64 (-1)] w fun e w'=>∃ e0,e=.returned (bp e0)∧w'.cell? ⟨e0,0,none⟩=some (.int .i64 2147483647)∧St B w0 (DfaL kd bk xf pf d ats dec m++r) w':=by
  obtain ⟨av,cv,jp,ms,hkey,H0⟩:=DfaL.opn hk H
  have hz:Lx.adds hN ⟨[],[]⟩ (Lx.rch1 out n s.L (-1))=⟨[],[]⟩:=by
    have:Lx.rch1 out n s.L (-1)=[]:=by
      unfold Lx.rch1
      rw [List.flatMap_eq_nil_iff]
      intro x hx
      rw [List.flatMap_eq_nil_iff]
      intro tr htr
      rw [if_neg]
      rw [hE.neg _ (hE.lt _ hP x hx).1 tr htr]
      simp
    rw [this]
    rfl
  have h112:=fun (w1:World) (b jb mb cmb:Nat) H1=>stepSet (d:=d) (ats:=ats) (dec:=dec) (m:=m) (w:=w1) (b:=b) (jb:=jb) (mb:=mb) (cmb:=cmb) (l:=l) (iv:=iv) (k:=k) (c := -1) (av:=av) (cv:=cv) (jp:=jp) hR hcx hX hE (.inl rfl) hP hl hkey H1
  have H112:=Lib.hid h112
  clear h112 hR hcx hE H
  go_enter Tryz.func76,Tryz.ntmps76
  go_wp2_with (first
    | (go_at_call 100; refine (c100 (kd:=kd) (bk:=bk) (xf:=xf) (pf:=pf) H0).mono ?_; rintro e w1 ⟨b,jb,mb,cmb,rfl,H1⟩
       have hs1:w1.cell? ⟨s.sb,1,none⟩=some (bp s.b):=SetH.cellO H1)
    | (go_at_call 112; refine (H112.out _ _ _ _ _ H1).mono ?_; rintro e w2 ⟨rfl,H2⟩
       rw [hz] at H2
       obtain ⟨b7,b7f,b7s,sa,cap,b3⟩:=SetH.c7 H2
       obtain ⟨l2,H3⟩:=H2.st
       have H4:=DfaL.shut hk hkey (H2.close.drop))
    | (go_at_call 114; refine (c114 H4).mono ?_; rintro e w3 ⟨e0,rfl,H5⟩
       have H4:=H5.drop
       have E0:=ErP.cell H5)
    | (go_at_call 113; refine (c113_neg (by decide)).mono ?_; rintro e w' ⟨rfl,rfl⟩))
  go_ret
  exact ⟨_,rfl,E0,H4⟩
set_option maxRecDepth 100000 in
set_option maxHeartbeats 1000000 in
theorem c76_err (hR:NetR kd bk out ru kindOf B w0 N at_ nr) (hcx:CtxX xf pf B w0 X A) (hX:X ∈ r) (hE:Env out n N A P) (hm:DMok N A stop kindOf m D) {k l c:Nat} {iv:Value} (hk:m.ms[k]? = some s) (hc:c≤127) (hP:P s.L) (hl:s.L.length<1099511627776)
    (hz:(Lx.adds hN ⟨[],[]⟩ (Lx.rch1 out n s.L c)).cf=[]) (H:St B w0 (DfaL kd bk xf pf d ats dec m++r) w) :
    Calls Tryz.prog 76 #[bp l,iv,bp s.sb,.int .i64 c] w fun e w'=>∃ e0,e=.returned (bp e0)∧w'.cell? ⟨e0,0,none⟩=some (.int .i64 2147483647) ∧
      ∃ m',DMok N A stop kindOf m' (D.setE k c none)∧St B w0 (DfaL kd bk xf pf d ats dec m'++r) w'∧(∀ (j:Nat) (x:SM),m.ms[j]? = some x→∃ y,m'.ms[j]? = some y∧Alike x y):=by
  obtain ⟨av,cv,jp,ms,hkey,H0⟩:=DfaL.opn hk H
  have h112:=fun (w1:World) (b jb mb cmb:Nat) H1=>stepSet (d:=d) (ats:=ats) (dec:=dec) (m:=m) (w:=w1) (b:=b) (jb:=jb) (mb:=mb) (cmb:=cmb) (l:=l) (iv:=iv) (k:=k) (c:=(c:Int)) (av:=av) (cv:=cv) (jp:=jp) hR hcx hX hE (.inr (Int.natCast_nonneg _)) hP hl hkey H1
  have H112:=Lib.hid h112
  have Hm:=Lib.hid hm
  clear h112 hR hcx hE H hm
  go_enter Tryz.func76,Tryz.ntmps76
  go_wp2_with (first
    | (go_at_call 100; refine (c100 (kd:=kd) (bk:=bk) (xf:=xf) (pf:=pf) H0).mono ?_; rintro e w1 ⟨b,jb,mb,cmb,rfl,H1⟩
       have hs1:w1.cell? ⟨s.sb,1,none⟩=some (bp s.b):=SetH.cellO H1)
    | (go_at_call 112; refine (H112.out _ _ _ _ _ H1).mono ?_; rintro e w2 ⟨rfl,H2⟩
       obtain ⟨b7,b7f,b7s,sa,cap,b3⟩:=SetH.c7 H2
       rw [hz] at b3
       have H4:=DfaL.shut hk hkey (H2.close.drop))
    | (go_at_call 114; refine (c114 H4).mono ?_; rintro e w3 ⟨e0,rfl,H5⟩
       have E0:=ErP.cell H5
       have H6:=DfaL.addEr H5
       have H7:=H5.drop)
    | (go_at_call 113; refine (c113_err (m := { m with er:=m.er++[e0] }) (Hm.out.addEr _) hk (by simp) hc H6).mono ?_; rintro e w' ⟨rfl,m',hm',H4,_,ha⟩
       have HM:=Lib.hid hm'
       have HA:=Lib.hid ha
       clear hm' ha))
  go_ret
  exact ⟨_,rfl,E0,m',HM.out,H7,HA.out⟩
theorem SetH.permR {b jb mb cmb:Nat} {S:Lx.CS} {r':List HP} (H:SetH kd bk xf pf B w0 b jb mb cmb S r w) (p:r.Perm r'):SetH kd bk xf pf B w0 b jb mb cmb S r' w:=by
  obtain ⟨av,cv,ms,hk,H⟩:=H.ex
  exact ⟨av,cv,ms,hk,H.perm (p.append_left _)⟩
set_option maxRecDepth 100000 in
set_option maxHeartbeats 1000000 in
theorem c76_set (hR:NetR kd bk out ru kindOf B w0 N at_ nr) (hst:∀ n,n<N→stop n=(kd n == 7)) (hcx:CtxX xf pf B w0 X A) (hX:X ∈ r) (hE:Env out n N A P) (hm:DMok N A stop kindOf m D) {k l c:Nat} {iv:Value} {σ : Sim} {dps:List Value} (hσ : σ.at_=at_) (hnd:0 < σ.nd) (hd:dps[0]? = some (bp d)) (hk:m.ms[k]? = some s) (hc:c≤127) (hP:P s.L) (hl:s.L.length<1099511627776)
    (hl3:m.aq.length+1<1099511627776) (hl4:m.ms.length<1099511627776) (hz:(Lx.adds hN ⟨[],[]⟩ (Lx.rch1 out n s.L c)).cf≠[]) (H:St B w0 (SimP l σ dps::(DfaL kd bk xf pf d ats dec m++r)) w) :
    Calls Tryz.prog 76 #[bp l,iv,bp s.sb,.int .i64 c] w fun e w'=>∃ p,e=.returned (bp p)∧StepPost kd bk xf pf B N A w0 r m stop kindOf l d σ dps ats dec
      ((D.addS hS (Lx.adds hN ⟨[],[]⟩ (Lx.rch1 out n s.L c))).1.setE k c (some (D.addS hS (Lx.adds hN ⟨[],[]⟩ (Lx.rch1 out n s.L c))).2)) (D.addS hS (Lx.adds hN ⟨[],[]⟩ (Lx.rch1 out n s.L c))).2 p w':=by
  obtain ⟨av,cv,jp,ms,hkey,H0⟩:=DfaL.opn hk (DfaL.back1 H)
  have h112:=fun (w1:World) (b jb mb cmb:Nat) H1=>stepSet (r:=SimP l σ dps::r) (d:=d) (ats:=ats) (dec:=dec) (m:=m) (w:=w1) (b:=b) (jb:=jb) (mb:=mb) (cmb:=cmb) (l:=l) (iv:=iv) (k:=k) (c:=(c:Int)) (av:=av) (cv:=cv) (jp:=jp) hR hcx (by simp [hX]) hE (.inr (Int.natCast_nonneg _)) hP hl hkey H1
  have hS2:∀ x ∈ (Lx.adds hN ⟨[],[]⟩ (Lx.rch1 out n s.L c)).cf,x.1<N∧x.2<A:=adds_mem _ (fun x=>x.1<N∧x.2<A) (by simp) (hE.rlt _ hP c)
  have hS3:∀ x ∈ (Lx.adds hN ⟨[],[]⟩ (Lx.rch1 out n s.L c)).ask,x.1<N∧x.2<A:=by rw [Lx.adds_ask]; simpa using hE.rlt _ hP c
  have hl2:(Lx.adds hN ⟨[],[]⟩ (Lx.rch1 out n s.L c)).ask.length<1099511627776:=by rw [asks_len]; have:=hE.len _ hP c; simp; exact this
  have hl1:(Lx.adds hN ⟨[],[]⟩ (Lx.rch1 out n s.L c)).cf.length<1099511627776:=Nat.lt_of_le_of_lt (adds_len _ (S:=⟨[],[]⟩) (Nat.le_refl _)) hl2
  generalize Lx.adds hN ⟨[],[]⟩ (Lx.rch1 out n s.L c)=S at h112 hz hS2 hS3 hl1 hl2 ⊢
  have h113:=fun (w2:World) (b jb mb cmb:Nat) H2=>c113_set (w:=w2) (b:=b) (jb:=jb) (mb:=mb) (cmb:=cmb) (l:=l) (ats:=ats) (dec:=dec) hR hst hcx hX hm hσ hnd hd hz hS2 hS3 hl1 hl2 hl3 hl4 hk hc H2
  have H112:=Lib.hid h112
  have H113:=Lib.hid h113
  have hne0:((S.cf.length:Int) == 0)=false:=by
    rw [beq_eq_false_iff_ne]
    intro e
    exact hz (List.eq_nil_of_length_eq_zero (by omega))
  clear h112 h113 hR hcx hE H hm hst hS2 hS3
  go_enter Tryz.func76,Tryz.ntmps76
  go_wp2_with (first
    | (go_at_call 100; refine (c100 (kd:=kd) (bk:=bk) (xf:=xf) (pf:=pf) H0).mono ?_; rintro e w1 ⟨b,jb,mb,cmb,rfl,H1⟩
       have hs1:w1.cell? ⟨s.sb,1,none⟩=some (bp s.b):=SetH.cellO H1)
    | (go_at_call 112; refine (H112.out _ _ _ _ _ H1).mono ?_; rintro e w2 ⟨rfl,H2⟩
       obtain ⟨b7,b7f,b7s,sa,cap,b3⟩:=SetH.c7 H2
       have H4:=SetH.permR (SetH.mapR H2 fun r' h=>DfaL.shut hk hkey h) (r':=SimP l σ dps::(DfaL kd bk xf pf d ats dec m++r)) List.perm_middle)
    | (go_at_call 113; refine (H113.out _ _ _ _ _ H4).mono ?_; rintro e w' ⟨p,rfl,hp⟩))
  go_ret
  exact ⟨p,rfl,hp⟩
end Go.Proofs.YtbcngfgemjdllaaGreatDoor
end
section
namespace Go.Proofs.YtbcngfgemjdllaaGreatDoor
open Go.RowKit Go.Own
variable {kd bk xf pf ru:Nat→Nat} {B N A:Nat} {w0 w:World} {r:List HP} {X:HP}
def accC (p ln col:Int) (v:Value):List Value:=[.int .i64 p,.int .i64 ln,.int .i64 col,v]
set_option maxRecDepth 100000 in
theorem c74 {l pa ib cap pos sb:Nat} {sa:Option Addr} {t:List Nat} {σ : Sim} {dps:List Value} {p0 l0 k0:Int} {v0:Value}
    (H:St B w0 (SimP l σ dps::pts pa 234 (accC p0 l0 k0 v0)::ChP ib sa cap t pos::r) w) :
    Calls Tryz.prog 74 #[bp l,bp pa,.iface 123 (bp ib),bp sb] w fun e w'=>e=.returned (.tuple #[])∧St B w0 (SimP l σ dps::pts pa 234 (accC pos σ.ln σ.col (bp sb))::ChP ib sa cap t pos::r) w':=by
  have hi:=(ChP.cell (H.pick 2)).2.1
  have K0:=H.pick 1
  have c0:=K0.cells.1 0
  have f0:=K0.cells.2 0
  have K1:=K0.setCell (off:=0) (.int .i64 pos)
  have l7:=((K1.pick 1).split).cells.1 7
  have c1:=K1.cells.1 1
  have f1:=K1.cells.2 1
  have K2:=K1.setCell (off:=1) (.int .i64 σ.ln)
  have l8:=((K2.pick 1).split).cells.1 8
  have c2:=K2.cells.1 2
  have f2:=K2.cells.2 2
  have K3:=K2.setCell (off:=2) (.int .i64 σ.col)
  have c3:=K3.cells.1 3
  have f3:=K3.cells.2 3
  have K4:=K3.setCell (off:=3) (bp sb)
  simp only [accC,Sim.cells,List.set_cons_succ,List.set_cons_zero,List.getElem?_cons_succ,List.getElem?_cons_zero] at c0 c1 c2 c3 l7 l8 K4
  have HK:=Lib.hid (K4.pick 1)
  clear K0 K1 K2 K3 K4 H
  go_enter Tryz.func74,Tryz.ntmps74
  go_wp2_with (first
    | (go_at_call 43; refine (c43 _ _ _ hi).mono ?_; rintro e w' ⟨rfl,rfl⟩))
  go_end0
  exact ⟨rfl,HK.out⟩
set_option maxRecDepth 100000 in
theorem c78 {l ib cap pos c ln col:Nat} {sa:Option Addr} {t:List Nat} {σ : Sim} {dps:List Value} (ht:∀ c ∈ t,c≤127) (hl2:t.length<1099511627776) (hc:t[pos]? = some c) (hln : σ.ln=(ln:Int)) (hcol : σ.col=(col:Int)) (hb1:ln<1099511627776) (hb2:col<1099511627776)
    (H:St B w0 (SimP l σ dps::ChP ib sa cap t pos::r) w) :
    Calls Tryz.prog 78 #[bp l,.iface 123 (bp ib)] w fun e w'=>e=.returned (.tuple #[])∧St B w0 (SimP l { σ with ln:=((Lx.moved ln col c).1:Int),col:=((Lx.moved ln col c).2:Int) } dps::ChP ib sa cap t (pos+1)::r) w':=by
  have hlt:=(List.getElem?_eq_some_iff.1 hc).1
  have h277:=c277 ht (by omega) hl2 (H.pick 1)
  have hla:la t pos=(c:Int):=by unfold la; rw [hc]
  rw [hla] at h277
  have KS:=H.split
  have l7:=KS.cells.1 7
  have f7:=KS.cells.2 7
  have l8:=KS.cells.1 8
  have f8:=KS.cells.2 8
  simp only [Sim.cells,List.getElem?_cons_succ,List.getElem?_cons_zero,hln,hcol] at l7 l8
  by_cases h10:c=10
  · have hb:((c:Int) == 10)=true:=by subst h10; rfl
    have hw:wrap64 ((ln:Int)+1)=((ln+1:Nat):Int):=by rw [IntWalk.wrap64_in _ (by omega)]; rfl
    have K1:=KS.setCell (off:=7) (.int .i64 ((ln+1:Nat):Int))
    have m8:=K1.cells.1 8
    have g8:=K1.cells.2 8
    have K2:=K1.setCell (off:=8) (.int .i64 0)
    have K3:St B w0 (SimP l { σ with ln:=((Lx.moved ln col c).1:Int),col:=((Lx.moved ln col c).2:Int) } dps::ChP ib sa cap t pos::r) ((w.setCell ⟨l,7,none⟩ (.int .i64 ((ln+1:Nat):Int))).setCell ⟨l,8,none⟩ (.int .i64 0)):=by
      have e:Lx.moved ln col c=(ln+1,0):=by unfold Lx.moved; rw [if_pos h10]
      rw [e]
      exact K2.join
    have h276:=c276 (by omega) (K3.pick 1)
    have K4:=Lib.hid ((ChP.move (K3.pick 1) (pos+1)).pick 1)
    simp only [Sim.cells,List.set_cons_succ,List.set_cons_zero,List.getElem?_cons_succ,List.getElem?_cons_zero,hln,hcol] at m8
    clear K1 K2 K3 KS H
    go_enter Tryz.func78,Tryz.ntmps78
    go_wp2_with (first
      | (go_at_call 277; refine h277.mono ?_; rintro e w' ⟨rfl,rfl⟩)
      | (go_at_call 276; refine h276.mono ?_; rintro e w' ⟨rfl,rfl⟩))
    go_end0
    exact ⟨rfl,K4.out⟩
  · have hb:((c:Int) == 10)=false:=by rw [beq_eq_false_iff_ne]; omega
    have hw:wrap64 ((col:Int)+1)=((col+1:Nat):Int):=by rw [IntWalk.wrap64_in _ (by omega)]; rfl
    have K1:=KS.setCell (off:=8) (.int .i64 ((col+1:Nat):Int))
    have K3:St B w0 (SimP l { σ with ln:=((Lx.moved ln col c).1:Int),col:=((Lx.moved ln col c).2:Int) } dps::ChP ib sa cap t pos::r) (w.setCell ⟨l,8,none⟩ (.int .i64 ((col+1:Nat):Int))):=by
      have e:Lx.moved ln col c=(ln,col+1):=by unfold Lx.moved; rw [if_neg h10]
      rw [e]
      rw [show ({ σ with ln:=((ln,col+1).1:Int),col:=(((ln,col+1).2:Nat):Int) } : Sim) = { σ with col:=(((ln,col+1).2:Nat):Int) } from by cases σ; simp at hln; simp [hln]]
      exact K1.join
    have h276:=c276 (by omega) (K3.pick 1)
    have K4:=Lib.hid ((ChP.move (K3.pick 1) (pos+1)).pick 1)
    clear K1 K3 KS H
    go_enter Tryz.func78,Tryz.ntmps78
    go_wp2_with (first
      | (go_at_call 277; refine h277.mono ?_; rintro e w' ⟨rfl,rfl⟩)
      | (go_at_call 276; refine h276.mono ?_; rintro e w' ⟨rfl,rfl⟩))
    go_end0
    exact ⟨rfl,K4.out⟩
end Go.Proofs.YtbcngfgemjdllaaGreatDoor
end
section
namespace Go.Proofs.YtbcngfgemjdllaaGreatDoor
open Go.RowKit Go.Own
variable {kd bk xf pf ru:Nat→Nat} {B N A:Nat} {w0 w:World} {r:List HP} {X:HP} {m:DM} {s:SM} {d:Nat} {ats:Value} {dec:Int}
set_option maxRecDepth 100000 in
theorem c115 {l ib cap pos p:Nat} {sa:Option Addr} {t:List Nat} {σ : Sim} {dps:List Value} {si ln col:Int} (hp:p≤t.length) (H:St B w0 (SimP l σ dps::ChP ib sa cap t pos::r) w) :
    Calls Tryz.prog 115 #[bp l,.iface 123 (bp ib),.pointer none,.int .i64 si,.int .i64 p,.int .i64 ln,.int .i64 col] w fun e w'=>e=.returned (.tuple #[])∧St B w0 (SimP l { σ with ln:=ln,col:=col } dps::ChP ib sa cap t p::r) w':=by
  have h280:=c280 hp (H.pick 1)
  have K0:=((ChP.move (H.pick 1) p).pick 1).split
  have l7:=K0.cells.1 7
  have f7:=K0.cells.2 7
  have K1:=K0.setCell (off:=7) (.int .i64 ln)
  have l8:=K1.cells.1 8
  have f8:=K1.cells.2 8
  have K2:=K1.setCell (off:=8) (.int .i64 col)
  simp only [Sim.cells,List.set_cons_succ,List.set_cons_zero,List.getElem?_cons_succ,List.getElem?_cons_zero] at l7 l8
  have K3:St B w0 (SimP l { σ with ln:=ln,col:=col } dps::ChP ib sa cap t p::r) (((w.setCell ⟨ib,1,none⟩ (.int .i64 p)).setCell ⟨l,7,none⟩ (.int .i64 ln)).setCell ⟨l,8,none⟩ (.int .i64 col)):=K2.join
  have HK:=Lib.hid K3
  clear K0 K1 K2 K3 H
  go_enter Tryz.func115,Tryz.ntmps115
  go_wp2_with (first
    | (go_at_call 280; refine h280.mono ?_; rintro e w' ⟨rfl,rfl⟩))
  go_end0
  exact ⟨rfl,HK.out⟩
set_option maxRecDepth 100000 in
set_option maxHeartbeats 1000000 in
theorem c79_acc {l ib cap pos p pa k:Nat} {sa:Option Addr} {t:List Nat} {σ : Sim} {dps:List Value} {ln col:Int} {v:Value} {c:Int} (hpa : σ.pa=pa) (hp:p≤t.length) (hk:m.ms[k]? = some s)
    (H:St B w0 (SimP l σ dps::pts pa 234 (accC p ln col (bp s.sb))::ChP ib sa cap t pos::(DfaL kd bk xf pf d ats dec m++r)) w) :
    Calls Tryz.prog 79 #[bp l,bp pa,.iface 123 (bp ib),v,.int .i64 c] w fun e w'=>e=.returned (.int .i64 s.pred)∧St B w0 (SimP l { σ with ln:=ln,col:=col } dps::pts pa 234 (accC p ln col (bp s.sb))::ChP ib sa cap t p::(DfaL kd bk xf pf d ats dec m++r)) w':=by
  have l10:=H.split.cells.1 10
  have l6:w.cell? ⟨l,6,none⟩=some (.int .i64 σ.si):=H.split.cells.1 6
  simp only [Sim.cells,List.getElem?_cons_succ,List.getElem?_cons_zero,hpa] at l10
  have pc:=(H.pick 1).cells.1
  have p0:w.cell? ⟨pa,0,none⟩=some (.int .i64 p):=pc 0
  have p1:w.cell? ⟨pa,1,none⟩=some (.int .i64 ln):=pc 1
  have p2:w.cell? ⟨pa,2,none⟩=some (.int .i64 col):=pc 2
  have p3:w.cell? ⟨pa,3,none⟩=some (bp s.sb):=pc 3
  have hst:∀ (σ : Sim) (pos:Nat) (w:World),St B w0 (SimP l σ dps::pts pa 234 (accC p ln col (bp s.sb))::ChP ib sa cap t pos::(DfaL kd bk xf pf d ats dec m++r)) w→w.cell? ⟨s.sb,5,none⟩=some (.pointer none)∧w.cell? ⟨s.sb,4,none⟩=some (.int .i64 s.pred):=fun σ pos w H=>by
    have H':St B w0 (DfaL kd bk xf pf d ats dec m++r) w:=H.drop.drop.drop
    have:=(DfaL.state hk H').1
    exact ⟨this 5,this 4⟩
  obtain ⟨s5,s4⟩:=hst _ _ _ H
  have h115:=fun w H=>c115 (w:=w) (σ := σ) (si := σ.si) (ln:=ln) (col:=col) (pos:=pos) (dps:=dps) (l:=l) (ib:=ib) (sa:=sa) (cap:=cap) (B:=B) (w0:=w0) (r:=pts pa 234 (accC p ln col (bp s.sb))::(DfaL kd bk xf pf d ats dec m++r)) hp H
  have HH:=Lib.hid ((H.pick 2).pick 1)
  clear pc H
  go_enter Tryz.func79,Tryz.ntmps79
  go_wp2_with fail
  go_region_held3 (fun w'=>w'.cell? ⟨l,6,none⟩=some (.int .i64 σ.si)∧w'.cell? ⟨pa,0,none⟩=some (.int .i64 p)∧w'.cell? ⟨pa,1,none⟩=some (.int .i64 ln)∧w'.cell? ⟨pa,2,none⟩=some (.int .i64 col))
    (first
      | go_keep
      | exact ⟨H2.split.cells.1 6,(H2.pick 1).cells.1 0,(H2.pick 1).cells.1 1,(H2.pick 1).cells.1 2⟩)
    (first
      | (go_at_call 115; refine (h115 _ (by exact HH.out.drew)).mono ?_; rintro e w' ⟨rfl,H1⟩; have H2:=(H1.pick 2).pick 1))
  all_goals
    obtain ⟨s5',s4'⟩:=hst _ _ _ H2
    have q3:w'.cell? ⟨pa,3,none⟩=some (bp s.sb):=(H2.pick 1).cells.1 3
    go_wp2_with fail
    go_ret
    exact ⟨rfl,H2⟩
set_option maxRecDepth 100000 in
set_option maxHeartbeats 1000000 in
theorem c79_eof {l ib cap pos pa:Nat} {sa:Option Addr} {t:List Nat} {σ : Sim} {dps:List Value} {p0 ln col:Int} {v:Value} (hpa : σ.pa=pa) (hsi : σ.si=(pos:Int))
    (H:St B w0 (SimP l σ dps::pts pa 234 (accC p0 ln col (.pointer none))::ChP ib sa cap t pos::r) w) :
    Calls Tryz.prog 79 #[bp l,bp pa,.iface 123 (bp ib),v,.int .i64 (-1)] w fun e w'=>e=.returned (.int .i64 (-1))∧∃ n,w'=w.drewN n:=by
  have l10:=H.split.cells.1 10
  have l6:w.cell? ⟨l,6,none⟩=some (.int .i64 (pos:Int)):=by rw [← hsi]; exact H.split.cells.1 6
  simp only [Sim.cells,List.getElem?_cons_succ,List.getElem?_cons_zero,hpa] at l10
  have p3:w.cell? ⟨pa,3,none⟩=some (.pointer none):=(H.pick 1).cells.1 3
  have hi:=(ChP.cell (H.pick 2)).2.1
  clear H
  go_enter Tryz.func79,Tryz.ntmps79
  go_wp2_with (first
    | (go_quiet (first | (go_at_call 43; exact Calls.quiet_of_same ((c43 _ _ _ (by exact hi)).mono (by rintro e w' ⟨h1,h2⟩; exact ⟨h1,h2.symm⟩))))))
  go_ret
  exact ⟨rfl,_,rfl⟩
end Go.Proofs.YtbcngfgemjdllaaGreatDoor
end
section
namespace Go.Proofs.YtbcngfgemjdllaaGreatDoor
open Go.RowKit Go.Own
variable {kd bk xf pf ru:Nat→Nat} {B N A:Nat} {w0 w:World} {r:List HP} {X:HP} {m:DM} {s:SM} {d:Nat} {ats:Value} {dec:Int}
set_option maxRecDepth 100000 in
set_option maxHeartbeats 1000000 in
theorem c79_fail {l ib cap pos pa:Nat} {sa:Option Addr} {t:List Nat} {σ : Sim} {dps:List Value} {p0 ln col:Int} {v:Value} {c:Int} (hpa : σ.pa=pa) (hsi:c = -1→((pos:Int) == σ.si)=false)
    (H:St B w0 (SimP l σ dps::pts pa 234 (accC p0 ln col (.pointer none))::ChP ib sa cap t pos::r) w) :
    Calls Tryz.prog 79 #[bp l,bp pa,.iface 123 (bp ib),v,.int .i64 c] w fun e w'=>∃ pb,e=.panicked [{ v:=.iface 127 (bp pb),recovered:=false }]∧St B w0 (pts pb 215 [.int .i64 σ.si,.int .i64 pos]::SimP l σ dps::pts pa 234 (accC p0 ln col (.pointer none))::ChP ib sa cap t pos::r) w':=by
  have l10:=H.split.cells.1 10
  have l6:w.cell? ⟨l,6,none⟩=some (.int .i64 σ.si):=H.split.cells.1 6
  simp only [Sim.cells,List.getElem?_cons_succ,List.getElem?_cons_zero,hpa] at l10
  have p3:w.cell? ⟨pa,3,none⟩=some (.pointer none):=(H.pick 1).cells.1 3
  have hi:=(ChP.cell (H.pick 2)).2.1
  have HH:=Lib.hid H
  clear H
  by_cases hc:c = -1
  · have hs:=hsi hc
    subst hc
    go_enter Tryz.func79,Tryz.ntmps79
    go_wp2_with (first
      | (go_quiet (first | (go_at_call 43; exact Calls.quiet_of_same ((c43 _ _ _ (by exact hi)).mono (by rintro e w' ⟨h1,h2⟩; exact ⟨h1,h2.symm⟩))))))
    refine wp_region_still_tail 7 (by kernel_rfl) (by kernel_rfl) ?_
    simp only [List.take_succ_cons,List.take_zero,List.drop_succ_cons,List.drop_zero]
    have l6':((w.drewN nq).drew).cell? ⟨l,6,none⟩=some (.int .i64 σ.si):=l6
    have hi':((w.drewN nq).drew).cell? ⟨ib,1,none⟩=some (.int .i64 pos):=hi
    have HW:=(HH.out.drewN nq).drew
    change wpStill Tryz.prog _ ((w.drewN nq).drew) (fun a'=>wpList Tryz.prog _ _ _ a' ((w.drewN nq).drew)) _ _
    generalize (w.drewN nq).drew=W at l6' hi' HW ⊢
    have HHW:=Lib.hid HW
    clear HW
    still_step
    still_step
    still_step
    still_step
    still_step
    still_call ((c43 _ _ _ (by exact hi')).mono (by rintro e w' ⟨h1,h2⟩; exact ⟨h1,h2.symm⟩))
    still_step
    refine wpStill_nil ?_
    go_wp2_with fail
    exact ⟨rfl,W.heap.size,rfl,HHW.out.alloc (ob 215 [.int .i64 σ.si,.int .i64 pos])⟩
  · have hcb:(c == -1)=false:=by rw [beq_eq_false_iff_ne]; exact hc
    go_enter Tryz.func79,Tryz.ntmps79
    go_wp2_with (first
      | (go_quiet (first | (go_at_call 43; exact Calls.quiet_of_same ((c43 _ _ _ (by exact hi)).mono (by rintro e w' ⟨h1,h2⟩; exact ⟨h1,h2.symm⟩))))))
    refine wp_region_still_tail 7 (by kernel_rfl) (by kernel_rfl) ?_
    simp only [List.take_succ_cons,List.take_zero,List.drop_succ_cons,List.drop_zero]
    have l6':((w.drewN nq).drew).cell? ⟨l,6,none⟩=some (.int .i64 σ.si):=l6
    have hi':((w.drewN nq).drew).cell? ⟨ib,1,none⟩=some (.int .i64 pos):=hi
    have HW:=(HH.out.drewN nq).drew
    change wpStill Tryz.prog _ ((w.drewN nq).drew) (fun a'=>wpList Tryz.prog _ _ _ a' ((w.drewN nq).drew)) _ _
    generalize (w.drewN nq).drew=W at l6' hi' HW ⊢
    have HHW:=Lib.hid HW
    clear HW
    still_step
    still_step
    still_step
    still_step
    still_step
    still_call ((c43 _ _ _ (by exact hi')).mono (by rintro e w' ⟨h1,h2⟩; exact ⟨h1,h2.symm⟩))
    still_step
    refine wpStill_nil ?_
    go_wp2_with fail
    exact ⟨rfl,W.heap.size,rfl,HHW.out.alloc (ob 215 [.int .i64 σ.si,.int .i64 pos])⟩
end Go.Proofs.YtbcngfgemjdllaaGreatDoor
end
section
namespace Go.Proofs.YtbcngfgemjdllaaGreatDoor
open Go.RowKit Go.Own
variable {kd bk xf pf ru:Nat→Nat} {out:Nat→List Lx.Tr} {kindOf:Nat→Int} {stop:Nat→Bool} {B n N A at_ nr:Nat} {w0 w:World} {r:List HP} {X:HP} {m:DM} {D:Lx.DS} {s:SM} {d:Nat} {ats:Value} {dec:Int} {P:List Lx.Cf→Prop}
def AccIs (stop:Nat→Bool) (m:DM) (p0 l0 k0:Int) (v0:Value):Option Lx.AccR→Prop
  | none=>v0=.pointer none
  | some a=>∃ s,m.ms[a.st]? = some s∧(Lx.accd stop s.L).isSome=true∧p0=a.pos∧l0=a.ln∧k0=a.col∧v0=bp s.sb
theorem AccIs.grow {m':DM} {p0 l0 k0:Int} {v0:Value} {acc:Option Lx.AccR} (h:AccIs stop m p0 l0 k0 v0 acc) (hg:∀ (j:Nat) (x:SM),m.ms[j]? = some x→∃ y,m'.ms[j]? = some y∧Alike x y):AccIs stop m' p0 l0 k0 v0 acc:=by
  cases acc with
  | none=>exact h
  | some a =>
    obtain ⟨s,h1,h2,h3,h4,h5,h6⟩:=h
    obtain ⟨y,g1,g2⟩:=hg _ _ h1
    exact ⟨y,g1,by rw [g2.L]; exact h2,h3,h4,h5,by rw [g2.sb]; exact h6⟩
theorem perm3 {a b c:HP} {L:List HP} : (a::b::c::(L++r)).Perm (L++(a::b::c::r)):=by
  have p:∀ (x y z:List HP),(x++(y++z)).Perm (y++(x++z)):=fun x y z=>by
    rw [← List.append_assoc,← List.append_assoc]
    exact List.perm_append_comm.append_right z
  exact p [a,b,c] L r
theorem perm2 {a b c:HP} {L:List HP} : (a::b::c::(L++r)).Perm (a::(L++(b::c::r))):=by
  have p:∀ (x y z:List HP),(x++(y++z)).Perm (y++(x++z)):=fun x y z=>by
    rw [← List.append_assoc,← List.append_assoc]
    exact List.perm_append_comm.append_right z
  exact (p [b,c] L r).cons a
structure DInv (P:List Lx.Cf→Prop) (D:Lx.DS) (more:Nat):Prop where
  P:∀ L ∈ D.sts,P L
  sl:D.sts.length+more<1073741824
  al:D.asked.length+2 * more<1073741824
theorem addS_inv {S:Lx.CS} {more:Nat} (h:DInv P D (more+1)) (hP:P S.cf):DInv P (D.addS hS S).1 more:=by
  unfold Lx.DS.addS
  cases D.find hS S.cf with
  | some k =>
    refine ⟨h.P,?_,?_⟩
    · have:=h.sl; simp only; omega
    · have:=h.al; simp only [List.length_append,List.length_cons,List.length_nil]; omega
  | none =>
    refine ⟨fun L hL => ?_,?_,?_⟩
    · rcases List.mem_append.1 hL with hL | hL
      · exact h.P L hL
      · simp at hL; subst hL; exact hP
    · have:=h.sl; simp only [List.length_append,List.length_cons,List.length_nil]; omega
    · have:=h.al; simp only [List.length_append,List.length_cons,List.length_nil]; omega
theorem DInv.less {more more':Nat} (h:DInv P D more) (hl:more'≤more):DInv P D more':=⟨h.P,by have:=h.sl; omega,by have:=h.al; omega⟩
theorem DInv.setE {more k c:Nat} {x:Option Nat} (h:DInv P D more):DInv P (D.setE k c x) more:=⟨h.P,h.sl,h.al⟩
def ExPost (kd bk xf pf:Nat→Nat) (B N A:Nat) (w0:World) (r:List HP) (stop:Nat→Bool) (kindOf:Nat→Int) (P:List Lx.Cf→Prop) (l d pa ib cap:Nat) (sa:Option Addr) (t:List Nat) (σ : Sim) (dps:List Value) (ats:Value) (dec:Int) (si:Nat) (R:Lx.DS × Option Lx.AccR × Nat × Bool) (e:Ending) (w':World):Prop :=
  ∃ m' p0 l0 k0 v0,DMok N A stop kindOf m' R.1∧(∃ more,DInv P R.1 more)∧match R.2.1 with
    | some a=>a.pos≤t.length∧e=.returned (.int .i64 (kindOf (((Lx.accd stop (R.1.cfs a.st)).getD (0,0)).1)))∧St B w0 (SimP l { σ with ln:=(a.ln:Int),col:=(a.col:Int) } dps::pts pa 234 (accC p0 l0 k0 v0)::ChP ib sa cap t a.pos::(DfaL kd bk xf pf d ats dec m'++r)) w'
    | none=>R.2.2.1≤t.length∧∃ (ln col:Int),(R.2.2.2=true∧R.2.2.1=si∧e=.returned (.int .i64 (-1))∧St B w0 (SimP l { σ with ln:=ln,col:=col } dps::pts pa 234 (accC p0 l0 k0 v0)::ChP ib sa cap t R.2.2.1::(DfaL kd bk xf pf d ats dec m'++r)) w') ∨
        ((R.2.2.2 && R.2.2.1 == si)=false∧∃ pb,e=.panicked [{ v:=.iface 127 (bp pb),recovered:=false }]∧St B w0 (pts pb 215 [.int .i64 si,.int .i64 (R.2.2.1:Int)]::SimP l { σ with ln:=ln,col:=col } dps::pts pa 234 (accC p0 l0 k0 v0)::ChP ib sa cap t R.2.2.1::(DfaL kd bk xf pf d ats dec m'++r)) w')
def posOf (ib:Nat) (w:World):Nat:=match w.cell? ⟨ib,1,none⟩ with
  | some (.int _ n)=>n.toNat
  | _=>0
structure RunSt (kd bk xf pf:Nat→Nat) (B N A:Nat) (w0:World) (r:List HP) (stop:Nat→Bool) (kindOf:Nat→Int) (P:List Lx.Cf→Prop) (out:Nat→List Lx.Tr) (n:Nat) (l d pa ib cap:Nat) (sa:Option Addr) (t:List Nat) (σ : Sim) (dps:List Value) (ats:Value) (dec:Int) (R:Lx.DS × Option Lx.AccR × Nat × Bool)
    (m:DM) (D:Lx.DS) (k pos ln col:Nat) (acc:Option Lx.AccR) (s:SM) (p0 l0 k0:Int) (v0:Value) (w:World):Prop where
  hm:DMok N A stop kindOf m D
  inv:DInv P D (t.length - pos)
  hk:m.ms[k]? = some s
  hpos:pos≤t.length
  hln:ln+(t.length - pos)<1099511627776
  hcol:col+(t.length - pos)<1099511627776
  hacc:AccIs stop m p0 l0 k0 v0 acc
  accp:∀ a,acc=some a→a.pos≤t.length
  run:Lx.runF hN hS out n stop (t.drop pos) D k pos ln col acc=R
  st:St B w0 (SimP l { σ with ln:=(ln:Int),col:=(col:Int) } dps::pts pa 234 (accC p0 l0 k0 v0)::ChP ib sa cap t pos::(DfaL kd bk xf pf d ats dec m++r)) w
theorem runF_none {t:List Nat} {k pos ln col c:Nat} {acc:Option Lx.AccR} (hc:t[pos]? = some c) (h:(D.stepD hN hS out n k c).2=none):Lx.runF hN hS out n stop (t.drop pos) D k pos ln col acc=((D.stepD hN hS out n k c).1,acc,pos,false):=by
  obtain ⟨hlt,he⟩:=List.getElem?_eq_some_iff.1 hc
  rw [List.drop_eq_getElem_cons hlt,he]
  simp only [Lx.runF,h]
theorem runF_some {t:List Nat} {k pos ln col c k':Nat} {acc:Option Lx.AccR} (hc:t[pos]? = some c) (h:(D.stepD hN hS out n k c).2=some k'):Lx.runF hN hS out n stop (t.drop pos) D k pos ln col acc =
    Lx.runF hN hS out n stop (t.drop (pos+1)) (D.stepD hN hS out n k c).1 k' (pos+1) (Lx.moved ln col c).1 (Lx.moved ln col c).2 (if (Lx.accd stop ((D.stepD hN hS out n k c).1.cfs k')).isSome then some ⟨pos+1,(Lx.moved ln col c).1,(Lx.moved ln col c).2,k'⟩ else acc):=by
  obtain ⟨hlt,he⟩:=List.getElem?_eq_some_iff.1 hc
  rw [List.drop_eq_getElem_cons hlt,he]
  simp only [Lx.runF,h]
theorem runF_end {t:List Nat} {k pos ln col:Nat} {acc:Option Lx.AccR} (hc:t[pos]? = none):Lx.runF hN hS out n stop (t.drop pos) D k pos ln col acc=(D,acc,pos,true):=by
  rw [List.drop_eq_nil_of_le (List.getElem?_eq_none_iff.1 hc)]
  rfl
theorem cfs_of {k:Nat} (hm:DMok N A stop kindOf m D) (hk:m.ms[k]? = some s):D.cfs k=s.L:=by
  unfold Lx.DS.cfs
  rw [hm.sts,List.getD_eq_getElem?_getD,List.getElem?_map,hk]
  rfl
theorem moved_le (ln col c:Nat):(Lx.moved ln col c).1≤ln+1∧(Lx.moved ln col c).2≤col+1:=by
  unfold Lx.moved
  split <;> simp
end Go.Proofs.YtbcngfgemjdllaaGreatDoor
end
