/- Part 42: Z23, A1, M6, A2. -/
import Derived.Test.YtbcngfgemjdllaaGreatDoorB19
import Derived.Test.YtbcngfgemjdllaaGreatDoorB28
import Derived.Test.YtbcngfgemjdllaaGreatDoorB29
import Derived.Test.YtbcngfgemjdllaaGreatDoorB40
import Derived.Test.YtbcngfgemjdllaaGreatDoorB41
set_option linter.unusedVariables false
set_option linter.unusedSimpArgs false
section
namespace Go.Proofs.YtbcngfgemjdllaaGreatDoor
open Go.RowKit Go.Own
variable {B:Nat} {w0 w:World} {r:List HP} {rules:List Lx.Ex}
structure Built (rules:List Lx.Ex) (at_:Nat) (bk:Nat→Nat) (w:World):Prop where
  net:NetR (Lx.nK rules) bk (Lx.nOut rules) (Lx.nRu rules) (Lx.nKind rules) w.heap.size w (1+Lx.cN rules) at_ rules.length
  dec:DecT (Lx.nK rules) bk w.heap.size w (1+Lx.cN rules) at_ (0::Lx.cDec rules 1)
theorem cm_sts {ru:Nat} : (cmK rules rules.length ru).sts=Lx.nSts rules:=by simp [cmK,Lx.nSts]
theorem cm_ed {ru:Nat} : (cmK rules rules.length ru).ed=Lx.cEdg rules 1:=by simp [cmK]
theorem cm_dc {ru:Nat} : (cmK rules rules.length ru).dc=0::Lx.cDec rules 1:=by simp [cmK]
theorem cm_st {ru:Nat} : (cmK rules rules.length ru).st=Lx.cStart rules 1:=by simp [cmK]
theorem cm_kd {ru:Nat} : (cmK rules rules.length ru).kd=(List.range rules.length).map (· + 1):=rfl
theorem cm_ru {ru:Nat} : ruK (cmK rules rules.length ru)=ruN rules:=by unfold ruK ruN; rw [cm_st,cm_kd]
theorem cm_mt {ru k:Nat} : mtK (cmK rules rules.length ru) k≤rules.length:=by
  unfold mtK
  have key:∀ (l:List Nat) (a m:Nat),a≤m→(∀ x ∈ l,x≤m)→l.foldl max a≤m:=by
    intro l
    induction l with
    | nil=>intro a m h _; exact h
    | cons x l ih=>intro a m h1 h2; exact ih _ m (Nat.max_le.2 ⟨h1,h2 x (by simp)⟩) fun y hy=>h2 y (by simp [hy])
  refine key _ 0 _ (Nat.zero_le _) fun x hx => ?_
  have:=List.mem_of_mem_take hx
  rw [cm_kd] at this
  obtain ⟨y,hy,rfl⟩:=List.mem_map.1 this
  rw [List.mem_range] at hy; omega
theorem smN {ru k:Nat} (hg:Lx.GoodR rules) (hl:rules.length≤1000) (hs:Lx.sizes rules≤10000):SmN (cmK rules rules.length ru) (ruN rules) (mtK (cmK rules rules.length ru) k):=by
  have h1:=cN_le rules
  have h2:=cEdg_le rules 1
  have h3:=cDec_le rules 1
  have hN:1+Lx.cN rules<1000000:=by omega
  refine ⟨by rw [cm_sts,Lx.nSt_len]; exact hN,by rw [ruN_len]; omega,by rw [cm_ed]; omega,by rw [cm_dc,List.length_cons]; omega,by have:=cm_mt (rules:=rules) (ru:=ru) (k:=k); omega,?_,?_,?_,?_⟩
  · intro x hx
    rw [cm_sts] at hx
    obtain ⟨i,hi⟩:=List.mem_iff_getElem?.1 hx
    have hil:i<1+Lx.cN rules:=by rw [← Lx.nSt_len]; exact (List.getElem?_eq_some_iff.1 hi).1
    rw [Lx.nSt_get hil] at hi; cases hi
    have hk:=Lx.nK_ok hg hil
    refine ⟨hk.2,hk.1,?_,?_⟩
    · by_cases h0:i=0
      · subst h0; show Lx.nRu rules 0<_; rw [Lx.nRu_zero]; omega
      · have:=Lx.nRu_lt hg (s:=i) (by omega) hil
        show Lx.nRu rules i<_; omega
    · show Lx.nA rules i<1000000
      by_cases hB:Lx.nK rules i=3∨Lx.nK rules i=4∨Lx.nK rules i=5
      · obtain ⟨g1,g2⟩:=Lx.nBlk hg hB
        have:=Lx.nK_lt (rules:=rules) (s:=i+1) (by rw [g2]; omega)
        omega
      · by_cases h12:Lx.nK rules i=12
        · have:=Lx.nEnd hg h12; omega
        · have:=Lx.nA_none hB h12; omega
  · intro x hx
    obtain ⟨ρ,hρ⟩:=List.mem_iff_getElem?.1 hx
    obtain ⟨g1,g2⟩:=ruN_get (a:=x.1) (tt:=x.2) hρ
    have:=Lx.nStart_lt (List.mem_of_getElem? g1)
    have hr : ρ < rules.length:=by rw [← ruN_len]; exact (List.getElem?_eq_some_iff.1 hρ).1
    omega
  · intro d hd
    rw [cm_ed] at hd
    obtain ⟨⟨g1,g2,g3,g4,g5⟩,g6,g7⟩:=Lx.nEdg hg hd
    omega
  · intro x hx
    rw [cm_dc] at hx
    have:=Lx.nDec hx
    have:=Lx.nK_lt (rules:=rules) (s:=x) (by omega)
    omega
theorem serN_mem {S:BS} {ruls:List (Nat × Nat)} {mt:Nat} (h:SmN S ruls mt):∀ x ∈ serN S ruls mt,-2147483648≤x∧x<2147483648:=by
  intro x hx
  rw [serN_eq] at hx
  have h1:=h.n1
  have h2:=h.n2
  have h4:=h.n4
  have h5:=h.n5
  have hm:=h.m
  simp only [List.mem_cons,List.mem_append,List.mem_flatMap,List.not_mem_nil,or_false] at hx
  rcases hx with rfl | rfl | rfl | rfl | ⟨y,hy,hx⟩ | rfl | rfl | rfl | ⟨y,hy,hx⟩ | rfl | rfl | rfl | rfl | ⟨y,hy,hx⟩ | rfl | ⟨y,hy,hx⟩ | rfl
  all_goals try omega
  · have:=h.s y hy
    unfold seS at hx
    split at hx <;> simp at hx <;> omega
  · have:=h.r y hy
    simp [ruI] at hx; omega
  · have:=h.e y hy
    simp [edI] at hx; omega
  · have:=h.d y hy
    simp [inI] at hx; omega
theorem serN_len {S:BS} {ruls:List (Nat × Nat)} {mt:Nat} (h:SmN S ruls mt):(serN S ruls mt).length<1000000000:=by
  rw [serN_eq]
  have h1:=h.n1
  have h2:=h.n2
  have h4:=h.n4
  have h5:=h.n5
  have b1:=flat_le (f:=seS) (n:=3) seS_len S.sts
  have b2:=flat_le (f:=ruI) (n:=2) (fun _=>Nat.le_refl _) ruls
  have b3:=flat_le (f:=edI) (n:=6) (fun _=>Nat.le_refl _) S.ed
  have b4:=flat_le (f:=inI) (n:=1) (fun _=>Nat.le_refl _) S.dc
  simp only [List.length_cons,List.length_append,List.length_nil]
  omega
set_option maxRecDepth 100000 in
theorem c46 {S:BS} {mt:Nat} {da:Option Addr} {dc:Nat} {xs:List Int} (hg:Lx.GoodR rules) (hl:0<rules.length) (hS:S.sts=Lx.nSts rules) (hE:S.ed=Lx.cEdg rules 1) (hD:S.dc=0::Lx.cDec rules 1) (hxs:xs=serN S (ruN rules) mt) (hsm:SmN S (ruN rules) mt)
    (hN:Lx.cN rules<100000) (hrow:RowAt w da (i32 xs)) :
    Calls Tryz.prog 46 #[.slice da xs.length dc] w fun e w'=>∃ at_ bk,e=.returned (.pointer (some ⟨at_,0,none⟩))∧Built rules at_ bk w'∧Below w.heap.size w w':=by
  have h63:=c63 (St.nil w)
  have H63:=Lib.hid h63
  have h64:=fun bd bo W H=>c64 (w:=W) (w0:=w) (B:=w.heap.size) (r:=[]) (bd:=bd) (bo:=bo) (dc:=dc) hg hS hE hD hxs rfl hrow (by rw [hxs]; exact serN_len hsm) (by rw [hxs]; exact serN_mem hsm) hN hl hsm.n4 hsm.n5 (by have:=hsm.n2; rwa [ruN_len] at this) H
  have H64:=Lib.hid h64
  have HG:=Lib.hid (And.intro hg (And.intro hl (And.intro hN (And.intro (by have:=hsm.n4; rwa [hE] at this:(Lx.cEdg rules 1).length<1000000) (by have:=hsm.n5; rw [hD,List.length_cons] at this; omega:(Lx.cDec rules 1).length<1000000)))))
  clear h63 h64 hg hl hS hE hD hxs hsm hN hrow
  go_enter Tryz.func46,Tryz.ntmps46
  go_wp2_with fail
  go_at_call 63
  refine H63.out.mono ?_
  rintro e w1 ⟨bd,bo,rfl,h1⟩
  have HH:=Lib.hid h1
  clear h1
  go_wp2_with fail
  go_at_call 64
  refine (H64.out bd bo w1 HH.out).mono ?_
  rintro e w2 ⟨at_,A,L4,L5,ts,sa,sc,g5,g6,g7,g8,vs,ga,ca,dz,rfl,hM,h2⟩
  have HM:=Lib.hid (And.intro hM h2)
  clear hM h2
  go_wp2_with fail
  go_ret
  exact ⟨at_,bkL L5,rfl,⟨HM.out.1.netR HG.out.1 HG.out.2.2.1 HG.out.2.1 HG.out.2.2.2.1 HM.out.2,HM.out.1.decT HG.out.2.2.2.2 HM.out.2⟩,HM.out.2.below⟩
theorem c33 {V:NV} {ru:Nat} (hg:Lx.GoodR rules) (hl0:0<rules.length) (hl:rules.length≤900) (hs:Lx.sizes rules≤10000) (hN:NetV w V (cmK rules rules.length ru)) :
    Calls Tryz.prog 33 #[.agg (V.cells (cmK rules rules.length ru)).toArray] w fun e w'=>∃ at_ bk,e=.returned (.pointer (some ⟨at_,0,none⟩))∧Built rules at_ bk w'∧Below w.heap.size w w':=by
  have hsm:=fun k=>smN (ru:=ru) (k:=k) hg (by omega) hs
  have hc:=cN_le rules
  refine c33a hN (by rw [cm_st,Lx.cStart_len]; omega) (by rw [cm_st,cm_kd,Lx.cStart_len]; simp) (hsm 0).n1 (hsm 0).n4 ⟨by rw [cm_dc]; simp,(hsm 0).n5⟩ (by
    intro x hx
    rw [cm_kd] at hx
    obtain ⟨y,hy,rfl⟩:=List.mem_map.1 hx
    rw [List.mem_range] at hy; omega) ?_
  intro W G hb hG
  refine (c47 hG (by rw [cm_ru]; exact hsm _)).mono ?_
  rintro e W2 ⟨a,c,rfl,hrow,hb2⟩
  refine ⟨_,rfl,?_⟩
  rw [cm_ru] at hrow ⊢
  refine (c46 hg hl0 cm_sts cm_ed cm_dc rfl (hsm _) (by omega) hrow).mono ?_
  rintro e w' ⟨at_,bk,rfl,hB,hb3⟩
  refine ⟨⟨_,rfl⟩,at_,bk,rfl,hB,?_⟩
  exact (hb.trans (hb2.mono hb.size)).trans (hb3.mono (by have:=hb.size; have:=hb2.size; omega))
end Go.Proofs.YtbcngfgemjdllaaGreatDoor
end
section
namespace Go.Proofs.YtbcngfgemjdllaaGreatDoor
open Go.RowKit Go.Own
variable {rules:List Lx.Ex} {n at_:Nat} {bk:Nat→Nat} {w w0 w1:World} {r:List HP}
structure GdR (rules:List Lx.Ex) (n:Nat):Prop where
  good:Lx.GoodR rules
  small:Lx.Small rules
  pos:0<rules.length
  len:rules.length≤900
  size:Lx.sizes rules≤10000
  dep:∀ s,1≤s→Lx.Dep (Lx.nOut rules) n s
noncomputable def LX (rules:List Lx.Ex) (n:Nat) (t:List Nat):List Lx.Tok × Int × Lx.DS:=Lx.lexF hN hS (Lx.nOut rules) n (Lx.nStop rules) (Lx.nKind rules) t (t.length+1) dsN 0 1 0
theorem lexF_len {h:Lx.Cf→Int} {hs:List Lx.Cf→Int} {out:Nat→List Lx.Tr} {stop:Nat→Bool} {kindOf:Nat→Int} {t:List Nat} : ∀ (f:Nat) (D:Lx.DS) (pos ln col:Nat),(Lx.lexF h hs out n stop kindOf t f D pos ln col).1.length≤f
  | 0,D,pos,ln,col=>by simp [Lx.lexF]
  | f + 1, D, pos, ln, col => by
    rcases hm:Lx.match1 h hs out n stop kindOf D (t.drop pos) pos ln col with ⟨D',res⟩
    cases res with
    | tok tk =>
      by_cases he:tk.stop=pos
      · rw [lexF_stop hm he]; simp
      · rw [lexF_tok hm he]
        have:=lexF_len f D' tk.stop tk.ln tk.col (t:=t) (h:=h) (hs:=hs) (out:=out) (stop:=stop) (kindOf:=kindOf)
        simp only [List.length_cons]; omega
    | eof=>rw [lexF_eof hm]; simp
    | fail=>rw [lexF_fail hm]; simp
theorem c52r (hG:GdR rules n) (hB:Built rules at_ bk w) {s:ByteArray} (ht:∀ c ∈ tx s,c≤127) (hl:s.size≤60) (H:St w.heap.size w r w1) :
    Calls Tryz.prog 52 #[bp at_,.string s,.int .i64 0,.agg #[.map none,.int .i64 0]] w1 fun e w'=>R52 (Lx.nK rules) bk (Lx.nOut rules) (Lx.nKind rules) (Lx.nStop rules) w.heap.size n (1+Lx.cN rules) (rules.length+1) w (Lx.LOk rules) (tx s) (0::Lx.cDec rules 1) r e w' :=
  c52 hB.net hB.dec (fun _ _=>rfl) (env_of hG.good hG.small hG.pos hG.dep) (fun tr h=>hG.dep _ (Lx.nTo h).1) (by rw [Lx.nOut_zero,List.length_map,Lx.cStart_len]; exact hG.pos) (fun n=>by unfold Lx.nKind; omega) ht hl H
abbrev T5:=Int × Int × Int × Int × Int
def t5 (x:Lx.Tok):T5:=(x.kind,(x.start:Int),(x.stop:Int),(x.ln:Int),(x.col:Int))
def q5 (y:T5):List Value:=[.int .i64 y.1,.int .i64 y.2.1,.int .i64 y.2.2.1,.int .i64 y.2.2.2.1,.int .i64 y.2.2.2.2]
def q6 (y:T5):List Value:=[.int .i64 y.1,.int .i64 y.2.1,.int .i64 y.2.2.1,.int .i64 y.2.2.2.1,.int .i64 y.2.2.2.2,.slice none 0 0]
def XT (T:List Lx.Tok) (x:Option (Nat × Int × Int)):List T5:=T.map t5++(match x with | none=>[] | some y=>[(-1,(y.1:Int),(y.1:Int),y.2.1,y.2.2)])
theorem XT_len {T:List Lx.Tok} {x:Option (Nat × Int × Int)} : (XT T x).length=T.length+eoN x:=by
  unfold XT eoN
  cases x <;> simp
theorem XT_q6 {T:List Lx.Tok} {x:Option (Nat × Int × Int)} : (XT T x).flatMap q6=T.flatMap tkM++eoC x:=by
  unfold XT eoC
  rw [List.flatMap_append,List.flatMap_map]
  cases x <;> rfl
theorem XT_fil {T:List Lx.Tok} {x:Option (Nat × Int × Int)} (h:∀ y ∈ T,y.kind ≠ -1):(XT T x).filter (fun y=>y.1 != -1)=T.map t5:=by
  unfold XT
  rw [List.filter_append]
  have h1:(T.map t5).filter (fun y=>y.1 != -1)=T.map t5:=List.filter_eq_self.2 fun y hy=>by
    obtain ⟨z,hz,rfl⟩:=List.mem_map.1 hy
    simpa [t5] using h z hz
  rw [h1]
  cases x <;> simp
structure MA (rules:List Lx.Ex) (n:Nat) (t:List Nat) (X:List T5):Prop where
  fil:X.filter (fun y=>y.1 != -1)=(Lx.noEnd (LX rules n t).1).map t5
  len:X.length≤t.length+2
set_option maxRecDepth 100000 in
theorem c37 (hG:GdR rules n) (hB:Built rules at_ bk w) {s:ByteArray} (ht:∀ c ∈ tx s,c≤127) (hl:s.size≤60) :
    Calls Tryz.prog 37 #[bp at_,.string s,.int .i64 0,.agg #[.map none,.int .i64 0]] w fun e w'=>∃ (X:List T5) (a:Option Addr) (c:Nat),e=.returned (.tuple #[.slice a X.length c,.int .i64 (LX rules n (tx s)).2.1])∧MA rules n (tx s) X∧RowAt w' a (X.flatMap q6)∧Below w.heap.size w w':=by
  have h52:=c52r hG hB ht hl ((St.nil w).alloc (ob 81 [.map none,.int .i64 0]))
  have H52:=Lib.hid h52
  clear h52 hG hB ht hl
  go_enter Tryz.func37,Tryz.ntmps37
  go_wp2_with fail
  go_at_call 52
  refine H52.out.mono ?_
  rintro e w2 ⟨l,d,pa,ib,cap,sa,σ,dps,ats,dec,ds,T,x,a,c,pos,ln,col,rfl,hT,hTk,hd,M⟩
  have hTl:T.length≤(tx s).length+1:=by
    rw [hT]
    exact Nat.le_trans (List.length_filter_le _ _) (lexF_len _ _ _ _ _)
  have HM:=Lib.hid (And.intro hT (And.intro hTk (And.intro M.any hTl)))
  clear hT hTk hd M hTl H52
  go_wp2_with fail
  go_ret2
  refine ⟨XT T x,a,c,?_,⟨?_,?_⟩,?_,?_⟩
  · rw [XT_len]; rfl
  · rw [XT_fil HM.out.2.1,HM.out.1]; rfl
  · rw [XT_len]
    have:=HM.out.2.2.2
    have:eoN x≤1:=by cases x <;> simp [eoN]
    omega
  · rw [XT_q6]; exact RowAt.of HM.out.2.2.1
  · exact HM.out.2.2.1.below
end Go.Proofs.YtbcngfgemjdllaaGreatDoor
end
section
namespace Go.Proofs.YtbcngfgemjdllaaGreatDoor
open Go.RowKit Go.Own
variable {kd bk xf pf:Nat→Nat} {out:Nat→List Lx.Tr} {ru:Nat→Nat} {kindOf:Nat→Int} {stop:Nat→Bool} {B n N A at_ nr:Nat} {w0 w w':World} {r:List HP} {P:List Lx.Cf→Prop} {X:HP}
theorem CfgW.mono {cb k sb:Nat} {s a:Int} {xb pb:Nat} (h:CfgW w cb k sb s a xb pb) (hb:Below w.heap.size w w'):CfgW w' cb k sb s a xb pb:=by
  have hlt:cb<w.heap.size:=by
    have:=(Go.Own.cells_at h.ob).1 0
    exact World.block_lt_of_cell? _ _ (show w.cell? ⟨cb,0,none⟩=some (.bool false) from by rw [this]; rfl)
  exact ⟨by rw [hb.block _ hlt]; exact h.ob,h.ok,cell_mono hb h.num,h.ctx.mono hb⟩
theorem FSW.mono {b cap:Nat} {sa:Option Addr} {cbs:List Nat} {L:List Lx.Cf} (h:FSW kd bk xf pf w b sa cap cbs L) (hb:Below w.heap.size w w'):FSW kd bk xf pf w' b sa cap cbs L:=by
  refine ⟨h.len,cell_mono hb h.sl,fun hne => ?_,fun i cb x h1 h2=>(h.cfg i cb x h1 h2).mono hb⟩
  obtain ⟨g,e,hc⟩:=h.row hne
  exact ⟨g,e,fun i cb hi=>cell_mono hb (hc i cb hi)⟩
theorem block_mono (hb:Below w.heap.size w w') {b:Nat} {T:TypeId} {l:List Value} (h:w.heap[b]? = some (ob T l)):w'.heap[b]? = some (ob T l):=by
  have hlt:b<w.heap.size:=(Array.getElem?_eq_some_iff.1 h).1
  rw [hb.block _ hlt]; exact h
theorem SMW.mono {s:SM} (h:SMW kd bk xf pf w s) (hb:Below w.heap.size w w'):SMW kd bk xf pf w' s:=by
  obtain ⟨av,jp,sa,cap,cbs,h1,h2⟩:=h.set.ex
  exact ⟨block_mono hb h.hb,⟨av,jp,sa,cap,cbs,h1.mono hb,block_mono hb h2⟩⟩
theorem CfgW.at0 {cb k sb:Nat} {s a:Int} {xb pb:Nat} (h:CfgW w cb k sb s a xb pb):CfgA w cb 0 k sb s a xb pb:=by
  have hc:=(Go.Own.cells_at h.ob).1
  exact ⟨hc 1,hc 2,hc 3,hc 4,hc 6,hc 7,hc 8,h.ok,h.num,h.ctx⟩
theorem asF_of {s:SM} (h:NetB kd bk B w0 N) (hcx:CtxX xf pf B w0 X A) (hX:X ∈ r) (hL:∀ x ∈ s.L,x.1<N∧x.2<A) (hA:∀ x ∈ s.A,x.1<N∧x.2<A) (l1:s.L.length<1099511627776) (l2:s.A.length<1099511627776) (H:St B w0 (SP kd bk xf pf s::r) w):AsF w s.sb s.L s.A:=by
  have hsm:=SP.smw h hcx hX hL H
  have H1:=SP.parts H
  have c1:w.cell? ⟨s.sb,1,none⟩=some (.pointer (some ⟨s.b,0,none⟩)):=(H1.pick 1).cells.1 1
  obtain ⟨av,cv,jp,ms,hk,H2⟩:=SetP.opn H1
  refine ⟨⟨s.b,c1,?_,?_⟩,fun w' hb=>(hsm.mono hb).c68 (by omega),l1,l2⟩
  · obtain ⟨av',jp',sa,cap,cbs,hF,_⟩:=hsm.set.ex
    refine ⟨sa,cap,hF.sl,fun i x hx => ?_⟩
    obtain ⟨g,e,hc⟩:=hF.row (by intro e; rw [e] at hx; simp at hx)
    obtain ⟨cb,hcb⟩:∃ cb,cbs[i]? = some cb:=⟨_,List.getElem?_eq_getElem (by rw [hF.len]; exact (List.getElem?_eq_some_iff.1 hx).1)⟩
    exact ⟨g,cb,_,_,_,_,e,hc i cb hcb,(hF.cfg i cb x hcb hx).at0⟩
  · unfold SetW at H2
    have H3:St B w0 (pts s.b 221 (setK av cv jp (kHash s.L s.ro) s.ro)::Osl av 227 9 s.A.length (s.A.flatMap (cfN kd bk xf pf))::_) w:=H2
    have c0:=H3.cells.1 0
    obtain ⟨a,c,e⟩:=(H3.pick 1).ownVal
    subst e
    refine ⟨a,c,c0,fun i x hx => ?_⟩
    obtain ⟨g,e,hc⟩:=(RowAt.of (H3.pick 1)).get (f:=cfN kd bk xf pf) (n:=9) (fun _=>rfl) (by omega) hx
    have hxA:=hA x (List.mem_of_getElem? hx)
    refine ⟨g,kd x.1,bk x.1,xf x.2,pf x.2,e,hc 1 _ rfl,hc 2 _ rfl,hc 3 _ rfl,hc 4 _ rfl,hc 6 _ rfl,hc 7 _ rfl,hc 8 _ rfl,h.kok _ hxA.1,?_,?_⟩
    · rw [H.old.1 _ _ (h.blt _ hxA.1),h.num _ hxA.1]
    · exact hcx.has H (by simp [hX]) hxA.2
def XD (D:Lx.DS) (i:Nat):List (List Lx.Cf × List Lx.Cf):=if i=0 then D.asked else []
theorem xd_len {D:Lx.DS} : ∀ k,((List.range k).flatMap fun i=>(XD D i).map fun q=>((i,q.1,q.2):MX)).length≤D.asked.length
  | 0=>by simp
  | k + 1 => by
    rw [List.range_succ,List.flatMap_append,List.length_append]
    cases k with
    | zero=>simp [XD]
    | succ k =>
      have:=xd_len (D:=D) (k+1)
      simp only [List.flatMap_cons,List.flatMap_nil,List.append_nil,List.length_map]
      have h0:XD D (k+1)=[]:=if_neg (by omega)
      rw [h0]; simpa using this
theorem xd_tx {D:Lx.DS} : ∀ k,TXs (XD D) (k+1)=D.asked.map fun q=>(0,q.1,q.2)
  | 0=>by simp [TXs,XD]
  | k+1=>by
    unfold TXs
    rw [List.range_succ,List.flatMap_append]
    have:=xd_tx (D:=D) k
    unfold TXs at this
    rw [this]
    have h0:XD D (k+1)=[]:=if_neg (by omega)
    simp [h0]
theorem lexF_asked {h:Lx.Cf→Int} {hs:List Lx.Cf→Int} {t:List Nat} : ∀ (f:Nat) (D:Lx.DS) (pos ln col:Nat),(Lx.lexF h hs out n stop kindOf t f D pos ln col).2.2.asked.length≤D.asked.length+f * (2 * (t.length+1))
  | 0,D,pos,ln,col=>by simp [Lx.lexF]
  | f + 1, D, pos, ln, col => by
    have hz:=(Lx.match1_sz (h:=h) (hs:=hs) (out:=out) (n:=n) (stop:=stop) (kindOf:=kindOf) D (t.drop pos) pos ln col).a
    rcases hm:Lx.match1 h hs out n stop kindOf D (t.drop pos) pos ln col with ⟨D',res⟩
    rw [hm,List.length_drop] at hz
    dsimp only at hz
    have hmul:(f+1) * (2 * (t.length+1))=f * (2 * (t.length+1))+2 * (t.length+1):=by rw [Nat.add_mul,Nat.one_mul]
    cases res with
    | tok tk =>
      by_cases he:tk.stop=pos
      · rw [lexF_stop hm he]; dsimp only; omega
      · rw [lexF_tok hm he]
        have:=lexF_asked f D' tk.stop tk.ln tk.col (t:=t) (h:=h) (hs:=hs)
        dsimp only; omega
    | eof=>rw [lexF_eof hm]; dsimp only; omega
    | fail=>rw [lexF_fail hm]; dsimp only; omega
section
variable {l d pa ib cap:Nat} {sa:Option Addr} {t:List Nat} {σ : Sim} {dps:List Value} {ats:Value} {dec:Int} {D:Lx.DS} {pos:Nat} {ln col:Int} {decs ds:List Nat} {V:HP}
theorem MSt.dfF (hR:NetB kd bk B w0 N) (hD:D.asked.length<1000000) (hnd : σ.nd<1099511627776) (hds:ds[0]? = some d∧(ds.length = σ.nd ∧ σ.nd=decs.length)∧∀ (i x:Nat),ds[i]? = some x→dps[i]? = some (bp x))
    (h:MSt kd bk out kindOf stop B N A w0 P l d pa ib cap sa t σ dps ats dec (V::stars ((ds.zipIdx.map (DfP kd bk decs)).eraseIdx 0)::r) D pos ln col w):DfF w σ.ds σ.nd (XD D):=by
  have hany:=h.any.pick 1
  obtain ⟨xf,pf,m,si,mc,p0,l0,k0,v0,hm,hP,halt⟩:=h
  have hrow:∀ i,i < σ.nd→∃ x,ds[i]? = some x∧w.cell? ⟨σ.ds,i,none⟩=some (.pointer (some ⟨x,0,none⟩)):=fun i hi=>by
    obtain ⟨x,hx⟩:∃ x,ds[i]? = some x:=⟨_,List.getElem?_eq_getElem (by rw [hds.2.1.1]; exact hi)⟩
    refine ⟨x,hx,?_⟩
    have h1:=hds.2.2 i x hx
    rcases halt with ⟨_,_,_,H⟩ | ⟨_,_,H⟩
    · rw [(H.split.pick 1).cells.1 i]; exact h1
    · rw [(H.split.pick 1).cells.1 i]; exact h1
  refine ⟨fun i hi => ?_,fun k j hk hj => ?_,hnd⟩
  · obtain ⟨x,hx,hc⟩:=hrow i hi
    by_cases h0:i=0
    · subst h0
      rw [hds.1] at hx; cases hx
      have hX:XD D 0=D.asked:=rfl
      rw [hX,hm.asked,List.length_map]
      rcases halt with ⟨g1,g2,_,H⟩ | ⟨_,hcx,H⟩
      · have haq:m.aq=[]:=by
          cases e:m.aq with
          | nil=>rfl
          | cons q l' =>
            obtain ⟨s,h1 | h1,_⟩:=hm.askm q (by rw [e]; simp)
            · rw [g1] at h1; simp at h1
            · rw [g2] at h1; simp at h1
        have H2:=(St.perm H (List.perm_append_comm_assoc [_,_,_] (DfaL kd bk xf pf d ats dec m) _))
        have H3:St B w0 (pts d 159 (dfaC ats dec m)::Osl m.av 157 1 m.aq.length (m.aq.map fun q=>bp q.1)::_) w:=H2
        obtain ⟨a,c,e⟩:=(H3.pick 1).ownVal
        refine ⟨d,a,c,hc,?_,fun j q hq => ?_⟩
        · rw [← e]; exact H3.cells.1 0
        · rw [haq] at hq; simp at hq
      · have H2:=(St.perm H (List.perm_append_comm_assoc [_,_,_] (DfaL kd bk xf pf d ats dec m) _))
        have H3:St B w0 (pts d 159 (dfaC ats dec m)::Osl m.av 157 1 m.aq.length (m.aq.map fun q=>bp q.1)::StoP m::stars (m.ms.map (SP kd bk xf pf))::stars (m.xs.map (SP kd bk xf pf))::stars (m.er.map ErP)::_) w:=H2
        obtain ⟨a,c,e⟩:=(H3.pick 1).ownVal
        refine ⟨d,a,c,hc,?_,fun j q hq => ?_⟩
        · rw [← e]; exact H3.cells.1 0
        · rw [List.getElem?_map] at hq
          cases hqq:m.aq[j]? with
          | none=>rw [hqq] at hq; simp at hq
          | some y =>
            rw [hqq] at hq
            simp at hq
            subst hq
            obtain ⟨s,hs,e1,e2,e3⟩:=hm.askm y (List.mem_of_getElem? hqq)
            have H3':=H3.pick 1
            rw [show pick 1 _=Osl m.av 157 1 m.aq.length (m.aq.map fun q=>bp q.1)::_ from rfl,e] at H3'
            obtain ⟨ga,e4,hca⟩:=RowAt.of (L:=m.aq.map fun q=>bp q.1) H3' (by intro e'; rw [List.map_eq_nil_iff] at e'; rw [e'] at hqq; simp at hqq)
            refine ⟨ga,y.1,e4,hca j _ (by rw [List.getElem?_map,hqq]; rfl),?_⟩
            obtain ⟨o1,o2,o3,o4,o5⟩:=hm.okL s hs
            rw [← e1,← e2,← e3]
            rcases hs with hs | hs
            · obtain ⟨l',H4⟩:=(H3.pick 3).pickMem (List.mem_map_of_mem (f:=SP kd bk xf pf) hs)
              exact asF_of (X:=CtxS xf pf (out 0).length) hR hcx (by simp) o2 o3 o4 o5 H4
            · obtain ⟨l',H4⟩:=(H3.pick 4).pickMem (List.mem_map_of_mem (f:=SP kd bk xf pf) hs)
              exact asF_of (X:=CtxS xf pf (out 0).length) hR hcx (by simp) o2 o3 o4 o5 H4
    · have hX:XD D i=[]:=if_neg h0
      have hz:(ds.zipIdx)[i]? = some (x,i):=by rw [List.getElem?_zipIdx,hx]; simp
      have hmem:((ds.zipIdx.map (DfP kd bk decs)).eraseIdx 0)[i - 1]? = some (DfP kd bk decs (x,i)):=by
        rw [List.eraseIdx_zero,List.getElem?_tail,show i - 1+1=i from by omega,List.getElem?_map,hz]; rfl
      have H2:St B w0 (pts x 159 (dfaC (dV kd bk decs i) (i:Int) dm0)::_) w:=hany.takeIdx hmem
      refine ⟨x,none,0,hc,?_,fun j q hq => ?_⟩
      · rw [hX]; exact H2.cells.1 0
      · rw [hX] at hq; simp at hq
  · have h1:=xd_len (D:=D) k
    have h2:(XD D k).length≤D.asked.length:=by unfold XD; split <;> simp
    omega
end
noncomputable def AX (rules:List Lx.Ex) (n:Nat) (t:List Nat):List MX:=(LX rules n t).2.2.asked.map fun q=>(0,q.1,q.2)
structure AXs (X:List MX):Prop where
  len:X.length<1000000
  each:∀ x ∈ X,x.2.1.length<1099511627776∧x.2.2.length<1099511627776
theorem MSt.lens {l d pa ib cap:Nat} {sa:Option Addr} {t:List Nat} {σ : Sim} {dps:List Value} {ats:Value} {dec:Int} {D:Lx.DS} {pos:Nat} {ln col:Int} (h:MSt kd bk out kindOf stop B N A w0 P l d pa ib cap sa t σ dps ats dec r D pos ln col w):∀ q ∈ D.asked,q.1.length<1099511627776∧q.2.length<1099511627776:=by
  obtain ⟨xf,pf,m,si,mc,p0,l0,k0,v0,hm,_⟩:=h
  intro q hq
  rw [hm.asked] at hq
  obtain ⟨y,hy,rfl⟩:=List.mem_map.1 hq
  obtain ⟨s,hs,e1,e2,e3⟩:=hm.askm y hy
  obtain ⟨_,_,_,o4,o5⟩:=hm.okL s hs
  rw [← e2,← e3]; exact ⟨o4,o5⟩
set_option maxRecDepth 100000 in
theorem c35 {rules:List Lx.Ex} (hG:GdR rules n) (hB:Built rules at_ bk w) {s:ByteArray} (ht:∀ c ∈ tx s,c≤127) (hl:s.size≤60) :
    Calls Tryz.prog 35 #[bp at_,.string s,.int .i64 0,.agg #[.map none,.int .i64 0]] w fun e w'=>∃ v,e=.returned v∧AXs (AX rules n (tx s))∧St w.heap.size w [MtR 97 154 v (AX rules n (tx s))] w':=by
  have h52:=c52r hG hB ht hl ((St.nil w).alloc (ob 81 [.map none,.int .i64 0]))
  have H52:=Lib.hid h52
  have hta:=tx_len s
  have hask:=lexF_asked (n:=n) (kindOf:=Lx.nKind rules) (stop:=Lx.nStop rules) (h:=hN) (hs:=hS) (out:=Lx.nOut rules) (t:=tx s) ((tx s).length+1) dsN 0 1 0
  have hask2:(LX rules n (tx s)).2.2.asked.length<1000000:=by
    have h1:((tx s).length+1) * (2 * ((tx s).length+1))≤61 * 122:=Nat.mul_le_mul (by omega) (by omega)
    unfold LX
    have h0:dsN.asked.length=0:=rfl
    omega
  have HB:=Lib.hid (And.intro hB.net.toNetT.toNetB (And.intro hask2 (And.intro hB.dec.len hB.dec.ne)))
  clear h52 hG hB ht hl hta hask hask2
  go_enter Tryz.func35,Tryz.ntmps35
  go_wp2_with fail
  go_at_call 52
  refine H52.out.mono ?_
  rintro e w2 ⟨l,d,pa,ib,cap,sa,σ,dps,ats,dec,ds,T,x,a,c,pos,ln,col,rfl,hT,hTk,hd,M⟩
  have hnd : σ.nd<1099511627776:=by rw [hd.2.1.2]; exact HB.out.2.2.1
  have h53:=c53 (cd := σ.cd) (M.dfF HB.out.1 HB.out.2.1 hnd hd)
  have H53:=Lib.hid h53
  have hAXs:AXs (AX rules n (tx s)):=⟨by unfold AX; rw [List.length_map]; exact HB.out.2.1,fun x hx=>by
    obtain ⟨q,hq,rfl⟩:=List.mem_map.1 hx
    exact M.lens q hq⟩
  have HM:=Lib.hid (And.intro M.any hAXs)
  clear hAXs
  have hn0:0 < σ.nd:=by rw [← hd.2.1.1]; exact (List.getElem?_eq_some_iff.1 hd.1).1
  clear hT hTk hd M H52 h53 hnd
  go_wp2_with fail
  go_at_call 53
  refine H53.out.mono ?_
  rintro e w3 ⟨v,rfl,h3⟩
  obtain ⟨k,hk⟩:∃ k,σ.nd=k+1:=⟨σ.nd - 1,by omega⟩
  rw [hk,xd_tx] at h3
  have h4:St w.heap.size w [MtR 97 154 v (AX rules n (tx s))] w3:=St.dropL _ ((HM.out.1.over_base h3).perm List.perm_append_comm)
  have HF:=Lib.hid h4
  clear h4
  clear h3 hk hn0
  go_wp2_with fail
  refine bodyPost_ret (v:=v) ?_ rfl ⟨v,rfl,HM.out.2,HF.out⟩
  simp [results,Tryz.results35,go_sem]
end Go.Proofs.YtbcngfgemjdllaaGreatDoor
end
section
namespace Go.Proofs.YtbcngfgemjdllaaGreatDoor
open Go.RowKit Go.Own
variable {rules:List Lx.Ex} {n at_:Nat} {bk:Nat→Nat} {w w0 w1:World} {r:List HP}
theorem sl65:SlT Tryz.prog 65 41 5 40 (.agg #[.int .i64 0,.int .i64 0,.int .i64 0,.int .i64 0,.int .i64 0]):=⟨by kernel_rfl,sl_inf' (by kernel_rfl),by kernel_rfl,by decide⟩
def A2Rel (w1:World) (fr:List HP) (X:List T5) (v i:Value) (wr:World):Prop :=
  ∃ (k:Nat) (a:Option Addr) (c:Nat),k≤X.length∧i=.int .i64 k∧v=.slice a k c∧St w1.heap.size w1 (Osl (.slice a k c) 41 5 k ((X.take k).flatMap q5)::fr) wr
set_option maxRecDepth 100000 in
set_option maxHeartbeats 4000000 in
theorem c29 (hG:GdR rules n) {V:NV} {ru:Nat} (hN:NetV w V (cmK rules rules.length ru)) {s:ByteArray} (ht:∀ c ∈ tx s,c≤127) (hl:s.size≤60) :
    Calls Tryz.prog 29 #[.agg (V.cells (cmK rules rules.length ru)).toArray,.string s] w fun e w'=>∃ (X:List T5) (a:Option Addr) (c:Nat),e=.returned (.tuple #[.slice a X.length c,.int .i64 (LX rules n (tx s)).2.1])∧MA rules n (tx s) X∧RowAt w' a (X.flatMap q5)∧Below w.heap.size w w':=by
  obtain ⟨S,hS⟩:∃ S,S=cmK rules rules.length ru:=⟨_,rfl⟩
  have H0:=(St.nil w).alloc (ob 48 (V.cells S))
  have h33:=c33 (w:=w.alloc (ob 48 (V.cells S))) (ru:=ru) hG.good hG.pos hG.len hG.size (hN.mono H0.below)
  rw [← hS] at h33 ⊢
  have H33:=Lib.hid h33
  have HG:=Lib.hid (And.intro hG (And.intro ht hl))
  have HB:=Lib.hid H0.below
  have hlt:=tx_len s
  have hXl:∀ X,MA rules n (tx s) X→X.length≤62:=fun X h=>by have:=h.len; omega
  have HX:=Lib.hid hXl
  clear h33 hG hN ht hl hS H0 hlt hXl
  unfold NV.cells
  go_enter Tryz.func29,Tryz.ntmps29
  go_wp2_with fail
  go_at_call 33
  refine H33.out.mono ?_
  rintro e w1 ⟨at_,bk,rfl,hB,hb⟩
  have H37:=Lib.hid (c37 HG.out.1 hB HG.out.2.1 HG.out.2.2)
  have HB1:=Lib.hid (HB.out.trans (hb.mono HB.out.size))
  clear hB hb
  go_wp2_with fail
  go_at_call 37
  refine H37.out.mono ?_
  rintro e w2 ⟨X,a,c,rfl,hMA,hrow,hb2⟩
  have HB2:=Lib.hid (HB1.out.trans (hb2.mono HB1.out.size))
  have hX:=HX.out X hMA
  have HM:=Lib.hid (And.intro hMA hrow)
  have H1:=St.ownFull (m:=0) (sz:=5) ((St.nil w2).alloc (ob 41 [])) rfl (by simp [maxLen])
  have HH:=Lib.hid H1
  clear hMA hrow hb2 H1 HX
  go_wp2_with fail
  go_loopw [8,22] (A2Rel w2 [] X) (fun _ i _=>X.length - (intOf i).toNat)
  case atStart=>exact ⟨0,_,0,Nat.zero_le _,rfl,rfl,by rw [List.take_zero]; exact HH.out⟩
  case round =>
    obtain ⟨k,a1,c1,hk,rfl,rfl,H1⟩:=hrel
    by_cases hlt:k<X.length
    · obtain ⟨g,hga,hgc⟩:=(HM.out.2.mono H1.below).get (f:=q6) (n:=6) (fun _=>rfl) (by omega) (List.getElem?_eq_getElem hlt)
      subst hga
      have hk0:(0:Int)≤(k:Int):=Int.natCast_nonneg _
      have hk1:(k:Int)<(X.length:Int):=by omega
      have e0:wr.cell? ⟨g,k * 6,none⟩=some (.int .i64 X[k].1):=hgc 0 _ rfl
      have e1:wr.cell? ⟨g,k * 6+1,none⟩=some (.int .i64 X[k].2.1):=hgc 1 _ rfl
      have e2:wr.cell? ⟨g,k * 6+2,none⟩=some (.int .i64 X[k].2.2.1):=hgc 2 _ rfl
      have e3:wr.cell? ⟨g,k * 6+3,none⟩=some (.int .i64 X[k].2.2.2.1):=hgc 3 _ rfl
      have e4:wr.cell? ⟨g,k * 6+4,none⟩=some (.int .i64 X[k].2.2.2.2):=hgc 4 _ rfl
      have e5:wr.cell? ⟨g,k * 6+5,none⟩=some (.slice none 0 0):=hgc 5 _ rfl
      have Hft:=Lib.hid (flat_take (f:=q5) (List.getElem?_eq_getElem hlt))
      have Hw:=Lib.hid (wrapS hlt (by omega))
      have Ha:=((H1.alloc (ob 74 (q6 X[k]))).alloc (ob 41 (q5 X[k])))
      rw [show (wr.alloc (ob 74 (q6 X[k]))).heap.size=wr.heap.size+1 from Array.size_push _] at Ha
      have HA:=Lib.hid ((Ha.pick 2).pick 1)
      clear hgc H1 Ha
      go_wp2_with (first
        | (at_builtin; go_must (refine wpList_append1_st rfl _ _ rfl sl65 (g:=wr.heap.size+1) (news:=q5 X[k]) HA.out rfl 1 rfl rfl rfl (by simp [q5,Value.oneCell']) (by simp only [maxLen]; omega) (by omega) ?_)
           intro a5 c5 w5 H5))
      first | rw [Hw.out] | rw [show ((k:Int)+1)=((k+1:Nat):Int) from by omega]
      refine ⟨⟨k+1,a5,c5,hlt,rfl,rfl,?_⟩,measS hlt⟩
      rw [← Hft.out]
      exact (H5.pick 1).drop
    · have hk1 : ¬ (k:Int)<(X.length:Int):=by omega
      have hkl:k=X.length:=by omega
      subst hkl
      rw [List.take_length] at H1
      have HF:=Lib.hid H1
      clear H1 hk
      go_wp2_with fail
      go_ret2
      exact ⟨X,a1,⟨c1,rfl⟩,HM.out.1,RowAt.of HF.out,HB2.out.trans (HF.out.below.mono HB2.out.size)⟩
end Go.Proofs.YtbcngfgemjdllaaGreatDoor
end
