/- Part 16: Pl16, K1, M1, M2. -/
import Derived.Deep.AppendLies
import Derived.Deep.RegionHeld3
import Derived.Deep.MidRow
import Derived.Test.YtbcngfgemjdllaaGreatDoorB07
import Derived.Test.YtbcngfgemjdllaaGreatDoorB14
import Derived.Test.YtbcngfgemjdllaaGreatDoorB15
set_option linter.unusedVariables false
set_option linter.unusedSimpArgs false
section
namespace Lx
theorem stss_take {ss:List Ex} {k lo:Nat} {s:Ex} (h:ss[k]? = some s):stss (ss.take (k+1)) lo=stss (ss.take k) lo++sts s (lo+nsts (ss.take k)):=by
  induction ss generalizing k lo with
  | nil=>simp at h
  | cons x ss ih =>
    cases k with
    | zero=>simp at h; subst h; simp [stss,nsts]
    | succ k =>
      simp at h
      simp only [List.take_succ_cons,stss,nsts]
      rw [ih h,List.append_assoc,show lo+nst x+nsts (ss.take k)=lo+(nst x+nsts (ss.take k)) from by omega]
theorem dcss_take {ss:List Ex} {k lo:Nat} {s:Ex} (h:ss[k]? = some s):dcss (ss.take (k+1)) lo=dcss (ss.take k) lo++dcs s (lo+nsts (ss.take k)):=by
  induction ss generalizing k lo with
  | nil=>simp at h
  | cons x ss ih =>
    cases k with
    | zero=>simp at h; subst h; simp [dcss,nsts]
    | succ k =>
      simp at h
      simp only [List.take_succ_cons,dcss,nsts]
      rw [ih h,List.append_assoc,show lo+nst x+nsts (ss.take k)=lo+(nst x+nsts (ss.take k)) from by omega]
theorem edgAlt_take {ss:List Ex} {k lo st sp:Nat} {s:Ex} (h:ss[k]? = some s):edgAlt (ss.take (k+1)) lo st sp=edgAlt (ss.take k) lo st sp++(edg s (lo+nsts (ss.take k))++[ep st (fstS s (lo+nsts (ss.take k))),ep (lstS s (lo+nsts (ss.take k))) sp]):=by
  induction ss generalizing k lo with
  | nil=>simp at h
  | cons x ss ih =>
    cases k with
    | zero=>simp at h; subst h; simp [edgAlt,nsts]
    | succ k =>
      simp at h
      simp only [List.take_succ_cons,edgAlt,nsts]
      rw [ih h,show lo+nst x+nsts (ss.take k)=lo+(nst x+nsts (ss.take k)) from by omega]
      simp [List.append_assoc]
def rowE:List Ex→Nat→Nat→List Ed
  | [],_,_=>[]
  | s::ss,lo,p=>edg s lo++(ep p (fstS s lo)::rowE ss (lo+nst s) (lstS s lo))
def rowL:List Ex→Nat→Nat→Nat
  | [],_,p=>p
  | s::ss,lo,_=>rowL ss (lo+nst s) (lstS s lo)
theorem edgRow_eq:∀ (ss:List Ex) (lo p:Nat),edgRow ss lo p=rowE ss lo p++[ep (rowL ss lo p) (lo+nsts ss)]
  | [],lo,p=>by simp [edgRow,rowE,rowL,nsts]
  | s::ss,lo,p=>by
    simp only [edgRow,rowE,rowL,nsts]
    rw [edgRow_eq ss,show lo+nst s+nsts ss=lo+(nst s+nsts ss) from by omega]
    simp [List.append_assoc]
theorem rowL_take {ss:List Ex} {k lo p:Nat} {s:Ex} (h:ss[k]? = some s):rowL (ss.take (k+1)) lo p=lstS s (lo+nsts (ss.take k)):=by
  induction ss generalizing k lo p with
  | nil=>simp at h
  | cons x ss ih =>
    cases k with
    | zero=>simp at h; subst h; simp [rowL,nsts]
    | succ k =>
      simp at h
      simp only [List.take_succ_cons,rowL,nsts]
      rw [ih h,show lo+nst x+nsts (ss.take k)=lo+(nst x+nsts (ss.take k)) from by omega]
theorem rowE_take {ss:List Ex} {k lo p:Nat} {s:Ex} (h:ss[k]? = some s):rowE (ss.take (k+1)) lo p=rowE (ss.take k) lo p++(edg s (lo+nsts (ss.take k))++[ep (rowL (ss.take k) lo p) (fstS s (lo+nsts (ss.take k)))]):=by
  induction ss generalizing k lo p with
  | nil=>simp at h
  | cons x ss ih =>
    cases k with
    | zero=>simp at h; subst h; simp [rowE,rowL,nsts]
    | succ k =>
      simp at h
      simp only [List.take_succ_cons,rowE,rowL,nsts]
      rw [ih h,show lo+nst x+nsts (ss.take k)=lo+(nst x+nsts (ss.take k)) from by omega]
      simp [List.append_assoc]
theorem cSts_take {es:List Ex} {k r lo:Nat} {s:Ex} (h:es[k]? = some s):cSts (es.take (k+1)) r lo=cSts (es.take k) r lo++((2,r+k,0)::(7,r+k,0)::((sts s (lo+cN (es.take k)+2)).map fun x=>(x.1,r+k,x.2))):=by
  induction es generalizing k r lo with
  | nil=>simp at h
  | cons x es ih =>
    cases k with
    | zero=>simp at h; subst h; simp [cSts,cN]
    | succ k =>
      simp at h
      simp only [List.take_succ_cons,cSts,cN]
      rw [ih h,show r+1+k=r+(k+1) from by omega,show lo+2+nst x+cN (es.take k)=lo+(2+nst x+cN (es.take k)) from by omega]
      simp [List.append_assoc]
theorem cEdg_take {es:List Ex} {k lo:Nat} {s:Ex} (h:es[k]? = some s):cEdg (es.take (k+1)) lo=cEdg (es.take k) lo++(edg s (lo+cN (es.take k)+2)++[ep 0 (lo+cN (es.take k)),ep (lo+cN (es.take k)) (fstS s (lo+cN (es.take k)+2)),ep (lstS s (lo+cN (es.take k)+2)) (lo+cN (es.take k)+1)]):=by
  induction es generalizing k lo with
  | nil=>simp at h
  | cons x es ih =>
    cases k with
    | zero=>simp at h; subst h; simp [cEdg,cN]
    | succ k =>
      simp at h
      simp only [List.take_succ_cons,cEdg,cN]
      rw [ih h,show lo+2+nst x+cN (es.take k)=lo+(2+nst x+cN (es.take k)) from by omega]
      simp [List.append_assoc]
theorem cStart_take {es:List Ex} {k lo:Nat} {s:Ex} (h:es[k]? = some s):cStart (es.take (k+1)) lo=cStart (es.take k) lo++[lo+cN (es.take k)]:=by
  induction es generalizing k lo with
  | nil=>simp at h
  | cons x es ih =>
    cases k with
    | zero=>simp at h; subst h; simp [cStart,cN]
    | succ k =>
      simp at h
      simp only [List.take_succ_cons,cStart,cN]
      rw [ih h,show lo+2+nst x+cN (es.take k)=lo+(2+nst x+cN (es.take k)) from by omega]
      simp
theorem cDec_take {es:List Ex} {k lo:Nat} {s:Ex} (h:es[k]? = some s):cDec (es.take (k+1)) lo=cDec (es.take k) lo++dcs s (lo+cN (es.take k)+2):=by
  induction es generalizing k lo with
  | nil=>simp at h
  | cons x es ih =>
    cases k with
    | zero=>simp at h; subst h; simp [cDec,cN]
    | succ k =>
      simp at h
      simp only [List.take_succ_cons,cDec,cN]
      rw [ih h,show lo+2+nst x+cN (es.take k)=lo+(2+nst x+cN (es.take k)) from by omega]
      simp [List.append_assoc]
theorem nsts_le {M:Nat} : ∀ ss:List Ex,(∀ s ∈ ss,nst s≤M * size s)→nsts ss≤M * sizes ss
  | [],_=>by simp [nsts]
  | s::ss,h=>by
    have h1:=h s (by simp)
    have h2:=nsts_le ss fun x hx=>h x (by simp [hx])
    simp only [nsts,sizes,Nat.mul_add]
    omega
theorem nst_le:∀ e:Ex,nst e≤5 * size e:=by
  intro e
  induction e using Ex.ind with
  | h op a b ss ih =>
    have:=nsts_le ss ih
    simp only [nst,size]
    repeat' split
    all_goals omega
theorem edgAlt_le {M:Nat} : ∀ (ss:List Ex) (lo st sp:Nat),(∀ s ∈ ss,∀ lo,(edg s lo).length+2≤M * size s)→(edgAlt ss lo st sp).length≤M * sizes ss
  | [],_,_,_,_=>by simp [edgAlt]
  | s::ss,lo,st,sp,h=>by
    have h1:=h s (by simp) lo
    have h2:=edgAlt_le ss (lo+nst s) st sp fun x hx=>h x (by simp [hx])
    simp only [edgAlt,sizes,Nat.mul_add,List.length_append,List.length_cons]
    omega
theorem edgRow_le {M:Nat} : ∀ (ss:List Ex) (lo p:Nat),(∀ s ∈ ss,∀ lo,(edg s lo).length+2≤M * size s)→(edgRow ss lo p).length≤M * sizes ss+1
  | [],_,_,_=>by simp [edgRow]
  | s::ss,lo,p,h=>by
    have h1:=h s (by simp) lo
    have h2:=edgRow_le ss (lo+nst s) (lstS s lo) fun x hx=>h x (by simp [hx])
    simp only [edgRow,sizes,Nat.mul_add,List.length_append,List.length_cons]
    omega
theorem edg_le:∀ (e:Ex) (lo:Nat),(edg e lo).length+2≤6 * size e:=by
  intro e
  induction e using Ex.ind with
  | h op a b ss ih =>
    intro lo
    have h1:=fun lo st sp=>edgAlt_le ss lo st sp ih
    have h2:=fun lo p=>edgRow_le ss lo p ih
    simp only [edg,size]
    repeat' split
    all_goals try simp only [List.length_append,List.length_cons,List.length_nil]
    · omega
    · have:=h2 (lo+1) lo; omega
    · have:=h1 (lo+2) lo (lo+1); omega
    · have:=h1 (lo+2) lo (lo+1); omega
    · have:=h1 (lo+5) (lo+3) (lo+4); omega
    · have:=h1 (lo+4) (lo+2) (lo+3); omega
theorem dcss_le {M:Nat} : ∀ (ss:List Ex) (lo:Nat),(∀ s ∈ ss,∀ lo,(dcs s lo).length≤M * size s)→(dcss ss lo).length≤M * sizes ss
  | [],_,_=>by simp [dcss]
  | s::ss,lo,h=>by
    have h1:=h s (by simp) lo
    have h2:=dcss_le ss (lo+nst s) fun x hx=>h x (by simp [hx])
    simp only [dcss,sizes,Nat.mul_add,List.length_append]
    omega
theorem dcs_le:∀ (e:Ex) (lo:Nat),(dcs e lo).length≤2 * size e:=by
  intro e
  induction e using Ex.ind with
  | h op a b ss ih =>
    intro lo
    have h1:=fun lo=>dcss_le ss lo ih
    simp only [dcs,size]
    repeat' split
    all_goals try simp only [List.length_append,List.length_cons,List.length_nil]
    · omega
    · have:=h1 (lo+1); omega
    · have:=h1 (lo+2); omega
    · have:=h1 (lo+2); omega
    · have:=h1 (lo+5); omega
    · have:=h1 (lo+4); omega
end Lx
end
section
namespace Go.Own
open Go.RowKit
theorem St.ownSet {B:Nat} {w0 w:World} {r:List HP} {v:Value} {E:TypeId} {sz n:Nat} {xs:List Value} {j:Nat} (H:St B w0 (Osl v E sz n xs::r) w) (hj:j<xs.length) (u:Value) :
    ∃ g c,v=.slice (some ⟨g,0,none⟩) n c∧w.cell? ⟨g,j,none⟩=xs[j]? ∧ w.frozen? ⟨g,j,none⟩=false∧St B w0 (Osl v E sz n (xs.set j u)::r) (w.setCell ⟨g,j,none⟩ u):=by
  obtain ⟨hl,⟨h1,h2,h3,_⟩ | ⟨g,cap,cur,rfl,h2,h3,h4,h5,H1⟩⟩:=H.ownCases
  · subst h3; simp at hj
  · refine ⟨g,cap,rfl,?_,H1.cells.2 j,?_⟩
    · rw [H1.cells.1,← h5,List.getElem?_take,if_pos (by omega)]
    · have H2:=St.ownMade (n:=n) (sz:=sz) (cap:=cap) (H1.setCell (off:=j) u) h2 (by rw [List.length_set]; exact h4) h3
      rw [List.take_set,h5] at H2
      exact H2
end Go.Own
namespace Go.Proofs.YtbcngfgemjdllaaGreatDoor
open Go.RowKit Go.Own
structure BS where
  sts:List (Nat × Nat × Nat)
  st:List Nat
  kd:List Nat
  ed:List Lx.Ed
  dc:List Nat
  ru:Nat
def bP (b:Nat):Value:=.pointer (some ⟨b,0,none⟩)
def stC (x:Nat × Nat × Nat):List Value:=[.int .i64 (x.1:Int),.int .i64 (x.2.1:Int),.int .i64 (x.2.2:Int)]
def edC (d:Lx.Ed):List Value:=[.int .i64 (d.src:Int),.int .i64 (d.to:Int),.int .i64 d.kind,.int .i64 d.a1,.int .i64 d.a2,.int .i64 0]
def inC (n:Nat):List Value:=[.int .i64 (n:Int)]
structure NV where
  a1:Option Addr
  c1:Nat
  a2:Option Addr
  c2:Nat
  a3:Option Addr
  c3:Nat
  a4:Option Addr
  c4:Nat
  a5:Option Addr
  c5:Nat
def NV.cells (V:NV) (S:BS):List Value:=[.slice V.a1 S.sts.length V.c1,.slice V.a2 S.st.length V.c2,.slice V.a3 S.kd.length V.c3,.slice V.a4 S.ed.length V.c4,.slice V.a5 S.dc.length V.c5]
def NV.rows (V:NV) (S:BS):List HP:=[Osl (.slice V.a1 S.sts.length V.c1) 88 3 S.sts.length (S.sts.flatMap stC),Osl (.slice V.a2 S.st.length V.c2) 3 1 S.st.length (S.st.flatMap inC),Osl (.slice V.a3 S.kd.length V.c3) 3 1 S.kd.length (S.kd.flatMap inC),
  Osl (.slice V.a4 S.ed.length V.c4) 91 6 S.ed.length (S.ed.flatMap edC),Osl (.slice V.a5 S.dc.length V.c5) 3 1 S.dc.length (S.dc.flatMap inC)]
structure BsW (B:Nat) (w0:World) (b:Nat) (S:BS) (r:List HP) (w:World):Prop where
  ex:∃ V:NV,St B w0 (pts b 146 (V.cells S++[.int .i64 (S.ru:Int)])::(V.rows S++r)) w
theorem sl82:SlT Tryz.prog 82 88 3 24 (.agg #[.int .i64 0,.int .i64 0,.int .i64 0]):=⟨by kernel_rfl,sl_inf' (by kernel_rfl),by kernel_rfl,by decide⟩
theorem sl83:SlT Tryz.prog 83 91 6 48 (.agg #[.int .i64 0,.int .i64 0,.int .i64 0,.int .i64 0,.int .i64 0,.int .i64 0]):=⟨by kernel_rfl,sl_inf' (by kernel_rfl),by kernel_rfl,by decide⟩
theorem sl45:SlT Tryz.prog 45 3 1 8 (.int .i64 0):=⟨by kernel_rfl,sl_inf' (by kernel_rfl),by kernel_rfl,by decide⟩
variable {B:Nat} {w0 w:World} {b:Nat} {S:BS} {r:List HP}
theorem BsW.below (H:BsW B w0 b S r w):Below B w0 w:=by obtain ⟨V,H⟩:=H.ex; exact H.below
theorem BsW.drop {x:HP} (H:BsW B w0 b S (x::r) w):BsW B w0 b S r w:=by
  obtain ⟨V,H⟩:=H.ex
  refine ⟨V,?_⟩
  have H1:St B w0 (x::(pts b 146 (V.cells S++[.int .i64 (S.ru:Int)])::(V.rows S++r))) w:=H.pick 6
  exact H1.drop
theorem BsW.push {x:HP} (V:NV) (H:St B w0 (x::(pts b 146 (V.cells S++[.int .i64 (S.ru:Int)])::(V.rows S++r))) w):BsW B w0 b S (x::r) w:=by
  refine ⟨V,?_⟩
  refine H.perm ?_
  have p:∀ (x y z:List HP),(x++(y++z)).Perm (y++(x++z)):=fun x y z=>by
    rw [← List.append_assoc,← List.append_assoc]
    exact List.perm_append_comm.append_right z
  exact p [x] (pts b 146 (V.cells S++[.int .i64 (S.ru:Int)])::V.rows S) r
theorem BsW.alloc (H:BsW B w0 b S r w) (T:TypeId) (l:List Value):BsW B w0 b S (pts w.heap.size T l::r) (w.alloc (ob T l)):=by
  obtain ⟨V,H⟩:=H.ex
  exact BsW.push V (H.alloc (ob T l))
def NV.r1 (V:NV) (S:BS):HP:=Osl (.slice V.a1 S.sts.length V.c1) 88 3 S.sts.length (S.sts.flatMap stC)
def NV.r2 (V:NV) (S:BS):HP:=Osl (.slice V.a2 S.st.length V.c2) 3 1 S.st.length (S.st.flatMap inC)
def NV.r3 (V:NV) (S:BS):HP:=Osl (.slice V.a3 S.kd.length V.c3) 3 1 S.kd.length (S.kd.flatMap inC)
def NV.r4 (V:NV) (S:BS):HP:=Osl (.slice V.a4 S.ed.length V.c4) 91 6 S.ed.length (S.ed.flatMap edC)
def NV.r5 (V:NV) (S:BS):HP:=Osl (.slice V.a5 S.dc.length V.c5) 3 1 S.dc.length (S.dc.flatMap inC)
def NV.cs (V:NV) (S:BS):List Value:=V.cells S++[.int .i64 (S.ru:Int)]
theorem BsW.mk1 {V:NV} {a1:Option Addr} {c1:Nat} {x:Nat × Nat × Nat} (H:St B w0 (pts b 146 ((V.cs S).set 0 (.slice a1 (S.sts.length+1) c1))::Osl (.slice a1 (S.sts.length+1) c1) 88 3 (S.sts.length+1) (S.sts.flatMap stC++stC x)::V.r2 S::V.r3 S::V.r4 S::V.r5 S::r) w):BsW B w0 b { S with sts:=S.sts++[x] } r w:=by
  refine ⟨{ V with a1:=a1,c1:=c1 },?_⟩
  simp only [NV.cells,NV.rows,List.length_append,List.length_cons,List.length_nil,Nat.zero_add,List.flatMap_append,List.flatMap_cons,List.flatMap_nil,List.append_nil,List.cons_append,List.nil_append]
  exact H
theorem BsW.mk4 {V:NV} {a4:Option Addr} {c4:Nat} {x:Lx.Ed} (H:St B w0 (pts b 146 ((V.cs S).set 3 (.slice a4 (S.ed.length+1) c4))::Osl (.slice a4 (S.ed.length+1) c4) 91 6 (S.ed.length+1) (S.ed.flatMap edC++edC x)::V.r1 S::V.r2 S::V.r3 S::V.r5 S::r) w):BsW B w0 b { S with ed:=S.ed++[x] } r w:=by
  refine ⟨{ V with a4:=a4,c4:=c4 },?_⟩
  simp only [NV.cells,NV.rows,List.length_append,List.length_cons,List.length_nil,Nat.zero_add,List.flatMap_append,List.flatMap_cons,List.flatMap_nil,List.append_nil,List.cons_append,List.nil_append]
  exact H.perm (((List.Perm.swap _ _ _).trans (((List.Perm.swap _ _ _).trans ((List.Perm.swap _ _ _).cons _)).cons _)).cons _)
theorem BsW.mk5 {V:NV} {a5:Option Addr} {c5:Nat} {x:Nat} (H:St B w0 (pts b 146 ((V.cs S).set 4 (.slice a5 (S.dc.length+1) c5))::Osl (.slice a5 (S.dc.length+1) c5) 3 1 (S.dc.length+1) (S.dc.flatMap inC++inC x)::V.r1 S::V.r2 S::V.r3 S::V.r4 S::r) w):BsW B w0 b { S with dc:=S.dc++[x] } r w:=by
  refine ⟨{ V with a5:=a5,c5:=c5 },?_⟩
  simp only [NV.cells,NV.rows,List.length_append,List.length_cons,List.length_nil,Nat.zero_add,List.flatMap_append,List.flatMap_cons,List.flatMap_nil,List.append_nil,List.cons_append,List.nil_append]
  exact H.perm (((List.Perm.swap _ _ _).trans (((List.Perm.swap _ _ _).trans (((List.Perm.swap _ _ _).trans ((List.Perm.swap _ _ _).cons _)).cons _)).cons _)).cons _)
theorem cs_get {V:NV} {S:BS} {B:Nat} {w0 w:World} {b:Nat} {r:List HP} (H:St B w0 (pts b 146 (V.cs S)::r) w) :
    w.cell? ⟨b,0,none⟩=some (.slice V.a1 S.sts.length V.c1)∧w.cell? ⟨b,1,none⟩=some (.slice V.a2 S.st.length V.c2)∧w.cell? ⟨b,2,none⟩=some (.slice V.a3 S.kd.length V.c3)∧w.cell? ⟨b,3,none⟩=some (.slice V.a4 S.ed.length V.c4)∧w.cell? ⟨b,4,none⟩=some (.slice V.a5 S.dc.length V.c5)∧w.cell? ⟨b,5,none⟩=some (.int .i64 (S.ru:Int)) :=
  ⟨H.cells.1 0,H.cells.1 1,H.cells.1 2,H.cells.1 3,H.cells.1 4,H.cells.1 5⟩
theorem BsW.open (H:BsW B w0 b S r w):∃ V:NV,St B w0 (pts b 146 (V.cs S)::V.r1 S::V.r2 S::V.r3 S::V.r4 S::V.r5 S::r) w:=H.ex
set_option maxRecDepth 100000 in
set_option maxHeartbeats 1000000 in
theorem c49 {s:Nat} (hl:S.dc.length<1000000) (H:BsW B w0 b S r w):Calls Tryz.prog 49 #[bP b,.int .i64 (s:Int)] w fun e w'=>e=.returned (.tuple #[])∧BsW B w0 b { S with dc:=S.dc++[s] } r w':=by
  obtain ⟨V,H⟩:=H.open
  obtain ⟨_,_,_,_,q4,_⟩:=cs_get H
  have H1:=((H.alloc (ob 3 [.int .i64 (s:Int)])).pick 6).pick 1
  have HH:=Lib.hid H1
  clear H H1
  unfold bP
  go_enter Tryz.func49,Tryz.ntmps49
  go_wp2_with (first
    | (at_builtin; go_must (refine wpList_append1_st rfl _ _ rfl sl45 (g:=w.heap.size) (news:=[.int .i64 (s:Int)]) HH.out rfl 1 rfl rfl rfl (by simp [Value.oneCell']) (by simp only [maxLen]; omega) (by omega) ?_)
       intro a5 c5 w5 H5
       obtain ⟨_,_,_,_,q4',_⟩:=cs_get (H5.pick 1)
       have qf:=(H5.pick 1).cells.2 4))
  go_end0
  exact ⟨rfl,BsW.mk5 ((H5.pick 1).setCell (off:=4) (.slice a5 (S.dc.length+1) c5))⟩
set_option maxRecDepth 100000 in
set_option maxHeartbeats 1000000 in
theorem c51 {s q:Nat} (hl:S.ed.length<1000000) (H:BsW B w0 b S r w):Calls Tryz.prog 51 #[bP b,.int .i64 (s:Int),.int .i64 (q:Int)] w fun e w'=>e=.returned (.tuple #[])∧BsW B w0 b { S with ed:=S.ed++[Lx.ep s q] } r w':=by
  obtain ⟨V,H⟩:=H.open
  obtain ⟨_,_,_,q3,_,_⟩:=cs_get H
  have H1:=((H.alloc (ob 91 (edC (Lx.ep s q)))).pick 5).pick 1
  have HH:=Lib.hid H1
  clear H H1
  unfold bP
  go_enter Tryz.func51,Tryz.ntmps51
  go_wp2_with (first
    | (at_builtin; go_must (refine wpList_append1_st rfl _ _ rfl sl83 (g:=w.heap.size) (news:=edC (Lx.ep s q)) HH.out rfl 1 rfl rfl rfl (by simp [edC,Value.oneCell']) (by simp only [maxLen]; omega) (by omega) ?_)
       intro a5 c5 w5 H5
       obtain ⟨_,_,_,q3',_,_⟩:=cs_get (H5.pick 1)
       have qf:=(H5.pick 1).cells.2 3))
  go_end0
  exact ⟨rfl,BsW.mk4 ((H5.pick 1).setCell (off:=3) (.slice a5 (S.ed.length+1) c5))⟩
set_option maxRecDepth 100000 in
set_option maxHeartbeats 2000000 in
theorem c48 {k lo:Nat} (hlo:S.sts.length=lo) (hl:lo<1000000) (H:BsW B w0 b S r w):Calls Tryz.prog 48 #[bP b,.int .i64 (k:Int)] w fun e w'=>e=.returned (.int .i64 (lo:Int))∧BsW B w0 b { S with sts:=S.sts++[(k,S.ru,0)] } r w':=by
  subst hlo
  obtain ⟨V,H⟩:=H.open
  obtain ⟨q0,_,_,_,_,q5⟩:=cs_get H
  have HA:∀ o,St B w0 (pto w.heap.size o::Osl (.slice V.a1 S.sts.length V.c1) 88 3 S.sts.length (S.sts.flatMap stC)::pts b 146 (V.cs S)::V.r2 S::V.r3 S::V.r4 S::V.r5 S::r) (w.drew.alloc o):=fun o=>(H.drew.pick 1).alloc o
  have hsa:∀ o,((w.alloc o).drew).cell? ⟨b,0,none⟩=some (.slice V.a1 S.sts.length V.c1):=fun o=>(cs_get ((H.alloc o).drew.pick 1)).1
  have hsd:w.drew.cell? ⟨b,0,none⟩=some (.slice V.a1 S.sts.length V.c1):=q0
  have h5a:∀ o,((w.alloc o).drew).cell? ⟨b,5,none⟩=some (.int .i64 (S.ru:Int)):=fun o=>(cs_get ((H.alloc o).drew.pick 1)).2.2.2.2.2
  have h5d:w.drew.cell? ⟨b,5,none⟩=some (.int .i64 (S.ru:Int)):=q5
  have e1:=World.new_ne w _ q0
  clear H
  unfold bP
  go_enter Tryz.func48,Tryz.ntmps48
  go_wp2_with fail
  go_region_law
    (first
      | (refine step_append1_st rfl _ _ rfl sl82 (g:=w.heap.size) (news:=stC (k,S.ru,0)) (HA _) rfl 1 rfl rfl rfl (by simp [stC,Value.oneCell']) (by simp only [maxLen]; omega) (by omega) ?_
         intro a5 c5 w5 H5
         have H6:=(H5.pick 1).setCell (off:=0) (.slice a5 (S.sts.length+1) c5)
         have hcs:=(cs_get (H5.pick 1)).1
         have hcs5:=(cs_get (H5.pick 1)).2.2.2.2.2
         have hfs:=(H5.pick 1).cells.2 0))
  all_goals
    have z0:(w5.setCell ⟨b,0,none⟩ (.slice a5 (S.sts.length+1) c5)).cell? ⟨b,0,none⟩=some (.slice a5 (S.sts.length+1) c5):=H6.cells.1 0
    have HW:=Lib.hid (BsW.mk1 H6)
    have hw:wrap64 (((S.sts.length:Int)+1) - 1)=(S.sts.length:Int):=by rw [IntWalk.wrap64_in _ (by omega)]; omega
    clear H5 H6 HA hsa hsd hcs hfs
    generalize w5.setCell _ _=w6 at z0 HW ⊢
    go_wp2_with fail
    go_ret
    exact ⟨rfl,HW.out⟩
end Go.Proofs.YtbcngfgemjdllaaGreatDoor
end
section
namespace Go.Proofs.YtbcngfgemjdllaaGreatDoor
open Go.RowKit Go.Own
variable {B:Nat} {w0 w:World} {r:List HP}
structure CfgA (w:World) (g o k sb:Nat) (s a:Int) (xb pb:Nat):Prop where
  c1:w.cell? ⟨g,o+1,none⟩=some (.iface (ty k) (.pointer (some ⟨sb,0,none⟩)))
  c2:w.cell? ⟨g,o+2,none⟩=some (.int .i64 a)
  c3:w.cell? ⟨g,o+3,none⟩=some (.pointer (some ⟨xb,0,none⟩))
  c4:w.cell? ⟨g,o+4,none⟩=some (.iface 428 (.pointer (some ⟨pb,0,none⟩)))
  c6:w.cell? ⟨g,o+6,none⟩=some (.int .i64 0)
  c7:w.cell? ⟨g,o+7,none⟩=some (.pointer none)
  c8:w.cell? ⟨g,o+8,none⟩=some (.bool false)
  ok:KOk k
  num:w.cell? ⟨sb,4,none⟩=some (.int .i64 s)
  ctx:CtxW w xb pb
set_option maxRecDepth 100000 in
theorem c138a {g o k sb:Nat} {s a:Int} {xb pb:Nat} (h:CfgA w g o k sb s a xb pb):Calls Tryz.prog 138 #[.pointer (some ⟨g,o,none⟩)] w fun e w'=>e=.returned (.int .i64 (hC s a))∧w=w':=by
  obtain ⟨c1,c2,c3,c4,c6,c7,c8,hk,hn,hx⟩:=h
  obtain ⟨x0,x1,x3,p0,p1,p2,_⟩:=hx
  go_enter Tryz.func138,Tryz.ntmps138
  go_wp2_with (first
    | (go_at_call 94; refine (c94 _ _).mono ?_; rintro e w' ⟨rfl,rfl⟩)
    | (go_at_call 95; refine (c95 _ _ _).mono ?_; rintro e w' ⟨rfl,rfl⟩)
    | (go_at_call 97; refine (c97 _ _ _).mono ?_; rintro e w' ⟨rfl,rfl⟩)
    | (go_at_call 287; refine (c287 _ _ _ hn).mono ?_; rintro e w' ⟨rfl,rfl⟩)
    | (go_at_call 192; refine (c192 _ _ _ x0).mono ?_; rintro e w' ⟨rfl,rfl⟩)
    | (go_at_call 193; refine (c193 _).mono ?_; rintro e w' ⟨rfl,rfl⟩)
    | (go_at_call 385; refine (c385 _ _ p0 p1 p2).mono ?_; rintro e w' ⟨rfl,rfl⟩))
  go_ret
  exact ⟨rfl,rfl⟩
theorem c99a {g o k sb:Nat} {s a:Int} {xb pb:Nat} (h:CfgA w g o k sb s a xb pb):Calls Tryz.prog 99 #[.pointer (some ⟨g,o,none⟩)] w fun e w'=>e=.returned (.int .i64 (hC s a))∧w=w':=by
  have c6:=h.c6
  go_enter Tryz.func99,Tryz.ntmps99
  go_wp2_with (first
    | (go_at_call 138; refine (c138a h).mono ?_; rintro e w' ⟨rfl,rfl⟩))
  go_ret
  exact ⟨rfl,rfl⟩
theorem c135x {xb pb:Nat} (h:CtxW w xb pb):Calls Tryz.prog 135 #[.pointer (some ⟨xb,0,none⟩)] w fun e w'=>e=.returned (.int .i64 1)∧w=w':=by
  have x1:=h.x1
  go_enter Tryz.func135,Tryz.ntmps135
  go_wp2
  go_ret
  exact ⟨rfl,rfl⟩
theorem c136x {xb pb:Nat} {i:Int} (h:CtxW w xb pb):Calls Tryz.prog 136 #[.pointer (some ⟨xb,0,none⟩),.int .i64 i] w fun e w'=>e=.returned (.int .i64 2147483647)∧w=w':=by
  have x1:=h.x1
  have x3:=h.x3
  go_enter Tryz.func136,Tryz.ntmps136
  go_wp2
  go_ret
  exact ⟨rfl,rfl⟩
theorem c137x {xb pb:Nat} {i:Int} (h:CtxW w xb pb):Calls Tryz.prog 137 #[.pointer (some ⟨xb,0,none⟩),.int .i64 i] w fun e w'=>e=.returned (.pointer none)∧w=w':=by
  have x1:=h.x1
  go_enter Tryz.func137,Tryz.ntmps137
  go_wp2
  go_ret
  exact ⟨rfl,rfl⟩
theorem CtxW.mono {xb pb:Nat} {w':World} (h:CtxW w xb pb) (hb:Below w.heap.size w w'):CtxW w' xb pb:=by
  have f:∀ {b o:Nat} {v:Value},w.cell? ⟨b,o,none⟩=some v→w'.cell? ⟨b,o,none⟩=some v:=fun {b o v} e=>by
    rw [hb.cell (p:=⟨b,o,none⟩) (World.block_lt_of_cell? _ _ e)]; exact e
  refine ⟨f h.x0,f h.x1,f h.x3,f h.p0,f h.p1,f h.p2,?_⟩
  rw [hb.block _ (World.block_lt_of_cell? _ _ h.x0)]; exact h.hx
def cxL:List Value:=[.int .i64 1,.int .i64 2147483647,.int .i64 (-1)]
theorem c98n:Calls Tryz.prog 98 #[.pointer none] w fun e w'=>e=.returned (.slice (some ⟨w.heap.size,0,none⟩) 1 1)∧w'=w.alloc (ob 3 [.int .i64 (-1)]):=by
  go_enter Tryz.func98,Tryz.ntmps98
  go_wp2
  go_ret
  exact ⟨rfl,rfl⟩
def R98 (w:World) (v i:Value) (wr:World):Prop :=
  ∃ (k:Nat) (a:Option Addr) (c:Nat),k≤1∧i=.int .i64 (k:Int)∧v=.slice a (1+2 * k) c∧St w.heap.size w [Osl (.slice a (1+2 * k) c) 3 1 (1+2 * k) (cxL.take (1+2 * k))] wr
set_option maxRecDepth 100000 in
theorem c98 {xb pb:Nat} (hx:CtxW w xb pb):Calls Tryz.prog 98 #[.pointer (some ⟨xb,0,none⟩)] w fun e w'=>∃ (a:Option Addr) (c:Nat),e=.returned (.slice a 3 c)∧St w.heap.size w [Osl (.slice a 3 c) 3 1 3 cxL] w':=by
  have H1:=St.ownFull (m:=1) (sz:=1) ((St.nil w).alloc (ob 3 [.int .i64 1])) rfl (by simp [maxLen])
  have HX:=Lib.hid hx
  have HH:=Lib.hid H1
  have und:Tryz.prog.underlying 190=some (.pointer 351):=by kernel_rfl
  clear hx H1
  go_enter Tryz.func98,Tryz.ntmps98
  go_wp2_with (first
    | (go_at_call 135; refine (c135x HX.out).mono ?_; rintro e w' ⟨rfl,rfl⟩))
  go_loopw [3,4] (R98 w) (fun _ i _=>1 - (intOf i).toNat)
  case atStart=>exact ⟨0,_,1,by omega,rfl,rfl,HH.out⟩
  case round =>
    obtain ⟨k,a,c,hk,rfl,rfl,H2⟩:=hrel
    have hxr:=HX.out.mono H2.below
    by_cases h0:k=0
    · subst h0
      have HA:=Lib.hid (H2.alloc (ob 3 [.int .i64 2147483647]))
      have HXR:=Lib.hid hxr
      have HB:=Lib.hid (And.intro H2.below (fun o=>((H2.alloc o).below)))
      have HXM:=fun W h=>Lib.hid (CtxW.mono (w':=W) HXR.out h)
      clear hxr H2 hk
      go_wp2_with (first
        | (at_builtin; refine wpList_append1_st rfl _ _ rfl sl45 (g:=w5.heap.size) (news:=[.int .i64 (-1)]) HA2.out rfl 1 rfl rfl rfl (by simp [Value.oneCell']) (by simp [maxLen]) (by omega) ?_
           intro a6 c6 w6 H6)
        | (at_builtin; go_must (refine wpList_append1_st rfl _ _ rfl sl45 (g:=wr.heap.size) (news:=[.int .i64 2147483647]) HA.out rfl 1 rfl rfl rfl (by simp [Value.oneCell']) (by simp [maxLen]) (by omega) ?_)
           intro a5 c5 w5 H5
           have HX5:=Lib.hid (HX.out.mono H5.below)
           have HA2:=Lib.hid (H5.alloc (ob 3 [.int .i64 (-1)])))
        | (go_at_call 135; refine (c135x HXR.out).mono ?_; rintro e w' ⟨rfl,rfl⟩)
        | (go_at_call 136; refine (c136x (HX.out.mono HB.out.1)).mono ?_; rintro e w' ⟨rfl,rfl⟩)
        | (go_at_call 137; refine (c137x HX5.out).mono ?_; rintro e w' ⟨rfl,rfl⟩)
        | (go_at_call 98; refine c98n.mono ?_; rintro e w' ⟨rfl,rfl⟩))
      exact ⟨⟨1,a6,c6,Nat.le_refl _,rfl,rfl,H6⟩,by simp [intOf]⟩
    · have hk1:k=1:=by omega
      subst hk1
      have HXR:=Lib.hid hxr
      have HF:=Lib.hid H2
      clear hxr H2 hk h0
      go_wp2_with (first
        | (go_at_call 135; refine (c135x HXR.out).mono ?_; rintro e w' ⟨rfl,rfl⟩))
      go_ret
      exact ⟨_,_,rfl,HF.out⟩
end Go.Proofs.YtbcngfgemjdllaaGreatDoor
end
section
namespace Go.Proofs.YtbcngfgemjdllaaGreatDoor
open Go.RowKit Go.Own
variable {B:Nat} {w0 w:World} {r:List HP}
theorem CfgA.mono {g o k sb:Nat} {s a:Int} {xb pb:Nat} {w':World} (h:CfgA w g o k sb s a xb pb) (hb:Below w.heap.size w w'):CfgA w' g o k sb s a xb pb:=by
  have f:∀ {b o:Nat} {v:Value},w.cell? ⟨b,o,none⟩=some v→w'.cell? ⟨b,o,none⟩=some v:=fun {b o v} e=>by
    rw [hb.cell (p:=⟨b,o,none⟩) (World.block_lt_of_cell? _ _ e)]; exact e
  exact ⟨f h.c1,f h.c2,f h.c3,f h.c4,f h.c6,f h.c7,f h.c8,h.ok,f h.num,h.ctx.mono hb⟩
def cgC (s a:Int) (cv:Value) (h:Int):List Value:=[.int .i64 s,.int .i64 a,cv,.bool false,.bool false,.int .i64 h]
def cgZ:List Value:=[.int .i64 0,.int .i64 0,.slice none 0 0,.bool false,.bool false,.int .i64 0]
set_option maxRecDepth 100000 in
set_option maxHeartbeats 20000000 in
theorem c69 {g o k sb:Nat} {s a:Int} {xb pb:Nat} (h:CfgA w g o k sb s a xb pb):Calls Tryz.prog 69 #[.pointer (some ⟨g,o,none⟩)] w fun e w'=>∃ (ca:Option Addr) (c:Nat),e=.returned (.agg (cgC s a (.slice ca 3 c) (hC s a)).toArray)∧St w.heap.size w [Osl (.slice ca 3 c) 3 1 3 cxL] w':=by
  have H0:=((St.nil w).alloc (ob 154 cgZ)).drew
  have h0:=h.mono (w':=(w.alloc (.cells #[.int .i64 0,.int .i64 0,.slice none 0 0,.bool false,.bool false,.int .i64 0] 154))) ((St.nil w).alloc (ob 154 cgZ)).below
  have d1:=h0.c1
  have d2:=h0.c2
  have d3:=h0.c3
  have d7:=h0.c7
  have d8:=h0.c8
  have hm:=m_st_GetStateNumber h.ok sb
  have hnum:=h0.num
  have HH:=Lib.hid (And.intro (h.mono H0.below) H0)
  have HC:=Lib.hid (And.intro h h0.ctx)
  clear h0 H0 h
  go_enter Tryz.func69,Tryz.ntmps69
  go_wp2_with fail
  go_region_held3 (fun w'=>w'.cell? ⟨g,o+1,none⟩=some (.iface (ty k) (.pointer (some ⟨sb,0,none⟩)))∧w'.cell? ⟨g,o+2,none⟩=some (.int .i64 a)∧w'.cell? ⟨g,o+3,none⟩=some (.pointer (some ⟨xb,0,none⟩))∧w'.cell? ⟨g,o+7,none⟩=some (.pointer none)∧w'.cell? ⟨g,o+8,none⟩=some (.bool false))
    (first
      | go_keep
      | with_reducible exact ⟨HE.out.c1,HE.out.c2,HE.out.c3,HE.out.c7,HE.out.c8⟩
      | with_reducible exact ⟨HE6.out.c1,HE6.out.c2,HE6.out.c3,HE6.out.c7,HE6.out.c8⟩)
    (first
      | (go_at_call 287; refine (c287 _ _ _ (by exact hnum)).mono ?_; rintro e w' ⟨rfl,rfl⟩)
      | (go_at_call 98; refine (c98 (by first | exact HH.out.1.ctx | exact HC.out.2)).mono ?_; rintro e w2 ⟨ca,c,rfl,h2⟩
         have HE:=Lib.hid (HH.out.1.mono h2.below)
         have hF:=(HH.out.2.over_base h2).pick 1
         have t0:w2.cell? ⟨w.heap.size,0,none⟩=some (.int .i64 0):=hF.cells.1 0
         have t1:w2.cell? ⟨w.heap.size,1,none⟩=some (.int .i64 0):=hF.cells.1 1
         have t2:w2.cell? ⟨w.heap.size,2,none⟩=some (.slice none 0 0):=hF.cells.1 2
         have t3:w2.cell? ⟨w.heap.size,3,none⟩=some (.bool false):=hF.cells.1 3
         have t4:w2.cell? ⟨w.heap.size,4,none⟩=some (.bool false):=hF.cells.1 4
         have t5:w2.cell? ⟨w.heap.size,5,none⟩=some (.int .i64 0):=hF.cells.1 5
         have f0:=hF.cells.2 0
         have f1:=hF.cells.2 1
         have f2:=hF.cells.2 2
         have f3:=hF.cells.2 3
         have f4:=hF.cells.2 4
         have f5:=hF.cells.2 5
         have hF6:=(((((hF.setCell (off:=0) (.int .i64 s)).setCell (off:=1) (.int .i64 a)).setCell (off:=2) (.slice ca 3 c)).setCell (off:=3) (.bool false)).setCell (off:=4) (.bool false)).setCell (off:=5) (.int .i64 (hC s a))
         have HF:=Lib.hid hF6
         have HE6:=Lib.hid (HC.out.1.mono hF6.below)
         clear hF h2 hF6)
      | (go_at_call 99; refine (c99a (by exact HE.out)).mono ?_; rintro e w' ⟨rfl,rfl⟩))
  have h6:=HF.out
  clear HF HE6 HE HC HH t0 t1 t2 t3 t4 t5 f0 f1 f2 f3 f4 f5 d1 d2 d3 d7 d8 hnum hm
  generalize (World.setCell _ _ _)=W at h6 ⊢
  have u0:W.cell? ⟨w.heap.size,0,none⟩=some (.int .i64 s):=h6.cells.1 0
  have u1:W.cell? ⟨w.heap.size,1,none⟩=some (.int .i64 a):=h6.cells.1 1
  have u2:W.cell? ⟨w.heap.size,2,none⟩=some (.slice ca 3 c):=h6.cells.1 2
  have u3:W.cell? ⟨w.heap.size,3,none⟩=some (.bool false):=h6.cells.1 3
  have u4:W.cell? ⟨w.heap.size,4,none⟩=some (.bool false):=h6.cells.1 4
  have u5:W.cell? ⟨w.heap.size,5,none⟩=some (.int .i64 (hC s a)):=h6.cells.1 5
  have HF:=Lib.hid h6.drop
  clear h6
  go_wp2_with fail
  refine bodyPost_ret (v:=.agg (cgC s a (.slice ca 3 c) (hC s a)).toArray) ?_ rfl ⟨ca,c,rfl,HF.out⟩
  simp [results,Tryz.results69,go_sem,u0,u1,u2,u3,u4,u5,cgC]
end Go.Proofs.YtbcngfgemjdllaaGreatDoor
end
