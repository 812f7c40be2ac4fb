/- Part 14: S6, C1, C2. -/
import Derived.Laws.MakeOwn
import Derived.Laws.CopyOwn
import Derived.Deep.RegionHeld3
import Derived.Test.YtbcngfgemjdllaaGreatDoorB13
set_option linter.unusedVariables false
set_option linter.unusedSimpArgs false
section
namespace Go.Own
open Go.RowKit
theorem wpList_copy_st {P:Program} {B:Nat} {w0 w:World} {r:List HP} {ops:Array Oper} {rest:List Oper} {o:Oper} {a:Act} {Q:Exit→Act→World→Prop} (hgd:o.guard=none) (d s:Operand) (T:TypeId)
    (ho:o.op=.call { callee:=.builtin .copy,args:=#[d,s],argTypes:=#[T,T] }) (E:TypeId) (hu:P.underlying T=some (.slice E)) (hsz:(P.info? E).map (·.size)=some 1)
    {g m cap1 cap2 gs:Nat} {cur cs:List Value} (H:St B w0 (pts g E cur::r) w) (hd:a.eval d=.slice (some ⟨g,0,none⟩) m cap1) (hs:a.eval s=.slice (some ⟨gs,0,none⟩) m cap2)
    (hc:cs.length=m) (hcur:cur.length=m) (hsrc:∀ j v,cs[j]? = some v→w.cell? ⟨gs,j,none⟩=some v) (h1:∀ v ∈ cs,v.oneCell'=true)
    (h:∀ w',St B w0 (pts g E cs::r) w'→wpList P ops Q rest (a.put o.dst (goInt m)) w'):wpList P ops Q (o::rest) a w:=by
  refine wpList_copy_own hgd d s T T ho E hu hsz g 0 m cap1 ⟨gs,0,none⟩ m cap2 hd hs cur.toArray E H.heap.2 cs (by rw [hc]; exact (Nat.min_self m).symm) (fun j v hj => ?_) (by simp; omega) h1 ?_
  · have hadd:(⟨gs,0,none⟩:Addr).add j=⟨gs,j,none⟩:=by unfold Addr.add; split <;> simp_all
    rw [hadd]; exact hsrc j v hj
  · rw [hc]
    refine h _ (H.over (by simp [World.setRow]) rfl rfl rfl fun k => ?_)
    simp only [World.setRow,Array.getElem?_modify]
    have hb:=H.heap.2
    by_cases hk:k=g
    · subst hk
      simp only [if_true,hb,ob,Option.map_some,List.take_zero,List.nil_append,Nat.zero_add]
      rw [List.drop_eq_nil_of_le (by omega),List.append_nil]
    · rw [if_neg (fun e=>hk e.symm),if_neg hk]
end Go.Own
namespace Go.Proofs.YtbcngfgemjdllaaGreatDoor
open Go.RowKit Go.Own
def bl (m:Nat) (f:Nat→Bool):List Value:=(List.range m).map fun i=>.bool (f i)
def fset (f:Nat→Bool) (i:Nat) (b:Bool):Nat→Bool:=fun j=>if j=i then b else f j
theorem bl_len (m:Nat) (f:Nat→Bool):(bl m f).length=m:=by simp [bl]
theorem bl_get {m:Nat} {f:Nat→Bool} {i:Nat} (h:i<m):(bl m f)[i]? = some (.bool (f i)):=by simp [bl,List.getElem?_range,h]
theorem bl_congr {m:Nat} {f g:Nat→Bool} (h:∀ i,i<m→f i=g i):bl m f=bl m g:=by
  unfold bl
  apply List.map_congr_left
  intro i hi
  rw [h i (List.mem_range.1 hi)]
theorem bl_set {m:Nat} {f:Nat→Bool} {i:Nat} (b:Bool):(bl m f).set i (.bool b)=bl m (fset f i b):=by
  apply List.ext_getElem?
  intro j
  rw [List.getElem?_set,bl_len]
  by_cases hj:j<m
  · rw [bl_get hj,bl_get hj]
    by_cases e:i=j
    · subst e; simp [hj,fset]
    · simp [e,fset,Ne.symm e]
  · have h1:(bl m f)[j]? = none:=List.getElem?_eq_none (by rw [bl_len]; omega)
    have h2:(bl m (fset f i b))[j]? = none:=List.getElem?_eq_none (by rw [bl_len]; omega)
    rw [h1,h2]
    split
    · rw [if_neg (by omega)]
    · rfl
theorem bl_one {m:Nat} {f:Nat→Bool} : ∀ v ∈ bl m f,v.oneCell'=true:=by
  intro v hv
  obtain ⟨i,_,rfl⟩:=List.mem_map.1 hv
  rfl
theorem made_bl (m:Nat):(madeCells (Value.bool false).cells m)=(bl m fun _=>false).toArray:=by
  apply Array.ext'
  have h1:(Value.bool false).cells=#[.bool false]:=by kernel_rfl
  rw [h1]
  apply List.ext_getElem?
  intro j
  by_cases hj:j<m
  · rw [show (bl m fun _=>false).toArray.toList=bl m fun _=>false from by simp,bl_get hj]
    simp [madeCells,hj,Nat.mod_one]
  · rw [List.getElem?_eq_none,List.getElem?_eq_none]
    · simp [bl_len]; omega
    · simp [madeCells]; omega
theorem sl_inf' {P:Program} {e:TypeId} {z:Value} {sz by_:Nat} (h:(P.info? e).map (fun i=>(i.zero,i.size,i.bytes))=some (some z,sz,by_)):∃ i,P.info? e=some i∧i.zero=some z∧i.size=sz∧i.bytes=by_:=by
  cases hi:P.info? e with
  | none=>rw [hi] at h; cases h
  | some i=>rw [hi] at h; simp at h; exact ⟨i,rfl,h.1,h.2.1,h.2.2⟩
theorem und70:Tryz.prog.underlying 70=some (.slice 4):=by kernel_rfl
theorem inf4:(Tryz.prog.info? 4).map (·.size)=some 1:=by kernel_rfl
theorem run_make70 {m:Nat} (hm:m<1099511627776) (w:World):(Instr.makeSlice 70 (.int .i64 (m:Int)) (.int .i64 (m:Int))).run Tryz.prog w=.ok (.slice (some ⟨w.heap.size,0,none⟩) m m) (w.alloc (ob 4 (bl m fun _=>false))):=by
  obtain ⟨i,h1,h2,h3,h4⟩:=sl_inf' (P:=Tryz.prog) (e:=4) (z:=.bool false) (sz:=1) (by_:=1) (by kernel_rfl)
  have:=run_make w (P:=Tryz.prog) 70 4 i (.bool false) und70 h1 h2 .i64 .i64 m m (by omega) (by omega) (by rw [h4]; omega) (by omega)
  rw [this,h3,Nat.mul_one,Int.toNat_natCast,made_bl]
  rfl
def BlAt (w:World) (g m:Nat) (f:Nat→Bool):Prop:=∀ i,i<m→w.cell? ⟨g,i,none⟩=some (.bool (f i))
theorem BlAt.mono {w w':World} {g m:Nat} {f:Nat→Bool} (h:BlAt w g m f) (hb:Below w.heap.size w w'):BlAt w' g m f:=fun i hi=>by
  have hlt:g<w.heap.size:=World.block_lt_of_cell? _ _ (h i hi)
  rw [hb.cell (p:=⟨g,_,none⟩) hlt]; exact h i hi
theorem BlAt.of {B:Nat} {w0 w:World} {r:List HP} {g m:Nat} {f:Nat→Bool} (H:St B w0 (pts g 4 (bl m f)::r) w):BlAt w g m f:=fun i hi=>by rw [H.cells.1,bl_get hi]
def EndC (e:Lx.Ex):Prop:=∀ (s:ByteArray) (m c g:Nat) (f:Nat→Bool) (v:Value) (w:World),m=s.size+1→m<1073741824→ExV w e v→BlAt w g m f →
  Calls Tryz.prog 31 #[v,.string s,.slice (some ⟨g,0,none⟩) m c] w fun e' w'=>∃ g',e'=.returned (.slice (some ⟨g',0,none⟩) m m)∧St w.heap.size w [pts g' 4 (bl m (Lx.eB (tx s) e f))] w'
def chK (t:List Nat) (a b:Int) (f:Nat→Bool) (k:Nat):Nat→Bool
  | 0=>false
  | i+1=>decide (i<k) && (f i && Lx.inR t i a b)
theorem chK_yes {t:List Nat} {a b:Int} {f:Nat→Bool} {k:Nat} (h:(f k && Lx.inR t k a b)=true):fset (chK t a b f k) (k+1) true=chK t a b f (k+1):=by
  funext j
  unfold fset
  cases j with
  | zero=>rfl
  | succ i =>
    by_cases e:i=k
    · subst e; simp only [if_true,chK,h,Bool.and_true]; symm; simp
    · simp only [if_neg (show ¬ i+1=k+1 by omega),chK]
      congr 1
      apply decide_eq_decide.2; omega
theorem chK_no {t:List Nat} {a b:Int} {f:Nat→Bool} {k:Nat} (h:(f k && Lx.inR t k a b)=false):chK t a b f (k+1)=chK t a b f k:=by
  funext j
  cases j with
  | zero=>rfl
  | succ i =>
    simp only [chK]
    by_cases e:i=k
    · subst e; rw [h]; simp
    · congr 1
      apply decide_eq_decide.2; omega
theorem chK_all {t:List Nat} {a b:Int} {f:Nat→Bool} {m:Nat} {ss:List Lx.Ex} : bl m (chK t a b f m)=bl m (Lx.eB t (.mk 0 a b ss) f):=by
  apply bl_congr
  intro i hi
  cases i with
  | zero=>simp [chK,Lx.eB]
  | succ i=>simp [chK,Lx.eB]; intros; omega
theorem inR_tx {s:ByteArray} {k:Nat} (h:k<s.size) (a b:Int):Lx.inR (tx s) k a b=(decide (a≤((s[k]'h).toNat:Int)) && decide (((s[k]'h).toNat:Int)≤b)):=by
  unfold Lx.inR
  rw [tx_get h]
theorem inR_end {s:ByteArray} {k:Nat} (h : ¬ k<s.size) (a b:Int):Lx.inR (tx s) k a b=false:=by
  unfold Lx.inR
  rw [List.getElem?_eq_none (by rw [tx_len]; omega)]
end Go.Proofs.YtbcngfgemjdllaaGreatDoor
end
section
namespace Go.Proofs.YtbcngfgemjdllaaGreatDoor
open Go.RowKit Go.Own
def agL:Value→List Value
  | .agg a=>a.toList
  | _=>[]
mutual
def ExP:Lx.Ex→Value→HP
  | .mk op a b ss,v=>fun h=>∃ sa c vs,v=exV op a b sa ss.length c∧vs.length=ss.length∧star (Osl (.slice sa ss.length c) 28 4 ss.length (vs.flatMap agL)) (ExPs ss vs) h
def ExPs:List Lx.Ex→List Value→HP
  | [],_=>top
  | _::_,[]=>fun _=>False
  | s::ss,v::vs=>star (ExP s v) (ExPs ss vs)
end
theorem exP_form {B:Nat} {w0 w:World} {r:List HP} {e:Lx.Ex} {v:Value} (H:St B w0 (ExP e v::r) w):∃ op a b sa n c,v=exV op a b sa n c:=by
  cases e with
  | mk op a b ss =>
    obtain ⟨x,y,d,e,⟨sa,c,vs,h1,_⟩,_⟩:=H.own
    exact ⟨op,a,b,sa,ss.length,c,h1⟩
theorem exP_open {B:Nat} {w0 w:World} {r:List HP} {op a b:Int} {ss:List Lx.Ex} {v:Value} (H:St B w0 (ExP (.mk op a b ss) v::r) w) :
    ∃ sa c vs,v=exV op a b sa ss.length c∧vs.length=ss.length∧St B w0 (Osl (.slice sa ss.length c) 28 4 ss.length (vs.flatMap agL)::ExPs ss vs::r) w:=by
  obtain ⟨x,y,d,e,⟨sa,c,vs,h1,h2,h3⟩,hy⟩:=H.own
  exact ⟨sa,c,vs,h1,h2,St.split ⟨H.le,H.below,x,y,d,e,h3,hy⟩⟩
theorem exP_shut {B:Nat} {w0 w:World} {r:List HP} {op a b:Int} {ss:List Lx.Ex} {sa:Option Addr} {c:Nat} {vs:List Value} (h:vs.length=ss.length) (H:St B w0 (Osl (.slice sa ss.length c) 28 4 ss.length (vs.flatMap agL)::ExPs ss vs::r) w) :
    St B w0 (ExP (.mk op a b ss) (exV op a b sa ss.length c)::r) w :=
  H.join.imp fun x hx=>⟨sa,c,vs,rfl,h,hx⟩
theorem exPs_push {B:Nat} {w0 w:World} {s:Lx.Ex} {v:Value} : ∀ {ss:List Lx.Ex} {vs:List Value} {r:List HP},vs.length=ss.length→St B w0 (ExP s v::ExPs ss vs::r) w→St B w0 (ExPs (ss++[s]) (vs++[v])::r) w
  | [],[],r,_,H=>by
    have:St B w0 (star (ExP s v) top::r) w:=H.join
    exact this
  | _::_,[],r,h,H=>by simp at h
  | [],_::_,r,h,H=>by simp at h
  | x::ss,y::vs,r,h,H=>by
    have H1:St B w0 (ExP x y::ExPs ss vs::ExP s v::r) w:=((H.pick 1).split).perm (List.Perm.refl _)
    have H2:St B w0 (ExP s v::ExPs ss vs::(ExP x y::r)) w:=H1.pick 2 |>.perm ((List.Perm.swap _ _ _).cons _)
    have H3:=exPs_push (r:=ExP x y::r) (by simpa using h) H2
    have H4:St B w0 (star (ExP x y) (ExPs (ss++[s]) (vs++[v]))::r) w:=(H3.pick 1).join
    exact H4
theorem agL_exV (op a b:Int) (sa:Option Addr) (n c:Nat):agL (exV op a b sa n c)=[.int .i64 op,.int .i64 a,.int .i64 b,.slice sa n c]:=rfl
theorem flat4:∀ {vs:List Value} {i t:Nat} {v:Value},(∀ v ∈ vs,(agL v).length=4)→vs[i]? = some v→t<4→(vs.flatMap agL)[i * 4+t]? = (agL v)[t]?
  | [],_,_,_,_,h,_=>by simp at h
  | x::vs,0,t,v,hl,h,ht=>by
    simp at h; subst h
    rw [List.flatMap_cons,Nat.zero_mul,Nat.zero_add,List.getElem?_append_left (by rw [hl x (by simp)]; exact ht)]
  | x::vs,i+1,t,v,hl,h,ht=>by
    have hx:=hl x (by simp)
    rw [List.flatMap_cons,List.getElem?_append_right (by omega),hx,show (i+1) * 4+t - 4=i * 4+t from by omega]
    exact flat4 (fun v hv=>hl v (by simp [hv])) (by simpa using h) ht
def OwnE (e:Lx.Ex):Prop:=∀ (B:Nat) (w0 w:World) (r:List HP) (v:Value),St B w0 (ExP e v::r) w→ExV w e v
theorem exPs_all:∀ (ss:List Lx.Ex),(∀ s ∈ ss,OwnE s)→∀ (B:Nat) (w0 w:World) (r:List HP) (vs:List Value),vs.length=ss.length→St B w0 (ExPs ss vs::r) w →
    ∀ (i:Nat) (s:Lx.Ex) (v:Value),ss[i]? = some s→vs[i]? = some v→ExV w s v∧∃ op a b sa n c,v=exV op a b sa n c
  | [],_,_,_,_,_,_,_,_,i,s,v,h,_=>by simp at h
  | x::ss,hs,B,w0,w,r,[],hl,H,i,s,v,h,hv=>by simp at hl
  | x :: ss, hs, B, w0, w, r, y :: vs, hl, H, i, s, v, h, hv => by
    have H1:St B w0 (ExP x y::ExPs ss vs::r) w:=St.split H
    cases i with
    | zero =>
      simp at h hv
      subst h hv
      exact ⟨hs x (by simp) B w0 w _ y H1,exP_form H1⟩
    | succ i=>exact exPs_all ss (fun s hm=>hs s (by simp [hm])) B w0 w _ vs (by simpa using hl) H1.drop i s v (by simpa using h) (by simpa using hv)
theorem exS_of {w:World} {g:Nat} : ∀ (ss:List Lx.Ex) (i:Nat),(∀ (k:Nat) (s:Lx.Ex),ss[k]? = some s→∃ op a b sa n c,ExAt w s g ((i+k) * 4) op a b sa n c)→ExS w ss (some ⟨g,0,none⟩) i
  | [],_,_=>trivial
  | s::ss,i,h=>by
    obtain ⟨op,a,b,sa,n,c,h1,h2,h3,h4,h5⟩:=h 0 s rfl
    rw [Nat.add_zero] at h1 h2 h3 h4
    refine ⟨⟨g,0,op,a,b,sa,n,c,rfl,by rw [Nat.zero_add]; exact h1,by rw [Nat.zero_add]; exact h2,by rw [Nat.zero_add]; exact h3,by rw [Nat.zero_add]; exact h4,h5⟩,exS_of ss (i+1) fun k s hk => ?_⟩
    rw [show i+1+k=i+(k+1) from by omega]
    exact h (k+1) s (by simpa using hk)
theorem exRow {B:Nat} {w0 w:World} {r:List HP} {ss:List Lx.Ex} {sa:Option Addr} {c:Nat} {vs:List Value} (hs:∀ s ∈ ss,OwnE s) (hl:vs.length=ss.length) (H:St B w0 (Osl (.slice sa ss.length c) 28 4 ss.length (vs.flatMap agL)::ExPs ss vs::r) w):ExS w ss sa 0:=by
  have hall:=exPs_all ss hs B w0 w _ vs hl (H.pick 1)
  have h4:∀ v ∈ vs,(agL v).length=4:=fun v hv=>by
    obtain ⟨i,hi⟩:=List.mem_iff_getElem?.1 hv
    have hlt:=(List.getElem?_eq_some_iff.1 hi).1
    obtain ⟨_,op,a,b,sa,n,c,rfl⟩:=hall i ss[i] v (List.getElem?_eq_getElem (by omega)) hi
    rfl
  rcases H.ownCell with ⟨_,h0,_⟩ | ⟨g,cap,e,_,hc,_⟩
  · have:ss=[]:=List.eq_nil_of_length_eq_zero h0
    subst this
    exact trivial
  · injection e with e1
    subst e1
    refine exS_of ss 0 fun k s hk => ?_
    have hkl:=(List.getElem?_eq_some_iff.1 hk).1
    have hv:vs[k]? = some vs[k]:=List.getElem?_eq_getElem (by omega)
    obtain ⟨hx,op,a,b,sa,n,c,ev⟩:=hall k s _ hk hv
    have hf:=fun t ht=>flat4 (t:=t) h4 hv ht
    rw [ev,agL_exV] at hf
    rw [ev] at hx
    rw [Nat.zero_add]
    exact ⟨op,a,b,sa,n,c,hc _ _ (hf 0 (by omega)),hc _ _ (hf 1 (by omega)),hc _ _ (hf 2 (by omega)),hc _ _ (hf 3 (by omega)),hx⟩
theorem ownE:∀ e,OwnE e:=by
  intro e
  induction e using Lx.Ex.ind with
  | h op a b subs ih =>
    intro B w0 w r v H
    obtain ⟨sa,c,vs,rfl,hl,H1⟩:=exP_open H
    exact ⟨sa,c,rfl,exRow ih hl H1⟩
end Go.Proofs.YtbcngfgemjdllaaGreatDoor
end
section
namespace Go.Proofs.YtbcngfgemjdllaaGreatDoor
open Go.RowKit Go.Own
theorem sl23:SlT Tryz.prog 23 28 4 48 (.agg #[.int .i64 0,.int .i64 0,.int .i64 0,.slice none 0 0]):=⟨by kernel_rfl,sl_inf' (by kernel_rfl),by kernel_rfl,by decide⟩
def LenE:Lx.Ex→Prop
  | .mk _ _ _ ss=>ss.length≤2932031007402∧LenS ss
  where LenS:List Lx.Ex→Prop
  | []=>True
  | s::ss=>LenE s∧LenS ss
theorem lenS_mem:∀ {ss:List Lx.Ex} {s:Lx.Ex},LenE.LenS ss→s ∈ ss→LenE s
  | x::ss,s,h,hm=>by
    rcases List.mem_cons.1 hm with rfl | hm
    · exact h.1
    · exact lenS_mem h.2 hm
theorem efl (vs:List Value) (o a b:Int) (n c:Nat) (sa:Option Addr):vs.flatMap agL++[.int .i64 o,.int .i64 a,.int .i64 b,.slice sa n c]=(vs++[exV o a b sa n c]).flatMap agL:=by rw [List.flatMap_append]; rfl
def CvRel (w:World) (b1 b2 b3:Nat) (op a b:Int) (vs0:List Value) (subs:List Lx.Ex) (i:Value) (wr:World):Prop :=
  ∃ (k:Nat) (sa:Option Addr) (c:Nat) (vs:List Value),k≤subs.length∧i=.int .i64 k∧vs.length=(subs.take k).length ∧
    St w.heap.size w [pts b3 28 [.int .i64 op,.int .i64 a,.int .i64 b,.slice sa k c],Osl (.slice sa k c) 28 4 k (vs.flatMap agL),ExPs (subs.take k) vs,pts b1 52 vs0,pts b2 28 [.int .i64 0,.int .i64 0,.int .i64 0,.slice none 0 0]] wr
def CvC (e:Lx.Ex):Prop:=∀ (v:Value) (w:World),ExV w e v→Calls Tryz.prog 22 #[v] w fun e' w'=>∃ oq aq bq sq nq cq,e'=.returned (.agg #[.int .i64 oq,.int .i64 aq,.int .i64 bq,.slice sq nq cq])∧St w.heap.size w [ExP e (exV oq aq bq sq nq cq)] w'
set_option maxRecDepth 100000 in
set_option maxHeartbeats 4000000 in
theorem c22 : ∀ e, LenE e → CvC e := by
  intro e
  induction e using Lx.Ex.ind with
  | h op a b subs ih =>
    intro hL v w hv
    obtain ⟨sa,c,rfl,hS⟩:=hv
    obtain ⟨hl,hLs⟩:=hL
    have HS:=Lib.hid hS
    have H0:=((((St.nil w).alloc (ob 52 [.int .i64 op,.int .i64 a,.int .i64 b,.slice sa subs.length c])).alloc (ob 28 [.int .i64 0,.int .i64 0,.int .i64 0,.slice none 0 0])).alloc (ob 28 [.int .i64 op,.int .i64 a,.int .i64 b,.slice none 0 0]))
    have hsz:(w.alloc (ob 52 [.int .i64 op,.int .i64 a,.int .i64 b,.slice sa subs.length c])).heap.size=w.heap.size+1:=Array.size_push _
    have hsz2:((w.alloc (ob 52 [.int .i64 op,.int .i64 a,.int .i64 b,.slice sa subs.length c])).alloc (ob 28 [.int .i64 0,.int .i64 0,.int .i64 0,.slice none 0 0])).heap.size=w.heap.size+1+1:=by
      show (Array.push _ _).size=_
      rw [Array.size_push,hsz]
    rw [hsz,hsz2] at H0
    have H00:=Lib.hid H0
    unfold exV
    clear hS H0 hsz hsz2
    go_enter Tryz.func22,Tryz.ntmps22
    go_wp2_with fail
    go_loopw [16] (CvRel w w.heap.size (w.heap.size+1) (w.heap.size+1+1) op a b [.int .i64 op,.int .i64 a,.int .i64 b,.slice sa subs.length c] subs) (fun i _=>subs.length - (intOf i).toNat)
    case atStart =>
      refine ⟨0,none,0,[],Nat.zero_le _,rfl,rfl,?_⟩
      have H1:=H00.out
      have H3:=St.ownNil (H1.nilStars) 28 4
      exact (H3.pick 2).perm ((((List.Perm.swap _ _ _).cons _).cons _).cons _)
    case round =>
      obtain ⟨k,sa1,c1,vs,hk,rfl,hvl,H1⟩:=hrel
      by_cases hlt:k<subs.length
      · obtain ⟨g,o,op',a',b',sa',n',c',rfl,hat⟩:=HS.out.get0 (List.getElem?_eq_getElem hlt)
        have hat:=hat.mono H1.below
        have hk0:(0:Int)≤(k:Int):=Int.natCast_nonneg _
        have hk1:(k:Int)<(subs.length:Int):=by omega
        have e0:=hat.c0
        have e1:=hat.c1
        have e2:=hat.c2
        have e3:=hat.c3
        have h22:=fun W h=>ih subs[k] (List.getElem_mem hlt) (lenS_mem hLs (List.getElem_mem hlt)) _ W (hat.v.mono h)
        have hw:=wrapS hlt (by omega)
        have Hw:=Lib.hid hw
        have HB:=Lib.hid ((((St.nil wr).alloc (ob 52 [.int .i64 op',.int .i64 a',.int .i64 b',.slice sa' n' c'])).drew).below)
        have H2:=(H1.alloc (ob 52 [.int .i64 op',.int .i64 a',.int .i64 b',.slice sa' n' c']))
        have q1:=(H2.pick 1).cells.1 3
        have q2:=H2.cells.1
        have q20:=q2 0
        have q21:=q2 1
        have q22:=q2 2
        have q23:=q2 3
        have H22:=Lib.hid H2.drew
        have Hih:=Lib.hid h22
        have Hsub:=Lib.hid (show subs[k]? = some subs[k] from List.getElem?_eq_getElem hlt)
        have Hvl:=Lib.hid hvl
        clear ih hw hat q2 H2 h22 hvl H1
        generalize subs[k]=sk at Hih Hsub
        have hS0:(wr.alloc (.cells #[.int .i64 op',.int .i64 a',.int .i64 b',.slice sa' n' c'] 52)).drew.cell? ⟨w.heap.size+1+1,3,none⟩=some (.slice sa1 k c1):=(H22.out.pick 1).cells.1 3
        have hd0:(wr.alloc (.cells #[.int .i64 op',.int .i64 a',.int .i64 b',.slice sa' n' c'] 52)).drew.cell? ⟨wr.heap.size,0,none⟩=some (.int .i64 op'):=H22.out.cells.1 0
        have hd1:(wr.alloc (.cells #[.int .i64 op',.int .i64 a',.int .i64 b',.slice sa' n' c'] 52)).drew.cell? ⟨wr.heap.size,1,none⟩=some (.int .i64 a'):=H22.out.cells.1 1
        have hd2:(wr.alloc (.cells #[.int .i64 op',.int .i64 a',.int .i64 b',.slice sa' n' c'] 52)).drew.cell? ⟨wr.heap.size,2,none⟩=some (.int .i64 b'):=H22.out.cells.1 2
        have hd3:(wr.alloc (.cells #[.int .i64 op',.int .i64 a',.int .i64 b',.slice sa' n' c'] 52)).drew.cell? ⟨wr.heap.size,3,none⟩=some (.slice sa' n' c'):=H22.out.cells.1 3
        go_wp2_with fail
        go_region_law
          (first
            | (go_simp; go_at_call 22; refine (Hih.out _ (by exact HB.out)).mono ?_; rintro e w1 ⟨oq,aq,bq,sq,nq,cq,rfl,h2⟩
               have H3:=H22.out.over_base h2
               have H4:=H3.alloc (ob 28 [.int .i64 oq,.int .i64 aq,.int .i64 bq,.slice sq nq cq])
               have hS1:w1.cell? ⟨w.heap.size+1+1,3,none⟩=some (.slice sa1 k c1):=(H3.pick 2).cells.1 3
               have hS2:(w1.alloc (.cells #[.int .i64 oq,.int .i64 aq,.int .i64 bq,.slice sq nq cq] 28)).cell? ⟨w.heap.size+1+1,3,none⟩=some (.slice sa1 k c1):=(H4.pick 3).cells.1 3
               clear h2)
            | (refine step_append1_st rfl _ _ rfl sl23 (g:=w1.heap.size) (news:=[.int .i64 oq,.int .i64 aq,.int .i64 bq,.slice sq nq cq]) ((H4.pick 4).pick 1) rfl 1 rfl rfl rfl (by simp [Value.oneCell']) (by simp only [maxLen]; omega) (by omega) ?_
               intro a5 c5 w5 H5
               have hfs:=(H5.pick 3).cells.2 3
               have hcs:=(H5.pick 3).cells.1 3
               have H6:=(H5.pick 3).setCell (off:=3) (.slice a5 (k+1) c5)))
        all_goals
          have H7:=exPs_push (by exact Hvl.out) (((H6.pick 3).drop.pick 3).pick 3)
          have H8:=(H7.pick 2).pick 2
          have htk:subs.take k++[sk]=subs.take (k+1):=by rw [List.take_add_one,Hsub.out]; rfl
          rw [htk] at H8
          have Htk:=Lib.hid htk
          rw [efl vs oq aq bq nq cq sq] at H8
          have H9:=H8
          clear H6 H5 H4 H3 hfs hcs H7 H8 htk
          go_wp2_with fail
          first | rw [Hw.out] | rw [show ((k:Int)+1)=((k+1:Nat):Int) from by omega]
          exact ⟨⟨k+1,a5,c5,vs++[exV oq aq bq sq nq cq],hlt,rfl,by rw [← Htk.out]; simp [Hvl.out],H9⟩,measS hlt⟩
      · have hk1 : ¬ (k:Int)<(subs.length:Int):=by omega
        have hkl:k=subs.length:=by omega
        subst hkl
        rw [List.take_length] at H1 hvl
        have t0:=H1.cells.1 0
        have t1:=H1.cells.1 1
        have t2:=H1.cells.1 2
        have t3:=H1.cells.1 3
        have H2:=(H1.pick 4)
        have z:=H2.cells.1
        have z0:=z 0
        have z1:=z 1
        have z2:=z 2
        have z3:=z 3
        have zf:=H2.cells.2
        simp only [List.getElem?_cons_zero,List.getElem?_cons_succ] at t0 t1 t2 t3 z0 z1 z2 z3
        have H6:=(((H2.setCell (off:=0) (.int .i64 op)).setCell (off:=1) (.int .i64 a)).setCell (off:=2) (.int .i64 b)).setCell (off:=3) (.slice sa1 subs.length c1)
        have q:=H6.cells.1
        have q0:=q 0
        have q1:=q 1
        have q2:=q 2
        have q3:=q 3
        simp only [List.set_cons_zero,List.set_cons_succ,List.getElem?_cons_zero,List.getElem?_cons_succ] at q0 q1 q2 q3
        have H7:=exP_shut (op:=op) (a:=a) (b:=b) hvl (H6.drop.drop)
        have H8:=Lib.hid (H7.pick 1).drop
        clear z q H1 H2 H6 H7 ih
        go_wp2_with fail
        refine bodyPost_ret (v:=.agg #[.int .i64 op,.int .i64 a,.int .i64 b,.slice sa1 subs.length c1]) ?_ rfl ⟨op,a,b,sa1,subs.length,c1,rfl,H8.out⟩
        clear H8
        generalize (World.setCell _ _ _)=W at q0 q1 q2 q3 ⊢
        simp [results,Tryz.results22,go_sem,q0,q1,q2,q3]
def RuRel (w:World) (subs:List Lx.Ex) (v i:Value) (wr:World):Prop :=
  ∃ (k:Nat) (sa:Option Addr) (c:Nat) (vs:List Value),k≤subs.length∧v=.slice sa k c∧i=.int .i64 k∧vs.length=(subs.take k).length ∧
    St w.heap.size w [Osl (.slice sa k c) 28 4 k (vs.flatMap agL),ExPs (subs.take k) vs] wr
set_option maxRecDepth 100000 in
set_option maxHeartbeats 4000000 in
theorem c11 {subs:List Lx.Ex} {sa:Option Addr} {c:Nat} {w:World} (hl:subs.length≤2932031007402) (hLs:LenE.LenS subs) (hS:ExS w subs sa 0) :
    Calls Tryz.prog 11 #[.slice sa subs.length c] w fun e' w'=>∃ sa' c',e'=.returned (.slice sa' subs.length c')∧ExS w' subs sa' 0∧Below w.heap.size w w':=by
  have HS:=Lib.hid hS
  have H0:=St.ownFull (m:=0) (sz:=4) ((St.nil w).alloc (ob 28 [])) rfl (by simp [maxLen])
  have H00:=Lib.hid H0
  clear hS H0
  go_enter Tryz.func11,Tryz.ntmps11
  go_wp2_with fail
  go_loopw [3,9] (RuRel w subs) (fun _ i _=>subs.length - (intOf i).toNat)
  case atStart =>
    refine ⟨0,_,_,[],Nat.zero_le _,rfl,rfl,rfl,?_⟩
    exact (H00.out.nilStars).pick 1
  case round =>
    obtain ⟨k,sa1,c1,vs,hk,rfl,rfl,hvl,H1⟩:=hrel
    by_cases hlt:k<subs.length
    · obtain ⟨g,o,op',a',b',sa',n',c',rfl,hat⟩:=HS.out.get0 (List.getElem?_eq_getElem hlt)
      have hat:=hat.mono H1.below
      have hk0:(0:Int)≤(k:Int):=Int.natCast_nonneg _
      have hk1:(k:Int)<(subs.length:Int):=by omega
      have e0:=hat.c0
      have e1:=hat.c1
      have e2:=hat.c2
      have e3:=hat.c3
      have h22:=fun W h=>c22 subs[k] (lenS_mem hLs (List.getElem_mem hlt)) _ W (hat.v.mono h)
      have hw:=wrapS hlt (by omega)
      have Hw:=Lib.hid hw
      have Hih:=Lib.hid h22
      have Hsub:=Lib.hid (show subs[k]? = some subs[k] from List.getElem?_eq_getElem hlt)
      have Hvl:=Lib.hid hvl
      clear hw hat h22 hvl
      generalize subs[k]=sk at Hih Hsub
      go_wp2_with (first
        | (go_simp; go_at_call 22; refine (Hih.out _ ((St.nil _).alloc _).below).mono ?_; rintro e w1 ⟨oq,aq,bq,sq,nq,cq,rfl,h2⟩
           have H3:=(H1.alloc (ob 52 [.int .i64 op',.int .i64 a',.int .i64 b',.slice sa' n' c'])).over_base h2
           have H4:=H3.alloc (ob 28 [.int .i64 oq,.int .i64 aq,.int .i64 bq,.slice sq nq cq])
           clear h2)
        | (at_builtin; go_must (refine wpList_append1_st rfl _ _ rfl sl23 (g:=w1.heap.size) (news:=[.int .i64 oq,.int .i64 aq,.int .i64 bq,.slice sq nq cq]) ((H4.pick 3).pick 1) rfl 1 rfl rfl rfl (by simp [Value.oneCell']) (by simp only [maxLen]; omega) (by omega) ?_)
           intro a5 c5 w5 H5))
      have H7:=exPs_push (by exact Hvl.out) ((((H5.pick 2).drop).pick 2).pick 2)
      have htk:subs.take k++[sk]=subs.take (k+1):=by rw [List.take_add_one,Hsub.out]; rfl
      rw [htk] at H7
      rw [efl vs oq aq bq nq cq sq] at H7
      have H9:=H7.pick 1
      first | rw [Hw.out] | rw [show ((k:Int)+1)=((k+1:Nat):Int) from by omega]
      exact ⟨⟨k+1,a5,c5,vs++[exV oq aq bq sq nq cq],hlt,rfl,rfl,by rw [← htk]; simp [Hvl.out],H9⟩,measS hlt⟩
    · have hk1 : ¬ (k:Int)<(subs.length:Int):=by omega
      have hkl:k=subs.length:=by omega
      subst hkl
      rw [List.take_length] at H1 hvl
      have hx:=exRow (fun s _=>ownE s) hvl H1
      have Hx:=Lib.hid hx
      clear hx
      go_wp2_with fail
      go_ret
      exact ⟨_,⟨_,rfl⟩,Hx.out,H1.below⟩
end Go.Proofs.YtbcngfgemjdllaaGreatDoor
end
