import PyProof.Rows.All
import Wide.All
import OpenK.AllK
import Wide.FinOn
import Lean
import PySem.Challenge.RW_jk0046_01
set_option maxRecDepth 100000
set_option Elab.async false
set_option linter.unusedVariables false
set_option linter.unusedSimpArgs false
set_option genInjectivity false
set_option genSizeOf false
set_option compiler.extract_closed false
set_option bootstrap.genMatcherCode false
namespace MP
local macro_rules | `(tactic| kd_p) => `(tactic| kernel_rfl)
local macro_rules | `(tactic| kd_p1) => `(tactic| with_unfolding_all rfl)
open PySem PySem.Calls PyProof.Rows
theorem Ka:type_of% @Classical.byContradiction:=@Classical.byContradiction
theorem Kb:type_of% @wpAny_mono:=@wpAny_mono
theorem Kc:type_of% @Option.some.inj:=@Option.some.inj
theorem Kd:type_of% @wpAny_bind:=@wpAny_bind
theorem Ke:type_of% @List.getElem?_eq_getElem:=@List.getElem?_eq_getElem
theorem Kf:type_of% @List.mem_append_right:=@List.mem_append_right
theorem Kg:type_of% @List.mem_append_left:=@List.mem_append_left
theorem Kh:type_of% @Heap.get?_push_size:=@Heap.get?_push_size
theorem Ki:type_of% @wpAny_pure:=@wpAny_pure
theorem Kj:type_of% @List.mem_of_getElem?:=@List.mem_of_getElem?
theorem Kk:type_of% @Heap.lt_size:=@Heap.lt_size
theorem Kl:type_of% @List.getElem?_append_left:=@List.getElem?_append_left
theorem Km:type_of% @List.getElem?_append_right:=@List.getElem?_append_right
theorem Kn:type_of% @Heap.get?_push_of_some:=@Heap.get?_push_of_some
theorem Ko:type_of% @Nat.le_add_right:=@Nat.le_add_right
theorem Kq:type_of% @Nat.le_refl:=@Nat.le_refl
theorem Kr:type_of% @Nat.le_trans:=@Nat.le_trans
theorem Kt:type_of% @Nat.lt_of_lt_of_le:=@Nat.lt_of_lt_of_le
theorem Ku:type_of% @Nat.lt_of_le_of_lt:=@Nat.lt_of_le_of_lt
theorem Kw:type_of% @of_decide_eq_true:=@of_decide_eq_true
theorem LLc {α:Type _}{motive:List α→Prop}(t:List α) (nil:motive []) (cons:∀h t,motive (h::t)):motive t:=by cases t;exact nil;exact cons _ _
abbrev Qj:=Value→Shared→Prop
abbrev Qk:=Str→Option Value
abbrev Ql:=List (Str×Value)
abbrev Qm:=List (Str×Addr)
abbrev Qn:=List (Nat×Addr)
abbrev Qo:=List Value
abbrev Qp:=List Addr
abbrev Qq:=List Str
abbrev Qr:=List Stmt
abbrev Qs:=List Expr
theorem Qu:type_of% @List.length_append:=@List.length_append
theorem Qw:type_of% @List.length_map:=@List.length_map
theorem Qy:type_of% @List.append_assoc:=@List.append_assoc
theorem Qz:type_of% @Bool.and_eq_true:=@Bool.and_eq_true
theorem Q0:type_of% @List.map_map:=@List.map_map
theorem Q1:type_of% @PySem.W.hideAll_get:=@PySem.W.hideAll_get
theorem Q3:type_of% @List.mem_singleton:=@List.mem_singleton
theorem Q4:type_of% @Nat.zero_le:=@Nat.zero_le
theorem Q5:type_of% @Str.length_append:=@Str.length_append
theorem Q6:type_of% @Nat.add_sub_cancel_left:=@Nat.add_sub_cancel_left
theorem Q7:type_of% @beq_iff_eq:=@beq_iff_eq
theorem Q8:type_of% @List.length_set:=@List.length_set
theorem Q9:type_of% @List.map_append:=@List.map_append
theorem Ra:type_of% @PySem.W.hideAll_none:=@PySem.W.hideAll_none
theorem Rb:type_of% @Int.natCast_nonneg:=@Int.natCast_nonneg
theorem Rc:type_of% @List.length_cons:=@List.length_cons
theorem Rd:type_of% @Nat.le_of_ble_eq_true:=@Nat.le_of_ble_eq_true
theorem Re:type_of% @List.eq_nil_of_length_eq_zero:=@List.eq_nil_of_length_eq_zero
theorem Rf:type_of% @Bool.not_eq_true':=@Bool.not_eq_true'
theorem Rg:type_of% @Nat.ne_of_lt:=@Nat.ne_of_lt
theorem Rh:type_of% @List.map_cons:=@List.map_cons
theorem Ri:type_of% @List.mem_map_of_mem:=@List.mem_map_of_mem
theorem Rj:type_of% @List.append_nil:=@List.append_nil
theorem Rk:type_of% @List.length_range:=@List.length_range
theorem Rm:type_of% @Nat.succ.inj:=@Nat.succ.inj
theorem Rn:type_of% @Nat.lt_irrefl:=@Nat.lt_irrefl
theorem Ro:type_of% @beq_self_eq_true:=@beq_self_eq_true
theorem Rp:type_of% @Nat.sub_self:=@Nat.sub_self
theorem Rq:type_of% @wpAny_standAt:=@wpAny_standAt
theorem Rs:type_of% @wpAny_holding:=@wpAny_holding
theorem Rt:type_of% @eq_of_beq:=@eq_of_beq
theorem Ru:type_of% @List.getElem?_map:=@List.getElem?_map
theorem Rv:type_of% @List.filter_cons_of_neg:=@List.filter_cons_of_neg
theorem Rw:type_of% @List.getElem?_set_ne:=@List.getElem?_set_ne
theorem Rx:type_of% @Array.getElem?_eq_getElem:=@Array.getElem?_eq_getElem
theorem Ry:type_of% @Nat.add_le_add_left:=@Nat.add_le_add_left
theorem Rz:type_of% @Nat.min_eq_left:=@Nat.min_eq_left
variable {b m i j N need ep e0:Nat}{x y q name:Str}{P0 P:Prop}{M:Model}{E:Qj}{vs us:Qo}{g g' h' g₁:Heap}{ρ wr fp:Qp}{s':Shared}{v:Value}{env:Env}{pos apos p1 p3 p4 px:Pos}{oe tgt iter elt:Expr}{hs:List (Addr×Obj)}{pn:Qn}{it I cda a₀ aL fD:Addr}{Si:Nat→Heap→Prop}{body:Qr}{ds is:List Nat}{kvs:Ql}{lo hi:Option Int}{names ids:Qq}{scope sc:Scope}{K:W.Frag}{ifs:Qs}{ι:Nat→Nat}{prog:Program}{ps:Array Value}{celA:List (Str×Nat)}{pc:Option Str}{hd:Int}
section
theorem ad2 {a n k:Nat}(h:a≤m) (g:b≤n) (hk:m+n≤k):a+b≤k:=Kr (Nat.add_le_add h g) hk
theorem ad1 {a n k:Nat}(h:a≤m) (hk:m+n≤k):a+n≤k:=Kr (Nat.add_le_add_right h n) hk
theorem Ux {a n k:Nat}(h:a≤m) (hk:n+m≤k):n+a≤k:=Kr (Ry h n) hk
theorem nE {x k:Nat}(h:x - i=k+1):x - (i+1)=k:=by rw [←Nat.sub_sub,h];rfl
theorem nG {n:Nat}(h:i<n):n - i=n - (i+1)+1:=by rw [←Nat.sub_sub];exact (Nat.sub_add_cancel (Nat.sub_pos_of_lt h)).symm
theorem nH {x:Nat}(h:x - i=0) (hi:i≤x):i=x:=Nat.le_antisymm hi (Nat.le_of_sub_eq_zero h)
theorem nI {n:Nat}(h:¬i<n):n+(i - n)=i:=Nat.add_sub_of_le (Nat.not_lt.mp h)
theorem nJ {n a:Nat}:n≤a+(n - a):=Nat.sub_le_iff_le_add'.mp (Kq _)
theorem nK {u n f c:Nat}(h:n≤f) (g:u+8*f+40≤c):u+8*n+40≤c:=Kr (Nat.add_le_add_right (Ry (Nat.mul_le_mul_left 8 h) u) 40) g
theorem nQ {a:Nat}:a+1+b=a+(b+1):=Nat.add_right_comm a 1 b
theorem nL {d n r:Nat}(h:d+(n+1)<r):d+1+n<r:=by rw [Nat.add_right_comm];exact h
theorem nS {a k:Nat}(h:a+(b+1)≤k):a+1+b≤k:=by rw [Nat.add_right_comm];exact h
theorem nU {u n c k:Nat}(h:u+8*(n+1)+40≤c) (hk:k≤8):u+k+8*n+40≤c:=Kr (Nat.add_le_add_right ((Nat.add_assoc u k _).symm▸Ry (Nat.add_comm k _▸Ry hk _) u) 40) h
theorem nM {u n c:Nat}(h:u+8*(n+1)+40≤c):u+1+3+8*n+40≤c:=(Nat.add_assoc u 1 3).symm▸nU h (by decide)
theorem nN {u k c:Nat}(h:u+k+40≤c):u<c:=Kt (Ku (Ko u k) (Nat.lt_add_of_pos_right (by decide))) h
theorem nY {u f k c:Nat}(h:u+8*f+40≤c) (hk:k<40):u+k<c:=Kt (Nat.add_lt_add_of_le_of_lt (Ko u (8*f)) hk) h
theorem nZ {u k c:Nat}(h:u+k<c):u<c:=Ku (Ko u k) h
theorem nP {a:Nat}(h:a=b) (g:i<b):i<a:=h▸g
theorem nP' {a:Nat}(h:a=b) (g:i<a):i<b:=h▸g
theorem nT {n d r:Nat}(h:n≤m) (g:d+m<r):d+n<r:=Ku (Ry h d) g
theorem nR {a k:Nat}(h:a+b≤m) (hk:m≤k):a≤k:=Kr (Ko a b) (Kr h hk)
theorem nW {a k:Nat}(h:a+(b+1)=m) (g:m≤k):a≤k:=Kr (Ko a _) (h▸g)
theorem oza {Q:Prop}{P1:Prop}(h:P0∧P1) (k:P0→P1→Q):Q:=by obtain ⟨y0,y1⟩:=h;exact k y0 y1
theorem oze {α0:Sort _}{Q:Prop}{P1:α0→Prop}(h:∃x0:α0,P1 x0) (k:∀x0:α0,P1 x0→Q):Q:=by obtain ⟨y0,y1⟩:=h;exact k y0 y1
theorem Za {α0:Sort _}{Q:Prop}{P1:α0→Prop}{P2:α0→Prop}(h:∃x0:α0,P1 x0∧P2 x0) (k:∀x0:α0,P1 x0→P2 x0→Q):Q:=by obtain ⟨y0,y1,y2⟩:=h;exact k y0 y1 y2
theorem Yz {Q:Prop}{P1:Prop}{P2:Prop}(h:P0∧P1∧P2) (k:P0→P1→P2→Q):Q:=by obtain ⟨y0,y1,y2⟩:=h;exact k y0 y1 y2
theorem Ue {α0:Sort _}{α1:Sort _}{Q:Prop}{P2:α0→α1→Prop}(h:∃x0:α0,∃x1:α1,P2 x0 x1) (k:∀x0:α0,∀x1:α1,P2 x0 x1→Q):Q:=by obtain ⟨y0,y1,y2⟩:=h;exact k y0 y1 y2
theorem ZsP {α1:Sort _}{Q:Prop}{P2:α1→Prop}(h:P0∧∃x1:α1,P2 x1) (k:P0→∀x1:α1,P2 x1→Q):Q:=by obtain ⟨y0,y1,y2⟩:=h;exact k y0 y1 y2
theorem Zt {α0:Sort _}{Q:Prop}{P1:α0→Prop}{P2:α0→Prop}{P3:α0→Prop}(h:∃x0:α0,P1 x0∧P2 x0∧P3 x0) (k:∀x0:α0,P1 x0→P2 x0→P3 x0→Q):Q:=by obtain ⟨y0,y1,y2,y3⟩:=h;exact k y0 y1 y2 y3
theorem UT {Q:Prop}{P1:Prop}{P2:Prop}{P3:Prop}(h:P0∧P1∧P2∧P3) (k:P0→P1→P2→P3→Q):Q:=by obtain ⟨y0,y1,y2,y3⟩:=h;exact k y0 y1 y2 y3
theorem ZE {α0:Sort _}{α1:Sort _}{Q:Prop}{P2:α0→α1→Prop}{P3:α0→α1→Prop}(h:∃x0:α0,∃x1:α1,P2 x0 x1∧P3 x0 x1) (k:∀x0:α0,∀x1:α1,P2 x0 x1→P3 x0 x1→Q):Q:=by obtain ⟨y0,y1,y2,y3⟩:=h;exact k y0 y1 y2 y3
theorem ZkE {α0:Sort _}{α1:Sort _}{α2:Sort _}{Q:Prop}{P3:α0→α1→α2→Prop}(h:∃x0:α0,∃x1:α1,∃x2:α2,P3 x0 x1 x2) (k:∀x0:α0,∀x1:α1,∀x2:α2,P3 x0 x1 x2→Q):Q:=by obtain ⟨y0,y1,y2,y3⟩:=h;exact k y0 y1 y2 y3
theorem YK {α1:Sort _}{Q:Prop}{P2:α1→Prop}{P3:α1→Prop}(h:P0∧∃x1:α1,P2 x1∧P3 x1) (k:P0→∀x1:α1,P2 x1→P3 x1→Q):Q:=by obtain ⟨y0,y1,y2,y3⟩:=h;exact k y0 y1 y2 y3
theorem ZjB {α0:Sort _}{α2:Sort _}{Q:Prop}{P1:α0→Prop}{P3:α0→α2→Prop}(h:∃x0:α0,P1 x0∧∃x2:α2,P3 x0 x2) (k:∀x0:α0,P1 x0→∀x2:α2,P3 x0 x2→Q):Q:=by obtain ⟨y0,y1,y2,y3⟩:=h;exact k y0 y1 y2 y3
theorem Wj {α0:Sort _}{Q:Prop}{P1:α0→Prop}{P2:α0→Prop}{P3:α0→Prop}{P4:α0→Prop}(h:∃x0:α0,P1 x0∧P2 x0∧P3 x0∧P4 x0) (k:∀x0:α0,P1 x0→P2 x0→P3 x0→P4 x0→Q):Q:=by obtain ⟨y0,y1,y2,y3,y4⟩:=h;exact k y0 y1 y2 y3 y4
theorem ZoT {Q:Prop}{P1:Prop}{P2:Prop}{P3:Prop}{P4:Prop}(h:P0∧P1∧P2∧P3∧P4) (k:P0→P1→P2→P3→P4→Q):Q:=by obtain ⟨y0,y1,y2,y3,y4⟩:=h;exact k y0 y1 y2 y3 y4
theorem Zc {α0:Sort _}{α1:Sort _}{Q:Prop}{P2:α0→α1→Prop}{P3:α0→α1→Prop}{P4:α0→α1→Prop}(h:∃x0:α0,∃x1:α1,P2 x0 x1∧P3 x0 x1∧P4 x0 x1) (k:∀x0:α0,∀x1:α1,P2 x0 x1→P3 x0 x1→P4 x0 x1→Q):Q:=by obtain ⟨y0,y1,y2,y3,y4⟩:=h;exact k y0 y1 y2 y3 y4
theorem ZS {α0:Sort _}{α1:Sort _}{α2:Sort _}{Q:Prop}{P3:α0→α1→α2→Prop}{P4:α0→α1→α2→Prop}(h:∃x0:α0,∃x1:α1,∃x2:α2,P3 x0 x1 x2∧P4 x0 x1 x2) (k:∀x0:α0,∀x1:α1,∀x2:α2,P3 x0 x1 x2→P4 x0 x1 x2→Q):Q:=by obtain ⟨y0,y1,y2,y3,y4⟩:=h;exact k y0 y1 y2 y3 y4
theorem ZdJ {α0:Sort _}{α1:Sort _}{α2:Sort _}{α3:Sort _}{Q:Prop}{P4:α0→α1→α2→α3→Prop}(h:∃x0:α0,∃x1:α1,∃x2:α2,∃x3:α3,P4 x0 x1 x2 x3) (k:∀x0:α0,∀x1:α1,∀x2:α2,∀x3:α3,P4 x0 x1 x2 x3→Q):Q:=by obtain ⟨y0,y1,y2,y3,y4⟩:=h;exact k y0 y1 y2 y3 y4
theorem Zi8 {α0:Sort _}{α2:Sort _}{Q:Prop}{P1:α0→Prop}{P3:α0→α2→Prop}{P4:α0→α2→Prop}(h:∃x0:α0,P1 x0∧∃x2:α2,P3 x0 x2∧P4 x0 x2) (k:∀x0:α0,P1 x0→∀x2:α2,P3 x0 x2→P4 x0 x2→Q):Q:=by obtain ⟨y0,y1,y2,y3,y4⟩:=h;exact k y0 y1 y2 y3 y4
theorem Ug {α0:Sort _}{α3:Sort _}{Q:Prop}{P1:α0→Prop}{P2:α0→Prop}{P4:α0→α3→Prop}(h:∃x0:α0,P1 x0∧P2 x0∧∃x3:α3,P4 x0 x3) (k:∀x0:α0,P1 x0→P2 x0→∀x3:α3,P4 x0 x3→Q):Q:=by obtain ⟨y0,y1,y2,y3,y4⟩:=h;exact k y0 y1 y2 y3 y4
theorem Zgw {α0:Sort _}{Q:Prop}{P1:α0→Prop}{P2:α0→Prop}{P3:α0→Prop}{P4:α0→Prop}{P5:α0→Prop}(h:∃x0:α0,P1 x0∧P2 x0∧P3 x0∧P4 x0∧P5 x0) (k:∀x0:α0,P1 x0→P2 x0→P3 x0→P4 x0→P5 x0→Q):Q:=by obtain ⟨y0,y1,y2,y3,y4,y5⟩:=h;exact k y0 y1 y2 y3 y4 y5
theorem Z8 {α0:Sort _}{α1:Sort _}{Q:Prop}{P2:α0→α1→Prop}{P3:α0→α1→Prop}{P4:α0→α1→Prop}{P5:α0→α1→Prop}(h:∃x0:α0,∃x1:α1,P2 x0 x1∧P3 x0 x1∧P4 x0 x1∧P5 x0 x1) (k:∀x0:α0,∀x1:α1,P2 x0 x1→P3 x0 x1→P4 x0 x1→P5 x0 x1→Q):Q:=by obtain ⟨y0,y1,y2,y3,y4,y5⟩:=h;exact k y0 y1 y2 y3 y4 y5
theorem ZgP {α0:Sort _}{α1:Sort _}{α2:Sort _}{Q:Prop}{P3:α0→α1→α2→Prop}{P4:α0→α1→α2→Prop}{P5:α0→α1→α2→Prop}(h:∃x0:α0,∃x1:α1,∃x2:α2,P3 x0 x1 x2∧P4 x0 x1 x2∧P5 x0 x1 x2) (k:∀x0:α0,∀x1:α1,∀x2:α2,P3 x0 x1 x2→P4 x0 x1 x2→P5 x0 x1 x2→Q):Q:=by obtain ⟨y0,y1,y2,y3,y4,y5⟩:=h;exact k y0 y1 y2 y3 y4 y5
theorem XR {α0:Sort _}{α1:Sort _}{α2:Sort _}{α3:Sort _}{Q:Prop}{P4:α0→α1→α2→α3→Prop}{P5:α0→α1→α2→α3→Prop}(h:∃x0:α0,∃x1:α1,∃x2:α2,∃x3:α3,P4 x0 x1 x2 x3∧P5 x0 x1 x2 x3) (k:∀x0:α0,∀x1:α1,∀x2:α2,∀x3:α3,P4 x0 x1 x2 x3→P5 x0 x1 x2 x3→Q):Q:=by obtain ⟨y0,y1,y2,y3,y4,y5⟩:=h;exact k y0 y1 y2 y3 y4 y5
theorem ZlD {Q:Prop}{P1:Prop}{P2:Prop}{P3:Prop}{P4:Prop}{P5:Prop}(h:P0∧P1∧P2∧P3∧P4∧P5) (k:P0→P1→P2→P3→P4→P5→Q):Q:=by obtain ⟨y0,y1,y2,y3,y4,y5⟩:=h;exact k y0 y1 y2 y3 y4 y5
theorem Zlv {α0:Sort _}{α1:Sort _}{α2:Sort _}{α3:Sort _}{α4:Sort _}{Q:Prop}{P5:α0→α1→α2→α3→α4→Prop}(h:∃x0:α0,∃x1:α1,∃x2:α2,∃x3:α3,∃x4:α4,P5 x0 x1 x2 x3 x4) (k:∀x0:α0,∀x1:α1,∀x2:α2,∀x3:α3,∀x4:α4,P5 x0 x1 x2 x3 x4→Q):Q:=by obtain ⟨y0,y1,y2,y3,y4,y5⟩:=h;exact k y0 y1 y2 y3 y4 y5
theorem Zb2 {α0:Sort _}{α1:Sort _}{α2:Sort _}{α3:Sort _}{Q:Prop}{P4:α0→α1→α2→α3→Prop}{P5:α0→α1→α2→α3→Prop}{P6:α0→α1→α2→α3→Prop}(h:∃x0:α0,∃x1:α1,∃x2:α2,∃x3:α3,P4 x0 x1 x2 x3∧P5 x0 x1 x2 x3∧P6 x0 x1 x2 x3) (k:∀x0:α0,∀x1:α1,∀x2:α2,∀x3:α3,P4 x0 x1 x2 x3→P5 x0 x1 x2 x3→P6 x0 x1 x2 x3→Q):Q:=by obtain ⟨y0,y1,y2,y3,y4,y5,y6⟩:=h;exact k y0 y1 y2 y3 y4 y5 y6
theorem Zal {α0:Sort _}{α1:Sort _}{α2:Sort _}{Q:Prop}{P3:α0→α1→α2→Prop}{P4:α0→α1→α2→Prop}{P5:α0→α1→α2→Prop}{P6:α0→α1→α2→Prop}{P7:α0→α1→α2→Prop}(h:∃x0:α0,∃x1:α1,∃x2:α2,P3 x0 x1 x2∧P4 x0 x1 x2∧P5 x0 x1 x2∧P6 x0 x1 x2∧P7 x0 x1 x2) (k:∀x0:α0,∀x1:α1,∀x2:α2,P3 x0 x1 x2→P4 x0 x1 x2→P5 x0 x1 x2→P6 x0 x1 x2→P7 x0 x1 x2→Q):Q:=by obtain ⟨y0,y1,y2,y3,y4,y5,y6,y7⟩:=h;exact k y0 y1 y2 y3 y4 y5 y6 y7
theorem ZcT {α0:Sort _}{α1:Sort _}{α2:Sort _}{α3:Sort _}{Q:Prop}{P4:α0→α1→α2→α3→Prop}{P5:α0→α1→α2→α3→Prop}{P6:α0→α1→α2→α3→Prop}{P7:α0→α1→α2→α3→Prop}(h:∃x0:α0,∃x1:α1,∃x2:α2,∃x3:α3,P4 x0 x1 x2 x3∧P5 x0 x1 x2 x3∧P6 x0 x1 x2 x3∧P7 x0 x1 x2 x3) (k:∀x0:α0,∀x1:α1,∀x2:α2,∀x3:α3,P4 x0 x1 x2 x3→P5 x0 x1 x2 x3→P6 x0 x1 x2 x3→P7 x0 x1 x2 x3→Q):Q:=by obtain ⟨y0,y1,y2,y3,y4,y5,y6,y7⟩:=h;exact k y0 y1 y2 y3 y4 y5 y6 y7
theorem ZB {α:Type _}{l:List α}{a:α}(h:l[i]?=some a):∃h:i<l.length,l[i]=a:=List.getElem?_eq_some_iff.mp h
theorem ZH {α:Type _}{a b:α}{l:List α}(h:a∈b::l):a=b∨a∈l:=List.mem_cons.mp h
theorem ZL {α:Type _}{a:α}{l r:List α}(h:a∈l++r):a∈l∨a∈r:=List.mem_append.mp h
theorem YW {α β:Type _}{f:α→β}{x:Option α}{b:β}(h:x.map f=some b):∃a,x=some a∧f a=b:=Option.map_eq_some_iff.mp h
theorem Yh {α β:Type _}{f:α→β}{l:List α}{b:β}(h:b∈l.map f):∃a,a∈l∧f a=b:=List.mem_map.mp h
theorem YY {α:Type _}{a b:α}(h:a∈[b]):a=b:=List.mem_singleton.mp h
theorem Zdd {α:Type _}{a b:α}(h:a=b):a∈[b]:=List.mem_singleton.mpr h
theorem Xx {x y:Bool}(h:(x&&y)=true):x=true∧y=true:=Bool.and_eq_true_iff.mp h
theorem Zdx {α:Type _}[BEq α][LawfulBEq α]{a b:α}(h:a≠b):(a==b)=false:=beq_eq_false_iff_ne.mpr h
theorem Za7 {a:Nat}(h:b≤a):¬a<b:=Nat.not_lt.mpr h
theorem ZfC {a n:Nat}(h:a∈List.range n):a<n:=List.mem_range.mp h
theorem Zkd {a n:Nat}(h:a<n):a∈List.range n:=List.mem_range.mpr h
theorem Zeq {α β:Type _}{f:α→Option β}{x:Option α}{b:β}(h:x.bind f=some b):∃a,x=some a∧f a=some b:=Option.bind_eq_some_iff.mp h
theorem Zd4 {α:Type _}{p:α→Bool}{l:List α}(h:l.all p=true):∀x,x∈l→p x=true:=List.all_eq_true.mp h
theorem Zio {α:Type _}{p:α→Bool}{l:List α}{a:α}(h:a∈l.filter p):a∈l∧p a=true:=List.mem_filter.mp h
theorem ZdV {α:Type _}{l:List α}{a:α}(h:a∈l):∃i:Nat,l[i]?=some a:=List.mem_iff_getElem?.mp h
theorem wpm {α:Type}{A:Around}{s:Shared}{t:Sem α}{Q Q':α→Shared→Prop}(h:wpAny M A t Q E s) (k:∀a s,Q a s→Q' a s):wpAny M A t Q' E s:=Kb h k fun j j x=>x
theorem wpq {α:Type}{A:Around}{s:Shared}{m m':Sem α}{Q:α→Shared→Prop}(h:m=m') (k:wpAny M A m' Q E s):wpAny M A m Q E s:=h▸k
theorem Xi (h:false=true):P:=Bool.noConfusion h
theorem Zf6 (h:true=false):P:=Bool.noConfusion h
theorem Zp {α:Type}{a:α}(h:none=some a):P:=by cases h
theorem Za3 {α:Type}{a:α}(h:some a=none):P:=by cases h
theorem ZjU {α:Type}{a:α}{l:List α}(h:a::l=[]):P:=by cases h
theorem ZoW {α:Type}{a:α}{l:List α}(h:[]=a::l):P:=by cases h
theorem Zha {α:Type}{l:List α}{a:α}(h:l.head?=some a):∃r,l=a::r:=by
 induction l using LLc with
 | nil=>exact Zp h
 | cons x r=>exact ⟨r,Kc h▸rfl⟩
inductive VKind where | values | items
noncomputable def Zcc (h:Heap):VKind→Addr→Addr→Prop
 | .values,a,d=>h.IsValuesView a d
 | .items,a,d=>h.IsItemsView a d
set_option genCtorIdx false in
inductive D where
 | none
 | bool (b:Bool)
 | int (i:Int)
 | str (s:Str)
 | bytes (b:Array UInt8)
 | list (xs:List D)
 | tuple (xs:List D)
 | dict (es:List (Str×D))
 | range (a b:Int)
 | slice (lo hi st:Option Int)
 | view (k:VKind) (es:List (Str×D))
 | inst (c:Addr) (fs:List (Str×D))
 | val (v:Value)
def Sub (g h:Heap):Prop:=∀b o,g.get? b=some o→h.get? b=some o
theorem Sub.refl (h:Heap):Sub h h:=fun j j e=>e
theorem Sub.trans {a b c:Heap}(x:Sub a b) (y:Sub b c):Sub a c:=fun j j e=>y _ _ (x _ _ e)
theorem Sub.push (h:Heap) (o:Obj):Sub h (h.push o):=fun j j e=>Kn _ e
section
variable (p:Program) (w:World)
def IsLst (h:Heap) (a:Addr) (vs:Qo):Prop:=∃n,h.get? a=some {cls:=.type "list",data:=.seq vs.toArray n}
def IsTpl (h:Heap) (a:Addr) (vs:Qo):Prop:=IsTup h a vs.toArray
def IsFl (h:Heap) (a:Addr) (vs:Qo):Prop:=h.IsList a vs.toArray
theorem IsFl.isList {h:Heap}{a:Addr}(x:IsFl h a vs):h.IsList a vs.toArray:=x
theorem IsFl.sub {h:Heap}(x:Sub g h) {a vs}(H:IsFl g a vs):IsFl h a vs:=by refine Za H fun o e r=>?_;exact ⟨o,x _ _ e,r⟩
theorem IsLst.fl {h:Heap}{a:Addr}(x:IsLst h a vs):IsFl h a vs:=by refine oze x fun n e=>?_;exact ⟨_,e,rfl,n,rfl⟩
theorem IsFl.lt {h:Heap}{a:Addr}(x:IsFl h a vs):a<h.objs.size:=by refine Za x fun o e j=>?_;exact Kk e
theorem IsLst.isList {h:Heap}{a:Addr}(x:IsLst h a vs):h.IsList a vs.toArray:=by refine oze x fun n e=>?_;exact ⟨_,e,rfl,n,rfl⟩
theorem IsTpl.isTup {h:Heap}{a:Addr}(x:IsTpl h a vs):IsTup h a vs.toArray:=x
theorem IsLst.sub {h:Heap}(x:Sub g h) {a vs}(H:IsLst g a vs):IsLst h a vs:=by refine oze H fun n e=>?_;exact ⟨n,x _ _ e⟩
theorem IsTpl.sub {h:Heap}(x:Sub g h) {a vs}(H:IsTpl g a vs):IsTpl h a vs:=by refine Za H fun o e r=>?_;exact ⟨o,x _ _ e,r⟩
def Zge (h:Heap) (a c:Addr) (kvs:Ql):Prop :=
 ∃dx,h.get? a=some {cls:=.ref c,dict:=some dx,data:=.plain}∧h.DictOf (strKind p w) dx kvs
mutual
noncomputable def VR (h:Heap):D→Value→Prop
 | .none,v=>v = .none
 | .bool b,v=>v = .bool b
 | .int i,v=>∃t,v = .int i t
 | .str s,v=>∃t,v = .str s t
 | .bytes b,v=>∃t,v = .bytes b t
 | .list xs,v=>∃a vs,v = .ref a∧IsFl h a vs∧VRs h xs vs
 | .tuple xs,v=>∃a vs,v = .ref a∧IsTpl h a vs∧VRs h xs vs
 | .dict es,v=>∃a kvs,v = .ref a∧a≠sysModules∧h.DictOf (strKind p w) a kvs∧VRe h es kvs
 | .range a b,v=>∃r t u z,v = .ref r∧IsRange h r a b 1 t u z
 | .slice lo hi st,v=>∃a l u z,v = .ref a∧h.get? a=some {cls:=.type "slice",data:=.fields #[l,u,z]}∧IsPart l lo∧IsPart u hi∧IsPart z st
 | .view k es,v=>∃a d kvs,v = .ref a∧d≠sysModules∧Zcc h k a d∧h.DictOf (strKind p w) d kvs∧VRe h es kvs
 | .inst c fs,v=>∃a kvs,v = .ref a∧Zge p w h a c kvs∧VRe h fs kvs
 | .val u,v=>v=u
noncomputable def VRs (h:Heap):List D→List Value→Prop
 | [],vs=>vs=[]
 | x::xs,vs=>∃v r,vs=v::r∧VR h x v∧VRs h xs r
noncomputable def VRe (h:Heap):List (Str×D)→List (Str×Value)→Prop
 | [],vs=>vs=[]
 | x::xs,vs=>∃v r,vs=(x.1,v)::r∧VR h x.2 v∧VRe h xs r
end
theorem isList_sub {h:Heap}(x:Sub g h) {a vs}(H:g.IsList a vs):h.IsList a vs:=by refine Za H fun o e r=>?_;exact ⟨o,x _ _ e,r⟩
theorem Zz {h:Heap}(x:Sub g h) {a kvs}(H:g.DictOf (strKind p w) a kvs):h.DictOf (strKind p w) a kvs:=by refine ZS H fun o es ep e r=>?_;exact ⟨o,es,ep,x _ _ e,r⟩
theorem Xl {h:Heap}(x:Sub g h) {a d}:∀k,Zcc g k a d→Zcc h k a d
 | .values,H=>by refine Za H fun o e r=>?_;exact ⟨o,x _ _ e,r⟩
 | .items,H=>by refine Za H fun o e r=>?_;exact ⟨o,x _ _ e,r⟩
theorem ZfQ {h:Heap}(x:Sub g h) {a c kvs}(H:Zge p w g a c kvs):Zge p w h a c kvs:=by refine Za H fun dx e r=>?_;exact ⟨dx,x _ _ e,Zz p w x r⟩
mutual
theorem VR.sub {h:Heap}(x:Sub g h):∀d v,VR p w g d v→VR p w h d v
 | .none,_,H=>H
 | .bool _,_,H=>H
 | .int _,_,H=>H
 | .str _,_,H=>H
 | .bytes _,_,H=>H
 | .list xs,_,H=>by refine Zc H fun a vs e l r=>?_;exact ⟨a,vs,e,l.sub x,VRs.sub x xs vs r⟩
 | .tuple xs,_,H=>by refine Zc H fun a vs e l r=>?_;exact ⟨a,vs,e,l.sub x,VRs.sub x xs vs r⟩
 | .dict es,_,H=>by refine Z8 H fun a vs e n l r=>?_;exact ⟨a,vs,e,n,Zz p w x l,VRe.sub x es vs r⟩
 | .range _ _,_,H=>by refine XR H fun a t u z e r=>?_;exact ⟨a,t,u,z,e,x _ _ r⟩
 | .slice _ _ _,_,H=>by refine Zb2 H fun a l u z e q r=>?_;exact ⟨a,l,u,z,e,x _ _ q,r⟩
 | .view k es,_,H=>by refine Zal H fun a d vs e n i l r=>?_;exact ⟨a,d,vs,e,n,Xl x k i,Zz p w x l,VRe.sub x es vs r⟩
 | .inst _ fs,_,H=>by refine Zc H fun a vs e l r=>?_;exact ⟨a,vs,e,ZfQ p w x l,VRe.sub x fs vs r⟩
 | .val _,_,H=>H
theorem VRs.sub {h:Heap}(x:Sub g h):∀d v,VRs p w g d v→VRs p w h d v
 | [],_,H=>H
 | d::ds,_,H=>by refine Zc H fun v r e a b=>?_;exact ⟨v,r,e,VR.sub x d v a,VRs.sub x ds r b⟩
theorem VRe.sub {h:Heap}(x:Sub g h):∀d v,VRe p w g d v→VRe p w h d v
 | [],_,H=>H
 | d::ds,_,H=>by refine Zc H fun v r e a b=>?_;exact ⟨v,r,e,VR.sub x d.2 v a,VRe.sub x ds r b⟩
end
end
set_option genCtorIdx false in
inductive A where
 | d (x:D)
 | own (i:Nat)
 | view (k:VKind) (i:Nat)
inductive O where
 | list (xs:List A)
 | dict (es:List (Str×A)) (ep:Nat)
 | inst (c:Addr) (dx:Nat)
 | cell (x:Option A)
 | ask (a₀:Addr) (n:Nat)
 | dead
noncomputable def Zs {α:Type}[DecidableEq α](x:α):List (α×A)→Option A
 | []=>none
 | q::r=>if q.1=x then some q.2 else Zs x r
structure St where
 loc:List (Nat×A)
 own:List O
 stk:List A
abbrev Qb:=(St→Prop)→List A→St→Prop
abbrev Qc:=List (Nat×A)
abbrev Qd:=List (Str×D)
abbrev Qe:=List (Str×A)
abbrev Qf:=St→Prop
abbrev Qg:=List O
abbrev Qh:=List A
abbrev Qi:=List D
section
variable (p:Program) (w:World)
noncomputable def AR (g:Heap) (ρ:Qp):A→Value→Prop
 | .d x,v=>VR p w g x v
 | .own i,v=>∃a,ρ[i]?=some a∧v = .ref a
 | .view k i,v=>∃d a,ρ[i]?=some d∧v = .ref a∧Zcc g k a d
noncomputable def ARs (g:Heap) (ρ:Qp):Qh→List Value→Prop
 | [],vs=>vs=[]
 | x::xs,vs=>∃v r,vs=v::r∧AR p w g ρ x v∧ARs g ρ xs r
noncomputable def ARe (g:Heap) (ρ:Qp):Qe→List (Str×Value)→Prop
 | [],vs=>vs=[]
 | x::xs,vs=>∃v r,vs=(x.1,v)::r∧AR p w g ρ x.2 v∧ARe g ρ xs r
noncomputable def ARo (g:Heap) (ρ:Qp):Option A→Option Value→Prop
 | none,v=>v=none
 | some x,v=>∃u,v=some u∧AR p w g ρ x u
noncomputable def OAt (g:Heap) (ρ:Qp) (h:Heap):O→Addr→Prop
 | .list xs,a=>∃vs,IsLst h a vs∧ARs p w g ρ xs vs
 | .dict es ep,a=>∃kvs,a≠sysModules∧h.DictAt (strKind p w) a kvs ep∧ARe p w g ρ es kvs
 | .inst c j,a=>∃dx,ρ[j]?=some dx∧h.get? a=some {cls:=.ref c,dict:=some dx,data:=.plain}
 | .cell x,a=>∃v o,h.get? a=some o∧o.data = .cell v∧ARo p w g ρ x v
 | .ask a₀ n,a=>a=a₀∧∃vs,IsLst h a vs∧vs.length=n∧∀v∈vs,∃t,v = .str "sha256" t
 | .dead,a=>∃o,h.get? a=some o
def Ext (ρ ρ':Qp):Prop:=∀(i:Nat) (a:Addr),ρ[i]?=some a→ρ'[i]?=some a
theorem Ext.refl (ρ:Qp):Ext ρ ρ:=fun j j e=>e
theorem AR.sub (x:Sub g g'){ρ':Qp}(hρ:Ext ρ ρ'):∀a v,AR p w g ρ a v→AR p w g' ρ' a v
 | .d d,v,H=>VR.sub p w x d v H
 | .own _,_,H=>by refine Za H fun a e r=>?_;exact ⟨a,hρ _ _ e,r⟩
 | .view k _,_,H=>by refine Zc H fun d a e r i=>?_;exact ⟨d,a,hρ _ _ e,r,Xl x k i⟩
theorem ARs.sub (x:Sub g g'){ρ':Qp}(hρ:Ext ρ ρ'):∀a v,ARs p w g ρ a v→ARs p w g' ρ' a v
 | [],_,H=>H
 | a::as,_,H=>by refine Zc H fun v r e i j=>?_;exact ⟨v,r,e,AR.sub p w x hρ a v i,ARs.sub x hρ as r j⟩
theorem ARe.sub (x:Sub g g'){ρ':Qp}(hρ:Ext ρ ρ'):∀a v,ARe p w g ρ a v→ARe p w g' ρ' a v
 | [],_,H=>H
 | a::as,_,H=>by refine Zc H fun v r e i j=>?_;exact ⟨v,r,e,AR.sub p w x hρ a.2 v i,ARe.sub x hρ as r j⟩
theorem ARo.sub (x:Sub g g'){ρ':Qp}(hρ:Ext ρ ρ'):∀a v,ARo p w g ρ a v→ARo p w g' ρ' a v
 | none,_,H=>H
 | some a,_,H=>by refine Za H fun v e r=>?_;exact ⟨v,e,AR.sub p w x hρ a v r⟩
theorem OAt.sub {h:Heap}(x:Sub g g'){ρ':Qp}(hρ:Ext ρ ρ'){a:Addr}(k:∀o,h.get? a=some o→h'.get? a=some o):∀o,OAt p w g ρ h o a→OAt p w g' ρ' h' o a
 | .list xs,H=>by refine Za H fun vs zo2 r=>?_;refine oze zo2 fun n e=>?_;exact ⟨vs,⟨n,k _ e⟩,ARs.sub p w x hρ xs vs r⟩
 | .dict es _,H=>by refine Zt H fun vs n zo3 r=>?_;refine ZE zo3 fun o es' e l=>?_;exact ⟨vs,n,⟨o,es',k _ e,l⟩,ARe.sub p w x hρ es vs r⟩
 | .inst _ _,H=>by refine Za H fun dx e r=>?_;exact ⟨dx,hρ _ _ e,k _ r⟩
 | .cell c,H=>by refine Zc H fun v o e l r=>?_;exact ⟨v,o,k _ e,l,ARo.sub p w x hρ c v r⟩
 | .ask _ _,H=>by refine oza H fun e z=>?_;refine Za z fun vs l r=>?_;refine oze l fun n q=>?_;exact ⟨e,vs,⟨n,k _ q⟩,r⟩
 | .dead,H=>by refine oze H fun o e=>?_;exact ⟨o,k _ e⟩
theorem OAt.there {h:Heap}{a:Addr}:∀o,OAt p w g ρ h o a→∃ob,h.get? a=some ob
 | .list _,H=>by refine Za H fun j zo2 j=>?_;refine oze zo2 fun j e=>?_;exact ⟨_,e⟩
 | .dict _ _,H=>by refine Zt H fun j j zo3 j=>?_;refine ZE zo3 fun o j e j=>?_;exact ⟨o,e⟩
 | .inst _ _,H=>by refine Za H fun j j r=>?_;exact ⟨_,r⟩
 | .cell _,H=>by refine ZE H fun j o e j=>?_;exact ⟨o,e⟩
 | .ask _ _,H=>by refine oza H fun j z=>?_;refine Za z fun vs l j=>?_;refine oze l fun n q=>?_;exact ⟨_,q⟩
 | .dead,H=>H
end
structure Reg where
 at_:Addr
 ok:Heap→Obj→Prop
 mono:∀g g' o,Sub g g'→ok g o→ok g' o
structure Lib where
 B:Heap→Prop
 mono:∀g g',Sub g g'→B g→B g'
 nolimit:∀g,B g→g.NoLimit
 low:∀g,B g→∃o,g.get? mainGlobals=some o
structure Gx where
 p:Program
 w:World
 lib:Lib
 reg:List Reg
 fin:Heap→Prop
structure Cx where
 G:Gx
 A:Around
 env:Env
 tab:Qq
 cel:List (Str×Nat)
 fuel:Nat
 tnd:tab.Nodup
 hk:env.scope.kind = .function
 hg:env.globals=mainGlobals
 hb:env.builtins=builtinsNs
 hh:A.handled=none
 hd:A.depth+fuel<recursionLimit
 hu:A.units+8*fuel+40≤cLine
noncomputable abbrev Cx.p (c:Cx):Program:=c.G.p
noncomputable abbrev Cx.w (c:Cx):World:=c.G.w
structure Fz where
 g₀:Heap
 hid:List (Addr×Obj)
 gens:Array GenState
 os:OsState
 pin:Qn
structure HS (G:Gx) (F:Fz) (s:Shared) (g:Heap):Prop where
 base:G.lib.B g
 g0:Sub F.g₀ g
 keep:Sub g s.heap
 reg:∀r∈G.reg,g.get? r.at_=none∧∃o,s.heap.get? r.at_=some o∧r.ok g o
 hid:∀q∈F.hid,s.heap.get? q.1=some q.2∧g.get? q.1=none∧∀r∈G.reg,q.1≠r.at_
 gens:∀(i:Nat) x,F.gens[i]?=some x→s.gens[i]?=some x
 bare:AllBare s.gens
 os:s.os=F.os
structure RSW (c:Cx) (F:Fz) (st:St) (vs:Qo) (s:Shared) (g:Heap) (ρ:Qp) (m:Qk):Prop extends HS c.G F s g where
 ns:s.heap.Ns c.env.locals m
 nl:g.get? c.env.locals=none
 loc:∀(i:Nat) a,Zs i st.loc=some a→∃x v,c.tab[i]?=some x∧m x=some v∧AR c.p c.w g ρ a v
 len:ρ.length=st.own.length
 nd:ρ.Nodup
 fr:∀b∈ρ,g.get? b=none∧b≠c.env.locals
 own:∀(i:Nat) o a,st.own[i]?=some o→ρ[i]?=some a→OAt c.p c.w g ρ s.heap o a
 stk:ARs c.p c.w g ρ st.stk vs
 cel:∀x (i:Nat),(x,i)∈c.cel→∃a,ρ[i]?=some a∧c.env.cells.lookup x=some a
 apart:∀b∈c.env.locals::ρ,(∀r∈c.G.reg,b≠r.at_)∧∀q∈F.hid,b≠q.1
 pin:∀q∈F.pin,ρ[q.1]?=some q.2
inductive RS (c:Cx) (F:Fz) (st:St) (vs:Qo) (s:Shared):Prop
 | mk (g:Heap) (ρ:Qp) (m:Qk) (W:RSW c F st vs s g ρ m)
inductive Got (c:Cx) (F:Fz) (vs:Qo) (Q:Qf) (s:Shared):Prop
 | mk (st:St) (R:RS c F st vs s) (h:Q st)
theorem ozr {c:Cx}{F:Fz}{st:St}{s:Shared}{Q:Prop}(R:RS c F st vs s) (k:∀g ρ m,RSW c F st vs s g ρ m→Q):Q:=by obtain ⟨g,ρ,m,W⟩:=R;exact k g ρ m W
theorem ozg {c:Cx}{F:Fz}{P:Qf}{s:Shared}{Q:Prop}(R:Got c F vs P s) (k:∀st,RS c F st vs s→P st→Q):Q:=by obtain ⟨st,R,h⟩:=R;exact k st R h
noncomputable def ZG (G:Gx) (F:Fz) (bs:Qp):Qp:=bs++(G.reg.map (·.at_)++F.hid.map (·.1))
theorem ZD {G:Gx}{F:Fz}{b:Addr}(h:b∈ρ):b∈ZG G F ρ:=Kg _ h
theorem Xq {G:Gx}{F:Fz}{r:Reg}(h:r∈G.reg):r.at_∈ZG G F ρ:=Kf _ (Kg _ (Ri h))
theorem YO {G:Gx}{F:Fz}{q:Addr×Obj}(h:q∈F.hid):q.1∈ZG G F ρ:=Kf _ (Kf _ (Ri h))
section
variable {G:Gx}{F:Fz}{s:Shared}
theorem HS.nomut (R:HS G F s g):∀b∈ZG G F [],g.get? b=none:=by
 intro b hb;refine Or.elim (ZL (show b∈G.reg.map (·.at_)++F.hid.map (·.1) from hb)) (fun hb=>?_) fun hb=>?_
 ·refine Za (Yh hb) fun r hr zo1=>?_;subst zo1;exact (R.reg r hr).1
 ·refine Za (Yh hb) fun q hq zo2=>?_;subst zo2;exact (R.hid q hq).2.1
theorem HS.regrow (R:HS G F s g) (x:Sub g g') (k:Sub g' s.heap) (n:∀b∈ZG G F [],g'.get? b=none):HS G F s g' where
 base:=G.lib.mono _ _ x R.base
 g0:=R.g0.trans x
 keep:=k
 reg:=fun r hr=>by refine YK (R.reg r hr) fun j o h4 h5=>?_;exact ⟨n _ (Xq hr),o,h4,r.mono _ _ _ x h5⟩
 hid:=fun q hq=>by refine Yz (R.hid q hq) fun h1 j h3=>?_;exact ⟨h1,n _ (YO hq),h3⟩
 gens:=R.gens
 bare:=R.bare
 os:=R.os
theorem HS.grow (R:HS G F s g) (x:Sub s.heap s'.heap) (hg:∀(i:Nat) y,F.gens[i]?=some y→s'.gens[i]?=some y) (hb:AllBare s'.gens) (ho:s'.os=s.os):HS G F s' g where
 base:=R.base
 g0:=R.g0
 keep:=R.keep.trans x
 reg:=fun r hr=>by refine YK (R.reg r hr) fun h1 o h4 h5=>?_;exact ⟨h1,o,x _ _ h4,h5⟩
 hid:=fun q hq=>by refine oza (R.hid q hq) fun h1 h3=>?_;exact ⟨x _ _ h1,h3⟩
 gens:=hg
 bare:=hb
 os:=ho.trans R.os
theorem HS.at_ (R:HS G F s g){a:Addr}{t:Nat}(hs:∀b o,b≠a→s.heap.get? b=some o→h'.get? b=some o) (hg:g.get? a=none) (ha:(∀r∈G.reg,a≠r.at_)∧∀q∈F.hid,a≠q.1):HS G F {s with heap:=h',toks:=t} g where
 base:=R.base
 g0:=R.g0
 keep:=fun b o e=>hs b o (fun q=>by rw [q,hg] at e;exact Zp e) (R.keep b o e)
 reg:=fun r hr=>by refine YK (R.reg r hr) fun h1 o h4 h5=>?_;exact ⟨h1,o,hs _ _ (fun q=>ha.1 r hr q.symm) h4,h5⟩
 hid:=fun q hq=>by refine oza (R.hid q hq) fun h1 h3=>?_;exact ⟨hs _ _ (fun z=>ha.2 q hq z.symm) h1,h3⟩
 gens:=R.gens
 bare:=R.bare
 os:=R.os
end
section
variable {c:Cx}{F:Fz}{st:St}{s:Shared}{m:Qk}
theorem RSW.nomut (R:RSW c F st vs s g ρ m):∀b∈ZG c.G F (c.env.locals::ρ),g.get? b=none:=by
 intro b hb;refine Or.elim (ZL hb) (fun hb=>?_) fun hb=>?_
 ·rcases ZH hb with rfl | hb
  ·exact R.nl
  ·exact (R.fr b hb).1
 ·exact R.toHS.nomut b hb
theorem RSW.there (R:RSW c F st vs s g ρ m):∀b∈c.env.locals::ρ,∃o,s.heap.get? b=some o:=by
 intro b hb;rcases ZH hb with rfl | hb
 ·refine ZS R.ns fun o j j h j=>?_;exact ⟨o,h⟩
 ·obtain ⟨i,hi,rfl⟩:=List.getElem_of_mem hb;have hl:i<st.own.length:=R.len▸hi;exact OAt.there _ _ _ (R.own i st.own[i] ρ[i] (Ke hl) (Ke hi))
theorem RSW.thereM (R:RSW c F st vs s g ρ m):∀b∈ZG c.G F (c.env.locals::ρ),∃o,s.heap.get? b=some o:=by
 intro b hb;refine Or.elim (ZL hb) (fun hb=>?_) fun hb=>?_
 ·exact R.there b hb
 refine Or.elim (ZL hb) (fun hb=>?_) fun hb=>?_
 ·refine Za (Yh hb) fun r hr zo1=>?_;subst zo1;refine YK (R.reg r hr) fun j o h j=>?_;exact ⟨o,h⟩
 ·refine Za (Yh hb) fun q hq zo2=>?_;subst zo2;exact ⟨_,(R.hid q hq).1⟩
theorem RSW.regrow (R:RSW c F st vs s g ρ m) (x:Sub g g') (k:Sub g' s.heap) (n:∀b∈ZG c.G F (c.env.locals::ρ),g'.get? b=none):RSW c F st vs s g' ρ m where
 toHS:=R.toHS.regrow x k fun b hb=>n b (Kf _ hb)
 ns:=R.ns
 nl:=n _ (ZD (.head _))
 loc:=fun y a h=>by refine Zc (R.loc y a h) fun z v e0 e r=>?_;exact ⟨z,v,e0,e,AR.sub _ _ x (Ext.refl _) a v r⟩
 len:=R.len
 nd:=R.nd
 fr:=fun b hb=>⟨n b (ZD (.tail _ hb)),(R.fr b hb).2⟩
 own:=fun i o a h1 h2=>OAt.sub _ _ x (Ext.refl _) (fun j e=>e) o (R.own i o a h1 h2)
 stk:=ARs.sub _ _ x (Ext.refl _) _ _ R.stk
 cel:=R.cel
 apart:=R.apart
 pin:=R.pin
theorem RSW.onto (R:RSW c F st vs s g ρ m) (H:HS c.G F s' g') (x:Sub g g') (n:∀b∈c.env.locals::ρ,g'.get? b=none) (k:∀b∈c.env.locals::ρ,∀o,s.heap.get? b=some o→s'.heap.get? b=some o):RSW c F st vs s' g' ρ m where
 toHS:=H
 ns:=by refine ZS R.ns fun o es ep h r=>?_;exact ⟨o,es,ep,k _ (.head _) _ h,r⟩
 nl:=n _ (.head _)
 loc:=fun y a h=>by refine Zc (R.loc y a h) fun z v e0 e r=>?_;exact ⟨z,v,e0,e,AR.sub _ _ x (Ext.refl _) a v r⟩
 len:=R.len
 nd:=R.nd
 fr:=fun b hb=>⟨n b (.tail _ hb),(R.fr b hb).2⟩
 own:=fun i o a h1 h2=>OAt.sub _ _ x (Ext.refl _) (k a (.tail _ (Kj h2))) o (R.own i o a h1 h2)
 stk:=ARs.sub _ _ x (Ext.refl _) _ _ R.stk
 cel:=R.cel
 apart:=R.apart
 pin:=R.pin
theorem RSW.grow (R:RSW c F st vs s g ρ m) (x:Sub s.heap s'.heap) (hg:∀(i:Nat) y,F.gens[i]?=some y→s'.gens[i]?=some y) (hb:AllBare s'.gens) (ho:s'.os=s.os):RSW c F st vs s' g ρ m :=
 R.onto (R.toHS.grow x hg hb ho) (Sub.refl _) (fun b hb=>R.nomut b (ZD hb)) fun b j o e=>x b o e
theorem RSW.canon (R:RSW c F st vs s g ρ m):RSW c F st vs s (W.hideAll s.heap (ZG c.G F (c.env.locals::ρ))) ρ m :=
 R.regrow (fun b o e=>W.hideAll_get _ (R.keep b o e) fun hb=>by rw [R.nomut b hb] at e;exact Zp e) (fun j j e=>W.of_hideAll _ e) fun j hb=>W.hideAll_none _ hb
theorem RSW.tok (R:RSW c F st vs s g ρ m) (t:Nat):RSW c F st vs {s with toks:=t} g ρ m:=R.grow (Sub.refl _) R.gens R.bare rfl
theorem RSW.alloc (R:RSW c F st vs s g ρ m) (o:Obj) (t:Nat):RSW c F st vs {s with heap:=s.heap.push o,toks:=t} g ρ m:=R.grow (Sub.push _ _) R.gens R.bare rfl
theorem RSW.stack (R:RSW c F st vs s g ρ m){k:Qh}(h:ARs c.p c.w g ρ k us):RSW c F ⟨st.loc,st.own,k⟩ us s g ρ m :=
 {toHS:=R.toHS,ns:=R.ns,nl:=R.nl,loc:=R.loc,len:=R.len,nd:=R.nd,fr:=R.fr,own:=R.own,stk:=h,cel:=R.cel,apart:=R.apart,pin:=R.pin}
theorem RSW.push (R:RSW c F st vs s g ρ m){a:A}(h:AR c.p c.w g ρ a v):RSW c F ⟨st.loc,st.own,a::st.stk⟩ (v::vs) s g ρ m:=R.stack ⟨v,vs,rfl,h,R.stk⟩
theorem RSW.locs (R:RSW c F st vs s g ρ m){l:Qc}(h:∀x a,Zs x l=some a→Zs x st.loc=some a):RSW c F ⟨l,st.own,st.stk⟩ vs s g ρ m :=
 {toHS:=R.toHS,ns:=R.ns,nl:=R.nl,loc:=fun x a q=>R.loc x a (h _ _ q),len:=R.len,nd:=R.nd,fr:=R.fr,own:=R.own,stk:=R.stk,cel:=R.cel,apart:=R.apart,pin:=R.pin}
theorem YC {α:Type}{l:List α}(h:l.Nodup) (hi:i<l.length) (hj:j<l.length) (e:l[i]=l[j]):i=j:=by
 have P:=List.pairwise_iff_getElem.mp h;rcases Nat.lt_trichotomy i j with q | q | q
 ·exact absurd e (P i j hi hj q)
 ·exact q
 ·exact absurd e.symm (P j i hj hi q)
theorem RSW.setLocal (R:RSW c F st vs s g ρ m){a:A}(hi:c.tab[i]?=some x) (hv:AR c.p c.w g ρ a v) (hn:h'.Ns c.env.locals (fun y=>if y=x then some v else m y)) (hs:Heap.SameBut c.env.locals s.heap h'):
 RSW c F ⟨(i,a)::st.loc,st.own,st.stk⟩ vs {s with heap:=h',toks:=s.toks+1} g ρ (fun y=>if y=x then some v else m y) where
 toHS:=R.toHS.at_ (fun b o hb e=>(hs.2 b hb).trans e) R.nl (R.apart _ (.head _))
 ns:=hn
 nl:=R.nl
 loc:=fun y b q=>by
  unfold Zs at q;by_cases hy:i=y
  ·simp only [hy,if_true] at q;obtain rfl:=Kc q;exact ⟨x,v,hy▸hi,if_pos rfl,hv⟩
  ·simp only [hy,if_false] at q;refine Zc (R.loc y b q) fun z u e0 e1 e2=>?_;refine ⟨z,u,e0,?_,e2⟩;have:z≠x:=fun e=>by
    subst e;obtain ⟨l1,w1⟩:=ZB hi;obtain ⟨l2,w2⟩:=ZB e0;exact hy (YC c.tnd l1 l2 (w1.trans w2.symm))
   rw [if_neg this];exact e1
 len:=R.len
 nd:=R.nd
 fr:=R.fr
 own:=fun i o b h1 h2=>OAt.sub _ _ (Sub.refl _) (Ext.refl _) (fun j e=>(hs.2 b (R.fr b (Kj h2)).2).trans e) o (R.own i o b h1 h2)
 stk:=R.stk
 cel:=R.cel
 apart:=R.apart
 pin:=R.pin
theorem RSW.setOwn (R:RSW c F st vs s g ρ m){a:Addr}{o':O}{t:Nat}(hi:i<st.own.length) (ha:ρ[i]?=some a) (hs:∀b o,b≠a→s.heap.get? b=some o→h'.get? b=some o) (ho:OAt c.p c.w g ρ h' o' a):
 RSW c F ⟨st.loc,st.own.set i o',st.stk⟩ vs {s with heap:=h',toks:=t} g ρ m where
 toHS:=R.toHS.at_ hs (R.fr a (Kj ha)).1 (R.apart _ (.tail _ (Kj ha)))
 ns:=by refine ZS R.ns fun o es ep h r=>?_;exact ⟨o,es,ep,hs _ _ (Ne.symm (R.fr a (Kj ha)).2) h,r⟩
 nl:=R.nl
 loc:=R.loc
 len:=by rw [Q8];exact R.len
 nd:=R.nd
 fr:=R.fr
 own:=fun j o b h1 h2=>by
  by_cases hj:i=j
  ·subst hj;have:b=a:=Kc (h2.symm.trans ha);subst this;rw [List.getElem?_set_self hi] at h1;obtain rfl:=Kc h1;exact ho
  ·rw [Rw hj] at h1;refine OAt.sub _ _ (Sub.refl _) (Ext.refl _) (fun ob e=>hs b ob (fun q=>?_) e) o (R.own j o b h1 h2);subst q;obtain ⟨l1,e1⟩:=ZB ha;obtain ⟨l2,e2⟩:=ZB h2;exact hj (YC R.nd l1 l2 (e1.trans e2.symm))
 stk:=R.stk
 cel:=R.cel
 apart:=R.apart
 pin:=R.pin
theorem RSW.newOwn (R:RSW c F st vs s g ρ m){a:Addr}{o':O}(hg:g.get? a=none) (hn:a∉ZG c.G F (c.env.locals::ρ)) (ho:OAt c.p c.w g (ρ++[a]) s.heap o' a):
 RSW c F ⟨st.loc,st.own++[o'],st.stk⟩ vs s g (ρ++[a]) m:=by
 have ex:Ext ρ (ρ++[a]):=fun i b e=>by
  obtain ⟨l,j⟩:=ZB e;rw [Kl l];exact e
 have aL:a≠c.env.locals:=fun q=>hn (ZD (q▸.head _));have aρ:a∉ρ:=fun q=>hn (ZD (.tail _ q))
 exact {
  toHS:=R.toHS
  ns:=R.ns
  nl:=R.nl
  loc:=fun y b h=>by refine Zc (R.loc y b h) fun z v e0 e r=>?_;exact ⟨z,v,e0,e,AR.sub _ _ (Sub.refl _) ex b v r⟩
  len:=by simp [R.len]
  nd:=List.nodup_append.mpr ⟨R.nd,by simp,fun x hx y hy=>by simp at hy;subst hy;exact fun q=>aρ (q▸hx)⟩
  fr:=fun b hb=>by
   refine Or.elim (ZL hb) (fun hb=>?_) fun hb=>?_
   ·exact R.fr b hb
   ·simp at hb;subst hb;exact ⟨hg,aL⟩
  own:=fun i o b h1 h2=>by
   by_cases hi:i<st.own.length
   ·rw [Kl hi] at h1;rw [Kl (R.len▸hi)] at h2;exact OAt.sub _ _ (Sub.refl _) ex (fun j e=>e) o (R.own i o b h1 h2)
   ·have hi':st.own.length≤i:=Nat.le_of_not_lt hi;rw [Km hi'] at h1;rw [Km (R.len▸hi'),R.len] at h2;have z:i - st.own.length=0:=by
     induction hz:i - st.own.length using Nat.casesOn with
     | zero=>rfl
     | succ k=>rw [hz] at h1;simp at h1
    rw [z] at h1 h2;simp at h1 h2;subst h1 h2;exact ho
  stk:=ARs.sub _ _ (Sub.refl _) ex _ _ R.stk
  cel:=fun x i h=>by refine Za (R.cel x i h) fun b e r=>?_;exact ⟨b,ex _ _ e,r⟩
  apart:=fun b hb=>by
   rcases ZH hb with rfl | hb
   ·exact R.apart _ (.head _)
   refine Or.elim (ZL hb) (fun hb=>?_) fun hb=>?_
   ·exact R.apart _ (.tail _ hb)
   ·simp at hb;subst hb;exact ⟨fun r hr q=>hn (q▸Xq hr),fun z hz q=>hn (q▸YO hz)⟩
  pin:=fun q hq=>ex _ _ (R.pin q hq)}
end
end
variable {a a0 a1 a2:A}{k r xs args:Qh}{c c':Cx}{Q:Qf}{F:Fz}{st:St}{G:Gx}{o own os:Qg}{QB:Bool→St→Prop}{ys:Qi}{es:Qd}{QM:Nat→St→Prop}{R:A→List O→Prop}{QI:Qb}{loc':Qc}{d0 d1:D}
section
open PySem.W
noncomputable abbrev stepF:=@PySem.W.Fast.tw10156331382660048174
noncomputable abbrev denF:=@PySem.W.Fast.tw11892475500146522536
noncomputable abbrev tabF:=PySem.W.Fast.tw14364793385576792824
noncomputable abbrev okF:=@PySem.W.Fast.tw6613529449190102663
noncomputable abbrev seenF:=@PySem.W.Fast.tw4187177175401517315
noncomputable abbrev modsF:=@PySem.W.Fast.tw5923862056798008813
theorem ZjZ:@stepT=@stepF:=PySem.W.Fast.te10156331382660048174
theorem Zl4:@denote=@denF:=PySem.W.Fast.te11892475500146522536
theorem ZmR:treeTable=tabF:=PySem.W.Fast.te14364793385576792824
theorem ZjM:@stepOk=@okF:=PySem.W.Fast.te6613529449190102663
theorem ZiR:@openSeen=@seenF:=PySem.W.Fast.te4187177175401517315
theorem Zkw:@importedModules=@modsF:=PySem.W.Fast.te5923862056798008813
noncomputable def U8 (p:Program) (w:World) (n₀:Nat) (ann:Option Value):Nat→SharedT→Thread→Option SharedT
 | 0,_,_=>none
 | n+1,s,t=>match through t with
  | true=>some s
  | false=>match okF n₀ ann t with
   | false=>none
   | true=>match stepF (denF tabF) p w s t with
    | some (s',t')=>U8 p w n₀ ann n s' t'
    | none=>none
theorem Zd1 {p:Program}{w:World}{n₀:Nat}{ann:Option Value}{n:Nat}{s s':SharedT}{t:Thread}(h:U8 p w n₀ ann n s t=some s'):topRun treeTable p w n₀ ann n s.abs t=some s'.abs:=by
 induction n generalizing s t with
 | zero=>exact Zp h
 | succ n ih =>
  unfold U8 at h;unfold topRun;induction ht:through t with
  | true=>rw [ht] at h;exact Kc h▸rfl
  | false =>
   rw [ht] at h;induction hk:stepOk n₀ ann t with
   | false=>rw [←ZjM,hk] at h;exact Zp h
   | true =>
    rw [←ZjM,hk,←ZjZ,←Zl4,←ZmR] at h;induction hs:stepT (denote treeTable) p w s t with
    | none=>rw [hs] at h;exact Zp h
    | some r=>obtain ⟨s₂,t₂⟩:=r;rw [hs] at h;rw [stepT_spec hs];exact ih h
noncomputable def ZqR (P:Params):BT:=(.node (boot_o_0 P) (.node (boot_o_1 P) (.node (boot_o_3 P) (.node (boot_o_7 P) .nil .nil) .nil) (.node (boot_o_5 P) (.node (boot_o_9 P) .nil .nil) .nil)) (.node (boot_o_2 P) (.node (boot_o_4 P) (.node (boot_o_8 P) .nil .nil) .nil) (.node (boot_o_6 P) (.node (boot_o_10 P) .nil .nil) .nil)))
noncomputable def Zla (w:World) (os:OsState):SharedT:=⟨ZqR w.params,11,(boot_heap w.params).life,#[],boot_drawn,boot_toks,os⟩
theorem Zh1 (w:World) (os:OsState):(Zla w os).abs=⟨boot_heap w.params,#[],boot_drawn,boot_toks,os⟩:=by kd_p
noncomputable def Zfz (p q:Program) (loose:Qq) (Xt:Shared→Bool) (w:World) (s:Shared):=
 (staticsOk (modsF p.main.body) (boot_heap w.params) s.heap&&namesBound p s.heap&&gensDone s&&laidKept (boot_heap w.params) s.heap,seenF q loose (modsF p.main.body) Xt true s)
theorem ZdK {p q:Program}{loose:Qq}{Xt:Shared→Bool}{α:Type}{Yf:Shared→α}{Ya:World→α}{M:Nat}{ann:Option Value}
 (e:opening p=plainProg p.main.scope.names) (hN:Nat.ble 600 N=true) (hM:Nat.ble M N=true) (f:∀s,fenceModules? p s=some s)
 (size:∀w:World,((boot_heap w.params).isNs mainGlobals,(boot_heap w.params).objs.size,(boot_heap w.params).nsMap mainGlobals "__annotations__")=(true,11,ann))
 (shot:∀(w:World) (os:OsState),(U8 p w 11 ann M (Zla w os) (topStub p)).map (fun s=>(Zfz p q loose Xt w s.abs,Yf s.abs))=some ((true,openGood q loose),Ya w)):LeftO p q loose Xt Yf Ya N true:=fun w=>by
 refine Ka fun zn0=>?_;refine Za (YW (boot_open e hN f w)) fun zo2 e1 e2=>?_;obtain ⟨h,gs,d,k,os⟩:=zo2;obtain ⟨rfl,rfl,rfl,rfl⟩:h=boot_heap w.params∧gs=#[]∧d=boot_drawn∧k=boot_toks:=by simpa using e2
 obtain ⟨z1,z2,z3⟩:_∧_∧_:=by simpa only [Prod.mk.injEq] using size w
 refine Za (YW (shot w os)) fun s r l=>?_;refine zn0 ?_;have r:=topRun_mono (N - M) _ _ _ _ (Zd1 r);rw [show M+(N - M)=N by have:=Rd hM;exact Nat.add_sub_of_le (by assumption),Zh1] at r;unfold Zfz at l;rw [←Zkw,←ZiR] at l;simp only [Prod.mk.injEq] at l;refine oza l fun zo3 l3=>?_;refine oza zo3 fun l1 l2=>?_;unfold openEnds topFrom;rw [e1];show Option.map _ (match (boot_heap w.params).isNs mainGlobals&&(#[]:Array GenState).size==0 with | true=>_ | false=>_)=_;rw [z1,z2,z3,r];show Option.map _ (match staticsOk (importedModules p.main.body) (boot_heap w.params) s.abs.heap&&namesBound p s.abs.heap&&gensDone s.abs&&laidKept (boot_heap w.params) s.abs.heap with | true=>some s.abs | false=>none)=_;rw [l1];show some (openSeen q loose (importedModules p.main.body) Xt true s.abs,Yf s.abs)=_;rw [l2,l3]
end
section
open PySem.W
noncomputable def fAt (p:Program) (i:Nat):Stmt:=match p.main.body[i]? with | some s=>s | none=>.Pass default
noncomputable def mAt (p:Program) (i j:Nat):Stmt:=match fAt p i with
 | .ClassDef _ _ _ b _ _ _ _ _ _ _=>(match b[j]? with | some s=>s | none=>.Pass default)
 | _=>.Pass default
noncomputable def ZpI:Arguments:=⟨[],[],none,[],[],none,[]⟩
noncomputable def ZhF:Stmt→Arguments | .FunctionDef _ a _ _ _ _ _ _ _ _=>a | _=>ZpI
noncomputable def ZgO:Stmt→List Stmt | .FunctionDef _ _ b _ _ _ _ _ _ _=>b | _=>[]
noncomputable def ZdI:Stmt→Scope | .FunctionDef _ _ _ _ _ _ s _ _ _=>s | _=>{kind:=.function,names:=[],isGenerator:=false,isCoroutine:=false,more:=[]}
noncomputable def vS (x:String) (t:Nat):Value:=.str (.ofString x) t
noncomputable def vI (i:Int):Value:=.int i 0
noncomputable def vR (a:Addr):Value:=.ref a
noncomputable def vN:Value:=.none
noncomputable def eK (P:Params) (x:String) (t:Nat) (v:Value):DictEntry:={hash:=PyData.keyHash P (.ofString x),key:=.str (.ofString x) t,val:=v}
noncomputable def oC (vs:Array Value):Obj:={cls:=.type "code",data:=.fields vs}
noncomputable def oD (es:Array DictEntry) (n:Nat):Obj:={cls:=.type "dict",data:=.dict es n}
noncomputable def oF (s:Stmt) (n q:String) (cl:Qm) (d:Value) (m:String) (t:Nat) (an:Option Addr) (c:Addr):Obj :=
 {cls:=.type "function",data:=.func {name:=.ofString n,qualname:=.ofString q,params:=ZhF s,body:=.stmts (ZgO s),scope:=ZdI s,globals:=3,closure:=cl,defaults:=d,kwdefaults:=.none,pyModule:=.str (.ofString m) t,annotations:=an,code:=.ref c}}
end
section
open PySem.W
noncomputable def vT:Value:=vS "tuf.api._payload" 194
noncomputable def oK (a b:String) (t l n r:Nat) (xs:Qo) (u:Nat):Obj:=oC (#[vS a t,vS b (t+1),vS "/claim/cut.py" (t+2),vI l,vI n,vI 0,vI 0,vI 3,vR r,Value.bool true,vI 181,vR (r+1),vN]++xs.toArray++#[vI u,vI l,vS "/claim/cut.py" (u+1)])
noncomputable def oG (s:Stmt) (n q:String) (d:Value) (an:Option Addr) (c:Addr):Obj:=oF s n q [] d "tuf.api._payload" 194 an c
noncomputable def oL (s:Stmt) (n:String) (c:Addr):Obj:=oF s n n [] vN "law_jk0046_01" 717 none c
noncomputable def K01 (p:Program) (P:Params):W.Frag:=[
 (2,{cls:=vN,data:=Data.dict #[]}),
 (3,oD #[eK P "__name__" 165 (vS "law_jk0046_01" 717),eK P "__doc__" 166 vN,eK P "__package__" 167 vN,eK P "__loader__" 168 (Value.builtin "__main__.__loader__#opaque"),eK P "__spec__" 169 vN,eK P "__annotations__" 170 (vR 6),eK P "__builtins__" 171 (vR 4),eK P "__file__" 173 (vS "/claim/cut.py" 172),eK P "__cached__" 174 vN,eK P "_wall" 193 (vR 21),eK P "Key" 282 (vR 70),eK P "TOP_LEVEL_ROLE_NAMES" 287 (vR 75),eK P "_fnmatch_chunks" 299 (vR 82),eK P "_fnmatch_class" 305 (vR 87),eK P "_fnmatchcase" 321 (vR 94),eK P "Role" 393 (vR 136),eK P "DelegatedRole" 510 (vR 201),eK P "_hex" 519 (vR 210),eK P "SuccinctRoles" 624 (vR 275),eK P "Delegations" 716 (vR 324),eK P "_law_hex" 720 (vS "0123456789abcdef" 719),eK P "_law_prefixes" 726 (vR 335),eK P "_law_signs" 732 (vR 340),eK P "_law_bin" 742 (vR 347),eK P "_law_width" 749 (vR 354),eK P "_law_beginnings" 755 (vR 359),eK P "_law_pairs" 761 (vR 364),eK P "_law_unlike" 774 (vR 371),eK P "law" 780 (vR 376)] 29),
 (29,{cls:=Value.type "tuple",data:=Data.seq #[vN]}),
 (35,oK "__init__" "Key.__init__" 208 7 6 30 [vR 32,vR 33,vR 34] 217),
 (36,oG (mAt p 2 0) "__init__" "Key.__init__" (vR 29) none 35),
 (42,oK "__eq__" "Key.__eq__" 220 16 2 37 [vR 39,vR 40,vR 41] 225),
 (43,oG (mAt p 2 1) "__eq__" "Key.__eq__" vN none 42),
 (49,oK "from_dict" "Key.from_dict" 228 21 3 44 [vR 46,vR 47,vR 48] 237),
 (50,oG (mAt p 2 2) "from_dict" "Key.from_dict" vN (some 53) 49),
 (51,oD #[eK P "__module__" 240 (vT),eK P "__name__" 243 (vS "from_dict" 242),eK P "__qualname__" 246 (vS "Key.from_dict" 245),eK P "__doc__" 248 vN,eK P "__annotations__" 250 (vR 53)] 5),
 (52,{cls:=Value.type "classmethod",dict:=some 51,data:=Data.fields #[vR 50,Value.bool false]}),
 (59,oK "to_dict" "Key.to_dict" 252 28 1 54 [vR 56,vR 57,vR 58] 257),
 (60,oG (mAt p 2 3) "to_dict" "Key.to_dict" vN none 59),
 (69,oD #[eK P "__module__" 203 (vT),eK P "__firstlineno__" 207 (Value.int 5 206),eK P "__init__" 219 (vR 36),eK P "__eq__" 227 (vR 43),eK P "from_dict" 251 (vR 52),eK P "to_dict" 259 (vR 60),eK P "verify_signature" 268 (vR 67),eK P "__static_attributes__" 274 (vR 68),eK P "__dict__" 276 (vR 71),eK P "__weakref__" 278 (vR 72),eK P "__doc__" 279 vN,eK P "__hash__" 280 vN] 5),
 (70,{cls:=Value.type "type",data:=Data.cls {name:=Str.ofString "Key",bases:=[Value.type "object"],mro:=[vR 70,Value.type "object"],ns:=69,qualname:=Str.ofString "Key"},slots:=#[none,none,some (vS "Key" 196),some (vS "Key" 204),some (Value.builtin "object.__new__"),some (Value.bool true)]}),
 (75,{cls:=Value.type "tuple",data:=Data.seq #[vS "root" 283,vS "timestamp" 284,vS "snapshot" 285,vS "targets" 286]}),
 (102,{cls:=Value.type "tuple",data:=Data.seq #[vN]}),
 (108,oK "__init__" "Role.__init__" 334 120 4 103 [vR 105,vR 106,vR 107] 341),
 (109,oG (mAt p 7 0) "__init__" "Role.__init__" (vR 102) none 108),
 (115,oK "__eq__" "Role.__eq__" 344 131 2 110 [vR 112,vR 113,vR 114] 349),
 (116,oG (mAt p 7 1) "__eq__" "Role.__eq__" vN none 115),
 (132,oK "to_dict" "Role.to_dict" 374 142 1 127 [vR 129,vR 130,vR 131] 379),
 (133,oG (mAt p 7 3) "to_dict" "Role.to_dict" vN none 132),
 (135,oD #[eK P "__module__" 329 (vT),eK P "__firstlineno__" 333 (Value.int 118 332),eK P "__init__" 343 (vR 109),eK P "__eq__" 351 (vR 116),eK P "from_dict" 373 (vR 125),eK P "to_dict" 381 (vR 133),eK P "__static_attributes__" 385 (vR 134),eK P "__dict__" 387 (vR 137),eK P "__weakref__" 389 (vR 138),eK P "__doc__" 390 vN,eK P "__hash__" 391 vN] 5),
 (136,{cls:=Value.type "type",data:=Data.cls {name:=Str.ofString "Role",bases:=[Value.type "object"],mro:=[vR 136,Value.type "object"],ns:=135,qualname:=Str.ofString "Role",subclasses:=[vR 201,vR 275]},slots:=#[none,none,some (vS "Role" 322),some (vS "Role" 330),some (Value.builtin "object.__new__"),some (Value.bool true)]}),
 (144,{cls:=Value.type "cell",data:=Data.cell (some (vR 201))}),
 (149,{cls:=Value.type "tuple",data:=Data.seq #[vN,vN,vN]}),
 (156,oK "__init__" "DelegatedRole.__init__" 406 148 8 151 [vR 153,vR 154,vR 155] 419),
 (157,{cls:=Value.type "function",data:=Data.func {name:=Str.ofString "__init__",qualname:=Str.ofString "DelegatedRole.__init__",params:=ZhF (mAt p 8 0),body:=FuncBody.stmts (ZgO (mAt p 8 0)),scope:=ZdI (mAt p 8 0),globals:=3,closure:=[(Str.ofString "__class__",144)],defaults:=vR 149,kwdefaults:=vN,pyModule:=vT,code:=vR 156,closureTuple:=vR 150}}),
 (163,oK "__eq__" "DelegatedRole.__eq__" 422 162 2 158 [vR 160,vR 161,vR 162] 427),
 (164,oG (mAt p 8 1) "__eq__" "DelegatedRole.__eq__" vN none 163),
 (170,oK "from_dict" "DelegatedRole.from_dict" 430 167 2 165 [vR 167,vR 168,vR 169] 441),
 (171,oG (mAt p 8 2) "from_dict" "DelegatedRole.from_dict" vN (some 174) 170),
 (172,oD #[eK P "__module__" 444 (vT),eK P "__name__" 447 (vS "from_dict" 446),eK P "__qualname__" 450 (vS "DelegatedRole.from_dict" 449),eK P "__doc__" 452 vN,eK P "__annotations__" 454 (vR 174)] 5),
 (173,{cls:=Value.type "classmethod",dict:=some 172,data:=Data.fields #[vR 171,Value.bool false]}),
 (180,oK "to_dict" "DelegatedRole.to_dict" 456 177 1 175 [vR 177,vR 178,vR 179] 462),
 (181,oG (mAt p 8 3) "to_dict" "DelegatedRole.to_dict" vN none 180),
 (197,oK "is_delegated_path" "DelegatedRole.is_delegated_path" 489 198 3 192 [vR 194,vR 195,vR 196] 498),
 (198,oG (mAt p 8 5) "is_delegated_path" "DelegatedRole.is_delegated_path" vN none 197),
 (200,oD #[eK P "__module__" 401 (vT),eK P "__firstlineno__" 405 (Value.int 146 404),eK P "__init__" 421 (vR 157),eK P "__eq__" 429 (vR 164),eK P "from_dict" 455 (vR 173),eK P "to_dict" 464 (vR 181),eK P "_is_target_in_pathpattern" 488 (vR 190),eK P "is_delegated_path" 500 (vR 198),eK P "__static_attributes__" 505 (vR 199),eK P "__doc__" 507 vN,eK P "__hash__" 508 vN] 4),
 (201,{cls:=Value.type "type",data:=Data.cls {name:=Str.ofString "DelegatedRole",bases:=[vR 136],mro:=[vR 201,vR 136,Value.type "object"],ns:=200,qualname:=Str.ofString "DelegatedRole"},slots:=#[some (vR 141),none,some (vS "DelegatedRole" 394),some (vS "DelegatedRole" 402),some (Value.builtin "object.__new__"),some (Value.bool true)]}),
 (209,oK "_hex" "_hex" 511 209 2 204 [vR 206,vR 207,vR 208] 517),
 (210,oG (fAt p 9) "_hex" "_hex" vN none 209),
 (214,{cls:=Value.type "cell",data:=Data.cell (some (vR 275))}),
 (219,{cls:=Value.type "tuple",data:=Data.seq #[vN]}),
 (226,oK "__init__" "SuccinctRoles.__init__" 532 217 6 221 [vR 223,vR 224,vR 225] 542),
 (227,{cls:=Value.type "function",data:=Data.func {name:=Str.ofString "__init__",qualname:=Str.ofString "SuccinctRoles.__init__",params:=ZhF (mAt p 10 0),body:=FuncBody.stmts (ZgO (mAt p 10 0)),scope:=ZdI (mAt p 10 0),globals:=3,closure:=[(Str.ofString "__class__",214)],defaults:=vR 219,kwdefaults:=vN,pyModule:=vT,code:=vR 226,closureTuple:=vR 220}}),
 (233,oK "__eq__" "SuccinctRoles.__eq__" 545 228 2 228 [vR 230,vR 231,vR 232] 550),
 (234,oG (mAt p 10 1) "__eq__" "SuccinctRoles.__eq__" vN none 233),
 (240,oK "from_dict" "SuccinctRoles.from_dict" 553 233 2 235 [vR 237,vR 238,vR 239] 562),
 (241,oG (mAt p 10 2) "from_dict" "SuccinctRoles.from_dict" vN (some 244) 240),
 (242,oD #[eK P "__module__" 565 (vT),eK P "__name__" 568 (vS "from_dict" 567),eK P "__qualname__" 571 (vS "SuccinctRoles.from_dict" 570),eK P "__doc__" 573 vN,eK P "__annotations__" 575 (vR 244)] 5),
 (243,{cls:=Value.type "classmethod",dict:=some 242,data:=Data.fields #[vR 241,Value.bool false]}),
 (250,oK "to_dict" "SuccinctRoles.to_dict" 577 241 1 245 [vR 247,vR 248,vR 249] 582),
 (251,oG (mAt p 10 3) "to_dict" "SuccinctRoles.to_dict" vN none 250),
 (257,oK "get_role_for_target" "SuccinctRoles.get_role_for_target" 585 246 3 252 [vR 254,vR 255,vR 256] 595),
 (258,oG (mAt p 10 4) "get_role_for_target" "SuccinctRoles.get_role_for_target" vN none 257),
 (264,oC #[vS "get_roles" 598,vS "SuccinctRoles.get_roles" 599,vS "/claim/cut.py" 600,vI 253,vI 1,vI 0,vI 0,vI 35,vR 259,Value.bool true,vI 181,vR 260,vN,vR 261,vR 262,vR 263,vI 604,vI 253,vS "/claim/cut.py" 605]),
 (265,oG (mAt p 10 5) "get_roles" "SuccinctRoles.get_roles" vN none 264),
 (274,oD #[eK P "__module__" 527 (vT),eK P "__firstlineno__" 531 (Value.int 215 530),eK P "__init__" 544 (vR 227),eK P "__eq__" 552 (vR 234),eK P "from_dict" 576 (vR 243),eK P "to_dict" 584 (vR 251),eK P "get_role_for_target" 597 (vR 258),eK P "get_roles" 606 (vR 265),eK P "is_delegated_role" 614 (vR 272),eK P "__static_attributes__" 619 (vR 273),eK P "__doc__" 621 vN,eK P "__hash__" 622 vN] 4),
 (275,{cls:=Value.type "type",data:=Data.cls {name:=Str.ofString "SuccinctRoles",bases:=[vR 136],mro:=[vR 275,vR 136,Value.type "object"],ns:=274,qualname:=Str.ofString "SuccinctRoles"},slots:=#[some (vR 211),none,some (vS "SuccinctRoles" 520),some (vS "SuccinctRoles" 528),some (Value.builtin "object.__new__"),some (Value.bool true)]}),
 (285,{cls:=Value.type "tuple",data:=Data.seq #[vN,vN,vN]}),
 (291,oK "__init__" "Delegations.__init__" 637 262 5 286 [vR 288,vR 289,vR 290] 646),
 (292,oG (mAt p 11 0) "__init__" "Delegations.__init__" (vR 285) none 291),
 (298,oK "__eq__" "Delegations.__eq__" 649 276 2 293 [vR 295,vR 296,vR 297] 655),
 (299,oG (mAt p 11 1) "__eq__" "Delegations.__eq__" vN none 298),
 (305,oK "from_dict" "Delegations.from_dict" 658 284 2 300 [vR 302,vR 303,vR 304] 673),
 (306,oG (mAt p 11 2) "from_dict" "Delegations.from_dict" vN (some 309) 305),
 (307,oD #[eK P "__module__" 676 (vT),eK P "__name__" 679 (vS "from_dict" 678),eK P "__qualname__" 682 (vS "Delegations.from_dict" 681),eK P "__doc__" 684 vN,eK P "__annotations__" 686 (vR 309)] 5),
 (308,{cls:=Value.type "classmethod",dict:=some 307,data:=Data.fields #[vR 306,Value.bool false]}),
 (313,oK "to_dict" "Delegations.to_dict" 688 305 1 310 [vN,vN,vR 312] 691),
 (314,oG (mAt p 11 3) "to_dict" "Delegations.to_dict" vN none 313),
 (320,oC #[vS "get_roles_for_target" 694,vS "Delegations.get_roles_for_target" 695,vS "/claim/cut.py" 696,vI 316,vI 3,vI 0,vI 0,vI 35,vR 315,Value.bool true,vI 181,vR 316,vN,vR 317,vR 318,vR 319,vI 701,vI 316,vS "/claim/cut.py" 702]),
 (321,oG (mAt p 11 4) "get_roles_for_target" "Delegations.get_roles_for_target" vN none 320),
 (323,oD #[eK P "__module__" 632 (vT),eK P "__firstlineno__" 636 (Value.int 260 635),eK P "__init__" 648 (vR 292),eK P "__eq__" 657 (vR 299),eK P "from_dict" 687 (vR 308),eK P "to_dict" 693 (vR 314),eK P "get_roles_for_target" 703 (vR 321),eK P "__static_attributes__" 708 (vR 322),eK P "__dict__" 710 (vR 325),eK P "__weakref__" 712 (vR 326),eK P "__doc__" 713 vN,eK P "__hash__" 714 vN] 5),
 (324,{cls:=Value.type "type",data:=Data.cls {name:=Str.ofString "Delegations",bases:=[Value.type "object"],mro:=[vR 324,Value.type "object"],ns:=323,qualname:=Str.ofString "Delegations"},slots:=#[none,none,some (vS "Delegations" 625),some (vS "Delegations" 633),some (Value.builtin "object.__new__"),some (Value.bool true)]}),
 (334,oK "_law_prefixes" "_law_prefixes" 721 325 0 329 [vR 331,vR 332,vR 333] 724),
 (335,oL (fAt p 14) "_law_prefixes" 334),
 (339,oK "_law_signs" "_law_signs" 727 327 2 336 [vN,vN,vR 338] 730),
 (340,oL (fAt p 15) "_law_signs" 339),
 (346,oK "_law_bin" "_law_bin" 733 329 2 341 [vR 343,vR 344,vR 345] 740),
 (347,oL (fAt p 16) "_law_bin" 346),
 (353,oK "_law_width" "_law_width" 743 334 1 348 [vR 350,vR 351,vR 352] 747),
 (354,oL (fAt p 17) "_law_width" 353),
 (358,oK "_law_beginnings" "_law_beginnings" 750 336 2 355 [vN,vN,vR 357] 753),
 (359,oL (fAt p 18) "_law_beginnings" 358),
 (363,oK "_law_pairs" "_law_pairs" 756 339 3 360 [vN,vN,vR 362] 759),
 (364,oL (fAt p 19) "_law_pairs" 363),
 (370,oK "_law_unlike" "_law_unlike" 762 341 6 365 [vR 367,vR 368,vR 369] 772),
 (371,oL (fAt p 20) "_law_unlike" 370),
 (375,oK "law" "law" 775 344 1 372 [vN,vN,vR 374] 778),
 (376,oL (fAt p 21) "law" 375)
]
noncomputable abbrev pw1:Program:=PySem.Challenge.pw_jk0046_01
noncomputable abbrev kk1:Params→W.Frag:=K01 pw1
end
section
open PySem.W
noncomputable def WJ:Program:={pw1 with main:={pw1.main with body:=[fAt pw1 21]}}
noncomputable def ZaD:Qq:=["_wall","Key","TOP_LEVEL_ROLE_NAMES","_fnmatch_chunks","_fnmatch_class","_fnmatchcase","Role","DelegatedRole","_hex","SuccinctRoles","Delegations","_law_hex","_law_prefixes","_law_signs","_law_bin","_law_width","_law_beginnings","_law_pairs","_law_unlike","__name__"]
noncomputable def X01:W.Frag:=[(4,{cls:=.type "module",dict:=some 0}),(152,{cls:=.none,data:=.fields #[]}),(287,{cls:=.none,data:=.fields #[]}),(373,{cls:=.none,data:=.fields #[]})]
noncomputable def kx1 (P:Params):W.Frag:=K01 pw1 P++X01
noncomputable def ZnM:Qp:=[2,3,29,35,36,42,43,49,50,51,52,59,60,69,70,75,102,108,109,115,116,132,133,135,136,144,149,156,157,163,164,170,171,172,173,180,181,197,198,200,201,209,210,214,219,226,227,233,234,240,241,242,243,250,251,257,258,264,265,274,275,285,291,292,298,299,305,306,307,308,313,314,320,321,323,324,334,335,339,340,346,347,353,354,358,359,363,364,370,371,375,376,4,152,287,373]
set_option maxHeartbeats 0
theorem Zqa:∀(w:World) (os:OsState),(U8 pw1 w 11 (some (.ref 6)) 3400 (Zla w os) (topStub pw1)).map (fun s=>(Zfz pw1 WJ ZaD (fun s=>xlAt WJ [] s&&recOk [] s) w s.abs,ZnM.map s.abs.heap.get?))=some ((true,openGood WJ ZaD),(kx1 w.params).map fun p=>some p.2):=by
 intro w os;kd_p
end
section
open PySem.W
set_option maxHeartbeats 0
noncomputable abbrev UX:Hook:=kHook kx1 ZnM (fun j=>by kd_p)
theorem ZqH:LeftO pw1 WJ ZaD (fun s=>xlAt WJ [] s&&recOk [] s) UX.obs UX.val 7000 true :=
 ZdK (M:=3400) (ann:=some (.ref 6)) (by kd_p) (by decide) (by decide) (fun s=>by kd_p) (fun w=>by kd_p) Zqa
noncomputable def Zn3:DefRec:=⟨"law",ZhF (fAt pw1 21),ZgO (fAt pw1 21),ZdI (fAt pw1 21),match fAt pw1 21 with | .FunctionDef _ _ _ _ _ _ _ _ _ p=>p | _=>default⟩
abbrev row1:=PySem.Challenge.rw_jk0046_01
theorem Zrz:row1.wellSaid=true:=by kd_p
theorem Zro (walk:WalkO WJ ZaD (XL WJ []) UX.says row1.row.toRowW Zn3 [] fun f vs=>PySem.call f vs):row1.Holds:=by
 refine holds_law Zrz fun said=>?_;refine holds_open (q:=WJ) (loose:=ZaD) (Xt:=fun s=>xlAt WJ [] s&&recOk [] s) (XP:=XL WJ []) (Yf:=UX.obs) (Ya:=UX.val) (YP:=UX.says) (N:=7000) ZqH UX.of UX.keeps (fun s e=>xl_of s (Bool.and_eq_true_iff.mp e).1) XL.keeps (by kd_p) (by kd_p) (by kd_p) (fun s e=>recFacts_of (Bool.and_eq_true_iff.mp e).2) (by rfl) said (by kd_p) ⟨rfl,rfl,rfl,rfl,rfl,by decide +kernel⟩ ?_ walk
 w_witness2
end
section
noncomputable abbrev EQ (c:Cx) (F:Fz) (vs:Qo) (Q:Qf):Qj:=fun v s'=>Got c F (v::vs) Q s'
noncomputable abbrev NoE:Qj:=fun j j=>False
def EJ (c:Cx) (e:Expr) (st:St) (Q:Qf):Prop :=
 ∀F vs s,RS c F st vs s→wpAny (model c.p c.w) c.A (eval e c.env) (EQ c F vs Q) NoE s
def OJ1 (c:Cx) (f:Value→Sem Value) (st:St) (Q:Qf):Prop :=
 ∀F v vs s,RS c F st (v::vs) s→wpAny (model c.p c.w) c.A (f v) (EQ c F vs Q) NoE s
def OJ2 (c:Cx) (f:Value→Value→Sem Value) (st:St) (Q:Qf):Prop :=
 ∀F a b vs s,RS c F st (b::a::vs) s→wpAny (model c.p c.w) c.A (f a b) (EQ c F vs Q) NoE s
def BJ (c:Cx) (st:St) (Q:Bool→St→Prop):Prop :=
 ∀F v vs s,RS c F st (v::vs) s→wpAny (model c.p c.w) c.A (truthy v) (fun b s'=>Got c F vs (Q b) s') NoE s
def TJ (c:Cx) (e:Expr) (st:St) (Q:Bool→St→Prop):Prop :=
 ∀F vs s,RS c F st vs s→wpAny (model c.p c.w) c.A (isTrue e c.env (eval e c.env)) (fun b s'=>Got c F vs (Q b) s') NoE s
def AJ (c:Cx) (op:BoolOp) (es:Qs) (st:St) (Q:Bool→St→Prop):Prop :=
 ∀F vs s,RS c F st vs s→wpAny (model c.p c.w) c.A (allTrue op es c.env) (fun b s'=>Got c F vs (Q b) s') NoE s
def NJ (c:Cx) (x:Str) (st:St) (Q:Qf):Prop :=
 ∀F v vs s,RS c F st (v::vs) s→wpAny (model c.p c.w) c.A (storeName c.env x v) (fun j s'=>Got c F vs Q s') NoE s
inductive Fl where | next | brk | cont | ret
noncomputable abbrev lpQ (I:Qf) (QF:Fl→St→Prop) (fl:Fl) (st2:St):Prop:=match fl with
 | .next=>I st2
 | .cont=>I st2
 | .brk=>QF .next st2
 | .ret=>QF .ret st2
noncomputable abbrev FQ (c:Cx) (F:Fz) (vs:Qo) (Q:Fl→St→Prop):Flow→Shared→Prop:=fun f s'=>match f with
 | .next=>Got c F vs (Q .next) s'
 | .brk=>Got c F vs (Q .brk) s'
 | .cont=>Got c F vs (Q .cont) s'
 | .ret v=>Got c F (v::vs) (Q .ret) s'
def SJ (c:Cx) (t:Stmt) (st:St) (Q:Fl→St→Prop):Prop :=
 ∀F vs s,RS c F st vs s→wpAny (model c.p c.w) c.A (exec t c.env) (FQ c F vs Q) NoE s
def XJ (c:Cx) (ts:Qr) (st:St) (Q:Fl→St→Prop):Prop :=
 ∀F vs s,RS c F st vs s→wpAny (model c.p c.w) c.A (execs ts c.env) (FQ c F vs Q) NoE s
noncomputable abbrev Zsu (c:Cx) (ts:Qr) (QF:Fl→St→Prop) (f:Fl) (st1:St):Prop:=match f with
 | .next=>XJ c ts st1 QF
 | .brk=>QF .brk st1
 | .cont=>QF .cont st1
 | .ret=>QF .ret st1
section
variable {p:Program}{w:World}
theorem YS {i:Int}{t:Tok}:AR p w g ρ (.d (.int i)) (.int i t):=⟨t,rfl⟩
theorem Xb {i:Str}{t:Tok}:AR p w g ρ (.d (.str i)) (.str i t):=⟨t,rfl⟩
theorem Zjz {i}{t:Tok}:AR p w g ρ (.d (.bytes i)) (.bytes i t):=⟨t,rfl⟩
theorem Y3 {b:Bool}:AR p w g ρ (.d (.bool b)) (.bool b):=rfl
theorem Zbr:AR p w g ρ (.d .none) .none:=rfl
theorem XY:AR p w g ρ (.d (.val v)) v:=rfl
theorem Zh (h:AR p w g ρ a v) (r:ARs p w g ρ k vs):ARs p w g ρ (a::k) (v::vs):=⟨v,vs,rfl,h,r⟩
theorem Zb (h:ARs p w g ρ (a::k) (v::vs)):ARs p w g ρ k vs:=by refine Zc h fun j j e j r=>?_;cases e;exact r
theorem Zd (h:ARs p w g ρ (a::k) (v::vs)):AR p w g ρ a v:=by refine Zc h fun j j e r j=>?_;injection e with zi;subst zi;exact r
end
section
variable {l:Qc}{QF:Fl→St→Prop}
theorem EJ.mono {e:Expr}{Q':Qf}(h:EJ c e st Q) (q:∀st,Q st→Q' st):EJ c e st Q':=fun F vs s R =>
 wpm (h F vs s R) (fun j j zq0=>by refine ozg zq0 fun st' R' h'=>?_;exact ⟨st',R',q _ h'⟩)
theorem TJ.mono {e}{Q':Bool→St→Prop}(h:TJ c e st QB) (q:∀b st,QB b st→Q' b st):TJ c e st Q':=fun F vs s R =>
 wpm (h F vs s R) (fun j j zq3=>by refine ozg zq3 fun st' R' h'=>?_;exact ⟨st',R',q _ _ h'⟩)
theorem FQ.mono {Q':Fl→St→Prop}(q:∀f st,QF f st→Q' f st):∀f s,FQ c F vs QF f s→FQ c F vs Q' f s:=fun f j h=>by
 induction f <;> (refine ozg h fun st' R x=>?_;exact ⟨st',R,q _ _ x⟩)
theorem XJ.mono {ts}{Q':Fl→St→Prop}(h:XJ c ts st QF) (q:∀f st,QF f st→Q' f st):XJ c ts st Q':=fun F vs s R =>
 wpm (h F vs s R) (FQ.mono q)
theorem SJ.mono {t}{Q':Fl→St→Prop}(h:SJ c t st QF) (q:∀f st,QF f st→Q' f st):SJ c t st Q':=fun F vs s R =>
 wpm (h F vs s R) (FQ.mono q)
theorem RS.same {s:Shared}(R:RS c F st vs s) (t:Nat):RS c F st vs {s with toks:=t}:=by refine ozr R fun g ρ m W=>?_;exact ⟨g,ρ,m,W.tok t⟩
theorem ZaZ {i:Int}{n pos}(h:Q ⟨l,o,.d (.int i)::k⟩):EJ c (.Constant (.int i) n pos) ⟨l,o,k⟩ Q:=fun j j j zw=>ozr zw fun g ρ m W =>
 wpAny_Constant_int ⟨_,⟨g,ρ,m,(W.tok _).push YS⟩,h⟩
theorem Zaj {n pos}(h:Q ⟨l,o,.d .none::k⟩):EJ c (.Constant .none n pos) ⟨l,o,k⟩ Q:=fun j j j zw=>ozr zw fun g ρ m W =>
 wpAny_Constant_none ⟨_,⟨g,ρ,m,W.push Zbr⟩,h⟩
theorem Zkm {b:Bool}{n pos}(h:Q ⟨l,o,.d (.bool b)::k⟩):EJ c (.Constant (.bool b) n pos) ⟨l,o,k⟩ Q:=fun j j j zw=>ozr zw fun g ρ m W =>
 wpAny_Constant_bool ⟨_,⟨g,ρ,m,W.push Y3⟩,h⟩
theorem UD {n pos}(h:Q ⟨l,o,.d (.str x)::k⟩):EJ c (.Constant (.str x) n pos) ⟨l,o,k⟩ Q:=fun j j j zw=>ozr zw fun g ρ m W =>
 wpAny_Constant_str ⟨_,⟨g,ρ,m,(W.tok _).push Xb⟩,h⟩
def IsL (c:Cx) (x:Str) (i:Nat):Prop:=c.env.kindOf x=some .local∧c.tab[i]?=some x∧(x==("__debug__":Str))=false
def IsC (c:Cx) (x:Str) (i:Nat):Prop:=(c.env.kindOf x=some .cell∨c.env.kindOf x=some .free)∧(x,i)∈c.cel∧(x==("__debug__":Str))=false∧(x==("__classdict__":Str))=false
theorem Zgp {s:Shared}(R:RS c F st vs s) (hl:IsL c x i) (ha:Zs i st.loc=some a) (h:Q ⟨st.loc,st.own,a::st.stk⟩):
 wpAny (model c.p c.w) c.A (loadName c.env x) (EQ c F vs Q) NoE s:=by
 refine Ka fun zn0=>?_;refine ozr R fun g ρ m W=>?_;refine Zc (W.loc i a ha) fun y v e0 e r=>?_;refine Yz hl fun hl hi j=>?_;refine zn0 ?_;rw [hi] at e0;obtain rfl:=Kc e0;exact wpAny_loadName_local c.hk hl W.ns e ⟨_,⟨g,ρ,m,W.push r⟩,h⟩
theorem Zij {s:Shared}(R:RS c F st vs s) (hl:IsC c x i) (ha:st.own[i]?=some (.cell (some a)))
 (h:Q ⟨st.loc,st.own,a::st.stk⟩):wpAny (model c.p c.w) c.A (loadName c.env x) (EQ c F vs Q) NoE s:=by
 refine Ka fun zn1=>?_;refine ozr R fun g ρ m W=>?_;refine UT hl fun hl hi j hn=>?_;refine Za (W.cel x i hi) fun b e1 e2=>?_;obtain ⟨v,ob,e3,e4,u,e5,r⟩:=W.own i _ b ha e1;refine zn1 ?_;subst e5;rcases hl with hl | hl
 ·exact wpAny_loadName_cell c.hk hl e2 ⟨ob,e3,e4⟩ ⟨_,⟨g,ρ,m,W.push r⟩,h⟩
 ·exact wpAny_loadName_free c.hk hl e2 ⟨ob,e3,e4⟩ ⟨_,⟨g,ρ,m,W.push r⟩,h⟩ hn
theorem Ze {pos}(hl:IsL c x i) (ha:Zs i l=some a) (h:Q ⟨l,o,a::k⟩):EJ c (.Name x pos) ⟨l,o,k⟩ Q :=
 fun j j j R=>wpAny_Name (Zgp R hl ha h) hl.2.2
theorem ZaG {pos}(hl:IsC c x i) (ha:o[i]?=some (.cell (some a))) (h:Q ⟨l,o,a::k⟩):EJ c (.Name x pos) ⟨l,o,k⟩ Q :=
 fun j j j R=>wpAny_Name (Zij R hl ha h) hl.2.2.1
def Xh (G:Gx) (x:Str) (v:Value):Prop:=∀g,G.lib.B g→∃mg,g.Ns mainGlobals mg∧mg x=some v
def Xa (G:Gx) (x:Str) (v:Value):Prop:=∀g,G.lib.B g→(∃mg,g.Ns mainGlobals mg∧mg x=none)∧∃mb,g.Ns builtinsNs mb∧mb x=some v
def IsG (c:Cx) (x:Str) (v:Value):Prop:=c.env.kindOf x=some .globalImplicit∧(x==("__debug__":Str))=false∧(Xh c.G x v∨Xa c.G x v)
theorem ZQ {pos}(hg:IsG c x v) (h:Q ⟨l,o,.d (.val v)::k⟩):EJ c (.Name x pos) ⟨l,o,k⟩ Q :=
 fun j j j zq10=>by
  refine ozr zq10 fun g ρ m W=>?_;obtain ⟨hl,hd,hv | hv⟩:=hg
  ·refine Za (hv g W.base) fun mg h1 h2=>?_;exact Name_function_global c.hk hl (loadGlobal_global (by rw [c.hg];exact h1.keeps W.keep) h2 ⟨_,⟨g,ρ,m,W.push XY⟩,h⟩) hd
  ·refine YK (hv g W.base) fun zo2 mb h3 h4=>?_;refine Za zo2 fun mg h1 h2=>?_;exact Name_function_global c.hk hl (loadGlobal_builtin (by rw [c.hg];exact h1.keeps W.keep) h2 (by rw [c.hb];exact h3.keeps W.keep) h4 ⟨_,⟨g,ρ,m,W.push XY⟩,h⟩) hd
theorem ZK (hl:IsL c x i) (h:Q ⟨(i,a)::l,o,k⟩):NJ c x ⟨l,o,a::k⟩ Q:=fun j j j j zq11=>by
 refine Ka fun zn5=>?_;refine ozr zq11 fun g ρ m W=>?_;refine Zc W.stk fun v r e h1 h2=>?_;refine zn5 ?_;cases e;refine wpAny_storeName_local hl.1 W.ns (fun h' hn hs=>⟨_,⟨g,ρ,_,((W.stack h2).setLocal hl.2.1 h1 hn hs)⟩,h⟩) ?_;rw [c.hk];rfl
theorem Zkl {b:Option A}(hl:c.env.kindOf x=some .cell) (hc:IsC c x i) (ho:o[i]?=some (.cell b)) (h:Q ⟨l,o.set i (.cell (some a)),k⟩):NJ c x ⟨l,o,a::k⟩ Q:=fun j j j j zq12=>by
 refine Ka fun zn6=>?_;refine ozr zq12 fun g ρ m W=>?_;refine Zc W.stk fun v r e h1 h2=>?_;refine zn6 ?_;cases e;refine Ka fun zn7=>?_;refine Za (W.cel x i hc.2.1) fun ad e1 e2=>?_;refine Zc (W.own i _ ad ho e1) fun u ob e3 e4 j=>?_;refine zn7 ?_;refine wpAny_storeName_cell c.hk hl e2 ⟨ob,e3,e4⟩ fun h' hv hs=>⟨_,⟨g,ρ,m,((W.stack h2).setOwn (t:=_) (ZB ho).1 e1 (fun b o hb e=>(hs.2 b hb).trans e) ?_)⟩,h⟩;refine Za hv fun o' e5 e6=>?_;exact ⟨_,o',e5,e6,_,rfl,h1⟩
theorem Wx {l' r op pos}(h:EJ c l' st fun st1=>EJ c r st1 fun st2=>OJ2 c (binaryOp op) st2 Q):EJ c (.BinOp l' op r pos) st Q:=fun F vs s R =>
 wpAny_BinOp (wpm (h F vs s R) (fun a j zq13=>by obtain ⟨j,R1,h1⟩:=zq13;exact Kb (h1 F (a::vs) _ R1) (fun b j zq14=>by refine ozg zq14 fun j R2 h2=>?_;exact h2 F a b vs _ R2) fun j j x=>x))
theorem ZrT {l' r op pos}(h:EJ c l' st fun st1=>EJ c r st1 fun st2=>OJ2 c (compareOp op) st2 Q) (hm:behindInMarks op r=false:=by kd_p1):EJ c (.Compare l' [op] [r] pos) st Q:=fun F vs s R =>
 wpAny_Compare1 (wpm (h F vs s R) (fun a j zq15=>by obtain ⟨j,R1,h1⟩:=zq15;exact Kb (h1 F (a::vs) _ R1) (fun b j zq16=>by refine ozg zq16 fun j R2 h2=>?_;exact h2 F a b vs _ R2) fun j j x=>x)) hm
theorem Zmh {x op pos}(h:EJ c x st fun st1=>OJ1 c (unaryOp op) st1 Q):EJ c (.UnaryOp op x pos) st Q:=fun F vs s R =>
 wpAny_UnaryOp (wpm (h F vs s R) (fun a j zq17=>by refine ozg zq17 fun j R1 h1=>?_;exact h1 F a vs _ R1))
theorem ZgI {t b e pos}(h:TJ c t st fun z st1=>(z=true→EJ c b st1 Q)∧(z=false→EJ c e st1 Q)):EJ c (.IfExp t b e pos) st Q:=fun F vs s R =>
 wpAny_IfExp (wpm (h F vs s R) (fun z j zq18=>by obtain ⟨j,R1,h1⟩:=zq18;induction z using Bool.casesOn;exact h1.2 rfl F vs _ R1;exact h1.1 rfl F vs _ R1))
def KJ (c:Cx) (st:St) (Q:Bool→St→Prop):Prop :=
 ∀F v vs s,RS c F st (v::vs) s→wpAny (model c.p c.w) c.A (truthy v) (fun b s'=>Got c F (v::vs) (Q b) s') NoE s
def VJ (c:Cx) (pos:Pos) (op:BoolOp) (es:Qs) (st:St) (Q:Qf):Prop :=
 ∀F vs s,RS c F st vs s→wpAny (model c.p c.w) c.A (boolOp pos op (evalEach es c.env)) (EQ c F vs Q) NoE s
theorem Zlk {op es pos}(h:VJ c pos op es st Q):EJ c (.BoolOp op es pos) st Q:=fun F vs s R=>h F vs s R
theorem Zop {op e pos}(h:EJ c e st Q):VJ c pos op [e] st Q:=fun F vs s R=>h F vs s R
noncomputable def pop1:St→St | ⟨l,o,k⟩=>⟨l,o,k.tail⟩
theorem RS.pop1 {s:Shared}(R:RS c F st (v::vs) s):RS c F (pop1 st) vs s:=by
 refine ozr R fun g ρ m W=>?_;obtain ⟨l,o,k⟩:=st;induction k using LLc with
 | nil=>have:=W.stk;exact ZjU this
 | cons a k=>exact ⟨g,ρ,m,W.stack (Zb W.stk)⟩
theorem Zq0 {e e' es pos}(h:EJ c e st fun st1=>KJ c st1 fun z st2=>(z=true→VJ c pos .And (e'::es) (pop1 st2) Q)∧(z=false→Q st2)):VJ c pos .And (e::e'::es) st Q:=fun F vs s R=>by
 refine Kd (wpm (h F vs s R) (fun v s1 zw=>ozg zw fun st1 R1 h1=>Kd (Rq (Kd (Rs (Kb (h1 F v vs s1 R1) (fun z s2 zq21=>?_) fun j j x=>x))))));refine ozg zq21 fun st2 R2 h2=>?_;induction z with
 | false=>exact Ki ⟨st2,R2,h2.2 rfl⟩
 | true=>exact h2.1 rfl F vs s2 R2.pop1
theorem Zsv {e e' es pos}(h:EJ c e st fun st1=>KJ c st1 fun z st2=>(z=false→VJ c pos .Or (e'::es) (pop1 st2) Q)∧(z=true→Q st2)):VJ c pos .Or (e::e'::es) st Q:=fun F vs s R=>by
 refine Kd (wpm (h F vs s R) (fun v s1 zw=>ozg zw fun st1 R1 h1=>Kd (Rq (Kd (Rs (Kb (h1 F v vs s1 R1) (fun z s2 zq23=>?_) fun j j x=>x))))));obtain ⟨st2,R2,h2⟩:=zq23;induction z with
 | true=>exact Ki ⟨st2,R2,h2.2 rfl⟩
 | false=>exact h2.1 rfl F vs s2 R2.pop1
theorem ZiM {b:Bool}(h:QB b ⟨l,o,.d (.bool b)::k⟩):KJ c ⟨l,o,.d (.bool b)::k⟩ QB:=fun j j j j R=>by
 refine ozr R fun g ρ m W=>?_;have e':_=Value.bool b:=(Zd W.stk);subst e';exact wpAny_truthy_bool ⟨_,⟨g,ρ,m,W⟩,h⟩
theorem XO {l' r op pos}(h:EJ c l' st fun st1=>EJ c r st1 fun st2=>OJ2 c (compareOp op) st2 fun st3=>BJ c st3 QB) (hm:behindInMarks op r=false:=by kd_p1):TJ c (.Compare l' [op] [r] pos) st QB:=fun F vs s R =>
 wpAny_isTrue_Compare1 (wpm (h F vs s R) (fun a j zq24=>by obtain ⟨j,R1,h1⟩:=zq24;exact Kb (h1 F (a::vs) _ R1) (fun b j zq25=>by refine ozg zq25 fun j R2 h2=>?_;exact Kb (h2 F a b vs _ R2) (fun v j zq26=>by refine ozg zq26 fun j R3 h3=>?_;exact h3 F v vs _ R3) fun j j x=>x) fun j j x=>x)) hm
theorem Zoe {x pos}(h:TJ c x st fun b st1=>QB (!b) st1):TJ c (.UnaryOp .Not x pos) st QB:=fun F vs s R =>
 wpAny_isTrue_Not (h F vs s R)
theorem ZfA {op es pos}(h:AJ c op es st QB):TJ c (.BoolOp op es pos) st QB:=fun F vs s R=>wpAny_isTrue_BoolOp (h F vs s R)
theorem Zig (h:QB true st):AJ c .And [] st QB:=fun j j j R=>wpAny_allTrue_And_nil ⟨st,R,h⟩
theorem Zff (h:QB false st):AJ c .Or [] st QB:=fun j j j R=>wpAny_allTrue_Or_nil ⟨st,R,h⟩
theorem ZhC {x xs}(h:TJ c x st fun b st1=>(b=true→AJ c .And xs st1 QB)∧(b=false→QB false st1)):AJ c .And (x::xs) st QB:=fun F vs s R =>
 wpAny_allTrue_And_cons (wpm (h F vs s R) (fun b s1 zq27=>by obtain ⟨st1,R1,h1⟩:=zq27;induction b using Bool.casesOn;exact ⟨st1,R1,h1.2 rfl⟩;exact h1.1 rfl F vs s1 R1))
theorem Zmt {x xs}(h:TJ c x st fun b st1=>(b=false→AJ c .Or xs st1 QB)∧(b=true→QB true st1)):AJ c .Or (x::xs) st QB:=fun F vs s R =>
 wpAny_allTrue_Or_cons (wpm (h F vs s R) (fun b s1 zq28=>by obtain ⟨st1,R1,h1⟩:=zq28;induction b using Bool.casesOn;exact h1.1 rfl F vs s1 R1;exact ⟨st1,R1,h1.2 rfl⟩))
theorem ZeB {e}(h:EJ c e st fun st1=>BJ c st1 QB) (he:∀whole,isTrue e c.env whole=(do let v ←whole;standAt e.pos;holding [v] (truthy v)):=by intro j;rfl):TJ c e st QB:=fun F vs s R =>
 wpAny_isTrue_value (wpm (h F vs s R) (fun v j zq29=>by refine ozg zq29 fun j R1 h1=>?_;exact h1 F v vs _ R1)) (he _)
theorem Yg {b:Bool}(h:QB b ⟨l,o,k⟩):BJ c ⟨l,o,.d (.bool b)::k⟩ QB:=fun j j j j R=>by
 obtain ⟨g,ρ,m,W⟩:=R;have e':_=Value.bool b:=Zd W.stk;subst e';exact wpAny_truthy_bool ⟨_,⟨g,ρ,m,W.stack (Zb W.stk)⟩,h⟩
theorem ZrH {i:Int}(h:QB (i != 0) ⟨l,o,k⟩):BJ c ⟨l,o,.d (.int i)::k⟩ QB:=fun j j j j R=>by
 obtain ⟨g,ρ,m,W⟩:=R;refine oze ((Zd W.stk:∃t,_=Value.int i t)) fun t e'=>?_;subst e';exact truthy_int ⟨_,⟨g,ρ,m,W.stack (Zb W.stk)⟩,h⟩
theorem Zpa (h:QB false ⟨l,o,k⟩):BJ c ⟨l,o,.d .none::k⟩ QB:=fun j j j j R=>by
 obtain ⟨g,ρ,m,W⟩:=R;have e':_=Value.none:=Zd W.stk;subst e';exact truthy_none ⟨_,⟨g,ρ,m,W.stack (Zb W.stk)⟩,h⟩
theorem ZR (h:QF .next st):XJ c [] st QF:=fun j j j R=>wpAny_execs_nil ⟨st,R,h⟩
theorem ZO {t ts}(h:SJ c t st (Zsu c ts QF)):XJ c (t::ts) st QF:=fun F vs s R =>
 wpAny_execs_cons (wpm (h F vs s R) (fun f s1 h1=>by
  induction f with
  | next=>refine ozg h1 fun st1 R1 h1=>?_;exact h1 F vs s1 R1
  | brk=>exact h1
  | cont=>exact h1
  | ret v=>exact h1))
theorem XH {x pos' e pos}(h:EJ c e st fun st1=>NJ c x st1 (QF .next)) (hs:swapsWith e (some (.Name x pos')) pos.line c.env=pure false:=by rfl):SJ c (.Assign [.Name x pos'] e pos) st QF:=fun F vs s R =>
 wpAny_Assign_Name (wpm (h F vs s R) (fun v j zq30=>by refine ozg zq30 fun j R1 h1=>?_;exact h1 F v vs _ R1)) hs
theorem Zcy {t b e pos}(h:TJ c t st fun z st1=>(z=true→XJ c b st1 QF)∧(z=false→XJ c e st1 QF)):SJ c (.If t b e pos) st QF:=fun F vs s R =>
 wpAny_If (wpm (h F vs s R) (fun z s1 zq31=>by obtain ⟨st1,R1,h1⟩:=zq31;induction z using Bool.casesOn;exact h1.2 rfl F vs s1 R1;exact h1.1 rfl F vs s1 R1))
theorem ZbP {e pos}(h:EJ c e st (QF .ret)):SJ c (.Return (some e) pos) st QF:=fun F vs s R=>wpAny_Return_some (h F vs s R)
theorem ZmV {pos}(h:QF .brk st):SJ c (.Break pos) st QF:=fun j j j R=>wpAny_Break ⟨st,R,h⟩
theorem ZjA {e pos}(h:EJ c e st fun st1=>QF .next (pop1 st1)) (hi:interactive c.env=false) (hs:swapsWith e none pos.line c.env=pure false:=by rfl):SJ c (.Expr e pos) st QF:=fun F vs s R =>
 wpAny_Expr_any (wpm (h F vs s R) (fun j j zq32=>by refine ozg zq32 fun j R1 h1=>?_;exact ⟨_,R1.pop1,h1⟩)) hi hs
theorem Znc {t b pos}(I:Nat→St→Prop) (n:Nat) (h0:I n st)
 (turn:∀n st,I n st→TJ c t st fun z st1=>(z=true→XJ c b st1 (lpQ (fun st2=>∃m,m<n∧I m st2) QF))∧(z=false→QF .next st1)) :
 SJ c (.While t b [] pos) st QF:=fun F vs s R=>by
 refine wpAny_While (codeAny_whileLoop (fun n s'=>Got c F vs (I n) s') ?_ n ⟨st,R,h0⟩);rintro n s1 ⟨st1,R1,h1⟩;refine Kb (turn n st1 h1 F vs s1 R1) (fun z s2 zq36=>?_) fun j j x=>x.elim;obtain ⟨st2,R2,h2⟩:=zq36;induction z with
 | false=>exact wpAny_execs_nil ⟨st2,R2,h2.2 rfl⟩
 | true =>
  refine Kb (h2.1 rfl F vs s2 R2) (fun f s3 h3=>?_) fun j j x=>x.elim;induction f with
  | next=>obtain ⟨st3,R3,m,hm,h3⟩:=h3;exact ⟨m,hm,st3,R3,h3⟩
  | cont=>obtain ⟨st3,R3,m,hm,h3⟩:=h3;exact ⟨m,hm,st3,R3,h3⟩
  | brk=>exact h3
  | ret v=>exact h3
end
end
variable {QF:Fl→St→Prop}
section
section
variable {l:Qc}
theorem o2 {f:Value→Value→Sem Value}{b r:A}
 (h:∀(F:Fz) (st:St) (vs:Qo) (s:Shared) (g:Heap) (ρ:Qp) (m) (u v:Value),RSW c F st vs s g ρ m→AR c.p c.w g ρ a u→AR c.p c.w g ρ b v→∀(Q':Qj),(∀x t,AR c.p c.w g ρ r x→Q' x {s with toks:=t})→wpAny (model c.p c.w) c.A (f u v) Q' NoE s)
 (q:Q ⟨l,o,r::k⟩):OJ2 c f ⟨l,o,b::a::k⟩ Q:=fun F u v vs s zq0=>by
 refine ozr zq0 fun g ρ m W=>?_;have e2:=Zb W.stk;exact h F _ _ s g ρ m u v W (Zd e2) (Zd W.stk) _ fun x t hx=>⟨_,⟨g,ρ,m,(W.tok t).stack (Zh hx (Zb e2))⟩,q⟩
theorem o1 {f:Value→Sem Value}{r:A}
 (h:∀(F:Fz) (st:St) (vs:Qo) (s:Shared) (g:Heap) (ρ:Qp) (m) (u:Value),RSW c F st vs s g ρ m→AR c.p c.w g ρ a u→∀(Q':Qj),(∀x t,AR c.p c.w g ρ r x→Q' x {s with toks:=t})→wpAny (model c.p c.w) c.A (f u) Q' NoE s)
 (q:Q ⟨l,o,r::k⟩):OJ1 c f ⟨l,o,a::k⟩ Q:=fun F u vs s zq1=>by
 refine ozr zq1 fun g ρ m W=>?_;exact h F _ _ s g ρ m u W (Zd W.stk) _ fun x t hx=>⟨_,⟨g,ρ,m,(W.tok t).stack (Zh hx (Zb W.stk))⟩,q⟩
section
variable {x y:Int}
theorem Zi2 (q:Q ⟨l,o,.d (.int (x+y))::k⟩):OJ2 c (binaryOp .Add) ⟨l,o,.d (.int y)::.d (.int x)::k⟩ Q:=o2 (fun j j j j j j j j j j zq2_0 zq2_1 j h=>by obtain ⟨j,e1⟩:=zq2_0;obtain ⟨j,e2⟩:=zq2_1;subst e1 e2;exact add_int (h _ _ YS)) q
theorem Zr6 (q:Q ⟨l,o,.d (.int (x - y))::k⟩):OJ2 c (binaryOp .Sub) ⟨l,o,.d (.int y)::.d (.int x)::k⟩ Q:=o2 (fun j j j j j j j j j j zq3_0 zq3_1 j h=>by obtain ⟨j,e1⟩:=zq3_0;obtain ⟨j,e2⟩:=zq3_1;subst e1 e2;exact sub_int (h _ _ YS)) q
theorem Zr9 (hm:IntMulOk x y) (q:Q ⟨l,o,.d (.int (x*y))::k⟩):OJ2 c (binaryOp .Mult) ⟨l,o,.d (.int y)::.d (.int x)::k⟩ Q:=o2 (fun j j j j j j j j j j zq4_0 zq4_1 j h=>by obtain ⟨j,e1⟩:=zq4_0;obtain ⟨j,e2⟩:=zq4_1;subst e1 e2;exact mul_int (h _ _ YS) hm) q
theorem Zn9 (hy:y≠0) (q:Q ⟨l,o,.d (.int (x.fmod y))::k⟩):OJ2 c (binaryOp .Mod) ⟨l,o,.d (.int y)::.d (.int x)::k⟩ Q:=o2 (fun j j j j j j j j j j zq5_0 zq5_1 j h=>by obtain ⟨j,e1⟩:=zq5_0;obtain ⟨j,e2⟩:=zq5_1;subst e1 e2;exact mod_int hy (h _ _ YS)) q
theorem Zqt (hy:y≠0) (hs:y.natAbs<1073741824) (q:Q ⟨l,o,.d (.int (x.fdiv y))::k⟩):OJ2 c (binaryOp .FloorDiv) ⟨l,o,.d (.int y)::.d (.int x)::k⟩ Q:=o2 (fun j j j j j j j j j j zq6_0 zq6_1 j h=>by
 obtain ⟨j,e1⟩:=zq6_0;obtain ⟨j,e2⟩:=zq6_1;subst e1 e2;exact floordiv_int hy (h _ _ YS) (Or.inl (PyProof.noPylong_small hs))) q
theorem Zrh (hy:0≤y) (hs:(Builtin.Int.intBits x:Int)*y≤2 ^ 27) (q:Q ⟨l,o,.d (.int (x ^ y.toNat))::k⟩):OJ2 c (binaryOp .Pow) ⟨l,o,.d (.int y)::.d (.int x)::k⟩ Q:=o2 (fun j j j j j j j j j j zq7_0 zq7_1 j h=>by obtain ⟨j,e1⟩:=zq7_0;obtain ⟨j,e2⟩:=zq7_1;subst e1 e2;exact pow_int hy hs (h _ _ YS)) q
theorem Zr1 (hy:0≤y) (q:Q ⟨l,o,.d (.int (x.fdiv (2 ^ y.toNat)))::k⟩):OJ2 c (binaryOp .RShift) ⟨l,o,.d (.int y)::.d (.int x)::k⟩ Q:=o2 (fun j j j j j j j j j j zq8_0 zq8_1 j h=>by obtain ⟨j,e1⟩:=zq8_0;obtain ⟨j,e2⟩:=zq8_1;subst e1 e2;exact rshift_int hy (h _ _ YS)) q
theorem ZqK (q:Q ⟨l,o,.d (.bool (x==y))::k⟩):OJ2 c (compareOp .Eq) ⟨l,o,.d (.int y)::.d (.int x)::k⟩ Q:=o2 (fun j j j j j j j j j j zq9_0 zq9_1 j h=>by obtain ⟨j,e1⟩:=zq9_0;obtain ⟨j,e2⟩:=zq9_1;subst e1 e2;exact eq_int (h _ _ Y3)) q
theorem Zmy (q:Q ⟨l,o,.d (.bool (x != y))::k⟩):OJ2 c (compareOp .NotEq) ⟨l,o,.d (.int y)::.d (.int x)::k⟩ Q:=o2 (fun j j j j j j j j j j zq10_0 zq10_1 j h=>by obtain ⟨j,e1⟩:=zq10_0;obtain ⟨j,e2⟩:=zq10_1;subst e1 e2;exact ne_int (h _ _ Y3)) q
theorem ZsF (q:Q ⟨l,o,.d (.bool (decide (x<y)))::k⟩):OJ2 c (compareOp .Lt) ⟨l,o,.d (.int y)::.d (.int x)::k⟩ Q:=o2 (fun j j j j j j j j j j zq11_0 zq11_1 j h=>by obtain ⟨j,e1⟩:=zq11_0;obtain ⟨j,e2⟩:=zq11_1;subst e1 e2;exact lt_int (h _ _ Y3)) q
theorem ZsD (q:Q ⟨l,o,.d (.bool (decide (x≤y)))::k⟩):OJ2 c (compareOp .LtE) ⟨l,o,.d (.int y)::.d (.int x)::k⟩ Q:=o2 (fun j j j j j j j j j j zq12_0 zq12_1 j h=>by obtain ⟨j,e1⟩:=zq12_0;obtain ⟨j,e2⟩:=zq12_1;subst e1 e2;exact le_int (h _ _ Y3)) q
theorem Zso (q:Q ⟨l,o,.d (.bool (decide (y<x)))::k⟩):OJ2 c (compareOp .Gt) ⟨l,o,.d (.int y)::.d (.int x)::k⟩ Q:=o2 (fun j j j j j j j j j j zq13_0 zq13_1 j h=>by obtain ⟨j,e1⟩:=zq13_0;obtain ⟨j,e2⟩:=zq13_1;subst e1 e2;exact gt_int (h _ _ Y3)) q
end
section
theorem Zkq (hs:x.length+y.length≤sizeLine) (q:Q ⟨l,o,.d (.str (x++y))::k⟩):OJ2 c (binaryOp .Add) ⟨l,o,.d (.str y)::.d (.str x)::k⟩ Q:=o2 (fun j j j j j j j j j j zq17_0 zq17_1 j h=>by obtain ⟨j,e1⟩:=zq17_0;obtain ⟨j,e2⟩:=zq17_1;subst e1 e2;exact add_str (fun j j=>h _ _ Xb) hs) q
theorem Zsk (q:Q ⟨l,o,.d (.bool (x==y))::k⟩):OJ2 c (compareOp .Eq) ⟨l,o,.d (.str y)::.d (.str x)::k⟩ Q:=o2 (fun j j j j j j j j j j zq18_0 zq18_1 j h=>by obtain ⟨j,e1⟩:=zq18_0;obtain ⟨j,e2⟩:=zq18_1;subst e1 e2;exact eq_str (h _ _ Y3)) q
theorem Zsb (q:Q ⟨l,o,.d (.bool (x != y))::k⟩):OJ2 c (compareOp .NotEq) ⟨l,o,.d (.str y)::.d (.str x)::k⟩ Q:=o2 (fun j j j j j j j j j j zq19_0 zq19_1 j h=>by obtain ⟨j,e1⟩:=zq19_0;obtain ⟨j,e2⟩:=zq19_1;subst e1 e2;exact ne_str (h _ _ Y3)) q
end
section
variable {x y:Bool}
theorem ZqX (q:Q ⟨l,o,.d (.bool (!x))::k⟩):OJ1 c (unaryOp .Not) ⟨l,o,.d (.bool x)::k⟩ Q:=o1 (fun j j j j j j j j j e1 j h=>by subst e1;exact not_of (wpAny_truthy_bool (h _ _ Y3))) q
end
end
end
section
inductive R2 {α β:Type}(R:α→β→Prop):List α→List β→Prop
 | nil:R2 R [] []
 | cons {x:α} {v:β} {xs:List α} {vs:List β} (h:R x v) (t:R2 R xs vs):R2 R (x::xs) (v::vs)
def PR {α β:Type}(R:α→β→Prop) (x:Str×α) (v:Str×β):Prop:=v.1=x.1∧R x.2 v.2
section
variable {α β:Type}{R:α→β→Prop}{xs:List α}{vs:List β}
theorem R2.len (h:R2 R xs vs):vs.length=xs.length:=by
 induction h with
 | nil=>rfl
 | cons _ _ ih=>exact congrArg Nat.succ ih
theorem R2.get (h:R2 R xs vs){x:α}(e:xs[i]?=some x):∃v,vs[i]?=some v∧R x v:=by
 induction h generalizing i with
 | nil=>exact Zp e
 | cons h t ih =>
  induction i using Nat.casesOn with
  | zero=>exact ⟨_,rfl,Kc e▸h⟩
  | succ i=>exact ih e
theorem R2.flip (h:R2 R xs vs):R2 (fun v x=>R x v) vs xs:=by
 induction h with
 | nil=>exact .nil
 | cons h _ ih=>exact .cons h ih
theorem R2.getR (h:R2 R xs vs){v:β}(e:vs[i]?=some v):∃x,xs[i]?=some x∧R x v:=h.flip.get e
theorem R2.app (h:R2 R xs vs){ys:List α}{us:List β}(h2:R2 R ys us):R2 R (xs++ys) (vs++us):=by
 induction h with
 | nil=>exact h2
 | cons h _ ih=>exact .cons h ih
theorem R2.drop (h:R2 R xs vs) (n:Nat):R2 R (xs.drop n) (vs.drop n):=by
 induction h generalizing n with
 | nil=>rw [List.drop_nil,List.drop_nil];exact .nil
 | cons h t ih=>induction n using Nat.casesOn with
  | zero=>exact .cons h t
  | succ n=>exact ih n
theorem R2.take (h:R2 R xs vs) (n:Nat):R2 R (xs.take n) (vs.take n):=by
 induction h generalizing n with
 | nil=>rw [List.take_nil,List.take_nil];exact .nil
 | cons h t ih=>induction n using Nat.casesOn with
  | zero=>exact .nil
  | succ n=>exact .cons h (ih n)
theorem R2.rev (h:R2 R xs vs):R2 R xs.reverse vs.reverse:=by
 induction h with
 | nil=>exact .nil
 | cons h _ ih=>rw [List.reverse_cons,List.reverse_cons];exact ih.app (.cons h .nil)
theorem R2.any (h:R2 R xs vs){f:α→Bool}{k:β→Bool}(e:∀x v,R x v→k v=f x):vs.any k=xs.any f:=by
 induction h with
 | nil=>rfl
 | cons h _ ih=>rw [List.any_cons,List.any_cons,ih,e _ _ h]
theorem R2.filter (h:R2 R xs vs){f:α→Bool}{k:β→Bool}(e:∀x v,R x v→k v=f x):R2 R (xs.filter f) (vs.filter k):=by
 induction h with
 | nil=>exact .nil
 | @cons x v _ _ h _ ih =>
  induction e1:f x with
  | true=>rw [List.filter_cons_of_pos e1,List.filter_cons_of_pos ((e _ _ h).trans e1)];exact .cons h ih
  | false=>rw [Rv (ne_true_of_eq_false e1),Rv (ne_true_of_eq_false ((e _ _ h).trans e1))];exact ih
theorem R2.map {S:α→β→Prop}(h:R2 R xs vs){f:α→α}{k:β→β}(e:∀x v,R x v→S (f x) (k v)):R2 S (xs.map f) (vs.map k):=by
 induction h with
 | nil=>exact .nil
 | cons h _ ih=>exact .cons (e _ _ h) ih
theorem R2.maps {γ:Type}(h:R2 R xs vs){f:α→γ}{k:β→γ}(e:∀x v,R x v→k v=f x):vs.map k=xs.map f:=by
 induction h with
 | nil=>rfl
 | cons h _ ih=>rw [Rh,Rh,ih,e _ _ h]
end
section
variable {p:Program}{w:World}
theorem Y5 {xs:Qi}:VRs p w g xs vs↔R2 (VR p w g) xs vs:=by
 refine ⟨fun h=>?_,fun h=>?_⟩
 ·induction xs generalizing vs with
  | nil=>exact h▸.nil
  | cons x xs ih=>refine Zc h fun v r e h1 h2=>?_;exact e▸.cons h1 (ih h2)
 ·induction h with
  | nil=>rfl
  | cons h _ ih=>exact ⟨_,_,rfl,h,ih⟩
theorem Wq:ARs p w g ρ xs vs↔R2 (AR p w g ρ) xs vs:=by
 refine ⟨fun h=>?_,fun h=>?_⟩
 ·induction xs generalizing vs with
  | nil=>exact h▸.nil
  | cons x xs ih=>refine Zc h fun v r e h1 h2=>?_;exact e▸.cons h1 (ih h2)
 ·induction h with
  | nil=>rfl
  | cons h _ ih=>exact ⟨_,_,rfl,h,ih⟩
theorem Zgl {xs:Qd}{vs:Ql}:VRe p w g xs vs↔R2 (PR (VR p w g)) xs vs:=by
 refine ⟨fun h=>?_,fun h=>?_⟩
 ·induction xs generalizing vs with
  | nil=>exact h▸.nil
  | cons x xs ih=>refine Zc h fun v r e h1 h2=>?_;exact e▸.cons ⟨rfl,h1⟩ (ih h2)
 ·induction h with
  | nil=>rfl
  | @cons x v _ _ h _ ih=>exact ⟨v.2,_,h.1▸rfl,h.2,ih⟩
theorem Xm {xs:Qe}{vs:Ql}:ARe p w g ρ xs vs↔R2 (PR (AR p w g ρ)) xs vs:=by
 refine ⟨fun h=>?_,fun h=>?_⟩
 ·induction xs generalizing vs with
  | nil=>exact h▸.nil
  | cons x xs ih=>refine Zc h fun v r e h1 h2=>?_;exact e▸.cons ⟨rfl,h1⟩ (ih h2)
 ·induction h with
  | nil=>rfl
  | @cons x v _ _ h _ ih=>exact ⟨v.2,_,h.1▸rfl,h.2,ih⟩
end
end
section
section
variable {p:Program}{w:World}
theorem ZU {xs:Qi}(h:VRs p w g xs vs):vs.length=xs.length:=(Y5.mp h).len
theorem Zl1 {xs:Qi}{x:D}(h:VRs p w g xs vs) (e:xs[i]?=some x):∃v,vs[i]?=some v∧VR p w g x v:=(Y5.mp h).get e
theorem UW {xs:Qi}(h:VRs p w g xs vs) (e:vs[i]?=some v):∃x,xs[i]?=some x∧VR p w g x v:=(Y5.mp h).getR e
theorem ZkT {xs:Qi}(n:Nat) (h:VRs p w g xs vs):VRs p w g (xs.drop n) (vs.drop n):=Y5.mpr ((Y5.mp h).drop n)
theorem Zka {xs:Qi}(n:Nat) (h:VRs p w g xs vs):VRs p w g (xs.take n) (vs.take n):=Y5.mpr ((Y5.mp h).take n)
theorem ZfM {xs:Qi}(h:VRs p w g xs vs) (h2:VRs p w g ys us):VRs p w g (xs++ys) (vs++us):=Y5.mpr ((Y5.mp h).app (Y5.mp h2))
theorem Y8 (h:ARs p w g ρ xs vs):vs.length=xs.length:=(Wq.mp h).len
theorem ZhB {x:A}(h:ARs p w g ρ xs vs) (e:xs[i]?=some x):∃v,vs[i]?=some v∧AR p w g ρ x v:=(Wq.mp h).get e
theorem Xk {ys:Qh}(h:ARs p w g ρ xs vs) (h2:ARs p w g ρ ys us):ARs p w g ρ (xs++ys) (vs++us):=Wq.mpr ((Wq.mp h).app (Wq.mp h2))
theorem Zd7 {x:A}(h:ARs p w g ρ xs vs) (h':AR p w g ρ x v):ARs p w g ρ (xs++[x]) (vs++[v]):=Xk h ⟨v,[],rfl,h',rfl⟩
theorem ZaX (h:ARs p w g ρ xs vs):ARs p w g ρ xs.reverse vs.reverse:=Wq.mpr (Wq.mp h).rev
theorem Zaq {ys:Qh}(h:ARs p w g ρ (xs++ys) us):∃a b,us=a++b∧ARs p w g ρ xs a∧ARs p w g ρ ys b:=by
 induction xs generalizing us with
 | nil=>exact ⟨[],us,rfl,rfl,h⟩
 | cons x xs ih =>
  refine Zc h fun v r e h1 h2=>?_;refine Zc (ih h2) fun a b e2 h3 h4=>?_;exact ⟨v::a,b,by rw [e,e2];rfl,⟨v,a,rfl,h1,h3⟩,h4⟩
theorem UG {xs:Qi}:ARs p w g ρ (xs.map .d) vs↔VRs p w g xs vs:=by
 induction xs generalizing vs with
 | nil=>exact Iff.rfl
 | cons x xs ih=>exact exists_congr fun v=>exists_congr fun r=>and_congr_right fun j=>and_congr_right fun j=>ih
end
theorem ZbB {α:Type}(l:List α) (a n:Nat):(List.range n).filterMap (fun k=>l[a+k]?)=(l.drop a).take n:=by
 induction n with
 | zero=>simp
 | succ n ih =>
  rw [List.range_succ,List.filterMap_append,ih,List.take_add_one];congr 1;rw [List.getElem?_drop];induction h:l[a+n]? <;> simp [h]
noncomputable def ZN (d:Nat) (x:Option Int) (n:Nat):Nat:=match x with
 | none=>d
 | some i=>(max 0 (min (if i<0 then i+n else i) n)).toNat
noncomputable def cut {α:Type}(l:List α) (lo hi:Option Int):List α:=(l.drop (ZN 0 lo l.length)).take (ZN l.length hi l.length - ZN 0 lo l.length)
theorem Zgu (d:Nat) (x:Option Int) (n:Nat) (h:d≤n):ZN d x n≤n:=by
 unfold ZN;split
 ·exact h
 ·exact Int.toNat_le.mpr (Int.max_le.mpr ⟨Rb n,Int.min_le_right _ _⟩)
theorem ZjW (a b:Nat):((if (a:Int)<b then ((b:Int) - a+1 - 1) / 1 else 0):Int).toNat=b - a:=by
 split
 ·rw [Int.add_sub_cancel,Int.ediv_one];exact Int.toNat_sub b a
 ·rename_i h;exact (Nat.sub_eq_zero_of_le (Int.ofNat_le.mp (Int.not_lt.mp h))).symm
theorem Zb7 {α:Type}(l:List α) (a b:Nat):(sliceRange (a:Int) (b:Int) 1).filterMap (l[·]?)=(l.drop a).take (b - a):=by
 unfold sliceRange;simp only [show (1:Int) > 0 from by decide,if_true,List.filterMap_map];rw [ZjW,←ZbB];congr 1;funext k;simp only [Function.comp];congr 1;rw [Int.one_mul];rfl
theorem Zjm (vs:Qo) (lo hi:Option Int):(PySem.slicePick vs.toArray lo hi none).toList=cut vs lo hi:=by
 unfold PySem.slicePick cut;have key:∀(x:Option Int) (d:Nat),(match x with
  | none=>(d:Int)
  | some i=>(let i:=if i<0 then i+(vs.toArray.size:Int) else i;if (1:Int) > 0 then max 0 (min i vs.toArray.size) else max (-1) (min i ((vs.toArray.size:Int) - 1))))=(ZN d x vs.length:Int):=by
  intro x d;induction x with
  | none=>rfl
  | some i =>
   simp only [show (1:Int) > 0 from by decide,if_true,ZN,List.size_toArray];exact (Int.toNat_of_nonneg (Int.le_max_left 0 _)).symm
 have hb:PySem.sliceBounds lo hi none vs.toArray.size=((ZN 0 lo vs.length:Int),(ZN vs.length hi vs.length:Int),1):=by
  unfold PySem.sliceBounds;dsimp only [Option.getD_none,show (1:Int) > 0 from by decide,if_true];rw [←(key lo 0),←(key hi vs.length)];induction lo using Option.casesOn <;> induction hi using Option.casesOn <;> rfl
 rw [hb];dsimp only;rw [←Zb7];simp
noncomputable def Zae (x:Str) (lo hi:Option Int):Str:=⟨(cut x.cps.toList lo hi).toArray⟩
theorem Uj (i:Int) (n:Nat):max 0 (min (if i<0 then i+(n:Int) else i) n)=(((max 0 (min (if i<0 then i+(n:Int) else i) n)).toNat:Nat):Int):=(Int.toNat_of_nonneg (Int.le_max_left 0 _)).symm
theorem Zhd (n:Nat) (lo hi:Option Int):Builtin.Str.strSliceIndices lo hi 1 n=sliceRange (ZN 0 lo n:Nat) (ZN n hi n:Nat) 1:=by
 unfold Builtin.Str.strSliceIndices;simp only [show (1:Int) > 0 from by decide,if_true];induction lo with
 | none=>induction hi with
  | none=>rfl
  | some j=>simp only [ZN];rw [←Uj];rfl
 | some i=>induction hi with
  | none=>simp only [ZN];rw [←Uj]
  | some j=>simp only [ZN];rw [←Uj,←Uj]
theorem ZlL (x:Str) (lo hi:Option Int):(((Builtin.Str.strSliceIndices lo hi 1 x.length).filterMap (x.cps[·]?)).toArray:Array Nat)=(cut x.cps.toList lo hi).toArray:=by
 rw [Zhd];congr 1;have e:x.length=x.cps.toList.length:=by rfl
 unfold cut;rw [←e,←Zb7];simp
theorem Znr {α:Type}(l:List α) (lo hi:Option Int):(cut l lo hi).length≤l.length:=by
 unfold cut;rw [List.length_take,List.length_drop];exact Kr (Nat.min_le_right _ _) (Nat.sub_le _ _)
theorem Zjn (x:Str) (lo hi:Option Int):(Zae x lo hi).length≤x.length:=by
 have:=Znr x.cps.toList lo hi;exact this
end
section
section
variable {s:Shared}{m:Qk}
theorem RSW.size_nomut (R:RSW c F st vs s g ρ m):s.heap.objs.size∉ZG c.G F (c.env.locals::ρ):=fun h=>by
 refine oze (R.thereM _ h) fun o e=>?_;exact Rn _ (Kk e)
theorem Sub.none {h:Heap}(x:Sub g h){a:Addr}(e:h.get? a = .none):g.get? a = .none:=by
 induction q:g.get? a with
 | none=>rfl
 | some o=>rw [x _ _ q] at e;exact Za3 e
theorem ZbO (h:Heap):h.get? h.objs.size = .none:=by
 induction q:h.get? h.objs.size with
 | none=>rfl
 | some o=>exact absurd (Kk q) (Rn _)
theorem RSW.allocD (R:RSW c F st vs s g ρ m) (ob:Obj) (t:Nat) (hf:ob.isFreed=false):∃g',RSW c F st vs {s with heap:=s.heap.push ob,toks:=t} g' ρ m∧Sub g g'∧g'.get? s.heap.objs.size=some ob:=by
 have R1:=R.alloc ob t;refine ⟨_,R1.canon,fun b o e=>?_,?_⟩
 ·exact W.hideAll_get _ (R1.keep b o e) fun hb=>by rw [R1.nomut b hb] at e;exact Zp e
 ·exact W.hideAll_get _ (Kh _ hf) R.size_nomut
theorem RSW.allocO (R:RSW c F st vs s g ρ m) (ob:Obj) (t:Nat){o':O}(ho:OAt c.p c.w g (ρ++[s.heap.objs.size]) (s.heap.push ob) o' s.heap.objs.size):
 RSW c F ⟨st.loc,st.own++[o'],st.stk⟩ vs {s with heap:=s.heap.push ob,toks:=t} g (ρ++[s.heap.objs.size]) m :=
 (R.alloc ob t).newOwn (R.keep.none (ZbO _)) R.size_nomut ho
end
def GJ (c:Cx) (es:Qs) (st:St) (Q:Qf):Prop :=
 ∀F vs s pos,RS c F st vs s→wpAny (model c.p c.w) c.A (spliced (backTo pos (starEach es c.env))) (fun us s'=>us.length=es.length∧Got c F (us.reverse++vs) Q s') NoE s
noncomputable def Ziw:Nat→List A→Option (List D×Qh)
 | 0,k=>some ([],k)
 | n+1,.d x::k=>(Ziw n k).map fun q=>(q.1++[x],q.2)
 | _+1,_=>none
noncomputable def Zii:Nat→List A→Option (List A×Qh)
 | 0,k=>some ([],k)
 | n+1,x::k=>(Zii n k).map fun q=>(q.1++[x],q.2)
 | _+1,[]=>none
section
variable {l:Qc}
theorem Ym (h:Q st):GJ c [] st Q:=fun j j j j R=>spliced_none ⟨rfl,st,R,h⟩
noncomputable def YM (e:Expr):Bool:=e.ctorIdx==22
theorem ZT {e:Expr}(r:Qs) (env:Env) (h:YM e=false):starEach (e::r) env=(false,eval e env)::starEach r env:=by
 induction e using Expr.casesOn <;> first | rfl | exact Zf6 h
theorem Zq {e es}(h:EJ c e st fun st1=>GJ c es st1 Q) (he:YM e=false:=by rfl):GJ c (e::es) st Q:=fun F vs s pos R =>
 spliced_more (wpm (h F vs s R) (fun v j zq0=>by refine ozg zq0 fun j R1 h1=>?_;exact Kb (h1 F (v::vs) _ pos R1) (fun us j zq1=>by obtain ⟨hl,st2,R2,h2⟩:=zq1;exact ⟨by simp [hl],st2,by simpa using R2,h2⟩) fun j j x=>x)) (ZT _ _ he)
theorem ZgD {n:Nat}{xs:Qi}(h:Ziw n k=some (xs,r)):k=(xs.map A.d).reverse++r∧xs.length=n:=by
 induction n generalizing k xs r with
 | zero=>refine oza (Prod.mk.inj (Kc h)) fun h1 h2=>?_;rw [←h1,←h2];exact ⟨rfl,rfl⟩
 | succ n ih=>induction k using LLc with
  | nil=>exact Zp h
  | cons a k=>induction a using A.casesOn with
   | d x =>
    refine Za (YW h) fun zo2 h1 h2=>?_;obtain ⟨ys,r'⟩:=zo2;refine oza (Prod.mk.inj h2) fun h3 h4=>?_;refine oza (ih h1) fun e hl=>?_;rw [←h3,←h4,e];exact ⟨by rw [Q9,List.reverse_append];rfl,by rw [Qu,hl];rfl⟩
   | own _=>exact Zp h
   | view _ _=>exact Zp h
theorem ZgC {n:Nat}(h:Zii n k=some (xs,r)):k=xs.reverse++r∧xs.length=n:=by
 induction n generalizing k xs r with
 | zero=>refine oza (Prod.mk.inj (Kc h)) fun h1 h2=>?_;rw [←h1,←h2];exact ⟨rfl,rfl⟩
 | succ n ih=>induction k using LLc with
  | nil=>exact Zp h
  | cons x k =>
   refine Za (YW h) fun zo2 h1 h2=>?_;obtain ⟨ys,r'⟩:=zo2;refine oza (Prod.mk.inj h2) fun h3 h4=>?_;refine oza (ih h1) fun e hl=>?_;rw [←h3,←h4,e];exact ⟨by rw [List.reverse_append];rfl,by rw [Qu,hl];rfl⟩
theorem ZgJ {a b a' b':Qo}(h:a++b=a'++b') (hl:a.length=a'.length):a=a'∧b=b':=List.append_inj h hl
theorem ZA (h:ARs G.p G.w g ρ (xs.reverse++r) (us.reverse++vs)) (hl:us.length=xs.length):ARs G.p G.w g ρ xs us∧ARs G.p G.w g ρ r vs:=by
 refine Zc (Zaq h) fun a b e h1 h2=>?_;refine oza (ZgJ e (by rw [Y8 h1];simp [hl])) fun e1 e2=>?_;subst e2;have h3:=ZaX h1;rw [←e1] at h3;simp at h3;exact ⟨h3,h2⟩
theorem Zaz {es pos}(hn:es.length≤1000) (h:GJ c es st fun st1=>∃xs r,Ziw es.length st1.stk=some (xs,r)∧Q ⟨st1.loc,st1.own,.d (.list xs)::r⟩):EJ c (.List es pos) st Q:=fun F vs s R =>
 List_ (wpm (h F vs s pos R) (fun us s1 zq2=>by
  refine Ka fun zn6=>?_;obtain ⟨hl,st1,⟨g,ρ,m,W⟩,xs,r,hp,h1⟩:=zq2;refine oza (ZgD hp) fun e hx=>?_;refine zn6 ?_;have q:=W.stk;rw [e] at q;refine Ka fun zn7=>?_;refine oza (ZA q (by simp [hl,hx])) fun q1 q2=>?_;refine Zt (W.allocD {cls:=.type "list",data:=.seq us.toArray} s1.toks rfl) fun g' W' sb hg=>?_;refine zn7 ?_;refine wpAny_newList ⟨_,⟨g',ρ,m,W'.stack (Zh ?_ (ARs.sub _ _ sb (Ext.refl _) _ _ q2))⟩,h1⟩ (by rw [sizeLine_eq];lia);exact ⟨_,us,rfl,⟨_,hg,rfl,0,rfl⟩,VRs.sub _ _ sb _ _ (UG.mp q1)⟩))
theorem ZmK {es pos}(hn:es.length≤1000) (h:GJ c es st fun st1=>∃xs r,Zii es.length st1.stk=some (xs,r)∧Q ⟨st1.loc,st1.own++[.list xs],.own st1.own.length::r⟩):EJ c (.List es pos) st Q:=fun F vs s R =>
 List_ (wpm (h F vs s pos R) (fun us s1 zq3=>by
  refine Ka fun zn8=>?_;obtain ⟨hl,st1,⟨g,ρ,m,W⟩,xs,r,hp,h1⟩:=zq3;refine oza (ZgC hp) fun e hx=>?_;refine zn8 ?_;have q:=W.stk;rw [e] at q;refine oza (ZA q (by simp [hl,hx])) fun q1 q2=>?_;have ex:Ext ρ (ρ++[s1.heap.objs.size]):=fun i b e=>by
   obtain ⟨l,j⟩:=ZB e;rw [Kl l];exact e
  have W':=W.allocO {cls:=.type "list",data:=.seq us.toArray} s1.toks (o':=.list xs) ⟨us,⟨0,Kh _ rfl⟩,ARs.sub _ _ (Sub.refl _) ex _ _ q1⟩;refine wpAny_newList ⟨_,⟨g,_,m,W'.stack (Zh ?_ (ARs.sub _ _ (Sub.refl _) ex _ _ q2))⟩,h1⟩ (by rw [sizeLine_eq];lia);exact ⟨_,by rw [←W.len];simp,rfl⟩))
theorem ZdD {es n pos}(hn:es.length≤1000) (h:GJ c es st fun st1=>∃xs r,Ziw es.length st1.stk=some (xs,r)∧Q ⟨st1.loc,st1.own,.d (.tuple xs)::r⟩):EJ c (.Tuple es n pos) st Q:=fun F vs s R =>
 Tuple_ (wpm (h F vs s pos R) (fun us s1 zq4=>by
  refine Ka fun zn11=>?_;obtain ⟨hl,st1,⟨g,ρ,m,W⟩,xs,r,hp,h1⟩:=zq4;refine oza (ZgD hp) fun e hx=>?_;refine zn11 ?_;have q:=W.stk;rw [e] at q;refine Ka fun zn12=>?_;refine oza (ZA q (by simp [hl,hx])) fun q1 q2=>?_;refine Zt (W.allocD {cls:=.type "tuple",data:=.seq us.toArray} s1.toks rfl) fun g' W' sb hg=>?_;refine zn12 ?_;refine wpAny_newTuple ⟨_,⟨g',ρ,m,W'.stack (Zh ?_ (ARs.sub _ _ sb (Ext.refl _) _ _ q2))⟩,h1⟩ (by rw [sizeLine_eq];lia);exact ⟨_,us,rfl,⟨_,hg,rfl,0,rfl⟩,VRs.sub _ _ sb _ _ (UG.mp q1)⟩))
theorem Zex {v sl pos}(h:EJ c v st fun st1=>EJ c sl st1 fun st2=>OJ2 c (subscriptTail v sl) st2 Q):EJ c (.Subscript v sl pos) st Q:=fun F vs s R =>
 Subscript_ (wpm (h F vs s R) (fun a j zq5=>by obtain ⟨j,R1,h1⟩:=zq5;exact Kb (h1 F (a::vs) _ R1) (fun b j zq6=>by refine ozg zq6 fun j R2 h2=>?_;exact h2 F a b vs _ R2) fun j j x=>x))
theorem Zoz {v sl}{xs:Qi}{i:Int}{x:D}(h0:0≤i) (h1:i<2 ^ 63) (hx:xs[i.toNat]?=some x) (q:Q ⟨l,o,.d x::k⟩) (hs:∀a b,subscripted sl false a b=operate [a,b] (getItem a b):=by intro j j;rfl):OJ2 c (subscriptTail v sl) ⟨l,o,.d (.int i)::.d (.list xs)::k⟩ Q :=
 o2 (fun j j j s g ρ m j j W zq7_0 zq7_1 j h=>by
  refine Zc zq7_0 fun a us e1 hl hv=>?_;refine oze zq7_1 fun j e2=>?_;subst e1 e2;have hl':=(hl.sub W.keep).isList;refine Za (Zl1 hv hx) fun u hu hr=>?_;exact tail_any hl'.typeIs slot_list_getitem.lookup (wpAny_getItem_list hl' h0 h1 (by simpa using hu) (h u s.toks hr)) (hs _ _)) q
theorem Zq1 {v sl}{i:Int}{ch:Nat}(h0:0≤i) (h1:i<2 ^ 63) (hx:x.cps[i.toNat]?=some ch) (q:Q ⟨l,o,.d (.str ⟨#[ch]⟩)::k⟩) (hs:∀a b,subscripted sl false a b=operate [a,b] (getItem a b):=by intro j j;rfl):OJ2 c (subscriptTail v sl) ⟨l,o,.d (.int i)::.d (.str x)::k⟩ Q :=
 o2 (fun j j j s g ρ m j j W zq10_0 zq10_1 j h=>by
  obtain ⟨j,e1⟩:=zq10_0;obtain ⟨j,e2⟩:=zq10_1;subst e1 e2;have hlt:i.toNat<x.cps.size:=(Array.getElem?_eq_some_iff.mp hx).1;have hx':(seqIndex? i x.length).bind (x.cps[·]?)=some ch:=by rw [PyProof.Rows.seqIndex_at h0 (by unfold Str.length;lia)];exact hx
  refine tail_any (T:="str") (by rfl) slot_str_getitem.lookup (getItem_str ?_ hx' (h _ _ Xb)) (hs _ _);simp only [Bool.or_eq_false_iff,decide_eq_false_iff_not];lia) q
noncomputable def Yk (x:Str):Qd→Option D
 | []=>none
 | q::r=>if q.1=x then some q.2 else Yk x r
theorem ZlT {p:Program}{w:World}{d:D}:∀{es:Qd}{kvs:Ql},VRe p w g es kvs→Yk x es=some d→∃v,PySem.valueAt kvs x=some v∧VR p w g d v:=by
 intro es;induction es with
 | nil=>intro kvs j h;exact Zp h
 | cons e es ih =>
  intro kvs ⟨v,r,e1,h1,h2⟩ h;subst e1;unfold Yk at h;unfold PySem.valueAt;by_cases hk:e.1=x
  ·rw [if_pos hk] at h;obtain rfl:=Kc h;exact ⟨v,by simp [hk],h1⟩
  ·rw [if_neg hk] at h;refine Za (ih h2 h) fun u hu hr=>?_;exact ⟨u,by unfold PySem.valueAt at hu;simpa [hk] using hu,hr⟩
theorem ZdO {v sl}{d:D}(hx:Yk x es=some d) (q:Q ⟨l,o,.d d::k⟩) (hs:∀a b,subscripted sl false a b=operate [a,b] (getItem a b):=by intro j j;rfl):OJ2 c (subscriptTail v sl) ⟨l,o,.d (.str x)::.d (.dict es)::k⟩ Q :=
 o2 (fun j j j s g ρ m j j W zq12_0 zq12_1 j h=>by
  refine Z8 zq12_0 fun a kvs e1 hn hl hv=>?_;refine oze zq12_1 fun t e2=>?_;subst e1 e2;have hl':=Zz _ _ W.keep hl;refine Za (ZlT hv hx) fun u hu hr=>?_;exact tail_any hl'.typeIs slot_dict_getitem.lookup (wpAny_getItem_of (strKind_is _ _ x t) hl'.mapOf hu (h u _ hr)) (hs _ _)) q
end
end
section
def ZF (c:Cx) (f:Value) (h:Heap):Prop:=∃k,(k=Keeper.frame∨k=Keeper.machine∨k=Keeper.boundFrame)∧W.Looks (model c.p c.w) h (keeperOf f) k
theorem Zl {id:String}{h:Heap}:ZF c (.builtin id) h:=⟨.machine,.inr (.inl rfl),W.Looks.of_pure rfl⟩
theorem XB {id:String}{h:Heap}:ZF c (.type id) h:=⟨.machine,.inr (.inl rfl),W.Looks.of_pure rfl⟩
theorem ZgY {a:Addr}{ob:Obj}{fd:FuncData}{h:Heap}(e:h.get? a=some ob) (hd:ob.data = .func fd):ZF c (.ref a) h :=
 ⟨.frame,.inl rfl,(W.Looks.ld (part:=none) e).andThen (by rw [hd];exact .now)⟩
def CJ (c:Cx) (n:Nat) (st:St) (Q:Qf):Prop :=
 ∀F f us vs s,us.length=n→RS c F st (us.reverse++f::vs) s→ZF c f s.heap∧wpAny (model c.p c.w) c.A (call f us) (EQ c F vs Q) NoE s
def MJ (c:Cx) (name:Str) (st:St) (Q:Nat→St→Prop):Prop :=
 ∀F ov vs s pl,RS c F st (ov::vs) s→wpAny (model c.p c.w) c.A (getMethod ov name pl) (fun fx s'=>Got c F (fx.2.reverse++fx.1::vs) (Q fx.2.length) s') NoE s
section
variable {l:Qc}
noncomputable def XG (e:Expr):Bool:=e.ctorIdx==20
noncomputable def Xs:Expr→Bool
 | .Name .. => false
 | .Attribute .. => false
 | .Subscript .. => false
 | .Constant .. => false
 | .Call (.Attribute ..) _ _ _=>false
 | .Call (.Name id _) _ _ _=>id==("super":Str)
 | _=>true
noncomputable def Zy (es:Qs):Bool:=es.all (!YM ·)
theorem Y2 {fe:Expr}(es:Qs) (pos:Pos) (env:Env) (h:XG fe=false):eval (.Call fe es [] pos) env=(do callWith pos (←eval fe env) [] (backTo pos (starEach es env)) (backToKw pos (keywordEach [] env))):=by
 induction fe using Expr.casesOn <;> first | rfl | exact Zf6 h
theorem ZaH {e:Expr}{r:Qs}(h:Zy (e::r)=true):YM e=false∧Zy r=true:=by
 unfold Zy at h;rw [List.all_cons] at h;refine oza (Xx h) fun h1 h2=>?_;induction e1:YM e with
 | true=>rw [e1] at h1;exact Xi h1
 | false=>exact ⟨rfl,h2⟩
theorem XA {es:Qs}(h:Zy es=true):(backTo pos (starEach es env)).any (·.1)=false∧(backTo pos (starEach es env)).all (!·.1)=true:=by
 induction es with
 | nil=>exact ⟨rfl,rfl⟩
 | cons e r ih=>rw [ZT r env (ZaH h).1];exact ih (ZaH h).2
theorem ZcM {A:Around}{Q:Qj}{s:Shared}{whole:Sem Value}(h:Xs oe=false) (hq:wpAny M A whole Q E s):wpAny M A (attributeBase oe name env whole) Q E s:=by
 induction oe using Expr.casesOn <;> first | exact hq | exact Zf6 h | skip
 rename_i f as ks p;induction f using Expr.casesOn <;> first | exact hq | exact Zf6 h | skip
 rename_i id q;induction as using LLc with
 | cons=>exact hq
 | nil =>
  induction ks using LLc with
  | cons=>exact hq
  | nil =>
   have e:(id != ("super":Str))=true:=by show (!(id==("super":Str)))=true;rw [show (id==("super":Str))=false from h];rfl
   unfold attributeBase;dsimp only;rw [e];exact hq
theorem Ui {F:Fz}{es:Qs}{vs:Qo}{s:Shared}{Qv:Qj}(hb:Xs oe=false) (hs:Zy es=true) (hn:decide (es.length<30)=true) (hl:(apos.endLine==pos.line)=true)
 (h:wpAny (model c.p c.w) c.A (eval oe c.env) (fun ov s1=>∀pl:Sem Bool,wpAny (model c.p c.w) c.A (getMethod ov name pl) (fun fx s2=>wpAny (model c.p c.w) c.A (callWith pos fx.1 fx.2 (backTo pos (starEach es c.env)) []) Qv E s2) E s1) E s) :
 wpAny (model c.p c.w) c.A (eval (.Call (.Attribute oe name apos) es [] pos) c.env) Qv E s:=by
 have e:eval (.Call (.Attribute oe name apos) es [] pos) c.env=(do
  let ov ←attributeBase oe name c.env (eval oe c.env)
  standAt apos.atName
  methodCall oe name apos pos c.env ov (es.length+0) (backTo pos (starEach es c.env)) (backToKw pos (keywordEach [] c.env))):=rfl
 rw [e];refine Kd (wpm (ZcM hb h) (fun ov s1 h1=>Kd (Rq ?_)));have hf:methodCallForm (es.length+0) (backTo pos (starEach es c.env)) (backToKw pos (keywordEach [] c.env))=true:=by
  unfold methodCallForm;rw [(XA (pos:=pos) (env:=c.env) hs).2]
  have:=Kw hn;simp [backToKw,show keywordEach [] c.env=[] from rfl];assumption
 unfold methodCall;rw [hf];refine Kd (Rs ?_);dsimp only [if_true];refine wpm (h1 _) (fun fx s2 h2=>?_);unfold methodCallPos;simp only [hl,Bool.not_true,Bool.false_or,if_true];exact Kd (Ki h2)
theorem Zby {f:Value}{first:Qo}{e:Expr}{r:Qs}{s:Shared}(R:RS c F st (first.reverse++f::vs) s) (h:GJ c (e::r) st fun st1=>CJ c (first.length+(e::r).length) st1 Q)
 (he:Zy (e::r)=true) :
 wpAny (model c.p c.w) c.A (callWith pos f first (backTo pos (starEach (e::r) c.env)) []) (EQ c F vs Q) NoE s:=by
 refine W.callWith_of (P:=fun h=>ZF c f h) (by rw [(XA (pos:=pos) (env:=c.env) he).1];rfl) (fun h hk=>hk) ?_;have key:=h F (first.reverse++f::vs) s pos R
 have h':YM e=false:=by have:YM e=false∧Zy r=true:=by simpa [Zy] using he
                        exact this.1
 rw [ZT r _ h'] at key ⊢;refine evalArgs_plain (wpm key (fun us s1 zq0=>?_));refine Ka fun zn1=>?_;obtain ⟨hl,st1,R1,h1⟩:=zq0;refine zn1 ?_;have R2:RS c F st1 ((first++us).reverse++f::vs) s1:=by simpa using R1
 exact h1 F f (first++us) vs s1 (by simp [hl]) R2
theorem ZaT {f:Value}{first:Qo}{s:Shared}(R:RS c F st (first.reverse++f::vs) s) (h:CJ c first.length st Q):
 wpAny (model c.p c.w) c.A (callWith pos f first (backTo pos (starEach [] c.env)) []) (EQ c F vs Q) NoE s:=by
 refine W.callWith_of (P:=fun h=>ZF c f h) rfl (fun h hk=>hk) (evalArgs_nil3 ?_);refine oza (h F f first vs s rfl R) fun h1 h2=>?_;exact ⟨h1,by simpa using h2⟩
theorem UM {fe:Expr}{e:Expr}{r:Qs}(h:EJ c fe st fun st1=>GJ c (e::r) st1 fun st2=>CJ c (e::r).length st2 Q) (ha:XG fe=false:=by rfl) (hs:Zy (e::r)=true:=by rfl):EJ c (.Call fe (e::r) [] pos) st Q:=fun F vs s R=>by
 rw [Y2 _ _ _ ha];refine Kd (wpm (h F vs s R) (fun f s1 zq1=>?_));refine ozg zq1 fun st1 R1 h1=>?_;exact Zby (first:=[]) R1 (by simpa using h1) hs
theorem Zmz {fe:Expr}(h:EJ c fe st fun st1=>CJ c 0 st1 Q) (ha:XG fe=false:=by rfl):EJ c (.Call fe [] [] pos) st Q:=fun F vs s R=>by
 rw [Y2 _ _ _ ha];refine Kd (wpm (h F vs s R) (fun f s1 zq2=>?_));refine ozg zq2 fun st1 R1 h1=>?_;exact ZaT (first:=[]) R1 h1
theorem XV {e:Expr}{r:Qs}(h:EJ c oe st fun st1=>MJ c name st1 fun n st2=>GJ c (e::r) st2 fun st3=>CJ c (n+(e::r).length) st3 Q)
 (hb:Xs oe=false:=by rfl) (hs:Zy (e::r)=true:=by rfl) (hn:decide ((e::r).length<30)=true:=by rfl) (hl:(apos.endLine==pos.line)=true:=by rfl):EJ c (.Call (.Attribute oe name apos) (e::r) [] pos) st Q:=fun F vs s R =>
 Ui (F:=F) (vs:=vs) hb hs hn hl (wpm (h F vs s R) (fun ov s1 zq3 pl=>by obtain ⟨st1,R1,h1⟩:=zq3;exact Kb (h1 F ov vs s1 pl R1) (fun fx s2 zq4=>by obtain ⟨st2,R2,h2⟩:=zq4;exact Zby R2 h2 hs) fun j j x=>x))
theorem Xu (h:EJ c oe st fun st1=>MJ c name st1 fun n st2=>CJ c n st2 Q)
 (hb:Xs oe=false:=by rfl) (hl:(apos.endLine==pos.line)=true:=by rfl):EJ c (.Call (.Attribute oe name apos) [] [] pos) st Q:=fun F vs s R =>
 Ui (F:=F) (vs:=vs) hb rfl rfl hl (wpm (h F vs s R) (fun ov s1 zq5 pl=>by obtain ⟨st1,R1,h1⟩:=zq5;exact Kb (h1 F ov vs s1 pl R1) (fun fx s2 zq6=>by obtain ⟨st2,R2,h2⟩:=zq6;exact ZaT R2 h2) fun j j x=>x))
theorem WY {n:Nat}{f:Value}{as:Qh}{r:A}(hn:as.length=n) (hk:∀h,ZF c f h)
 (h:∀(F:Fz) (st:St) (vs:Qo) (s:Shared) (g:Heap) (ρ:Qp) (m) (us:Qo),RSW c F st vs s g ρ m→ARs c.p c.w g ρ as us→∀(Q':Qj),(∀x t,AR c.p c.w g ρ r x→Q' x {s with toks:=t})→wpAny (model c.p c.w) c.A (call f us) Q' NoE s)
 (q:Q ⟨l,o,r::k⟩):CJ c n ⟨l,o,as.reverse++.d (.val f)::k⟩ Q:=fun F f' us vs s hl zq7=>by
 refine Ka fun zn5=>?_;obtain ⟨g,ρ,m,W⟩:=zq7;refine oza (ZA W.stk (by rw [hl,hn])) fun q1 q2=>?_;refine zn5 ?_;have ef:f'=f:=Zd q2;subst ef;exact ⟨hk _,h F _ _ s g ρ m us W q1 _ fun x t hx=>⟨_,⟨g,ρ,m,(W.tok t).stack (Zh hx (Zb q2))⟩,q⟩⟩
theorem Yp {p:Program}{w:World}(h:ARs p w g ρ [a] us):∃u,us=[u]∧AR p w g ρ a u:=by
 refine Zc h fun u r e h1 h2=>?_;subst h2;exact ⟨u,e,h1⟩
theorem YF {p:Program}{w:World}{b:A}(h:ARs p w g ρ [a,b] us):∃u v,us=[u,v]∧AR p w g ρ a u∧AR p w g ρ b v:=by
 refine Zc h fun u r e h1 h2=>?_;refine Za (Yp h2) fun v e2 h3=>?_;subst e2;exact ⟨u,v,e,h1,h3⟩
theorem Zf3 {xs:Qi}(hf:xs.length<2 ^ 62) (q:Q ⟨l,o,.d (.int xs.length)::k⟩):CJ c 1 ⟨l,o,.d (.list xs)::.d (.val (.builtin "len"))::k⟩ Q :=
 WY (as:=[.d (.list xs)]) rfl (fun j=>Zl) (fun F st vs s g ρ m us W h Q' hq=>by
  obtain ⟨u,rfl,a,ws,e1,hl,hv⟩:=Yp h;subst e1;have hn:=ZU hv
  have:=hq (.int xs.length (s.toks+1)) (s.toks+1+1) YS;exact len_list (hl.sub W.keep).isList (by simp [hn];lia) (by simpa [hn] using this)) q
theorem ZiG (hf:x.length<2 ^ 62) (q:Q ⟨l,o,.d (.int x.length)::k⟩):CJ c 1 ⟨l,o,.d (.str x)::.d (.val (.builtin "len"))::k⟩ Q :=
 WY (as:=[.d (.str x)]) rfl (fun j=>Zl) (fun F st vs s g ρ m us W h Q' hq=>by
  refine ZjB (Yp h) fun u zo1 t e1=>?_;subst zo1;subst e1;exact len_str (by lia) (hq _ _ YS)) q
theorem Wu {a:D}{T:String}{id:String}(pa:PlainAttrs T) (slot:Slot T name id) (hty:typeOf (.builtin id)=pure (.type "method_descriptor"))
 (ht:∀p w g (s:Shared) u,Sub g s.heap→VR p w g a u→s.TypeIs u T∧∀b,u = .ref b→∃ob,s.heap.get? b=some ob∧ob.dict=none)
 (q:QM 1 ⟨l,o,.d a::.d (.val (.builtin id))::k⟩):MJ c name ⟨l,o,.d a::k⟩ QM:=fun F ov vs s pl zq9=>by
 refine Ka fun zn14=>?_;refine ozr zq9 fun g ρ m W=>?_;have h1:=Zd W.stk;refine oza (ht _ _ g s ov W.keep h1) fun h2 h3=>?_;refine zn14 ?_;exact getMethod_builtin h2 pa slot hty h3 ⟨_,⟨g,ρ,m,W.stack (Zh h1 (Zh XY (Zb W.stk)))⟩,q⟩
theorem U7:∀p w g (s:Shared) u,Sub g s.heap→VR p w g (.str x) u→s.TypeIs u "str"∧∀b,u = .ref b→∃ob,s.heap.get? b=some ob∧ob.dict=none:=fun j j j j j j zq10=>by refine oze zq10 fun j e=>?_;subst e;exact ⟨rfl,fun j h=>by cases h⟩
theorem ZcX {es}:∀p w g (s:Shared) u,Sub g s.heap→VR p w g (.dict es) u→s.TypeIs u "dict"∧∀b,u = .ref b→∃ob,s.heap.get? b=some ob∧ob.dict=none:=fun p w j s j hs zq11=>by
 refine Z8 zq11 fun a kvs e j hl j=>?_;subst e;have hl':=Zz p w hs hl;exact ⟨hl'.typeIs,fun j h=>by injection h with zi;subst zi;refine ZgP hl' fun ob j j h1 h2 j=>?_;exact ⟨ob,h1,h2.2.1⟩⟩
theorem ZfU {x}:∀p w g (s:Shared) u,Sub g s.heap→VR p w g (.bytes x) u→s.TypeIs u "bytes"∧∀b,u = .ref b→∃ob,s.heap.get? b=some ob∧ob.dict=none:=fun j j j j j j zq12=>by refine oze zq12 fun j e=>?_;subst e;exact ⟨rfl,fun j h=>by cases h⟩
theorem ZqL {id:String}(ho:o[i]?=some (.list xs)) (slot:Slot "list" name id) (hty:typeOf (.builtin id)=pure (.type "method_descriptor"))
 (q:QM 1 ⟨l,o,.own i::.d (.val (.builtin id))::k⟩):MJ c name ⟨l,o,.own i::k⟩ QM:=fun F ov vs s pl zq13=>by
 obtain ⟨g,ρ,m,W⟩:=zq13;have h1:=Zd W.stk;have h0:∃a,ρ[i]?=some a∧ov = .ref a:=h1;refine Za h0 fun a ea e1=>?_;subst e1;refine Za (W.own i _ a ho ea) fun ws zo2 hx=>?_;refine oze zo2 fun n hw=>?_;exact getMethod_builtin (T:="list") ⟨_,hw,rfl⟩ PySem.F.plainAttrs_list slot hty (fun b e=>by injection e with zi;subst zi;exact ⟨_,hw,rfl⟩) ⟨_,⟨g,ρ,m,W.stack (Zh h1 (Zh XY (Zb W.stk)))⟩,q⟩
theorem WW {p:Program}{w:World}{A:Around}{s:Shared}{a:Addr}{Q':Qj}(h:IsLst s.heap a us) (hn:us.length≤1000000)
 (q:∀h',IsLst h' a (us++[v])→Heap.SameBut a s.heap h'→Q' .none {s with heap:=h'}):wpAny (model p w) A (call (.builtin "list.append") [.ref a,v]) Q' E s:=by
 refine oze h fun n e=>?_;refine wpAny_call_entry slot_list_append (T:="list") ⟨_,e,rfl⟩ entry_list_append ?_ (args_list_append _ _);show wpAny _ _ (updateSeq a (·.push v) >>= fun j=>ret .none) _ _ s;refine Kd (wpAny_updateSeq e rfl (Ki ⟨.none,rfl,q _ ?_ (Heap.SameBut.update ..)⟩) (by rw [sizeLine_eq,List.size_toArray];lia) (by rw [sizeLine_eq];simp;lia));refine ⟨n+1,?_⟩;rw [Heap.get?_update_self _ e (by rfl)];simp [Obj.mapSeq]
theorem ZkY (ho:o[i]?=some (.list xs)) (hn:xs.length≤1000000) (q:Q ⟨l,o.set i (.list (xs++[a])),.d .none::k⟩):CJ c 2 ⟨l,o,a::.own i::.d (.val (.builtin "list.append"))::k⟩ Q:=fun F f us vs s hl zq14=>by
 obtain ⟨g,ρ,m,W⟩:=zq14;refine oza (ZA (xs:=[.own i,a]) W.stk (by rw [hl];rfl)) fun q1 q2=>?_;have ef:f=_:=Zd q2;subst ef;refine Zc (YF q1) fun u v zo3 zo4 hv=>?_;subst zo3;refine Za zo4 fun ad ea e1=>?_;subst e1;refine Za (W.own i _ ad ho ea) fun ws hw hx=>?_;refine ⟨Zl,WW hw (by rw [Y8 hx];exact hn) fun h' h1 h2=>?_⟩;refine ⟨_,⟨g,ρ,m,((W.stack (Zb q2)).setOwn (t:=s.toks) (ZB ho).1 ea (fun b ob hb e=>(h2.2 b hb).trans e) (o':=.list (xs++[a])) ⟨_,h1,Zd7 hx hv⟩).push Zbr⟩,q⟩
end
end
section
inductive FPost (G:Gx) (F:Fz) (g:Heap) (R:D→Prop) (v:Value) (s':Shared):Prop
 | mk (g':Heap) (d:D) (H:HS G F s' g') (hs:Sub g g') (hv:VR G.p G.w g' d v) (h:R d)
def Zw (G:Gx) (f:Value) (need:Nat) (args:Qi) (R:D→Prop):Prop :=
 ∀(A:Around) (F:Fz) (us:Qo) (s:Shared) (g:Heap),A.handled=none→A.depth+need<recursionLimit→A.units+8*need+40≤cLine→HS G F s g→VRs G.p G.w g args us →
  wpAny (model G.p G.w) A (call f us) (FPost G F g R) NoE s
section
variable {s:Shared}{m:Qk}
noncomputable def Zo (h:Heap) (bs:Qp):List (Addr×Obj):=bs.filterMap fun b=>(h.get? b).map fun o=>(b,o)
theorem Zj {h:Heap}{bs:Qp}{q:Addr×Obj}(x:q∈Zo h bs):q.1∈bs∧h.get? q.1=some q.2:=by
 refine Za (List.mem_filterMap.mp x) fun b hb e=>?_;refine Za (YW e) fun ob e1 e2=>?_;subst e2;exact ⟨hb,e1⟩
theorem ZX {h:Heap}{bs:Qp}{b:Addr}{ob:Obj}(hb:b∈bs) (e:h.get? b=some ob):(b,ob)∈Zo h bs :=
 List.mem_filterMap.mpr ⟨b,hb,by rw [e];rfl⟩
noncomputable def Fz.call (F:Fz) (g h:Heap) (bs:Qp):Fz:={g₀:=g,hid:=F.hid++Zo h bs,gens:=F.gens,os:=F.os,pin:=[]}
theorem RSW.toCall (R:RSW c F st vs s g ρ m):HS c.G (F.call g s.heap (c.env.locals::ρ)) s g where
 base:=R.base
 g0:=Sub.refl _
 keep:=R.keep
 reg:=R.reg
 hid:=fun q hq=>by
  rcases ZL hq with hq | hq
  ·exact R.hid q hq
  ·refine oza (Zj hq) fun h1 h2=>?_;exact ⟨h2,R.nomut _ (ZD h1),(R.apart _ h1).1⟩
 gens:=R.gens
 bare:=R.bare
 os:=R.os
theorem RSW.back (R:RSW c F st vs s g ρ m) (H:HS c.G (F.call g s.heap (c.env.locals::ρ)) s' g'):RSW c F st vs s' g' ρ m:=by
 have hh:∀b∈c.env.locals::ρ,∃ob,s.heap.get? b=some ob∧s'.heap.get? b=some ob∧g'.get? b=none:=fun b hb=>by
  refine oze (R.there b hb) fun ob e=>?_;refine Yz (H.hid (b,ob) (Kf _ (ZX hb e))) fun h1 h2 j=>?_;exact ⟨ob,e,h1,h2⟩
 refine R.onto (g':=g') {base:=H.base,g0:=R.g0.trans H.g0,keep:=H.keep,reg:=H.reg,hid:=fun q hq=>H.hid q (Kg _ hq),gens:=H.gens,bare:=H.bare,os:=H.os} H.g0 (fun b hb=>?_) fun b hb ob e=>?_
 ·refine Zt (hh b hb) fun j j j h=>?_;exact h
 ·refine Zt (hh b hb) fun ob' e1 e2 j=>?_;rw [e] at e1;obtain rfl:=Kc e1;exact e2
end
section
variable {l:Qc}
theorem Wr {n:Nat}{f:Value}{args:Qi}{R:D→Prop}(H:Zw c.G f need args R) (hk:∀h,c.G.lib.B h→ZF c f h) (hn:need≤c.fuel) (hl:args.length=n) (q:∀d,R d→Q ⟨l,o,.d d::k⟩):
 CJ c n ⟨l,o,(args.map A.d).reverse++.d (.val f)::k⟩ Q:=fun F f' us vs s hu zq0=>by
 refine Ka fun zn5=>?_;obtain ⟨g,ρ,m,W⟩:=zq0;refine oza (ZA (xs:=args.map A.d) W.stk (by simp [hu,hl])) fun q1 q2=>?_;refine zn5 ?_;have ef:f'=f:=Zd q2;subst ef;have hd:=c.hd;have hun:=c.hu;refine ⟨?_,?_⟩
 ·exact hk _ (c.G.lib.mono _ _ W.keep W.base)
 ·refine wpm (H c.A _ us s g c.hh (by exact nT (by assumption) (by assumption)) (by exact nK (by assumption) (by assumption)) W.toCall (UG.mp q1)) (fun v s' zq1=>?_);obtain ⟨g',d,H',hs,hv,hR⟩:=zq1;exact ⟨_,⟨g',ρ,m,(W.back H').stack (Zh (a:=.d d) hv (ARs.sub _ _ hs (Ext.refl _) _ _ (Zb q2)))⟩,q d hR⟩
end
theorem ZdF {α:Type}{cs:List (Str×α)}{n:Str}{c:α}(hnd:(cs.map (·.1)).Nodup) (hm:(n,c)∈cs):cs.lookup n=some c:=by
 induction cs with
 | nil=>exact nomatch hm
 | cons q cs ih =>
  have hnd:=List.nodup_cons.mp hnd;rw [List.lookup_cons];refine Or.elim (ZH hm) (fun e=>?_) fun hm=>?_
  ·rw [←e,Ro]
  ·rw [Zdx fun e:n=q.1=>hnd.1 (show q.1∈cs.map (·.1) from e▸Ri (f:=(·.1)) hm)];exact ih hnd.2 hm
theorem HS.fresh {s:Shared}(H:HS G F s g){a:Addr}(h:s.heap.objs.size≤a):(∀r∈G.reg,a≠r.at_)∧∀q∈F.hid,a≠q.1:=⟨fun r hr q=>by
 refine YK (H.reg r hr) fun j ob e j=>?_;exact absurd (Kk e) (by rw [←q];exact Za7 h),fun q hq z=>by
 exact absurd (Kk (H.hid q hq).1) (by rw [←z];exact Za7 h)⟩
theorem HS.at_g {s:Shared}(H:HS G F s g):HS G {F with g₀:=g,pin:=[]} s g :=
 {base:=H.base,g0:=Sub.refl _,keep:=H.keep,reg:=H.reg,hid:=H.hid,gens:=H.gens,bare:=H.bare,os:=H.os}
end
section
def AsJ (c:Cx) (tgt:Expr) (st:St) (Q:Qf):Prop :=
 ∀F v vs s,RS c F st (v::vs) s→wpAny (model c.p c.w) c.A (assign tgt c.env v) (fun j s'=>Got c F vs Q s') NoE s
section
variable {s:Shared}{m:Qk}
theorem RSW.hide (R:RSW c F st vs s g ρ m) (h:∀q∈hs,s.heap.get? q.1=some q.2∧g.get? q.1=none∧q.1∉ZG c.G F (c.env.locals::ρ)):RSW c {F with g₀:=g,hid:=hs++F.hid} st vs s g ρ m :=
 {base:=R.base,g0:=Sub.refl _,keep:=R.keep,reg:=R.reg
  hid:=fun q hq=>by
   rcases ZL hq with hq | hq
   ·refine Yz (h q hq) fun h1 h2 h3=>?_;exact ⟨h1,h2,fun r hr z=>h3 (z▸Xq hr)⟩
   ·exact R.hid q hq
  gens:=R.gens,bare:=R.bare,os:=R.os,ns:=R.ns,nl:=R.nl,loc:=R.loc,len:=R.len,nd:=R.nd,fr:=R.fr,own:=R.own,stk:=R.stk,cel:=R.cel,pin:=R.pin
  apart:=fun b hb=>⟨(R.apart b hb).1,fun q hq z=>by
   rcases List.mem_append.mp hq with hq | hq
   ·exact (h q hq).2.2 (z▸ZD hb)
   ·exact (R.apart b hb).2 q hq z⟩}
theorem RSW.rehide {hs':List (Addr×Obj)}(R:RSW c {F with g₀:=g₁,hid:=hs++F.hid} st vs s g ρ m) (hd:∀q∈F.hid,q.1∉hs.map (·.1)){t:Nat}(hk:∀b o,b∉hs.map (·.1)→s.heap.get? b=some o→h'.get? b=some o)
 (hh:∀q∈hs',q.1∈hs.map (·.1)∧h'.get? q.1=some q.2):RSW c {F with g₀:=g₁,hid:=hs'++F.hid} st vs {s with heap:=h',toks:=t} g ρ m:=by
 have key:∀b∈hs.map (·.1),g.get? b=none∧b∉c.env.locals::ρ∧∀r∈c.G.reg,b≠r.at_:=fun b hb=>by
  refine Za (Yh hb) fun q hq zo1=>?_;subst zo1;refine Yz (R.hid q (Kg _ hq)) fun j h2 h3=>?_;exact ⟨h2,fun z=>(R.apart _ z).2 q (Kg _ hq) rfl,h3⟩
 have out:∀b∈c.env.locals::ρ,b∉hs.map (·.1):=fun b hb z=>(key b z).2.1 hb
 exact {
  base:=R.base
  g0:=R.g0
  keep:=fun b o e=>hk b o (fun z=>by rw [(key b z).1] at e;exact Zp e) (R.keep b o e)
  reg:=fun r hr=>by refine YK (R.reg r hr) fun h1 o h2 h3=>?_;exact ⟨h1,o,hk _ _ (fun z=>(key _ z).2.2 r hr rfl) h2,h3⟩
  hid:=fun q hq=>by
   refine Or.elim (ZL hq) (fun hq=>?_) fun hq=>?_
   ·refine oza (hh q hq) fun h1 h2=>?_;exact ⟨h2,(key _ h1).1,(key _ h1).2.2⟩
   ·refine oza (R.hid q (Kf _ hq)) fun h1 h2=>?_;exact ⟨hk _ _ (hd q hq) h1,h2⟩
  gens:=R.gens,bare:=R.bare,os:=R.os
  ns:=by refine ZS R.ns fun o es ep h r=>?_;exact ⟨o,es,ep,hk _ _ (out _ (.head _)) h,r⟩
  nl:=R.nl,loc:=R.loc,len:=R.len,nd:=R.nd,fr:=R.fr
  own:=fun i o a h1 h2=>OAt.sub _ _ (Sub.refl _) (Ext.refl _) (fun ob e=>hk _ _ (out _ (.tail _ (Kj h2))) e) o (R.own i o a h1 h2)
  stk:=R.stk,cel:=R.cel,pin:=R.pin
  apart:=fun b hb=>⟨(R.apart b hb).1,fun q hq z=>by
   refine Or.elim (ZL hq) (fun hq=>?_) fun hq=>?_
   ·exact out b hb (z▸(hh q hq).1)
   ·exact (R.apart b hb).2 q (Kf _ hq) z⟩}
theorem Ye {h:Heap}{bs:Qp}(x:∀b∈bs,∃o,h.get? b=some o):∀b,b∈(Zo h bs).map (·.1)↔b∈bs:=fun b=>⟨fun hb=>by
 refine Za (Yh hb) fun q hq zo1=>?_;subst zo1;exact (Zj hq).1,fun hb=>by
 refine oze (x b hb) fun o e=>?_;exact List.mem_map.mpr ⟨_,ZX hb e,rfl⟩⟩
theorem RSW.pinned (R:RSW c F st vs s g ρ m) (h:∀q∈pn,ρ[q.1]?=some q.2):RSW c {F with pin:=pn++F.pin} st vs s g ρ m :=
 {toHS:=⟨R.base,R.g0,R.keep,R.reg,R.hid,R.gens,R.bare,R.os⟩,ns:=R.ns,nl:=R.nl,loc:=R.loc,len:=R.len,nd:=R.nd,fr:=R.fr,own:=R.own,stk:=R.stk,cel:=R.cel,apart:=R.apart
  pin:=fun q hq=>(ZL hq).elim (h q) (R.pin q)}
theorem RSW.unpin (R:RSW c {F with pin:=pn++F.pin} st vs s g ρ m):RSW c F st vs s g ρ m :=
 {toHS:=⟨R.base,R.g0,R.keep,R.reg,R.hid,R.gens,R.bare,R.os⟩,ns:=R.ns,nl:=R.nl,loc:=R.loc,len:=R.len,nd:=R.nd,fr:=R.fr,own:=R.own,stk:=R.stk,cel:=R.cel,apart:=R.apart
  pin:=fun q hq=>R.pin q (Kf _ hq)}
end
structure Feed (G:Gx) (need:Nat) (tgt:Expr) (it:Addr) (wr fp:Qp) (g₁:Heap) (pn:Qn) (xs:Qh) (ok:Qf) (Si:Nat→Heap→Prop):Prop where
 th:∀i h,Si i h→∀b∈wr,∃o,h.get? b=some o
 fpx:∀b∈fp,b∈wr∨∃o,g₁.get? b=some o
 frame:∀i h h',Si i h→(∀b∈fp,∀o,h.get? b=some o→h'.get? b=some o)→Si i h'
 item:∀(c:Cx) (F:Fz) hs i a st vs s,c.G=G→need≤c.fuel→xs[i]?=some a→Si i s.heap→ok st→Sub g₁ F.g₀→(∀q∈pn,q∈F.pin)→(∀q∈hs,q.1∉wr)→RS c {F with hid:=Zo s.heap wr++hs} st vs s →
  wpAny (model c.p c.w) c.A (pyNext (.ref it)) (fun r s1=>∃v,r=some v∧wpAny (model c.p c.w) c.A (letOwnedTupleGo tgt (.ref it) v) (fun _ s2=>Si (i+1) s2.heap∧RS c {F with hid:=Zo s2.heap wr++hs} ⟨st.loc,st.own,a::st.stk⟩ (v::vs) s2) NoE s1) NoE s
 self:∀(A:Around) i (s:Shared) (Q:Qj) (E:Qj),A.handled=none→Si i s.heap→Q (.ref it) s→wpAny (model G.p G.w) A (pyIter (.ref it)) Q E s
 done:∀(c:Cx) (F:Fz) hs st vs s,c.G=G→need≤c.fuel→Si xs.length s.heap→ok st→Sub g₁ F.g₀→(∀q∈pn,q∈F.pin)→(∀q∈hs,q.1∉wr)→RS c {F with hid:=Zo s.heap wr++hs} st vs s →
  wpAny (model c.p c.w) c.A (pyNext (.ref it)) (fun r s1=>r=none∧RS c {F with hid:=hs} st vs s1) NoE s
theorem Feed.ofK {n:Nat}{P Md:Nat→Value→Heap→Prop}(K:∀A:Around,A.handled=none→W.KTurns G.p G.w A tgt it fp wr n P Md Si) (hself:∀(A:Around) i (s:Shared) (Q:Qj) (E:Qj),A.handled=none→Si i s.heap→Q (.ref it) s→wpAny (model G.p G.w) A (pyIter (.ref it)) Q E s) (hth:∀i h,Si i h→∀b∈wr,∃o,h.get? b=some o)
 (hfp:∀b∈fp,b∈wr∨∃o,g₁.get? b=some o) (xs:Qi) (hn:n=xs.length) (hP:∀i v h,i<n→P i v h→∃x,xs[i]?=some x∧VR G.p G.w g₁ x v):Feed G 0 tgt it wr fp g₁ [] (xs.map .d) (fun j=>True) Si where
 th:=hth
 fpx:=hfp
 frame:=(K callerA rfl).frame
 self:=hself
 item:=fun c F hs i a st vs s e j ha hSi j hg j hd zq2=>by
  refine ozr zq2 fun g ρ m W=>?_;subst e;have hi:i<n:=by have:=(ZB ha).1;simpa [hn] using this
  refine (K c.A c.hh).item i s _ _ hi hSi fun v h' tk hMd hk=>⟨v,rfl,(K c.A c.hh).go i v _ _ _ hMd fun h2 hPv hSi2 hk2=>⟨hSi2,?_⟩⟩;refine Za (hP i v h2 hi hPv) fun x hx hv=>?_;have keys:=Ye (hth _ _ hSi);have W2:=RSW.rehide (F:={F with hid:=hs}) (g₁:=F.g₀) W (hs':=Zo h2 wr) (fun q hq z=>hd q hq ((keys _).mp z)) (h':=h2) (t:=tk) (fun b o hb e=>hk2 b o (fun z=>hb ((keys b).mpr z)) (hk b o (fun z=>hb ((keys b).mpr z)) e)) fun q hq=>⟨(keys _).mpr (Zj hq).1,(Zj hq).2⟩;have ea:a = .d x:=by rw [Ru,hx] at ha;exact (Kc ha).symm
  subst ea;exact ⟨g,ρ,m,W2.push (a:=.d x) (v:=v) (VR.sub _ _ (hg.trans W2.g0) _ _ hv)⟩
 done:=fun c F hs st vs s e j hSi j j j hd zq3=>by
  refine ozr zq3 fun g ρ m W=>?_;subst e;have hl:(xs.map A.d).length=n:=by simp [hn]
  rw [hl] at hSi;refine (K c.A c.hh).done s _ _ hSi fun h' tk hk=>⟨rfl,g,ρ,m,?_⟩;have keys:=Ye (hth _ _ hSi);exact RSW.rehide (F:={F with hid:=hs}) (g₁:=F.g₀) W (hs':=[]) (fun q hq z=>hd q hq ((keys _).mp z)) (h':=h') (t:=tk) (fun b o hb e=>hk b o (fun z=>hb ((keys b).mpr z)) e) (fun j h=>nomatch h)
theorem Feed.ofT {elts:Qs}{k:Nat}{n:Nat}{Pt:Nat→Array Value→Prop}{Mid:Nat→Addr→Heap→Prop}(K:∀A:Around,A.handled=none→WalksT G.p G.w A it fp wr n Pt Si Mid) (hth:∀i h,Si i h→∀b∈wr,∃o,h.get? b=some o)
 (hfp:∀b∈fp,b∈wr∨∃o,g₁.get? b=some o) (xs:List (Qi)) (hn:n=xs.length) (hP:∀i vals,i<n→Pt i vals→∃x,xs[i]?=some x∧VRs G.p G.w g₁ x vals.toList):Feed G 0 (.Tuple elts k pos) it wr fp g₁ [] (xs.map fun x=>.d (.tuple x)) (fun j=>True) Si where
 th:=hth
 fpx:=hfp
 frame:=(K callerA rfl).frame
 self:=fun A i s Q E hA hSi hq=>(K A hA).self i s Q E hSi hq
 item:=fun c F hs i a st vs s e j ha hSi j hg j hd zq4=>by
  refine ozr zq4 fun g ρ m W=>?_;subst e;have hi:i<n:=by have:=(ZB ha).1;simpa [hn] using this
  refine (K c.A c.hh).item i s _ _ hi hSi fun T vals h' tk hPt hfresh hT hMd hk=>⟨.ref T,rfl,(K c.A c.hh).go elts k pos i T _ _ _ hMd fun h2 hSi2 hk2=>⟨hSi2,?_⟩⟩;refine Za (hP i vals hi hPt) fun x hx hv=>?_;have keys:=Ye (hth _ _ hSi);have ea:a = .d (.tuple x):=by rw [Ru,hx] at ha;exact (Kc ha).symm
  subst ea;have hTn:T∉wr:=(K c.A c.hh).apart _ _ _ hMd;have hm:T∉ZG c.G {F with hid:=Zo h2 wr++hs} (c.env.locals::ρ):=fun hmem=>by
   have:T∈ZG c.G {F with hid:=Zo s.heap wr++hs} (c.env.locals::ρ):=by
    refine Or.elim (List.mem_append.mp hmem) (fun z=>?_) fun z=>?_
    ·exact Kg _ z
    ·refine Or.elim (List.mem_append.mp z) (fun z=>?_) fun z=>?_
     ·exact Kf _ (Kg _ z)
     ·refine Za (Yh z) fun q hq e=>?_;refine Or.elim (List.mem_append.mp hq) (fun hq=>?_) fun hq=>?_
      ·exact absurd (e▸(Zj hq).1) hTn
      ·exact Kf _ (Kf _ (List.mem_map.mpr ⟨q,Kf _ hq,e⟩))
   refine oze (W.thereM _ this) fun o e=>?_;exact absurd (Kk e) (Za7 hfresh)
  have W3:=(RSW.rehide (F:={F with hid:=hs}) (g₁:=F.g₀) W (hs':=Zo h2 wr) (fun q hq z=>hd q hq ((keys _).mp z)) (h':=h2) (t:=tk) (fun b o hb e=>hk2 b o (fun z=>hb ((keys b).mpr z)) (hk b o (fun z=>hb ((keys b).mpr z)) e)) fun q hq=>⟨(keys _).mpr (Zj hq).1,(Zj hq).2⟩).canon;refine Za (hT.at (h':=h2) fun o e=>hk2 T o hTn e) fun o e1 e2=>?_;refine ⟨_,ρ,m,W3.push (a:=.d (.tuple x)) (v:=.ref T) ⟨T,vals.toList,rfl,⟨o,Q1 _ e1 hm,e2⟩,VRs.sub _ _ (hg.trans W3.g0) _ _ hv⟩⟩
 done:=fun c F hs st vs s e j hSi j j j hd zq5=>by
  refine ozr zq5 fun g ρ m W=>?_;subst e;have hl:(xs.map fun x=>A.d (.tuple x)).length=n:=by simp [hn]
  rw [hl] at hSi;refine (K c.A c.hh).done s _ _ hSi fun h' tk hk=>⟨rfl,g,ρ,m,?_⟩;have keys:=Ye (hth _ _ hSi);exact RSW.rehide (F:={F with hid:=hs}) (g₁:=F.g₀) W (hs':=[]) (fun q hq z=>hd q hq ((keys _).mp z)) (h':=h') (t:=tk) (fun b o hb e=>hk b o (fun z=>hb ((keys b).mpr z)) e) (fun j h=>nomatch h)
inductive FeedGot (c:Cx) (F:Fz) (tgt:Expr) (vs:Qo) (Q:Qb) (itv:Value) (s':Shared):Prop
 | mk (it:Addr) (need:Nat) (wr fp:Qp) (g₁:Heap) (pn:Qn) (xs:Qh) (ok:Qf) (Si:Nat→Heap→Prop) (st':St) (e:itv = .ref it) (hn:need≤c.fuel) (K:Feed c.G need tgt it wr fp g₁ pn xs ok Si) (h0:Si 0 s'.heap) (hs:Sub F.g₀ g₁) (hd:∀q∈F.hid,q.1∉wr)
  (R:RS c {F with g₀:=g₁,hid:=Zo s'.heap wr++F.hid,pin:=pn++F.pin} st' vs s') (h:Q ok xs st')
def ItJ (c:Cx) (tgt:Expr) (st:St) (Q:Qb):Prop :=
 ∀F v vs s,RS c F st (v::vs) s→wpAny (model c.p c.w) c.A (pyIter v) (FeedGot c F tgt vs Q) NoE s
def IEJ (c:Cx) (tgt e:Expr) (st:St) (Q:Qb):Prop :=
 ∀F vs s,RS c F st vs s→wpAny (model c.p c.w) c.A (eval e c.env) (fun v s1=>wpAny (model c.p c.w) c.A (pyIter v) (FeedGot c F tgt vs Q) NoE s1) NoE s
theorem UA {e:Expr}{Q:Qb}(h:EJ c e st fun st1=>ItJ c tgt st1 Q):IEJ c tgt e st Q:=fun F vs s R =>
 wpm (h F vs s R) (fun v s1 zq6=>by refine ozg zq6 fun j R1 h1=>?_;exact h1 F v vs s1 R1)
noncomputable def Wg (c:Cx) (tgt:Expr) (body:Qr) (ok:Qf):Qh→St→(Fl→St→Prop)→Prop
 | [],st,Q=>ok st∧Q .next st
 | x::xs,st,Q=>ok st∧AsJ c tgt ⟨st.loc,st.own,x::st.stk⟩ fun st1=>XJ c body st1 (lpQ (fun st2=>Wg c tgt body ok xs st2 Q) Q)
section
variable {s:Shared}{m:Qk}
theorem HS.unhide (H:HS G {F with g₀:=g₁,hid:=hs++F.hid,pin:=pn} s g) (x:Sub F.g₀ g₁):HS G F s g :=
 ⟨H.base,x.trans H.g0,H.keep,H.reg,fun q hq=>H.hid q (Kf _ hq),H.gens,H.bare,H.os⟩
theorem RS.unhide (R:RS c {F with g₀:=g₁,hid:=hs++F.hid,pin:=pn++F.pin} st vs s) (x:Sub F.g₀ g₁):RS c F st vs s:=by
 refine ozr R fun g ρ m W=>?_;refine ⟨g,ρ,m,{toHS:=W.toHS.unhide x,ns:=W.ns,nl:=W.nl,loc:=W.loc,len:=W.len,nd:=W.nd,fr:=W.fr,own:=W.own,stk:=W.stk,cel:=W.cel,apart:=fun b hb=>⟨(W.apart b hb).1,fun q hq=>(W.apart b hb).2 q (Kf _ hq)⟩,pin:=fun q hq=>W.pin q (Kf _ hq)}⟩
theorem Feed.stay {ok:Qf}(K:Feed G need tgt it wr fp g₁ pn xs ok Si) (hSi:Si i h'){F':Fz}
 (hF:F'.hid=Zo h' wr++hs) {st3:St} {us:Qo} {s3:Shared} {c':Cx} (hb:Sub g₁ h') (hg:Sub g₁ F'.g₀) (hd:∀q∈hs,q.1∉wr) (R:RS c' F' st3 us s3):Si i s3.heap∧RS c' {F' with hid:=Zo s3.heap wr++hs} st3 us s3:=by
 refine ozr R fun g3 ρ3 m3 W4=>?_;have hSi3:Si i s3.heap:=K.frame _ _ _ hSi fun b hb' o e=>by
  rcases K.fpx b hb' with hb' | ⟨o',e'⟩
  ·exact (W4.hid (b,o) (hF▸Kg _ (ZX hb' e))).1
  ·rw [hb _ _ e'] at e;obtain rfl:=Kc e;exact (W4.keep _ _ (W4.g0 _ _ (hg _ _ e')))
 refine ⟨hSi3,g3,ρ3,m3,?_⟩;have keys:=Ye (K.th _ _ hSi);obtain ⟨g0',hid',gens',os',pin'⟩:=F';dsimp only at hF;subst hF;exact RSW.rehide (F:=⟨g0',hs,gens',os',pin'⟩) (g₁:=g0') (hs:=Zo h' wr) (hs':=Zo s3.heap wr) W4 (fun q hq z=>hd q hq ((keys _).mp z)) (h':=s3.heap) (t:=s3.toks) (fun j j j e=>e) fun q hq=>⟨(keys _).mpr (Zj hq).1,(Zj hq).2⟩
def Stp (Z:Flow→Shared→Prop) (I:Nat→Shared→Prop) (n:Nat) (f:Flow) (s:Shared):Prop:=match f with
 | .next=>∃m,m<n∧I m s
 | .cont=>∃m,m<n∧I m s
 | .brk=>Z .next s
 | .ret v=>Z (.ret v) s
def Zg5 (c:Cx) (tgt:Expr) (body:Qr) (it:Value) (Z:Flow→Shared→Prop) (I:Nat→Shared→Prop) (n:Nat) (s:Shared):Prop :=
 wpAny (model c.p c.w) c.A (pyNext it) (fun r s₁=>match r with
  | none=>Z .next s₁
  | some v=>wpAny (model c.p c.w) c.A (letOwnedTupleGo tgt it v) (fun j s₂=>wpAny (model c.p c.w) c.A (assign tgt c.env v) (fun j s₃=>wpAny (model c.p c.w) c.A (execs body c.env) (Stp Z I n) NoE s₃) NoE s₂) NoE s₁) NoE s
theorem ZiV {Z:Flow→Shared→Prop}(h:wpAny (model c.p c.w) c.A (eval iter c.env) (fun v s1=>wpAny (model c.p c.w) c.A (pyIter v) (fun it s2=>∃(I:Nat→Shared→Prop) (n:Nat),I n s2∧∀n s,I n s→Zg5 c tgt body it Z I n s) NoE s1) NoE s)
 (hs:∀x,foldedSetIterable iter c.env x=pure x):wpAny (model c.p c.w) c.A (exec (.For tgt iter body [] pos) c.env) Z NoE s:=by
 refine wpAny_For (Kb h (fun v s1 h1=>Kb h1 (fun it s2 h2=>?_) fun j j x=>x.elim) fun j j x=>x.elim) hs;refine ZE h2 fun I n h0 turn=>?_;refine codeAny_forLoop_any I (fun n s hI=>Kb (turn n s hI) (fun r s1 h=>?_) fun j j x=>False.elim x) n h0;induction r with
 | none=>exact wpAny_execs_nil h
 | some v =>
  refine Kb h (fun j s2 h=>Kb h (fun j s3 h=>Kb h (fun f s4 h=>?_) fun j j x=>False.elim x) fun j j x=>False.elim x) fun j j x=>False.elim x;induction f <;> exact h
inductive FInv (c:Cx) (F:Fz) (g₁:Heap) (pn:Qn) (wr:Qp) (tgt:Expr) (body:Qr) (ok:Qf) (Si:Nat→Heap→Prop) (xs:Qh) (QF:Fl→St→Prop) (vs:Qo) (k:Nat) (s':Shared):Prop
 | mk (i:Nat) (st':St) (hi:i≤xs.length) (hk:k=xs.length+1 - i) (hS:Si i s'.heap) (R:RS c {F with g₀:=g₁,hid:=Zo s'.heap wr++F.hid,pin:=pn++F.pin} st' vs s') (hL:Wg c tgt body ok (xs.drop i) st' QF)
theorem ZbG {n:Nat}(h:i<n):n+1 - (i+1)<n+1 - i:=Nat.sub_lt_sub_left (Nat.lt_succ_of_lt h) (Nat.lt_succ_self i)
theorem Zg8 (h:IEJ c tgt iter st fun ok xs st2=>Wg c tgt body ok xs st2 QF)
 (hs:∀x,foldedSetIterable iter c.env x=pure x:=by intro j;rfl):SJ c (.For tgt iter body [] pos) st QF:=fun F vs s R=>by
 refine ZiV (wpm (h F vs s R) (fun v s1 h1=>Kb h1 (fun itv s2 h2=>?_) fun j j x=>x)) hs;obtain ⟨it,need,wr,fp,g₁,pn,xs,ok,Si,st2,rfl,hneed,K,hS0,hg,hd,R2,hL⟩:=h2;refine ⟨FInv c F g₁ pn wr tgt body ok Si xs QF vs,xs.length+1,⟨0,st2,Q4 _,rfl,hS0,R2,hL⟩,fun k s1 I=>?_⟩;obtain ⟨i,st1,hi,rfl,hSi,R1,hL1⟩:=I;rcases Nat.lt_or_ge i xs.length with hlt | hge
 ·rw [List.drop_eq_getElem_cons hlt] at hL1;refine oza hL1 fun hok hL1=>?_;refine wpm (K.item c {F with g₀:=g₁,pin:=pn++F.pin} F.hid i _ st1 vs s1 rfl hneed (Ke hlt) hSi hok (Sub.refl _) (fun q hq=>Kg _ hq) hd R1) (fun r s2 zq7=>?_);refine Za zq7 fun v zo3 h2=>?_;subst zo3;refine wpm h2 (fun j s3 zq8=>?_);obtain ⟨hSi3,R3⟩:=zq8;refine wpm (hL1 _ v vs _ R3) (fun j s4 z=>?_);refine ozg z fun st4 R4 h4=>?_;refine wpm (h4 _ vs s4 R4) (fun f s5 h5=>?_);have hg3:Sub g₁ s3.heap:=by refine ozr R3 fun j j j W=>?_;exact W.g0.trans W.keep
  have stay:∀{st':St} {us:Qo},RS c {F with g₀:=g₁,hid:=Zo s3.heap wr++F.hid,pin:=pn++F.pin} st' us s5→_:=fun R5=>K.stay hSi3 rfl hg3 (Sub.refl _) hd R5;have go:∀{st':St},RS c {F with g₀:=g₁,hid:=Zo s3.heap wr++F.hid,pin:=pn++F.pin} st' vs s5→Wg c tgt body ok (xs.drop (i+1)) st' QF→∃m,m<xs.length+1 - i∧FInv c F g₁ pn wr tgt body ok Si xs QF vs m s5:=fun R5 h6=>⟨_,ZbG hlt,i+1,_,hlt,rfl,(stay R5).1,(stay R5).2,h6⟩;induction f with
  | next=>refine ozg h5 fun st5 R5 h6=>?_;exact go R5 h6
  | cont=>refine ozg h5 fun st5 R5 h6=>?_;exact go R5 h6
  | brk=>refine ozg h5 fun st5 R5 h6=>?_;exact ⟨st5,(stay R5).2.unhide hg,h6⟩
  | ret v=>obtain ⟨st5,R5,h6⟩:=h5;exact ⟨st5,(stay R5).2.unhide hg,h6⟩
 ·obtain rfl:=Nat.le_antisymm hi hge;rw [List.drop_length] at hL1;obtain ⟨hok,hL1⟩:=hL1;refine wpm (K.done c {F with g₀:=g₁,pin:=pn++F.pin} F.hid st1 vs s1 rfl hneed hSi hok (Sub.refl _) (fun q hq=>Kg _ hq) hd R1) (fun r s2 zq10=>?_);obtain ⟨rfl,R2⟩:=zq10;exact ⟨st1,RS.unhide (hs:=[]) (pn:=pn) R2 hg,hL1⟩
end
end
section
noncomputable def Zf1 (c:Cx):Qs→List D→St→(Qf)→Prop
 | [],[],st,Q=>Q st
 | e::es,d::ds,st,Q=>AsJ c e ⟨st.loc,st.own,.d d::st.stk⟩ fun st1=>Zf1 c es ds st1 Q
 | _,_,_,_=>False
section
variable {s:Shared}{m:Qk}{l:Qc}
theorem Z7 (h:NJ c x st Q):AsJ c (.Name x pos) st Q:=fun F v vs s R=>PyProof.Rows.assign_Name (h F v vs s R)
theorem RSW.at_g (R:RSW c F st vs s g ρ m):RSW c {F with g₀:=g} st vs s g ρ m :=
 {toHS:=⟨R.base,Sub.refl _,R.keep,R.reg,R.hid,R.gens,R.bare,R.os⟩,ns:=R.ns,nl:=R.nl,loc:=R.loc,len:=R.len,nd:=R.nd,fr:=R.fr,own:=R.own,stk:=R.stk,cel:=R.cel,apart:=R.apart,pin:=R.pin}
theorem RS.of_g (x:Sub F.g₀ g₁) (R:RS c {F with g₀:=g₁} st vs s):RS c F st vs s:=by
 refine ozr R fun g ρ m W=>?_;exact ⟨g,ρ,m,{toHS:=⟨W.base,x.trans W.g0,W.keep,W.reg,W.hid,W.gens,W.bare,W.os⟩,ns:=W.ns,nl:=W.nl,loc:=W.loc,len:=W.len,nd:=W.nd,fr:=W.fr,own:=W.own,stk:=W.stk,cel:=W.cel,apart:=W.apart,pin:=W.pin}⟩
theorem ZmW {es:Qs}{ds:Qi}{s:Shared}(h:VRs c.p c.w F.g₀ ds us) (hq:Zf1 c es ds st Q) (R:RS c F st vs s):
 wpAny (model c.p c.w) c.A (assignInOrder (es.map fun e=>assign e c.env) us) (fun j s'=>Got c F vs Q s') NoE s:=by
 replace h:=Y5.mp h;induction h generalizing es st s with
 | nil=>induction es using LLc with
  | nil=>exact assignInOrder_nil ⟨st,R,hq⟩
  | cons _ _=>exact hq.elim
 | cons h1 _ ih=>induction es using LLc with
  | nil=>exact hq.elim
  | cons e es =>
   obtain ⟨g,ρ,m,W⟩:=R;refine assignInOrder_cons (wpm (hq F _ vs s ⟨g,ρ,m,W.push (VR.sub _ _ W.g0 _ _ h1)⟩) (fun j s1 z=>?_));refine ozg z fun st1 R1 hq1=>?_;exact ih hq1 R1
theorem Zen {elts:Qs}{n:Nat}{ds:Qi}(hn:elts.length=ds.length) (h:Zf1 c elts ds ⟨l,o,k⟩ Q) (he:assignEach elts c.env=elts.map fun e=>(false,assign e c.env):=by rfl):AsJ c (.Tuple elts n pos) ⟨l,o,.d (.tuple ds)::k⟩ Q:=fun F v vs s zq1=>by
 refine ozr zq1 fun g ρ m W=>?_;refine Zc ((Zd W.stk:VR c.p c.w g (.tuple ds) v)) fun a us e1 ht hv=>?_;subst e1;have hs:(assignEach elts c.env).findIdx? (·.1)=none:=by rw [he];simp [List.findIdx?_map,Function.comp]
 refine assign_Tuple_tuple c.hh (items:=us.toArray) (ht.sub W.keep).isTup (by rw [he];simp [(ZU hv),hn]) hs fun h' hx=>?_;have hSub:Sub s.heap h':=fun b ob e=>hx b ob (Rg (Kk e)) e
 have:=ZmW (us:=us) hv h ⟨g,ρ,m,(((W.grow (s':={s with heap:=h'}) hSub W.gens W.bare rfl).stack (Zb W.stk)).at_g)⟩;have e2:(assignEach elts c.env).map (·.2)=elts.map fun e=>assign e c.env:=by rw [he,Q0];rfl
 rw [e2];exact wpm this (fun j s' zq2=>by refine ozg zq2 fun st' R' hq=>?_;exact ⟨st',RS.of_g W.g0 R',hq⟩)
theorem Ud {ok:Qf}{ob:Obj}(W:RSW c F st vs s g ρ m) (hneed:need≤c.fuel)
 (K:Feed c.G need tgt s.heap.objs.size [s.heap.objs.size] fp g pn xs ok Si) (h0:Si 0 (s.heap.push ob)) (hp:∀q∈pn,ρ[q.1]?=some q.2) (q:QI ok xs st) :
 FeedGot c F tgt vs QI (.ref s.heap.objs.size) {s with heap:=s.heap.push ob}:=by
 have hsz:=W.size_nomut;refine ⟨_,need,_,fp,g,pn,xs,ok,Si,st,rfl,hneed,K,h0,W.g0,fun q hq z=>?_,⟨g,ρ,m,?_⟩,q⟩
 ·rw [Q3] at z;exact hsz (z▸YO hq)
 ·have W1:=(W.alloc ob s.toks).hide (hs:=Zo (s.heap.push ob) [s.heap.objs.size]) fun q hq=>by
   obtain ⟨h1,h2⟩:=Zj hq;rw [Q3] at h1;refine ⟨h2,?_,?_⟩
   ·rw [h1];exact W.keep.none (ZbO _)
   ·rw [h1];exact hsz
  exact W1.pinned hp
theorem X9 (h:∀i h,Si i h→∃o,h.get? I=some o):∀i h,Si i h→∀b∈[I],∃o,h.get? b=some o:=fun i h' x b hb=>by
 rw [Q3] at hb;subst hb;exact h i h' x
theorem Yx {h:Heap}{l:Addr}(x:h.IsListIter I l i):∃o,h.get? I=some o:=by refine Za x fun o e j=>?_;exact ⟨o,e⟩
theorem Zhi {xs:Qi}(q:QI (fun j=>True) (xs.map .d) ⟨l,o,k⟩)
 (ht:(∀it v,letOwnedTupleGo tgt it v=pure ())∨∃a b c,tgt = .Tuple a b c∧∀x∈xs,∃y,x = .tuple y):ItJ c tgt ⟨l,o,.d (.list xs)::k⟩ QI:=fun F v vs s zq4=>by
 obtain ⟨g,ρ,m,W⟩:=zq4;refine Zc ((Zd W.stk:VR c.p c.w g (.list xs) v)) fun a us e1 hl hv=>?_;subst e1;have hl':=(hl.sub W.keep).isList;have hne:a≠s.heap.objs.size:=fun z=>absurd (hl.sub W.keep).lt (by rw [z];exact Rn _);refine wpAny_pyIter_list hl' (Ud (W.stack (Zb W.stk)) (need:=0) (Q4 _) (fp:=[s.heap.objs.size,a]) (pn:=[]) (Si:=fun i h=>h.IsListIter s.heap.objs.size a i∧h.IsList a us.toArray) ?_ ⟨⟨_,Kh _ rfl,rfl,rfl⟩,isList_sub (Sub.push _ _) hl'⟩ (fun j h=>nomatch h) q);refine Feed.ofK (n:=us.toArray.size) (P:=fun i v h=>us.toArray[i]?=some v) (Md:=fun i v h=>us.toArray[i]?=some v∧(h.IsListIter s.heap.objs.size a (i+1)∧h.IsList a us.toArray)) (fun A hA=>?_) (fun A i s Q E hA hSi hq=>wpAny_pyIter_listiter hSi.1 hq) (X9 fun i h x=>Yx x.1) (fun b hb=>?_) xs (by simp [(ZU hv)]) fun i v h hi hP=>?_
 ·rcases ht with ht | ⟨x1,x2,x3,rfl,hx⟩
  ·exact PySem.W.KTurns.ofWalks (Walks.list hA _ a hne us.toArray) fun i v s Q E j hq=>wpAny_of_eq (ht _ _) hq
  ·have W0:=Walks.list (prog:=c.G.p) (w:=c.G.w) hA s.heap.objs.size a hne us.toArray
   exact {sub:=W0.sub,frame:=W0.frame,item:=fun i s Q E hi st hQ=>W0.item i s Q E hi st fun v h' tk hP st' hk=>hQ v h' tk ⟨hP,st'⟩ hk,done:=W0.done
          go:=fun i v s Q E hm hQ=>by
           refine Za (UW hv (i:=i) (v:=v) (by simpa using hm.1)) fun x e2 e3=>?_;refine oze (hx x (Kj e2)) fun y zo1=>?_;subst zo1;refine ZE e3 fun T j zo2 j=>?_;subst zo2;exact wpAny_letOwnedTupleGo_listiter hm.2.1 (hQ s.heap hm.1 hm.2 fun j j j e=>e)}
 ·rcases ZH hb with rfl | hb
  ·exact .inl (Zdd rfl)
  ·rw [Q3] at hb;subst hb;refine Za hl fun j e j=>?_;exact .inr ⟨_,e⟩
 ·exact UW hv (by simpa using hP)
theorem Zgd {ob:Obj}{n:Nat}{P:Nat→Value→Prop}(W:RSW c F st vs s g ρ m)
 (K:∀A:Around,A.handled=none→Walks c.p c.w A s.heap.objs.size fp [s.heap.objs.size] n P Si) (hth:∀i h,Si i h→∃o,h.get? s.heap.objs.size=some o) (h0:Si 0 (s.heap.push ob)) (hfp:∀b∈fp,b=s.heap.objs.size∨∃o,g.get? b=some o) (xs:Qi) (hn:n=xs.length)
 (hP:∀i v,i<n→P i v→∃x,xs[i]?=some x∧VR c.p c.w g x v) (q:QI (fun j=>True) (xs.map .d) st) (ht:∀it v,letOwnedTupleGo tgt it v=pure ()) :
 FeedGot c F tgt vs QI (.ref s.heap.objs.size) {s with heap:=s.heap.push ob} :=
 Ud W (need:=0) (Q4 _) (pn:=[]) (Feed.ofK (fun A hA=>PySem.W.KTurns.ofWalks (K A hA) fun i v s Q E j hq=>wpAny_of_eq (ht _ _) hq) (fun A i s Q E hA hSi hq=>(K A hA).self i s Q E hSi hq) (X9 hth) (fun b hb=>(hfp b hb).imp (fun e=>Zdd e) id) xs hn fun i v j hi hPv=>hP i v hi hPv) h0 (fun j h=>nomatch h) q
theorem ZeA {a b:Int}(hs:Builtin.Range.small a b 1=true) (q:QI (fun j=>True) (((List.range (b - a).toNat).map fun (i:Nat)=>D.int (a+i)).map .d) ⟨l,o,k⟩)
 (ht:∀it v,letOwnedTupleGo tgt it v=pure ():=by intro j j;rfl):ItJ c tgt ⟨l,o,.d (.range a b)::k⟩ QI:=fun F v vs s zq5=>by
 obtain ⟨g,ρ,m,W⟩:=zq5;refine XR ((Zd W.stk:VR c.p c.w g (.range a b) v)) fun r t u z e1 hr=>?_;subst e1;have en:Builtin.Range.rangeSize a b 1=((b - a).toNat:Int):=by unfold Builtin.Range.rangeSize;simp;lia
 refine wpAny_pyIter_range (W.keep _ _ hr) hs (Zgd (W.stack (Zb W.stk)) (fun A hA=>Walks.range hA _ a 1 (b - a).toNat) (fun i h x=>⟨_,x⟩) ?_ (fun b hb=>.inl (YY hb)) _ (by simp) (fun i v hi hP=>?_) q ht)
 ·rw [en]
  have:=Kh s.heap (o:={cls:=.type "range_iterator",data:=.fields #[rawInt a,rawInt ((b - a).toNat:Int),rawInt 1]}) rfl;simpa [IsRangeIter] using this
 ·refine oze hP fun t zo1=>?_;subst zo1;exact ⟨.int (a+(i:Nat)),by simp [hi],t,by rw [Int.mul_one]⟩
theorem Zat {h:Heap}{a:Addr}(x:h.DictOf (strKind c.p c.w) a kvs):∃ep,h.DictAt (strKind c.p c.w) a kvs ep:=by refine ZkE x fun o es ep r=>?_;exact ⟨ep,o,es,r⟩
theorem Xg {h:Heap}(x:Sub h h'){a:Addr}(H:h.DictAt (strKind c.p c.w) a kvs ep):h'.DictAt (strKind c.p c.w) a kvs ep:=by refine ZE H fun o es e r=>?_;exact ⟨o,es,x _ _ e,r⟩
theorem ZdP {p:Program}{w:World}{x:Str×Value}(h:VRe p w g es kvs) (e:kvs[i]?=some x):∃d,es[i]?=some (x.1,d)∧VR p w g d x.2:=by
 refine Za ((Zgl.mp h).getR e) fun v h1 h2=>?_;exact ⟨v.2,h2.1.symm▸h1,h2.2⟩
theorem Zbp {p:Program}{w:World}(h:VRe p w g es kvs):kvs.length=es.length:=(Zgl.mp h).len
theorem Zbj {p:Program}{w:World}(h:(strKind p w).is x v=true):∃t,v = .str x t:=by
 induction v <;> simp [PySem.strKind,Value.isStrOf] at h;exact ⟨_,by rw [h]⟩
theorem ZdE (q:QI (fun j=>True) ((es.map fun e=>D.str e.1).map .d) ⟨l,o,k⟩)
 (ht:∀it v,letOwnedTupleGo tgt it v=pure ():=by intro j j;rfl):ItJ c tgt ⟨l,o,.d (.dict es)::k⟩ QI:=fun F v vs s zq15=>by
 obtain ⟨g,ρ,m,W⟩:=zq15;refine Z8 ((Zd W.stk:VR c.p c.w g (.dict es) v)) fun a kvs e1 hns hl hv=>?_;subst e1;refine oze (Zat hl) fun ep hl1=>?_;have hl':=Xg W.keep hl1;have hne:a≠s.heap.objs.size:=fun z=>by
  refine ZE hl' fun ob j e j=>?_;exact absurd (Kk e) (by rw [z];exact Rn _)
 refine wpAny_pyIter_dict (Zdx hns) hl' (Zgd (W.stack (Zb W.stk)) (fun A hA=>Walks.dictKeys (knd:=strKind c.p c.w) hA _ a hne kvs ep) (fun i h x=>by refine Za x.1 fun o e j=>?_;exact ⟨o,e⟩) ⟨⟨_,Kh _ rfl,rfl,rfl⟩,Xg (Sub.push _ _) hl'⟩ (fun b hb=>?_) _ (by simp [(Zbp hv)]) (fun i v hi hP=>?_) q ht)
 ·rcases ZH hb with rfl | hb
  ·exact .inl rfl
  ·rw [Q3] at hb;subst hb;refine ZE hl1 fun ob j e j=>?_;exact .inr ⟨_,e⟩
 ·refine ZE hP fun y z h1 h2=>?_;refine Za (ZdP hv h1) fun d h3 j=>?_;exact ⟨.str y,by simp [h3],Zbj h2⟩
theorem Zc8 (q:QI (fun j=>True) ((es.map fun e=>e.2).map .d) ⟨l,o,k⟩)
 (ht:∀it v,letOwnedTupleGo tgt it v=pure ():=by intro j j;rfl):ItJ c tgt ⟨l,o,.d (.view .values es)::k⟩ QI:=fun F v vs s zq17=>by
 obtain ⟨g,ρ,m,W⟩:=zq17;refine Zal ((Zd W.stk:VR c.p c.w g (.view .values es) v)) fun a d kvs e1 hns hw hl hv=>?_;subst e1;refine oze (Zat hl) fun ep hl1=>?_;have hl':=Xg W.keep hl1;have hne:d≠s.heap.objs.size:=fun z=>by
  refine ZE hl' fun ob j e j=>?_;exact absurd (Kk e) (by rw [z];exact Rn _)
 refine wpAny_pyIter_values (Xl W.keep .values hw) hl' (Zgd (W.stack (Zb W.stk)) (fun A hA=>Walks.dictValues (knd:=strKind c.p c.w) hA _ d hne kvs ep) (fun i h x=>by refine Za x.1 fun o e j=>?_;exact ⟨o,e⟩) ⟨⟨_,Kh _ rfl,rfl,rfl⟩,Xg (Sub.push _ _) hl'⟩ (fun b hb=>?_) _ (by simp [(Zbp hv)]) (fun i v hi hP=>?_) q ht)
 ·rcases ZH hb with rfl | hb
  ·exact .inl rfl
  ·rw [Q3] at hb;subst hb;refine ZE hl1 fun ob j e j=>?_;exact .inr ⟨_,e⟩
 ·refine oze hP fun y h1=>?_;refine Za (ZdP hv h1) fun z h3 h4=>?_;exact ⟨z,by simp [h3],h4⟩
end
end
section
section
variable {s:Shared}{m:Qk}{l:Qc}
theorem ZoD {p:Program}{w:World}{es:Qe}{x:Str×A}(h:ARe p w g ρ es kvs) (e:es[i]?=some x):∃v,kvs[i]?=some (x.1,v)∧AR p w g ρ x.2 v:=by
 refine Za ((Xm.mp h).get e) fun v h1 h2=>?_;exact ⟨v.2,h2.1▸h1,h2.2⟩
theorem YD {p:Program}{w:World}{es:Qe}(h:ARe p w g ρ es kvs):kvs.length=es.length:=(Xm.mp h).len
theorem ZcR (W:RSW c {F with hid:=Zo s.heap [I]++hs} st vs s g ρ m) (hI:∃o,s.heap.get? I=some o) (hd:∀q∈hs,q.1∉[I]){t:Nat}(hk:∀b o,b≠I→s.heap.get? b=some o→h'.get? b=some o):
 RSW c {F with hid:=Zo h' [I]++hs} st vs {s with heap:=h',toks:=t} g ρ m:=by
 have keys:=Ye (h:=s.heap) (bs:=[I]) fun b hb=>by rw [Q3] at hb;subst hb;exact hI
 exact RSW.rehide (F:={F with hid:=hs}) (g₁:=F.g₀) W (hs':=Zo h' [I]) (fun q hq z=>hd q hq ((keys _).mp z)) (h':=h') (t:=t) (fun b o hb e=>hk b o (fun z=>hb ((keys b).mpr (Zdd z))) e) fun q hq=>⟨(keys _).mpr (Zj hq).1,(Zj hq).2⟩
theorem ZeE (W:RSW c {F with hid:=Zo s.heap [I]++hs} st vs s g ρ m) (hI:∃o,s.heap.get? I=some o) (hd:∀q∈hs,q.1∉[I]){t:Nat}(hk:∀b o,b≠I→s.heap.get? b=some o→h'.get? b=some o):
 RSW c {F with hid:=hs} st vs {s with heap:=h',toks:=t} g ρ m:=by
 have keys:=Ye (h:=s.heap) (bs:=[I]) fun b hb=>by rw [Q3] at hb;subst hb;exact hI
 exact RSW.rehide (F:={F with hid:=hs}) (g₁:=F.g₀) W (hs':=[]) (fun q hq z=>hd q hq ((keys _).mp z)) (h':=h') (t:=t) (fun b o hb e=>hk b o (fun z=>hb ((keys b).mpr (Zdd z))) e) (fun j h=>nomatch h)
theorem Zln (ho:o[j]?=some (.list xs)) (q:QI (fun st=>st.own[j]?=some (.list xs)) xs ⟨l,o,k⟩)
 (ht:∀it v,letOwnedTupleGo tgt it v=pure ():=by intro r r;rfl):ItJ c tgt ⟨l,o,.own j::k⟩ QI:=fun F v vs s zq0=>by
 refine ozr zq0 fun g ρ m W=>?_;obtain ⟨a,ea,e1⟩:∃a,ρ[j]?=some a∧v = .ref a:=Zd W.stk;subst e1;refine Za (W.own j _ a ho ea) fun us hl hv=>?_;have hne:a≠s.heap.objs.size:=fun z=>by
  refine oze hl fun n e=>?_;exact absurd (Kk e) (by rw [z];exact Rn _)
 refine wpAny_pyIter_list hl.isList (Ud (W.stack (Zb W.stk)) (need:=0) (Q4 _) (fp:=[s.heap.objs.size]) (pn:=[(j,a)]) (Si:=fun i h=>h.IsListIter s.heap.objs.size a i) ?_ ⟨_,Kh _ rfl,rfl,rfl⟩ (fun q hq=>by rw [Q3] at hq;subst hq;exact ea) q);refine {th:=X9 fun i h x=>Yx x,fpx:=fun b hb=>.inl hb,frame:=fun i h h' x hk=>x.at fun o e=>hk _ (Zdd rfl) o e,self:=fun A i s Q E hA hSi hq=>wpAny_pyIter_listiter hSi hq,item:=?_,done:=?_}
 ·rintro c' F' hs i x st' vs' s' hc r hx hSi hok r hp hd ⟨g',ρ',m',W'⟩;refine Ka fun zn3=>?_;refine Za (W'.own j _ a hok (W'.pin _ (hp _ (List.mem_singleton.mpr rfl)))) fun us' hl' hv'=>?_;refine Za (ZhB hv' hx) fun u hu hr=>?_;refine zn3 ?_;refine wpAny_pyNext_list_item hSi hl'.isList (x:=u) (by simpa using hu) fun h2 hit hs2=>⟨u,rfl,wpAny_of_eq (ht _ _) ⟨hit,g',ρ',m',?_⟩⟩;exact (ZcR W' (Yx hSi) hd (h':=h2) (t:=s'.toks) fun b o hb e=>(hs2.2 b hb).trans e).push hr
 ·rintro c' F' hs st' vs' s' hc r hSi hok r hp hd ⟨g',ρ',m',W'⟩;refine Za (W'.own j _ a hok (W'.pin _ (hp _ (Zdd rfl)))) fun us' hl' hv'=>?_;refine wpAny_pyNext_list_end c'.hh hSi hl'.isList (by simp [Y8 hv']) fun h2 he=>⟨rfl,g',ρ',m',?_⟩;exact ZeE W' (Yx hSi) hd (h':=h2) (t:=s'.toks) fun b o hb e=>he b o hb e
theorem ZhN (W:RSW c F st vs s g ρ m) (hs:Sub s.heap h') (hw:∀b∈wr,s.heap.objs.size≤b) (hp:∀q∈pn,ρ[q.1]?=some q.2):
 ∃g',Sub g g'∧(∀b o,s.heap.objs.size≤b→b∉wr→h'.get? b=some o→g'.get? b=some o)∧Sub F.g₀ g'∧(∀q∈F.hid,q.1∉wr)∧RS c {F with g₀:=g',hid:=Zo h' wr++F.hid,pin:=pn++F.pin} st vs {s with heap:=h'}:=by
 have nm:∀b,s.heap.objs.size≤b→b∉ZG c.G F (c.env.locals::ρ):=fun b hb z=>by
  refine oze (W.thereM _ z) fun ob e=>?_;exact absurd (Kk e) (Za7 hb)
 have W0:=((W.grow (s':={s with heap:=h'}) hs W.gens W.bare rfl).hide (hs:=Zo h' wr) fun q hq=>by
  refine oza (Zj hq) fun h1 h2=>?_;refine ⟨h2,?_,nm _ (hw _ h1)⟩;induction e:g.get? q.1 with
  | none=>rfl
  | some ob=>exact absurd (Kk (W.keep _ _ e)) (Za7 (hw _ h1))).pinned hp
 have sub:Sub g _:=fun b o e=>Q1 (ZG c.G _ (c.env.locals::ρ)) (W0.keep b o e) fun hb=>by rw [W0.nomut b hb] at e;exact Zp e
 refine ⟨_,sub,fun b o hb hn e=>Q1 _ e fun z=>?_,W.g0.trans sub,fun q hq z=>nm _ (hw _ z) (YO hq),_,ρ,m,W0.canon.at_g⟩;have:b∈ZG c.G F (c.env.locals::ρ):=by
  refine Or.elim (ZL z) (fun z=>?_) fun z=>?_
  ·exact Kg _ z
  ·refine Or.elim (ZL z) (fun z=>?_) fun z=>?_
   ·exact Kf _ (Kg _ z)
   ·refine Za (Yh z) fun q hq e=>?_;refine Or.elim (ZL hq) (fun hq=>?_) fun hq=>?_
    ·exact absurd (e▸(Zj hq).1) hn
    ·exact Kf _ (Kf _ (List.mem_map.mpr ⟨q,hq,e⟩))
 exact nm _ hb this
theorem ZlB {e:Expr}{r:Qs}(h:Zy (e::r)=true):YM e=false:=by
 unfold Zy at h;rw [List.all_cons] at h;induction hb:YM e with
 | false=>rfl
 | true=>rw [hb] at h;exact Xi h
theorem IsFl.isList_sub {h:Heap}{a:Addr}{ws:Qo}(x:IsFl h a ws) (hk:Sub h h'):h'.IsList a ws.toArray:=(x.sub hk).isList
theorem Zgk {α:Type}{P:α→Prop}:∀b∈([]:List α),P b:=fun j h=>nomatch h
theorem Wp {α:Type}{P:α→Prop}{a:α}{l:List α}(h:P a) (t:∀b∈l,P b):∀b∈a::l,P b:=fun b hb=>by
 cases hb with
 | head=>exact h
 | tail _ hb=>exact t b hb
theorem Zgm {fe ea:Expr}{er:Qs}{Q2:Qf}{P:Qj}(h:EJ c fe st fun st1=>GJ c (ea::er) st1 Q2) (hc:XG fe=false) (hs:Zy (ea::er)=true){s:Shared}(R:RS c F st vs s)
 (k:∀f us s2 st2,us.length=(ea::er).length→RS c F st2 (us.reverse++f::vs) s2→Q2 st2→ZF c f s2.heap∧wpAny (model c.p c.w) c.A (call f us) P NoE s2):wpAny (model c.p c.w) c.A (eval (.Call fe (ea::er) [] pos) c.env) P NoE s:=by
 rw [Y2 _ _ _ hc];refine Kd (wpm (h F vs s R) (fun f s1 zq2=>?_));refine ozg zq2 fun st1 R1 h1=>?_;refine W.callWith_of (P:=fun h=>ZF c f h) (by rw [(XA (pos:=pos) (env:=c.env) hs).1];rfl) (fun h hk=>hk) ?_;have key:=h1 F (f::vs) s1 pos R1;rw [ZT _ _ (ZlB hs)] at key ⊢;refine evalArgs_plain (wpm key (fun us s2 zq3=>?_));refine Ka fun zn9=>?_;obtain ⟨hl,st2,R2,q⟩:=zq3;refine zn9 ?_;exact k f us s2 st2 hl R2 q
theorem Zms {f f0:Value}{xs:Qi}(h:ARs G.p G.w g ρ st.stk (us.reverse++f::vs)) (e:st.stk = .d (.list xs)::.d (.val f0)::r) (hl:us.length=1)
 (k:∀a ws,IsFl g a ws→VRs G.p G.w g xs ws→ARs G.p G.w g ρ r vs→us=[.ref a]→f=f0→P):P:=by
 rw [e] at h;refine oza (ZA (xs:=[.d (.list xs)]) (us:=us) (r:=.d (.val f0)::r) h hl) fun q1 q2=>?_;obtain ⟨u,e1,a,ws,e2,hla,hva⟩:=Yp q1;exact k a ws hla hva (Zb q2) (by rw [e1,e2]) (Zd q2)
theorem ZaR {p:Program}{w:World}{A:Around}(hh:A.handled=none) (I d:Addr) (hne:d≠I) (kvs:Ql) (ep:Nat):
 WalksT p w A I [I,d] [I] kvs.length (fun i vals=>∃x t y,kvs[i]?=some (x,y)∧vals=#[.str x t,y])
  (fun i h=>(∃ok ov,IsItemIter h I d i kvs.length ep ok ov)∧h.DictAt (strKind p w) d kvs ep)
  (fun i T h=>(∃ok ov,IsItemIterOut h I d (i+1) kvs.length ep ok ov T)∧h.DictAt (strKind p w) d kvs ep∧T≠I) where
 sub:=fun b hb=>by simp at hb;simp [hb]
 frame:=fun i h h' hst hk=>by
  refine Ka fun zn15=>?_;obtain ⟨⟨ok,ov,he⟩,o,es,e,r⟩:=hst;refine zn15 ?_;exact ⟨⟨ok,ov,hk I (by simp) _ he⟩,o,es,hk d (by simp) _ e,r⟩
 item:=fun i s Q E hi hst hQ=>by
  refine oza hst fun zo3 hd=>?_;refine Ue zo3 fun ok ov he=>?_;obtain ⟨⟨x,y⟩,hx⟩:∃p,kvs[i]?=some p:=⟨kvs[i],by simp [hi]⟩;refine wpAny_pyNext_items_item he hd hx fun key h' hkey ho hT hsz hk=>?_;refine oze (Zbj hkey) fun t zo3=>?_;subst zo3;have hIlt:I<s.heap.objs.size:=Kk he;refine ZE hd fun o es e r=>?_;exact hQ _ #[.str x t,y] h' s.toks ⟨x,t,y,hx,rfl⟩ (Kq _) ⟨_,hT,rfl,_,rfl⟩ ⟨⟨_,_,ho⟩,⟨o,es,hk d o hne e,r⟩,Nat.ne_of_gt hIlt⟩ fun b o hb e=>hk b o (fun z=>hb (by simp [z])) e
 go:=fun elts k pos i T s Q E hm hQ=>by
  refine Ka fun zn18=>?_;refine Yz hm fun zo6 zo7 hT=>?_;refine Ue zo6 fun ok ov ho=>?_;refine ZE zo7 fun o es e r=>?_;refine zn18 ?_;refine wpAny_letOwnedTupleGo_items ho fun h' he' hs'=>hQ h' ⟨⟨ok,ov,he'⟩,o,es,(hs'.2 d hne).trans e,r⟩ fun b o hb e=>(hs'.2 b fun z=>hb (by simp [z])).trans e
 apart:=fun i T h hm hT=>by
  refine Yz hm fun j j hn=>?_;exact hn (YY hT)
 done:=fun s Q E hst hQ=>by
  refine Ka fun zn20=>?_;refine oza hst fun zo7 hd=>?_;refine Ue zo7 fun ok ov he=>?_;refine zn20 ?_;exact wpAny_pyNext_items_end hh he hd (by simp) fun h' he'=>hQ h' s.toks fun b o hb e=>he' b o (fun z=>hb (by simp [z])) e
 self:=fun i s Q E hst hQ=>by
  refine Ka fun zn21=>?_;refine oza hst fun zo8 j=>?_;refine Ue zo8 fun ok ov he=>?_;refine zn21 ?_;exact PySem.W.kcp_self he hQ
theorem Zi9 {elts:Qs}{n:Nat}{tp:Pos}(q:QI (fun j=>True) ((es.map fun e=>[D.str e.1,e.2]).map fun x=>.d (.tuple x)) ⟨l,o,k⟩):ItJ c (.Tuple elts n tp) ⟨l,o,.d (.view .items es)::k⟩ QI:=fun F v vs s zq4=>by
 obtain ⟨g,ρ,m,W⟩:=zq4;refine Zal ((Zd W.stk:VR c.p c.w g (.view .items es) v)) fun a d kvs e1 hns hw hl hv=>?_;subst e1;refine oze (Zat hl) fun ep hl1=>?_;have hl':=Xg W.keep hl1;have hne:d≠s.heap.objs.size:=fun z=>by
  refine ZE hl' fun ob j e j=>?_;exact absurd (Kk e) (by rw [z];exact Rn _)
 refine wpAny_pyIter_items (Xl W.keep .items hw) hl' (Ud (W.stack (Zb W.stk)) (need:=0) (Q4 _) (pn:=[]) (Feed.ofT (fun A hA=>ZaR hA _ d hne kvs ep) (X9 fun i h x=>by refine Ue x.1 fun j j e=>?_;exact ⟨_,e⟩) (fun b hb=>?_) (es.map fun e=>[D.str e.1,e.2]) (by simp [(Zbp hv)]) fun i vals hi hP=>?_)
  ⟨⟨.none,.none,Kh _ rfl⟩,Xg (Sub.push _ _) hl'⟩ (fun j h=>nomatch h) q)
 ·rcases ZH hb with rfl | hb
  ·exact .inl (Zdd rfl)
  ·rw [Q3] at hb;subst hb;refine ZE hl1 fun ob j e j=>?_;exact .inr ⟨_,e⟩
 ·refine ZS hP fun x t y h1 zo1=>?_;subst zo1;refine Za (ZdP hv h1) fun z h2 h3=>?_;exact ⟨[.str x,z],by simp [h2],_,_,rfl,⟨t,rfl⟩,_,_,rfl,h3,rfl⟩
def ZpK (e it a:Addr) (xs:Array Value) (i:Nat) (h:Heap):Prop:=(∃old,IsEnum h e it i old)∧h.IsListIter it a i∧h.IsList a xs
theorem ZhT {elts:Qs}{n:Nat}{tp:Pos}{e a:Addr}(h1:e≠it) (h2:a≠e) (h3:a≠it){ws:Qo}{xs:Qi}(ha:IsFl g' a ws) (hva:VRs G.p G.w g' xs ws):
 Feed G 0 (.Tuple elts n tp) e [e,it] [e,it,a] g' [] ((xs.zipIdx.map fun q=>[D.int (q.2:Int),q.1]).map fun x=>.d (.tuple x)) (fun j=>True) (ZpK e it a ws.toArray):=by
 refine Za ha fun j xa j=>?_;refine Feed.ofT (n:=ws.toArray.size) (Pt:=fun i vals=>∃t x,ws.toArray[i]?=some x∧vals=#[.int i t,x]) (fun A hA=>WalksT.enumerate hA _ _ a h1 h2 h3 ws.toArray) (fun i h S=>?_) (Wp (.inl (.head _)) (Wp (.inl (.tail _ (.head _))) (Wp (.inr ⟨_,xa⟩) Zgk))) (xs.zipIdx.map fun q=>[D.int (q.2:Int),q.1]) (by simp [(ZU hva)]) fun i vals hi S=>?_
 ·refine Yz S fun zo2 a4 j=>?_;refine oze zo2 fun j a1=>?_;exact Wp ⟨_,a1⟩ (Wp (Yx a4) Zgk)
 ·refine ZE S fun t x e1 zo2=>?_;subst zo2;refine Za (UW hva (i:=i) (v:=x) (by simpa using e1)) fun d1 f1 f2=>?_;refine ⟨[.int (i:Nat),d1],?_,_,_,rfl,⟨t,rfl⟩,x,[],rfl,f2,rfl⟩;rw [Ru,List.getElem?_zipIdx,f1];simp
theorem Zm3 {elts:Qs}{n:Nat}{tp:Pos}{fe ea:Expr}(h:EJ c fe st fun st1=>GJ c [ea] st1 fun st2=>∃xs r,st2.stk = .d (.list xs)::.d (.val (.type "enumerate"))::r ∧
 QI (fun j=>True) ((xs.zipIdx.map fun q=>[D.int (q.2:Int),q.1]).map fun x=>.d (.tuple x)) ⟨st2.loc,st2.own,r⟩)
 (hc:XG fe=false:=by rfl) (hs:Zy [ea]=true:=by rfl):IEJ c (.Tuple elts n tp) (.Call fe [ea] [] pos) st QI:=fun F vs s R=>by
 refine Zgm h hc hs R fun f us s2 st2 hl R2 q=>?_;obtain ⟨g,ρ,m,W⟩:=R2;refine ZE q fun xs r hstk hq=>?_;refine Zms W.stk hstk hl fun a ws hla hva q2 e1 e2=>?_;subst e1 e2;have ha:=hla.sub W.keep;have hlt:=ha.lt;refine ⟨XB,call_enumerate_list ha.isList fun h' hz h1 hsz hk=>wpAny_pyIter_enum hz ?_⟩;refine Zgw (ZhN (W.stack q2) (h':=h') hk (wr:=[s2.heap.objs.size+1,s2.heap.objs.size]) (Wp (Ko _ _) (Wp (Kq _) Zgk)) (pn:=[]) (fun j h=>nomatch h)) fun g' sub new x1 x2 x3=>?_;exact .mk _ 0 _ _ g' [] _ _ _ _ rfl (Q4 _) (ZhT (Nat.succ_ne_self _) (Rg (Nat.lt_succ_of_lt hlt)) (Rg hlt) (hla.sub sub) (VRs.sub _ _ sub _ _ hva)) ⟨⟨_,hz⟩,h1,ha.isList_sub hk⟩ x1 x2 x3 hq
end
end
section
noncomputable def idx (ρ:Qp):Qn:=ρ.zipIdx.map fun q=>(q.2,q.1)
theorem Un {a:Addr}(h:ρ[i]?=some a):(i,a)∈idx ρ:=List.mem_map.mpr ⟨(a,i),List.mem_zipIdx_iff_getElem?.mpr h,rfl⟩
theorem Zdi {q:Nat×Addr}(h:q∈idx ρ):ρ[q.1]?=some q.2:=by
 refine Za (Yh h) fun x hx zo1=>?_;subst zo1;exact List.mem_zipIdx_iff_getElem?.mp hx
noncomputable def Fz.within (F:Fz) (g:Heap) (L:Addr) (lo:Obj) (ρ:Qp):Fz:=⟨g,(L,lo)::F.hid,F.gens,F.os,idx ρ⟩
section
variable {s:Shared}{m:Qk}
theorem RSW.enter (W:RSW c F st vs s g ρ m) (hG:c'.G=c.G){tk:Nat}{m':Qk}{l:Qc}(hk:Sub s.heap h') (hns:h'.Ns c'.env.locals m') (hC:c'.env.locals∉ZG c.G F (c.env.locals::ρ)) (hCg:g.get? c'.env.locals=none)
 (hl:∀(i:Nat) a,Zs i l=some a→∃x v,c'.tab[i]?=some x∧m' x=some v∧AR c.p c.w g ρ a v) (hcel:∀x (i:Nat),(x,i)∈c'.cel→∃a,ρ[i]?=some a∧c'.env.cells.lookup x=some a) :
 ∃lo,s.heap.get? c.env.locals=some lo∧RSW c' (F.within g c.env.locals lo ρ) ⟨l,st.own,[]⟩ [] {s with heap:=h',toks:=tk} g ρ m':=by
 refine ZS (id W.ns) fun lo es ep hlo hns0=>?_;have nm:∀b∈ZG c.G F (c.env.locals::ρ),c'.env.locals≠b:=fun b hb z=>hC (z▸hb);refine ⟨lo,hlo,{base:=?_,g0:=Sub.refl _,keep:=W.keep.trans hk,reg:=?_,hid:=?_,gens:=W.gens,bare:=W.bare,os:=W.os,ns:=hns,nl:=hCg,loc:=?_,len:=W.len,nd:=W.nd,fr:=?_,own:=?_,stk:=rfl,cel:=hcel,apart:=?_,pin:=?_}⟩
 ·rw [hG];exact W.base
 ·rw [hG];exact fun r hr=>by refine YK (W.reg r hr) fun h1 ob h2 h3=>?_;exact ⟨h1,ob,hk _ _ h2,h3⟩
 ·rw [hG];intro q hq;rcases ZH hq with rfl | hq
  ·exact ⟨hk _ _ hlo,W.nl,fun r hr=>(W.apart _ (.head _)).1 r hr⟩
  ·refine oza (W.hid q hq) fun h1 h2=>?_;exact ⟨hk _ _ h1,h2⟩
 ·intro x a h
  have:=hl x a h;unfold Cx.p Cx.w;rw [hG];exact this
 ·exact fun b hb=>⟨(W.fr b hb).1,(nm b (ZD (.tail _ hb))).symm⟩
 ·intro i ob a h1 h2
  have:=OAt.sub _ _ (Sub.refl _) (Ext.refl _) (fun j e=>hk _ _ e) ob (W.own i ob a h1 h2);unfold Cx.p Cx.w;rw [hG];exact this
 ·intro b hb;rw [hG];rcases ZH hb with rfl | hb
  ·refine ⟨fun r hr=>nm _ (Xq hr),fun q hq=>?_⟩;rcases ZH hq with rfl | hq
   ·exact nm _ (ZD (.head _))
   ·exact nm _ (YO hq)
  ·refine ⟨(W.apart b (.tail _ hb)).1,fun q hq=>?_⟩;rcases ZH hq with rfl | hq
   ·exact (W.fr b hb).2
   ·exact (W.apart b (.tail _ hb)).2 q hq
 ·exact fun q hq=>Zdi hq
theorem RSW.leave (W:RSW c F st vs s g ρ m) (hG:c'.G=c.G){lo:Obj}(hlo:s.heap.get? c.env.locals=some lo){st5:St}{vs5:Qo}{s5:Shared}{g5:Heap}{ρ5:Qp}{m5:Qk}
 (W5:RSW c' (F.within g c.env.locals lo ρ) st5 vs5 s5 g5 ρ5 m5) {h':Heap} {tk:Nat} (hk:∀b o,b≠c'.env.locals→s5.heap.get? b=some o→h'.get? b=some o) :
 RSW c F ⟨st.loc,st5.own,st.stk⟩ vs {s5 with heap:=h',toks:=tk} g5 ρ5 m∧Sub g g5∧Ext ρ ρ5:=by
 have ex:Ext ρ ρ5:=fun i a e=>W5.pin (i,a) (Un e);have hid:=W5.hid;have H0:=W5.reg;have ap:=W5.apart;have hb5:=W5.base;have hl:=W5.loc;have ho:=W5.own;unfold Cx.p Cx.w at ho;rw [hG] at hid H0 ap hb5 ho;have hL:s5.heap.get? c.env.locals=some lo:=(hid _ (.head _)).1;have hLC:c.env.locals≠c'.env.locals:=fun z=>((ap _ (.head _)).2 _ (.head _)) z.symm;refine ⟨{base:=hb5,g0:=W.g0.trans W5.g0,keep:=fun b o e=>hk b o (fun z=>by rw [z,W5.nl] at e;exact Zp e) (W5.keep b o e),reg:=?_,hid:=?_,gens:=W5.gens,bare:=W5.bare,os:=W5.os,ns:=?_,nl:=(hid _ (.head _)).2.1,loc:=?_,len:=W5.len,nd:=W5.nd,fr:=?_,own:=?_,stk:=ARs.sub _ _ W5.g0 ex _ _ W.stk,cel:=?_,apart:=?_,pin:=fun q hq=>ex _ _ (W.pin q hq)},W5.g0,ex⟩
 ·exact fun r hr=>by refine YK (H0 r hr) fun h1 ob h2 h3=>?_;exact ⟨h1,ob,hk _ _ (fun z=>(ap _ (.head _)).1 r hr z.symm) h2,h3⟩
 ·exact fun q hq=>by refine oza (hid q (.tail _ hq)) fun h1 h2=>?_;exact ⟨hk _ _ (fun z=>(ap _ (.head _)).2 q (.tail _ hq) z.symm) h1,h2⟩
 ·refine ZS W.ns fun o es ep e r=>?_;rw [hlo] at e;obtain rfl:=Kc e;exact ⟨_,es,ep,hk _ _ hLC hL,r⟩
 ·exact fun i a h=>by refine Zc (W.loc i a h) fun x v e0 e r=>?_;exact ⟨x,v,e0,e,AR.sub _ _ W5.g0 ex a v r⟩
 ·exact fun b hb=>⟨(W5.fr b hb).1,fun z=>(ap b (.tail _ hb)).2 _ (.head _) z⟩
 ·exact fun i ob a h1 h2=>OAt.sub _ _ (Sub.refl _) (Ext.refl _) (fun o e=>hk _ _ (W5.fr a (Kj h2)).2 e) ob (ho i ob a h1 h2)
 ·exact fun x i h=>by refine Za (W.cel x i h) fun a e r=>?_;exact ⟨a,ex _ _ e,r⟩
 ·intro b hb;rcases ZH hb with rfl | hb
  ·exact W.apart _ (.head _)
  ·exact ⟨(ap b (.tail _ hb)).1,fun q hq=>(ap b (.tail _ hb)).2 q (.tail _ hq)⟩
theorem RSW.hids (W:RSW c F st vs s g ρ m) (h:∀q∈hs,q∈F.hid):RSW c {F with hid:=hs} st vs s g ρ m :=
 {base:=W.base,g0:=W.g0,keep:=W.keep,reg:=W.reg,hid:=fun q hq=>W.hid q (h q hq),gens:=W.gens,bare:=W.bare,os:=W.os,ns:=W.ns,nl:=W.nl,loc:=W.loc,len:=W.len,nd:=W.nd,fr:=W.fr,own:=W.own,stk:=W.stk,cel:=W.cel,apart:=fun b hb=>⟨(W.apart b hb).1,fun q hq=>(W.apart b hb).2 q (h q hq)⟩,pin:=W.pin}
theorem RSW.pins (W:RSW c F st vs s g ρ m) (h:∀q∈pn,ρ[q.1]?=some q.2):RSW c {F with pin:=pn} st vs s g ρ m :=
 {base:=W.base,g0:=W.g0,keep:=W.keep,reg:=W.reg,hid:=W.hid,gens:=W.gens,bare:=W.bare,os:=W.os,ns:=W.ns,nl:=W.nl,loc:=W.loc,len:=W.len,nd:=W.nd,fr:=W.fr,own:=W.own,stk:=W.stk,cel:=W.cel,apart:=W.apart,pin:=h}
noncomputable def Yb (names:List (Str×NameKind)):Nat:=(names.filter fun x=>x.2 == .cell).length
theorem RSW.cells {l:Qc}(names:List (Str×NameKind)){s:Shared}(W:RSW c F ⟨l,own,k⟩ vs s g ρ m):
 RSW c F ⟨l,own++List.replicate (Yb names) (.cell none),k⟩ vs {s with heap:=pushCells s.heap names} g (ρ++List.range' s.heap.objs.size (Yb names)) m:=by
 induction names generalizing own s ρ with
 | nil=>rw [show Yb []=0 from rfl,List.replicate_zero,Rj,List.range'_zero,Rj];exact W
 | cons q r ih =>
  induction hk:q.2==NameKind.cell with
  | false =>
   rw [show Yb (q::r)=Yb r from congrArg List.length (Rv (p:=fun x:Str×NameKind=>x.2 == .cell) (ne_true_of_eq_false hk)),show pushCells s.heap (q::r)=pushCells s.heap r from if_neg (ne_true_of_eq_false hk)];exact ih W
  | true =>
   have:=ih (W.allocO {cls:=.type "cell",data:=.cell none} s.toks (o':=.cell none) ⟨none,_,Kh _ rfl,rfl,rfl⟩);rw [Heap.size_push ..,Qy,Qy] at this;rw [show Yb (q::r)=Yb r+1 from congrArg List.length (List.filter_cons_of_pos (p:=fun x:Str×NameKind=>x.2 == .cell) hk),show pushCells s.heap (q::r)=pushCells (s.heap.push {cls:=.type "cell",data:=.cell none}) r from if_pos hk];exact this
end
end
section
noncomputable def Zg (scope:Scope):Qq:=(scope.names.filter fun x=>x.2 == .local).map (·.1)
noncomputable abbrev ZpP (c:Cx) (scope:Scope) (hk:scope.kind = .function) (ht:(Zg scope).Nodup) (C:Addr) (cells:Qm) (cel:List (Str×Nat)):Cx:=⟨c.G,c.A,compEnvC scope cells C c.env,Zg scope,cel,c.fuel,ht,hk,c.hg,c.hb,c.hh,c.hd,c.hu⟩
structure CompFr (c c':Cx) (scope:Scope) (cel:List (Str×Nat)):Prop where
 G:c'.G=c.G
 fuel:c'.fuel=c.fuel
 tab:c'.tab=Zg scope
 kd:∀x,c'.env.kindOf x=(relabel scope c.env).names.lookup x
 cel:c'.cel=cel
noncomputable def Zi (names:List (Str×NameKind)):Qq:=(names.filter fun x=>x.2 == .cell).map (·.1)
theorem Zc6 (names:List (Str×NameKind)):Yb names=(Zi names).length:=by simp [Yb,Zi]
theorem ZaO {q:Str×NameKind}{r:List (Str×NameKind)}(h:(q.2==NameKind.cell)=true):Zi (q::r)=q.1::Zi r:=congrArg (List.map fun x:Str×NameKind=>x.1) (List.filter_cons_of_pos (p:=fun x:Str×NameKind=>x.2 == .cell) h)
theorem ZaK {q:Str×NameKind}{r:List (Str×NameKind)}(h:(q.2==NameKind.cell)=false):Zi (q::r)=Zi r:=congrArg (List.map fun x:Str×NameKind=>x.1) (Rv (p:=fun x:Str×NameKind=>x.2 == .cell) (ne_true_of_eq_false h))
theorem ZaQ {n:Nat}{acc:Qm}{q:Str×NameKind}{r:List (Str×NameKind)}(h:(q.2==NameKind.cell)=true):cellsFrom n (q::r) acc=cellsFrom (n+1) r ((q.1,n)::acc):=if_pos h
theorem ZaS {n:Nat}{acc:Qm}{q:Str×NameKind}{r:List (Str×NameKind)}(h:(q.2==NameKind.cell)=false):cellsFrom n (q::r) acc=cellsFrom n r acc:=if_neg (ne_true_of_eq_false h)
theorem WK {names:List (Str×NameKind)}{n:Nat}{acc:Qm}(h:y∉Zi names):(cellsFrom n names acc).lookup y=acc.lookup y:=by
 induction names generalizing n acc with
 | nil=>rfl
 | cons q r ih =>
  induction hk:q.2==NameKind.cell with
  | false =>
   rw [ZaK hk] at h;rw [ZaS hk];exact ih h
  | true =>
   rw [ZaO hk] at h;rw [ZaQ hk,ih fun z=>h (.tail _ z),List.lookup_cons,Zdx fun e:y=q.1=>h (e▸.head _)]
theorem Wm {names:List (Str×NameKind)}{n:Nat}{acc:Qm}(hnd:(Zi names).Nodup) (h:(Zi names)[j]?=some x):(cellsFrom n names acc).lookup x=some (n+j):=by
 induction names generalizing n acc j with
 | nil=>exact Zp h
 | cons q r ih =>
  induction hk:q.2==NameKind.cell with
  | false =>
   rw [ZaK hk] at hnd h;rw [ZaS hk];exact ih hnd h
  | true =>
   rw [ZaO hk] at hnd h;rw [ZaQ hk];have hnd:=List.nodup_cons.mp hnd;induction j using Nat.casesOn with
   | zero=>rw [←Kc h,WK hnd.1,List.lookup_cons,Ro];rfl
   | succ j=>rw [ih hnd.2 h,Nat.add_assoc,Nat.add_comm 1]
theorem ZbV (scope:Scope) (env:Env) (h:∀x,(x,NameKind.free)∈scope.names→∃a,env.cells.lookup x=some a):∃cl,closureFor scope env=pure cl∧∀x,(x,NameKind.free)∈scope.names→cl.lookup x=env.cells.lookup x:=by
 have key:∀(names:List (Str×NameKind)) (acc:Qm),(∀x,(x,NameKind.free)∈names→∃a,env.cells.lookup x=some a)→(∀x a,(x,a)∈acc→env.cells.lookup x=some a) →
  ∃cl,(forIn names acc fun (x:Str×NameKind) cs=>if x.2==NameKind.free then (do let a ←cellOf env x.1;pure (ForInStep.yield ((x.1,a)::cs))) else pure (ForInStep.yield cs):Sem (Qm))=pure cl∧(∀q∈acc,q∈cl)∧(∀x a,(x,a)∈cl→env.cells.lookup x=some a)∧∀x,(x,NameKind.free)∈names→∃a,(x,a)∈cl:=by
  intro names;induction names with
  | nil=>intro acc j h2;exact ⟨acc,by rw [List.forIn_nil],fun j h=>h,h2,fun j h=>nomatch h⟩
  | cons y r ih =>
   intro acc h1 h2;obtain ⟨n,k⟩:=y;induction hk:k==NameKind.free with
   | false =>
    refine Wj (ih acc (fun x hx=>h1 x (.tail _ hx)) h2) fun cl e1 e2 e3 e4=>?_;refine ⟨cl,?_,e2,e3,fun x hx=>?_⟩
    ·rw [List.forIn_cons];simp only [hk,Bool.false_eq_true,if_false];exact e1
    ·refine Or.elim (ZH hx) (fun hx=>?_) fun hx=>?_
     ·cases hx;simp at hk
     ·exact e4 x hx
   | true =>
    have ek:k = .free:=by simpa using hk
    subst ek;refine oze (h1 n (.head _)) fun a ha=>?_;obtain ⟨cl,e1,e2,e3,e4⟩:=ih ((n,a)::acc) (fun x hx=>h1 x (.tail _ hx)) fun x b hb=>by
     refine Or.elim (ZH hb) (fun hb=>?_) fun hb=>?_
     ·cases hb;exact ha
     ·exact h2 x b hb
    refine ⟨cl,?_,fun q hq=>e2 q (.tail _ hq),e3,fun x hx=>?_⟩
    ·rw [List.forIn_cons];unfold cellOf;rw [ha];exact e1
    ·refine Or.elim (ZH hx) (fun hx=>?_) fun hx=>?_
     ·cases hx;exact ⟨a,e2 _ (.head _)⟩
     ·exact e4 x hx
 refine Wj (key scope.names [] h (fun j j h=>nomatch h)) fun cl e1 j e3 e4=>?_;refine ⟨cl,?_,fun x hx=>?_⟩
 ·have e5:closureFor scope env=(forIn scope.names ([]:Qm) fun (x:Str×NameKind) cs=>if x.2==NameKind.free then (do let a ←cellOf env x.1;pure (ForInStep.yield ((x.1,a)::cs))) else pure (ForInStep.yield cs)) >>= fun r=>pure r:=rfl;rw [e5,e1];rfl
 ·refine oze (e4 x hx) fun a ha=>?_;rw [e3 x a ha];have:∀l:Qm,(x,a)∈l→(∀y b,(y,b)∈l→env.cells.lookup y=some b)→l.lookup x=some a:=by
   intro l;induction l with
   | nil=>intro h;cases h
   | cons q r ih =>
    intro h hl;rw [List.lookup_cons];by_cases hq:x=q.1
    ·have:(x==q.1)=true:=by simp [hq]
     rw [this];have e6:=hl x a h;rw [hq,(hl q.1 q.2 (.head _))] at e6;exact e6
    ·rw [Zdx hq];refine Or.elim (ZH h) (fun h=>?_) fun h=>?_
     ·exact absurd (by rw [←h]) hq
     ·exact ih h fun y b hb=>hl y b (.tail _ hb)
  exact this cl ha e3
noncomputable def Zap (c:Cx):Qs→St→(Bool→St→Prop)→Prop
 | [],st,Q=>Q true st
 | e::es,st,Q=>TJ c e st fun b st1=>(b=true→Zap c es st1 Q)∧(b=false→Q false st1)
noncomputable def CompJ (c:Cx) (tgt:Expr) (ifs:Qs) (elt:Expr) (ok:Qf) (n:Nat):Qh→St→(Qf)→Prop
 | [],st,Q=>ok st∧Q st
 | x::xs,st,Q=>ok st∧AsJ c tgt ⟨st.loc,st.own,x::st.stk⟩ fun st1=>Zap c ifs st1 fun b st2 =>
  (b=true→EJ c elt st2 fun st3=>∃a ys,st3.stk=[a]∧st3.own[n]?=some (.list ys)∧ys.length≤1000000∧CompJ c tgt ifs elt ok n xs ⟨st3.loc,st3.own.set n (.list (ys++[a])),[]⟩ Q) ∧
  (b=false→CompJ c tgt ifs elt ok n xs st2 Q)
section
variable {s:Shared}{m:Qk}
theorem ZaU (f:Expr→Bool→Sem (ForInStep Bool)) (hf:∀e,f e false=pure (.yield false)):∀es:Qs,forIn es false f=pure false
 | []=>rfl
 | e::es=>by rw [List.forIn_cons,hf];exact ZaU f hf es
theorem U9 {es:Qs}{P P':Bool→St→Prop}(h:Zap c es st P) (hp:∀b st,P b st→P' b st):Zap c es st P':=by
 induction es generalizing st with
 | nil=>exact hp _ _ h
 | cons e es ih=>exact TJ.mono h fun b st1 hb=>⟨fun e=>ih (hb.1 e),fun e=>hp _ _ (hb.2 e)⟩
theorem Zmu {es:Qs}{Q:Bool→St→Prop}{s:Shared}(h:Zap c es st Q) (R:RS c F st vs s):
 wpAny (model c.p c.w) c.A (forIn es true fun e r=>if r=true then do let ok ←isTrue e c.env (eval e c.env);pure (ForInStep.yield ok) else pure (ForInStep.yield r)) (fun b s'=>Got c F vs (Q b) s') NoE s:=by
 induction es generalizing st s with
 | nil=>exact Ki ⟨st,R,h⟩
 | cons e es ih =>
  rw [List.forIn_cons];refine Kd (m:=if true=true then _ else _) (Kd (m:=isTrue e c.env (eval e c.env)) (wpm (h F vs s R) (fun b s1 z=>Ki ?_)));obtain ⟨st1,R1,h1⟩:=z;induction b with
  | true=>exact ih (h1.1 rfl) R1
  | false =>
   show wpAny _ _ (forIn es false _) _ _ _;rw [ZaU _ (fun e=>if_neg Bool.noConfusion) es];exact Ki ⟨st1,R1,h1.2 rfl⟩
theorem Zfd {A:Around}{s:Shared}{globals:Addr}{cl:Qm}{qual:Str}{outer:Env}{Q:Env→Shared→Prop}
 (h:Q {scope,locals:=s.heap.objs.size,globals,cells:=cellsFrom (s.heap.objs.size+1) scope.names cl,qual,func:=none,code:=outer.code,frame:=outer.frame,builtins:=outer.builtins} {s with heap:=pushCells (s.heap.push {cls:=.type "dict",data:=.dict #[]}) scope.names}) :
 wpAny M A (newFunctionEnv scope globals cl [] qual none .none (some outer)) Q E s:=by
 dsimp only [newFunctionEnv,Option.isSome_some,if_true];refine Kd (wpAny_alloc (Kd (wpAny_layCells _ (fun name kind cells=>by induction hkc:kind==NameKind.cell <;> rfl) _ _ _ _ ?_)));rw [Heap.size_push ..];refine Kd ?_;rw [List.forIn_nil];exact Ki (Ki h)
structure CompOK (c:Cx) (scope:Scope) (celA:List (Str×Nat)):Prop where
 kind:scope.kind = .function
 tnd:(Zg scope).Nodup
 names:∀x∈scope.names,x.2 = .local→scope.names.lookup x.1=some .local
 free:∀x,(x,NameKind.free)∈scope.names→∃i,(x,i)∈celA
 celA:∀q∈celA,q∈c.cel∧(q.1,NameKind.free)∈scope.names∧q.1∉Zi scope.names
 nd:(Zi scope.names).Nodup
noncomputable abbrev Yu (scope:Scope) (celA:List (Str×Nat)) (n:Nat):List (Str×Nat):=celA++(Zi scope.names).zipIdx.map fun q=>(q.1,n+1+q.2)
end
end
section
mutual
inductive Frz (own:Qg) (n:Nat):A→D→Prop
 | d (x:D):Frz own n (.d x) x
 | list {i:Nat} {xs:Qh} {ds:Qi}:n≤i→own[i]?=some (.list xs)→Frzs own n xs ds→Frz own n (.own i) (.list ds)
 | dict {i:Nat} {es:Qe} {ep:Nat} {ds:Qd}:n≤i→own[i]?=some (.dict es ep)→Frze own n es ds→Frz own n (.own i) (.dict ds)
 | inst {i j:Nat} {c:Addr} {es:Qe} {ep:Nat} {ds:Qd}:n≤i→own[i]?=some (.inst c j)→n≤j→own[j]?=some (.dict es ep)→Frze own n es ds→Frz own n (.own i) (.inst c ds)
inductive Frzs (own:Qg) (n:Nat):Qh→List D→Prop
 | nil:Frzs own n [] []
 | cons {a:A} {d:D} {xs:Qh} {ds:Qi}:Frz own n a d→Frzs own n xs ds→Frzs own n (a::xs) (d::ds)
inductive Frze (own:Qg) (n:Nat):Qe→List (Str×D)→Prop
 | nil:Frze own n [] []
 | cons {k:Str} {a:A} {d:D} {xs:Qe} {ds:Qd}:Frz own n a d→Frze own n xs ds→Frze own n ((k,a)::xs) ((k,d)::ds)
end
theorem Frzs.d {n:Nat}:∀ds:Qi,Frzs own n (ds.map .d) ds
 | []=>.nil
 | x::ds=>.cons (.d x) (Frzs.d ds)
theorem Frze.d {n:Nat}:∀ds:Qd,Frze own n (ds.map fun e=>(e.1,A.d e.2)) ds
 | []=>.nil
 | (k,x)::ds=>.cons (.d x) (Frze.d ds)
section
variable {p:Program}{w:World}{n:Nat}{h:Heap}
theorem Zk0 (hs:Sub g g') (hn:∀(i:Nat) a ob,n≤i→ρ[i]?=some a→h.get? a=some ob→g'.get? a=some ob) (ho:∀(i:Nat) o a,own[i]?=some o→ρ[i]?=some a→OAt p w g ρ h o a){d:D}(f:Frz own n a d) (H:AR p w g ρ a v):VR p w g' d v :=
 Frz.rec (motive_1:=fun a d j=>∀v,AR p w g ρ a v→VR p w g' d v) (motive_2:=fun as ds j=>∀vs,ARs p w g ρ as vs→VRs p w g' ds vs) (motive_3:=fun as ds j=>∀vs,ARe p w g ρ as vs→VRe p w g' ds vs)
  (fun x v H=>VR.sub p w hs x v H)
  (fun hi e j ih v H=>by
   refine Ka fun zn0=>?_;refine Za H fun a ea ev=>?_;refine Za (ho _ _ a e ea) fun us zo2 hv=>?_;refine oze zo2 fun k hu=>?_;refine zn0 ?_;exact ⟨a,us,ev,IsLst.fl ⟨k,hn _ a _ hi ea hu⟩,ih _ hv⟩)
  (fun hi e j ih v H=>by
   refine Ka fun zn1=>?_;refine Za H fun a ea ev=>?_;refine Zt (ho _ _ a e ea) fun kvs h1 zo3 hv=>?_;refine ZE zo3 fun o es h2 h3=>?_;refine zn1 ?_;exact ⟨a,kvs,ev,h1,⟨o,es,_,hn _ a _ hi ea h2,h3⟩,ih _ hv⟩)
  (fun hi e hj e2 j ih v H=>by
   refine Ka fun zn2=>?_;refine Za H fun a ea ev=>?_;refine Za (ho _ _ a e ea) fun dx ex h1=>?_;refine Zt (ho _ _ dx e2 ex) fun kvs h2 zo4 hv=>?_;refine ZE zo4 fun o es h3 h4=>?_;refine zn2 ?_;exact ⟨a,kvs,ev,⟨dx,hn _ a _ hi ea h1,⟨o,es,_,hn _ dx _ hj ex h3,h4⟩⟩,ih _ hv⟩)
  (fun j H=>H) (fun j j i1 i2 vs H=>by refine Zc H fun v vs e h1 h2=>?_;exact ⟨v,vs,e,i1 _ h1,i2 _ h2⟩)
  (fun j H=>H) (fun j j i1 i2 vs H=>by refine Zc H fun v vs e h1 h2=>?_;exact ⟨v,vs,e,i1 _ h1,i2 _ h2⟩) f v H
end
def AFr (own:Qg) (n:Nat) (a a':A):Prop:=match a' with
 | .d d=>Frz own n a d
 | .own i=>a = .own i∧i<n
 | .view k i=>a = .view k i∧i<n
noncomputable def AFrs (own:Qg) (n:Nat):Qh→List A→Prop
 | [],[]=>True
 | a::as,b::bs=>AFr own n a b∧AFrs own n as bs
 | _,_=>False
noncomputable def Zj0 (own:Qg) (n:Nat):Qe→List (Str×A)→Prop
 | [],[]=>True
 | a::as,b::bs=>a.1=b.1∧AFr own n a.2 b.2∧Zj0 own n as bs
 | _,_=>False
noncomputable def OFr (own:Qg) (n:Nat):O→O→Prop
 | .list xs,.list ys=>AFrs own n xs ys
 | .dict es ep,.dict fs ep'=>ep=ep'∧Zj0 own n es fs
 | .inst c j,.inst c' j'=>c=c'∧j=j'∧j<n
 | .cell none,.cell none=>True
 | .cell (some a),.cell (some b)=>AFr own n a b
 | .ask a k,.ask b j=>a=b∧k=j
 | .dead,.dead=>True
 | _,_=>False
structure Cv (n:Nat) (st st':St):Prop where
 len:st'.own.length=n
 le:n≤st.own.length
 own:∀(i:Nat) o',st'.own[i]?=some o'→∃o,st.own[i]?=some o∧OFr st.own n o o'
 loc:∀x a',Zs x st'.loc=some a'→∃a,Zs x st.loc=some a∧AFr st.own n a a'
 stk:AFrs st.own n st.stk st'.stk
theorem AFrs.d {n:Nat}:∀ds:Qi,AFrs own n (ds.map .d) (ds.map .d)
 | []=>trivial
 | x::ds=>⟨.d x,AFrs.d ds⟩
section
variable {st':St}{s:Shared}{m:Qk}{n:Nat}
theorem Uh {n:Nat}{a:Addr}(h:ρ[i]?=some a) (hi:i<n):(ρ.take n)[i]?=some a:=by rw [List.getElem?_take_of_lt hi];exact h
theorem RSW.conv (W:RSW c F st vs s g ρ m) (C:Cv n st st') (hc:∀q∈c.cel,q.2<n) (hp:∀q∈F.pin,q.1<n):∃g',RSW c F st' vs s g' (ρ.take n) m:=by
 have hsub:∀b∈ZG c.G F (c.env.locals::ρ.take n),b∈ZG c.G F (c.env.locals::ρ):=fun b hb=>by
  refine Or.elim (ZL hb) (fun hb=>?_) fun hb=>?_
  ·refine Kg _ ?_;refine Or.elim (ZH hb) (fun hb=>?_) fun hb=>?_
   ·exact hb▸.head _
   ·exact .tail _ (List.mem_of_mem_take hb)
  ·exact Kf _ hb
 have hs:Sub g (PySem.W.hideAll s.heap (ZG c.G F (c.env.locals::ρ.take n))):=fun b o e=>Q1 _ (W.keep b o e) fun hb=>by rw [W.nomut b (hsub b hb)] at e;exact Zp e
 have hnew:∀(i:Nat) a ob,n≤i→ρ[i]?=some a→s.heap.get? a=some ob→(PySem.W.hideAll s.heap (ZG c.G F (c.env.locals::ρ.take n))).get? a=some ob:=fun i a ob hi ha e=>Q1 _ e fun hb=>by
  have hm:=Kj ha;refine Or.elim (ZL hb) (fun hb=>?_) fun hb=>?_
  ·refine Or.elim (ZH hb) (fun hb=>?_) fun hb=>?_
   ·exact (W.fr a hm).2 hb
   ·obtain ⟨j,hj,ej⟩:=List.getElem_of_mem hb;have hj':j<n∧j<ρ.length:=by rw [List.length_take] at hj;exact ⟨Kt hj (Nat.min_le_left _ _),Kt hj (Nat.min_le_right _ _)⟩
    rw [List.getElem_take] at ej;obtain ⟨hi',ei⟩:=ZB ha;exact Nat.not_le.mpr hj'.1 (YC W.nd hj'.2 hi' (ej.trans ei.symm)▸hi)
  ·refine Or.elim (ZL hb) (fun hb=>?_) fun hb=>?_
   ·refine Za (Yh hb) fun r hr e=>?_;exact (W.apart a (.tail _ hm)).1 r hr e.symm
   ·refine Za (List.mem_map.mp hb) fun q hq e=>?_;exact (W.apart a (.tail _ hm)).2 q hq e.symm
 have one:∀{a a' v},AFr st.own n a a'→AR c.p c.w g ρ a v→AR c.p c.w (PySem.W.hideAll s.heap (ZG c.G F (c.env.locals::ρ.take n))) (ρ.take n) a' v:=fun {a a' v} h H=>by
  induction a' using A.casesOn with
  | d d=>exact Zk0 hs hnew W.own h H
  | own i=>refine oza h fun zo1 hi=>?_;subst zo1;refine Za H fun x e r=>?_;exact ⟨x,Uh e hi,r⟩
  | view k i=>refine oza h fun zo2 hi=>?_;subst zo2;refine Zc H fun x y e r q=>?_;exact ⟨x,y,Uh e hi,r,Xl hs k q⟩
 have many:∀{as as' vs},AFrs st.own n as as'→ARs c.p c.w g ρ as vs→ARs c.p c.w (PySem.W.hideAll s.heap (ZG c.G F (c.env.locals::ρ.take n))) (ρ.take n) as' vs:=by
  intro as;induction as with
  | nil=>intro as' vs h H;induction as' using LLc with
   | nil=>exact H
   | cons _ _=>exact h.elim
  | cons a as ih=>intro as' vs h H;induction as' using LLc with
   | nil=>exact h.elim
   | cons b bs=>refine Zc H fun v r e h1 h2=>?_;exact ⟨v,r,e,one h.1 h1,ih h.2 h2⟩
 have ents:∀{as as' vs},Zj0 st.own n as as'→ARe c.p c.w g ρ as vs→ARe c.p c.w (PySem.W.hideAll s.heap (ZG c.G F (c.env.locals::ρ.take n))) (ρ.take n) as' vs:=by
  intro as;induction as with
  | nil=>intro as' vs h H;induction as' using LLc with
   | nil=>exact H
   | cons _ _=>exact h.elim
  | cons a as ih=>intro as' vs h H;induction as' using LLc with
   | nil=>exact h.elim
   | cons b bs=>refine Zc H fun v r e h1 h2=>?_;exact ⟨v,r,by rw [e,h.1],one h.2.1 h1,ih h.2.2 h2⟩
 refine ⟨PySem.W.hideAll s.heap (ZG c.G F (c.env.locals::ρ.take n)),{toHS:=W.toHS.regrow hs (fun z z e=>PySem.W.of_hideAll _ e) fun b hb=>Ra _ (Kf _ hb),ns:=W.ns,nl:=Ra _ (ZD (.head _)),loc:=?_,len:=?_,nd:=W.nd.sublist (List.take_sublist _ _),fr:=?_,own:=?_,stk:=many C.stk W.stk,cel:=?_,apart:=?_,pin:=fun q hq=>Uh (W.pin q hq) (hp q hq)}⟩
 ·exact fun i a' h=>by refine Za (C.loc i a' h) fun a e r=>?_;refine Zc (W.loc i a e) fun x v e0 e1 r1=>?_;exact ⟨x,v,e0,e1,one r r1⟩
 ·rw [List.length_take,W.len,C.len];have:=C.le;exact Rz (by assumption)
 ·exact fun b hb=>⟨Ra _ (ZD (.tail _ hb)),(W.fr b (List.mem_of_mem_take hb)).2⟩
 ·intro i o' a h1 h2;have hi:i<n:=by have:=(List.getElem?_eq_some_iff.mp h1).1;rw [C.len] at this;exact this
  rw [List.getElem?_take_of_lt hi] at h2;refine Za (C.own i o' h1) fun o e r=>?_;have H:=W.own i o a e h2;induction o using O.casesOn with
  | list xs=>cases o' with
   | list ys=>refine Za H fun us e1 e2=>?_;exact ⟨us,e1,many r e2⟩
   | _=>exact r.elim
  | dict es ep=>cases o' with
   | dict fs ep'=>refine Zt H fun us e0 e1 e2=>?_;refine oza r fun r1 r2=>?_;subst r1;exact ⟨us,e0,e1,ents r2 e2⟩
   | _=>exact r.elim
  | inst c0 j=>cases o' with
   | inst c1 j'=>refine Yz r fun r1 r2 r3=>?_;subst r1 r2;refine Za H fun dx e1 e2=>?_;exact ⟨dx,Uh e1 r3,e2⟩
   | _=>exact r.elim
  | cell x=>cases o' with
   | cell y =>
    refine Zc H fun v ob e1 e2 e3=>?_;cases x with
    | none=>cases y with
     | none=>exact ⟨v,ob,e1,e2,e3⟩
     | some y=>exact r.elim
    | some x=>cases y with
     | none=>exact r.elim
     | some y=>refine Za e3 fun u e4 e5=>?_;exact ⟨v,ob,e1,e2,u,e4,one r e5⟩
   | _=>cases x <;> exact r.elim
  | ask a₀ k=>cases o' with
   | ask b j=>refine oza r fun r1 r2=>?_;subst r1 r2;exact H
   | _=>exact r.elim
  | dead=>cases o' with
   | dead=>exact H
   | _=>exact r.elim
 ·exact fun x i h=>by refine Za (W.cel x i h) fun a e r=>?_;exact ⟨a,Uh e (hc (x,i) h),r⟩
 ·intro b hb;rcases List.mem_cons.mp hb with rfl | hb
  ·exact W.apart _ (.head _)
  ·exact W.apart b (.tail _ (List.mem_of_mem_take hb))
theorem RS.conv (R:RS c F st vs s) (C:Cv n st st') (hc:∀q∈c.cel,q.2<n) (hp:∀q∈F.pin,q.1<n):RS c F st' vs s:=by refine ozr R fun g ρ m W=>?_;refine oze (W.conv C hc hp) fun g' W'=>?_;exact ⟨g',_,m,W'⟩
theorem RS.bounds (R:RS c F st vs s):(∀q∈c.cel,q.2<st.own.length)∧∀q∈F.pin,q.1<st.own.length:=by
 refine ozr R fun g ρ m W=>?_;refine ⟨fun q hq=>?_,fun q hq=>?_⟩
 ·refine Za (W.cel q.1 q.2 hq) fun a e j=>?_;rw [←W.len];exact (ZB e).1
 ·rw [←W.len];exact (ZB (W.pin q hq)).1
theorem Zrt {ts:Qr}{Q:Fl→St→Prop}(h:XJ c ts st fun f st1=>∃st2,Cv st.own.length st1 st2∧Q f st2):XJ c ts st Q:=fun F vs s R =>
 wpm (h F vs s R) (fun f j h1=>by
  induction f <;> (obtain ⟨st1,R1,st2,C,q⟩:=h1;exact ⟨st2,R1.conv C R.bounds.1 R.bounds.2,q⟩))
theorem RS.forget {l:Qc}(R:RS c F st vs s) (h:∀x a,Zs x l=some a→Zs x st.loc=some a):RS c F ⟨l,st.own,st.stk⟩ vs s:=by refine ozr R fun g ρ m W=>?_;exact ⟨g,ρ,m,W.locs h⟩
def Le (l l':Qc):Prop:=∀q∈l,Zs q.1 l'=some q.2
theorem Yy {α:Type}[DecidableEq α]{l:List (α×A)}{x:α}(h:Zs x l=some a):(x,a)∈l:=by
 induction l with
 | nil=>exact Zp h
 | cons q r ih =>
  unfold Zs at h;by_cases e:q.1=x
  ·rw [if_pos e] at h;rw [←e,←Kc h];exact .head _
  ·rw [if_neg e] at h;exact .tail _ (ih h)
theorem ZsV {ts:Qr}{l:Qc}{Q:Fl→St→Prop}(h:XJ c ts ⟨l,st.own,st.stk⟩ Q) (hl:Le l st.loc):XJ c ts st Q:=fun F vs s R=>h F vs s (R.forget fun x a e=>hl _ (Yy e))
end
end
section
theorem Zfg {kd:Str→Option NameKind}(hx:kd x=some .local):∀{binds:Ql}{m:Qk}{v:Value},(binds.map (·.1)).Nodup→(x,v)∈binds→bindL kd binds m x=some v:=by
 have keep:∀{binds:Ql} {m:Qk},x∉binds.map (·.1)→bindL kd binds m x=m x:=by
  intro binds;induction binds with
  | nil=>intros;rfl
  | cons b r ih =>
   intro m h;simp only [Rh,List.mem_cons,not_or] at h;unfold bindL;rw [ih h.2];split
   ·simp only;rw [if_neg h.1]
   ·rfl
 intro binds;induction binds with
 | nil=>intro m v j h;cases h
 | cons b r ih =>
  intro m v hnd h;rw [Rh,List.nodup_cons] at hnd;unfold bindL;rcases ZH h with rfl | h
  ·rw [keep hnd.1,if_pos hx];simp
  ·exact ih hnd.2 h
theorem ZiW {kd:Str→Option NameKind}(hx:kd x≠some .local):∀{binds:Ql}{m:Qk},(binds.map (·.1)).Nodup→bindC kd binds m x=match binds.lookup x with | some v=>some v | none=>m x:=by
 have keep:∀{binds:Ql} {m:Qk},x∉binds.map (·.1)→bindC kd binds m x=m x:=by
  intro binds;induction binds with
  | nil=>intros;rfl
  | cons b r ih =>
   intro m h;simp only [Rh,List.mem_cons,not_or] at h;unfold bindC;rw [ih h.2];split
   ·rfl
   ·simp only;rw [if_neg h.1]
 intro binds;induction binds with
 | nil=>intro m j;rfl
 | cons b r ih =>
  intro m hnd;rw [Rh,List.nodup_cons] at hnd;unfold bindC;rw [List.lookup_cons];by_cases hb:x=b.1
  ·have e:(x==b.1)=true:=by simp [hb]
   rw [e,keep (by rw [hb];exact hnd.1),if_neg (by rw [←hb];exact hx)];simp [hb]
  ·have e:(x==b.1)=false:=beq_eq_false_iff_ne.mpr hb;rw [e,ih hnd.2];have:(if kd b.1=some .local then m else fun y=>if y=b.1 then some b.2 else m y) x=m x:=by
    split
    ·rfl
    ·simp only;rw [if_neg hb]
   rw [this]
theorem ZfV (h:ARs G.p G.w g ρ args us):ARo G.p G.w g ρ (Zs x (names.zip args)) ((names.zip us).lookup x):=by
 replace h:=Wq.mp h;induction h generalizing names with
 | nil=>rw [List.zip_nil_right,List.zip_nil_right];rfl
 | cons h _ ih=>induction names using LLc with
  | nil=>rfl
  | cons n ns =>
   rw [List.zip_cons_cons,List.zip_cons_cons,List.lookup_cons];unfold Zs;by_cases hx:n=x
   ·rw [if_pos hx,beq_iff_eq.mpr hx.symm];exact ⟨_,rfl,h⟩
   ·rw [if_neg hx,Zdx (Ne.symm hx)];exact ih
theorem Ww (h:ARs G.p G.w g ρ args us) (hm:(x,a)∈names.zip args):∃v,(x,v)∈names.zip us∧AR G.p G.w g ρ a v:=by
 obtain ⟨i,hi⟩:=List.getElem?_of_mem hm;obtain ⟨e1,e2⟩:=List.getElem?_zip_eq_some.mp hi;refine Za (ZhB h e2) fun v h1 h2=>?_;exact ⟨v,Kj (List.getElem?_zip_eq_some.mpr ⟨e1,h1⟩),h2⟩
inductive DefGot (B:Heap→Prop) (h:Heap) (f:Addr) (scope:Scope) (qual:Str) (cd:Value) (body:Qr) (n:Nat) (names:Qq):Prop
 | mk (ob:Obj) (fd:FuncData) (e1:h.get? f=some ob) (e2:ob.data = .func fd) (e3:h.CodeRec fd.code fd.qualname) (hb:fd.body = .stmts body) (hs:fd.scope=scope) (hg:fd.globals=mainGlobals) (hbu:fd.builtins=builtinsNs) (hcl:fd.closure=[]) (hq:fd.qualname++".<locals>."=qual) (hc:fd.code=cd)
  (bi:∀us:Qo,us.length=n→∀s:Shared,B s.heap→BindsTo s fd ⟨us,[]⟩ (names.zip (us++List.replicate (names.length - n) Value.none)))
structure DefAt (G:Gx) (f:Addr) (scope:Scope) (qual:Str) (cd:Value) (body:Qr) (n:Nat) (names:Qq):Prop where
 kind:scope.kind = .function
 co:scope.isCoroutine=false
 gen:scope.isGenerator=false
 nd:(Zi scope.names).Nodup
 tnd:(Zg scope).Nodup
 ndn:names.Nodup
 par:∀x∈names,scope.names.lookup x=some .local∨(scope.names.lookup x=some .cell∧x∈Zi scope.names)
 cell:∀x∈Zi scope.names,scope.names.lookup x=some .cell
 at_:∀h,G.lib.B h→DefGot G.lib.B h f scope qual cd body n names
 le:n≤names.length
noncomputable def Z3 (f:Addr) (scope:Scope) (qual:Str) (cd:Value) (L:Addr):Env:=newEnv scope L mainGlobals (cellsFrom (L+1) scope.names []) qual (some f) cd none builtinsNs
def Ret (R:D→Prop) (fl:Fl) (st:St):Prop:=match fl with
 | .ret=>∃a d,st.stk=[a]∧Frz st.own 0 a d∧R d
 | .next=>R .none
 | _=>False
noncomputable def WM (names:Qq) (args:Qh):Qe:=names.zip (args++List.replicate (names.length - args.length) (.d .none))
theorem Ut:∀n,ARs G.p G.w g ρ (List.replicate n (.d .none)) (List.replicate n Value.none)
 | 0=>rfl
 | n+1=>⟨.none,_,rfl,rfl,Ut n⟩
theorem HS.retire {s:Shared}(H:HS G F s g){L:Addr}(hfr:∀b∈ρ,∀r∈G.reg,b≠r.at_) (hh:∀b∈ρ,∀q∈F.hid,b≠q.1) (ho:∀(i:Nat) o a,own[i]?=some o→ρ[i]?=some a→OAt G.p G.w g ρ s.heap o a){d:D}(hf:Frz own 0 a d) (hv:AR G.p G.w g ρ a v):
 ∃g',HS G F s g'∧Sub g g'∧VR G.p G.w g' d v:=by
 have hs:Sub g (PySem.W.hideAll s.heap (ZG G F [])):=fun b o e=>Q1 _ (H.keep b o e) fun hb=>by rw [H.nomut b hb] at e;exact Zp e
 refine ⟨_,H.regrow hs (fun j j e=>PySem.W.of_hideAll _ e) fun b hb=>Ra _ hb,hs,Zk0 hs (fun i a ob hi ha e=>Q1 _ e fun hb=>?_) ho hf hv⟩;have hm:=Kj ha;refine Or.elim (ZL (show a∈G.reg.map (·.at_)++F.hid.map (·.1) from hb)) (fun hb=>?_) fun hb=>?_
 ·refine Za (Yh hb) fun r hr e=>?_;exact hfr a hm r hr e.symm
 ·refine Za (Yh hb) fun q hq e=>?_;exact hh a hm q hq e.symm
end
section
noncomputable def Zpg:Data→FuncData
 | .func fd=>fd
 | _=>default
noncomputable def Zm (K:W.Frag) (a:Addr):FuncData:=match K.lookup a with
 | some o=>Zpg o.data
 | none=>default
noncomputable def isFn (K:W.Frag) (a:Addr):Bool:=(K.lookup a).any fun o=>o.data.ctorIdx==7
noncomputable def stm:FuncBody→List Stmt
 | .stmts b=>b
 | _=>[]
theorem ZeX {a:Addr}{h:Heap}(X:K.In h) (e:isFn K a=true):∃ob,h.get? a=some ob∧ob.data = .func (Zm K a):=by
 refine Za (W.any_some e) fun o q e=>?_;have z:Zm K a=Zpg o.data:=by unfold Zm;rw [q]
 exact ⟨o,X _ _ q,z▸Data.func.elim (motive:=fun d=>d = .func (Zpg d)) o.data (Rt e) fun j=>rfl⟩
structure IsK (K:Params→W.Frag) (G:Gx) (w:World):Prop where
 B:∀h,G.lib.B h→(K w.params).In h∧∃q loose mg mb,W.TopRead q loose mg mb h
 w:G.w=w
theorem ZkQ {K:Params→W.Frag}{w:World}(I:IsK K G w) (e:W.nsIn (K w.params) mainGlobals x=some (some v)):Xh G x v:=fun g hg=>by
 refine Ka fun zn0=>?_;obtain ⟨X,j,j,mg,mb,T⟩:=I.B g hg;refine zn0 ?_;exact ⟨mg,T.g,W.mg_of X T.g e⟩
theorem ZfS {K:Params→W.Frag}{w:World}(I:IsK K G w) (e:W.nsIn (K w.params) mainGlobals x=some none) (hb:bootBuiltins x=some v) (hn:x≠"__name__"):Xa G x v:=fun g hg=>by
 refine Ka fun zn1=>?_;obtain ⟨X,j,j,mg,mb,T⟩:=I.B g hg;refine zn1 ?_;exact ⟨⟨mg,T.g,W.mg_none_of X T.g e⟩,mb,T.b,(T.builtins x hn).trans hb⟩
noncomputable def Zaa (sc:Scope) (names:Qq):Bool :=
 decide (Zi sc.names).Nodup&&decide (Zg sc).Nodup&&decide names.Nodup&&names.all (fun x=>sc.names.lookup x==some .local||(sc.names.lookup x==some .cell&&(Zi sc.names).contains x))&&(Zi sc.names).all (fun x=>sc.names.lookup x==some .cell)
theorem Zsg {K:Params→W.Frag}{w:World}(I:IsK K G w){f:Addr}{n:Nat}(hf:isFn (K w.params) f=true) (hb:(Zm (K w.params) f).body = .stmts (stm (Zm (K w.params) f).body)) (hcode:W.codeIn (K w.params) (Zm (K w.params) f).code (Zm (K w.params) f).qualname=true)
 (hk:(Zm (K w.params) f).scope.kind = .function) (hco:(Zm (K w.params) f).scope.isCoroutine=false) (hgen:(Zm (K w.params) f).scope.isGenerator=false) (hs:Zaa (Zm (K w.params) f).scope names=true)
 (hgl:(Zm (K w.params) f).globals=mainGlobals) (hbu:(Zm (K w.params) f).builtins=builtinsNs) (hclo:(Zm (K w.params) f).closure=[]) (le:n≤names.length)
 (hbind:∀us:Qo,us.length=n→∀S,W.peek (K w.params) S (bindArgs (Zm (K w.params) f) ⟨us,[]⟩)=some (names.zip (us++List.replicate (names.length - n) Value.none))) :
 DefAt G f (Zm (K w.params) f).scope ((Zm (K w.params) f).qualname++".<locals>.") (Zm (K w.params) f).code (stm (Zm (K w.params) f).body) n names:=by
 unfold Zaa at hs;simp only [Qz,decide_eq_true_eq,List.all_eq_true,Bool.or_eq_true,Q7,List.contains_iff_mem] at hs;refine Ka fun zn2=>?_;refine oza hs fun zo4 s5=>?_;refine oza zo4 fun zo3 s4=>?_;refine oza zo3 fun zo2 s3=>?_;obtain ⟨s1,s2⟩:=zo2;refine zn2 ?_
 exact {kind:=hk,co:=hco,gen:=hgen,nd:=s1,tnd:=s2,ndn:=s3,par:=s4,cell:=s5,le:=le
        at_:=fun h hB=>by
         refine Ka fun zn3=>?_;obtain ⟨X,j,j,mg,mb,T⟩:=I.B h hB;refine Za (ZeX X hf) fun ob h1 h2=>?_;refine zn3 ?_;exact ⟨ob,_,h1,h2,W.codeRec_of X hcode,hb,rfl,hgl,hbu,hclo,rfl,rfl,fun us hu s hs=>W.kp_binds (I.B _ hs).1 (hbind us hu)⟩}
theorem XW {K:Params→W.Frag}{w:World}(I:IsK K G w){f:Addr}(hf:isFn (K w.params) f=true) (hG:c.G=G):∀h,c.G.lib.B h→ZF c (.ref f) h:=fun h hB=>by
 subst hG;refine oza (I.B h hB) fun X j=>?_;refine Za (ZeX X hf) fun ob h1 h2=>?_;exact ZgY h1 h2
end
section
def ZfB (o:Qg) (a:A) (xs:Qh):Prop:=match a with
 | .d (.list ds)=>xs=ds.map .d
 | .own i=>o[i]?=some (.list xs)
 | _=>False
section
variable {s:Shared}{m:Qk}{l:Qc}
theorem RSW.lst (W:RSW c F st vs s g ρ m) (h:ZfB st.own a xs) (hv:AR c.p c.w g ρ a v):∃ad us,v = .ref ad∧s.heap.IsList ad us.toArray∧ARs c.p c.w g ρ xs us:=by
 induction a using A.casesOn with
 | d x=>induction x using D.casesOn with
  | list ds =>
   refine Zc hv fun ad us e hl hr=>?_;have h':xs=ds.map .d:=h;subst h';exact ⟨ad,us,e,(hl.sub W.keep).isList,UG.mpr hr⟩
  | _=>exact h.elim
 | own i =>
  refine Za hv fun ad e ev=>?_;refine Za (W.own i _ ad h e) fun us hu hr=>?_;exact ⟨ad,us,ev,hu.isList,hr⟩
 | view _ _=>exact h.elim
def PJ (c:Cx) (x:Option Expr) (st:St) (Q:Option Int→St→Prop):Prop :=
 ∀F vs s,RS c F st vs s→wpAny (model c.p c.w) c.A (evalPart x c.env) (fun v s'=>∃i st',IsPart v i∧RS c F st' vs s'∧Q i st') NoE s
theorem Zcf {Q:Option Int→St→Prop}(h:Q none st):PJ c none st Q:=fun j j j R=>Ki ⟨none,st,.none,R,h⟩
theorem ZkW {e:Expr}{Q:Option Int→St→Prop}(h:EJ c e st fun st1=>∃i r,st1.stk = .d (.int i)::r∧Q (some i) ⟨st1.loc,st1.own,r⟩) (he:evalPart (some e) c.env=eval e c.env:=by rfl):PJ c (some e) st Q:=fun F vs s R=>by
 rw [he];refine wpm (h F vs s R) (fun v s1 zq0=>?_);refine Ka fun zn2=>?_;obtain ⟨st1,⟨g,ρ,m,W⟩,i,r,hs,hq⟩:=zq0;refine zn2 ?_;have hst:=W.stk;rw [hs] at hst;refine oze ((Zd hst:∃t,v = .int i t)) fun t e1=>?_;subst e1;exact ⟨some i,_,.int i t,⟨g,ρ,m,W.stack (Zb hst)⟩,hq⟩
theorem ZgG {lo hi stp:Option Expr}{p:Pos}(h:PJ c lo st fun i st1=>PJ c hi st1 fun j st2=>PJ c stp st2 fun z st3=>Q ⟨st3.loc,st3.own,.d (.slice i j z)::st3.stk⟩):EJ c (.Slice lo hi stp p) st Q:=fun F vs s R =>
 wpAny_Slice (wpm (h F vs s R) (fun a s1 zw=>Zc zw fun i st1 hi R1 h1=>Kb (h1 F vs s1 R1) (fun b s2 zw=>Zc zw fun j st2 hj R2 h2=>Kb (h2 F vs s2 R2) (fun z s3 zq3=>by
  refine Ka fun zn4=>?_;refine Zc zq3 fun y st3 hz zo2 h3=>?_;refine ozr zo2 fun g ρ m W=>?_;refine Zt (W.allocD {cls:=.type "slice",data:=.fields #[a,b,z]} s3.toks rfl) fun g' W' sb hg=>?_;refine zn4 ?_;exact ⟨_,⟨g',ρ,m,W'.push (a:=.d (.slice i j y)) ⟨_,a,b,z,rfl,hg,hi,hj,hz⟩⟩,h3⟩) fun u u x=>x) fun u u x=>x))
theorem Zh6 {v:Expr}{lo hi stp:Option Expr}{p:Pos}:∀a b:Value,∃ops,subscripted (.Slice lo hi stp p) false a b=operate ops (getItem a b):=fun a b=>by
 induction stp using Option.casesOn <;> exact ⟨_,rfl⟩
theorem UJ {p:Program}{w:World}{xs:Qi}(h:ARs p w g ρ (xs.map .d) us):VRs p w g xs us:=UG.mp h
theorem Znb {p:Program}{w:World}{xs:Qi}(h:VRs p w g xs us) (lo hi:Option Int):VRs p w g (cut xs lo hi) (cut us lo hi):=by
 unfold cut;rw [ZU h];exact Zka _ (ZkT _ h)
theorem Zn8 {v sl:Expr}{xs:Qi}(hl:ZfB o a (xs.map .d)) (hsz:xs.length≤1000000) (q:Q ⟨l,o,.d (.list (cut xs lo hi))::k⟩)
 (hs:∀a b,∃ops,subscripted sl false a b=operate ops (getItem a b)):OJ2 c (subscriptTail v sl) ⟨l,o,.d (.slice lo hi none)::a::k⟩ Q:=fun F u1 u2 vs s zq4=>by
 obtain ⟨g,ρ,m,W⟩:=zq4;obtain ⟨ad,b1,b2,b3,e2,h2,p1,p2,p3⟩:=(Zd W.stk:VR c.p c.w g (.slice lo hi none) u2);subst e2;refine Zc (W.lst hl (Zd (Zb W.stk))) fun la us e1 hla hx=>?_;subst e1;have hv:=UJ hx;refine oze (hs (.ref la) (.ref ad)) fun ops hops=>?_;refine tail_any hla.typeIs slot_list_getitem.lookup (wpAny_getItem_list_slice hla ⟨_,W.keep _ _ h2,rfl,rfl⟩ p1 p2 p3 (by simp) ?_ (by rw [sizeLine_eq];simp [ZU hv];lia)) hops;refine Zt (W.allocD {cls:=.type "list",data:=.seq (slicePick us.toArray lo hi none)} s.toks rfl) fun g' W' sb hg=>?_;exact ⟨_,⟨g',ρ,m,W'.stack (Zh (a:=.d (.list (cut xs lo hi))) ⟨_,cut us lo hi,rfl,⟨_,hg,rfl,0,by rw [←(Zjm us lo hi)]⟩,VRs.sub _ _ sb _ _ (Znb hv lo hi)⟩ (ARs.sub _ _ sb (Ext.refl _) _ _ (Zb (Zb W.stk))))⟩,q⟩
theorem Zpp {v sl:Expr}(hsz:x.length≤1000000) (q:Q ⟨l,o,.d (.str (Zae x lo hi))::k⟩)
 (hs:∀a b,∃ops,subscripted sl false a b=operate ops (getItem a b)):OJ2 c (subscriptTail v sl) ⟨l,o,.d (.slice lo hi none)::.d (.str x)::k⟩ Q:=fun F u1 u2 vs s zq6=>by
 refine Ka fun zn13=>?_;obtain ⟨g,ρ,m,W⟩:=zq6;obtain ⟨ad,b1,b2,b3,e2,h2,p1,p2,p3⟩:=(Zd W.stk:VR c.p c.w g (.slice lo hi none) u2);refine zn13 ?_;subst e2;refine oze ((Zd (Zb W.stk):VR c.p c.w g (.str x) u1)) fun t e1=>?_;subst e1;refine Ka fun zn15=>?_;refine oze (hs (.str x t) (.ref ad)) fun ops hops=>?_;have part:∀{b i},IsPart b i→∃y:Option (Int×Tok),b=partValue y∧y.map (·.1)=i:=fun h=>by
  cases h with
  | none=>exact ⟨none,rfl,rfl⟩
  | int i t=>exact ⟨some (i,t),rfl,rfl⟩
 refine Za (part p1) fun y1 zo1 f1=>?_;subst zo1;refine Za (part p2) fun y2 zo2 f2=>?_;subst zo2;refine Za (part p3) fun y3 zo3 f3=>?_;subst zo3;refine zn15 ?_;have en:y3=none:=by induction y3 with
  | none=>rfl
  | some _=>simp at f3
 subst en;refine tail_any (T:="str") (by rfl) slot_str_getitem.lookup (wpAny_getItem_str_slice ⟨_,W.keep _ _ h2,rfl,rfl⟩ (by rfl) ?_) hops;have fin:∀t' tk,Got c F (Value.str (Zae x lo hi) t'::vs) Q {s with toks:=tk}:=fun t' tk=>⟨_,⟨g,ρ,m,(W.tok tk).stack (Zh Xb (Zb (Zb W.stk)))⟩,q⟩;unfold sliceMade;split
 ·rename_i h;simp only [Qz,Q7] at h;have hx:Zae x lo hi=x:=by
   have h1:slicePicked x y1 y2 none=sliceRange (ZN 0 lo x.length:Nat) (ZN x.length hi x.length:Nat) 1:=by
    unfold slicePicked;rw [f1,f2];exact Zhd _ _ _
   have hl:=h.2;rw [h1] at hl;have a1:=Zgu 0 lo x.length (Q4 _);have a2:=Zgu x.length hi x.length (Kq _);have hlen:(sliceRange (ZN 0 lo x.length:Nat) (ZN x.length hi x.length:Nat) 1).length=ZN x.length hi x.length - ZN 0 lo x.length:=by
    unfold sliceRange;simp only [show (1:Int) > 0 from by decide,if_true,Qw,Rk];exact ZjW _ _
   rw [hlen] at hl;unfold Zae cut;have e:x.cps.toList.length=x.length:=by simp [Str.length]
   rw [e];have z1:ZN 0 lo x.length=0:=by lia
   have z2:ZN x.length hi x.length - ZN 0 lo x.length=x.length:=by assumption
   rw [z2,z1,List.drop_zero,←e,List.take_length]
  have:=fin t s.toks;rw [hx] at this;exact this
 ·have e:(⟨((slicePicked x y1 y2 none).filterMap (x.cps[·]?)).toArray⟩:Str)=Zae x lo hi:=by
   unfold slicePicked;rw [f1,f2];unfold Zae;rw [←(ZlL x lo hi)];rfl
  rw [e];exact ⟨by have:=Zjn x lo hi;rw [sizeLine_eq];exact Kr (by assumption) (Kr (by assumption) (by decide)),fin s.toks (s.toks+1)⟩
theorem Zqc {b:A}{xs:Qi}(hl:ZfB o a (xs.map .d)) (hr:ZfB o b (ys.map .d)) (hsz:xs.length+ys.length≤1000000) (q:Q ⟨l,o,.d (.list (xs++ys))::k⟩):OJ2 c (binaryOp .Add) ⟨l,o,b::a::k⟩ Q:=fun F u1 u2 vs s zq9=>by
 obtain ⟨g,ρ,m,W⟩:=zq9;refine Zc (W.lst hl (Zd (Zb W.stk))) fun la us e1 hla hv=>?_;refine Zc (W.lst hr (Zd W.stk)) fun lb ws e2 hlb hw=>?_;subst e1 e2;have hv:=UJ hv;have hw:=UJ hw;refine Ug hla fun oa q1 q2 n1 q3=>?_;refine Ug hlb fun ob r1 r2 n2 r3=>?_;obtain ⟨ca,da,ta,sa⟩:=oa;obtain ⟨cb,db,tb,sb'⟩:=ob;simp only at q2 q3 r2 r3;subst q2 q3 r2 r3;refine concat_meets ⟨_,q1,rfl⟩ ⟨_,r1,rfl⟩ noFill_list_add seq_list_add PySem.F.slot_list_add PySem.F.entry_list_add (PySem.F.args_list_add_2 _ _) (list_addW la lb us.toArray ws.toArray n1 n2 da db sa sb' (by rw [sizeLine_eq];simp [ZU hv,ZU hw];lia)) ⟨q1,r1,?_⟩;refine Zt (W.allocD {cls:=.type "list",data:=.seq (us.toArray++ws.toArray)} s.toks rfl) fun g' W' sb hg=>?_;exact ⟨_,⟨g',ρ,m,W'.stack (Zh (a:=.d (.list (xs++ys))) ⟨_,us++ws,rfl,⟨_,hg,rfl,0,by simp⟩,VRs.sub _ _ sb _ _ (ZfM hv hw)⟩ (ARs.sub _ _ sb (Ext.refl _) _ _ (Zb (Zb W.stk))))⟩,q⟩
theorem ZnQ (hl:ZfB o a xs) (hsz:xs.length≤1000000) (q:QB (!xs.isEmpty) ⟨l,o,k⟩):BJ c ⟨l,o,a::k⟩ QB:=fun F v vs s zq10=>by
 obtain ⟨g,ρ,m,W⟩:=zq10;refine Zc (W.lst hl (Zd W.stk)) fun la us e1 hla hv=>?_;subst e1;have hn:=Y8 hv;refine wpAny_truthy_list hla (by simp [hn];lia) ?_;have e:(!us.toArray.isEmpty) = !xs.isEmpty:=by
  induction us using LLc <;> induction xs using LLc <;> simp_all
 rw [e];exact ⟨_,⟨g,ρ,m,(W.stack (Zb W.stk)).tok _⟩,q⟩
theorem Zob (hsz:x.length≤1000000) (q:QB ((x.length:Int) != 0) ⟨l,o,k⟩):BJ c ⟨l,o,.d (.str x)::k⟩ QB:=fun F v vs s zq11=>by
 obtain ⟨g,ρ,m,W⟩:=zq11;refine oze ((Zd W.stk:VR c.p c.w g (.str x) v)) fun t e1=>?_;subst e1;exact PySem.P.truthy_str (by lia) ⟨_,⟨g,ρ,m,(W.stack (Zb W.stk)).tok _⟩,q⟩
theorem Zp5 (hl:ZfB o a xs) (hf:xs.length<2 ^ 62) (q:Q ⟨l,o,.d (.int xs.length)::k⟩):CJ c 1 ⟨l,o,a::.d (.val (.builtin "len"))::k⟩ Q:=fun F f us vs s hlen zq12=>by
 obtain ⟨g,ρ,m,W⟩:=zq12;refine oza (ZA (xs:=[a]) W.stk (by rw [hlen];rfl)) fun q1 q2=>?_;have ef:f=_:=Zd q2;subst ef;refine Za (Yp q1) fun u zo1 hu=>?_;subst zo1;refine Zc (W.lst hl hu) fun la ws e1 hla hv=>?_;subst e1;have hn:=Y8 hv;refine ⟨Zl,len_list hla (by simp [hn];lia) ⟨_,⟨g,ρ,m,(W.tok _).stack (Zh ?_ (Zb q2))⟩,q⟩⟩;simp only [List.size_toArray,hn];exact YS
end
end
section
open PySem.SeqAt
mutual
noncomputable def deq:D→D→Bool
 | .none,.none=>true
 | .bool a,.bool b=>a==b
 | .int a,.int b=>a==b
 | .str a,.str b=>a==b
 | .list xs,.list ys=>deqs xs ys
 | .tuple xs,.tuple ys=>deqs xs ys
 | _,_=>false
noncomputable def deqs:Qi→List D→Bool
 | [],[]=>true
 | x::xs,y::ys=>deq x y&&deqs xs ys
 | _,_=>false
end
mutual
noncomputable def Fit:Nat→D→D→Prop
 | _,.none,.none=>True
 | _,.bool _,.bool _=>True
 | _,.int _,.int _=>True
 | _,.str _,.str _=>True
 | n+1,.list xs,.list ys=>Fits n xs ys
 | n+1,.tuple xs,.tuple ys=>Fits n xs ys
 | _,_,_=>False
noncomputable def Fits:Nat→List D→List D→Prop
 | n,x::xs,y::ys=>Fit n x y∧Fits n xs ys
 | _,_,_=>True
end
theorem ZcH {p:Program}{w:World}{n:Nat}(ih:∀{a b:D}{v:Value},Fit n a b→VR p w g a v→VR p w g b v→deq a b=true){as bs:Qi}(hf:Fits n as bs) (h1:VRs p w g as vs) (h2:VRs p w g bs vs):deqs as bs=true:=by
 replace h1:=Y5.mp h1;induction h1 generalizing bs with
 | nil=>induction bs using LLc with
  | nil=>rfl
  | cons _ _=>refine ZE h2 fun j j e j=>?_;exact ZoW e
 | cons h1 t ih2=>induction bs using LLc with
  | nil=>exact ZjU h2
  | cons y ys =>
   refine Zc h2 fun v' r' e2 h3 h4=>?_;refine oza (List.cons.inj e2) fun e3 e4=>?_;exact Bool.and_eq_true_iff.mpr ⟨ih hf.1 h1 (e3▸h3),ih2 hf.2 (e4▸h4)⟩
theorem ZgH {a:Addr}{ws:Qo}{o1 o2:Obj}{n1 n2:Nat}(q1:g.get? a=some o1) (q2:o1.data = .seq us.toArray n1) (q3:g.get? a=some o2) (q4:o2.data = .seq ws.toArray n2):us=ws:=by
 rw [q1] at q3;obtain rfl:=Kc q3;rw [q2] at q4;simpa using (Data.seq.inj q4).1
inductive FitI:Nat→D→D→Prop
 | none {n:Nat}:FitI n .none .none
 | bool {n:Nat} {x y:Bool}:FitI n (.bool x) (.bool y)
 | int {n:Nat} {x y:Int}:FitI n (.int x) (.int y)
 | str {n:Nat} {x y:Str}:FitI n (.str x) (.str y)
 | list {n:Nat} {xs ys:Qi} (h:Fits n xs ys):FitI (n+1) (.list xs) (.list ys)
 | tuple {n:Nat} {xs ys:Qi} (h:Fits n xs ys):FitI (n+1) (.tuple xs) (.tuple ys)
theorem Zhy {n:Nat}{a b:D}(h:Fit n a b):FitI n a b:=by
 induction n using Nat.casesOn with
 | zero=>induction a using D.casesOn <;> first | exact False.elim h | (induction b using D.casesOn <;> first | exact .none | exact .bool | exact .int | exact .str | exact False.elim h)
 | succ n=>induction a using D.casesOn <;> first | exact False.elim h | (induction b using D.casesOn <;> first | exact .none | exact .bool | exact .int | exact .str | exact .list h | exact .tuple h | exact False.elim h)
theorem ZeQ {p:Program}{w:World}:∀(n:Nat) {a b:D}{v:Value},Fit n a b→VR p w g a v→VR p w g b v→deq a b=true:=by
 intro n;induction n with
 | zero =>
  intro a b v hf h1 h2;cases Zhy hf with
  | none=>rfl
  | bool=>subst h1;injection h2 with zi;subst zi;exact Ro _
  | int=>refine oze h1 fun j zo1=>?_;subst zo1;refine oze h2 fun j h2=>?_;cases h2;exact Ro _
  | str=>refine oze h1 fun j zo2=>?_;subst zo2;refine oze h2 fun j h2=>?_;cases h2;exact Ro _
 | succ n ih =>
  intro a b v hf h1 h2;cases Zhy hf with
  | none=>rfl
  | bool=>subst h1;cases h2;exact Ro _
  | int=>refine oze h1 fun j zo3=>?_;subst zo3;refine oze h2 fun j h2=>?_;cases h2;exact Ro _
  | str=>refine oze h1 fun j zo4=>?_;subst zo4;refine oze h2 fun j h2=>?_;cases h2;exact Ro _
  | list h =>
   refine Ka fun zn1=>?_;refine Zc h1 fun a us zo7 zo8 r1=>?_;subst zo7;refine Ug zo8 fun o1 q1 j n1 q2=>?_;refine Zc h2 fun b ws e2 zo8 r2=>?_;refine Ug zo8 fun o2 q3 j n2 q4=>?_;obtain rfl:=Value.ref.inj e2;obtain rfl:=ZgH q1 q2 q3 q4;refine zn1 ?_;exact ZcH ih h r1 r2
  | tuple h =>
   refine Ka fun zn2=>?_;refine Zc h1 fun a us zo10 zo11 r1=>?_;subst zo10;refine Ug zo11 fun o1 q1 j n1 q2=>?_;refine Zc h2 fun b ws e2 zo11 r2=>?_;refine Ug zo11 fun o2 q3 j n2 q4=>?_;obtain rfl:=Value.ref.inj e2;obtain rfl:=ZgH q1 q2 q3 q4;refine zn2 ?_;exact ZcH ih h r1 r2
theorem ZbD {xs:Qi}(h:xs.length≠ys.length):deqs xs ys=false:=by
 induction xs generalizing ys with
 | nil=>induction ys using LLc with
  | nil=>exact absurd rfl h
  | cons _ _=>rfl
 | cons x xs ih=>induction ys using LLc with
  | nil=>rfl
  | cons y ys =>
   show (deq x y&&deqs xs ys)=false;rw [ih fun z=>h (congrArg Nat.succ z),Bool.and_false]
noncomputable def Uz (xs ys:Qi) (j:Nat):Bool:=deq (xs.getD j .none) (ys.getD j .none)
theorem ZeJ (xs ys:Qi):((List.range (min xs.length ys.length)).all (Uz xs ys)&&xs.length==ys.length)=deqs xs ys:=by
 induction xs generalizing ys with
 | nil=>induction ys using LLc with
  | nil=>rfl
  | cons y ys=>rw [List.length_nil,Nat.zero_min];rfl
 | cons x xs ih=>induction ys using LLc with
  | nil=>rw [List.length_nil,Nat.min_zero];rfl
  | cons y ys =>
   rw [Rc,Rc,Nat.succ_min_succ,List.range_succ_eq_map,List.all_cons,List.all_map,show (xs.length+1==ys.length+1)=(xs.length==ys.length) from Bool.eq_iff_iff.mpr (by rw [Q7,Q7];exact Nat.succ_inj),show (Uz (x::xs) (y::ys)∘Nat.succ)=Uz xs ys from rfl];exact (Bool.and_assoc ..).trans (congrArg (deq x y&&·) (ih ys))
theorem Zcb {xs:Qi}(h:xs.length=ys.length):(List.range xs.length).all (Uz xs ys)=deqs xs ys:=by
 rw [←ZeJ,←h];simp
theorem Zay {p:Program}{w:World}{n:Nat}(ih:∀{a b:D}{A:Around}{s:Shared}{u v:Value},Fit n a b→VR p w s.heap a u→VR p w s.heap b v→A.units+n<cLine→EqAt A s u v (deq a b)){as bs:Qi}{A:Around}{s:Shared}(hf:Fits n as bs) (h1:VRs p w s.heap as us) (h2:VRs p w s.heap bs vs) (hu:A.units+n<cLine) (j:Nat) (j1:j<us.length) (j2:j<vs.length):EqAt A s us[j] vs[j] (Uz as bs j):=by
 replace h1:=Y5.mp h1;replace h2:=Y5.mp h2;induction h1 generalizing bs vs j with
 | nil=>exact absurd j1 (Nat.not_lt_zero _)
 | cons a1 t1 ih2=>cases h2 with
  | nil=>exact absurd j2 (Nat.not_lt_zero _)
  | cons a2 t2=>induction j using Nat.casesOn with
   | zero=>exact ih hf.1 a1 a2 hu
   | succ j=>exact ih2 hf.2 j _ _ t2
theorem Zgq {p:Program}{w:World}:∀(n:Nat) {a b:D}{A:Around}{s:Shared}{u v:Value},Fit n a b→VR p w s.heap a u→VR p w s.heap b v→A.units+n<cLine→EqAt A s u v (deq a b):=by
 intro n;induction n with
 | zero =>
  intro a b A s u v hf h1 h2 hu;cases Zhy hf with
  | none=>subst h1;subst h2;exact EqAt.same _
  | bool=>subst h1;subst h2;exact EqAt.bool_bool _ _
  | int=>refine oze h1 fun k zo1=>?_;subst zo1;refine oze h2 fun k zo2=>?_;subst zo2;exact EqAt.int_int _ _ _ _
  | str=>refine oze h1 fun k zo3=>?_;subst zo3;refine oze h2 fun k zo4=>?_;subst zo4;exact EqAt.str_str _ _ _ _
 | succ n ih =>
  intro a b A s u v hf h1 h2 hu;cases Zhy hf with
  | none=>subst h1;subst h2;exact EqAt.same _
  | bool=>subst h1;subst h2;exact EqAt.bool_bool _ _
  | int=>refine oze h1 fun k zo5=>?_;subst zo5;refine oze h2 fun k zo6=>?_;subst zo6;exact EqAt.int_int _ _ _ _
  | str=>refine oze h1 fun k zo7=>?_;subst zo7;refine oze h2 fun k zo8=>?_;subst zo8;exact EqAt.str_str _ _ _ _
  | @list _ xs ys h =>
   by_cases huv:u=v
   ·subst huv;rw [ZeQ _ hf h1 h2];exact EqAt.same u
   ·refine Zc h1 fun a us e1 l1 r1=>?_;refine Zc h2 fun b ws e2 l2 r2=>?_;subst e1 e2;refine EqAt.of_refs (fun z=>huv (by rw [z])) ?_;have n1:=ZU r1;have n2:=ZU r2;show RcAt A s (.ref a) (.ref b) (deqs xs ys);by_cases hs:us.toArray.size=ws.toArray.size
    ·have hn:xs.length=ys.length:=by simp at hs;lia
     rw [←Zcb hn,←n1]
     have:=RcAt.lists (A:=A) (e:=Uz xs ys) l1 l2 hs (nZ (by assumption)) fun j j1 j2=>by
      have:=Zay (n:=n) (A:=A.in1) ih h r1 r2 (nL (by assumption)) j (by simpa using j1) (by simpa using j2);exact this
     exact this
    ·rw [ZbD (by intro z;apply hs;simp;lia)];exact RcAt.lists_lengths l1 l2 (by simpa using hs) (nZ (by assumption))
  | @tuple _ xs ys h =>
   by_cases huv:u=v
   ·subst huv;rw [ZeQ _ hf h1 h2];exact EqAt.same u
   ·refine Zc h1 fun a us e1 l1 r1=>?_;refine Zc h2 fun b ws e2 l2 r2=>?_;subst e1 e2;refine EqAt.of_refs (fun z=>huv (by rw [z])) ?_;have n2:=ZU r2;show RcAt A s (.ref a) (.ref b) (deqs xs ys);rw [←ZeJ,←(ZU r1),←n2]
    have:=RcAt.tuples (A:=A) (e:=Uz xs ys) l1 l2 (nZ (by assumption)) fun j j1 j2=>by
     have:=Zay (n:=n) (A:=A.in1) ih h r1 r2 (nL (by assumption)) j (by simpa using j1) (by simpa using j2);exact this
    exact this
theorem Zhb {p:Program}{w:World}{n:Nat}{as bs:Qi}{A:Around}{s:Shared}(hf:Fits n as bs) (h1:VRs p w s.heap as us) (h2:VRs p w s.heap bs vs) (hu:A.units+n<cLine):∀j (h1:j<us.length) (h2:j<vs.length),EqAt A s us[j] vs[j] (Uz as bs j) :=
 Zay (Zgq n) hf h1 h2 hu
theorem Zib {xs ys:Qq}:deqs (xs.map .str) (ys.map .str)=(xs==ys):=by
 induction xs generalizing ys with
 | nil=>induction ys using LLc <;> rfl
 | cons x xs ih=>induction ys using LLc with
  | nil=>rfl
  | cons y ys=>exact congrArg (_&&·) ih
theorem Ze6 {n:Nat}{xs:Qi}:Fits n xs []:=by induction xs using LLc <;> exact trivial
theorem ZeF:∀{xs:Qi},deqs xs []=xs.isEmpty
 | []=>rfl
 | _::_=>rfl
section
variable {s:Shared}{m:Qk}{l:Qc}
theorem Zsp {xs:Qi}(hf:Fits 20 xs ys) (q:Q ⟨l,o,.d (.bool (deqs xs ys))::k⟩):OJ2 c (compareOp .Eq) ⟨l,o,.d (.list ys)::.d (.list xs)::k⟩ Q:=o2 (fun F st vs s g ρ m u v W h1 h2 Q' hq=>by
 refine Zc (VR.sub _ _ W.keep _ _ h1) fun a us e1 l1 r1=>?_;refine Zc (VR.sub _ _ W.keep _ _ h2) fun b ws e2 l2 r2=>?_;subst e1 e2;have n1:=ZU r1;have n2:=ZU r2;have hu:c.A.units+21<cLine:=nY c.hu (by decide);by_cases hs:us.toArray.size=ws.toArray.size
 ·have hn:xs.length=ys.length:=by simp at hs;lia
  refine eq_listAt (e:=Uz xs ys) l1 l2 hs (nZ hu) (fun j j1 j2=>?_) ?_
  ·have:=Zhb (n:=20) (A:=c.A.in1) hf r1 r2 (by show c.A.units+1+20<_;assumption) j (by simpa using j1) (by simpa using j2);exact this
  ·have:=hq (.bool (deqs xs ys)) s.toks rfl;rw [←Zcb hn,←n1] at this;exact this
 ·refine eq_list_lengthsAt l1 l2 (by simpa using hs) (by exact Ku (Ko _ _) (by assumption)) ?_
  have:=hq (.bool (deqs xs ys)) s.toks rfl;rw [ZbD (by intro z;apply hs;simp;lia)] at this;exact this) q
theorem ZoQ {xs:Qi}(hf:Fits 20 xs ys) (q:Q ⟨l,o,.d (.bool (!deqs xs ys))::k⟩):OJ2 c (compareOp .NotEq) ⟨l,o,.d (.list ys)::.d (.list xs)::k⟩ Q:=o2 (fun F st vs s g ρ m u v W h1 h2 Q' hq=>by
 refine Zc (VR.sub _ _ W.keep _ _ h1) fun a us e1 l1 r1=>?_;refine Zc (VR.sub _ _ W.keep _ _ h2) fun b ws e2 l2 r2=>?_;subst e1 e2;have n1:=ZU r1;have n2:=ZU r2;have hu:c.A.units+21<cLine:=nY c.hu (by decide);by_cases hs:us.toArray.size=ws.toArray.size
 ·have hn:xs.length=ys.length:=by simp at hs;omega
  refine RcNeAt.lists (A:=c.A) (s:=s) (e:=Uz xs ys) l1 l2 hs (by exact Ku (Ko _ _) (by assumption)) (fun j j1 j2=>?_) _ _ _ _ ?_
  ·have:=Zhb (n:=20) (A:=c.A.in1) hf r1 r2 (by show c.A.units+1+20<_;assumption) j (by simpa using j1) (by simpa using j2);exact this
  ·have:=hq (.bool (!deqs xs ys)) s.toks rfl;rw [←Zcb hn,←n1] at this;exact this
 ·refine RcNeAt.lists_lengths (A:=c.A) (s:=s) l1 l2 (by simpa using hs) (by exact Ku (Ko _ _) (by assumption)) _ _ _ _ ?_
  have:=hq (.bool (!deqs xs ys)) s.toks rfl;rw [ZbD (by intro z;apply hs;simp;omega)] at this;exact this) q
theorem ZeL {p:Program}{w:World}{xs:Qq}(h:VRs p w g (xs.map .str) vs):StrsAre vs xs:=by
 induction xs generalizing vs with
 | nil=>exact h▸.nil
 | cons x xs ih=>refine Zc h fun v r e zo2 h2=>?_;refine oze zo2 fun t h1=>?_;rw [e,h1];exact .cons x t (ih h2)
noncomputable def YG:D→Bool
 | .none=>true
 | _=>false
noncomputable def Zci:D→Prop
 | .val _=>False
 | _=>True
theorem ZdG {p:Program}{w:World}{d:D}(hd:Zci d) (h:VR p w g d v):(v==Value.none)=YG d:=by
 induction d using D.casesOn with
 | none=>subst h;rfl
 | bool b=>subst h;rfl
 | int i=>refine oze h fun t e=>?_;subst e;rfl
 | str i=>refine oze h fun t e=>?_;subst e;rfl
 | bytes i=>refine oze h fun t e=>?_;subst e;rfl
 | list xs=>refine ZE h fun a j e j=>?_;subst e;rfl
 | tuple xs=>refine ZE h fun a j e j=>?_;subst e;rfl
 | dict xs=>refine ZE h fun a j e j=>?_;subst e;rfl
 | range a b=>refine XR h fun r j j j e j=>?_;subst e;rfl
 | slice a b z=>refine XR h fun r j j j e j=>?_;subst e;rfl
 | view k es=>refine ZS h fun a j j e j=>?_;subst e;rfl
 | inst c fs=>refine ZE h fun a j e j=>?_;subst e;rfl
 | val v=>exact hd.elim
theorem Zlj {d:D}(hd:Zci d) (q:Q ⟨l,o,.d (.bool (YG d))::k⟩):OJ2 c (compareOp .Is) ⟨l,o,.d .none::.d d::k⟩ Q:=o2 (fun F st vs s g ρ m u v W h1 h2 Q' hq=>by
 subst h2;refine is_none_gen ?_;rw [ZdG hd h1];exact hq _ s.toks rfl) q
theorem Yw {d:D}(hd:Zci d) (q:Q ⟨l,o,.d (.bool (!YG d))::k⟩):OJ2 c (compareOp .IsNot) ⟨l,o,.d .none::.d d::k⟩ Q:=o2 (fun F st vs s g ρ m u v W h1 h2 Q' hq=>by
 subst h2;refine isNot_none ?_;rw [ZdG hd h1];exact hq _ s.toks rfl) q
theorem ZaY (q:Q ⟨l,o,.d (.bool true)::k⟩):OJ2 c (compareOp .IsNot) ⟨l,o,.d .none::.own i::k⟩ Q:=o2 (fun F st vs s g ρ m u v W zq4 h2 Q' hq=>by
 refine Za zq4 fun a j h1=>?_;subst h2;subst h1;exact isNot_none (hq (.bool true) s.toks rfl)) q
theorem ZkI (q:Q ⟨l,o,.d (.bool false)::k⟩):OJ2 c (compareOp .Is) ⟨l,o,.d .none::.own i::k⟩ Q:=o2 (fun F st vs s g ρ m u v W zq5 h2 Q' hq=>by
 refine Za zq5 fun a j h1=>?_;subst h2;subst h1;exact is_none_gen (hq (.bool false) s.toks rfl)) q
end
end
section
section
variable {s:Shared}{m:Qk}{l:Qc}
theorem ZpZ (q:QM 1 ⟨l,o,.d (.str x)::.d (.val (.builtin "str.join"))::k⟩):MJ c "join" ⟨l,o,.d (.str x)::k⟩ QM:=Wu PySem.F.plainAttrs_str PySem.F.slot_str_join PySem.F.type_str_join U7 q
theorem Zdc (q:QM 1 ⟨l,o,.d (.str x)::.d (.val (.builtin "str.startswith"))::k⟩):MJ c "startswith" ⟨l,o,.d (.str x)::k⟩ QM:=Wu PySem.F.plainAttrs_str PySem.F.slot_str_startswith PySem.F.type_str_startswith U7 q
theorem Zk1 (q:QM 1 ⟨l,o,.d (.str x)::.d (.val (.builtin "str.encode"))::k⟩):MJ c "encode" ⟨l,o,.d (.str x)::k⟩ QM:=Wu PySem.F.plainAttrs_str PySem.F.slot_str_encode PySem.F.type_str_encode U7 q
theorem Zpw {xs:Qq}(hx:x.length≤16) (hw:(xs.map (·.length)).sum+xs.length≤1048576) (q:Q ⟨l,o,.d (.str (Txt.join x xs))::k⟩):CJ c 2 ⟨l,o,.d (.list (xs.map .str))::.d (.str x)::.d (.val (.builtin "str.join"))::k⟩ Q :=
 WY (as:=[.d (.str x),.d (.list (xs.map .str))]) rfl (fun j=>Zl) (fun F st vs s g ρ m us W h Q' hq=>by
  refine Zc (YF h) fun u v zo3 zo4 h2=>?_;subst zo3;obtain ⟨t,e1⟩:=zo4;refine Zc (VR.sub _ _ W.keep _ _ h2) fun b ws e2 l2 r2=>?_;subst e1 e2;exact join_listW l2 (by simpa using ZeL r2) hx hw fun t' k=>hq _ _ Xb) q
theorem Zdz (q:Q ⟨l,o,.d (.bool (Txt.startswith x y))::k⟩):CJ c 2 ⟨l,o,.d (.str y)::.d (.str x)::.d (.val (.builtin "str.startswith"))::k⟩ Q :=
 WY (as:=[.d (.str x),.d (.str y)]) rfl (fun j=>Zl) (fun F st vs s g ρ m us W h Q' hq=>by
  refine Zc (YF h) fun u v zo4 zo5 zo6=>?_;subst zo4;obtain ⟨t,e1⟩:=zo5;obtain ⟨t',e2⟩:=zo6;subst e1 e2;exact SC.startswith (hq _ s.toks Y3)) q
theorem ZkH {n:Nat}{f:Value}{as:Qh}{d:D}(hn:as.length=n) (hk:∀h,ZF c f h)
 (h:∀(F:Fz) (st:St) (vs:Qo) (s:Shared) (g:Heap) (ρ:Qp) (m) (us:Qo),RSW c F st vs s g ρ m→ARs c.p c.w g ρ as us→∀(Q':Qj),(∀x h' t,Sub s.heap h'→(∀g',Sub g g'→(∀b ob,s.heap.objs.size≤b→h'.get? b=some ob→g'.get? b=some ob)→VR c.p c.w g' d x)→Q' x {s with heap:=h',toks:=t})→wpAny (model c.p c.w) c.A (call f us) Q' NoE s)
 (q:Q ⟨l,o,.d d::k⟩):CJ c n ⟨l,o,as.reverse++.d (.val f)::k⟩ Q:=fun F f' us vs s hl zq0=>by
 refine Ka fun zn2=>?_;refine ozr zq0 fun g ρ m W=>?_;refine oza (ZA W.stk (by rw [hl,hn])) fun q1 q2=>?_;refine zn2 ?_;have ef:f'=f:=Zd q2;subst ef;refine ⟨hk _,h F _ _ s g ρ m us W q1 _ fun x h' t hs hx=>?_⟩;have W1:=W.grow (s':={s with heap:=h',toks:=t}) hs W.gens W.bare rfl;have sub:Sub g _:=fun b ob e=>Q1 (ZG c.G F (c.env.locals::ρ)) (W1.keep b ob e) fun hb=>by rw [W1.nomut b hb] at e;exact Zp e
 refine ⟨_,⟨_,ρ,m,W1.canon.stack (Zh (a:=.d d) (hx _ sub fun b ob hb e=>Q1 _ e fun hm=>?_) (ARs.sub _ _ sub (Ext.refl _) _ _ (Zb q2)))⟩,q⟩;refine oze (W.thereM _ hm) fun o' e'=>?_;exact absurd (Kk e') (Za7 hb)
theorem ZeH {n:Int}(q:Q ⟨l,o,.d (.range 0 n)::k⟩):CJ c 1 ⟨l,o,.d (.int n)::.d (.val (.type "range"))::k⟩ Q :=
 ZkH (as:=[.d (.int n)]) rfl (fun j=>XB) (fun F st vs s g ρ m us W h Q' hq=>by
  refine ZjB (Yp h) fun u zo1 t e1=>?_;subst zo1;subst e1;exact call_range_1 (hq _ _ _ (Sub.push _ _) fun g' j hg=>⟨_,_,_,_,rfl,hg _ _ (Kq _) (Kh _ rfl)⟩)) q
end
end
section
theorem Wh {l:Qc}:Le [] l:=fun j h=>nomatch h
theorem Z0 {r l:Qc}(h:Zs i l=some a) (hr:Le r l):Le ((i,a)::r) l:=fun q hq=>by
 rcases ZH hq with rfl | hq
 ·exact h
 ·exact hr q hq
section
variable {ok:Qf}
theorem Zhe {l:Qc}(h:AsJ c tgt ⟨l,st.own,st.stk⟩ Q) (hl:Le l st.loc):AsJ c tgt st Q:=fun F v vs s R=>h F v vs s (R.forget fun x a e=>hl _ (Yy e))
theorem ZsK {e:Expr}{l:Qc}{Q:Bool→St→Prop}(h:TJ c e ⟨l,st.own,st.stk⟩ Q) (hl:Le l st.loc):TJ c e st Q:=fun F vs s R=>h F vs s (R.forget fun x a e=>hl _ (Yy e))
def At (L:Qc) (ow:Qg) (k:Qh) (st:St):Prop:=Le L st.loc∧st.own=ow∧st.stk=k
theorem ZjL {α:Type}{enc:α→A}{I:List α→St→Prop}(xs:List α) (st:St)
 (hok:∀xs st,I xs st→ok st) (step:∀x xs st,I (x::xs) st→AsJ c tgt ⟨st.loc,st.own,enc x::st.stk⟩ fun st1=>XJ c body st1 (lpQ (I xs) QF)) (fin:∀st,I [] st→QF .next st) (h:I xs st):Wg c tgt body ok (xs.map enc) st QF:=by
 induction xs generalizing st with
 | nil=>exact ⟨hok _ _ h,fin st h⟩
 | cons x xs ih =>
  refine ⟨hok _ _ h,fun F v vs s R=>wpm (step x xs st h F v vs s R) (fun j s1 z=>?_)⟩;refine ozg z fun st1 R1 h=>?_;refine ⟨st1,R1,h.mono fun fl st2 hf=>?_⟩;induction fl with
  | next=>exact ih st2 hf
  | cont=>exact ih st2 hf
  | brk=>exact hf
  | ret=>exact hf
theorem ZkR {β:Type}{t:Expr}{L:β→List (Nat×A)}{ow:β→List O}(Inv:β→Prop) (μ:β→Nat) (b0:β) (h0:Inv b0) (hst:At (L b0) (ow b0) k st)
 (turn:∀b,Inv b→TJ c t ⟨L b,ow b,k⟩ fun z st1=>(z=true→XJ c body st1 (lpQ (fun st2=>∃b',Inv b'∧μ b'<μ b∧At (L b') (ow b') k st2) QF))∧(z=false→QF .next st1)):SJ c (.While t body [] pos) st QF:=by
 refine Znc (fun n st=>∃b,Inv b∧μ b=n∧At (L b) (ow b) k st) (μ b0) ⟨b0,h0,rfl,hst⟩ ?_;rintro n ⟨l,o',k'⟩ ⟨b,hb,rfl,h1,h2,h3⟩;rw [show o'=ow b from h2,show k'=k from h3];refine ZsK (st:=⟨l,ow b,k⟩) ((turn b hb).mono fun z st1 hz=>⟨fun e=>(hz.1 e).mono fun fl st2 hf=>?_,hz.2⟩) h1;induction fl with
 | next=>refine Zt hf fun b' q1 q2 q3=>?_;exact ⟨_,q2,b',q1,rfl,q3⟩
 | cont=>refine Zt hf fun b' q1 q2 q3=>?_;exact ⟨_,q2,b',q1,rfl,q3⟩
 | brk=>exact hf
 | ret=>exact hf
end
end
section
def TIJ (c:Cx) (st:St) (Q:Qf):Prop :=
 ∀F iv ov v vs s,RS c F st (iv::ov::v::vs) s→wpAny (model c.p c.w) c.A (setItem ov iv v) (fun j s'=>Got c F vs Q s') NoE s
section
variable {l:Qc}
theorem ZcJ {ie ve:Expr}(h:EJ c ve st fun st1=>EJ c oe st1 fun st2=>EJ c ie st2 fun st3=>TIJ c st3 (QF .next)) (hs:swapsWith ve (some (.Subscript oe ie p1)) pos.line c.env=pure false:=by rfl):SJ c (.Assign [.Subscript oe ie p1] ve pos) st QF:=fun F vs s R =>
 wpAny_Assign_Subscript (wpm (h F vs s R) (fun v s1 zq0=>by obtain ⟨st1,R1,h1⟩:=zq0;exact Kb (h1 F (v::vs) s1 R1) (fun ov s2 zq1=>by refine ozg zq1 fun st2 R2 h2=>?_;exact Kb (h2 F (ov::v::vs) s2 R2) (fun iv s3 zq2=>by refine ozg zq2 fun st3 R3 h3=>?_;exact h3 F iv ov v vs s3 R3) fun j j x=>x) fun j j x=>x)) hs
end
end
section
theorem Zkh {α:Type}{ok:Qf}{n:Nat}{enc:α→A}{f:α→Option D}(hn:n<own.length) (xs:List α) (acc:Qi) (l:Qc)
 (hl:acc.length+xs.length≤1000000) (hok:∀l acc,ok ⟨l,own.set n (.list acc),[]⟩) (step:∀x acc l,x∈xs→AsJ c tgt ⟨l,own.set n (.list acc),[enc x]⟩ fun st1=>Zap c ifs st1 fun b st2 =>
  (b=true→EJ c elt st2 fun st3=>∃y,f x=some y∧st3.stk=[.d y]∧st3.own=own.set n (.list acc))∧(b=false→f x=none∧st2.stk=[]∧st2.own=own.set n (.list acc)))
 (q:∀l,Q ⟨l,own.set n (.list ((acc++xs.filterMap f).map .d)),[]⟩):CompJ c tgt ifs elt ok n (xs.map enc) ⟨l,own.set n (.list (acc.map .d)),[]⟩ Q:=by
 induction xs generalizing acc l with
 | nil =>
  have:=q l;rw [List.filterMap_nil,Rj] at this;exact ⟨hok _ _,this⟩
 | cons x xs ih =>
  have ih:=fun acc l h q=>ih acc l h (fun y a l hy=>step y a l (.tail _ hy)) q;refine ⟨hok _ _,fun F v vs s R=>wpm (step x _ l (.head _) F v vs s R) (fun j s1 z=>?_)⟩;clear step;refine ozg z fun st1 R1 h1=>?_;refine ⟨st1,R1,U9 h1 fun b st2 hb=>⟨fun e=>(hb.1 e).mono fun st3 z=>?_,fun e=>?_⟩⟩
  ·refine Zt z fun y hy hs ho=>?_;rw [Rc] at hl;refine ⟨.d y,acc.map .d,hs,by rw [ho,List.getElem?_set_self hn],by rw [Qw];exact Kr (Ko _ _) hl,?_⟩;rw [ho,List.set_set]
   have:=ih (acc++[y]) st3.loc (by rw [Qu,Nat.add_assoc,Nat.add_comm [y].length];exact hl) fun l=>by
    have:=q l;rw [List.filterMap_cons,hy] at this;rw [Qy];exact this
   rw [Q9] at this;exact this
  ·refine Yz (hb.2 e) fun hy hs ho=>?_;obtain ⟨l2,o2,k2⟩:=st2;obtain rfl:k2=_:=hs;obtain rfl:o2=_:=ho;refine ih acc l2 (Nat.le_of_succ_le hl) fun l=>?_
   have:=q l;rw [List.filterMap_cons,hy] at this;exact this
section
variable {p:Program}{w:World}
theorem Zdk (h:AR p w g ρ a v):AFr own ρ.length a a:=by
 induction a using A.casesOn with
 | d x=>exact .d x
 | own i=>refine Za h fun b e j=>?_;exact ⟨rfl,(ZB e).1⟩
 | view k i=>refine ZE h fun b j e j=>?_;exact ⟨rfl,(ZB e).1⟩
theorem Zdo:∀{as:Qh}{vs:Qo},ARs p w g ρ as vs→AFrs own ρ.length as as
 | [],_,_=>trivial
 | a::as,_,⟨v,r,_,h1,h2⟩=>⟨Zdk h1,Zdo h2⟩
theorem ZhH:∀{as:Qe}{vs:Ql},ARe p w g ρ as vs→Zj0 own ρ.length as as
 | [],_,_=>trivial
 | a::as,_,⟨v,r,_,h1,h2⟩=>⟨rfl,Zdk h1,ZhH h2⟩
theorem Zpk {h:Heap}{ob:O}{a:Addr}(H:OAt p w g ρ h ob a):OFr own ρ.length ob ob:=by
 induction ob using O.casesOn with
 | list xs=>refine Za H fun us k r=>?_;exact Zdo r
 | dict es ep=>refine Zt H fun us k k r=>?_;exact ⟨rfl,ZhH r⟩
 | inst c j=>refine Za H fun dx e k=>?_;exact ⟨rfl,rfl,(ZB e).1⟩
 | cell x=>induction x with
  | none=>trivial
  | some x=>obtain ⟨v,o,k,k,u,k,r⟩:=H;exact Zdk r
 | ask _ _=>exact ⟨rfl,rfl⟩
 | dead=>trivial
end
section
variable {s:Shared}
theorem Zky (R:RS c F st vs s){tail:Qg}{d:D}(hf:Frz (st.own++tail) st.own.length a d):Cv st.own.length ⟨st.loc,st.own++tail,a::st.stk⟩ ⟨st.loc,st.own,.d d::st.stk⟩:=by
 refine ozr R fun g ρ m W=>?_;have hl:=W.len;refine ⟨rfl,by simp,fun i o' h=>⟨o',?_,?_⟩,fun x a' h=>⟨a',h,?_⟩,hf,?_⟩
 ·have hi:=(List.getElem?_eq_some_iff.mp h).1;rw [Kl hi];exact h
 ·have hi:=(List.getElem?_eq_some_iff.mp h).1;have hi':i<st.own.length:=hi
  have:=Zpk (own:=st.own++tail) (W.own i o' ρ[i] h (Ke (by exact nP (by assumption) (by assumption))))
  rwa [hl] at this
 ·refine Zc (W.loc x a' h) fun j v j j r=>?_
  have:=Zdk (own:=st.own++tail) r
  rwa [hl] at this
 ·have:=Zdo (own:=st.own++tail) W.stk
  rwa [hl] at this
theorem ZfW {e:Expr}(h:EJ c e st fun st1=>∃tail a d,st1=⟨st.loc,st.own++tail,a::st.stk⟩∧Frz (st.own++tail) st.own.length a d∧Q ⟨st.loc,st.own,.d d::st.stk⟩):EJ c e st Q:=fun F vs s R =>
 wpm (h F vs s R) (fun j j zq2=>by
  refine Ka fun zn3=>?_;obtain ⟨st1,R1,tail,a,d,e1,hf,q⟩:=zq2;refine zn3 ?_;subst e1;exact ⟨_,R1.conv (Zky R hf) R.bounds.1 R.bounds.2,q⟩)
end
end
section
noncomputable def ZbN (sc:Scope) (x:Str) (i:Nat):Bool:=sc.names.lookup x==some .local&&(Zg sc)[i]?==some x&&!(x==("__debug__":Str))
noncomputable def Zcu (sc:Scope) (x:Str):Bool:=sc.names.lookup x==some .globalImplicit&&!(x==("__debug__":Str))
noncomputable def ZaC (sc:Scope) (x:Str):Bool:=sc.names.lookup x==some .cell&&!(x==("__debug__":Str))&&!(x==("__classdict__":Str))
noncomputable def Zia (sc:Scope) (x:Str):Bool:=sc.names.lookup x==some .free&&!(x==("__debug__":Str))&&!(x==("__classdict__":Str))
section
variable {f:Addr}{qual:Str}{cd:Value}{cel:List (Str×Nat)}
theorem isL (he:c.env=Z3 f sc qual cd c.env.locals) (ht:c.tab=Zg sc) (h:ZbN sc x i=true):IsL c x i:=by
 unfold ZbN at h;simp only [Qz,Q7,Rf] at h;refine ⟨?_,by rw [ht];exact h.1.2,h.2⟩;rw [he];exact h.1.1
theorem isG (he:c.env=Z3 f sc qual cd c.env.locals) (h:Zcu sc x=true) (hv:Xh c.G x v∨Xa c.G x v):IsG c x v:=by
 unfold Zcu at h;simp only [Qz,Q7,Rf] at h;refine ⟨?_,h.2,hv⟩;rw [he];exact h.1
noncomputable def Zdh (env:Env) (p:Str×NameKind):Str×NameKind:=if (p.2==NameKind.free&&env.scope.kind == .function&&env.kindOf p.1==some .cell) then (p.1,NameKind.cell) else (p.1,p.2)
theorem Zkc {q:Str×NameKind}:(Zdh env q).1=q.1:=by unfold Zdh;split <;> rfl
theorem Zb8 {names:List (Str×NameKind)}{k:NameKind}(h:names.lookup x=some k):∃q:Str×NameKind,q.2=k∧(names.map (Zdh env)).lookup x=some (Zdh env q).2:=by
 induction names with
 | nil=>exact Zp h
 | cons q r ih =>
  rw [Rh,List.lookup_cons,Zkc];rw [List.lookup_cons] at h;cases hb:x==q.1 with
  | true=>rw [hb] at h;exact ⟨q,Kc h,rfl⟩
  | false=>rw [hb] at h;exact ih h
theorem Zaf {k:NameKind}(hk:k≠.free){names:List (Str×NameKind)}(h:names.lookup x=some k):(names.map (Zdh env)).lookup x=some k:=by
 refine Za (Zb8 (env:=env) h) fun q e h1=>?_;rw [h1];unfold Zdh;rw [e,Zdx hk];exact congrArg (fun q:Str×NameKind=>some q.2) (if_neg fun h:(false&&_&&_)=true=>Xi h)
theorem ZkM {names:List (Str×NameKind)}(h:names.lookup x=some .free):(names.map (Zdh env)).lookup x=some .cell∨(names.map (Zdh env)).lookup x=some .free:=by
 refine Za (Zb8 (env:=env) h) fun q e h1=>?_;rw [h1];unfold Zdh;split
 ·exact .inl rfl
 ·exact .inr (congrArg some e)
theorem Zfp (H:CompFr c c' sc cel) (h:ZbN sc x i=true):IsL c' x i:=by
 unfold ZbN at h;simp only [Qz,Q7,Rf] at h;refine ⟨?_,by rw [H.tab];exact h.1.2,h.2⟩;rw [H.kd];exact Zaf (by simp) h.1.1
theorem Zrl (H:CompFr c c' sc cel) (h:Zcu sc x=true) (hv:Xh c.G x v∨Xa c.G x v):IsG c' x v:=by
 unfold Zcu at h;simp only [Qz,Q7,Rf] at h;refine ⟨?_,h.2,by rw [H.G];exact hv⟩;rw [H.kd];exact Zaf (by simp) h.1
theorem Zl7 (H:CompFr c c' sc cel) (hc:(x,i)∈cel) (h:Zia sc x=true):IsC c' x i:=by
 unfold Zia at h;simp only [Qz,Q7,Rf] at h;refine ⟨?_,by rw [H.cel];exact hc,h.1.2,h.2⟩;rw [H.kd];exact ZkM h.1.1
theorem Zsm (H:CompFr c c' sc cel) (hc:(x,i)∈cel) (h:ZaC sc x=true):IsC c' x i:=by
 unfold ZaC at h;simp only [Qz,Q7,Rf] at h;refine ⟨.inl ?_,by rw [H.cel];exact hc,h.1.2,h.2⟩;rw [H.kd];exact Zaf (by simp) h.1.1
theorem Zj6 (H:CompFr c c' sc cel) (h:ZaC sc x=true):c'.env.kindOf x=some .cell:=by
 unfold ZaC at h;simp only [Qz,Q7,Rf] at h;rw [H.kd];exact Zaf (by simp) h.1.1
end
theorem Zm1 {l:Qc}{t:Tok}(hg:IsG c x (.str y t)) (h:Q ⟨l,o,.d (.str y)::k⟩):EJ c (.Name x pos) ⟨l,o,k⟩ Q:=fun F vs s R =>
 wpm (ZQ (Q:=fun st=>st=⟨l,o,.d (.val (.str y t))::k⟩) hg rfl F vs s R) (fun v s' zq0=>by
  obtain ⟨st,⟨g,ρ,m,W⟩,e⟩:=zq0;subst e;have h1:v = .str y t:=Zd W.stk;subst h1;exact ⟨_,⟨g,ρ,m,W.stack (Zh Xb (Zb W.stk))⟩,h⟩)
theorem ZcG (c:Cx):interactive c.env=false:=by unfold interactive;rw [c.hk];rfl
theorem Zis {sl:Expr}(h:(sl.ctorIdx==26)=false):∀a b,subscripted sl false a b=operate [a,b] (getItem a b):=by
 intro a b;induction sl using Expr.casesOn <;> first | rfl | exact Zf6 h
theorem Zr (ids:List Nat) (hc:(ids.length==names.length&&(ids.zip names).all fun q=>(Zg sc)[q.1]?==some q.2&&sc.names.lookup q.2==some .local)=true)
 (e:loc'=ids.zip (args++List.replicate (names.length - args.length) (.d .none)):=by rfl):∀q∈loc',∃x,(Zg sc)[q.1]?=some x∧sc.names.lookup x=some .local∧(x,q.2)∈WM names args:=by
 subst e;unfold WM;generalize args++List.replicate (names.length - args.length) (A.d .none)=vals;simp only [Qz,Q7,List.all_eq_true] at hc;obtain ⟨hl,hc⟩:=hc;intro q hq;obtain ⟨i,hi,rfl⟩:=List.getElem_of_mem hq;rw [List.length_zip] at hi;have h1:i<names.length:=hl▸Kt hi (Nat.min_le_left _ _);have h2:=hc (ids[i],names[i]) (by
  have h3:i<(ids.zip names).length:=by rw [List.length_zip];exact Nat.lt_min.mpr ⟨hl▸h1,h1⟩
  rw [←List.getElem_zip (h:=h3)];exact List.getElem_mem h3)
 rw [List.getElem_zip];refine ⟨names[i],h2.1,h2.2,?_⟩;have h3:i<(names.zip vals).length:=by rw [List.length_zip];exact Nat.lt_min.mpr ⟨h1,Kt hi (Nat.min_le_right _ _)⟩
 rw [←List.getElem_zip (h:=h3)];exact List.getElem_mem h3
theorem ln0 {P:Qo→Prop}(h:P []):∀us,us.length=0→P us:=fun us hu=>by
 induction us using LLc with
 | nil=>exact h
 | cons a us=>cases hu
theorem lnS {P:Qo→Prop}{n:Nat}(h:∀a us,us.length=n→P (a::us)):∀us,us.length=n+1→P us:=fun us hu=>by
 induction us using LLc with
 | nil=>cases hu
 | cons a us=>exact h a us (Rm hu)
theorem ln1 {P:Qo→Prop}(h:∀a0,P [a0]):∀us,us.length=1→P us:=lnS fun a=>ln0 (h a)
theorem ln2 {P:Qo→Prop}(h:∀a0 a1,P [a0,a1]):∀us,us.length=2→P us:=lnS fun a=>ln1 fun a1=>h a a1
theorem ln3 {P:Qo→Prop}(h:∀a0 a1 a2,P [a0,a1,a2]):∀us,us.length=3→P us:=lnS fun a=>ln2 fun a1 a2=>h a a1 a2
theorem ln4 {P:Qo→Prop}(h:∀a0 a1 a2 a3,P [a0,a1,a2,a3]):∀us,us.length=4→P us:=lnS fun a=>ln3 fun a1 a2 a3=>h a a1 a2 a3
theorem ln5 {P:Qo→Prop}(h:∀a0 a1 a2 a3 a4,P [a0,a1,a2,a3,a4]):∀us,us.length=5→P us:=lnS fun a=>ln4 fun a1 a2 a3 a4=>h a a1 a2 a3 a4
theorem ln6 {P:Qo→Prop}(h:∀a0 a1 a2 a3 a4 a5,P [a0,a1,a2,a3,a4,a5]):∀us,us.length=6→P us:=lnS fun a=>ln5 fun a1 a2 a3 a4 a5=>h a a1 a2 a3 a4 a5
theorem ln7 {P:Qo→Prop}(h:∀a0 a1 a2 a3 a4 a5 a6,P [a0,a1,a2,a3,a4,a5,a6]):∀us,us.length=7→P us:=lnS fun a=>ln6 fun a1 a2 a3 a4 a5 a6=>h a a1 a2 a3 a4 a5 a6
theorem ln8 {P:Qo→Prop}(h:∀a0 a1 a2 a3 a4 a5 a6 a7,P [a0,a1,a2,a3,a4,a5,a6,a7]):∀us,us.length=8→P us:=lnS fun a=>ln7 fun a1 a2 a3 a4 a5 a6 a7=>h a a1 a2 a3 a4 a5 a6 a7
noncomputable def Zoj:FuncBody→Bool
 | .stmts _=>true
 | _=>false
theorem ZiX {b:FuncBody}(h:Zoj b=true):b = .stmts (stm b):=by induction b <;> first | rfl | exact Xi h
noncomputable def Zoc (K:W.Frag) (f:Addr) (names:Qq) (n:Nat):Bool:=isFn K f&&Zoj (Zm K f).body&&W.codeIn K (Zm K f).code (Zm K f).qualname&&(Zm K f).scope.kind == .function&&!(Zm K f).scope.isCoroutine&&!(Zm K f).scope.isGenerator &&
 Zaa (Zm K f).scope names&&(Zm K f).globals==mainGlobals&&(Zm K f).builtins==builtinsNs&&(Zm K f).closure.isEmpty&&decide (n≤names.length)
noncomputable abbrev Zlp (K:W.Frag) (G:Gx) (f n:Nat) (names:Qq):Prop:=DefAt G f (Zm K f).scope ((Zm K f).qualname++".<locals>.") (Zm K f).code (stm (Zm K f).body) n names
theorem Z2 {K:Params→W.Frag}{w:World}(I:IsK K G w){f:Addr}{n:Nat}(h:Zoc (K w.params) f names n=true)
 (hbind:∀us:Qo,us.length=n→∀S,W.peek (K w.params) S (bindArgs (Zm (K w.params) f) ⟨us,[]⟩)=some (names.zip (us++List.replicate (names.length - n) Value.none))):Zlp (K w.params) G f n names:=by
 unfold Zoc at h;simp only [Qz,Rf,Q7,decide_eq_true_eq,List.isEmpty_iff] at h;refine Ka fun zn3=>?_;obtain ⟨⟨⟨⟨⟨⟨⟨⟨⟨⟨h1,h2⟩,h3⟩,h4⟩,h5⟩,h6⟩,h7⟩,h8⟩,h9⟩,h10⟩,h11⟩:=h;refine zn3 ?_;exact Zsg I h1 (ZiX h2) h3 h4 h5 h6 h7 h8 h9 h10 h11 hbind
noncomputable abbrev Zss (K:W.Frag) (f:Addr) (c:Cx):Prop:=c.env=Z3 f (Zm K f).scope ((Zm K f).qualname++".<locals>.") (Zm K f).code c.env.locals
noncomputable abbrev ZpQ (K:W.Frag) (f:Addr) (c:Cx):Prop:=c.tab=Zg (Zm K f).scope
noncomputable abbrev XU (K:W.Frag) (f:Addr):Qr:=stm (Zm K f).body
theorem Znk {x y:Int}(h1 : -(2 ^ 64)<y) (h2:y<2 ^ 64):IntMulOk x y:=IntMulOk.of_right (intBits_le_64 h1 h2)
theorem Zax (d n m:Nat):ZN d (some (n:Int)) m=min n m:=by
 show (max (0:Int) (min (if (n:Int)<0 then _ else _) _)).toNat=_;rw [if_neg (Int.not_lt.mpr (Rb n))];rcases Nat.le_total n m with h | h
 ·rw [Rz h,Int.min_eq_left (Int.ofNat_le.mpr h),Int.max_eq_right (Rb n)];rfl
 ·rw [Nat.min_eq_right h,Int.min_eq_right (Int.ofNat_le.mpr h),Int.max_eq_right (Rb m)];rfl
theorem Zj4 {α:Type}(l:List α) (n:Nat):cut l none (some (n:Int))=l.take n:=by
 unfold cut;rw [Zax];show (l.drop 0).take (min n l.length - 0)=_;rw [List.drop_zero,Nat.sub_zero];refine Or.elim (Nat.le_total n l.length) (fun h=>?_) fun h=>?_
 ·rw [Rz h]
 ·rw [Nat.min_eq_right h,List.take_length,List.take_of_length_le h]
theorem Zj3 {α:Type}(l:List α) (n:Nat):cut l (some (n:Int)) none=l.drop n:=by
 unfold cut;rw [Zax];show (l.drop (min n l.length)).take (l.length - min n l.length)=_;rcases Nat.le_total n l.length with h | h
 ·rw [Rz h,List.take_of_length_le (by simp)]
 ·rw [Nat.min_eq_right h,Rp,List.take_zero,List.drop_of_length_le h]
theorem UF {L:Qc}{ow:Qg}(h:Le L st.loc) (h1:st.own=ow) (h2:st.stk=k):At L ow k st:=⟨h,h1,h2⟩
theorem ZbX {lo hi stp:Option Expr}{p:Pos}:∀a b:Value,∃ops,subscripted (.Slice lo hi stp p) false a b=operate ops (getItem a b):=Zh6 (v:=.Constant .none 0 ⟨0,0,0,0⟩)
end
section
section
variable {s:Shared}{m:Qk}{l:Qc}
theorem RSW.big (W:RSW c F st vs s g ρ m):s.heap.objs.size≠sysModules:=by
 refine oze (c.G.lib.low _ W.base) fun o e=>?_;have h2:(3:Nat)<s.heap.objs.size:=(Kk (W.keep _ _ e));exact fun e=>by rw [e] at h2;exact absurd h2 (by decide)
theorem Xw {p:Program}{w:World}{h:Heap}{a:Addr}(e:h.get? a=some {cls:=.type "dict",data:=.dict #[]}):h.DictAt (strKind p w) a [] 0 :=
 ⟨_,#[],e,⟨rfl,rfl,rfl⟩,rfl,fun e he=>absurd he (by simp),by constructor,List.nodup_nil⟩
noncomputable def Zbf:Qq→List (Value×Value)→Prop
 | [],[]=>True
 | x::xs,p::ps=>(∃t,p.1 = .str x t)∧Zbf xs ps
 | _,_=>False
def DJ (c:Cx) (ks:List (Option Expr)) (es:Qs) (st:St) (Q:Qq→St→Prop):Prop :=
 ∀F vs s pos,RS c F st vs s→wpAny (model c.p c.w) c.A (evalPairs (pairTrees ks es c.env pos)) (fun ps s'=>∃xs st',Zbf xs ps∧RS c F st' ((ps.map (·.2)).reverse++vs) s'∧Q xs st') NoE s
theorem Zk6 {Q:Qq→St→Prop}(h:Q [] st):DJ c [] [] st Q:=fun j j j j R=>pairTrees_nil_walk ⟨[],st,trivial,R,h⟩
theorem Zg2 {Q:Qq→St→Prop}{n:Nat}{p:Pos}{ks:List (Option Expr)}{e:Expr}{es:Qs}(h:EJ c e st fun st1=>DJ c ks es st1 fun xs st2=>Q (x::xs) st2):DJ c (some (.Constant (.str x) n p)::ks) (e::es) st Q:=fun F vs s pos R =>
 pairTrees_cons_walk (wpAny_Constant_str (wpm (h F vs _ (R.same _)) (fun v s1 zq0=>by obtain ⟨st1,R1,h1⟩:=zq0;exact Kb (h1 F (v::vs) s1 pos R1) (fun ps s2 zq1=>by refine Zc zq1 fun xs st2 hk R2 h2=>?_;exact ⟨x::xs,st2,⟨⟨_,rfl⟩,hk⟩,by simpa using R2,h2⟩) fun j j x=>x)))
theorem ZeI {xs:Qq}:∀{ps:List (Value×Value)},Zbf xs ps→ps.length=xs.length:=by
 induction xs with
 | nil=>intro ps h;induction ps using LLc with
  | nil=>rfl
  | cons _ _=>exact False.elim h
 | cons x xs ih=>intro ps h;induction ps using LLc with
  | nil=>exact False.elim h
  | cons p ps=>exact congrArg Nat.succ (ih h.2)
theorem Zba {p:Program}{w:World}{xs:Qq}:∀{ps:List (Value×Value)},Zbf xs ps→Carries (strKind p w) ps (xs.zip (ps.map (·.2))):=by
 induction xs with
 | nil=>intro ps h;induction ps using LLc with
  | nil=>trivial
  | cons _ _=>exact False.elim h
 | cons x xs ih=>intro ps h;induction ps using LLc with
  | nil=>exact False.elim h
  | cons q ps =>
   obtain ⟨kv,v⟩:=q;obtain ⟨⟨t,e⟩,h⟩:=h;exact ⟨by subst e;exact strKind_is _ _ x t,rfl,ih h⟩
theorem Zml {p:Program}{w:World}{xs:Qq}{as:Qh}(h:ARs p w g ρ as us) (hl:as.length=xs.length):ARe p w g ρ (xs.zip as) (xs.zip us):=by
 replace h:=Wq.mp h;induction h generalizing xs with
 | nil=>induction xs using LLc with
  | nil=>rfl
  | cons _ _=>cases hl
 | cons h _ ih=>induction xs using LLc with
  | nil=>cases hl
  | cons x xs=>exact ⟨_,_,rfl,h,ih (Rm hl)⟩
theorem Zlu {α β:Type}{xs:List α}{ys:List β}(h:xs.length=ys.length):(xs.zip ys).map (·.1)=xs:=by
 induction xs generalizing ys with
 | nil=>rfl
 | cons x xs ih=>induction ys using LLc with
  | nil=>cases h
  | cons y ys=>exact congrArg (x::·) (ih (Rm h))
noncomputable def Zca (ks:List (Option Expr)) (es:Qs):Bool:=ks.all (·.isSome)&&ks.length==es.length&&!ks.isEmpty&&decide (ks.length≤15)
theorem Zg0 {ks:List (Option Expr)}{es:Qs}(h:DJ c ks es ⟨l,o++[.dict [] 0],k⟩ fun xs st1=>st1.own[o.length]?=some (.dict [] 0)∧xs.Nodup∧∃as r,Zii xs.length st1.stk=some (as,r)∧∀ep,Q ⟨st1.loc,st1.own.set o.length (.dict (xs.zip as) ep),.own o.length::r⟩)
 (hok:Zca ks es=true):EJ c (.Dict ks es pos) ⟨l,o,k⟩ Q:=fun F vs s zq2=>by
 refine ozr zq2 fun g ρ m W=>?_;unfold Zca at hok;simp only [Qz,Q7,Rf,decide_eq_true_eq] at hok;obtain ⟨⟨⟨h1,h2⟩,h3⟩,h4⟩:=hok;have W1:=(W.allocO {cls:=.type "dict",data:=.dict #[]} s.toks (o':=.dict [] 0) ⟨[],W.big,Xw (Kh _ rfl),rfl⟩).pinned (pn:=[(o.length,s.heap.objs.size)]) fun q hq=>by
  rw [Q3] at hq;subst hq;rw [show o.length=ρ.length from W.len.symm];simp
 refine wpAny_Dict_walk (knd:=strKind c.p c.w) h1 h2 (by rintro rfl;simp at h3) h4 (wpm (h _ vs _ pos ⟨g,_,m,W1⟩) (fun ps s1 zq3=>?_));refine Ka fun zn4=>?_;obtain ⟨xs,st1,hk,⟨g1,ρ1,m1,W2⟩,hown,hnd,as,r,hp,q⟩:=zq3;have ea:=W2.pin _ (Kg _ (.head _));refine Zt (W2.own _ _ _ hown ea) fun kv0 n0 d0 r0=>?_;refine zn4 ?_;subst r0;obtain ⟨e,hx⟩:=ZgC hp;have hq:=W2.stk;rw [e] at hq;have hl:=ZeI hk;obtain ⟨q1,q2⟩:=ZA hq (by simp [hl,hx]);refine ⟨_,Zba hk,d0.dictOf,fun h' hd hs=>?_⟩;have hz:(xs.zip (ps.map (·.2))).map (·.1)=xs:=Zlu (by simp [hl]);rw [merged_nil_of_nodup _ (by rw [hz];exact hnd)] at hd;obtain ⟨ep,hd⟩:=hd.dictAt;refine ⟨_,⟨g1,ρ1,m1,(((W2.stack q2).setOwn (t:=s1.toks+ps.length) (List.getElem?_eq_some_iff.mp hown).1 ea (fun b ob hb eb=>(hs.2 b hb).trans eb) (o':=.dict (xs.zip as) ep) ⟨_,n0,hd,Zml q1 hx⟩).unpin).push (a:=.own o.length) ⟨_,ea,rfl⟩⟩,q ep⟩
end
end
section
noncomputable def cp (x:Str):List Nat:=x.cps.toList
theorem Zo6 (h:cp x=cp y):x=y:=by
 induction x;induction y;simp only [cp] at h;simp only [Str.mk.injEq];exact Array.toList_inj.mp h
theorem YL (x y:Str):cp (x++y)=cp x++cp y:=by
 show (x.cps++y.cps).toList=_;simp [cp]
noncomputable def jn (sep:List Nat):List (List Nat)→List Nat
 | []=>[]
 | [x]=>x
 | x::r=>x++sep++jn sep r
theorem ZeP (sep:Str):∀l:Qq,cp (Str.join sep l)=jn (cp sep) (l.map cp)
 | []=>rfl
 | [x]=>rfl
 | x::y::r=>by
  show cp (x++sep++Str.join sep (y::r))=_;rw [YL,YL,ZeP sep (y::r)];rfl
theorem Zda (sep:Str) (l:Qq):cp (Txt.join sep l)=jn (cp sep) (l.map cp):=by
 rw [←ZeP];exact congrArg cp (PySem.StrLaws.glued_eq_join sep l)
theorem ZdX:∀l:List (List Nat),jn [] l=l.flatten
 | []=>rfl
 | [x]=>by simp [jn]
 | x::y::r=>by simp only [jn,Rj,List.flatten_cons];rw [ZdX (y::r)];rfl
end
section
noncomputable def Zb6 (sc:Scope) (cel:List (Str×Nat)):List (Str×Nat):=cel.filter fun q=>sc.names.contains (q.1,.free)&&!(Zi sc.names).contains q.1
noncomputable def Us (sc:Scope) (cel:List (Str×Nat)):Bool :=
 sc.kind == .function&&decide (Zg sc).Nodup&&sc.names.all (fun x=>x.2 != .local||sc.names.lookup x.1==some .local) &&
 sc.names.all (fun x=>x.2 != .free||(Zb6 sc cel).any fun q=>q.1==x.1)&&decide (Zi sc.names).Nodup
theorem UK {cel:List (Str×Nat)}(hc:c.cel=cel) (h:Us sc cel=true):CompOK c sc (Zb6 sc cel):=by
 unfold Us at h;simp only [Qz,Q7,decide_eq_true_eq,List.all_eq_true,Bool.or_eq_true,bne_iff_ne,ne_eq,List.any_eq_true] at h;refine Ka fun zn0=>?_;refine oza h fun zo4 h5=>?_;refine oza zo4 fun zo3 h4=>?_;refine oza zo3 fun zo2 h3=>?_;obtain ⟨h1,h2⟩:=zo2;refine zn0 ?_;refine ⟨h1,h2,fun x hx he=>(h3 x hx).elim (fun q=>absurd he q) id,fun x hx=>?_,fun q hq=>?_,h5⟩
 ·rcases h4 _ hx with q | ⟨q,hq,e⟩
  ·exact absurd rfl q
  ·have e':q.1=x:=e;subst e';exact ⟨q.2,hq⟩
 ·unfold Zb6 at hq;refine oza (Zio hq) fun a b=>?_;simp only [Qz,List.contains_iff_mem,Rf,List.contains_eq_mem,decide_eq_true_eq,decide_eq_false_iff_not] at b;exact ⟨hc▸a,b.1,b.2⟩
section
variable {l:Qc}
theorem ZlO {f:Value}{x y:D}{R:D→Prop}(H:Zw c.G f need [x,y] R) (hk:∀h,c.G.lib.B h→ZF c f h) (hn:need≤c.fuel) (q:∀d,R d→Q ⟨l,o,.d d::k⟩):CJ c 2 ⟨l,o,.d y::.d x::.d (.val f)::k⟩ Q:=Wr (args:=[x,y]) H hk hn rfl q
end
section
variable {l:Qc}
theorem Zbg (h:QB true st):Zap c [] st QB:=h
theorem Ze9 {e:Expr}{es:Qs}(h:TJ c e st fun b st1=>(b=true→Zap c es st1 QB)∧(b=false→QB false st1)):Zap c (e::es) st QB:=h
theorem ZnC {xs:Qi}(q:Q ⟨l,o,.d (.bool (!xs.isEmpty))::k⟩):OJ2 c (compareOp .NotEq) ⟨l,o,.d (.list [])::.d (.list xs)::k⟩ Q:=ZoQ Ze6 (by rw [ZeF];exact q)
theorem ZoH {v sl:Expr}{xs:Qi}(hsz:xs.length≤1000000) (q:Q ⟨l,o,.d (.list (cut xs lo hi))::k⟩) (hs:∀a b,∃ops,subscripted sl false a b=operate ops (getItem a b)):OJ2 c (subscriptTail v sl) ⟨l,o,.d (.slice lo hi none)::.d (.list xs)::k⟩ Q:=Zn8 (a:=.d (.list xs)) (by rfl) hsz q hs
theorem ZmS (xs:Qi):cut xs (some 1) none=xs.drop 1:=Zj3 xs 1
end
end
section
variable {w:World}
noncomputable def UO:Str:="0123456789abcdef"
noncomputable def Xy (i:Int):Str:=⟨#[(UO.cps[i.toNat]?).getD 0]⟩
theorem ZlF {i:Int}(h0:0≤i) (h1:i<16):UO.cps[i.toNat]?=some ((UO.cps[i.toNat]?).getD 0):=by
 have e:UO.cps.size=16:=by kd_p
 have:i.toNat<UO.cps.size:=nP e ((Int.toNat_lt h0).mpr h1);rw [Rx this];rfl
end
section
variable {w:World}
section
variable {l:Qc}
theorem Zew {e:Expr}{es:Qs}{d:D}{ds:Qi}(h:AsJ c e ⟨st.loc,st.own,.d d::st.stk⟩ fun st1=>Zf1 c es ds st1 Q):Zf1 c (e::es) (d::ds) st Q:=h
theorem Zmw (h:Q st):Zf1 c [] [] st Q:=h
end
end
section
noncomputable def YN (ι:Nat→Nat):A→A
 | .d x=>.d x
 | .own i=>.own (ι i)
 | .view k i=>.view k (ι i)
noncomputable def Zf2 (ι:Nat→Nat):Qe→List (Str×A):=List.map fun e=>(e.1,YN ι e.2)
noncomputable def Xv (ι:Nat→Nat):O→O
 | .list xs=>.list (xs.map (YN ι))
 | .dict es ep=>.dict (Zf2 ι es) ep
 | .inst c j=>.inst c (ι j)
 | .cell x=>.cell (x.map (YN ι))
 | .ask a n=>.ask a n
 | .dead=>.dead
section
variable {p:Program}{w:World}{h:Heap}{σ:Qp}
theorem ZbL (hι:∀j:Nat,ρ[ι j]?=σ[j]?):∀{a:A}{v:Value},AR p w g ρ (YN ι a) v↔AR p w g σ a v
 | .d _,_=>Iff.rfl
 | .own i,v=>by show (∃a,ρ[ι i]?=some a∧_)↔(∃a,σ[i]?=some a∧_);rw [hι]
 | .view k i,v=>by show (∃d a,ρ[ι i]?=some d∧_)↔(∃d a,σ[i]?=some d∧_);rw [hι]
theorem Zbb (hι:∀j:Nat,ρ[ι j]?=σ[j]?){as:Qh}:ARs p w g ρ (as.map (YN ι)) vs↔ARs p w g σ as vs:=by
 induction as generalizing vs with
 | nil=>exact Iff.rfl
 | cons a as ih=>exact exists_congr fun v=>exists_congr fun r=>and_congr_right fun u=>and_congr (ZbL hι) ih
theorem Znz (hι:∀j:Nat,ρ[ι j]?=σ[j]?){as:Qe}{vs:Ql}:ARe p w g ρ (Zf2 ι as) vs↔ARe p w g σ as vs:=by
 induction as generalizing vs with
 | nil=>exact Iff.rfl
 | cons a as ih=>exact exists_congr fun v=>exists_congr fun r=>and_congr_right fun u=>and_congr (ZbL hι) ih
theorem ZdN (hι:∀j:Nat,ρ[ι j]?=σ[j]?):∀{o:O}{a:Addr},OAt p w g ρ h (Xv ι o) a↔OAt p w g σ h o a
 | .list xs,a=>by show (∃vs,IsLst h a vs∧ARs p w g ρ (xs.map (YN ι)) vs)↔(∃vs,IsLst h a vs∧ARs p w g σ xs vs);simp only [Zbb hι]
 | .dict es ep,a=>by
  show (∃kvs,a≠sysModules∧h.DictAt (strKind p w) a kvs ep∧ARe p w g ρ (Zf2 ι es) kvs)↔(∃kvs,a≠sysModules∧h.DictAt (strKind p w) a kvs ep∧ARe p w g σ es kvs);simp only [Znz hι]
 | .inst c j,a=>by show (∃dx,ρ[ι j]?=some dx∧_)↔(∃dx,σ[j]?=some dx∧_);rw [hι]
 | .cell none,a=>Iff.rfl
 | .cell (some x),a=>by
  show (∃v o,h.get? a=some o∧o.data = .cell v∧∃u,v=some u∧AR p w g ρ (YN ι x) u)↔(∃v o,h.get? a=some o∧o.data = .cell v∧∃u,v=some u∧AR p w g σ x u);simp only [ZbL hι]
 | .ask _ _,a=>Iff.rfl
 | .dead,a=>Iff.rfl
end
noncomputable def iot (is:List Nat) (n j:Nat):Nat:=match is[j]? with
 | some i=>i
 | none=>n+(j - is.length)
noncomputable def ZdL (ι:Nat→Nat):List Nat→List O→List O→List O
 | i::is,x::xs,o=>ZdL ι is xs (o.set i (Xv ι x))
 | _,_,o=>o
noncomputable def WL (is:List Nat) (o os:Qg):Qg:=ZdL (iot is o.length) is os o++(os.drop is.length).map (Xv (iot is o.length))
theorem Y6:(ZdL ι is os o).length=o.length:=by
 induction is generalizing os o with
 | nil=>induction os using LLc <;> rfl
 | cons i is ih=>induction os using LLc with
  | nil=>rfl
  | cons x xs=>exact ih.trans Q8
theorem Zej {x:O}(hn:is.Nodup) (hl:is.length≤os.length) (h:(ZdL ι is os o)[i]?=some x):(∃(j:Nat) (y:O),is[j]?=some i∧os[j]?=some y∧x=Xv ι y)∨(i∉is∧o[i]?=some x):=by
 induction is generalizing os o with
 | nil=>exact .inr ⟨List.not_mem_nil,by induction os using LLc <;> exact h⟩
 | cons i0 is ih=>induction os using LLc with
  | nil=>exact absurd hl (Nat.not_succ_le_zero _)
  | cons x0 xs =>
   rcases ih (List.nodup_cons.mp hn).2 (Nat.le_of_succ_le_succ hl) h with ⟨j,y,h1,h2,h3⟩ | ⟨h1,h2⟩
   ·exact .inl ⟨j+1,y,h1,h2,h3⟩
   ·by_cases e:i0=i
    ·rw [e] at h2;have hlt:i<o.length:=Q8 (as:=o)▸(ZB h2).1;rw [List.getElem?_set_self hlt] at h2;exact .inl ⟨0,x0,congrArg some e,rfl,(Kc h2).symm⟩
    ·rw [Rw e] at h2;exact .inr ⟨fun z=>(ZH z).elim (fun z=>e z.symm) h1,h2⟩
structure OW (G:Gx) (F:Fz) (ob:Qg) (s:Shared) (g:Heap) (σ:Qp):Prop extends HS G F s g where
 len:σ.length=ob.length
 nd:σ.Nodup
 fr:∀b∈σ,g.get? b=none
 own:∀(i:Nat) o a,ob[i]?=some o→σ[i]?=some a→OAt G.p G.w g σ s.heap o a
 apart:∀b∈σ,(∀r∈G.reg,b≠r.at_)∧∀q∈F.hid,b≠q.1
 pin:∀q∈F.pin,σ[q.1]?=some q.2
inductive OPost (G:Gx) (F:Fz) (g:Heap) (R:A→List O→Prop) (v:Value) (s':Shared):Prop
 | mk (g':Heap) (σ':Qp) (a:A) (os':Qg) (H:OW G F os' s' g' σ') (hs:Sub g g') (hv:AR G.p G.w g' σ' a v) (h:R a os')
def Zn7 (G:Gx) (f:Value) (need:Nat) (os:Qg) (args:Qh) (R:A→List O→Prop):Prop :=
 ∀(A:Around) (F:Fz) (us:Qo) (s:Shared) (g:Heap) (σ:Qp),A.handled=none→A.depth+need<recursionLimit→A.units+8*need+40≤cLine→OW G F os s g σ→ARs G.p G.w g σ args us →
  wpAny (model G.p G.w) A (call f us) (OPost G F g R) NoE s
section
variable {s:Shared}{m:Qk}
noncomputable def Fz.lend (F:Fz) (g h:Heap) (L:Addr) (ρ σ:Qp):Fz:={g₀:=g,hid:=F.hid++Zo h (L::ρ.filter fun b=>decide (b∉σ)),gens:=F.gens,os:=F.os,pin:=idx σ}
theorem RSW.lend (W:RSW c F st vs s g ρ m) (hnd:is.Nodup) (hos:os.length=is.length) (ho:∀(j i:Nat),is[j]?=some i→∃x,os[j]?=some x∧st.own[i]?=some (Xv (iot is st.own.length) x)):
 ∃σ:Qp,(∀j:Nat,ρ[iot is st.own.length j]?=σ[j]?)∧σ.length=is.length∧(∀b∈σ,b∈ρ)∧OW c.G (F.lend g s.heap c.env.locals ρ σ) os s g σ:=by
 have hlt:∀i∈is,i<ρ.length:=fun i hi=>by
  refine oze (ZdV hi) fun j e=>?_;refine Za (ho j i e) fun x u h2=>?_;rw [W.len];exact (ZB h2).1
 have hσ:∀j:Nat,ρ[iot is st.own.length j]?=(is.map fun i=>(ρ[i]?).getD 0)[j]?:=fun j=>by
  rw [Ru];unfold iot;induction e:is[j]? with
  | none =>
   dsimp only [Option.map_none];rw [List.getElem?_eq_none];rw [W.len];exact Ko _ _
  | some i =>
   have:=hlt i (Kj e);simp only [Option.map_some,Ke this,Option.getD_some]
 have hin:∀b∈is.map (fun i=>(ρ[i]?).getD 0),b∈ρ:=fun b hb=>by
  refine Za (List.mem_map.mp hb) fun i hi zo1=>?_;subst zo1;rw [Ke (hlt i hi)];exact List.getElem_mem _
 refine ⟨is.map fun i=>(ρ[i]?).getD 0,hσ,by simp,hin,?_⟩;have hstand:∀q∈Zo s.heap (c.env.locals::ρ.filter fun b=>decide (b∉is.map fun i=>(ρ[i]?).getD 0)),q.1∈c.env.locals::ρ∧s.heap.get? q.1=some q.2∧q.1∉is.map fun i=>(ρ[i]?).getD 0:=fun q hq=>by
  refine oza (Zj hq) fun h1 h2=>?_;rcases List.mem_cons.mp h1 with h1 | h1
  ·rw [h1] at h2 ⊢;exact ⟨.head _,h2,fun hb=>(W.fr _ (hin _ hb)).2 rfl⟩
  ·refine oza (List.mem_filter.mp h1) fun h3 h4=>?_;exact ⟨.tail _ h3,h2,Kw h4⟩
 exact {
  base:=W.base,g0:=Sub.refl _,keep:=W.keep,reg:=W.reg,gens:=W.gens,bare:=W.bare,os:=W.os
  hid:=fun q hq=>by
   rcases List.mem_append.mp hq with hq | hq
   ·exact W.hid q hq
   ·refine Yz (hstand q hq) fun h1 h2 u=>?_;exact ⟨h2,W.nomut _ (ZD h1),(W.apart _ h1).1⟩
  len:=by simp [hos]
  nd:=by
   refine List.pairwise_map.mpr (List.Pairwise.imp_of_mem ?_ hnd);intro a b ha hb hab e;rw [Ke (hlt a ha),Ke (hlt b hb)] at e;exact hab (YC W.nd (hlt a ha) (hlt b hb) e)
  fr:=fun b hb=>(W.fr b (hin b hb)).1
  own:=fun j o a h1 h2=>by
   have hj:j<is.length:=by rw [←hos];exact (List.getElem?_eq_some_iff.mp h1).1
   obtain ⟨x,e1,e2⟩:=ho j is[j] (Ke hj);rw [h1] at e1;obtain rfl:=Kc e1;refine (ZdN hσ).mp (W.own _ _ a e2 ?_)
   have:=hσ j;unfold iot at this;rw [Ke hj] at this;exact this.trans h2
  apart:=fun b hb=>⟨(W.apart b (.tail _ (hin b hb))).1,fun q hq=>by
   rcases List.mem_append.mp hq with hq | hq
   ·exact (W.apart b (.tail _ (hin b hb))).2 q hq
   ·refine Yz (hstand q hq) fun u u h3=>?_;exact fun e=>h3 (e▸hb)⟩
  pin:=fun q hq=>Zdi hq}
theorem RSW.got (W:RSW c F st vs s g ρ m){σ:Qp}(hσ:∀j:Nat,ρ[iot is st.own.length j]?=σ[j]?) (hl:σ.length=is.length) (hin:∀b∈σ,b∈ρ) (hnd:is.Nodup){σ':Qp}{os':Qg}(H:OW c.G (F.lend g s.heap c.env.locals ρ σ) os' s' g' σ') (hs:Sub g g'):
 ∃ρ',(∀j:Nat,ρ'[iot is st.own.length j]?=σ'[j]?)∧Ext ρ ρ'∧RSW c F ⟨st.loc,WL is st.own os',st.stk⟩ vs s' g' ρ' m:=by
 have hpin:∀(j:Nat) a,σ[j]?=some a→σ'[j]?=some a:=fun j a e=>H.pin (j,a) (Un e);have hlen:is.length≤σ'.length:=by
  rw [←hl];induction hz:σ.length using Nat.casesOn with
  | zero=>exact Q4 _
  | succ k =>
   have:=hpin k _ (Ke (hz▸Nat.lt_succ_self k))
   have:=(ZB this).1;assumption
 have ext:Ext ρ (ρ++σ'.drop is.length):=fun i a e=>by
  rw [Kl (ZB e).1];exact e
 have hι:∀j:Nat,(ρ++σ'.drop is.length)[iot is st.own.length j]?=σ'[j]?:=fun j=>by
  by_cases hj:j<is.length
  ·have h1:=hσ j;have h2:σ[j]?=some σ[j]:=Ke (by exact nP (by assumption) (by assumption));rw [h2] at h1;rw [ext _ _ h1,hpin _ _ h2]
  ·have:iot is st.own.length j=st.own.length+(j - is.length):=by unfold iot;rw [List.getElem?_eq_none (by exact Nat.not_lt.mp (by assumption))]
   rw [this,←W.len,Km (by exact Ko _ _),List.getElem?_drop];rw [Q6,nI hj]
 have hid:∀b∈c.env.locals::ρ,b∉σ→∃ob,s.heap.get? b=some ob∧s'.heap.get? b=some ob∧g'.get? b=none∧∀d∈σ',d≠b:=fun b hb hn=>by
  refine oze (W.there b hb) fun ob e=>?_;have hm:(b,ob)∈F.hid++Zo s.heap (c.env.locals::ρ.filter fun b=>decide (b∉σ)):=by
   refine Kf _ (ZX ?_ e);refine Or.elim (ZH hb) (fun hb=>?_) fun hb=>?_
   ·exact hb▸.head _
   ·exact .tail _ (List.mem_filter.mpr ⟨hb,decide_eq_true hn⟩)
  refine Yz (H.hid (b,ob) hm) fun h1 h2 u=>?_;exact ⟨ob,e,h1,h2,fun d hd=>(H.apart d hd).2 _ hm⟩
 have hL:c.env.locals∉σ:=fun hb=>(W.fr _ (hin _ hb)).2 rfl;refine Wj (hid _ (.head _) hL) fun lo l1 l2 l3 l4=>?_;have hσσ:∀b∈σ,∃j:Nat,j<is.length∧σ'[j]?=some b:=fun b hb=>by
  refine oze (ZdV hb) fun j e=>?_;exact ⟨j,by rw [←hl];exact (ZB e).1,hpin _ _ e⟩
 have hnew:∀b∈σ'.drop is.length,b∈σ'∧b∉ρ:=fun b hb=>by
  refine ⟨List.mem_of_mem_drop hb,fun hr=>?_⟩;by_cases hn:b∈σ
  ·refine Za (hσσ b hn) fun j h1 h2=>?_;refine oze (ZdV hb) fun i h3=>?_;rw [List.getElem?_drop] at h3;obtain ⟨a1,a2⟩:=ZB h2;obtain ⟨b1,b2⟩:=ZB h3
   have:=YC H.nd a1 b1 (a2.trans b2.symm);exact Nat.not_le.mpr h1 (this▸Ko _ _)
  ·refine Wj (hid b (.tail _ hr) hn) fun u u u u h=>?_;exact h b (List.mem_of_mem_drop hb) rfl
 have hg0:∀b∈ρ,g'.get? b=none:=fun b hb=>by
  by_cases hn:b∈σ
  ·refine Za (hσσ b hn) fun j u h2=>?_;exact H.fr b (Kj h2)
  ·refine Wj (hid b (.tail _ hb) hn) fun u u u h u=>?_;exact h
 refine ⟨_,hι,ext,{
  base:=H.base,g0:=W.g0.trans hs,keep:=H.keep,reg:=H.reg,hid:=fun q hq=>H.hid q (Kg _ hq),gens:=H.gens,bare:=H.bare,os:=H.os
  ns:=by refine ZS W.ns fun o es ep h r=>?_;exact ⟨o,es,ep,by rw [l1] at h;obtain rfl:=Kc h;exact l2,r⟩
  nl:=l3
  loc:=fun y a h=>by refine Zc (W.loc y a h) fun z v e0 e r=>?_;exact ⟨z,v,e0,e,AR.sub _ _ hs ext a v r⟩
  len:=by
   have:=H.len;simp only [WL,Qu,Y6,Qw,List.length_drop,W.len];lia
  nd:=List.nodup_append.mpr ⟨W.nd,H.nd.sublist (List.drop_sublist _ _),fun x hx y hy e=>(hnew y hy).2 (e▸hx)⟩
  fr:=fun b hb=>by
   rcases List.mem_append.mp hb with hb | hb
   ·exact ⟨hg0 b hb,(W.fr b hb).2⟩
   ·exact ⟨H.fr b (hnew b hb).1,l4 b (hnew b hb).1⟩
  own:=fun i o a h1 h2=>?_
  stk:=ARs.sub _ _ hs ext _ _ W.stk
  cel:=fun x i h=>by refine Za (W.cel x i h) fun b e r=>?_;exact ⟨b,ext _ _ e,r⟩
  apart:=fun b hb=>by
   rcases List.mem_cons.mp hb with rfl | hb
   ·exact W.apart _ (.head _)
   refine Or.elim (List.mem_append.mp hb) (fun hb=>?_) fun hb=>?_
   ·exact W.apart _ (.tail _ hb)
   ·have:=H.apart b (hnew b hb).1;exact ⟨this.1,fun q hq=>this.2 q (Kg _ hq)⟩
  pin:=fun q hq=>ext _ _ (W.pin q hq)}⟩
 have hlo:is.length≤os'.length:=by rw [←H.len];exact hlen
 by_cases hi:i<st.own.length
 ·unfold WL at h1;rw [Kl (by rw [Y6];exact hi)] at h1;rw [Kl (by rw [W.len];exact hi)] at h2;rcases Zej hnd hlo h1 with ⟨j,y,e1,e2,rfl⟩ | ⟨e1,e2⟩
  ·have hij:iot is st.own.length j=i:=by unfold iot;rw [e1]
   have h3:σ'[j]?=some a:=by rw [←hι j,hij];exact ext _ _ h2
   exact (ZdN hι).mpr (H.own _ _ _ e2 h3)
  ·refine OAt.sub _ _ hs ext (fun ob e=>?_) o (W.own i o a e2 h2);have ha:a∉σ:=fun hm=>by
    refine oze (List.mem_iff_getElem?.mp hm) fun j hj=>?_;have h3:=hσ j;have hjl:j<is.length:=by rw [←hl];exact (List.getElem?_eq_some_iff.mp hj).1
    unfold iot at h3;rw [Ke hjl,hj] at h3;obtain ⟨a1,a2⟩:=List.getElem?_eq_some_iff.mp h3;obtain ⟨b1,b2⟩:=List.getElem?_eq_some_iff.mp h2
    have:=YC W.nd a1 b1 (a2.trans b2.symm);exact e1 (this▸List.getElem_mem _)
   refine Wj (hid a (.tail _ (Kj h2)) ha) fun ob' r1 r2 u u=>?_;rw [r1] at e;obtain rfl:=Kc e;exact r2
 ·have hi':st.own.length≤i:=by exact Nat.not_lt.mp (by assumption)
  unfold WL at h1;rw [Km (by rw [Y6];exact hi'),Y6,Ru] at h1;refine Za (Option.map_eq_some_iff.mp h1) fun y e1 zo1=>?_;subst zo1;rw [List.getElem?_drop] at e1;rw [Km (by rw [W.len];exact hi'),W.len,List.getElem?_drop] at h2;exact (ZdN hι).mpr (H.own _ _ _ e1 h2)
end
section
variable {l:Qc}
theorem XX {n:Nat}{f:Value}(is:List Nat) (H:Zn7 c.G f need os args R) (hk:∀h,c.G.lib.B h→ZF c f h) (hn:need≤c.fuel) (hl:args.length=n)
 (hnd:is.Nodup) (hos:os.length=is.length) (ho:∀(j i:Nat),is[j]?=some i→∃x,os[j]?=some x∧o[i]?=some (Xv (iot is o.length) x))
 (q:∀a os',R a os'→Q ⟨l,WL is o os',YN (iot is o.length) a::k⟩) :
 CJ c n ⟨l,o,(args.map (YN (iot is o.length))).reverse++.d (.val f)::k⟩ Q:=fun F f' us vs s hu zq3=>by
 refine Ka fun zn19=>?_;obtain ⟨g,ρ,m,W⟩:=zq3;refine oza (ZA (xs:=args.map (YN (iot is o.length))) W.stk (by simp [hu,hl])) fun q1 q2=>?_;refine zn19 ?_;have ef:f'=f:=Zd q2;subst ef;have hd:=c.hd;have hun:=c.hu;refine Wj (W.lend hnd hos ho) fun σ h1 h2 h3 h4=>?_;refine ⟨?_,?_⟩
 ·exact hk _ (c.G.lib.mono _ _ W.keep W.base)
 ·refine wpm (H c.A _ us s g σ c.hh (by exact nT (by assumption) (by assumption)) (by exact nK (by assumption) (by assumption)) h4 ((Zbb h1).mp q1)) (fun v s' zq4=>?_);obtain ⟨g',σ',a,os',H',hs,hv,hR⟩:=zq4;refine Zt (W.got h1 h2 h3 hnd H' hs) fun ρ' e1 e2 W'=>?_;exact ⟨_,⟨g',ρ',m,W'.stack (Zh (a:=YN (iot is o.length) a) ((ZbL e1).mpr hv) (ARs.sub c.p c.w hs e2 _ _ (Zb q2)))⟩,q a os' hR⟩
end
end
section
def Zh8 (R:A→List O→Prop) (fl:Fl) (st:St):Prop:=match fl with
 | .ret=>∃a,st.stk=[a]∧R a st.own
 | .next=>R (.d .none) st.own
 | _=>False
theorem RSW.toOW {s:Shared}{m:Qk}(W:RSW c F st vs s g ρ m):OW c.G F st.own s g ρ :=
 {toHS:=W.toHS,len:=W.len,nd:=W.nd,fr:=fun b hb=>(W.fr b hb).1,own:=W.own,apart:=fun b hb=>W.apart b (.tail _ hb),pin:=W.pin}
theorem OW.of_g {s:Shared}{σ:Qp}(x:Sub F.g₀ g) (H:OW G {F with g₀:=g} os s g' σ):OW G F os s g' σ :=
 {base:=H.base,g0:=x.trans H.g0,keep:=H.keep,reg:=H.reg,hid:=H.hid,gens:=H.gens,bare:=H.bare,os:=H.os,len:=H.len,nd:=H.nd,fr:=H.fr,own:=H.own,apart:=H.apart,pin:=H.pin}
def OSpecC (G:Gx) (f:Value) (need:Nat) (os:Qg) (args:Qh) (R:A→List O→Prop):Prop :=
 ∀(A:Around) (F:Fz) (us:Qo) (s:Shared) (g:Heap) (σ:Qp),A.handled=none→A.depth+need<recursionLimit→A.units+8*need+40≤cLine→OW G F os s g σ→ARs G.p G.w g σ args us →
  codeAny (model G.p G.w) A (.call f ⟨us,[]⟩) (fun r s'=>match r with | .ok (.ret v)=>OPost G F g R v s' | .ok _=>False | .error e=>NoE e s') s
theorem OSpecC.toO {f:Value}(h:OSpecC G f need os args R):Zn7 G f need os args R:=fun A F us s g σ h1 h2 h3 h4 h5=>wpAny_call (h A F us s g σ h1 h2 h3 h4 h5)
end
section
section
variable {p:Program}{w:World}
theorem UC (v:Value) (n:Str):v.isStr n=(strKind p w).is n v:=by induction v <;> rfl
theorem ZbA {es:Array DictEntry}(hk:KeysOf (strKind p w) es):es.toList.any (·.refKey)=false:=by
 rw [List.any_eq_false];intro e he;refine Za (hk e (by simpa using he)) fun k h1 j=>?_;refine oze (Value.isStrOf_shape h1) fun t ht=>?_;unfold DictEntry.refKey;rw [ht];simp
theorem US {o:Obj}{es:Array DictEntry}(hd:o.data = .dict es ep) (hk:KeysOf (strKind p w) es) (hp:Pairs (strKind p w) es.toList kvs) (n:Str):W.lookIn n o=some (valueAt kvs n):=by
 unfold W.lookIn;rw [hd]
 try dsimp only
 have e:(fun e:DictEntry=>e.key.isStr n)=fun e=>(strKind p w).is n e.key:=funext fun e=>UC _ _;have hf:=hp.find n;simp only [e];cases hq:es.toList.find? (fun e=>(strKind p w).is n e.key) with
 | some en=>rw [hq] at hf;simpa using hf
 | none=>rw [hq] at hf;simp only [ZbA hk,Bool.false_eq_true,if_false];simpa using hf
theorem Zcn {h:Heap}{d:Addr}{o:Obj}{es:Array DictEntry}(ho:h.get? d=some o) (hc:o.ExactDict) (hd:o.data = .dict es ep) (hk:KeysOf (strKind p w) es) (hp:Pairs (strKind p w) es.toList kvs) (hn:(kvs.map (·.1)).Nodup)
 (n:Str) (t:Tok) (v:Value):∃es' ep',(Obj.putName n (PyData.keyHash w.params n) (.str n t) v o).data = .dict es' ep'∧es'.size≤es.size+1∧(h.update d (Obj.putName n (PyData.keyHash w.params n) (.str n t) v)).DictOf (strKind p w) d (stored kvs n v):=by
 obtain ⟨oc,od,oda,osl⟩:=o;obtain ⟨c1,c2,c3⟩:=hc;dsimp only at c1 c2 c3 hd;subst c1 c2 c3 hd;have e:(fun e:DictEntry=>e.key.isStr n)=fun e=>(strKind p w).is n e.key:=funext fun e=>UC _ _;have hidx:(es.findIdx? fun e=>(strKind p w).is n e.key)=kvs.findIdx? fun kv=>decide (kv.1=n):=by
  rw [←hp.findIdx n];obtain ⟨l⟩:=es;simp
 have hkey:(strKind p w).is n (.str n t)=true:=strKind_is _ _ n t;cases hi:es.findIdx? fun e=>(strKind p w).is n e.key with
 | some i =>
  have hput:Obj.putName n (PyData.keyHash w.params n) (.str n t) v ⟨.type "dict",none,.dict es ep,#[]⟩=⟨.type "dict",none,.dict (es.modify i fun e=>{e with val:=v}) ep,#[]⟩:=by
   rw [Obj.putName_eq];unfold Obj.putNameByArray;simp only [e,hi]
  refine ⟨_,_,by rw [hput],by simp,?_⟩;refine ⟨_,_,ep,(Heap.get?_update_self _ ho (by rw [hput];rfl)).trans (by rw [hput]),⟨rfl,rfl,rfl⟩,rfl,hk.modify _ _,?_,?_⟩
  ·rw [stored,if_pos (any_of_findIdx_some (hidx▸hi))];have hl:(es.toList.findIdx? fun e=>(strKind p w).is n e.key)=some i:=by rw [←hi];obtain ⟨l⟩:=es;simp
   have:=hp.modify hn hl v;obtain ⟨l⟩:=es;simpa using this
  ·rw [stored,if_pos (any_of_findIdx_some (hidx▸hi)),keys_map_store];exact hn
 | none =>
  have hput:Obj.putName n (PyData.keyHash w.params n) (.str n t) v ⟨.type "dict",none,.dict es ep,#[]⟩=⟨.type "dict",none,.dict (es.push ⟨PyData.keyHash w.params n,.str n t,v⟩) (ep+1),#[]⟩:=by
   rw [Obj.putName_eq];unfold Obj.putNameByArray;simp only [e,hi]
  have hnot:n∉kvs.map (·.1):=not_mem_of_findIdx_none (hidx▸hi);have hany:¬(kvs.any fun kv=>decide (kv.1=n))=true:=by
   rw [List.any_eq_true];rintro ⟨kv,hkv,he⟩;exact hnot (List.mem_map.mpr ⟨kv,hkv,Kw he⟩)
  refine ⟨_,_,by rw [hput],by simp,?_⟩;refine ⟨_,_,ep+1,(Heap.get?_update_self _ ho (by rw [hput];rfl)).trans (by rw [hput]),⟨rfl,rfl,rfl⟩,rfl,hk.push hkey _,?_,?_⟩
  ·rw [stored,if_neg hany]
   have:=hp.append hkey ((strKind p w).hash n) v;obtain ⟨l⟩:=es;simpa using this
  ·rw [stored,if_neg hany,Q9,List.nodup_append];refine ⟨hn,by simp,?_⟩;intro a ha b hb;simp only [Rh,List.map_nil,Q3] at hb;subst hb;exact fun e=>hnot (e▸ha)
noncomputable def Zfh (K:W.Frag) (C:Addr) (name:Str):Bool:=W.findIn K (.ref C) "__setattr__"==some (some (.builtin "object.__setattr__"))&&W.plainOver K C&&W.takerIn K C name==some none&&W.hasDictIn K C
noncomputable def ZcI (K:W.Frag) (C:Addr) (name:Str):Bool:=W.plainGet K C name&&W.hasDictIn K C&&(W.findIn K (.ref C) name).any fun attr=>W.noGet K attr
section
variable {A:Around}{s:Shared}{x C dx:Addr}
theorem Uq {o:Obj}{h:Heap}(hx:h.get? x=some {cls:=.ref C,dict:=some dx,data:=.plain}) (ho:h.get? dx=some o):W.InstAt h x {cls:=.ref C,dict:=some dx,data:=.plain} C (some o):=⟨hx,rfl,rfl,ho⟩
theorem ZjX {Q:Unit→Shared→Prop}(X:K.In s.heap) (hx:s.heap.get? x=some {cls:=.ref C,dict:=some dx,data:=.plain}) (hD:s.heap.DictOf (strKind p w) dx kvs) (hok:Zfh K C name=true) (hz:kvs.length≤1000)
 (q:∀h',h'.DictOf (strKind p w) dx (stored kvs name v)→Heap.SameBut dx s.heap h'→Q () {s with heap:=h',toks:=s.toks+2}):wpAny (model p w) A (setAttr (.ref x) name v) Q E s:=by
 unfold Zfh at hok;simp only [Qz,Q7] at hok;refine Ka fun zn4=>?_;refine oza hok fun zo3 h4=>?_;refine oza zo3 fun zo2 h3=>?_;refine oza zo2 fun h1 h2=>?_;obtain ⟨od,es,ep,ho,hc,hd,hk,hp,hn⟩:=hD;refine zn4 ?_;have I:=Uq hx ho;refine W.set_plain X I h1 (W.osa_open (s:={s with toks:=s.toks+1}) X I h2 h3 fun b=>?_);refine Ka fun zn5=>?_;refine Za (W.any_some h4) fun cd hc' hd'=>?_;refine Zc (Zcn ho hc hd hk hp hn name (s.toks+1) v) fun es' ep' e1 e2 e3=>?_;refine zn5 ?_;refine Kd (Ki (Kd (Kd (wpAny_loadPart hx (Kd (W.Looks.here (s:={s with toks:=s.toks+1}) (W.looks_clsIn X hc') ?_))))));rw [hd'];refine Ki (a:=some dx) (Kd (Ki (Kd ?_)));unfold nsSet;refine Kd (Kd (wpAny_askSetting (Ki (Kd (wpAny_mkText (Kd (wpAny_loadPart ho ?_)))))));rw [hd]
 try dsimp only
 have c:(!es.any (·.key.isStr name)&&es.any (·.refKey))=false:=by
  have:=ZbA hk;rw [Array.any_toList] at this;rw [this,Bool.and_false]
 rw [aRefKeyMayBeTheName_at,c];refine wpAny_updatePart ho ?_;have D':(s.heap.update dx (Obj.putName name (PyData.keyHash w.params name) (.str name (s.toks+1)) v)).get? dx=some (Obj.putName name (PyData.keyHash w.params name) (.str name (s.toks+1)) v od):=Heap.get?_update_self _ ho (Obj.isFreed_of_dict e1)
 have hes:es.size=kvs.length:=by have e1:=hp.length;have e2:es.toList.length=es.size:=by rfl
                                 assumption
 refine Kd (wpAny_lookBehind D' (by rw [e1];exact pastItsLine_dict (by rw [sizeLine_eq];lia)) ?_);exact Ki (q _ e3 (Heap.SameBut.update ..))
theorem ZeZ {Q:Qj}{expr:Bool}(X:K.In s.heap) (hx:s.heap.get? x=some {cls:=.ref C,dict:=some dx,data:=.plain}) (hD:s.heap.DictOf (strKind p w) dx kvs) (hok:ZcI K C name=true) (hv:valueAt kvs name=some v) (hh:W.handedIn v=true)
 (q:Q v {s with toks:=s.toks+1}):wpAny (model p w) A (getAttr (.ref x) name expr) Q E s:=by
 unfold ZcI at hok;simp only [Qz] at hok;refine Ka fun zn6=>?_;refine oza hok fun zo2 h3=>?_;refine oza zo2 fun h1 h2=>?_;refine Za (W.any_some h3) fun attr h4 h5=>?_;obtain ⟨od,es,ep,ho,hc,hd,hk,hp,hn⟩:=hD;refine zn6 ?_;exact W.get_value X (Uq hx ho) (W.plainGet_of h1).1 (W.findObj_own h2 h4 h5 ((US hd hk hp name).trans (by rw [hv]))) hh q
end
end
end
section
noncomputable def Z6 {α:Type}(es:List (Str×α)) (k:Str) (a:α):List (Str×α) :=
 if es.any (fun e=>e.1=k) then es.map (fun e=>if e.1=k then (e.1,a) else e) else es++[(k,a)]
noncomputable def Z5 {α:Type}(es:List (Str×α)) (k:Str):Option α:=(es.find? fun e=>e.1=k).map (·.2)
section
variable {p:Program}{w:World}
theorem ZlY {k:Str}{es:Qe}(h:ARe p w g ρ es kvs):(kvs.any fun e=>e.1=k)=es.any fun e=>e.1=k:=(Xm.mp h).any fun j j h=>by rw [h.1]
theorem Zmi {k:Str}(hv:AR p w g ρ a v){es:Qe}(h:ARe p w g ρ es kvs):ARe p w g ρ (es.map fun e=>if e.1=k then (e.1,a) else e) (kvs.map fun e=>if e.1=k then (e.1,v) else e) :=
 Xm.mpr ((Xm.mp h).map fun x u h=>by
  by_cases e:x.1=k
  ·rw [if_pos e,if_pos (h.1.trans e)];exact ⟨h.1,hv⟩
  ·rw [if_neg e,if_neg fun z=>e (h.1.symm.trans z)];exact h)
theorem Zfy {es fs:Qe}{us:Ql}(h:ARe p w g ρ es kvs) (h2:ARe p w g ρ fs us):ARe p w g ρ (es++fs) (kvs++us):=Xm.mpr ((Xm.mp h).app (Xm.mp h2))
theorem Wk {k:Str}{es:Qe}(h:ARe p w g ρ es kvs) (hv:AR p w g ρ a v):ARe p w g ρ (Z6 es k a) (stored kvs k v):=by
 unfold Z6 stored;rw [ZlY h];split
 ·exact Zmi hv h
 ·exact Zfy h ⟨v,[],rfl,hv,rfl⟩
theorem Zid {α:Type}{x:Str×α}{es:List (Str×α)}{k:Str}:Z5 (x::es) k=if x.1=k then some x.2 else Z5 es k:=by
 unfold Z5;rw [List.find?_cons];by_cases e:x.1=k
 ·rw [if_pos e,decide_eq_true e];rfl
 ·rw [if_neg e,decide_eq_false e]
theorem ZdH {x:Str×Value}{es:Ql}{k:Str}:valueAt (x::es) k=if x.1=k then some x.2 else valueAt es k:=by
 unfold valueAt;rw [List.find?_cons];by_cases e:x.1=k
 ·rw [if_pos e,decide_eq_true e];rfl
 ·rw [if_neg e,decide_eq_false e]
theorem Zer {k:Str}{es:Qe}(h:ARe p w g ρ es kvs):ARo p w g ρ (Z5 es k) (valueAt kvs k):=by
 replace h:=Xm.mp h;induction h with
 | nil=>rfl
 | @cons x v _ _ h _ ih =>
  rw [Zid,ZdH,h.1];by_cases e:x.1=k
  ·rw [if_pos e,if_pos e];exact ⟨_,rfl,h.2⟩
  ·rw [if_neg e,if_neg e];exact ih
theorem Up {k:Str}{es:Qe}(h:ARe p w g ρ es kvs) (hk:Z5 es k=some a):∃v,valueAt kvs k=some v∧AR p w g ρ a v:=by
 have:=Zer (k:=k) h;rw [hk] at this;exact this
theorem Xz {k:Str}{es:Qe}(h:ARe p w g ρ es kvs) (hk:Z5 es k=none):valueAt kvs k=none:=by
 have:=Zer (k:=k) h;rw [hk] at this;exact this
theorem ZdS (h:VRe p w g es kvs):ARe p w g ρ (es.map fun e=>(e.1,A.d e.2)) kvs:=by
 induction es generalizing kvs with
 | nil=>exact h
 | cons e es ih=>exact h.imp fun v h=>h.imp fun r h=>⟨h.1,h.2.1,ih h.2.2⟩
theorem ZiI {k:Str}{d:D}(h:Z5 es k=some d):Z5 (es.map fun e=>(e.1,A.d e.2)) k=some (.d d):=by
 unfold Z5 at h ⊢;refine Za (YW h) fun e h1 h2=>?_;rw [List.find?_map];have:(fun e:Str×A=>decide (e.1=k))∘(fun e:Str×D=>(e.1,A.d e.2))=fun e=>decide (e.1=k):=rfl;rw [this,h1,←h2];rfl
noncomputable def ZaJ:A→Bool
 | .d (.val _)=>false
 | _=>true
theorem Zc2 (h:AR p w g ρ a v) (hp:ZaJ a=true):W.handedIn v=true:=by
 induction a using A.casesOn with
 | d x =>
  induction x using D.casesOn with
  | none=>subst h;rfl
  | bool b=>subst h;rfl
  | int i=>refine oze h fun t zo1=>?_;subst zo1;rfl
  | str i=>refine oze h fun t zo2=>?_;subst zo2;rfl
  | bytes i=>refine oze h fun t zo3=>?_;subst zo3;rfl
  | list xs=>refine ZE h fun j j zo4 j=>?_;subst zo4;rfl
  | tuple xs=>refine ZE h fun j j zo5 j=>?_;subst zo5;rfl
  | dict xs=>refine ZE h fun j j zo6 j=>?_;subst zo6;rfl
  | range a b=>refine XR h fun j j j j zo7 j=>?_;subst zo7;rfl
  | slice a b c=>refine XR h fun j j j j zo8 j=>?_;subst zo8;rfl
  | view k es=>refine ZS h fun j j j zo9 j=>?_;subst zo9;rfl
  | inst c fs=>refine ZE h fun j j zo10 j=>?_;subst zo10;rfl
  | val u=>exact Xi hp
 | own i=>refine Za h fun j j zo11=>?_;subst zo11;rfl
 | view k i=>refine Zc h fun j j j zo12 j=>?_;subst zo12;rfl
end
def KIn (c:Cx) (K:W.Frag):Prop:=∀h,c.G.lib.B h→K.In h
theorem kIn {K:Params→W.Frag}{w:World}(I:IsK K G w) (hG:c.G=G):KIn c (K w.params):=fun h hB=>by subst hG;exact (I.B h hB).1
def AtJ (c:Cx) (name:Str) (st:St) (Q:Qf):Prop :=
 ∀F ov v vs s,RS c F st (ov::v::vs) s→wpAny (model c.p c.w) c.A (setAttr ov name v) (fun j s'=>Got c F vs Q s') NoE s
def GaJ (c:Cx) (name:Str) (st:St) (Q:Qf):Prop :=
 ∀F ov vs s expr,RS c F st (ov::vs) s→wpAny (model c.p c.w) c.A (getAttr ov name expr) (EQ c F vs Q) NoE s
section
variable {l:Qc}
theorem RSW.kIn {s:Shared}{m:Qk}(W:RSW c F st vs s g ρ m) (hK:KIn c K):K.In s.heap:=hK _ (c.G.lib.mono _ _ W.keep W.base)
theorem Zpi {attr:Str}{pos':Pos}{value:Expr}(h:EJ c value st fun st1=>EJ c oe st1 fun st2=>AtJ c attr st2 (QF .next)) (hs:swapsWith value (some (.Attribute oe attr pos')) pos.line c.env=pure false:=by rfl):
 SJ c (.Assign [.Attribute oe attr pos'] value pos) st QF:=fun F vs s R =>
 plainObj_wpAny_Assign_Attribute (wpm (h F vs s R) (fun v s1 zq0=>by refine ozg zq0 fun st1 R1 h1=>?_;exact Kb (h1 F (v::vs) s1 R1) (fun ov s2 zq1=>by refine ozg zq1 fun st2 R2 h2=>?_;exact h2 F ov v vs s2 R2) fun j j x=>x)) hs
theorem Zo4 {C:Addr}{es:Qe}(hK:KIn c K) (hok:Zfh K C name=true) (ho:o[i]?=some (.inst C j)) (hd:o[j]?=some (.dict es ep)) (hz:es.length≤1000) (q:∀ep',Q ⟨l,o.set j (.dict (Z6 es name a) ep'),k⟩):
 AtJ c name ⟨l,o,.own i::a::k⟩ Q:=fun F ov v vs s zq2=>by
 refine ozr zq2 fun g ρ m W=>?_;refine Za (Zd W.stk) fun ai ea e1=>?_;subst e1;refine Za (W.own i _ ai ho ea) fun dx e2 e3=>?_;refine Zt (W.own j _ dx hd e2) fun kvs n0 d0 r0=>?_;refine ZjX (W.kIn hK) e3 d0.dictOf hok (by rw [YD r0];exact hz) fun h' hd' hs=>?_;refine oze hd'.dictAt fun ep' hd'=>?_;exact ⟨_,⟨g,ρ,m,(W.stack (Zb (Zb W.stk))).setOwn (t:=s.toks+2) (List.getElem?_eq_some_iff.mp hd).1 e2 (fun b ob hb eb=>(hs.2 b hb).trans eb) (o':=.dict (Z6 es name a) ep') ⟨_,n0,hd',Wk r0 (Zd (Zb W.stk))⟩⟩,q ep'⟩
theorem YT {attr:Str}(h:EJ c oe st fun st1=>GaJ c attr st1 Q) (hb:Xs oe=false:=by rfl):EJ c (.Attribute oe attr pos) st Q:=fun F vs s R=>by
 rw [arm_eval_Attribute];refine Kd (ZcM hb (wpm (h F vs s R) (fun ov s1 zw=>ozg zw fun st1 R1 h1=>Kd (Rq (Kd (Rs (Kb (h1 F ov vs s1 true R1) (fun v s2 h2=>?_) fun j j x=>x)))))));exact Kd (wpAny_letTemporaryGo (Ki h2))
theorem Zjs {C:Addr}{es:Qe}(hK:KIn c K) (hok:ZcI K C name=true) (ho:o[i]?=some (.inst C j)) (hd:o[j]?=some (.dict es ep)) (hv:Z5 es name=some a) (hp:ZaJ a=true) (q:Q ⟨l,o,a::k⟩):
 GaJ c name ⟨l,o,.own i::k⟩ Q:=fun F ov vs s expr zq4=>by
 obtain ⟨g,ρ,m,W⟩:=zq4;refine Za (Zd W.stk) fun ai ea e1=>?_;subst e1;refine Za (W.own i _ ai ho ea) fun dx e2 e3=>?_;refine Zt (W.own j _ dx hd e2) fun kvs n0 d0 r0=>?_;refine Za (Up r0 hv) fun v e4 e5=>?_;exact ZeZ (W.kIn hK) e3 d0.dictOf hok e4 (Zc2 e5 hp) ⟨_,⟨g,ρ,m,(W.tok _).stack (Zh e5 (Zb W.stk))⟩,q⟩
theorem Yt {C:Addr}{d:D}(hK:KIn c K) (hok:ZcI K C name=true) (hv:Z5 es name=some d) (hp:ZaJ (.d d)=true) (q:Q ⟨l,o,.d d::k⟩):
 GaJ c name ⟨l,o,.d (.inst C es)::k⟩ Q:=fun F ov vs s expr zq5=>by
 obtain ⟨g,ρ,m,W⟩:=zq5;refine Zc (Zd W.stk) fun ai kvs e1 zo2 r0=>?_;refine Za zo2 fun dx e3 d0=>?_;subst e1;refine Za (Up (ZdS (ρ:=ρ) r0) (ZiI hv)) fun v e4 e5=>?_;exact ZeZ (W.kIn hK) (W.keep _ _ e3) (Zz _ _ W.keep d0) hok e4 (Zc2 e5 hp) ⟨_,⟨g,ρ,m,(W.tok _).stack (Zh e5 (Zb W.stk))⟩,q⟩
noncomputable def Zas (K:W.Frag) (C f:Addr) (name:Str):Bool:=W.plainGet K C name&&W.findIn K (.ref C) name==some (some (.ref f))&&W.typeIn K (.ref f)==some (.type "function")
theorem X8 {C f:Addr}(hK:KIn c K) (hok:Zas K C f name=true) (hv:Z5 es name=none) (q:QM 1 ⟨l,o,.d (.inst C es)::.d (.val (.ref f))::k⟩):
 MJ c name ⟨l,o,.d (.inst C es)::k⟩ QM:=fun F ov vs s pl zq6=>by
 refine ozr zq6 fun g ρ m Y=>?_;refine Zc (Zd Y.stk) fun ai kvs e1 zo2 r0=>?_;refine Za zo2 fun dx e3 d0=>?_;subst e1;unfold Zas at hok;simp only [Qz,Q7] at hok;refine Ka fun zn9=>?_;refine oza hok fun zo3 h3=>?_;refine oza zo3 fun h1 h2=>?_;obtain ⟨od,es',ep,ho,hc,hd,hk,hp,hn⟩:=Zz _ _ Y.keep d0;refine zn9 ?_;have I:=Uq (Y.keep _ _ e3) ho;have hn0:Z5 (es.map fun e=>(e.1,A.d e.2)) name=none:=by
  unfold Z5 at hv ⊢;rw [Option.map_eq_none_iff] at hv ⊢;rw [List.find?_map];have:(fun e:Str×A=>decide (e.1=name))∘(fun e:Str×D=>(e.1,A.d e.2))=fun e=>decide (e.1=name):=rfl;rw [this,hv];rfl
 have hv':=Xz (ZdS (ρ:=ρ) r0) hn0;refine W.method_fn (Y.kIn hK) I (W.plainGet_of h1).1 (W.plainGet_of h1).2 h2 h3 ?_ ⟨_,⟨g,ρ,m,Y.stack (Zh (Zd Y.stk) (Zh XY (Zb Y.stk)))⟩,q⟩;unfold W.shadowIn
 try dsimp only
 rw [US hd hk hp name,hv'];rfl
end
end
section
noncomputable def UL (K:W.Frag) (C fI:Addr):Bool:=W.makesIn K C&&W.findIn K (.ref C) "__init__"==some (some (.ref fI))&&W.typeIn K (.ref fI)==some (.type "function")
theorem Ua {K:Params→W.Frag}{w:World}(I:IsK K G w) (hf:W.keepIn (K w.params) v=true) (hG:c.G=G):∀h,c.G.lib.B h→ZF c v h:=fun h hB=>by
 subst hG;refine oza (I.B h hB) fun X j=>?_;exact W.keeps_K hf h X
end
section
section
variable {l:Qc}
theorem ZnG (q:Q ⟨l,o++[.dict [] 0],.own o.length::k⟩):EJ c (.Dict [] [] pos) ⟨l,o,k⟩ Q:=fun F vs s zq0=>by
 refine ozr zq0 fun g ρ m W=>?_;refine wpAny_Dict_empty ?_;have W1:=W.allocO {cls:=.type "dict",data:=.dict #[]} s.toks (o':=.dict [] 0) ⟨[],W.big,Xw (Kh _ rfl),rfl⟩;refine ⟨_,⟨g,_,m,W1.push (a:=.own o.length) ⟨s.heap.objs.size,?_,rfl⟩⟩,q⟩;rw [W.len.symm];simp
noncomputable def Zn0:D→Bool
 | .none=>false
 | .val _=>false
 | _=>true
theorem Zfu {d:D}(h:Zn0 d=true):Zci d∧YG d=false:=by induction d using D.casesOn <;> first | exact ⟨trivial,rfl⟩ | exact Xi h
theorem ZaL {d:D}(hd:Zn0 d=true) (q:Q ⟨l,o,.d (.bool true)::k⟩):OJ2 c (compareOp .IsNot) ⟨l,o,.d .none::.d d::k⟩ Q:=Yw (Zfu hd).1 (by rw [(Zfu hd).2];exact q)
end
end
section
set_option maxHeartbeats 3200000
open PySem.Spec
theorem UI {w:World}{A:Around}{R:Result→Shared→Prop}{G:Array GenState→Array GenState→Prop}{P:Nat→Value→Prop}{St:Nat→Shared→Prop}{xs:Qq}(W:WalksS prog w A.in1 I fp wr G xs.length P St) (S:Addr) (hSf:S∉fp)
 (hval:∀i v,P i v→∃x t,xs[i]?=some x∧v = .str x t) (hnd:xs.Nodup) (hb:xs.length+1<scanBound) :
 ∀(k i:Nat) (s:Shared),xs.length - i=k→i≤xs.length→St i s →
  s.heap.SetOf (strKind prog w) S (fun y=>(xs.take i).any (· == y)) i →
  (∀s',Moved (S::wr) G s s'→s'.heap.SetOf (strKind prog w) S (fun y=>xs.any (· == y)) xs.length→R (.ok (.ret .none)) s') →
  codeAny (model prog w) A (.builtin "set.update.loop" ⟨[.ref S,.ref I],[]⟩) R s:=by
 have hSw:S∉wr:=fun h=>hSf (W.sub _ h);have hsub:∀b∈wr,b∈S::wr:=fun b hb=>List.mem_cons_of_mem _ hb;intro k;induction k with
 | zero =>
  intro i s hk hi hst hS hR;have hin:i=xs.length:=nH (by assumption) (by assumption);subst hin;refine codeAny_builtin PyProof.Rows.F.entry_set_update_loop ?_;rw [Around.under_plainId PyProof.Rows.F.plain_set_update_loop _];show wpAny _ A.in1 (pyNext (.ref I) >>= _) _ _ s;refine Kd (W.done s _ _ hst fun s' hm=>?_);show wpAny _ A.in1 (ret Value.none) _ _ s';rw [List.take_length] at hS;exact Ki (hR s' (hm.mono hsub) (by
   refine XR hS fun o es ep t ho rest=>?_;exact ⟨o,es,ep,t,hm.heap S _ hSw ho,rest⟩))
 | succ k ih =>
  intro i s hk hi hst hS hR;have hlt:i<xs.length:=Nat.lt_of_sub_eq_succ (by assumption);refine codeAny_builtin PyProof.Rows.F.entry_set_update_loop ?_;rw [Around.under_plainId PyProof.Rows.F.plain_set_update_loop _];show wpAny _ A.in1 (pyNext (.ref I) >>= _) _ _ s;refine Kd (W.item i s _ _ hlt hst fun v s' hP hst' hm=>?_);refine ZE (hval i v hP) fun x t hx zo1=>?_;subst zo1;have hS':s'.heap.SetOf (strKind prog w) S (fun y=>(xs.take i).any (· == y)) i:=by
   refine XR hS fun o es ep tb ho rest=>?_;exact ⟨o,es,ep,tb,hm.heap S _ hSw ho,rest⟩
  show wpAny _ A.in1 (holding [Value.str x t] (setAdd S (.str x t)) >>= _) _ _ s';refine Kd (Rs ?_);unfold setAdd;refine Rs ?_;refine Kd ((strKind prog w).pyHash (k:=x) (strKind_is _ _ _ _) ?_);have hroom:i+1<scanBound:=Ku (Nat.le_succ_of_le hlt) hb;refine wpAny_setAddHashed_of (knd:=strKind prog w) (s:={s' with toks:=s'.toks+1}) (strKind_is _ _ _ _) rfl hS' hroom fun h' hsb hS2=>?_;obtain ⟨hxl,hxe⟩:=List.getElem?_eq_some_iff.mp hx;have hnot:(xs.take i).any (· == x)=false:=by
   rw [List.any_eq_false];intro y hy e;obtain ⟨j,hj,ej⟩:=List.getElem_of_mem hy;rw [List.length_take] at hj;rw [List.getElem_take] at ej;have e':y=x:=by simpa using e
   have:=YC hnd (i:=j) (j:=i) (by (first | lia | omega)) hxl (by rw [ej,e',hxe])
   (first | lia | omega)
  have hSi:h'.SetOf (strKind prog w) S (fun y=>(xs.take (i+1)).any (· == y)) (i+1) :=
   SetOf_congr hS2 (fun y=>by
    rw [List.take_add_one,hx,List.any_append];simp only [Option.toList_some,List.any_cons,List.any_nil,Bool.or_false];congr 1;rw [Bool.eq_iff_iff];simp only [Q7,decide_eq_true_eq];exact eq_comm) (by simp only [hnot,Bool.false_eq_true,if_false])
  refine Ki ⟨plainId_quiet PyProof.Rows.F.plain_set_update_loop _,ih (i+1) _ (nE (by assumption)) hlt (W.frame _ s' _ _ hst' (Nat.le_succ _) fun b hb o e=>?_) hSi fun s'' hm'' hS''=>?_⟩
  ·rw [hsb.2 b (fun h:b=S=>hSf (by rw [←h];exact hb))];exact e
  ·refine hR s'' (Moved.trans W.gtrans ((hm.mono hsub).then_heap (Nat.le_succ _) fun b o hb e=>?_) hm'') hS'';rw [hsb.2 b (fun h:b=S=>hb (by rw [h];exact List.mem_cons_self))];exact e
theorem Zcv {w:World}{A:Around}{s:Shared}{l:Addr}{items:Array Value}{xs:Qq}{Q:Qj}
 (hh:A.handled=none) (hl:s.heap.IsList l items) (hi:StrsAre items.toList xs) (hnd:xs.Nodup) (hb:xs.length+1<scanBound)
 (h:∀(h':Heap) (tk:Nat),h'.SetOf (strKind prog w) s.heap.objs.size (fun y=>xs.any (· == y)) xs.length →
  (∀b o,b<s.heap.objs.size→s.heap.get? b=some o→h'.get? b=some o)→Q (.ref s.heap.objs.size) {s with heap:=h',toks:=tk}) :
 wpAny (model prog w) A (call (.type "set") [.ref l]) Q E s:=by
 refine Ue PySem.F.called_set.mro fun c tl hmro=>?_;have hmade:=PySem.F.called_set.made;have hsub:=PySem.F.called_set.sub;refine wpAny_call (codeAny_of_tree ?_);show wpAny _ _ (callAny (.type "set") _) _ _ _;refine Ki ⟨Code.quiet_builtin _ (by decide +kernel),codeAny_builtin PySem.F.entry_type_call ?_⟩;rw [Around.under_plain (weight_type_call_type "set" [.ref l] []) rfl];have h1:=PySem.F.called_set.notType;have h2:=PySem.F.called_set.canCreate;have hct:=PySem.F.typeCall_set_1 (.ref l)
 repeat (any_goals (first | assumption | wp_step))
 refine codeAny_mono (code_set_new_1 (.ref l) (E:=E) (Q₁:=fun obj s₁=>∃led:Bool,obj = .ref s.heap.objs.size∧s₁={s with heap:=s.heap.push {cls:=.type "set",dict:=none,data:=.set #[] 0 (.fresh 0 0 led)}}) fun led=>⟨led,rfl,rfl⟩) fun r s₁ hr=>?_;cases r with
 | error e=>exact hr
 | ok fl =>
  cases fl with
  | ret obj =>
   refine Za hr fun led zo1 zo2=>?_;subst zo1;subst zo2;have hS:(s.heap.push {cls:=.type "set",dict:=none,data:=.set #[] 0 (.fresh 0 0 led)}).get? s.heap.objs.size=some {cls:=.type "set",dict:=none,data:=.set #[] 0 (.fresh 0 0 led)}:=Kh _ rfl;have hT:Shared.TypeIs {s with heap:=s.heap.push {cls:=.type "set",dict:=none,data:=.set #[] 0 (.fresh 0 0 led)}} (.ref s.heap.objs.size) "set":=⟨_,hS,rfl⟩;have hli:=PySem.F.called_set.init.lookup;have hbi:=PySem.F.called_set.init.bind (.ref s.heap.objs.size)
   repeat (any_goals (first | assumption | wp_step))
   refine codeAny_mono (codeAny_call_builtin (R:=wants (fun r s₂=>r = .none∧∃h' tk,s₂={s with heap:=h',toks:=tk} ∧
    h'.SetOf (strKind prog w) s.heap.objs.size (fun y=>xs.any (· == y)) xs.length ∧
    (∀b o,b<s.heap.objs.size→s.heap.get? b=some o→h'.get? b=some o)) E) PySem.F.called_set.init.plain PySem.F.entry_set_init (check_set_init_1 hT ?_)) fun r₂ s₂ hr₂=>?_
   ·refine Ug hl fun ol hol hcl nl hdl=>?_;obtain ⟨ocls,odict,odata,oslots⟩:=ol;simp only at hcl hdl;subst hcl;subst hdl;have hol':(s.heap.push {cls:=.type "set",dict:=none,data:=.set #[] 0 (.fresh 0 0 led)}).get? l=some {cls:=.type "list",dict:=odict,data:=.seq items nl,slots:=oslots}:=Kn _ hol;have hsls:=PySem.F.sub_list_set;have hslf:=PySem.F.sub_list_frozenset;have hne:(Value.type "list"==Value.type "dict")=false:=by decide
    have hl1:(s.heap.push {cls:=.type "set",dict:=none,data:=.set #[] 0 (.fresh 0 0 led)}).IsList l items:=⟨_,hol',rfl,nl,rfl⟩;unfold Builtin.«set.__init__» noKeywords Builtin.Frozenset.updateFrom;generalize hPI:pyIter=PI
    wp_walk
    subst hPI;refine wpAny_pyIter_list hl1 ?_;refine Kd (wpAny_runValue ?_);have hlS:l<s.heap.objs.size:=Kk hol;have hh3:A.in1.in1.in1.handled=none:=by simp [hh]
    have hneI:l≠(s.heap.push {cls:=.type "set",dict:=none,data:=.set #[] 0 (.fresh 0 0 led)}).objs.size:=by
     rw [Heap.size_push];exact Rg (Nat.lt_succ_of_lt hlS)
    have hSf:s.heap.objs.size∉[(s.heap.push {cls:=.type "set",dict:=none,data:=.set #[] 0 (.fresh 0 0 led)}).objs.size,l]:=by
     rw [Heap.size_push];simp only [List.mem_cons,Q3,List.not_mem_nil,or_false,not_or];exact ⟨Rg (Nat.lt_succ_self _),Nat.ne_of_gt hlS⟩
    have hsz:items.size=xs.length:=by have:=StrsAre.length hi;simpa using this
    have hval:∀(i:Nat) (v:Value),items[i]?=some v→∃x t,xs[i]?=some x∧v = .str x t:=fun i v hv=>by
     obtain ⟨y,t,h1,h2⟩:=StrsAre.item hi i v (by rw [Array.getElem?_toList];exact hv);exact ⟨y,t,h2,h1⟩
    refine UI (hsz▸(Walks.list hh3 _ l hneI items).toS) s.heap.objs.size
     hSf hval hnd hb (xs.length - 0) 0 _ (by (first | lia | omega)) (Q4 _)
     ⟨⟨_,Kh _ rfl,rfl,rfl⟩,(hl1.push _)⟩ ?hS0 ?hR
    case hS0 =>
     have hget:((s.heap.push {cls:=.type "set",dict:=none,data:=.set #[] 0 (.fresh 0 0 led)}).push {cls:=.type "list_iterator",data:=.fields #[.ref l,.int 0 0]}).get? s.heap.objs.size
      = some {cls:=.type "set",dict:=none,data:=.set #[] 0 (.fresh 0 0 led)}:=Kn _ hS
     exact PyProof.Rows.SetOf_congr ((PyProof.Rows.setObjOf_fresh (knd:=strKind prog w) led).setOf hget (by unfold scanBound;(first | lia | omega))) (fun j=>rfl) rfl
    case hR =>
     intro s' hm hS';obtain ⟨h',g',d',tk',os'⟩:=s';have eg:g'=s.gens:=hm.gens;have ed:d'=s.drawn:=hm.drawn;have eo:os'=s.os:=hm.os;subst eg;subst ed;subst eo;show wpAny _ _ _ _ _ _;refine Ki ?_;show wpAny _ _ (ret Value.none) _ _ _;refine Ki ⟨rfl,h',tk',rfl,hS',fun b o hb e=>?_⟩;have hb1:b≠s.heap.objs.size:=Rg hb;have hb2:b≠(s.heap.push {cls:=.type "set",dict:=none,data:=.set #[] 0 (.fresh 0 0 led)}).objs.size:=by
      rw [Heap.size_push];exact Rg (Nat.lt_succ_of_lt hb)
     exact hm.heap b o (by simp only [List.mem_cons,Q3,List.not_mem_nil,or_false,not_or];exact ⟨hb1,hb2⟩) (Kn _ (Kn _ e))
   ·cases r₂ with
    | error e=>exact hr₂
    | ok fl₂ =>
     cases fl₂ with
     | ret r =>
      obtain ⟨rfl,h',tk,rfl,hS',hk'⟩:=hr₂
      repeat (any_goals (first | assumption | wp_step))
      exact h _ _ hS' hk'
     | _=>exact hr₂.elim
  | _=>exact hr.elim
section
variable {l:Qc}
theorem Zki {e:Expr}{pl ps p2:Pos}(hs:YM e=false) (hl:IsG c "len" (.builtin "len")) (ht:IsG c "set" (.type "set")) (h:EJ c e ⟨l,o,.d (.val (.type "set"))::.d (.val (.builtin "len"))::k⟩ fun st1=>∃(l':Qc) (o':Qg) (xs:Qq),st1=⟨l',o',.d (.list (xs.map .str))::.d (.val (.type "set"))::.d (.val (.builtin "len"))::k⟩∧xs.Nodup∧xs.length≤1000∧Q ⟨l',o',.d (.int xs.length)::k⟩):
 EJ c (.Call (.Name "len" pl) [.Call (.Name "set" ps) [e] [] p1] [] p2) ⟨l,o,k⟩ Q:=fun F vs s R=>by
 rw [Y2 _ _ _ rfl];refine Kd (Kb (ZQ (Q:=fun st=>st=⟨l,o,.d (.val (.builtin "len"))::k⟩) hl rfl F vs s R) (fun f s1 zq0=>?_) fun j j x=>x);obtain ⟨st1,R1,h1⟩:=zq0;subst h1;have ef:f = .builtin "len":=by obtain ⟨g,ρ,m,W⟩:=R1;exact Zd W.stk
 subst ef;refine W.callWith_of (P:=fun h=>ZF c (.builtin "len") h) rfl (fun h hk=>hk) ?_;rw [ZT _ _ rfl];refine evalArgs_plain (Calls.spliced_cons ?_);rw [Y2 _ _ _ rfl];refine Kd (Kb (ZQ (Q:=fun st=>st=⟨l,o,.d (.val (.type "set"))::.d (.val (.builtin "len"))::k⟩) ht rfl F _ s1 R1) (fun f s2 zq1=>?_) fun j j x=>x);obtain ⟨st2,R2,h2⟩:=zq1;subst h2;have ef:f = .type "set":=by obtain ⟨g,ρ,m,W⟩:=R2;exact Zd W.stk
 subst ef;refine W.callWith_of (P:=fun h=>ZF c (.type "set") h) (by rw [ZT _ _ hs];rfl) (fun h hk=>hk) ?_;rw [ZT _ _ hs];refine evalArgs_plain (Calls.spliced_cons ?_);refine Kb (h F _ s2 R2) (fun v s3 zq2=>?_) fun j j x=>x;refine Ka fun zn13=>?_;obtain ⟨st3,R3,l',o',xs,e3,hnd,hx,q⟩:=zq2;refine zn13 ?_;subst e3;refine Calls.spliced_nil ⟨XB,?_⟩;refine Ka fun zn14=>?_;obtain ⟨g,ρ,m,W⟩:=R3;refine Zc (Zd W.stk) fun a us e4 hfl hvs=>?_;refine zn14 ?_;subst e4;have hlist:s3.heap.IsList a us.toArray:=isList_sub W.keep hfl;refine Zcv c.hh hlist (by simpa using ZeL hvs) hnd (by unfold scanBound;(first | lia | omega)) fun h' tk hS hk=>?_;refine Calls.spliced_nil ⟨Zl,?_⟩;refine Ka fun zn15=>?_;obtain ⟨os,es,ep,t,q1,q2,q3,q4,q5,q6,q7,q8⟩:=hS;refine zn15 ?_;refine call_len_set (s:={s3 with heap:=h',toks:=tk}) q1 q2 q3 q7 (by rw [q8];(first | lia | omega)) ?_;have W':=W.grow (s':={s3 with heap:=h',toks:=tk+1+1}) (fun b o e=>hk b o (Kk e) e) W.gens W.bare rfl;rw [q8];exact ⟨_,⟨g,ρ,m,W'.stack (Zh YS (Zb (Zb (Zb W.stk))))⟩,q⟩
end
end
section
theorem Zqx (he:c.env.scope=sc) (ht:c.tab=Zg sc) (h:ZbN sc x i=true):IsL c x i:=by
 unfold ZbN at h;simp only [Qz,Q7,Rf] at h;exact ⟨by show c.env.scope.names.lookup x=_;rw [he];exact h.1.1,by rw [ht];exact h.1.2,h.2⟩
theorem Zqu (he:c.env.scope=sc) (h:Zcu sc x=true) (hv:Xh c.G x v∨Xa c.G x v):IsG c x v:=by
 unfold Zcu at h;simp only [Qz,Q7,Rf] at h;exact ⟨by show c.env.scope.names.lookup x=_;rw [he];exact h.1,h.2,hv⟩
structure SupFacts (K:W.Frag) (main:Module) (f fB C cc cda:Addr) (names:Qq) (ar:Arg) (vs:Array Value) (file:Str) (tf:Tok) (cls ccl cel:Value) (cdd ced:Option Addr) (ccs ces:Array (Option Value)) (cd:ClassData):Prop where
 fn:isFn K f=true
 codeIn:W.codeIn K (Zm K f).code (Zm K f).qualname=true
 code:(Zm K f).code = .ref cda
 kind:(Zm K f).scope.kind = .function
 co:(Zm K f).scope.isCoroutine=false
 gen:(Zm K f).scope.isGenerator=false
 tnd:(Zg (Zm K f).scope).Nodup
 ndn:names.Nodup
 par:names.all (fun x=>(Zm K f).scope.names.lookup x==some .local)=true
 ncell:(Zm K f).scope.names.all (fun x=>x.2 != .cell)=true
 gl:(Zm K f).globals=mainGlobals
 bu:(Zm K f).builtins=builtinsNs
 clo:(Zm K f).closure=[(("__class__":Str),cc)]
 head:((Zm K f).params.posonlyargs++(Zm K f).params.args).head?=some ar
 arg:(Zm K f).scope.names.lookup ar.arg=some .local
 arg0:(Zg (Zm K f).scope)[0]?=some ar.arg
 codeAt:K.lookup cda=some ⟨ccl,cdd,.fields vs,ccs⟩
 vs2:vs[2]?=some (.str file tf)
 file:((main.file:Str)==file)=true
 top:(main.scope.names.lookup ("super":Str)).isSome=false
 cell:K.lookup cc=some ⟨cel,ced,.cell (some (.ref C)),ces⟩
 clsC:W.clsIn K C=some cd
 mro:W.mroIn K C (.ref C)=some true
 sup:W.nsIn K mainGlobals "super"=some none
 meth:W.ks_superIn K C C "__init__"=some (some (.ref fB))
 methT:W.typeIn K (.ref fB)=some (.type "function")
 methF:W.fnIn K fB=true
 stat:W.nsIn K cStatics "thirdparty.any"=some none
 kS:(Zm K f).scope.names.lookup ("super":Str)=some .globalImplicit
 kC:(Zm K f).scope.names.lookup ("__class__":Str)=some .free
theorem Zar {n:Nat}:iot (List.range n) n=id:=by
 funext j;unfold iot;by_cases hj:j<n
 ·rw [List.getElem?_range hj];rfl
 ·rw [List.getElem?_eq_none (by simp;exact Nat.not_lt.mp (by assumption))];simp;exact nI (by assumption)
theorem Uk:YN id=id:=funext fun a=>by induction a using A.casesOn <;> rfl
theorem Zbl:Xv id=id:=funext fun x=>by
 induction x using O.casesOn with
 | list xs=>simp [Xv,Uk]
 | dict es ep=>simp only [Xv,Zf2,Uk];show O.dict (es.map id) ep=_;rw [List.map_id];rfl
 | inst c j=>rfl
 | cell x=>induction x using Option.casesOn <;> simp [Xv,Uk]
 | ask _ _=>rfl
 | dead=>rfl
theorem Zfc (h:is=List.range o.length) (hl:o.length≤os.length):WL is o os=os:=by
 have hr:∀x:O,Xv id x=x:=fun x=>by rw [Zbl];rfl
 subst h;unfold WL;rw [Zar,Zbl,List.map_id];simp only [Rk];refine List.ext_getElem? fun i=>?_;by_cases hi:i<o.length
 ·rw [Kl (by rw [Y6];exact hi)];have hs:(ZdL id (List.range o.length) os o)[i]?=some ((ZdL id (List.range o.length) os o)[i]'(by rw [Y6];exact hi)):=Ke (by rw [Y6];exact hi);rcases Zej List.nodup_range (by simpa using hl) hs with ⟨j,y,e1,e2,e3⟩ | ⟨e1,_⟩
  ·have:j=i:=by
    obtain ⟨a,b⟩:=ZB e1;simpa using b
   subst this;rw [hs,e2,e3,hr]
  ·exact absurd (Zkd hi) e1
 ·rw [Km (by rw [Y6];exact Nat.not_lt.mp (by assumption)),Y6,List.getElem?_drop];congr 1;exact nI (by assumption)
end
section
noncomputable def Yd (P:Addr):Reg:=⟨P,fun j o=>∃ps,o={cls:=.none,data:=.fields ps}∧TriplesOk ps.toList,fun j j j j h=>h⟩
noncomputable def Za1:Data→Array Value
 | .fields vs=>vs
 | _=>#[]
theorem ZgZ {d:Data}(h:(d.ctorIdx==9)=true):d = .fields (Za1 d):=Data.fields.elim (motive:=fun d=>d = .fields (Za1 d)) d (Rt h) fun j=>rfl
theorem Zhk (h:(v.ctorIdx==6)=true):∃x t,v = .str x t:=Value.str.elim (motive:=fun v=>∃x t,v = .str x t) v (Rt h) fun x t=>⟨x,t,rfl⟩
theorem ZgV (h:(v.ctorIdx==4)=true):∃x t,v = .int x t:=Value.int.elim (motive:=fun v=>∃x t,v = .int x t) v (Rt h) fun x t=>⟨x,t,rfl⟩
theorem Zks (h:(v.ctorIdx==3)=true):∃x,v = .bool x:=Value.bool.elim (motive:=fun v=>∃x,v = .bool x) v (Rt h) fun x=>⟨x,rfl⟩
noncomputable def XQ (K:W.Frag) (cda P:Addr):Bool:=(K.lookup cda).any fun o=>o.data.ctorIdx==9&&(o.cls == .type "code"&&((Za1 o.data).getD 11 .none == .ref P&&(((Za1 o.data).getD 18 .none).ctorIdx==6&&(((Za1 o.data).getD 7 .none).ctorIdx==4&&(((Za1 o.data).getD 9 .none).ctorIdx==3&&((Za1 o.data).getD 10 .none).ctorIdx==4)))))
theorem ZcA {h:Heap}{P:Addr}{op:Obj}(X:K.In h) (e:XQ K cda P=true) (hP:h.get? P=some op) (hd:op.data = .fields ps) (ht:TriplesOk ps.toList) (hne:cda≠P):h.IsCode cda P ps:=by
 refine Za (W.any_some e) fun o hl e=>?_;refine oza (Xx e) fun e0 e=>?_;refine oza (Xx e) fun j e=>?_;refine oza (Xx e) fun a1 e=>?_;refine oza (Xx e) fun a2 e=>?_;refine oza (Xx e) fun a3 e=>?_;refine oza (Xx e) fun a4 a5=>?_;refine Ue (Zhk a2) fun x1 t1 y1=>?_;refine Ue (ZgV a3) fun x2 t2 y2=>?_;refine oze (Zks a4) fun x3 y3=>?_;refine Ue (ZgV a5) fun x4 t4 y4=>?_;exact ⟨o,_,x1,t1,x2,t2,x3,x4,t4,op,X _ _ hl,ZgZ e0,Rt a1,y1,y2,y3,y4,hP,hd,ht,hne⟩
theorem XM {h:Heap}{P:Addr}(X:K.In h) (e:XQ K cda P=true) (hP:h.get? P=some {cls:=.none,data:=.fields ps}):h.TableAt cda P ps:=by
 refine Za (W.any_some e) fun o hl e=>?_;refine oza (Xx e) fun e0 e=>?_;refine oza (Xx e) fun a0 e=>?_;refine oza (Xx e) fun a1 j=>?_;refine ⟨⟨o,_,X _ _ hl,Rt a0,ZgZ e0,?_⟩,hP⟩;have a1:=Rt a1;rw [Array.getD_eq_getD_getElem?] at a1;induction hv:(Za1 o.data)[11]? with
 | none=>rw [hv] at a1;cases a1
 | some v=>rw [hv] at a1;exact congrArg some a1
theorem Zde {A:Around}{s:Shared}{c P:Addr}{qualname:Str}{Q:Qj}(hc:env.code = .ref c) (hok:s.heap.IsCode c P ps) (ht:s.heap.TableAt c P ps)
 (hQ:∀code h' tk ps',Heap.ExtBut P s.heap h'→h'.IsCode c P ps'→h'.TableAt c P ps'→Q code {s with heap:=h',toks:=tk}):wpAny M A (genexprCode env pos qualname scope) Q E s:=by
 induction hnf:codeAmong pos ps.toList with
 | some cv=>exact wpAny_genexprCode_hit hc hok hnf (hQ cv s.heap s.toks ps (Heap.ExtBut.refl _ _) hok ht)
 | none=>exact wpAny_genexprCodeX hc hok ht hnf fun c' h' tk x1 j j x2 j x3 j=>hQ _ h' tk _ x1 x2 x3
theorem HS.turnTo {s:Shared}(H:HS G F s g) (hk:∀b o,s.heap.get? b=some o→(∀r∈G.reg,b≠r.at_)→s'.heap.get? b=some o) (hr:∀r∈G.reg,∃o,s'.heap.get? r.at_=some o∧r.ok g o)
 (hg:∀(i:Nat) y,F.gens[i]?=some y→s'.gens[i]?=some y) (hb:AllBare s'.gens) (ho:s'.os=s.os):HS G F s' g where
 base:=H.base
 g0:=H.g0
 keep:=fun b o e=>hk b o (H.keep b o e) fun r hr q=>by have:=(H.reg r hr).1;rw [←q,e] at this;exact Za3 this
 reg:=fun r h=>⟨(H.reg r h).1,hr r h⟩
 hid:=fun q hq=>by refine Yz (H.hid q hq) fun h1 h2 h3=>?_;exact ⟨hk _ _ h1 h3,h2,h3⟩
 gens:=hg
 bare:=hb
 os:=ho.trans H.os
structure GenOk (G:Gx) (K:W.Frag):Prop where
 K:∀h,G.lib.B h→K.In h
 reg:∀r∈G.reg,∀P,Yd P∈G.reg→r.at_=P→r=Yd P
 bm:∀h,G.lib.B h→∃m bm o,h.Ns mainGlobals m∧m "__builtins__"=some (.ref bm)∧bm≠builtinsNs∧h.get? bm=some o∧o.cls = .type "module"∧o.dict=some builtinsNs∧o.data = .plain
 nostat:∀r∈G.reg,r.at_≠cStatics
noncomputable def XN (scope:Scope) (x:Str):Bool:=!scope.isCoroutine&&scope.names.all (fun y=>y.2 != .cell&&y.2 != .free)&&scope.names.lookup (".0":Str)==some .local&&scope.names.lookup x==some .local&&scope.kind == .function
structure GenFr (G:Gx) (scope:Scope) (cenv:Env):Prop where
 scope:cenv.scope=scope
 gl:cenv.globals=mainGlobals
 bu:cenv.builtins=builtinsNs
theorem Za5 (h:scope.names.all (fun y=>y.2 != .cell&&y.2 != .free)=true):closureFor scope env=pure []:=by
 have:∀(l:List (Str×NameKind)) (cs:Qm),l.all (fun y=>y.2 != .cell&&y.2 != .free)=true→(forIn l cs fun x r=>(do
  let name:=x.1
  if (x.2==NameKind.free)=true then do
   let a ←cellOf env name
   pure (ForInStep.yield ((name,a)::r))
  else pure (ForInStep.yield r):Sem _))=pure cs:=by
  intro l;induction l with
  | nil=>intro cs j;rfl
  | cons y l ih =>
   intro cs hl;rw [List.all_cons,Qz,Qz] at hl;have hf:(y.2==NameKind.free)=false:=by simpa using hl.1.2
   rw [List.forIn_cons];simp only [hf,Bool.false_eq_true,if_false];exact ih cs hl.2
 have:=this scope.names [] h;exact (congrArg (fun t=>t >>= fun cs=>pure cs) this).trans rfl
theorem ZpV {α β:Type}{f:α→Option β}{l:List α}(ha:∀i∈l,∃d,f i=some d){i:α}(h:l[j]?=some i):∃d,f i=some d∧(l.filterMap f)[j]?=some d:=by
 induction l generalizing j with
 | nil=>exact Zp h
 | cons a l ih =>
  obtain ⟨d,e⟩:=ha a (.head _);rw [List.filterMap_cons_some e];induction j using Nat.casesOn with
  | zero=>exact ⟨d,Kc h▸e,rfl⟩
  | succ j=>exact ih (fun i hi=>ha i (.tail _ hi)) h
theorem Zix {α β:Type}{f:α→Option β}{tz:β→Bool}(l:List α):(l.filterMap f).filter tz=(l.filter fun i=>(f i).any tz).filterMap f:=by
 induction l with
 | nil=>rfl
 | cons a l ih =>
  induction e:f a with
  | none=>rw [List.filterMap_cons_none e,Rv (by rw [e];exact Bool.noConfusion),ih]
  | some d =>
   rw [List.filterMap_cons_some e];induction h:tz d with
   | false=>rw [Rv (ne_true_of_eq_false h),Rv (by rw [e];exact ne_true_of_eq_false h),ih]
   | true=>rw [List.filter_cons_of_pos h,List.filter_cons_of_pos (by rw [e];exact h),List.filterMap_cons_some e,ih]
theorem Zcd (xs:Qi) (tz:D→Bool):(PySem.passing (fun i=>(xs[i]?).any tz) xs.length 0).length=(xs.filter tz).length ∧
 ∀(j i:Nat),(PySem.passing (fun i=>(xs[i]?).any tz) xs.length 0)[j]?=some i→∃d,xs[i]?=some d∧(xs.filter tz)[j]?=some d:=by
 have hx:(List.range xs.length).filterMap (fun i=>xs[i]?)=xs:=by
  have:=ZbB xs 0 xs.length;simpa using this
 have hf:xs.filter tz=((List.range xs.length).filter fun i=>(xs[i]?).any tz).filterMap fun i=>xs[i]?:=by
  rw [←Zix,hx]
 have hall:∀i∈(List.range xs.length).filter (fun i=>(xs[i]?).any tz),∃d,xs[i]?=some d:=fun i hi=>by
  have:=ZfC (Zio hi).1;exact ⟨_,Ke this⟩
 have e:PySem.passing (fun i=>(xs[i]?).any tz) xs.length 0=(List.range xs.length).filter fun i=>(xs[i]?).any tz:=by unfold PySem.passing;rw [List.drop_zero]
 rw [e];constructor
 ·rw [hf];generalize (List.range xs.length).filter (fun i=>(xs[i]?).any tz)=r at hall;induction r with
  | nil=>rfl
  | cons a r ih =>
   refine oze (hall a (.head _)) fun d ed=>?_;rw [List.filterMap_cons,ed];exact congrArg Nat.succ (ih fun i hi=>hall i (.tail _ hi))
 ·intro j i h;refine Za (ZpV (f:=fun i=>xs[i]?) hall h) fun d e1 e2=>?_;exact ⟨d,e1,by rw [hf];exact e2⟩
theorem Zfv {w:World}{A:Around}{G:Array GenState→Array GenState→Prop}{n n':Nat}{P P':Nat→Value→Prop}{St:Nat→Shared→Prop}(W:WalksS prog w A I fp wr G n P St) (hn:n=n') (h:∀i v,P i v→P' i v):WalksS prog w A I fp wr G n' P' St:=by
 subst hn;exact {sub:=W.sub,grefl:=W.grefl,gtrans:=W.gtrans,frame:=W.frame,item:=fun i s Q E hi st hQ=>W.item i s Q E hi st fun v s' hP=>hQ v s' (h i v hP),done:=W.done,self:=W.self}
section
variable {l:Qc}
def Xp (c:Cx) (scope:Scope) (x:Str) (ifs:Qs) (elt:Expr) (tz:D→Bool) (Fd:D→Value→Prop) (d:D):Prop :=
 ∀(A':Around) (E':Qj) (cenv:Env) (s₂:Shared) m₂ g v,GenFr c.G scope cenv→A'.handled=none→A'.units≤cLine - 10→s₂.heap.Ns cenv.locals m₂→m₂ x=some v→c.G.lib.B g→Sub g s₂.heap→VR c.p c.w g d v →
  wpAny (model c.p c.w) A' (forIn ifs true fun e r=>if r=true then do let ok ←isTrue e cenv (eval e cenv);pure (ForInStep.yield ok) else pure (ForInStep.yield r)) (fun ok s₃=>ok=tz d∧Keeps s₂ s₃) E' s₂ ∧
  (tz d=true→wpAny (model c.p c.w) A' (eval elt cenv) (fun y s₃=>Fd d y∧Keeps s₂ s₃) E' s₂)
end
end
section
section
variable {l:Qc}
theorem UB {n1 n2:Nat}{p2:Pos}{d:D}(hx:scope.names.lookup x=some .local) (hk:scope.kind = .function) (hd:Zci d) (hnd:(x==("__debug__":Str))=false):
 Xp c scope x [.Compare (.Name x p1) [.IsNot] [.Constant .none n1 p2] p3] (.Constant (.int 1) n2 p4) (fun d=>!YG d) (fun j y=>∃t,y = .int 1 t) d:=fun A' E' cenv s₂ m₂ g v gf hh hu hns hm hB hs hv=>by
 have hkf:cenv.scope.kind = .function:=by rw [gf.scope];exact hk
 have hl:cenv.kindOf x=some .local:=by show cenv.scope.names.lookup x=_;rw [gf.scope];exact hx
 refine ⟨?_,fun j=>?_⟩
 ·rw [List.forIn_cons];dsimp only [if_true,List.forIn_nil];refine Kd (Kd (wpAny_isTrue_Compare1 (wpAny_Name (wpAny_loadName_local hkf hl hns hm (wpAny_Constant_none (isNot_none (wpAny_truthy_bool (Ki (Ki ?_)))))) hnd)));rw [ZdG hd hv];exact ⟨rfl,_,_,rfl,fun j j e=>e⟩
 ·exact wpAny_Constant_int ⟨⟨_,rfl⟩,_,_,rfl,fun j j e=>e⟩
theorem Zdv {p2 p5:Pos}{d:D}(GI:Xh c.G "isinstance" (.builtin "isinstance")∨Xa c.G "isinstance" (.builtin "isinstance")) (GS:Xh c.G "str" (.type "str")∨Xa c.G "str" (.type "str"))
 (hx:scope.names.lookup x=some .local) (hki:scope.names.lookup ("isinstance":Str)=some .globalImplicit) (hks:scope.names.lookup ("str":Str)=some .globalImplicit) (hk:scope.kind = .function) (hd:∃t,d = .str t) (hnd:(x==("__debug__":Str))=false) :
 Xp c scope x [] (.UnaryOp .Not (.Call (.Name "isinstance" p1) [.Name x p2,.Name "str" p3] [] p4) p5) (fun j=>true) (fun j y=>y = .bool false) d:=fun A' E' cenv s₂ m₂ g v gf hh hu hns hm hB hs hv=>by
 refine oze hd fun t zo1=>?_;subst zo1;refine oze hv fun tk zo2=>?_;subst zo2;have hkf:cenv.scope.kind = .function:=by rw [gf.scope];exact hk
 have kd:∀y,cenv.kindOf y=scope.names.lookup y:=fun y=>by show cenv.scope.names.lookup y=_;rw [gf.scope]
 have gl:∀{y:Str} {u:Value} {Q':Qj} {s:Shared},Xh c.G y u∨Xa c.G y u→scope.names.lookup y=some .globalImplicit→(y==("__debug__":Str))=false→Sub g s.heap→Q' u s→∀p,wpAny (model c.p c.w) A' (eval (.Name y p) cenv) Q' E' s:=by
  intro y u Q' s hv hy hd' hs' q p;refine Or.elim hv (fun hv=>?_) fun hv=>?_
  ·refine Za (hv g hB) fun mg h1 h2=>?_;exact Name_function_global hkf (by rw [kd];exact hy) (loadGlobal_global (by rw [gf.gl];exact h1.keeps hs') h2 q) hd'
  ·refine YK (hv g hB) fun zo4 mb h3 h4=>?_;refine Za zo4 fun mg h1 h2=>?_;exact Name_function_global hkf (by rw [kd];exact hy) (loadGlobal_builtin (by rw [gf.gl];exact h1.keeps hs') h2 (by rw [gf.bu];exact h3.keeps hs') h4 q) hd'
 refine ⟨Ki ⟨rfl,_,_,rfl,fun j j e=>e⟩,fun j=>?_⟩;refine wpAny_UnaryOp ?_;rw [Y2 _ _ _ rfl];refine Kd (gl GI hki (by decide) hs ?_ _);refine W.callWith_of (P:=fun h=>ZF c (.builtin "isinstance") h) rfl (fun h hk=>hk) ?_;rw [ZT _ _ rfl];refine evalArgs_plain (Calls.spliced_cons (wpAny_Name (wpAny_loadName_local hkf (by rw [kd];exact hx) hns hm ?_) hnd));rw [ZT _ _ rfl];refine Calls.spliced_cons (gl GS hks (by decide) hs ?_ _);refine Calls.spliced_nil ⟨Zl,?_⟩;exact IsiPair.str_str (not_of (wpAny_truthy_bool ⟨rfl,_,_,rfl,fun j j e=>e⟩))
theorem Zb0:∀n:Nat,preSum (fun j=>1) n=n
 | 0=>rfl
 | n+1=>by unfold preSum;rw [Zb0 n];rfl
end
end
section
noncomputable def Zk8:Option (Qq)→D
 | none=>.none
 | some xs=>.list (xs.map .str)
theorem Uo (ids:List Nat) (hc:(ids.length==names.length&&(ids.zip names).all fun q=>(Zg sc)[q.1]?==some q.2&&sc.names.lookup q.2==some .local)=true)
 (e:loc'=ids.zip (args++List.replicate (names.length - args.length) (.d .none)):=by rfl):∀q∈loc',∃x,(Zg sc)[q.1]?=some x∧(x,q.2)∈WM names args:=fun q hq=>by refine Zt (Zr ids hc e q hq) fun x a j b=>?_;exact ⟨x,a,b⟩
theorem ZgR {f:Value}{n:Nat}(h:OSpecC G f n os args R) (hn:n≤m:=by decide):OSpecC G f m os args R:=fun A F us s g σ h1 h2 h3=>h A F us s g σ h1 (by exact nT (by assumption) (by assumption)) (by exact nK (by assumption) (by assumption))
end
section
noncomputable def WN (x:Str):Array UInt8:=x.cps.foldl (fun acc y=>acc++(Str.utf8Of y).toArray) #[]
open Builtin._codecs in
def Zgx (x:Str):Prop:=(WN x).size≤sizeLine∧∀id self,encodeNarrow id utf8Codec none self x=pure (WN x)
theorem Zei {w:World}{A:Around}{s:Shared}{t u:Tok}{Q:Qj}(h:Zgx x) (hq:∀t',Q (.bytes (WN x) t') {s with toks:=s.toks+1}):
 wpAny (model prog w) A (call (.builtin "str.encode") [.str x t,.str "utf-8" u]) Q E s:=by
 refine wpAny_call_entry PySem.F.slot_str_encode (T:="str") rfl PySem.F.entry_str_encode ?_ (PySem.F.args_str_encode_2 _ _);have e:Builtin.«str.encode» ⟨[.str x t,.str "utf-8" u],[]⟩=(do ret (←Builtin._codecs.encodeRoad "str.encode" (.str x t) x (Str.ofString "utf-8") none)):=by kd_p
 rw [e,encodeRoad_utf8,h.2];refine Kd (Kd (Ki (wpAny_mkBytes ?_ h.1)));exact Ki ⟨_,rfl,hq _⟩
section
variable {l:Qc}
theorem Zjq (h:Zgx x) (q:Q ⟨l,o,.d (.bytes (WN x))::k⟩):CJ c 2 ⟨l,o,.d (.str "utf-8")::.d (.str x)::.d (.val (.builtin "str.encode"))::k⟩ Q :=
 WY (as:=[.d (.str x),.d (.str "utf-8")]) (r:=.d (.bytes (WN x))) rfl (fun j=>Zl) (fun F st vs s g ρ m us W h2 Q' hq=>by
  refine Zc (YF h2) fun u v zo6 zo7 zo8=>?_;subst zo6;obtain ⟨t,rfl⟩:=zo7;obtain ⟨t',rfl⟩:=zo8;exact Zei h fun t=>hq _ _ Zjz) q
end
end
section
theorem YV {w:World}{A:Around}{s:Shared}{T:String}{id:String}{b:Builtin}{self:Value}{rest:Qo}{Q:Qj}{S:PySem.Spec}(h:Slot T name id) (hT:s.TypeIs self T)
 (hb:entryFor table id=some b) (ha:argsOk id ⟨self::rest,[]⟩) (g:MeetsIn prog w (b ⟨self::rest,[]⟩) S) (hs:S A (fun r s'=>match r with | .ok (.ret v)=>Q v s' | .ok _=>False | .error e=>E e s') s) :
 wpAny (model prog w) A (call (.builtin id) (self::rest)) Q E s :=
 wpAny_call (codeAny_call_builtin h.plain hb (h.check _ _ _ _ _ _ _ _ hT ha (g A _ s hs)))
noncomputable def YR {α:Type}(es:List (Str×α)) (k:Str):List (Str×α):=es.filter fun e=>decide (e.1≠k)
noncomputable def Zbk {α:Type}(es more:List (Str×α)):List (Str×α):=more.foldl (fun acc e=>Z6 acc e.1 e.2) es
section
variable {p:Program}{w:World}
theorem ZaP {k:Str}{es:Qe}(h:ARe p w g ρ es kvs):ARe p w g ρ (YR es k) (without kvs k):=Xm.mpr ((Xm.mp h).filter fun j j h=>by rw [h.1])
theorem Zf4 {more:Qe}{us:Ql}{es:Qe}(h:ARe p w g ρ more us) (h2:ARe p w g ρ es kvs):ARe p w g ρ (Zbk es more) (merged kvs us):=by
 replace h:=Xm.mp h;induction h generalizing es kvs with
 | nil=>exact h2
 | @cons x v _ _ h _ ih=>exact ih (show ARe p w g ρ (Z6 es x.1 x.2) (stored kvs v.1 v.2) from by rw [h.1];exact Wk h2 h.2)
end
section
variable {l:Qc}
theorem ZfZ {es:Qe}{id:String}(ho:o[i]?=some (.dict es ep)) (slot:Slot "dict" name id) (hty:typeOf (.builtin id)=pure (.type "method_descriptor"))
 (q:QM 1 ⟨l,o,.own i::.d (.val (.builtin id))::k⟩):MJ c name ⟨l,o,.own i::k⟩ QM:=fun F ov vs s pl zq0=>by
 obtain ⟨g,ρ,m,W⟩:=zq0;have h1:=Zd W.stk;have h0:∃a,ρ[i]?=some a∧ov = .ref a:=h1;refine Za h0 fun a ea e1=>?_;subst e1;refine Zt (W.own i _ a ho ea) fun kvs n0 hd hx=>?_;refine Zc hd fun ob es' b1 b2 b3=>?_;exact getMethod_builtin (T:="dict") ⟨_,b1,b2.1⟩ PySem.F.plainAttrs_dict slot hty (fun b e=>by injection e with zi;subst zi;exact ⟨_,b1,b2.2.1⟩) ⟨_,⟨g,ρ,m,W.stack (Zh h1 (Zh XY (Zb W.stk)))⟩,q⟩
theorem Zrs {es es':Qe}(ho:o[i]?=some (.dict es ep)) (hv:Z5 es x=some a) (he:YR es x=es') (hz:es.length≤1000) (q:∀ep',Q ⟨l,o.set i (.dict es' ep'),a::k⟩):
 CJ c 2 ⟨l,o,.d (.str x)::.own i::.d (.val (.builtin "dict.pop"))::k⟩ Q:=fun F f us vs s hl zq1=>by
 obtain ⟨g,ρ,m,W⟩:=zq1;refine oza (ZA (xs:=[.own i,.d (.str x)]) W.stk (by rw [hl];rfl)) fun q1 q2=>?_;have ef:f=_:=Zd q2;subst ef;obtain ⟨u,v,rfl,⟨ad,ea,e1⟩,t,rfl⟩:=YF q1;subst e1;refine Zt (W.own i _ ad ho ea) fun kvs n0 hd hx=>?_;refine Za (Up hx hv) fun y y1 y2=>?_;refine ⟨Zl,YV PySem.F.slot_dict_pop hd.dictOf.typeIs PySem.F.entry_dict_pop (PySem.F.args_dict_pop_2 _ _) (meets_dict_pop_there (strKind c.p c.w) ad (strKind_is _ _ x t) [] (.inl rfl) rfl) ⟨kvs,y,hd.dictOf,by rw [YD hx,sizeLine_eq];lia,y1,fun h' hd' hs=>?_⟩⟩;refine oze hd'.dictAt fun ep' hd'=>?_;subst he;exact ⟨_,⟨g,ρ,m,((W.stack (Zb q2)).setOwn (t:=s.toks+1) (ZB ho).1 ea (fun b ob hb eb=>(hs.2 b hb).trans eb) (o':=.dict (YR es x) ep') ⟨_,n0,hd',ZaP hx⟩).push y2⟩,q ep'⟩
theorem ZpX {es es':Qe}{d:A}(ho:o[i]?=some (.dict es ep)) (hv:Z5 es x=some a) (he:YR es x=es') (hz:es.length≤1000) (q:∀ep',Q ⟨l,o.set i (.dict es' ep'),a::k⟩):
 CJ c 3 ⟨l,o,d::.d (.str x)::.own i::.d (.val (.builtin "dict.pop"))::k⟩ Q:=fun F f us vs s hl zq2=>by
 obtain ⟨g,ρ,m,W⟩:=zq2;refine oza (ZA (xs:=[.own i,.d (.str x),d]) W.stk (by rw [hl];rfl)) fun q1 q2=>?_;have ef:f=_:=Zd q2;subst ef;refine Zc q1 fun u r zo3 zo4 q3=>?_;subst zo3;refine Za zo4 fun ad ea e1=>?_;refine Zc (YF q3) fun v w' zo6 zo7 hw=>?_;subst zo6;refine oze zo7 fun t zo1=>?_;subst zo1;subst e1;refine Zt (W.own i _ ad ho ea) fun kvs n0 hd hx=>?_;refine Za (Up hx hv) fun y y1 y2=>?_;refine ⟨Zl,YV PySem.F.slot_dict_pop hd.dictOf.typeIs PySem.F.entry_dict_pop (PySem.F.args_dict_pop_3 _ _ _) (meets_dict_pop_there (strKind c.p c.w) ad (strKind_is _ _ x t) [w'] (.inr ⟨_,rfl⟩) rfl) ⟨kvs,y,hd.dictOf,by rw [YD hx,sizeLine_eq];lia,y1,fun h' hd' hs=>?_⟩⟩;refine oze hd'.dictAt fun ep' hd'=>?_;subst he;exact ⟨_,⟨g,ρ,m,((W.stack (Zb q2)).setOwn (t:=s.toks+1) (ZB ho).1 ea (fun b ob hb eb=>(hs.2 b hb).trans eb) (o':=.dict (YR es x) ep') ⟨_,n0,hd',ZaP hx⟩).push y2⟩,q ep'⟩
theorem ZpJ {es:Qe}{d:A}(ho:o[i]?=some (.dict es ep)) (hv:Z5 es x=none) (q:Q ⟨l,o,d::k⟩):
 CJ c 3 ⟨l,o,d::.d (.str x)::.own i::.d (.val (.builtin "dict.pop"))::k⟩ Q:=fun F f us vs s hl zq3=>by
 obtain ⟨g,ρ,m,W⟩:=zq3;refine oza (ZA (xs:=[.own i,.d (.str x),d]) W.stk (by rw [hl];rfl)) fun q1 q2=>?_;have ef:f=_:=Zd q2;subst ef;refine Zc q1 fun u r zo3 zo4 q3=>?_;subst zo3;refine Za zo4 fun ad ea e1=>?_;refine Zc (YF q3) fun v w' zo6 zo7 hw=>?_;subst zo6;obtain ⟨t,rfl⟩:=zo7;subst e1;refine Zt (W.own i _ ad ho ea) fun kvs n0 hd hx=>?_;refine ⟨Zl,YV PySem.F.slot_dict_pop hd.dictOf.typeIs PySem.F.entry_dict_pop (PySem.F.args_dict_pop_3 _ _ _) (meets_dict_pop_default (strKind c.p c.w) ad (strKind_is _ _ x t) (by simpa using n0) rfl w') ⟨kvs,hd.dictOf,Xz hx hv,?_⟩⟩;exact ⟨_,⟨g,ρ,m,(W.tok _).stack (Zh hw (Zb q2))⟩,q⟩
theorem ZjD {es es':Qe}{more:Qd}(ho:o[i]?=some (.dict es ep)) (he:Zbk es (more.map fun e=>(e.1,A.d e.2))=es') (hz:es.length+more.length≤1000) (q:∀ep',Q ⟨l,o.set i (.dict es' ep'),.d .none::k⟩):
 CJ c 2 ⟨l,o,.d (.dict more)::.own i::.d (.val (.builtin "dict.update"))::k⟩ Q:=fun F f us vs s hl zq4=>by
 refine ozr zq4 fun g ρ m W=>?_;refine oza (ZA (xs:=[.own i,.d (.dict more)]) W.stk (by rw [hl];rfl)) fun q1 q2=>?_;have ef:f=_:=Zd q2;subst ef;obtain ⟨u,v,rfl,⟨ad,ea,e1⟩,b,us',rfl,nb,hb,hm⟩:=YF q1;subst e1;refine Zt (W.own i _ ad ho ea) fun kvs n0 hd hx=>?_;have hne:ad≠b:=fun z=>by
  refine ZS hb fun ob j j b1 j=>?_;rw [←z,(W.fr ad (Kj ea)).1] at b1;exact Zp b1
 have hma:=ZdS (ρ:=ρ) hm;refine ⟨Zl,YV PySem.F.slot_dict_update hd.dictOf.typeIs PySem.F.entry_dict_update (PySem.F.args_dict_update_2 _ _) (meets_dict_update (strKind c.p c.w) ad b hne (by simpa using nb)) ⟨kvs,us',hd.dictOf,(Zz _ _ W.keep hb),by rw [YD hx,YD hma,sizeLine_eq,Qw];lia,fun h' hd' j hs=>?_⟩⟩;refine oze hd'.dictAt fun ep' hd'=>?_;subst he;exact ⟨_,⟨g,ρ,m,((W.stack (Zb q2)).setOwn (t:=s.toks) (ZB ho).1 ea (fun b ob hb eb=>(hs.2 b hb).trans eb) (o':=.dict _ ep') ⟨_,n0,hd',Zf4 hma hx⟩).push Zbr⟩,q ep'⟩
end
end
section
section
variable {l:Qc}
theorem WC {es es':Qe}(ho:o[i]?=some (.dict es ep)) (he:Z6 es x a=es') (hz:es.length≤1000) (q:∀ep',Q ⟨l,o.set i (.dict es' ep'),k⟩):TIJ c ⟨l,o,.d (.str x)::.own i::a::k⟩ Q:=fun F v ov iv vs s zq0=>by
 obtain ⟨g,ρ,m,W⟩:=zq0;refine oze (Zd W.stk) fun t e0=>?_;refine Za (Zd (Zb W.stk)) fun ad ea e1=>?_;subst e0 e1;refine Zt (W.own i _ ad ho ea) fun kvs n0 hd hx=>?_;refine wpAny_setItem_pairs (knd:=strKind c.p c.w) (k:=x) (strKind_is _ _ x t) hd.dictOf (fun h' hd' hs=>?_) (by rw [YD hx,sizeLine_eq];lia);refine oze hd'.dictAt fun ep' hd'=>?_;subst he;exact ⟨_,⟨g,ρ,m,(W.stack (Zb (Zb (Zb W.stk)))).setOwn (t:=s.toks+1) (List.getElem?_eq_some_iff.mp ho).1 ea (fun b ob hb eb=>(hs.2 b hb).trans eb) (o':=.dict _ ep') ⟨_,n0,hd',Wk hx (Zd (Zb (Zb W.stk)))⟩⟩,q ep'⟩
end
noncomputable def ZpU (a b c d:D) (es:Qd):D:=.inst 70 ([("keyid",a),("keytype",b),("scheme",c),("keyval",d),("unrecognized_fields",.dict es)]:Qd)
noncomputable def ZoZ (b c d:D):Qe:=[("keytype",.d b),("scheme",.d c),("keyval",.d d)]
end
section
section
variable {l:Qc}
noncomputable def Zhr (K:W.Frag) (C:Addr):Bool:=W.specialIn K (.ref C) "__getattribute__"==some (some (.builtin "type.__getattribute__"))&&W.readsIn K C (.type "type")
noncomputable def Zg7:Option W.CFound→Option Value
 | some (.val v)=>some v
 | _=>none
theorem Zbc {C f:Addr}(hK:KIn c K) (hok:Zhr K C=true) (hf:Zg7 (W.findCls K (.ref C) (.type "type") name)=some (.ref f)) (q:QM 0 ⟨l,o,.d (.val (.ref f))::k⟩):MJ c name ⟨l,o,.d (.val (.ref C))::k⟩ QM:=fun F ov vs s pl zq0=>by
 obtain ⟨g,ρ,m,Y⟩:=zq0;have X:=Y.kIn hK;have e:ov = .ref C:=Zd Y.stk;subst e;unfold Zhr at hok;simp only [Qz,Q7] at hok;have hf':W.findCls K (.ref C) (.type "type") name=some (.val (.ref f)):=by
  unfold Zg7 at hf;split at hf
  ·rename_i h;obtain rfl:=Kc hf;exact h
  ·exact Zp hf
 exact W.method_cls X hok.1 (W.cls_value X hok.2 hf' rfl ⟨_,⟨g,ρ,m,(Y.tok _).stack (Zh XY (Zb Y.stk))⟩,q⟩)
end
end
section
section
variable {l:Qc}
noncomputable def Zrv (a b c d:Value):Option W.CFound→Bool
 | some (.get x y z u)=>x==a&&(y==b&&(z==c&&u==d))
 | _=>false
theorem Znh {a b c d:Value}{x:Option W.CFound}(h:Zrv a b c d x=true):x=some (.get a b c d):=by
 induction x with
 | none=>exact Xi h
 | some y =>
  induction y with
  | val=>exact Xi h
  | get =>
   refine oza (Xx h) fun e1 h=>?_;refine oza (Xx h) fun e2 h=>?_;refine oza (Xx h) fun e3 e4=>?_;rw [Rt e1,Rt e2,Rt e3,Rt e4]
noncomputable def cmP (K:W.Frag) (C:Addr) (name:Str):Addr:=match W.findCls K (.ref C) (.type "type") name with
 | some (.get _ (.ref p) _ _)=>p
 | _=>0
noncomputable def ZhJ (K:W.Frag) (C f:Addr) (name:Str):Bool:=Zhr K C&&(Zrv (.builtin "classmethod.__get__") (.ref (cmP K C name)) .none (.ref C) (W.findCls K (.ref C) (.type "type") name)&&(W.recIn K (cmP K C name) "classmethod").any (fun l=>l.head?==some (.ref f)))&&W.fnIn K f
inductive LentQ (c:Cx) (f:Addr) (need:Nat) (C:Addr) (n:Nat) (Q:Qf) (st2:St):Prop
 | mk (is:List Nat) (os:Qg) (args:Qh) (R:A→List O→Prop) (H:OSpecC c.G (.ref f) need os (.d (.val (.ref C))::args) R) (l2:Qc) (o2:Qg) (k2:Qh) (e:st2=⟨l2,o2,(args.map (YN (iot is o2.length))).reverse++k2⟩) (hal:args.length=n) (hnd:is.Nodup) (hos:os.length=is.length)
  (ho:∀(j i:Nat),is[j]?=some i→∃x,os[j]?=some x∧o2[i]?=some (Xv (iot is o2.length) x)) (hQ:∀a os',R a os'→Q ⟨l2,WL is o2 os',YN (iot is o2.length) a::k2⟩)
theorem Zg4 {e:Expr}{r:Qs}{C f:Addr}(hK:KIn c K) (hok:ZhJ K C f name=true)
 (hn:need≤c.fuel)
 (h:EJ c oe ⟨l,o,k⟩ fun st1=>st1=⟨l,o,.d (.val (.ref C))::k⟩)
 (hg:GJ c (e::r) ⟨l,o,k⟩ fun st2=>LentQ c f need C (e::r).length Q st2)
 (hb:Xs oe=false:=by rfl) (hs:Zy (e::r)=true:=by rfl) (hne:decide ((e::r).length<30)=true:=by rfl) (hl:(apos.endLine==pos.line)=true:=by rfl):EJ c (.Call (.Attribute oe name apos) (e::r) [] pos) ⟨l,o,k⟩ Q:=fun F vs s R0=>by
 refine oza (Xx hok) fun h12 h3=>?_;refine oza (Xx h12) fun h1 h2=>?_;refine oza (Xx h1) fun ha hb'=>?_;refine oza (Xx h2) fun hf a1=>?_;refine Za (W.any_some a1) fun lst b1 b2=>?_;refine oze (Zha (Rt b2)) fun rest zr=>?_;subst zr;refine Ui (F:=F) (vs:=vs) hb hs hne hl (wpm (h F vs s R0) (fun ov s1 P pl=>?_));obtain ⟨st1,⟨g,ρ,m,W1⟩,rfl⟩:=P;have eo:ov = .ref C:=Zd W1.stk;subst eo;have X1:K.In s1.heap:=W1.kIn hK;refine PySem.W.method_cls X1 (Rt ha) (PySem.W.cls_bind X1 hb' (Znh hf) (wpAny_call (PySem.W.cm_get (s:={s1 with toks:=s1.toks+1}) X1 b1 (PySem.W.handed_on rfl ?_))));have W2:=W1.stack (Zb W1.stk);have hq:=W2.size_nomut;have hpush:(s1.heap.push (PySem.W.methodObj (.ref f) (.ref C))).get? s1.heap.objs.size=some (PySem.W.methodObj (.ref f) (.ref C)):=Kh _ rfl;have Wa:=W2.alloc (PySem.W.methodObj (.ref f) (.ref C)) (s1.toks+1);have W3:=Wa.canon.at_g;have hq3:=Q1 (ZG c.G F (c.env.locals::ρ)) hpush hq;have hsub3:Sub g (PySem.W.hideAll (s1.heap.push (PySem.W.methodObj (.ref f) (.ref C))) (ZG c.G F (c.env.locals::ρ))):=fun b o e=>Q1 _ (Wa.keep b o e) fun hb=>by rw [Wa.nomut b hb] at e;exact Zp e
 have hg0:=W2.g0.trans hsub3;generalize PySem.W.hideAll (s1.heap.push (PySem.W.methodObj (.ref f) (.ref C))) (ZG c.G F (c.env.locals::ρ))=g3 at W3 hq3 hsub3 hg0;generalize s1.heap.objs.size=q at hpush hq3 hq ⊢;have hes:=(ZaH hs).1;refine PySem.W.callWith_of (P:=fun h=>PySem.W.MethP K q f (.ref C) h) (by rw [(XA hs).1];rfl) (fun h hP=>PySem.W.keeps_M h3 h hP) ?_;have key:=hg _ _ _ pos ⟨g3,ρ,m,W3⟩;rw [ZT _ _ hes] at key ⊢;refine evalArgs_plain (wpm key (fun us1 s4 P=>?_));refine Ka fun zn3=>?_;obtain ⟨hl1,st2,⟨g4,ρ4,m4,W4⟩,is,os,args,R,H,l2,o2,k2,rfl,hal,hnd,hos,ho,hQ⟩:=P;refine zn3 ?_;have hm4:=W4.keep _ _ (W4.g0 _ _ hq3);refine ⟨⟨hm4,W4.kIn hK⟩,?_⟩;refine Ka fun zn4=>?_;refine oza (ZA (xs:=args.map (YN (iot is o2.length))) W4.stk (by simp [hl1,hal])) fun q1 q2=>?_;refine Wj (W4.lend hnd hos ho) fun σ4 j1 j2 j3 O4=>?_;refine zn4 ?_;have hd:=c.hd;have hun:=c.hu;refine wpAny_call (PySem.W.method_call hm4 (codeAny_mono (H c.A _ (.ref C::us1) s4 g4 σ4 c.hh (by exact nT (by assumption) (by assumption)) (by exact nK (by assumption) (by assumption)) O4 ⟨_,_,rfl,rfl,(Zbb j1).mp q1⟩) fun rr s5 hr=>?_));rcases rr with e | (v | _ | _ | _) <;> first | exact hr.elim | skip
 refine Ka fun zn5=>?_;obtain ⟨g5,σ5,a5,os5,O5,hs5,av5,hR⟩:=hr;refine Zt (W4.got j1 j2 j3 hnd O5 hs5) fun ρ5 e5 ex5 W5=>?_;refine zn5 ?_;have tl:=ARs.sub c.p c.w hs5 ex5 _ _ q2;exact ⟨_,RS.of_g hg0 ⟨g5,ρ5,m4,W5.stack (Zh (a:=YN (iot is o2.length) a5) ((ZbL e5).mpr av5) tl)⟩,hQ a5 os5 hR⟩
theorem ZfI {e:Expr}{r:Qs}{C f:Addr}(is:List Nat) (hK:KIn c K) (hok:ZhJ K C f name=true)
 (H:OSpecC c.G (.ref f) need os (.d (.val (.ref C))::args) R) (hn:need≤c.fuel)
 (h:EJ c oe ⟨l,o,k⟩ fun st1=>st1=⟨l,o,.d (.val (.ref C))::k⟩)
 (hg:GJ c (e::r) ⟨l,o,k⟩ fun st2=>∃l2 o2 k2,st2=⟨l2,o2,(args.map (YN (iot is o2.length))).reverse++k2⟩∧args.length=(e::r).length∧is.Nodup∧os.length=is.length∧(∀(j i:Nat),is[j]?=some i→∃x,os[j]?=some x∧o2[i]?=some (Xv (iot is o2.length) x)) ∧
  ∀a os',R a os'→Q ⟨l2,WL is o2 os',YN (iot is o2.length) a::k2⟩)
 (hb:Xs oe=false:=by rfl) (hs:Zy (e::r)=true:=by rfl) (hne:decide ((e::r).length<30)=true:=by rfl) (hl:(apos.endLine==pos.line)=true:=by rfl):EJ c (.Call (.Attribute oe name apos) (e::r) [] pos) ⟨l,o,k⟩ Q :=
 Zg4 hK hok hn h (fun F vs s pos Rr=>wpm (hg F vs s pos Rr) (fun us s' P=>by
  refine Ka fun zn6=>?_;obtain ⟨h1,st',R',l2,o2,k2,e,h3,h4,h5,h6,h7⟩:=P;refine zn6 ?_;exact ⟨h1,st',R',is,os,args,R,H,l2,o2,k2,e,h3,h4,h5,h6,h7⟩)) hb hs hne hl
end
end
section
theorem Xn {K:Params→W.Frag}{w:World}(I:IsK K G w){C fI:Addr}{P:Qg→Prop}(hok:UL (K w.params) C fI=true)
 (H:OSpecC G (.ref fI) need (os++[.inst C (os.length+1),.dict [] 0]) (.own os.length::args) fun a os'=>a = .d .none∧P os'):OSpecC G (.ref C) (need+1) os args fun a os'=>a = .own os.length∧P os':=fun A F us s g σ hh hd hu X hv=>by
 unfold UL at hok;simp only [Qz,Q7] at hok;refine oza hok fun zo2 h3=>?_;refine oza zo2 fun h1 h2=>?_;have XK:=(I.B _ (G.lib.mono _ _ X.keep X.base)).1;have hbig:s.heap.objs.size≠sysModules:=by
  refine oze (G.lib.low _ X.base) fun o e=>?_;have h1:=Kk (X.keep _ _ e);have h2:(3:Nat)<s.heap.objs.size:=h1;exact fun e=>by rw [e] at h2;exact absurd h2 (by decide)
 have fresh:∀b,s.heap.objs.size≤b→g.get? b=none∧(∀r∈G.reg,b≠r.at_)∧∀q∈F.hid,b≠q.1:=fun b hb=>⟨by
  induction e:g.get? b with
  | none=>rfl
  | some o=>exact absurd (Kk (X.keep _ _ e)) (Za7 hb),X.fresh hb⟩
 obtain ⟨hp,gg,d,t,os1⟩:=s;have sub:Sub hp ((hp.push W.emptyDict).push (W.instObj C hp.objs.size)):=fun b o e=>Kn _ (Kn _ e);have gx:((hp.push W.emptyDict).push (W.instObj C hp.objs.size)).get? (hp.objs.size+1)=some (W.instObj C hp.objs.size):=by
  have:=Kh (o:=W.instObj C hp.objs.size) (hp.push W.emptyDict) rfl
  rwa [Heap.size_push] at this
 have gd:((hp.push W.emptyDict).push (W.instObj C hp.objs.size)).get? hp.objs.size=some W.emptyDict:=Kn _ (Kh _ rfl);have hσ:∀b∈σ,b<hp.objs.size:=fun b hb=>by
  refine oze (ZdV hb) fun j e=>?_;have hj:j<os.length:=by rw [←X.len];exact (ZB e).1
  obtain ⟨ob,e2⟩:=OAt.there _ _ _ (X.own j _ b (Ke hj) e);exact Kk e2
 have ext:Ext σ (σ++[hp.objs.size+1,hp.objs.size]):=fun i a e=>by rw [Kl (ZB e).1];exact e
 have g0:(σ++[hp.objs.size+1,hp.objs.size])[os.length]?=some (hp.objs.size+1):=by rw [Km (by rw [X.len];exact Kq _),X.len,Rp];rfl
 have g1:(σ++[hp.objs.size+1,hp.objs.size])[os.length+1]?=some hp.objs.size:=by rw [Km (by rw [X.len];exact Ko _ _),X.len,Q6];rfl
 have O0:OW G {F with g₀:=g,pin:=(os.length,hp.objs.size+1)::F.pin} (os++[.inst C (os.length+1),.dict [] 0]) ⟨(hp.push W.emptyDict).push (W.instObj C hp.objs.size),gg,d,t,os1⟩ g (σ++[hp.objs.size+1,hp.objs.size]):={
  base:=X.base,g0:=Sub.refl _,keep:=X.keep.trans sub,gens:=X.gens,bare:=X.bare,os:=X.os
  reg:=fun r hr=>by refine YK (X.reg r hr) fun q1 o q2 q3=>?_;exact ⟨q1,o,sub _ _ q2,q3⟩
  hid:=fun q hq=>by refine oza (X.hid q hq) fun q1 q2=>?_;exact ⟨sub _ _ q1,q2⟩
  len:=by simp [X.len]
  nd:=List.nodup_append.mpr ⟨X.nd,by simp,fun x hx y hy e=>by
   have:=hσ x hx;rcases ZH hy with rfl | hy
   ·subst e;exact absurd (Nat.lt_trans this (Nat.lt_succ_self _)) (Rn _)
   ·rw [Q3] at hy;subst hy;subst e;exact Rn _ this⟩
  fr:=fun b hb=>by
   refine Or.elim (ZL hb) (fun hb=>?_) fun hb=>?_
   ·exact X.fr b hb
   rcases ZH hb with rfl | hb
   ·exact (fresh _ (Nat.le_succ _)).1
   ·rw [Q3] at hb;subst hb;exact (fresh _ (Kq _)).1
  own:=fun i o a e1 e2=>by
   by_cases hi:i<os.length
   ·rw [Kl hi] at e1;rw [Kl (by rw [X.len];exact hi)] at e2;exact OAt.sub _ _ (Sub.refl _) ext (fun ob e=>sub _ _ e) o (X.own i o a e1 e2)
   obtain ⟨i,rfl⟩:∃k,i=os.length+k:=⟨i - os.length,by exact (nI (by assumption)).symm⟩;rw [Km (by exact Ko _ _),Q6] at e1;rw [Km (by rw [X.len];exact Ko _ _),X.len,Q6] at e2
   match i,e1,e2 with
   | 0,e1,e2=>cases e1;obtain rfl:=Kc e2;exact ⟨_,g1,gx⟩
   | 1,e1,e2=>obtain rfl:=Kc e1;obtain rfl:=Kc e2;exact ⟨[],hbig,Xw gd,rfl⟩
   | _+2,e1,_=>simp at e1
  apart:=fun b hb=>by
   refine Or.elim (ZL hb) (fun hb=>?_) fun hb=>?_
   ·exact X.apart b hb
   rcases ZH hb with rfl | hb
   ·exact (fresh _ (Nat.le_succ _)).2
   ·rw [Q3] at hb;subst hb;exact (fresh _ (Kq _)).2
  pin:=fun q hq=>by
   rcases ZH hq with rfl | hq
   ·exact g0
   ·exact ext _ _ (X.pin q hq)}
 refine (W.make_core (W.makes_of XK h1) (W.looks_findIn XK h2) (fun self=>W.bind_fn XK self h3) (.inl rfl) ?_);refine codeAny_mono (H _ _ (.ref (hp.objs.size+1)::us) _ g _ hh (by show A.depth+1+need<_;exact nL (by assumption)) (by show A.units+1+_+_≤_;exact nU (by assumption) (by decide)) O0 ⟨_,_,rfl,⟨_,g0,rfl⟩,ARs.sub _ _ (Sub.refl _) ext _ _ hv⟩) fun r s' hr=>?_;rcases r with e | (v | _ | _ | _) <;> first | exact hr.elim | skip
 refine Ka fun zn3=>?_;obtain ⟨g',σ',a,os',W',hs,hav,rfl,hP⟩:=hr;refine zn3 ?_;refine ⟨hav,?_⟩;exact ⟨g',σ',.own os.length,os',{base:=W'.base,g0:=X.g0.trans W'.g0,keep:=W'.keep,reg:=W'.reg,hid:=W'.hid,gens:=W'.gens,bare:=W'.bare,os:=W'.os,len:=W'.len,nd:=W'.nd,fr:=W'.fr,own:=W'.own,apart:=W'.apart,pin:=fun q hq=>W'.pin q (.tail _ hq)},hs,⟨_,(W'.pin _ (.head _)),rfl⟩,rfl,hP⟩
end
section
noncomputable def Zm0 (a b c d:D) (u:A):Qe:=[("keyid",.d a),("keytype",.d b),("scheme",.d c),("keyval",.d d),("unrecognized_fields",u)]
end
section
theorem Zip {A:Around}{s:Shared}{target:Expr}{cl:Qm}{Q:Qj}
 (hco:scope.isCoroutine=false) (hclos:closureFor scope env=pure cl) (hcell:∀y∈scope.names,y.2≠.cell) (h0:scope.names.lookup (".0":Str)=some NameKind.local) (hkind:scope.kind = .function)
 (hroom:A.depth<recursionLimit)
 (h:wpAny M A (eval iter env) (fun x0 s₀=>wpAny M A (genFold iter env x0) (fun xv s₁=>wpAny M A (pyIter xv) (fun it s₂=>s₂.heap.NoLimit ∧
  wpAny M A (genexprCode env pos (env.qual++"<genexpr>") scope) (fun code s₃=>wpAny M A (builtinsFor env.globals env.builtins) (fun bi s₄ =>
   ∀h',h'.Ns s₄.heap.objs.size (fun y=>if y=".0" then some it else none)→Heap.SameBut s₄.heap.objs.size (s₄.heap.push {cls:=.type "frame",data:=.dict #[]}) h' →
    Q (.ref h'.objs.size) {s₄ with
     gens:=s₄.gens.push (.fresh (.compStart (.GeneratorExp elt [⟨target,iter,ifs,0⟩] scope pos) 0 it .none (genEnv scope cl s₄.heap.objs.size code bi env))),
     toks:=s₄.toks+1+1+1,
     heap:=h'.push {cls:=.type "generator",data:=.fields #[.int s₄.gens.size 0,.str "<genexpr>" (s₄.toks+1),.str (env.qual++"<genexpr>") (s₄.toks+1+1)]}}) E s₃) E s₂) E s₁) E s₀) E s) :
 wpAny M A (eval (.GeneratorExp elt [⟨target,iter,ifs,0⟩] scope pos) env) Q E s:=by
 rw [eval_GeneratorExp1 _ _ _ _ _ _ _ hco,hclos];refine Kd (Kb h (fun x0 s₀ h₀=>?_) fun j j e=>e);refine Kd (Rq ?_);refine Kd (Kb h₀ (fun xv s₁ h₁=>?_) fun j j e=>e);refine Kd (Rs (Kb h₁ (fun it s₂ h₂=>?_) fun j j e=>e));refine Kd (wpAny_enterFrame h₂.1 hroom ?_);refine Kd (Ki ?_);refine Kd (Kb h₂.2 (fun code s₃ h₃=>?_) fun j j e=>e);refine Kd (Kb h₃ (fun bi s₄ h₄=>?_) fun j j e=>e);have hbinds:∀y∈([((".0":Str),it)]:Ql),scope.names.lookup y.1=some NameKind.local:=by
  intro y hy;rcases ZH hy with rfl | hy
  ·exact h0
  ·cases hy
 refine Kd (wpAny_newFunctionEnv hcell hbinds (fun h' hn' hs'=>?_) hkind);have e:(fun y:Str=>([((".0":Str),it)]:Ql).reverse.lookup y)=fun y:Str=>if y=(".0":Str) then some it else none:=by
  funext y;by_cases hy:y=".0"
  ·subst hy;rfl
  ·have:(y==(".0":Str))=false:=by simpa using hy
   simp [List.lookup,this,hy]
 rw [e] at hn';refine Kd (wpAny_newGen (Kd (wpAny_mkText (Kd (wpAny_mkText (wpAny_newObj_type ?_ (by size_fits)))))));exact h₄ h' hn' hs'
end
section
noncomputable def Yv (ks rs:Qd):D:=.inst 324 ([("keys",.dict ks),("roles",.dict rs),("succinct_roles",.none),("unrecognized_fields",.dict [])]:Qd)
end
section
section
variable {l:Qc}
theorem Zm2 {p:Program}{w:World}{es:Qe}{x:Str×Value}(h:ARe p w g ρ es kvs) (e:kvs[i]?=some x):∃a,es[i]?=some (x.1,a)∧AR p w g ρ a x.2:=by
 refine Za ((Xm.mp h).getR e) fun v h1 h2=>?_;exact ⟨v.2,h2.1.symm▸h1,h2.2⟩
theorem Zj5 {es:Qe}(ho:o[j]?=some (.dict es ep)) (q:QI (fun st=>st.own[j]?=some (.dict es ep)) (es.map fun e=>A.d (.str e.1)) ⟨l,o,k⟩)
 (ht:∀it v,letOwnedTupleGo tgt it v=pure ():=by intro z z;rfl):ItJ c tgt ⟨l,o,.own j::k⟩ QI:=fun F v vs s zq0=>by
 refine ozr zq0 fun g ρ m W=>?_;obtain ⟨a,ea,e1⟩:∃a,ρ[j]?=some a∧v = .ref a:=Zd W.stk;subst e1;refine Zt (W.own j _ a ho ea) fun kvs hns hl hv=>?_;refine wpAny_pyIter_dict (Zdx hns) hl (Ud (W.stack (Zb W.stk)) (need:=0) (Q4 _) (fp:=[s.heap.objs.size]) (pn:=[(j,a)]) (Si:=fun i h=>h.IsKeyIter s.heap.objs.size a i es.length ep) ?_ (by rw [←(YD hv)];exact ⟨_,Kh _ rfl,rfl,rfl⟩) (fun q hq=>by rw [Q3] at hq;subst hq;exact ea) q);refine {th:=X9 fun i h x=>by refine Za x fun o e z=>?_;exact ⟨o,e⟩,fpx:=fun b hb=>.inl hb,frame:=fun i h h' x hk=>x.at fun o e=>hk _ (Zdd rfl) o e,self:=fun A i s Q E hA hSi hq=>wpAny_pyIter_keyiter hSi hq,item:=?_,done:=?_}
 ·rintro c' F' hs i x st' vs' s' hc z hx hSi hok z hp hd ⟨g',ρ',m',W'⟩;refine Zt (W'.own j _ a hok (W'.pin _ (hp _ (List.mem_singleton.mpr rfl)))) fun kvs' z hl' hv'=>?_;have hn':=YD hv';rw [Ru] at hx;refine Za (YW hx) fun e he zo1=>?_;subst zo1;refine Za (ZoD hv' he) fun u hu z=>?_;refine wpAny_pyNext_dict_item (by rw [hn'];exact hSi) hl' hu fun key h2 hkey hit hs2=>⟨key,rfl,wpAny_of_eq (ht _ _) ⟨by rw [hn'] at hit;exact hit,g',ρ',m',?_⟩⟩;have hkey':AR c'.p c'.w g' ρ' (.d (.str e.1)) key:=Zbj hkey;exact (ZcR W' (by refine Za hSi fun o e z=>?_;exact ⟨o,e⟩) hd (h':=h2) (t:=s'.toks) fun b o hb e=>(hs2.2 b hb).trans e).push hkey'
 ·rintro c' F' hs st' vs' s' hc z hSi hok z hp hd ⟨g',ρ',m',W'⟩;refine Zt (W'.own j _ a hok (W'.pin _ (hp _ (Zdd rfl)))) fun kvs' z hl' hv'=>?_;have hn':=YD hv';rw [Qw] at hSi;refine wpAny_pyNext_dict_end c'.hh (by rw [hn'];exact hSi) hl' (by simp [hn']) fun h2 he=>⟨rfl,g',ρ',m',?_⟩;exact ZeE W' (by refine Za hSi fun o e z=>?_;exact ⟨o,e⟩) hd (h':=h2) (t:=s'.toks) fun b o hb e=>he b o hb e
end
end
section
section
variable {s:Shared}{m:Qk}
structure GFeed (G:Gx) (A₀:Around) (need:Nat) (tgt:Expr) (it:Addr) (gi:Option Nat) (Z:Heap→Prop) (pn:Qn) (xs:Qh) (ok:Qf) (Si:Nat→List Addr→Heap→Heap→Array GenState→Prop):Prop where
 th:∀{i wr gk h gs},Si i wr gk h gs→∀b∈wr,∃o,h.get? b=some o
 frame:∀{i wr gk h h' gs gs'},Si i wr gk h gs→(∀b∈wr,∀o,h.get? b=some o→h'.get? b=some o)→Sub gk h→Sub gk h'→(∀(j:Nat) x,gs[j]?=some x→gs'[j]?=some x)→Si i wr gk h' gs'
 mono:∀{i wr gk gk' h gs},Si i wr gk h gs→Sub gk gk'→Si i wr gk' h gs
 item:∀(c:Cx) (F:Fz) hs i wr a st vs s,c.G=G→c.A=A₀→need≤c.fuel→xs[i]?=some a→Si i wr F.g₀ s.heap s.gens→ok st→(∀q∈pn,q∈F.pin)→(∀q∈hs,q.1∉wr)→(∀j,gi=some j→F.gens[j]?=none)→RS c {F with hid:=Zo s.heap wr++hs} st vs s →
  wpAny (model c.p c.w) c.A (pyNext (.ref it)) (fun r s1=>∃v,r=some v∧wpAny (model c.p c.w) c.A (letOwnedTupleGo tgt (.ref it) v) (fun _ s2=>∃wr' gk,Sub F.g₀ gk∧Si (i+1) wr' gk s2.heap s2.gens∧(∀q∈hs,q.1∉wr')∧RS c {F with g₀:=gk,hid:=Zo s2.heap wr'++hs} ⟨st.loc,st.own,a::st.stk⟩ (v::vs) s2) NoE s1) NoE s
 self:∀(A:Around) i wr gk (s:Shared) (Q:Qj) (E:Qj),A.handled=none→Si i wr gk s.heap s.gens→Sub gk s.heap→Q (.ref it) s→wpAny (model G.p G.w) A (pyIter (.ref it)) Q E s
 done:∀(c:Cx) (F:Fz) hs wr st vs s,c.G=G→c.A=A₀→need≤c.fuel→Si xs.length wr F.g₀ s.heap s.gens→ok st→(∀q∈pn,q∈F.pin)→(∀q∈hs,q.1∉wr)→(∀j,gi=some j→F.gens[j]?=none)→RS c {F with hid:=Zo s.heap wr++hs} st vs s →
  wpAny (model c.p c.w) c.A (pyNext (.ref it)) (fun r s1=>r=none∧∃gk,Sub F.g₀ gk∧Z gk∧RS c {F with g₀:=gk,hid:=hs} st vs s1) NoE s
theorem GFeed.mapZ {A₀:Around}{gi:Option Nat}{Z Z':Heap→Prop}{ok:Qf}{Si:Nat→List Addr→Heap→Heap→Array GenState→Prop}(K:GFeed G A₀ need tgt it gi Z pn xs ok Si) (h:∀g,Z g→Z' g):GFeed G A₀ need tgt it gi Z' pn xs ok Si where
 th:=K.th
 frame:=K.frame
 mono:=K.mono
 item:=K.item
 self:=K.self
 done:=fun c F hs wr st vs s e1 e2 e3 e4 e5 e6 e7 e8 e9=>wpm (K.done c F hs wr st vs s e1 e2 e3 e4 e5 e6 e7 e8 e9) fun r s1 z=>⟨z.1,z.2.elim fun gk q=>⟨gk,q.1,h _ q.2.1,q.2.2⟩⟩
theorem Feed.toG {A₀:Around}{ok:Qf}(K:Feed G need tgt it wr fp g₁ pn xs ok Si):
 GFeed G A₀ need tgt it none (fun j=>True) pn xs ok (fun i wr' gk h j=>wr'=wr∧Sub g₁ gk∧Si i h) where
 th:=fun zq0=>by refine Yz zq0 fun e j h=>?_;exact e▸K.th _ _ h
 frame:=fun ⟨e,hg,h⟩ hk h1 h2 _=>⟨e,hg,K.frame _ _ _ h fun b hb o ho=>by
  rcases K.fpx b hb with hb | ⟨o',e'⟩
  ·exact hk b (e▸hb) o ho
  ·have:=h1 _ _ (hg _ _ e');rw [ho] at this;obtain rfl:=Kc this;exact h2 _ _ (hg _ _ e')⟩
 mono:=fun zq2 x=>by refine Yz zq2 fun e hg h=>?_;exact ⟨e,hg.trans x,h⟩
 item:=fun c F hs i wr' a st vs s e j hn ha zq3 hok hp hd j R=>by
  refine Yz zq3 fun ew hg hSi=>?_;subst ew;refine wpm (K.item c F hs i a st vs s e hn ha hSi hok hg hp hd R) (fun r s1 zq4=>by refine Za zq4 fun v hr h=>?_;exact ⟨v,hr,Kb h (fun j s2 zq5=>by refine oza zq5 fun h1 h2=>?_;exact ⟨_,F.g₀,Sub.refl _,⟨rfl,hg,h1⟩,hd,h2⟩) fun j j x=>x⟩)
 self:=fun A i wr' gk s Q E hA zq6 j hq=>by refine Yz zq6 fun j j h=>?_;exact K.self A i s Q E hA h hq
 done:=fun c F hs wr' st vs s e j hn zq7 hok hp hd j R=>by
  refine Yz zq7 fun ew hg hSi=>?_;subst ew;exact wpm (K.done c F hs st vs s e hn hSi hok hg hp hd R) fun r s1 z=>⟨z.1,F.g₀,Sub.refl _,trivial,z.2⟩
inductive IGGot (c:Cx) (F:Fz) (Z:Heap→Prop) (tgt:Expr) (vs:Qo) (Q:Qb) (itv:Value) (s':Shared):Prop
 | mk (it:Addr) (need:Nat) (gi:Option Nat) (pn:Qn) (xs:Qh) (ok:Qf) (Si:Nat→List Addr→Heap→Heap→Array GenState→Prop) (wr:Qp) (gk:Heap) (st':St) (e:itv = .ref it) (hn:need≤c.fuel) (K:GFeed c.G c.A need tgt it gi Z pn xs ok Si) (h0:Si 0 wr gk s'.heap s'.gens) (hg:Sub F.g₀ gk) (hd:∀q∈F.hid,q.1∉wr) (hgi:∀j,gi=some j→F.gens[j]?=none)
  (R:RS c {F with g₀:=gk,hid:=Zo s'.heap wr++F.hid,pin:=pn++F.pin} st' vs s') (q:Q ok xs st')
def IGJ (c:Cx) (tgt e:Expr) (st:St) (Q:Qb):Prop :=
 ∀F vs s,RS c F st vs s→wpAny (model c.p c.w) c.A (eval e c.env) (fun v s1=>wpAny (model c.p c.w) c.A (pyIter v) (IGGot c F (fun j=>True) tgt vs Q) NoE s1) NoE s
theorem ZeY {e:Expr}{Q:Qb}(h:IEJ c tgt e st Q):IGJ c tgt e st Q:=fun F vs s R =>
 wpm (h F vs s R) (fun v s1 h1=>Kb h1 (fun itv s2 h2=>by
  obtain ⟨it,need,wr,fp,g₁,pn,xs,ok,Si,st2,e1,hneed,K,hS0,hg,hd,R2,hL⟩:=h2;exact ⟨it,need,none,pn,xs,ok,_,wr,g₁,st2,e1,hneed,K.toG,⟨rfl,Sub.refl _,hS0⟩,hg,hd,(fun j e=>nomatch e),R2,hL⟩) fun j j x=>x)
theorem RS.pinG {s:Shared}(R:RS c F st vs s):RS c {F with gens:=s.gens} st vs s:=by
 refine ozr R fun g ρ m W=>?_;exact ⟨g,ρ,m,{toHS:=⟨W.base,W.g0,W.keep,W.reg,W.hid,fun j j e=>e,W.bare,W.os⟩,ns:=W.ns,nl:=W.nl,loc:=W.loc,len:=W.len,nd:=W.nd,fr:=W.fr,own:=W.own,stk:=W.stk,cel:=W.cel,apart:=W.apart,pin:=W.pin}⟩
theorem RS.unG {s:Shared}{gs:Array GenState}(x:∀(i:Nat) y,F.gens[i]?=some y→gs[i]?=some y) (R:RS c {F with gens:=gs} st vs s):RS c F st vs s:=by
 refine ozr R fun g ρ m W=>?_;exact ⟨g,ρ,m,{toHS:=⟨W.base,W.g0,W.keep,W.reg,W.hid,fun i y e=>W.gens i y (x i y e),W.bare,W.os⟩,ns:=W.ns,nl:=W.nl,loc:=W.loc,len:=W.len,nd:=W.nd,fr:=W.fr,own:=W.own,stk:=W.stk,cel:=W.cel,apart:=W.apart,pin:=W.pin}⟩
theorem RS.gensK {s:Shared}(R:RS c F st vs s):∀(i:Nat) y,F.gens[i]?=some y→s.gens[i]?=some y:=by refine ozr R fun j j j W=>?_;exact W.gens
theorem RS.g0K {s:Shared}(R:RS c F st vs s):Sub F.g₀ s.heap:=by refine ozr R fun j j j W=>?_;exact W.g0.trans W.keep
theorem GFeed.stay {A₀:Around}{gi:Option Nat}{Z:Heap→Prop}{ok:Qf}{Si:Nat→List Addr→Heap→Heap→Array GenState→Prop}(K:GFeed G A₀ need tgt it gi Z pn xs ok Si){gs':Array GenState}{F':Fz}
 (hSi:Si i wr F'.g₀ h' gs') (hF:F'.hid=Zo h' wr++hs) {st3:St} {us:Qo} {s3:Shared} {c':Cx} (hb:Sub F'.g₀ h') (hgs:F'.gens=gs') (hd:∀q∈hs,q.1∉wr) (R:RS c' F' st3 us s3):Si i wr F'.g₀ s3.heap s3.gens∧RS c' {F' with hid:=Zo s3.heap wr++hs} st3 us s3:=by
 obtain ⟨g3,ρ3,m3,W4⟩:=R;have hSi3:Si i wr F'.g₀ s3.heap s3.gens:=K.frame hSi (fun b hb' o e=>(W4.hid (b,o) (hF▸Kg _ (ZX hb' e))).1) hb (W4.g0.trans W4.keep) fun j x e=>W4.gens j x (hgs▸e);refine ⟨hSi3,g3,ρ3,m3,?_⟩;have keys:=Ye (K.th hSi);obtain ⟨g0',hid',gens',os',pin'⟩:=F';simp only at hF;subst hF;exact RSW.rehide (F:=⟨g0',hs,gens',os',pin'⟩) (g₁:=g0') (hs:=Zo h' wr) (hs':=Zo s3.heap wr) W4 (fun q hq z=>hd q hq ((keys _).mp z)) (h':=s3.heap) (t:=s3.toks) (fun u u u e=>e) fun q hq=>⟨(keys _).mpr (Zj hq).1,(Zj hq).2⟩
theorem RSW.of_g0 {s:Shared}{m:Qk}(x:Sub F.g₀ g₁) (W:RSW c {F with g₀:=g₁} st vs s g ρ m):RSW c F st vs s g ρ m :=
 {toHS:=⟨W.base,x.trans W.g0,W.keep,W.reg,W.hid,W.gens,W.bare,W.os⟩,ns:=W.ns,nl:=W.nl,loc:=W.loc,len:=W.len,nd:=W.nd,fr:=W.fr,own:=W.own,stk:=W.stk,cel:=W.cel,apart:=W.apart,pin:=W.pin}
structure AccOK (ce tgt iter:Expr) (ifs:Qs) (newAcc:Sem Value) (obj:Obj) (o0:O) (emit:Env→Addr→Sem Unit):Prop where
 cl:clausesOf ce=[⟨tgt,iter,ifs,0⟩]
 nw:∀(p:Program) (w:World) (A:Around) (s:Shared) (Q:Qj) (E:Qj),Q (.ref s.heap.objs.size) {s with heap:=s.heap.push obj}→wpAny (model p w) A newAcc Q E s
 at_:∀(p:Program) (w:World) (g:Heap) (ρ:Qp) (h:Heap),sysModules<h.objs.size→OAt p w g ρ (h.push obj) o0 h.objs.size
 loop:∀(p:Program) (w:World) (A:Around) (it:Value) (D:Addr) (env:Env) (R:Result→Shared→Prop) (I:Nat→Shared→Prop),
  (∀n s,I n s→wpAny (model p w) A (pyNext it) (fun r s₁=>match r with
   | none=>R (.ok .next) s₁
   | some v=>wpAny (model p w) A (letOwnedTupleGo tgt it v) (fun _ s₁'=>wpAny (model p w) A (assign tgt env v) (fun _ s₂ =>
    wpAny (model p w) A (forIn ifs true fun c r=>if r=true then do let ok ←isTrue c env (eval c env);pure (ForInStep.yield ok) else pure (ForInStep.yield r)) (fun ok s₃ =>
     if ok=true then wpAny (model p w) A (emit env D) (fun _ s₄=>∃m,m<n∧I m s₄) NoE s₃
     else ∃m,m<n∧I m s₃) NoE s₂) NoE s₁') NoE s₁) NoE s) →
  ∀(n:Nat) (s:Shared),I n s→codeAny (model p w) A (.compLoop ce 0 it (.ref D) env) R s
 start:∀(p:Program) (w:World) (A:Around) (it acc:Value) (env:Env) (R:Result→Shared→Prop) (s:Shared),codeAny (model p w) A (.compLoop ce 0 it acc env) R s→wpAny (model p w) A (pyIter it) (fun it' s'=>codeAny (model p w) A (.compLoop ce 0 it' acc env) R s') NoE s→codeAny (model p w) A (.compStart ce 0 it acc env) R s
def EmJ (c:Cx) (emit:Env→Addr→Sem Unit) (n:Nat) (st:St) (Q:Qf):Prop :=
 ∀F D s,(n,D)∈F.pin→RS c F st [] s→wpAny (model c.p c.w) c.A (emit c.env D) (fun j s'=>Got c F [] Q s') NoE s
noncomputable def WX (c:Cx) (tgt:Expr) (ifs:Qs) (emit:Env→Addr→Sem Unit) (ok:Qf) (n:Nat):Qh→St→(Qf)→Prop
 | [],st,Q=>ok st∧Q st
 | x::xs,st,Q=>ok st∧AsJ c tgt ⟨st.loc,st.own,x::st.stk⟩ fun st1=>Zap c ifs st1 fun b st2 =>
  (b=true→EmJ c emit n st2 fun st3=>WX c tgt ifs emit ok n xs st3 Q) ∧
  (b=false→WX c tgt ifs emit ok n xs st2 Q)
inductive CInv (c':Cx) (tgt:Expr) (ifs:Qs) (emit:Env→Addr→Sem Unit) (ok:Qf) (n0:Nat) (xs:Qh) (Si:Nat→List Addr→Heap→Heap→Array GenState→Prop) (g:Heap) (hs:List (Addr×Obj)) (gens:Array GenState) (os:OsState) (pin:Qn) (Qx:Qf) (k:Nat) (s':Shared):Prop
 | mk (i:Nat) (st':St) (wr:Qp) (gk:Heap) (hi:i≤xs.length) (hk:k=xs.length+1 - i) (hg:Sub g gk) (hS:Si i wr gk s'.heap s'.gens) (hd:∀q∈hs,q.1∉wr) (R:RS c' ⟨gk,Zo s'.heap wr++hs,gens,os,pin⟩ st' [] s') (hL:WX c' tgt ifs emit ok n0 (xs.drop i) st' Qx)
theorem ZhY {emit:Env→Addr→Sem Unit}{ok:Qf}{n0:Nat}{gi:Option Nat}{Z:Heap→Prop}{Si:Nat→List Addr→Heap→Heap→Array GenState→Prop}{gens:Array GenState}{os:OsState}{pin:Qn}{Qx:Qf}{A0:Around}{D:Addr}{R:Result→Shared→Prop}
 (KF:GFeed G A0 need tgt it gi Z pn xs ok Si) (eG:c'.G=G) (eA:c'.A=A0) (hneed:need≤c'.fuel) (hpn:∀q∈pn,q∈pin) (hgi:∀j,gi=some j→gens[j]?=none) (hD:(n0,D)∈pin)
 (hfin:∀s4 gk st',Sub g gk→Z gk→RS c' ⟨gk,hs,gens,os,pin⟩ st' [] s4→Qx st'→R (.ok .next) s4) (n:Nat) (s:Shared) (I:CInv c' tgt ifs emit ok n0 xs Si g hs gens os pin Qx n s) :
 wpAny (model c'.p c'.w) c'.A (pyNext (.ref it)) (fun r s₁=>match r with
  | none=>R (.ok .next) s₁
  | some v=>wpAny (model c'.p c'.w) c'.A (letOwnedTupleGo tgt (.ref it) v) (fun u s₁'=>wpAny (model c'.p c'.w) c'.A (assign tgt c'.env v) (fun u s₂ =>
   wpAny (model c'.p c'.w) c'.A (forIn ifs true fun e r=>if r=true then do let ok ←isTrue e c'.env (eval e c'.env);pure (ForInStep.yield ok) else pure (ForInStep.yield r)) (fun ok' s₃ =>
    if ok'=true then wpAny (model c'.p c'.w) c'.A (emit c'.env D) (fun u s₄=>∃m,m<n∧CInv c' tgt ifs emit ok n0 xs Si g hs gens os pin Qx m s₄) NoE s₃
    else ∃m,m<n∧CInv c' tgt ifs emit ok n0 xs Si g hs gens os pin Qx m s₃) NoE s₂) NoE s₁') NoE s₁) NoE s:=by
 obtain ⟨i,st3,wr,gk,hi,rfl,hgk,hSi,hdis,R3,hL3⟩:=I;rcases Nat.lt_or_ge i xs.length with hlt | hge
 ·rw [List.drop_eq_getElem_cons hlt] at hL3;refine oza hL3 fun hok hL3=>?_;refine Kb (KF.item c' ⟨gk,[],gens,os,pin⟩ hs i wr _ st3 [] s eG eA hneed (Ke hlt) hSi hok hpn hdis hgi R3) (fun r s4 z=>?_) fun u u x=>False.elim x;refine Za z fun v zo2 h4=>?_;subst zo2;refine Kb h4 (fun u s5 z=>?_) fun u u x=>False.elim x;refine Z8 z fun wr5 gk5 hgk5 hSi5 hdis5 R5=>?_;have fin:∀{st':St} {s':Shared},RS c' ⟨gk5,Zo s5.heap wr5++hs,s5.gens,os,pin⟩ st' [] s'→WX c' tgt ifs emit ok n0 (xs.drop (i+1)) st' Qx→∃m,m<xs.length+1 - i∧CInv c' tgt ifs emit ok n0 xs Si g hs gens os pin Qx m s':=fun {st' s'} R' hL =>
   have key:=KF.stay (F':=⟨gk5,Zo s5.heap wr5++hs,s5.gens,os,pin⟩) hSi5 rfl R5.g0K rfl hdis5 R'
   ⟨_,ZbG hlt,i+1,st',wr5,gk5,hlt,rfl,hgk.trans hgk5,key.1,hdis5,RS.unG (F:=⟨gk5,Zo s'.heap wr5++hs,gens,os,pin⟩) R5.gensK key.2,hL⟩
  refine Kb (hL3 _ v [] _ R5.pinG) (fun u s6 z=>?_) fun u u x=>False.elim x;obtain ⟨st6,R6,h6⟩:=z;refine Kb (Zmu h6 R6) (fun b s7 z=>?_) fun u u x=>False.elim x;obtain ⟨st7,R7,h7⟩:=z;induction b with
  | false=>rw [if_neg Bool.false_ne_true];exact fin R7 (h7.2 rfl)
  | true =>
   refine (if_pos rfl)▸(Kb (h7.1 rfl _ _ s7 hD R7) (fun u s8 z=>?_) fun u u x=>False.elim x);obtain ⟨st8,R8,h8⟩:=z;exact fin R8 h8
 ·obtain rfl:=Nat.le_antisymm hi hge;replace hL3:=List.drop_length▸hL3;refine oza hL3 fun hok hL3=>?_;refine Kb (KF.done c' ⟨gk,[],gens,os,pin⟩ hs wr st3 [] s eG eA hneed hSi hok hpn hdis hgi R3) (fun r s4 z=>?_) fun u u x=>False.elim x;refine oza z fun zo3 z2=>?_;subst zo3;refine Zt z2 fun gk2 h2 hz R4=>?_;exact hfin s4 gk2 st3 (hgk.trans h2) hz R4 hL3
structure CompIs (c c':Cx) (scope:Scope) (C:Addr) (cells:Qm) (cel:List (Str×Nat)):Prop where
 G:c'.G=c.G
 A:c'.A=c.A
 env:c'.env=compEnvC scope cells C c.env
 tab:c'.tab=Zg scope
 cel:c'.cel=cel
 fuel:c'.fuel=c.fuel
theorem Zmo (c:Cx) (scope:Scope) (hk:scope.kind = .function) (ht:(Zg scope).Nodup) (C:Addr) (cells:Qm) (cel:List (Str×Nat)):∃c',CompIs c c' scope C cells cel:=⟨ZpP c scope hk ht C cells cel,⟨rfl,rfl,rfl,rfl,rfl,rfl⟩⟩
theorem ZbS {Z:Heap→Prop}{ce:Expr}{newAcc:Sem Value}{obj:Obj}{o0:O}{emit:Env→Addr→Sem Unit}{use:Option (Value→Sem Unit)}{Qv:Qj}(X:AccOK ce tgt iter ifs newAcc obj o0 emit) (K:CompOK c scope celA)
 (hs:∀x,foldedSetIterable iter c.env x=pure x) {Q:Qf}
 (h:wpAny (model c.p c.w) c.A (eval iter c.env) (fun v s1=>wpAny (model c.p c.w) c.A (pyIter v) (IGGot c F Z tgt vs fun ok xs st2=>∀c',CompFr c c' scope (Yu scope celA st2.own.length)→WX c' tgt ifs emit ok st2.own.length xs
  ⟨[],st2.own++[o0]++List.replicate (Yb scope.names) (.cell none),[]⟩ (fun st3=>Q ⟨st2.loc,st3.own,.own st2.own.length::st2.stk⟩)) NoE s1) NoE s) (R:RS c F st vs s)
 (fin:∀gz D C s' st' mC lo,Sub F.g₀ gz→Z gz→Q st'→s'.heap.Ns C mC→s'.heap.get? C=some lo→(∀q∈F.hid,q.1≠C)→RS c {F with g₀:=gz,hid:=[(C,lo)]++F.hid} st' (.ref D::vs) s'→compPost (model c.p c.w) c.A NoE use Qv (.ref D) C (.ok .next) s') :
 wpAny (model c.p c.w) c.A (comprehension ce scope c.env p1 newAcc false (eval iter c.env) use) Qv NoE s:=by
 obtain ⟨cl,hclos,hcl⟩:∃cl,closureFor scope c.env=pure cl∧∀x,(x,NameKind.free)∈scope.names→cl.lookup x=c.env.cells.lookup x:=by
  refine ozr R fun g ρ m W=>?_;refine ZbV scope c.env fun x hx=>?_;refine oze (K.free x hx) fun i hi=>?_;refine Za (W.cel x i (K.celA _ hi).1) fun a u e=>?_;exact ⟨a,e⟩
 refine wpAny_comprehension_free X.cl hs hclos K.kind K.names (wpm h (fun v s1 h1=>Kb h1 (fun itv s2 h2=>?_) fun u u x=>x));obtain ⟨it,need,gi,pn,xs,ok,Si,wr,g₁,st2,rfl,hneed,KF,hS0,hg,hd,hgi,⟨g,ρ,m,W⟩,hL⟩:=h2;refine X.nw _ _ _ _ _ _ (Zfd ?_)
 try dsimp only
 have hsys:sysModules<s2.heap.objs.size:=by
  refine oze (c.G.lib.low _ W.base) fun o e=>?_;exact Ku (by decide) (Kk (W.keep _ _ e))
 have W1:=W.allocO obj s2.toks (o':=o0) (X.at_ _ _ _ _ _ hsys);have W2:=W1.alloc {cls:=.type "dict",data:=.dict #[]} s2.toks;have W3:=RSW.cells scope.names W2;have eC:(s2.heap.push obj).objs.size=s2.heap.objs.size+1:=Heap.size_push ..;have eC2:((s2.heap.push obj).push {cls:=.type "dict",data:=.dict #[]}).objs.size=s2.heap.objs.size+2:=by rw [Heap.size_push,eC]
 dsimp only at W3;rw [eC2] at W3;rw [eC];generalize hH:pushCells ((s2.heap.push obj).push {cls:=.type "dict",data:=.dict #[]}) scope.names=H at W3 ⊢;have old:Sub s2.heap H:=fun b o e=>hH▸pushCells_keeps _ _ _ _ (Kn _ (Kn _ e));have hns:H.Ns (s2.heap.objs.size+1) (fun u=>none):=by
  have:=(Heap.Ns.new (s2.heap.push obj) (.type "dict")).keeps (h':=H) fun b o e=>hH▸pushCells_keeps _ _ _ _ e
  rwa [eC] at this
 generalize hρ:ρ++[s2.heap.objs.size]++List.range' (s2.heap.objs.size+2) (Yb scope.names)=ρ1 at W3;have hnew:s2.heap.objs.size+1∉ZG c.G {F with g₀:=g₁,hid:=Zo s2.heap wr++F.hid,pin:=pn++F.pin} (c.env.locals::ρ1):=fun z=>by
  have:s2.heap.objs.size+1∈ZG c.G {F with g₀:=g₁,hid:=Zo s2.heap wr++F.hid,pin:=pn++F.pin} (c.env.locals::ρ):=by
   refine Or.elim (ZL z) (fun z=>?_) fun z=>?_
   ·refine Or.elim (ZH z) (fun z=>?_) fun z=>?_
    ·exact Kg _ (z▸.head _)
    ·rw [←hρ] at z;refine Or.elim (ZL z) (fun z=>?_) fun z=>?_
     ·refine Or.elim (ZL z) (fun z=>?_) fun z=>?_
      ·exact Kg _ (.tail _ z)
      ·exact absurd (YY z) (Nat.succ_ne_self _)
     ·have:=(List.mem_range'_1.mp z).1;exact absurd this (by simp)
   ·exact Kf _ z
  refine oze (W.thereM _ this) fun ob e=>?_;exact absurd (Kk e) (by simp)
 have hgC:g.get? (s2.heap.objs.size+1)=none:=W.keep.none (by
  induction q:s2.heap.get? (s2.heap.objs.size+1) with
  | none=>rfl
  | some o=>exact absurd (Kk q) (by simp))
 have hcel:∀x (i:Nat),(x,i)∈Yu scope celA st2.own.length→∃a,ρ1[i]?=some a∧(cellsFrom (s2.heap.objs.size+2) scope.names cl).lookup x=some a:=fun x i hx=>by
  refine Or.elim (ZL hx) (fun hx=>?_) fun hx=>?_
  ·refine Yz (K.celA (x,i) hx) fun h1 h2 h5=>?_;refine Za (W.cel x i h1) fun a h3 h4=>?_;refine ⟨a,?_,by rw [WK h5,hcl x h2];exact h4⟩;have hi:i<ρ.length:=(ZB h3).1;rw [←hρ,Qy,Kl hi];exact h3
  ·refine Za (Yh hx) fun zo4 h1 h2=>?_;obtain ⟨y,j⟩:=zo4;cases h2;have h3:=List.mem_zipIdx_iff_getElem?.mp h1;have hj:j<Yb scope.names:=by rw [Zc6];exact (ZB h3).1
   refine ⟨s2.heap.objs.size+2+j,?_,Wm K.nd h3⟩;have hl:(ρ++[s2.heap.objs.size]).length=st2.own.length+1:=by simp [W.len]
   rw [←hρ,Km (by rw [hl];exact Ko _ _),hl,Q6,List.getElem?_range' hj];simp
 refine oze (Zmo c scope K.kind K.tnd (s2.heap.objs.size+1) (cellsFrom (s2.heap.objs.size+2) scope.names cl) (Yu scope celA st2.own.length)) fun c' C=>?_;have eL:c'.env.locals=s2.heap.objs.size+1:=by rw [C.env];rfl
 refine Za (W3.enter (c':=c') C.G (h':=H) (tk:=s2.toks) (l:=[]) (Sub.refl _) (m':=fun u=>none) (by rw [eL];exact hns) (by rw [eL];exact hnew) (by rw [eL];exact hgC) (fun u u h=>nomatch h) (fun x i h=>by rw [C.env];exact hcel x i (C.cel▸h))) fun lo hlo WI=>?_;dsimp only at hlo;have hth:=KF.th hS0;have hst:∀q∈Zo H wr,q∈Zo s2.heap wr:=fun q hq=>by
  refine oza (Zj hq) fun h1 h2=>?_;refine oze (hth _ h1) fun o e=>?_;have e2:=old _ _ e;rw [h2] at e2;cases e2;exact ZX h1 e
 have hLw:c.env.locals∉wr:=fun z=>by
  refine oze (hth _ z) fun o e=>?_;exact (W.apart _ (.head _)).2 _ (Kg _ (ZX z e)) rfl
 have hdis:∀q∈(c.env.locals,lo)::F.hid,q.1∉wr:=fun q hq=>by
  rcases ZH hq with rfl | hq
  ·exact hLw
  ·exact hd q hq
 have hS1:Si 0 wr g H s2.gens:=KF.mono (KF.frame hS0 (fun b u o e=>old b o e) (W.g0.trans W.keep) ((W.g0.trans W.keep).trans old) fun u u e=>e) W.g0;have hpn:∀q∈pn,q∈idx ρ1:=fun q hq=>by
  have h3:=W.pin q (Kg _ hq);have hi:q.1<ρ.length:=(ZB h3).1;exact Un (by rw [←hρ,Qy,Kl hi];exact h3)
 have hD:ρ1[st2.own.length]?=some s2.heap.objs.size:=by
  rw [←hρ,Qy,Km (by rw [W.len];exact Kq _),W.len,Rp];rfl
 have R0:RS c' ⟨g,Zo H wr++((c.env.locals,lo)::F.hid),F.gens,F.os,idx ρ1⟩ ⟨[],st2.own++[o0]++List.replicate (Yb scope.names) (.cell none),[]⟩ [] {s2 with heap:=H} :=
  ⟨g,ρ1,_,RSW.hids WI (hs:=Zo H wr++((c.env.locals,lo)::F.hid)) fun q hq=>by
   refine Or.elim (ZL hq) (fun hq=>?_) fun hq=>?_
   ·exact .tail _ (Kg _ (hst q hq))
   ·rcases ZH hq with rfl | hq
    ·exact .head _
    ·exact .tail _ (Kf _ hq)⟩
 have W3':RSW c F ⟨st2.loc,st2.own++[o0]++List.replicate (Yb scope.names) (.cell none),st2.stk⟩ vs {s2 with heap:=H} g ρ1 m:=by
  have:=(RSW.hids W3 (hs:=F.hid) fun q hq=>Kf _ hq).pins (pn:=F.pin) fun q hq=>W3.pin q (Kf _ hq);exact {toHS:=⟨this.base,hg.trans this.g0,this.keep,this.reg,this.hid,this.gens,this.bare,this.os⟩,ns:=this.ns,nl:=this.nl,loc:=this.loc,len:=this.len,nd:=this.nd,fr:=this.fr,own:=this.own,stk:=this.stk,cel:=this.cel,apart:=this.apart,pin:=this.pin}
 clear WI W3 W2 W1 hcel;have loop:codeAny (model c.p c.w) c.A (.compLoop ce 0 (.ref it) (.ref s2.heap.objs.size) (compEnvC scope (cellsFrom (s2.heap.objs.size+2) scope.names cl) (s2.heap.objs.size+1) c.env)) (compPost (model c.p c.w) c.A NoE use Qv (.ref s2.heap.objs.size) (s2.heap.objs.size+1)) {s2 with heap:=H}:=by
  rw [←C.env];show codeAny (model c.G.p c.G.w) c.A _ _ _;rw [←C.G,←C.A];refine X.loop _ _ _ _ _ _ _ (CInv c' tgt ifs emit ok st2.own.length xs Si g ((c.env.locals,lo)::F.hid) F.gens F.os (idx ρ1) fun st3=>Q ⟨st2.loc,st3.own,.own st2.own.length::st2.stk⟩) (ZhY KF C.G C.A (by rw [C.fuel];exact hneed) hpn hgi (Un hD) fun s4 gk st3 hgk hz R4 hL3=>?_) (xs.length+1) _ ⟨0,_,wr,g,Q4 _,rfl,Sub.refl _,hS1,hdis,R0,(hL c' ⟨C.G,C.fuel,C.tab,fun u=>by rw [C.env];rfl,C.cel⟩)⟩;rw [C.A];obtain ⟨g4,ρ4,m4,W4⟩:=R4;refine Yz (W3'.leave C.G hlo (W5:=((RSW.of_g0 (F:=⟨g,(c.env.locals,lo)::F.hid,F.gens,F.os,idx ρ1⟩) hgk W4))) (h':=s4.heap) (tk:=s4.toks) fun u u u e=>e) fun W5 sb ex=>?_;refine ZS (id W4.ns) fun lo' es' ep' e' r'=>?_;rw [eL] at e';have ap:=W4.apart;rw [eL,C.G] at ap;have hCm:s2.heap.objs.size+1∉ZG c.G F (c.env.locals::ρ4):=fun z=>by
   refine Or.elim (ZL z) (fun z=>?_) fun z=>?_
   ·refine Or.elim (ZH z) (fun z=>?_) fun z=>?_
    ·exact (ap _ (.head _)).2 _ (.head _) z
    ·exact (W4.fr _ z).2 eL.symm
   ·refine Or.elim (ZL z) (fun z=>?_) fun z=>?_
    ·refine Za (Yh z) fun r hr e=>?_;exact (ap _ (.head _)).1 r hr e.symm
    ·refine Za (Yh z) fun q hq e=>?_;exact (ap _ (.head _)).2 q (.tail _ hq) e.symm
  refine fin gk s2.heap.objs.size (s2.heap.objs.size+1) s4 _ m4 lo' (hg.trans (W.g0.trans hgk)) hz hL3 (by have:=W4.ns;rwa [eL] at this) e' (fun q hq z=>(ap _ (.head _)).2 q (.tail _ hq) z.symm) ?_;have W7:=(W5.push (a:=.own st2.own.length) (v:=.ref s2.heap.objs.size) ⟨_,ex _ _ hD,rfl⟩).hide (hs:=[(s2.heap.objs.size+1,lo')]) fun q hq=>by
   rw [Q3] at hq;subst hq;exact ⟨e',by have:=W4.nl;rwa [eL] at this,hCm⟩
  exact ⟨_,_,_,RSW.of_g0 (F:={F with g₀:=gk,hid:=[(s2.heap.objs.size+1,lo')]++F.hid}) W4.g0 W7.at_g⟩
 exact X.start _ _ _ _ _ _ _ _ loop (KF.self _ 0 _ _ _ _ _ c.hh hS1 (W.keep.trans old) loop)
theorem Zb4 {ce:Expr}{newAcc:Sem Value}{obj:Obj}{o0:O}{emit:Env→Addr→Sem Unit}{use:Option (Value→Sem Unit)}{Qv:Qj}(X:AccOK ce tgt iter ifs newAcc obj o0 emit) (K:CompOK c scope celA)
 (hs:∀x,foldedSetIterable iter c.env x=pure x) {Q:Qf}
 (h:IGJ c tgt iter st fun ok xs st2=>∀c',CompFr c c' scope (Yu scope celA st2.own.length)→WX c' tgt ifs emit ok st2.own.length xs
  ⟨[],st2.own++[o0]++List.replicate (Yb scope.names) (.cell none),[]⟩ (fun st3=>Q ⟨st2.loc,st3.own,.own st2.own.length::st2.stk⟩)) (R:RS c F st vs s)
 (fin:∀D C s' st' mC lo,Q st'→s'.heap.Ns C mC→s'.heap.get? C=some lo→(∀q∈F.hid,q.1≠C)→RS c {F with hid:=[(C,lo)]++F.hid} st' (.ref D::vs) s'→compPost (model c.p c.w) c.A NoE use Qv (.ref D) C (.ok .next) s') :
 wpAny (model c.p c.w) c.A (comprehension ce scope c.env p1 newAcc false (eval iter c.env) use) Qv NoE s :=
 ZbS X K hs (h F vs s R) R fun gz D C s' st' mC lo hz j hQ h1 h2 h3 R'=>fin D C s' st' mC lo hQ h1 h2 h3 (ozr R' fun g ρ m W=>⟨g,ρ,m,RSW.of_g0 (F:={F with hid:=[(C,lo)]++F.hid}) hz W⟩)
noncomputable def Zkv (elt:Expr) (env:Env) (D:Addr):Sem Unit:=do let _ ←call (.builtin "list.append") [.ref D,←eval elt env]
theorem Zp7:AccOK (.ListComp elt [⟨tgt,iter,ifs,0⟩] scope pos) tgt iter ifs (newList []) {cls:=.type "list",data:=.seq ([]:Qo).toArray} (.list []) (Zkv elt) where
 cl:=rfl
 nw:=fun p w A s Q E h=>wpAny_newList h
 at_:=fun p w g ρ h j=>⟨[],⟨0,Kh _ rfl⟩,rfl⟩
 start:=fun p w A it acc env R s h1 h2=>codeAny_compStart_list h1 (Kb h2 (fun j j x=>x) fun j j x=>x.elim)
 loop:=fun p w A it D env R I turn n s h=>by
  refine codeAny_loop rfl I (fun n s hI=>?_) n h;show wpAny _ A ((compTurn (.ListComp elt [⟨tgt,iter,ifs,0⟩] scope pos) 0 it (.ref D) env).onRaise (fun x=>do noteFrame x env;theTreesLotGoes x)) _ _ s;refine wpAny_noted ?_;rw [compTurn_list];refine Kd (Rq (Kd (Kb (turn n s hI) (fun r s₁ h₁=>?_) fun j j h'=>h'.elim)));induction r with
  | none=>exact Ki h₁
  | some v =>
   refine Kd (Kb h₁ (fun j s₁' h₁'=>?_) fun j j h'=>h'.elim);refine Kd (Kb h₁' (fun j s₂ h₂=>Kd (Kb h₂ (fun ok s₃ h₃=>?_) fun j j h'=>h'.elim)) fun j j h'=>h'.elim);induction ok with
   | false=>exact Ki ⟨rfl,h₃⟩
   | true=>exact Kd (Kb h₃ (fun j s₄ h₄=>Ki ⟨rfl,h₄⟩) fun j j h'=>h'.elim)
theorem Zmp {n:Nat}(h:EJ c elt st fun st3=>∃a ys,st3.stk=[a]∧st3.own[n]?=some (.list ys)∧ys.length≤1000000∧Q ⟨st3.loc,st3.own.set n (.list (ys++[a])),[]⟩):EmJ c (Zkv elt) n st Q:=fun F D s hD R=>by
 refine Kd (wpm (h F [] s R) (fun x s8 zq16=>?_));refine Ka fun zn28=>?_;obtain ⟨st8,⟨g8,ρ8,m8,W8⟩,a,ys,hstk,hown,hlen,h8⟩:=zq16;have hD8:=W8.pin _ hD;refine Za (W8.own _ _ _ hown hD8) fun us hus hav=>?_;refine zn28 ?_;have hst8:=W8.stk;replace hst8:=hstk▸hst8;refine Za (Yp hst8) fun x' ex hxa=>?_
 injection ex with zi;subst zi
 refine Kd (WW hus (by rw [Y8 hav];exact hlen) fun h9 e1 e2=>Ki ?_);exact ⟨_,⟨g8,ρ8,m8,(W8.stack (Zb hst8)).setOwn (t:=s8.toks) (ZB hown).1 hD8 (fun b ob hb e=>(e2.2 b hb).trans e) (o':=.list (ys++[a])) ⟨_,e1,Zd7 hav hxa⟩⟩,h8⟩
theorem Zfm {ok:Qf}{n:Nat}(h:CompJ c tgt ifs elt ok n xs st Q):WX c tgt ifs (Zkv elt) ok n xs st Q:=by
 induction xs generalizing st with
 | nil=>exact h
 | cons x xs ih =>
  refine ⟨h.1,fun F v vs s R=>wpm (h.2 F v vs s R) (fun j s1 z=>?_)⟩;refine ozg z fun st1 R1 h3=>?_;refine ⟨st1,R1,U9 h3 fun b st2 hb=>⟨fun e=>Zmp ((hb.1 e).mono fun st3 z=>?_),fun e=>ih (hb.2 e)⟩⟩;refine Z8 z fun a ys q1 q2 q3 q4=>?_;exact ⟨a,ys,q1,q2,q3,ih q4⟩
theorem IGJ.mono {e:Expr}{Q Q':Qb}(h:IGJ c tgt e st Q) (q:∀ok xs st,Q ok xs st→Q' ok xs st):IGJ c tgt e st Q':=fun F vs s R =>
 wpm (h F vs s R) (fun v s1 h1=>Kb h1 (fun itv s2 h2=>by
  obtain ⟨it,need,gi,pn,xs,ok,Si,wr,gk,st2,e1,e2,e3,e4,e5,e6,e7,e8,h⟩:=h2;exact ⟨it,need,gi,pn,xs,ok,Si,wr,gk,st2,e1,e2,e3,e4,e5,e6,e7,e8,q _ _ _ h⟩) fun j j x=>x)
theorem ZbC {use:Option (Value→Sem Unit)}{Qv:Qj}(K:CompOK c scope celA)
 (hs:∀x,foldedSetIterable iter c.env x=pure x) {Q:Qf}
 (h:IGJ c tgt iter st fun ok xs st2=>∀c',CompFr c c' scope (Yu scope celA st2.own.length)→CompJ c' tgt ifs elt ok st2.own.length xs
  ⟨[],st2.own++[.list []]++List.replicate (Yb scope.names) (.cell none),[]⟩ (fun st3=>Q ⟨st2.loc,st3.own,.own st2.own.length::st2.stk⟩)) (R:RS c F st vs s)
 (fin:∀D C s' st' mC lo,Q st'→s'.heap.Ns C mC→s'.heap.get? C=some lo→(∀q∈F.hid,q.1≠C)→RS c {F with hid:=[(C,lo)]++F.hid} st' (.ref D::vs) s'→compPost (model c.p c.w) c.A NoE use Qv (.ref D) C (.ok .next) s') :
 wpAny (model c.p c.w) c.A (comprehension (.ListComp elt [⟨tgt,iter,ifs,0⟩] scope pos) scope c.env p1 (newList []) false (eval iter c.env) use) Qv NoE s :=
 Zb4 Zp7 K hs (h.mono fun ok xs st2 hq c' H=>Zfm (hq c' H)) R fin
theorem ZdC (K:CompOK c scope celA)
 (h:IGJ c tgt iter st fun ok xs st2=>∀c',CompFr c c' scope (Yu scope celA st2.own.length)→CompJ c' tgt ifs elt ok st2.own.length xs
  ⟨[],st2.own++[.list []]++List.replicate (Yb scope.names) (.cell none),[]⟩ (fun st3=>Q ⟨st2.loc,st3.own,.own st2.own.length::st2.stk⟩))
 (hs:∀x,foldedSetIterable iter c.env x=pure x:=by intro j;rfl):EJ c (.ListComp elt [⟨tgt,iter,ifs,0⟩] scope pos) st Q:=fun F vs s R=>by
 rw [eval_ListComp];refine ZbC (use:=none) K hs h R fun D C s' st' mC lo hQ hn hC hd zw=>ozr zw fun g ρ m W=>⟨mC,hn,fun h' hs'=>⟨st',⟨g,ρ,m,?_⟩,hQ⟩⟩
 have:=RSW.rehide (F:=F) (g₁:=F.g₀) (hs:=[(C,lo)]) (hs':=[]) W (fun q hq z=>hd q hq (by simpa using z)) (h':=h') (t:=s'.toks) (fun b o hb e=>(hs'.2 b (by simpa using hb)).trans e) (fun j h=>nomatch h);exact this
theorem Zly {py spos:Pos}(K:CompOK c scope celA)
 (h:IGJ c tgt iter st fun ok xs st2=>∀c',CompFr c c' scope (Yu scope celA st2.own.length)→CompJ c' tgt ifs elt ok st2.own.length xs
  ⟨[],st2.own++[.list []]++List.replicate (Yb scope.names) (.cell none),[]⟩ (fun st3=>NJ c y ⟨st2.loc,st3.own,.own st2.own.length::st2.stk⟩ (QF .next)))
 (hsw:swapsWith (.ListComp elt [⟨tgt,iter,ifs,0⟩] scope pos) (some (.Name y py)) spos.line c.env=pure true:=by rfl)
 (hs:∀x,foldedSetIterable iter c.env x=pure x:=by intro j;rfl):SJ c (.Assign [.Name y py] (.ListComp elt [⟨tgt,iter,ifs,0⟩] scope pos) spos) st QF:=fun F vs s R=>by
 refine wpq (exec_Assign_Name_used _ _ _ _ hsw) ?_;refine Kd (Rq (Kd ?_));refine Kd (wpm (ZbC (use:=some (assign (.Name y py) c.env)) (Q:=fun st=>NJ c y st (QF .next)) (Qv:=fun j s'=>Got c F vs (QF .next) s') K hs h R fun D C s' st' mC lo hQ hn hC hd R'=>?_) (fun j s' hq=>Ki (Ki hq)));refine wpm (Z7 hQ _ _ vs s' R') (fun j s2 zq20=>?_);refine Ka fun zn31=>?_;refine ozg zq20 fun st2 zo2 hq=>?_;refine ozr zo2 fun g ρ m W=>?_;refine zn31 ?_;refine ⟨mC,?_,fun h' hs'=>⟨st2,⟨g,ρ,m,?_⟩,hq⟩⟩
 ·refine ZS hn fun o es ep e r=>?_;rw [hC] at e;obtain rfl:=Kc e;exact ⟨_,es,ep,((W.hid _ (.head _)).1),r⟩
 ·exact RSW.rehide (F:=F) (g₁:=F.g₀) (hs:=[(C,lo)]) (hs':=[]) W (fun q hq z=>hd q hq (by simpa using z)) (h':=h') (t:=s2.toks) (fun b o hb e=>(hs'.2 b (by simpa using hb)).trans e) (fun j h=>nomatch h)
end
end
section
def Zao (G:Gx) (W:Qp) (h g:Heap) (F:Fz) (s:Shared) (g':Heap):Prop :=
 HS G F s g'∧Sub g g'∧F.pin=[]∧∀b∈W,g'.get? b=none∧(∀o,h.get? b=some o→s.heap.get? b=some o)∧∀q∈F.hid,b≠q.1
inductive YCons (G:Gx) (A:Around) (N:Fz→End→Shared→Prop) (y:D) (F:Fz) (e:End) (s':Shared):Prop
 | mk (v:Value) (gd:Bool) (l:Qo) (k:Resume→Sem Fin) (c:Code) (p:Pos) (fs:List Frame) (e1:e = .susp v gd l k c p fs) (e2:e.quiet=true) (g₁:Heap) (W:Qp) (H:HS G F s' g₁) (hv:VR G.p G.w g₁ y v)
  (hW:∀b∈W,(∃o,s'.heap.get? b=some o)∧g₁.get? b=none∧(∀r∈G.reg,b≠r.at_)∧∀q∈F.hid,b≠q.1)
  (r:∀F'' s'' g'',Zao G W s'.heap g₁ F'' s'' g''→∀(Γ:Ctx) p',Γ.code=c→Γ.Woken A→∃e₁ s₁,Runs (model G.p G.w) Γ p' (k (.send .none)) fs s'' e₁ s₁∧N F'' e₁ s₁)
noncomputable def YEnd (G:Gx) (A:Around):Qi→Fz→End→Shared→Prop
 | [],F,e,s'=>e = .ret (.ok (.ret .none))∧∃g',HS G F s' g'∧G.fin g'
 | y::ys,F,e,s'=>YCons G A (YEnd G A ys) y F e s'
def YRun (G:Gx) (A:Around) (ys:Qi) (F:Fz) (c:Code) (t:Sem Fin) (fs:List Frame) (s:Shared):Prop :=
 ∀(Γ:Ctx) p,Γ.code=c→Γ.Woken A→∃e s',Runs (model G.p G.w) Γ p t fs s e s'∧YEnd G A ys F e s'
def Ins (A A':Around) (code:Code) (fs:List Frame):Prop:=∀Γ:Ctx,Γ.code=code→Γ.Woken A→(Γ.over fs).In A'
section
variable {A A':Around}{c:Code}{fs:List Frame}{s:Shared}
theorem HS.weakG (x:Sub F.g₀ g₁) (H:HS G {F with g₀:=g₁} s g):HS G F s g:=⟨H.base,x.trans H.g0,H.keep,H.reg,H.hid,H.gens,H.bare,H.os⟩
theorem YEnd.weak (x:Sub F.g₀ g₁){e:End}(h:YEnd G A ys {F with g₀:=g₁} e s'):YEnd G A ys F e s':=by
 induction ys using LLc with
 | nil=>exact ⟨h.1,h.2.elim fun g' H=>⟨g',H.1.weakG x,H.2⟩⟩
 | cons y ys=>obtain ⟨v,gd,l,k,c,p,fs,e1,e2,g₁,W,H,hv,hW,r⟩:=h;exact .mk v gd l k c p fs e1 e2 g₁ W (H.weakG x) hv hW r
theorem YRun.weak {t:Sem Fin}(x:Sub F.g₀ g₁) (h:YRun G A ys {F with g₀:=g₁} c t fs s):YRun G A ys F c t fs s:=fun Γ p hc hΓ =>
 let ⟨e,s',h1,h2⟩:=h Γ p hc hΓ;⟨e,s',h1,h2.weak x⟩
theorem U3 {α:Type}{m:Sem α}{K:α→Sem Fin}{H:Value→Sem Fin}{gd lv}(hA:Ins A A' c fs)
 (h:wpAny (model G.p G.w) A' m (fun a s'=>YRun G A ys F c (K a) fs s') NoE s):YRun G A ys F c (m.wrap K H gd lv) fs s:=fun Γ p hc hΓ=>by
 subst hc;exact runs_wrap_of_wp K H gd lv m (h (Γ.over fs) p (hA Γ rfl hΓ)) (fun a p' s' h'=>h' Γ p' rfl hΓ) (fun x p' s' h'=>False.elim h')
theorem YB {α β:Type}{m:Sem α}{K:α→Sem β}{K':β→Sem Fin}{H':Value→Sem Fin}{gd lv}(hA:Ins A A' c fs)
 (h:wpAny (model G.p G.w) A' m (fun a s'=>YRun G A ys F c ((K a).wrap K' H' gd lv) fs s') NoE s):YRun G A ys F c ((m >>= K).wrap K' H' gd lv) fs s:=by
 rw [Sem.bind_eq_wrap',Sem.wrap_wrap];exact U3 hA h
theorem ZnO {p':Pos}{k:Unit→Sem Fin}(hA:Ins A A' c fs) (h:YRun G A ys F c (k ()) fs s):YRun G A ys F c (.at p' k) fs s :=
 U3 (m:=standAt p') (K:=k) (H:=.raise) (gd:=id) (lv:=id) hA (Rq h)
theorem Zjv {l:Qo}{k:Unit→Sem Fin}(hA:Ins A A' c fs) (h:YRun G A ys F c (k ()) fs s):YRun G A ys F c (.point l k) fs s :=
 U3 (m:=point) (K:=k) (H:=.raise) (gd:=id) (lv:=fun j=>l) hA (wpAny_point h)
theorem Znn {c':Code}{h g l}{k:Result→Sem Fin}(hc:∀p,YRun G A ys F c' ((model G.p G.w).den c') (.ret k h g l c p []::fs) s):YRun G A ys F c (.call c' h g l k) fs s:=fun Γ p hcd hΓ=>by
 subst hcd;refine ZE (hc p (Γ.goto c') p rfl (hΓ.goto c')) fun e s' hr he=>?_;exact ⟨e,s',runs_call_seg hr,he⟩
theorem Znm {k h g l c₁ p₁ kp}(r:Result) (hk:YRun G A ys F c₁ (k r) fs s):YRun G A ys F c (leafOf r) (.ret k h g l c₁ p₁ kp::fs) s:=fun Γ p hcd hΓ=>by
 refine ZE (hk (Γ.goto c₁) p₁ rfl (hΓ.goto c₁)) fun e s' hr he=>?_;exact ⟨e,s',Runs.pop r hr,he⟩
theorem Zfq {c':Code}(hq:c'.quiet=true) (hc:YRun G A ys F c' ((model G.p G.w).den c') fs s):YRun G A ys F c (.pure (.again c')) fs s:=fun Γ p hcd hΓ=>by
 refine ZE (hc (Γ.goto c') p rfl (hΓ.goto c')) fun e s' hr he=>?_;exact ⟨e,s',Runs.head (c₁:=c') (fun j j x=>.again hq x) hr,he⟩
theorem Zoy (H:HS G F s g) (hf:G.fin g):YRun G A [] F c (leafOf (.ok (.ret .none))) [] s:=fun Γ p hcd hΓ=>⟨_,s,Runs.leaf _,rfl,g,H,hf⟩
theorem Zlb {v g l}{k:Resume→Sem Fin}{y:D}{W:Qp}(hfs:splitAtGen fs=none) (hg:g=false) (hfg:fs.any Frame.guarded=false) (H:HS G F s g₁) (hv:VR G.p G.w g₁ y v)
 (hW:∀b∈W,(∃o,s.heap.get? b=some o)∧g₁.get? b=none∧(∀r∈G.reg,b≠r.at_)∧∀q∈F.hid,b≠q.1)
 (h:∀F'' s'' g'',Zao G W s.heap g₁ F'' s'' g''→YRun G A ys F'' c (k (.send .none)) fs s''):YRun G A (y::ys) F c (.yield v g l k) fs s:=fun Γ p hcd hΓ=>by
 subst hcd;exact ⟨_,s,Runs.yield' fs hfs,v,g,l,k,_,_,fs,rfl,by simp [End.quiet,hg,hfg],g₁,W,H,hv,hW,h⟩
theorem Ins.push {c':Code}{k l p}(h:Ins A A' c fs) (hw:c'.weight=0) (hu:c'.cUnits=0) (hn:splitAtGen fs=none):Ins A A' c' (.ret k none false l c p []::fs):=fun Γ hc hΓ=>by
 refine ZoT (h (Γ.goto c) rfl (hΓ.goto c)) fun b1 b2 b3 b4 b5=>?_;refine ⟨?_,?_,fun l hl=>?_,fun l hl=>?_,?_⟩
 ·exact b1
 ·show frameCount ((c,p)::(fs.map Frame.where_++Γ.below))+Γ.code.weight≤_;rw [frameCount_cons,hc,hw];have:frameCount (fs.map Frame.where_++Γ.below)+c.weight≤A'.depth:=b2;lia
 ·show Γ.code.envs++envsOf ((c,p)::(fs.map Frame.where_++Γ.below))=l;rw [envsOf_cons,hc,Code.envs_of_weight hw];exact b3 l hl
 ·show Γ.code.guards++guardsOf ((c,p)::(fs.map Frame.where_++Γ.below))=l;rw [guardsOf_cons,hc,Code.guards_of_weight hw];exact b4 l hl
 ·show Γ.code.cUnits+unitsOf ((c,p)::(fs.map Frame.where_++Γ.below))≤_;rw [unitsOf_cons,hc,hu];have:c.cUnits+unitsOf (fs.map Frame.where_++Γ.below)≤A'.units:=b5;lia
end
end
section
noncomputable def FI (Fo:Fz) (h:Heap) (wr:Qp) (pn:Qn):Fz:={Fo with hid:=Zo h wr++Fo.hid,pin:=pn++Fo.pin}
structure YPre (c:Cx) (wr:Qp) (pn:Qn) (g₁:Heap) (Fo:Fz) (s:Shared) (st:St):Prop where
 g0:Sub g₁ Fo.g₀
 hd:∀q∈Fo.hid,q.1∉wr
 th:∀b∈wr,∃o,s.heap.get? b=some o
 R:RS c (FI Fo s.heap wr pn) st [] s
def YJ (c:Cx) (A:Around) (wr:Qp) (pn:Qn) (g₁:Heap) (t:Sem Flow) (ys:Qi) (st:St) (Q:Qi→St→Prop):Prop :=
 ∀(Fo:Fz) (s:Shared) (code:Code) (fs:List Frame) (K:Flow→Sem Fin) (H:Value→Sem Fin) (gd lv),Ins A c.A code fs→splitAtGen fs=none→fs.any Frame.guarded=false→gd false=false→YPre c wr pn g₁ Fo s st →
  (∀Fo' s' ys' st',YPre c wr pn g₁ Fo' s' st'→(∀b∈wr,∀o,s.heap.get? b=some o→s'.heap.get? b=some o)→Q ys' st'→YRun c.G A ys' Fo' code (K .next) fs s') →
  YRun c.G A ys Fo code (t.wrap K H gd lv) fs s
section
variable {A:Around}{Q:Qi→St→Prop}
theorem We {Fo:Fz}{s:Shared}{st':St}(R:RS c (FI Fo s.heap wr pn) st' us s'):∀b∈wr,∀o,s.heap.get? b=some o→s'.heap.get? b=some o:=fun b hb o e=>by
 refine ozr R fun g ρ m W=>?_;exact (W.hid (b,o) (Kg _ (ZX hb e))).1
theorem RS.reFI {Fo:Fz}{s:Shared}{st':St}(hth:∀b∈wr,∃o,s.heap.get? b=some o) (hd:∀q∈Fo.hid,q.1∉wr) (R:RS c (FI Fo s.heap wr pn) st' us s'):RS c (FI Fo s'.heap wr pn) st' us s':=by
 have hk:=We R;refine ozr R fun g ρ m W=>?_;have keys:=Ye hth;exact ⟨g,ρ,m,RSW.rehide (F:={Fo with pin:=pn++Fo.pin}) (g₁:=Fo.g₀) (hs:=Zo s.heap wr) (hs':=Zo s'.heap wr) W (fun q hq z=>hd q hq ((keys _).mp z)) (h':=s'.heap) (t:=s'.toks) (fun j j j e=>e) fun q hq=>⟨(keys _).mpr (Zj hq).1,(Zj hq).2⟩⟩
theorem YPre.on {Fo:Fz}{s:Shared}{st':St}(P:YPre c wr pn g₁ Fo s st) (R:RS c (FI Fo s.heap wr pn) st' [] s'):YPre c wr pn g₁ Fo s' st' :=
 ⟨P.g0,P.hd,fun b hb=>by obtain ⟨o,e⟩:=P.th b hb;exact ⟨o,We R b hb o e⟩,R.reFI P.th P.hd⟩
theorem W9 (h:Q ys st):YJ c A wr pn g₁ (execs [] c.env) ys st Q:=fun Fo s code fs K H gd lv j j j j P hK=>hK Fo s ys st P (fun j j j e=>e) h
theorem X7 {t:Stmt}{ts:Qr}(h:YJ c A wr pn g₁ (exec t c.env) ys st fun ys1 st1=>YJ c A wr pn g₁ (execs ts c.env) ys1 st1 Q):YJ c A wr pn g₁ (execs (t::ts) c.env) ys st Q:=fun Fo s code fs K H gd lv h1 h2 h3 h4 P hK=>by
 rw [execs_cons_wrap];exact h Fo s code fs _ H gd lv h1 h2 h3 h4 P fun Fo' s' ys' st' P' hk hq=>hq Fo' s' code fs K H gd lv h1 h2 h3 h4 P' fun Fo'' s'' ys'' st'' P'' hk' hq'=>hK Fo'' s'' ys'' st'' P'' (fun b hb o e=>hk' b hb o (hk b hb o e)) hq'
theorem Zo8 {t:Stmt}(h:SJ c t st fun fl st1=>fl = .next∧Q ys st1):YJ c A wr pn g₁ (exec t c.env) ys st Q:=fun Fo s code fs K H gd lv h1 h2 h3 h4 P hK=>by
 refine U3 h1 (wpm (h _ [] s P.R) (fun f s1 h5=>?_));induction f with
 | next=>obtain ⟨st1,R1,j,hq⟩:=h5;exact hK Fo s1 ys st1 (P.on R1) (We R1) hq
 | brk=>obtain ⟨j,j,h,j⟩:=h5;cases h
 | cont=>obtain ⟨j,j,h,j⟩:=h5;cases h
 | ret v=>obtain ⟨j,j,h,j⟩:=h5;cases h
theorem ZlP {t:Expr}{b e:Qr}(h:TJ c t st fun z st1=>(z=true→YJ c A wr pn g₁ (execs b c.env) ys st1 Q)∧(z=false→YJ c A wr pn g₁ (execs e c.env) ys st1 Q)):YJ c A wr pn g₁ (exec (.If t b e pos) c.env) ys st Q:=fun Fo s code fs K H gd lv h1 h2 h3 h4 P hK=>by
 rw [exec_If];refine YB h1 (Rq (YB h1 (wpm (h _ [] s P.R) (fun z s1 zq1=>?_))));obtain ⟨st1,R1,h5⟩:=zq1;have hk:=We R1;induction z with
 | true=>exact h5.1 rfl Fo s1 code fs K H gd lv h1 h2 h3 h4 (P.on R1) fun Fo' s' ys' st' P' hk' hq=>hK Fo' s' ys' st' P' (fun b hb o e=>hk' b hb o (hk b hb o e)) hq
 | false=>exact h5.2 rfl Fo s1 code fs K H gd lv h1 h2 h3 h4 (P.on R1) fun Fo' s' ys' st' P' hk' hq=>hK Fo' s' ys' st' P' (fun b hb o e=>hk' b hb o (hk b hb o e)) hq
theorem RSW.later {Fo F'':Fz}{s s'':Shared}{h0 g'':Heap}{m:Qk}(W:RSW c (FI Fo h0 wr pn) st vs s g ρ m) (hth:∀b∈wr,∃o,h0.get? b=some o) (X:Zao c.G ((c.env.locals::ρ)++wr) s.heap g F'' s'' g''):
 RSW c (FI {F'' with g₀:=g''} s''.heap wr pn) st vs s'' g'' ρ m:=by
 refine UT X fun H hs hp hW=>?_;have hL:∀b∈c.env.locals::ρ,g''.get? b=none∧(∀o,s.heap.get? b=some o→s''.heap.get? b=some o)∧∀q∈F''.hid,b≠q.1:=fun b hb=>hW b (Kg _ hb);have hr:∀b∈wr,∃o,(b,o)∈(FI Fo h0 wr pn).hid:=fun b hb=>by refine oze (hth b hb) fun o e=>?_;exact ⟨o,Kg _ (ZX hb e)⟩
 exact {
  base:=H.base,g0:=Sub.refl _,keep:=H.keep,reg:=H.reg,gens:=H.gens,bare:=H.bare,os:=H.os
  hid:=fun q hq=>by
   refine Or.elim (List.mem_append.mp hq) (fun hq=>?_) fun hq=>?_
   ·refine oza (Zj hq) fun h1 h2=>?_;refine oze (hr _ h1) fun o ho=>?_;exact ⟨h2,(hW _ (Kf _ h1)).1,(W.hid _ ho).2.2⟩
   ·exact H.hid q hq
  ns:=by refine ZS W.ns fun o es ep h r=>?_;exact ⟨o,es,ep,(hL _ (.head _)).2.1 _ h,r⟩
  nl:=(hL _ (.head _)).1
  loc:=fun y a h=>by refine Zc (W.loc y a h) fun z v e0 e r=>?_;exact ⟨z,v,e0,e,AR.sub _ _ hs (Ext.refl _) a v r⟩
  len:=W.len
  nd:=W.nd
  fr:=fun b hb=>⟨(hL b (.tail _ hb)).1,(W.fr b hb).2⟩
  own:=fun i o a h1 h2=>OAt.sub _ _ hs (Ext.refl _) ((hL a (.tail _ (Kj h2))).2.1) o (W.own i o a h1 h2)
  stk:=ARs.sub _ _ hs (Ext.refl _) _ _ W.stk
  cel:=W.cel
  apart:=fun b hb=>⟨(W.apart b hb).1,fun q hq=>by
   refine Or.elim (ZL hq) (fun hq=>?_) fun hq=>?_
   ·refine oze (hr _ (Zj hq).1) fun o ho=>?_;exact (W.apart b hb).2 (q.1,o) ho
   ·exact (hL b hb).2.2 q hq⟩
  pin:=fun q hq=>by
   refine Or.elim (ZL hq) (fun hq=>?_) fun hq=>?_
   ·exact W.pin q (Kg _ hq)
   ·have:q∈F''.pin:=hq;rw [hp] at this;cases this}
theorem ZdA {e:Expr}{ypos:Pos}(h:EJ c e st fun st1=>∃y ys',ys=y::ys'∧st1.stk=[.d y]∧Q ys' ⟨st1.loc,st1.own,[]⟩) (hco:c.env.scope.isCoroutine=false):YJ c A wr pn g₁ (exec (.Expr (.Yield (some e) ypos) pos) c.env) ys st Q:=fun Fo s code fs K H gd lv h1 h2 h3 h4 P hK=>by
 have hi:interactive c.env=false:=by unfold interactive;rw [c.hk];rfl
 rw [exec_Expr c.env _ pos hi rfl];show YRun c.G A ys Fo code (.at pos fun j=>((eval e c.env >>= fun v=>(standAt ypos >>= fun j=>yieldOut c.env v)) >>= fun x=>dropValue (.Yield (some e) ypos) pos x).wrap K H gd lv) fs s;have hy:∀v,yieldOut c.env v=yieldValue v:=fun v=>by simp only [yieldOut,hco,Bool.false_eq_true,if_false]
 simp only [hy];refine ZnO h1 ?_;rw [Sem.bind_eq_wrap',Sem.bind_eq_wrap',Sem.wrap_wrap,Sem.wrap_wrap];refine U3 h1 (wpm (h _ [] s P.R) (fun v s1 zq5=>?_));refine Ka fun zn6=>?_;obtain ⟨st1,R1,y,ys',e1,hstk,hQ⟩:=zq5;refine zn6 ?_;subst e1;have hk:=We R1;refine ozr R1 fun g ρ m W=>?_;have hst:=W.stk;rw [hstk] at hst;have hv:VR c.G.p c.G.w g y v:=Zd hst;have hr:∀b∈wr,∃o,(b,o)∈(FI Fo s.heap wr pn).hid:=fun b hb=>by refine oze (P.th b hb) fun o e=>?_;exact ⟨o,Kg _ (ZX hb e)⟩
 refine ZnO h1 (Zlb (g₁:=g) (W:=(c.env.locals::ρ)++wr) h2 h4 h3 ⟨W.base,W.g0,W.keep,W.reg,fun q hq=>W.hid q (Kf _ hq),W.gens,W.bare,W.os⟩ hv (fun b hb=>?_) fun F'' s'' g'' X=>?_)
 ·refine Or.elim (ZL hb) (fun hb=>?_) fun hb=>?_
  ·exact ⟨W.there b hb,W.nomut b (ZD hb),(W.apart b hb).1,fun q hq=>(W.apart b hb).2 q (Kf _ hq)⟩
  ·refine Ka fun zn8=>?_;refine oze (hr b hb) fun o ho=>?_;refine Yz (W.hid _ ho) fun a1 a2 a3=>?_;refine zn8 ?_;exact ⟨⟨o,a1⟩,a2,a3,fun q hq z=>P.hd q hq (z▸hb)⟩
 ·refine Ka fun zn9=>?_;refine UT X fun H2 hs hp hW=>?_;refine zn9 ?_;refine YRun.weak H2.g0 (hK {F'' with g₀:=g''} s'' ys' ⟨st1.loc,st1.own,[]⟩ ⟨(P.g0.trans W.g0).trans hs,fun q hq z=>(hW _ (Kf _ z)).2.2 q hq rfl,fun b hb=>?_,g'',ρ,m,((W.stack (k:=[]) (us:=[]) rfl).later P.th X)⟩ (fun b hb o e=>?_) hQ)
  ·refine oze (P.th b hb) fun o e=>?_;exact ⟨o,(hW _ (Kf _ hb)).2.1 o (hk b hb o e)⟩
  ·exact (hW _ (Kf _ hb)).2.1 o (hk b hb o e)
end
end
section
noncomputable def ZeD (c:Cx) (A₁:Around) (tgt:Expr) (body:Qr) (ok:Qf):Qh→St→List D→(Qi→St→Prop)→Prop
 | [],st,ys,Q=>ok st∧Q ys st
 | x::xs,st,ys,Q=>ok st∧AsJ c tgt ⟨st.loc,st.own,x::st.stk⟩ fun st1=>∀wr pn g₁,YJ c A₁ wr pn g₁ (execs body c.env) ys st1 fun ys2 st2=>ZeD c A₁ tgt body ok xs st2 ys2 Q
section
variable {A₁:Around}{Q:Qi→St→Prop}
theorem Zgf {g₀:Heap}{ok:Qf}(KF:Feed c.G need tgt it wr fp g₁ pn xs ok Si) (hneed:need≤c.fuel) (hgg:Sub g₀ g₁)
 {code:Code} {fs:List Frame} {kk:Result→Sem Fin} {lv:Qo} {p:Pos} (hI:Ins A₁ c.A (.forLoop tgt (.ref it) body [] c.env) (.ret kk none false lv code p []::fs)) (hn:splitAtGen fs=none) (hgu:fs.any Frame.guarded=false)
 (hK:∀Fo' s' ys' st',YPre c [] [] g₀ Fo' s' st'→Q ys' st'→YRun c.G A₁ ys' Fo' code (kk (.ok .next)) fs s') :
 ∀(k i:Nat),xs.length - i=k→i≤xs.length→∀Fo s ys st,YPre c wr pn g₁ Fo s st→Si i s.heap→ZeD c A₁ tgt body ok (xs.drop i) st ys Q →
  YRun c.G A₁ ys Fo (.forLoop tgt (.ref it) body [] c.env) ((model c.G.p c.G.w).den (.forLoop tgt (.ref it) body [] c.env)) (.ret kk none false lv code p []::fs) s:=by
 intro k;induction k with
 | zero =>
  intro i hk hi Fo s ys st P hSi hL;obtain rfl:i=xs.length:=by exact nH (by assumption) (by assumption)
  rw [List.drop_length] at hL;refine oza hL fun hok hq=>?_;show YRun c.G A₁ ys Fo _ ((forTurn tgt (.ref it) body [] c.env).onRaise (fun x=>do noteFrame x c.env;theTreesLotGoes x)) _ s;rw [Sem.onRaise_eq_wrap];unfold forTurn;refine YB hI (Rq (YB hI (wpAny_onRaise (Kb (KF.done c {Fo with pin:=pn++Fo.pin} Fo.hid st [] s rfl hneed hSi hok P.g0 (fun q hq=>Kg _ hq) P.hd P.R) (fun r s1 zq0=>?_) fun j j x=>x.elim))));refine oza zq0 fun hr R1=>?_;subst hr;have R2:RS c Fo st [] s1:=by refine ozr R1 fun g ρ m W=>?_;exact ⟨g,ρ,m,RSW.unpin (F:=Fo) W⟩
  refine Zfq rfl ?_;exact Znm (.ok .next) (hK Fo s1 ys st ⟨hgg.trans P.g0,fun j j h=>(nomatch h),fun j h=>(nomatch h),R2⟩ hq)
 | succ k ih =>
  intro i hk hi Fo s ys st P hSi hL;have hlt:i<xs.length:=by exact Nat.lt_of_sub_eq_succ (by assumption)
  rw [List.drop_eq_getElem_cons hlt] at hL;refine oza hL fun hok hL=>?_;show YRun c.G A₁ ys Fo _ ((forTurn tgt (.ref it) body [] c.env).onRaise (fun x=>do noteFrame x c.env;theTreesLotGoes x)) _ s;rw [Sem.onRaise_eq_wrap];refine YB hI (Rq (YB hI (wpAny_onRaise (Kb (KF.item c {Fo with pin:=pn++Fo.pin} Fo.hid i _ st [] s rfl hneed (Ke hlt) hSi hok P.g0 (fun q hq=>Kg _ hq) P.hd P.R) (fun r s1 zw=>Za zw fun v hr h1=>?_) fun j j x=>x.elim))));subst hr;refine YB hI (wpm h1 (fun j s2 zq2=>?_));refine oza zq2 fun hSi2 R2=>?_;refine YB hI (wpm (hL _ v [] s2 R2) (fun j s3 zq3=>?_));obtain ⟨st3,R3,hB⟩:=zq3;have k3:=We (Fo:=Fo) (wr:=wr) (pn:=pn) R3;have t2:=KF.th _ _ hSi2;have b2:Sub g₁ s2.heap:=P.g0.trans R2.g0K;have b3:Sub g₁ s3.heap:=P.g0.trans R3.g0K;have hSi3:Si (i+1) s3.heap:=KF.frame _ _ _ hSi2 fun b hb o e=>by
   rcases KF.fpx b hb with hb | ⟨o',e'⟩
   ·exact k3 b hb o e
   ·have:=b2 _ _ e';rw [e] at this;cases this;exact b3 _ _ e'
  rw [Sem.bind_eq_wrap',Sem.wrap_wrap];refine hB wr pn g₁ Fo s3 _ _ _ _ _ _ hI (by simp [splitAtGen,hn]) (by simp only [List.any_cons,Frame.guarded,hgu,Bool.or_false]) rfl ⟨P.g0,P.hd,fun b hb=>by refine oze (t2 b hb) fun o e=>?_;exact ⟨o,k3 b hb o e⟩,(RS.reFI (Fo:=Fo) t2 P.hd R3)⟩ fun Fo' s' ys' st' P' hk' hL'=>?_;refine Zfq rfl (ih (i+1) (by exact nE (by assumption)) hlt Fo' s' ys' st' P' ?_ hL');exact KF.frame _ _ _ hSi3 fun b hb o e=>by
   rcases KF.fpx b hb with hb | ⟨o',e'⟩
   ·exact hk' b hb o e
   ·have:=b3 _ _ e';rw [e] at this;cases this;exact (P'.g0.trans P'.R.g0K) _ _ e'
theorem ZnW {g₀:Heap}(h:IEJ c tgt iter st fun ok xs st2=>ZeD c A₁ tgt body ok xs st2 ys Q)
 (hs:∀x,foldedSetIterable iter c.env x=pure x):YJ c A₁ [] [] g₀ (exec (.For tgt iter body [] pos) c.env) ys st Q:=fun Fo s code fs K H gd lv h1 h2 h3 h4 P hK=>by
 rw [exec_For];refine YB h1 (Rq (YB h1 (wpm (h _ [] s P.R) (fun v s1 h5=>?_))));refine YB h1 (wpAny_of_eq (hs v) ?_);refine YB h1 (Rq (YB h1 (Rs (wpm h5 (fun itv s2 h6=>?_)))));obtain ⟨it,need,wr,fp,g₁,pn,xs,ok,Si,st2,rfl,hneed,KF,hS0,hg,hd,R2,hL⟩:=h6;refine Znn fun p=>?_;rw [h4];have hgg:Sub g₀ g₁:=P.g0.trans hg;refine YRun.weak hg (Zgf (g₁:=g₁) KF hneed hgg (h1.push rfl rfl h2) h2 h3 (fun Fo' s' ys' st' P' hq=>?_) xs.length 0 (Nat.sub_zero _) (Q4 _) {Fo with g₀:=g₁} s2 ys st2 ⟨Sub.refl _,hd,KF.th _ _ hS0,R2⟩ hS0 hL);exact hK Fo' s' ys' st' P' (fun j h=>nomatch h) hq
end
end
section
inductive GPost (G:Gx) (A:Around) (F:Fz) (g:Heap) (ys:Qi) (v:Value) (s':Shared):Prop
 | mk (a:Addr) (gi:Nat) (L:Qp) (g':Heap) (code:Code) (e:v = .ref a) (H:HS G F s' g') (hs:Sub g g') (hgen:g'.IsGen a gi) (hgi:F.gens[gi]?=none) (hgs:s'.gens[gi]?=some (.fresh code))
  (l1:∀b∈L,(∃o,s'.heap.get? b=some o)∧g'.get? b=none∧(∀r∈G.reg,b≠r.at_)∧∀q∈F.hid,b≠q.1)
  (r:∀F'' s'' g'',Zao G L s'.heap g' F'' s'' g''→YRun G A.in1 ys F'' code ((model G.p G.w).den code) [] s'')
def ZkX (G:Gx) (f:Value) (need:Nat) (args ys:Qi):Prop :=
 ∀(A:Around) (F:Fz) (us:Qo) (s:Shared) (g:Heap),A.handled=none→A.depth+need<recursionLimit→A.units+8*need+40≤cLine→HS G F s g→VRs G.p G.w g args us →
  wpAny (model G.p G.w) A (call f us) (GPost G A F g ys) NoE s
structure DefG (G:Gx) (f:Addr) (scope:Scope) (qual:Str) (cd:Value) (body:Qr) (n:Nat) (names:Qq):Prop where
 kind:scope.kind = .function
 co:scope.isCoroutine=false
 gen:scope.isGenerator=true
 nocell:Zi scope.names=[]
 tnd:(Zg scope).Nodup
 ndn:names.Nodup
 par:∀x∈names,scope.names.lookup x=some .local
 at_:∀h,G.lib.B h→DefGot G.lib.B h f scope qual cd body n names
 le:n≤names.length
theorem ZnS {K:Params→W.Frag}{w:World}(I:IsK K G w){f:Addr}{n:Nat}(hf:isFn (K w.params) f=true) (hb:(Zm (K w.params) f).body = .stmts (stm (Zm (K w.params) f).body)) (hcode:W.codeIn (K w.params) (Zm (K w.params) f).code (Zm (K w.params) f).qualname=true)
 (hk:(Zm (K w.params) f).scope.kind = .function) (hco:(Zm (K w.params) f).scope.isCoroutine=false) (hgen:(Zm (K w.params) f).scope.isGenerator=true) (hs:Zaa (Zm (K w.params) f).scope names=true) (hnc:Zi (Zm (K w.params) f).scope.names=[])
 (hgl:(Zm (K w.params) f).globals=mainGlobals) (hbu:(Zm (K w.params) f).builtins=builtinsNs) (hclo:(Zm (K w.params) f).closure=[]) (le:n≤names.length)
 (hbind:∀us:Qo,us.length=n→∀S,W.peek (K w.params) S (bindArgs (Zm (K w.params) f) ⟨us,[]⟩)=some (names.zip (us++List.replicate (names.length - n) Value.none))) :
 DefG G f (Zm (K w.params) f).scope ((Zm (K w.params) f).qualname++".<locals>.") (Zm (K w.params) f).code (stm (Zm (K w.params) f).body) n names:=by
 unfold Zaa at hs;simp only [Qz,decide_eq_true_eq,List.all_eq_true,Bool.or_eq_true,Q7,List.contains_iff_mem] at hs;refine Ka fun zn0=>?_;refine oza hs fun zo4 s5=>?_;refine oza zo4 fun zo3 s4=>?_;refine oza zo3 fun zo2 s3=>?_;obtain ⟨s1,s2⟩:=zo2;refine zn0 ?_
 exact {kind:=hk,co:=hco,gen:=hgen,nocell:=hnc,tnd:=s2,ndn:=s3,le:=le
        par:=fun x hx=>(s4 x hx).elim id fun h=>by rw [hnc] at h;exact nomatch h.2
        at_:=fun h hB=>by
         refine Ka fun zn1=>?_;obtain ⟨X,j,j,mg,mb,T⟩:=I.B h hB;refine Za (ZeX X hf) fun ob h1 h2=>?_;refine zn1 ?_;exact ⟨ob,_,h1,h2,W.codeRec_of X hcode,hb,rfl,hgl,hbu,hclo,rfl,rfl,fun us hu s hs=>W.kp_binds (I.B _ hs).1 (hbind us hu)⟩}
def ZnA (c:Cx) (st:St):Prop:=∀F s,RS c F st [] s→∃g,HS c.G F s g∧c.G.fin g
theorem YJ.mono {A:Around}{t:Sem Flow}{Q Q':Qi→St→Prop}(h:YJ c A wr pn g₁ t ys st Q) (q:∀ys st,Q ys st→Q' ys st):YJ c A wr pn g₁ t ys st Q' :=
 fun Fo s code fs K H gd lv h1 h2 h3 h4 P hK=>h Fo s code fs K H gd lv h1 h2 h3 h4 P fun Fo' s' ys' st' P' hk hq=>hK Fo' s' ys' st' P' hk (q _ _ hq)
theorem ZmY {A:Around}{s:Shared}{g₀:Heap}(hI:Ins A c.A (.func body c.env) []) (hg:Sub g₀ F.g₀) (R:RS c F st [] s) (h:YJ c A [] [] g₀ (execs body c.env) ys st fun ys' st'=>ys'=[]∧ZnA c st'):
 YRun c.G A ys F (.func body c.env) ((model c.G.p c.G.w).den (.func body c.env)) [] s:=by
 show YRun c.G A ys F _ (.point [] fun j=>((execs body c.env).onRaise (leaving c.env)) >>= _) [] s;refine Zjv hI ?_;rw [Sem.onRaise_eq_wrap,Sem.bind_eq_wrap',Sem.wrap_wrap];refine h F s _ [] _ _ _ _ hI rfl rfl rfl ⟨hg,fun j j h=>(nomatch h),fun j h=>(nomatch h),R⟩ fun Fo' s' ys' st' P j hq=>?_;refine oza hq fun hq hf=>?_;subst hq;refine Za (hf _ _ P.R) fun g W hf=>?_;exact Zoy (F:=Fo') (g:=g) ⟨W.base,W.g0,W.keep,W.reg,W.hid,W.gens,W.bare,W.os⟩ hf
end
section
def Zkf (G:Gx) (A:Around) (ys:Qi) (F:Fz) (gs:GenState) (s:Shared):Prop:=match gs with
 | .fresh c=>YRun G A ys F c ((model G.p G.w).den c) [] s
 | .suspended k _ c _ fs _=>YRun G A ys F c (k (.send .none)) fs s
 | _=>False
section
variable {A:Around}{s:Shared}
theorem YEnd.quiet {e:End}(h:YEnd G A ys F e s'):e.quiet=true:=by
 induction ys using LLc with
 | nil=>rw [h.1];rfl
 | cons y ys=>induction h;assumption
theorem Zl8 {g:Nat}{gs:GenState}{l:Qo}{α:Type}{k:GenResult→Sem α}{Q:α→Shared→Prop}(hg:s.gens[g]?=some gs) (hgo:Zkf G A ys F gs (s.setGen g .running))
 (hR:∀e s₁,YEnd G A ys F e s₁→wpAny (model G.p G.w) A (k e.result) Q E (s₁.setGen g e.genState)):wpAny (model G.p G.w) A (.resume g (.send .none) l k) Q E s:=by
 intro Γ p hΓ;rw [Sem.wp_resume];have hB:∀c,(Γ.wake c p).Woken A:=fun c=>hΓ.wake c p;induction gs with
 | fresh c =>
  refine Ka fun zn0=>?_;refine ZE (hgo (Γ.wake c p) p rfl (hB c)) fun e₁ s₁ hr he=>?_;refine zn0 ?_;exact ⟨_,_,by unfold Wakes;rw [hg];exact ⟨e₁,s₁,hr,he.quiet,rfl,rfl⟩,hR e₁ s₁ he Γ p hΓ⟩
 | suspended k₀ l₀ c₀ p₀ fs₀ cl =>
  refine ZE (hgo (Γ.wake c₀ p) p₀ rfl (hB c₀)) fun e₁ s₁ hr he=>?_;exact ⟨_,_,by unfold Wakes;rw [hg];exact ⟨e₁,s₁,hr,he.quiet,rfl,rfl⟩,hR e₁ s₁ he Γ p hΓ⟩
 | running=>exact hgo.elim
 | finished=>exact hgo.elim
theorem ZnN {a:Addr}{g:Nat}{gs:GenState}{Q:Option Value→Shared→Prop}(hh:A.handled=none) (hl:s.heap.NoLimit) (hroom:A.depth<recursionLimit) (hg:s.heap.IsGen a g) (hgs:s.gens[g]?=some gs) (hgo:Zkf G A.in1 ys F gs (s.setGen g .running))
 (hY:∀v gd l k c p fs s₁,YEnd G A.in1 ys F (.susp v gd l k c p fs) s₁→Q (some v) (s₁.setGen g (End.susp v gd l k c p fs).genState))
 (hP:∀s₁,YEnd G A.in1 ys F (.ret (.ok (.ret .none))) s₁→∀h',(∀b o,s₁.heap.get? b=some o→h'.get? b=some o)→Q none {s₁.setGen g .finished with heap:=h'}) :
 wpAny (model G.p G.w) A (pyNext (.ref a)) Q E s:=by
 refine Kd (wpAny_attempt (wpAny_callSpecial?_slot (name:=Str.ofString "__next__") hg.typeIs slot_gen_next
  (wpAny_call_entry slot_gen_next hg.typeIs entry_gen_next ?_ (args_gen_next _))))
 show wpAny _ A.in1 (Builtin.Generator.genWake (.ref a) (.send .none)) _ _ s;refine Kd (Rs (wpAny_genNumber hg (Kd (wpAny_genState hgs ?_))));induction gs with
 | running=>exact hgo.elim
 | finished=>exact hgo.elim
 | _ =>
  refine Kd (wpAny_roomToWake hl hroom ?_);refine Zl8 hgs hgo (fun e s₁ he=>?_);induction ys using LLc with
  | nil =>
   refine oza (id he) fun zo1 j=>?_;subst zo1;show wpAny _ A.in1 (newExc (.type "StopIteration") [] >>= _) _ _ _;refine Kd ?_;dsimp only [newExc,newTuple];refine Kd (wpAny_newObj_type ?_ (by size_fits));refine Kd (m:=firstArgMember _ _) (wpAny_of_eq (a:=Value.none) (by first | rfl | (simp only [firstArgMember];rfl)) ?_);refine wpAny_newObj_type ?_ (by size_fits);dsimp only [raiseNew];refine Kd (Kd (wpAny_handled ?_))
   first | rw [show A.in1.handled=none from hh] | rw [hh]
   refine wpAny_throw ?_;refine Kd (wpAny_isInstance (T:="StopIteration") (b:=true) ⟨_,Kh _ rfl,rfl⟩ isSubtype_stop ?_);exact Ki (hP s₁ he _ fun b o hb=>Kn _ (Kn _ hb))
  | cons y ys =>
   obtain ⟨v,gd,l,k,c,p,fs,rfl,j⟩:=id he;exact Ki ⟨v,rfl,Ki (hY v gd l k c p fs s₁ he)⟩
end
structure GenSi (G:Gx) (A:Around) (it:Addr) (gi:Nat) (ys:Qi) (i:Nat) (wr:Qp) (gk h:Heap) (gs:Array GenState):Prop where
 gen:gk.IsGen it gi
 ap:∀b∈wr,(∃o,h.get? b=some o)∧∀r∈G.reg,b≠r.at_
 go:∃g₀ gst,Sub g₀ gk∧gs[gi]?=some gst∧∀F'' s'' g'',Zao G wr h g₀ F'' s'' g''→Zkf G A (ys.drop i) F'' gst s''
theorem ZaE {s:Shared}{g:Nat}{x:GenState}(h:i≠g):(s.setGen g x).gens[i]?=s.gens[i]?:=by
 show (s.gens.setIfInBounds g x)[i]?=_;rw [Array.getElem?_setIfInBounds_ne (Ne.symm h)]
theorem ZaN {s:Shared}{g:Nat}{x:GenState}(h:AllBare s.gens) (hx:x.bare=true):AllBare (s.setGen g x).gens:=fun y hy=>by
 obtain ⟨k,hk,ek⟩:=Array.getElem_of_mem hy;have e1:(s.setGen g x).gens[k]?=some y:=by rw [Rx hk,ek]
 by_cases hk':k=g
 ·subst hk';have:(s.gens.setIfInBounds k x)[k]?=some y:=e1;rw [Array.getElem?_setIfInBounds_self] at this;split at this
  ·obtain rfl:=Kc this;exact hx
  ·exact Zp this
 ·rw [ZaE hk'] at e1;exact h y (Array.mem_of_getElem? e1)
section
variable {s:Shared}
theorem ZcS {gi:Nat}{m:Qk}{g₀:Heap}(W:RSW c {F with hid:=Zo s.heap wr++hs} st vs s g ρ m)
 (hth:∀b∈wr,(∃o,s.heap.get? b=some o)∧∀r∈c.G.reg,b≠r.at_) (hd:∀q∈hs,q.1∉wr) (hg:Sub g₀ F.g₀) :
 Zao c.G wr s.heap g₀ ⟨g,hs++Zo s.heap (c.env.locals::ρ),(s.setGen gi .running).gens,F.os,[]⟩ (s.setGen gi .running) g:=by
 have hr:∀b∈wr,∃o,(b,o)∈Zo s.heap wr++hs:=fun b hb=>by refine oza (hth b hb) fun zo2 j=>?_;refine oze zo2 fun o e=>?_;exact ⟨o,Kg _ (ZX hb e)⟩
 refine ⟨⟨W.base,Sub.refl _,W.keep,W.reg,fun q hq=>?_,fun j j e=>e,ZaN W.bare rfl,W.os⟩,hg.trans W.g0,rfl,fun b hb=>?_⟩
 ·rcases ZL hq with hq | hq
  ·exact W.hid q (Kf _ hq)
  ·refine oza (Zj hq) fun h1 h2=>?_;exact ⟨h2,W.nomut _ (ZD h1),(W.apart _ h1).1⟩
 ·refine Ka fun zn6=>?_;refine oze (hr b hb) fun o ho=>?_;refine Yz (W.hid _ ho) fun a1 a2 a3=>?_;refine zn6 ?_;refine ⟨a2,fun o e=>e,fun q hq=>?_⟩;refine Or.elim (ZL hq) (fun hq=>?_) fun hq=>?_
  ·exact fun z=>hd q hq (z▸hb)
  ·exact fun z=>(W.apart _ (Zj hq).1).2 _ ho z.symm
theorem ZeR {gi:Nat}{m:Qk}{s₁ s₂:Shared}{wr':Qp}{gs':GenState}(W:RSW c {F with hid:=Zo s.heap wr++hs} st vs s g ρ m) (hgi:F.gens[gi]?=none)
 (H:HS c.G ⟨g,hs++Zo s.heap (c.env.locals::ρ),(s.setGen gi .running).gens,F.os,[]⟩ s₁ g₁) (hW:∀b∈wr',(∃o,s₁.heap.get? b=some o)∧g₁.get? b=none∧(∀r∈c.G.reg,b≠r.at_)∧∀q∈hs++Zo s.heap (c.env.locals::ρ),b≠q.1) (hb:gs'.bare=true)
 {h':Heap} (hk:Sub s₁.heap h') (hh:s₂={s₁.setGen gi gs' with heap:=h'}) :
 RSW c {F with g₀:=g₁,hid:=Zo s₂.heap wr'++hs} st vs s₂ g₁ ρ m:=by
 subst hh;have hx:Sub g g₁:=H.g0;have hL:∀b∈c.env.locals::ρ,g₁.get? b=none∧∀o,s.heap.get? b=some o→h'.get? b=some o:=fun b hb=>by
  refine oze (W.there b hb) fun o e=>?_;refine Yz (H.hid (b,o) (Kf _ (ZX hb e))) fun h1 h2 j=>?_;exact ⟨h2,fun o' e'=>by rw [e] at e';obtain rfl:=Kc e';exact hk _ _ h1⟩
 exact {
  base:=H.base,g0:=Sub.refl _,keep:=H.keep.trans hk,reg:=fun r hr=>by refine YK (H.reg r hr) fun a o b d=>?_;exact ⟨a,o,hk _ _ b,d⟩
  hid:=fun q hq=>by
   rcases ZL hq with hq | hq
   ·refine oza (Zj hq) fun h1 h2=>?_;refine UT (hW _ h1) fun j a2 a3 j=>?_;exact ⟨h2,a2,a3⟩
   ·refine oza (H.hid q (Kg _ hq)) fun h1 h2=>?_;exact ⟨hk _ _ h1,h2⟩
  gens:=fun i y e=>by
   have hne:i≠gi:=fun z=>by rw [z] at e;rw [show ({F with g₀:=g₁,hid:=Zo h' wr'++hs}:Fz).gens=F.gens from rfl,hgi] at e;exact Zp e
   rw [ZaE hne];refine H.gens i y ?_;rw [ZaE hne];exact W.gens i y e
  bare:=ZaN H.bare hb
  os:=H.os
  ns:=by refine ZS W.ns fun o es ep h r=>?_;exact ⟨o,es,ep,(hL _ (.head _)).2 _ h,r⟩
  nl:=(hL _ (.head _)).1
  loc:=fun y a h=>by refine Zc (W.loc y a h) fun z v e0 e r=>?_;exact ⟨z,v,e0,e,AR.sub _ _ hx (Ext.refl _) a v r⟩
  len:=W.len
  nd:=W.nd
  fr:=fun b hb=>⟨(hL b (.tail _ hb)).1,(W.fr b hb).2⟩
  own:=fun i o a h1 h2=>OAt.sub _ _ hx (Ext.refl _) ((hL a (.tail _ (Kj h2))).2) o (W.own i o a h1 h2)
  stk:=ARs.sub _ _ hx (Ext.refl _) _ _ W.stk
  cel:=W.cel
  apart:=fun b hb=>⟨(W.apart b hb).1,fun q hq=>by
   refine Or.elim (ZL hq) (fun hq=>?_) fun hq=>?_
   ·refine oze (W.there b hb) fun o e=>?_;refine UT (hW _ (Zj hq).1) fun j j j a4=>?_;exact fun z=>a4 (b,o) (Kf _ (ZX hb e)) z.symm
   ·exact (W.apart b hb).2 q (Kf _ hq)⟩
  pin:=W.pin}
theorem GFeed.gen {A:Around}{gi:Nat}(hA:A.handled=none) (hroom:A.depth<recursionLimit) (ht:∀it v,letOwnedTupleGo tgt it v=pure ()):GFeed G A need tgt it (some gi) G.fin [] (ys.map .d) (fun j=>True) (GenSi G A.in1 it gi ys) where
 th:=fun S b hb=>(S.ap b hb).1
 frame:=fun S hk j j hg=>⟨S.gen,fun b hb=>⟨(S.ap b hb).1.elim fun o e=>⟨o,hk b hb o e⟩,(S.ap b hb).2⟩,by
  refine Zc S.go fun g₀ gst h3 h4 h5=>?_;exact ⟨g₀,gst,h3,hg _ _ h4,fun F s g X=>h5 F s g ⟨X.1,X.2.1,X.2.2.1,fun b hb=>⟨(X.2.2.2 b hb).1,fun o e=>(X.2.2.2 b hb).2.1 o (hk b hb o e),(X.2.2.2 b hb).2.2⟩⟩⟩⟩
 mono:=fun S x=>⟨S.gen.keeps x,S.ap,by
  refine ZE S.go fun g₀ gst h3 h4=>?_;exact ⟨g₀,gst,h3.trans x,h4⟩⟩
 self:=fun A i wr gk s Q E j S hs hq=>wpAny_pyIter_gen (S.gen.keeps hs) hq
 item:=fun c F hs i wr a st vs s e eA hn ha S j j hd hgi R=>by
  obtain ⟨h1,h2,g₀,gst,h3,h4,h5⟩:=S;refine ozr R fun g ρ m W=>?_;subst e eA;have hi:i<ys.length:=by have:=(ZB ha).1;simpa using this
  have ea:a = .d ys[i]:=by rw [Ru,Ke hi] at ha;exact (Kc ha).symm
  subst ea;have hgo:=h5 _ _ _ (ZcS (gi:=gi) W h2 hd h3);rw [List.drop_eq_getElem_cons hi] at hgo;have hgen:s.heap.IsGen it gi:=h1.keeps fun b o e=>W.keep b o (W.g0 b o e);refine ZnN (c.hh) (c.G.lib.nolimit _ (c.G.lib.mono _ _ W.keep W.base)) hroom hgen h4 hgo (fun v gd l k cd p fs s₁ he=>?_) (fun s₁ he=>?_)
  ·obtain ⟨v',gd',l',k',c',p',fs',e1,hq,g₁,wr',H,hv,hW,hc⟩:=he;cases e1;refine ⟨v,rfl,wpAny_of_eq (ht _ _) ⟨wr',g₁,W.g0.trans H.g0,⟨h1.keeps (W.g0.trans H.g0),fun b hb=>⟨(hW b hb).1,(hW b hb).2.2.1⟩,g₁,(End.susp v gd l k cd p fs).genState,Sub.refl _,?_,fun F'' s'' g'' X=>?_⟩,fun q hq z=>?_,g₁,ρ,m,(ZeR (s₂:=s₁.setGen gi (End.susp v gd l k cd p fs).genState) W (hgi _ rfl) H hW (End.bare_of_quiet hq) (Sub.refl _) rfl).push hv⟩⟩
   ·show (s₁.gens.setIfInBounds gi _)[gi]?=_;have hlt:gi<s₁.gens.size:=by
     have:=H.gens gi .running (setGen_self h4);exact (Array.getElem?_eq_some_iff.mp this).1
    rw [Array.getElem?_setIfInBounds_self_of_lt hlt]
   ·exact fun Γ p' hcd hΓ=>hc F'' s'' g'' X Γ p' hcd hΓ
   ·refine Ka fun zn15=>?_;refine Ka fun zn15=>?_;refine UT (hW _ z) fun j j j a4=>?_;refine zn15 ?_;refine zn15 ?_;exact a4 q (Kg _ hq) rfl
  ·refine Ka fun zn16=>?_;refine Ka fun zn16=>?_;obtain ⟨j,j,j,j,j,j,j,e1,j⟩:=he;refine zn16 ?_;refine zn16 ?_;cases e1
 done:=fun c F hs wr st vs s e eA hn S j j hd hgi R=>by
  obtain ⟨h1,h2,g₀,gst,h3,h4,h5⟩:=S;refine ozr R fun g ρ m W=>?_;subst e eA;have hgo:=h5 _ _ _ (ZcS (gi:=gi) W h2 hd h3);rw [Qw,List.drop_length] at hgo;have hgen:s.heap.IsGen it gi:=h1.keeps fun b o e=>W.keep b o (W.g0 b o e);refine ZnN (c.hh) (c.G.lib.nolimit _ (c.G.lib.mono _ _ W.keep W.base)) hroom hgen h4 hgo (fun v gd l k cd p fs s₁ he=>?_) (fun s₁ he h' hk=>?_)
  ·refine oza he fun e1 j=>?_;cases e1
  ·refine ZsP he fun j g₁ H=>?_;exact ⟨rfl,g₁,W.g0.trans H.1.g0,H.2,g₁,ρ,m,ZeR (wr':=[]) (gs':=.finished) W (hgi _ rfl) H.1 (fun j h=>nomatch h) rfl hk rfl⟩
end
end
section
section
variable {s:Shared}{P:Qf}
theorem Zf8 {f:Value}{first:Qo}{e:Expr}{r:Qs}{Qv:Qj}(R:RS c F st (first.reverse++f::vs) s) (h:GJ c (e::r) st P) (he:Zy (e::r)=true)
 (k:∀us st1 s1,us.length=first.length+(e::r).length→RS c F st1 (us.reverse++f::vs) s1→P st1→ZF c f s1.heap∧wpAny (model c.p c.w) c.A (call f us) Qv NoE s1) :
 wpAny (model c.p c.w) c.A (callWith pos f first (backTo pos (starEach (e::r) c.env)) []) Qv NoE s:=by
 refine W.callWith_of (P:=fun h=>ZF c f h) (by rw [(XA (pos:=pos) (env:=c.env) he).1];rfl) (fun h hk=>hk) ?_;have key:=h F (first.reverse++f::vs) s pos R
 have h':YM e=false:=by have:YM e=false∧Zy r=true:=by simpa [Zy] using he
                        exact this.1
 rw [ZT r _ h'] at key ⊢;refine evalArgs_plain (wpm key (fun us s1 zq0=>?_));refine Ka fun zn0=>?_;obtain ⟨hl,st1,R1,h1⟩:=zq0;refine zn0 ?_;have R2:RS c F st1 ((first++us).reverse++f::vs) s1:=by simpa using R1
 exact k (first++us) st1 s1 (by simp [hl]) R2 h1
inductive GenCall (c:Cx) (n:Nat) (QI:Qb) (st3:St):Prop
 | mk (f:Value) (need:Nat) (args ys:Qi) (st4:St) (S:ZkX c.G f need args ys) (hk:∀h,c.G.lib.B h→ZF c f h) (hn:need≤c.fuel) (hl:n=args.length) (e:st3=⟨st4.loc,st4.own,(args.map A.d).reverse++.d (.val f)::st4.stk⟩) (q:QI (fun _=>True) (ys.map .d) st4)
theorem Zlt {n:Nat}{f0:Value}{st3:St}{s3:Shared}(hu:us.length=n) (R3:RS c F st3 (us.reverse++f0::vs) s3) (h3:GenCall c n QI st3) (ht:∀it v,letOwnedTupleGo tgt it v=pure ()):
 ZF c f0 s3.heap∧wpAny (model c.p c.w) c.A (call f0 us) (fun v s1=>wpAny (model c.p c.w) c.A (pyIter v) (IGGot c F (fun u=>True) tgt vs QI) NoE s1) NoE s3:=by
 refine Ka fun zn1=>?_;obtain ⟨f,need,args,ys,st4,S,hk,hneed,hlen,rfl,hq⟩:=h3;refine ozr R3 fun g ρ m W=>?_;refine oza (ZA (xs:=args.map A.d) W.stk (by rw [Qw];exact hu.trans hlen)) fun q1 q2=>?_;refine zn1 ?_;have ef:f0=f:=Zd q2;rw [ef];have hd:=c.hd;have hun:=c.hu;refine ⟨hk _ (c.G.lib.mono _ _ W.keep W.base),?_⟩;refine wpm (S c.A _ us s3 g c.hh (nT hneed hd) (nK hneed hun) W.toCall (UG.mp q1)) (fun v s' P=>?_);obtain ⟨a,gi,L,g',code,rfl,H',hsub,hgen,hgi,hgs,l1,hrun⟩:=P;refine wpAny_pyIter_gen (hgen.keeps H'.keep) ?_;have hm:∀b∈L,b∉ZG c.G F (c.env.locals::ρ):=fun b hb z=>by
  refine UT (l1 b hb) fun u u l3 l4=>?_;rcases List.mem_append.mp z with z | z
  ·refine oze (W.there b z) fun o e=>?_;exact l4 (b,o) (Kf _ (ZX z e)) rfl
  refine Or.elim (List.mem_append.mp z) (fun z=>?_) fun z=>?_
  ·refine Za (Yh z) fun r hr e=>?_;exact l3 r hr e.symm
  ·refine Za (Yh z) fun q hq' e=>?_;exact l4 q (Kg _ hq') e.symm
 have W2:=(((W.back H').stack (ARs.sub _ _ hsub (Ext.refl _) _ _ (Zb q2))).at_g).hide (hs:=Zo s'.heap L) fun q hq'=>by
  refine oza (Zj hq') fun h1 h2=>?_;exact ⟨h2,(l1 _ h1).2.1,hm _ h1⟩
 refine ⟨a,need,some gi,[],_,_,_,L,g',st4,rfl,hneed,(GFeed.gen c.hh (by exact Ku (Ko _ _) (by assumption)) ht).mapZ fun u u=>trivial,⟨hgen,fun b hb'=>⟨(l1 b hb').1,(l1 b hb').2.2.1⟩,g',.fresh code,Sub.refl _,hgs,fun F'' s'' g'' X=>hrun F'' s'' g'' X⟩,W.g0.trans hsub,fun q hq' z=>?_,fun j e=>by obtain rfl:=Kc e;exact hgi,⟨g',ρ,m,W2⟩,hq⟩;exact (l1 _ z).2.2.2 q (Kg _ hq') rfl
theorem Zjj {px2:Pos}{jx n:Nat}{ds:Qi}(hx:IsL c' x jx) (hn:n<own.length) (hl:ds.length≤1000000) (q:∀l,Q ⟨l,own.set n (.list (ds.map .d)),[]⟩):CompJ c' (.Name x px) [] (.Name x px2) (fun j=>True) n (ds.map .d) ⟨[],own.set n (.list []),[]⟩ Q:=by
 have:=Zkh (c:=c') (tgt:=.Name x px) (ifs:=[]) (elt:=.Name x px2) (ok:=fun j=>True) (n:=n) (enc:=A.d) (f:=fun d:D=>some d) (own:=own) hn ds [] [] (Q:=Q) (by simpa using hl) (fun j j=>trivial)
  (fun d acc l j=>Z7 (ZK hx ⟨fun j=>Ze hx (by first | rfl | simp [Zs]) ⟨d,rfl,rfl,rfl⟩,fun h=>nomatch h⟩)) (fun l=>by simpa using q l)
 exact this
theorem Zf0 {t:Stmt}(key:SJ c t st fun fl st1=>fl = .next∧∃tail d,st1=⟨(i,.own st.own.length)::st.loc,st.own++tail,st.stk⟩∧Frz (st.own++tail) st.own.length (.own st.own.length) d∧QF .next ⟨(i,.d d)::st.loc,st.own,st.stk⟩):SJ c t st QF:=by
 refine fun F vs s R=>wpm (key F vs s R) (fun fl s1 h1=>?_);induction fl with
 | next =>
  obtain ⟨st1,R1,j,tail,d,rfl,hf,q⟩:=h1;have C:=Zky R (tail:=tail) hf;refine ⟨_,R1.conv (st':=⟨(i,.d d)::st.loc,st.own,st.stk⟩) ⟨C.len,C.le,C.own,fun x a' hx=>?_,C.stk.2⟩ R.bounds.1 R.bounds.2,q⟩;unfold Zs at hx;by_cases hxi:i=x
  ·subst hxi;rw [if_pos rfl] at hx;obtain rfl:=Kc hx;exact ⟨.own st.own.length,if_pos rfl,hf⟩
  ·rw [if_neg hxi] at hx;refine Za (C.loc x a' hx) fun a h1 h2=>?_;exact ⟨a,(if_neg hxi).trans h1,h2⟩
 | brk=>obtain ⟨j,j,h,j⟩:=h1;cases h
 | cont=>obtain ⟨j,j,h,j⟩:=h1;cases h
 | ret v=>obtain ⟨j,j,h,j⟩:=h1;cases h
end
end
section
section
variable {l:Qc}
theorem Zef (q:QM 1 ⟨l,o,.d (.dict es)::.d (.val (.builtin "dict.values"))::k⟩):MJ c "values" ⟨l,o,.d (.dict es)::k⟩ QM:=Wu PySem.F.plainAttrs_dict PySem.F.slot_dict_values PySem.F.type_dict_values ZcX q
theorem Zmx (q:QM 1 ⟨l,o,.d (.dict es)::.d (.val (.builtin "dict.items"))::k⟩):MJ c "items" ⟨l,o,.d (.dict es)::k⟩ QM:=Wu PySem.F.plainAttrs_dict PySem.F.slot_dict_items PySem.F.type_dict_items ZcX q
theorem Ze0 (q:Q ⟨l,o,.d (.view .values es)::k⟩):CJ c 1 ⟨l,o,.d (.dict es)::.d (.val (.builtin "dict.values"))::k⟩ Q:=fun F f us vs s hl zq0=>by
 obtain ⟨g,ρ,m,W⟩:=zq0;refine oza (ZA (xs:=[.d (.dict es)]) W.stk (by rw [hl];rfl)) fun q1 q2=>?_;have ef:f=_:=Zd q2;subst ef;obtain ⟨u,rfl,ad,kvs,e1,hns,hd,hv⟩:=Yp q1;subst e1;have hd':=Zz c.p c.w W.keep hd;refine ⟨Zl,YV PySem.F.slot_dict_values hd'.typeIs PySem.F.entry_dict_values (PySem.F.args_dict_values_1 _) (meets_dict_values (strKind c.p c.w) ad (by simpa using hns)) ⟨⟨kvs,hd'⟩,?_⟩⟩;refine Zt (W.allocD {cls:=.type "dict_values",data:=.fields #[.ref ad]} s.toks rfl) fun g' W' sb hg=>?_;exact ⟨_,⟨g',ρ,m,W'.stack (Zh (a:=.d (.view .values es)) ⟨_,ad,kvs,rfl,hns,⟨_,hg,rfl,rfl⟩,Zz _ _ sb hd,VRe.sub _ _ sb _ _ hv⟩ (ARs.sub _ _ sb (Ext.refl _) _ _ (Zb q2)))⟩,q⟩
theorem ZlU (q:Q ⟨l,o,.d (.view .items es)::k⟩):CJ c 1 ⟨l,o,.d (.dict es)::.d (.val (.builtin "dict.items"))::k⟩ Q:=fun F f us vs s hl zq1=>by
 obtain ⟨g,ρ,m,W⟩:=zq1;refine oza (ZA (xs:=[.d (.dict es)]) W.stk (by rw [hl];rfl)) fun q1 q2=>?_;have ef:f=_:=Zd q2;subst ef;obtain ⟨u,rfl,ad,kvs,e1,hns,hd,hv⟩:=Yp q1;subst e1;have hd':=Zz c.p c.w W.keep hd;refine ⟨Zl,YV PySem.F.slot_dict_items hd'.typeIs PySem.F.entry_dict_items (PySem.F.args_dict_items_1 _) (meets_dict_items (strKind c.p c.w) ad (by simpa using hns)) ⟨⟨kvs,hd'⟩,?_⟩⟩;refine Zt (W.allocD {cls:=.type "dict_items",data:=.fields #[.ref ad]} s.toks rfl) fun g' W' sb hg=>?_;exact ⟨_,⟨g',ρ,m,W'.stack (Zh (a:=.d (.view .items es)) ⟨_,ad,kvs,rfl,hns,⟨_,hg,rfl,rfl⟩,Zz _ _ sb hd,VRe.sub _ _ sb _ _ hv⟩ (ARs.sub _ _ sb (Ext.refl _) _ _ (Zb q2)))⟩,q⟩
theorem Zjc {es:Qe}(ho:o[i]?=some (.dict es ep)) (q:Q ⟨l,o,.view .items i::k⟩):CJ c 1 ⟨l,o,.own i::.d (.val (.builtin "dict.items"))::k⟩ Q:=fun F f us vs s hl zq2=>by
 obtain ⟨g,ρ,m,W⟩:=zq2;refine oza (ZA (xs:=[.own i]) W.stk (by rw [hl];rfl)) fun q1 q2=>?_;have ef:f=_:=Zd q2;subst ef;refine Zi8 (Yp q1) fun u zo1 ad ea e1=>?_;subst zo1;subst e1;refine Zt (W.own i _ ad ho ea) fun kvs n0 hd hx=>?_;refine ⟨Zl,YV PySem.F.slot_dict_items hd.dictOf.typeIs PySem.F.entry_dict_items (PySem.F.args_dict_items_1 _) (meets_dict_items (strKind c.p c.w) ad (by simpa using n0)) ⟨⟨kvs,hd.dictOf⟩,?_⟩⟩;refine Zt (W.allocD {cls:=.type "dict_items",data:=.fields #[.ref ad]} s.toks rfl) fun g' W' sb hg=>?_;exact ⟨_,⟨g',ρ,m,W'.stack (Zh (a:=.view .items i) ⟨ad,_,ea,rfl,⟨_,hg,rfl,rfl⟩⟩ (ARs.sub _ _ sb (Ext.refl _) _ _ (Zb q2)))⟩,q⟩
end
end
section
theorem Ziv {α:Type}{A₁:Around}{ok:Qf}{enc:α→A}{tell:α→List D}{L:Qc}{ow:Qg}{Q:Qi→St→Prop}(hok:∀l,ok ⟨l,ow,[]⟩) (xs:List α) (st:St)
 (step:∀x,x∈xs→∀ys',AsJ c tgt ⟨L,ow,[enc x]⟩ fun st1=>∀wr pn g₁,YJ c A₁ wr pn g₁ (execs body c.env) (tell x++ys') st1 fun ys2 st2=>ys2=ys'∧At L ow [] st2) (h:At L ow [] st)
 (fin:∀l,Le L l→Q [] ⟨l,ow,[]⟩):ZeD c A₁ tgt body ok (xs.map enc) st (xs.map tell).flatten Q:=by
 induction xs generalizing st with
 | nil =>
  obtain ⟨l,o',k'⟩:=st;refine Yz h fun h1 h2 h3=>?_;obtain rfl:o'=ow:=h2;obtain rfl:k'=[]:=h3;exact ⟨hok l,fin l h1⟩
 | cons x xs ih =>
  obtain ⟨l,o',k'⟩:=st;refine Yz h fun h1 h2 h3=>?_;obtain rfl:o'=ow:=h2;obtain rfl:k'=[]:=h3;refine ⟨hok l,Zhe (st:=⟨l,o',[enc x]⟩) (fun F v vs s R=>wpm (step x (.head _) (xs.map tell).flatten F v vs s R) (fun j s1 z=>?_)) h1⟩;refine ozg z fun st1 R1 h=>?_;refine ⟨st1,R1,fun wr pn g₁=>(h wr pn g₁).mono fun ys2 st2 hf=>?_⟩;rw [hf.1];exact ih st2 (fun y hy=>step y (.tail _ hy)) hf.2
end
section
section
variable {s:Shared}
noncomputable def Zec (kx vx:Expr) (env:Env) (D:Addr):Sem Unit:=do
 let kv ←eval kx env;let vv ←holding [kv] (eval vx env)
 standAt {kx.pos with endLine:=vx.pos.endLine,endCol:=vx.pos.endCol}
 holding [kv,vv] (dictSet D kv vv)
theorem ZsB {kx vx:Expr}:AccOK (.DictComp kx vx [⟨tgt,iter,ifs,0⟩] scope pos) tgt iter ifs newDict {cls:=.type "dict",data:=.dict #[]} (.dict [] 0) (Zec kx vx) where
 cl:=rfl
 nw:=fun p w A s Q E h=>wpAny_newObj_type h (by size_fits)
 at_:=fun p w g ρ h hs=>⟨[],Nat.ne_of_gt hs,Xw (Kh _ rfl),rfl⟩
 start:=fun p w A it acc env R s h1 h2=>codeAny_compStart_dict h1 (Kb h2 (fun j j x=>x) fun j j x=>x.elim)
 loop:=fun p w A it D env R I turn n s h=>by
  refine codeAny_loop rfl I (fun n s hI=>?_) n h;show wpAny _ A ((compTurn (.DictComp kx vx [⟨tgt,iter,ifs,0⟩] scope pos) 0 it (.ref D) env).onRaise (fun x=>do noteFrame x env;theTreesLotGoes x)) _ _ s;refine wpAny_noted ?_;rw [compTurn_dict];refine Kd (Rq (Kd (Kb (turn n s hI) (fun r s₁ h₁=>?_) fun j j h'=>h'.elim)));induction r with
  | none=>exact Ki h₁
  | some v =>
   refine Kd (Kb h₁ (fun j s₁' h₁'=>?_) fun j j h'=>h'.elim);refine Kd (Kb h₁' (fun j s₂ h₂=>Kd (Kb h₂ (fun ok s₃ h₃=>?_) fun j j h'=>h'.elim)) fun j j h'=>h'.elim);induction ok with
   | false=>exact Ki ⟨rfl,h₃⟩
   | true=>exact Kd (Kb h₃ (fun j s₄ h₄=>Ki ⟨rfl,h₄⟩) fun j j h'=>h'.elim)
theorem Zhq {kx vx:Expr}{n:Nat}(h:EJ c kx st fun st1=>EJ c vx st1 fun st2=>∃x a es ep,st2.stk=[a,.d (.str x)]∧st2.own[n]?=some (.dict es ep)∧es.length≤1000∧∀ep',Q ⟨st2.loc,st2.own.set n (.dict (Z6 es x a) ep'),[]⟩):EmJ c (Zec kx vx) n st Q:=fun F D s hD R=>by
 refine Kd (wpm (h F [] s R) (fun kv s1 zq0=>?_));obtain ⟨st1,R1,h1⟩:=zq0;refine Kd (Rs (wpm (h1 F [kv] s1 R1) (fun vv s2 zq1=>?_)));refine Ka fun zn1=>?_;obtain ⟨st2,⟨g,ρ,m,W⟩,x,a,es,ep,hstk,hown,hz,hq⟩:=zq1;refine zn1 ?_;refine Kd (Rq (Rs ?_));have hD2:=W.pin _ hD;have hst:=W.stk;rw [hstk] at hst;obtain ⟨t,e0⟩:∃t,kv=Value.str x t:=Zd (Zb hst);subst e0;refine Zt (W.own _ _ _ hown hD2) fun kvs n0 hd hx=>?_;refine wpAny_dictSet_pairs (knd:=strKind c.p c.w) (k:=x) (strKind_is _ _ x t) hd.dictOf (fun h' hd' hs=>?_) (by rw [YD hx,sizeLine_eq];lia);refine oze hd'.dictAt fun ep' hd'=>?_;exact ⟨_,⟨g,ρ,m,(W.stack (Zb (Zb hst))).setOwn (t:=s2.toks+1) (ZB hown).1 hD2 (fun b ob hb eb=>(hs.2 b hb).trans eb) (o':=.dict (Z6 es x a) ep') ⟨_,n0,hd',Wk hx (Zd hst)⟩⟩,hq ep'⟩
theorem Zb9 {py spos:Pos}{kx vx:Expr}(K:CompOK c scope celA)
 (h:IEJ c tgt iter st fun ok xs st2=>∀c',CompFr c c' scope (Yu scope celA st2.own.length)→WX c' tgt ifs (Zec kx vx) ok st2.own.length xs
  ⟨[],st2.own++[.dict [] 0]++List.replicate (Yb scope.names) (.cell none),[]⟩ (fun st3=>NJ c y ⟨st2.loc,st3.own,.own st2.own.length::st2.stk⟩ (QF .next)))
 (hsw:swapsWith (.DictComp kx vx [⟨tgt,iter,ifs,0⟩] scope pos) (some (.Name y py)) spos.line c.env=pure true)
 (hs:∀x,foldedSetIterable iter c.env x=pure x):SJ c (.Assign [.Name y py] (.DictComp kx vx [⟨tgt,iter,ifs,0⟩] scope pos) spos) st QF:=fun F vs s R=>by
 rw [exec_Assign_Name_used _ _ _ _ hsw];refine Kd (Rq (Kd ?_));refine Kd (wpm (Zb4 ZsB (use:=some (assign (.Name y py) c.env)) (Q:=fun st=>NJ c y st (QF .next)) (Qv:=fun j s'=>Got c F vs (QF .next) s') K hs (ZeY h) R fun D C s' st' mC lo hQ hn hC hd R'=>?_) (fun j s' hq=>Ki (Ki hq)));refine wpm (Z7 hQ _ _ vs s' R') (fun j s2 zq2=>?_);refine Ka fun zn5=>?_;refine ozg zq2 fun st2 zo2 hq=>?_;refine ozr zo2 fun g ρ m W=>?_;refine zn5 ?_;refine ⟨mC,?_,fun h' hs'=>⟨st2,⟨g,ρ,m,?_⟩,hq⟩⟩
 ·refine ZS hn fun o es ep e r=>?_;rw [hC] at e;obtain rfl:=Kc e;exact ⟨_,es,ep,((W.hid _ (.head _)).1),r⟩
 ·exact RSW.rehide (F:=F) (g₁:=F.g₀) (hs:=[(C,lo)]) (hs':=[]) W (fun q hq z=>hd q hq (by simpa using z)) (h':=h') (t:=s2.toks) (fun b o hb e=>(hs'.2 b (by simpa using hb)).trans e) (fun j h=>nomatch h)
end
end
section
noncomputable def Zeu (c:Cx) (tx ty:Expr) (body:Qr) (ok:Qf):Qe→St→(Fl→St→Prop)→Prop
 | [],st,Q=>ok st∧Q .next st
 | e::es,st,Q=>ok st∧AsJ c tx ⟨st.loc,st.own,.d (.str e.1)::e.2::st.stk⟩ fun st1=>AsJ c ty st1 fun st2=>XJ c body st2 (lpQ (fun st3=>Zeu c tx ty body ok es st3 Q) Q)
section
variable {s:Shared}{l:Qc}
noncomputable def FzI (F:Fz) (g h:Heap) (I:Addr) (j d:Nat):Fz:={F with g₀:=g,hid:=Zo h [I]++F.hid,pin:=[(j,d)]++F.pin}
theorem Wt {h:Heap}{o:Obj}(e:h.get? I=some o):∀b,b∈(Zo h [I]).map (·.1)↔b∈[I]:=Ye fun b hb=>by cases hb with
 | head=>exact ⟨o,e⟩
 | tail _ hb=>nomatch hb
theorem Zie {m:Qk}(W:RSW c F st vs s g ρ m) (ob:Obj){d:Nat}(hd:ρ[j]?=some d):RS c (FzI F g (s.heap.push ob) s.heap.objs.size j d) st vs {s with heap:=s.heap.push ob} :=
 ⟨g,ρ,m,((W.alloc ob s.toks).hide (hs:=Zo (s.heap.push ob) [s.heap.objs.size]) fun q hq=>by
  refine oza (Zj hq) fun h1 h2=>?_;have e1:=YY h1;exact ⟨h2,by rw [e1];exact W.keep.none (ZbO _),by rw [e1];exact W.size_nomut⟩).pinned (pn:=[(j,d)]) fun q hq=>by
   cases hq with
   | head=>exact hd
   | tail _ hb=>nomatch hb⟩
theorem Zkg {d:Nat}{g2:Heap}{m:Qk}{o:Obj}(W:RSW c (FzI F g s.heap I j d) st vs s g2 ρ m) (hI:s.heap.get? I=some o) (hd:∀q∈F.hid,q.1∉[I]){t:Nat}(hk:∀b o,b∉[I]→s.heap.get? b=some o→h'.get? b=some o):
 RSW c (FzI F g h' I j d) st vs {s with heap:=h',toks:=t} g2 ρ m :=
 RSW.rehide (F:={F with pin:=[(j,d)]++F.pin}) (g₁:=g) W (hs':=Zo h' [I]) (fun q hq z=>hd q hq ((Wt hI _).mp z)) (h':=h') (t:=t) (fun b o hb e=>hk b o (fun z=>hb ((Wt hI b).mpr z)) e) fun q hq=>⟨(Wt hI _).mpr (Zj hq).1,(Zj hq).2⟩
theorem Zni {d:Nat}(g0:Sub F.g₀ g){g2:Heap}{m:Qk}{o:Obj}(W:RSW c (FzI F g s.heap I j d) st vs s g2 ρ m) (hI:s.heap.get? I=some o) (hd:∀q∈F.hid,q.1∉[I]){t:Nat}(hk:∀b o,b∉[I]→s.heap.get? b=some o→h'.get? b=some o):
 RS c F st vs {s with heap:=h',toks:=t} :=
 ⟨g2,ρ,m,RSW.unpin (pn:=[(j,d)]) (RSW.of_g0 (F:={F with pin:=[(j,d)]++F.pin}) g0 (RSW.rehide (F:={F with pin:=[(j,d)]++F.pin}) (g₁:=g) W (hs':=[]) (fun q hq z=>hd q hq ((Wt hI _).mp z)) (h':=h') (t:=t) (fun b o hb e=>hk b o (fun z=>hb ((Wt hI b).mpr z)) e) (fun u h=>nomatch h)))⟩
theorem Zbv {h3:Heap}{d:Nat}{o:Obj}(R:RS c (FzI F g h3 I j d) st vs s) (hI:h3.get? I=some o) (hd:∀q∈F.hid,q.1∉[I]):s.heap.get? I=some o∧RS c (FzI F g s.heap I j d) st vs s:=by
 refine ozr R fun g7 ρ7 m7 W7=>?_;exact ⟨((W7.hid (I,_) (Kg _ (ZX (.head _) hI))).1),g7,ρ7,m7,RSW.rehide (F:={F with pin:=[(j,d)]++F.pin}) (g₁:=g) (hs:=Zo h3 [I]) (hs':=Zo s.heap [I]) W7 (fun q hq z=>hd q hq ((Wt hI _).mp z)) (h':=s.heap) (t:=s.toks) (fun u u u e=>e) fun q hq=>⟨(Wt hI _).mpr (Zj hq).1,(Zj hq).2⟩⟩
theorem Zhf {h3:Heap}{d:Nat}(g0:Sub F.g₀ g) (R:RS c (FzI F g h3 I j d) st vs s):RS c F st vs s:=RS.unhide (F:=F) (pn:=[(j,d)]) R g0
inductive IInv (c:Cx) (F:Fz) (g:Heap) (I d:Addr) (j:Nat) (es:Qe) (ep:Nat) (tx ty:Expr) (body:Qr) (QF:Fl→St→Prop) (vs:Qo) (kk:Nat) (s':Shared):Prop
 | mk (i:Nat) (st':St) (hi:i≤es.length) (hk:kk=es.length+1 - i) (ok ov:Value) (hit:IsItemIter s'.heap I d i es.length ep ok ov) (R:RS c (FzI F g s'.heap I j d) st' vs s') (hL:Zeu c tx ty body (fun st=>st.own[j]?=some (.dict es ep)) (es.drop i) st' QF)
section
variable {d:Addr}{es:Qe}{tx ty:Expr}
theorem Zju {e:A}{h3:Heap}{ok ov:Value}(hlt:i<es.length) (hI:IsItemIter h3 I d (i+1) es.length ep ok ov) (hd:∀q∈F.hid,q.1∉[I]) (g0:Sub F.g₀ g)
 (hL:AsJ c tx ⟨st.loc,st.own,.d (.str x)::e::st.stk⟩ fun st1=>AsJ c ty st1 fun st2=>XJ c body st2 (lpQ (fun st3=>Zeu c tx ty body (fun st=>st.own[j]?=some (.dict es ep)) (es.drop (i+1)) st3 QF) QF))
 {v y:Value} (R:RS c (FzI F g h3 I j d) ⟨st.loc,st.own,.d (.str x)::e::st.stk⟩ (v::y::vs) s) (he:assignEach [tx,ty] c.env=[tx,ty].map fun e=>(false,assign e c.env)) :
 wpAny (model c.p c.w) c.A (assignInOrder ((assignEach [tx,ty] c.env).map (·.2)) [v,y]) (fun u s4=>wpAny (model c.p c.w) c.A (execs body c.env) (Stp (FQ c F vs QF) (IInv c F g I d j es ep tx ty body QF vs) (es.length+1 - i)) NoE s4) NoE s:=by
 rw [he];refine assignInOrder_cons (Kb (hL _ _ (y::vs) _ R) (fun u s5 h5=>assignInOrder_cons ?_) fun u u x=>x.elim);refine ozg h5 fun st5 R5 h5=>?_;refine Kb (h5 _ y vs s5 R5) (fun u s6 h6=>assignInOrder_nil ?_) fun u u x=>x.elim;obtain ⟨st6,R6,h6⟩:=h6;refine Kb (h6 _ vs s6 R6) (fun f s7 h7=>?_) fun u u x=>x.elim;induction f with
 | next=>refine ozg h7 fun st8 R8 h8=>?_;exact ⟨_,ZbG hlt,i+1,st8,hlt,rfl,ok,ov,(Zbv R8 hI hd).1,(Zbv R8 hI hd).2,h8⟩
 | cont=>refine ozg h7 fun st8 R8 h8=>?_;exact ⟨_,ZbG hlt,i+1,st8,hlt,rfl,ok,ov,(Zbv R8 hI hd).1,(Zbv R8 hI hd).2,h8⟩
 | brk=>refine ozg h7 fun st8 R8 h8=>?_;exact ⟨st8,Zhf g0 R8,h8⟩
 | ret v=>refine ozg h7 fun st8 R8 h8=>?_;exact ⟨st8,Zhf g0 R8,h8⟩
theorem ZjP {n:Nat}{tp:Pos}(hne:d≠I) (hd:∀q∈F.hid,q.1∉[I]) (g0:Sub F.g₀ g) (he:assignEach [tx,ty] c.env=[tx,ty].map fun e=>(false,assign e c.env)){kk:Nat}(I0:IInv c F g I d j es ep tx ty body QF vs kk s):
 Zg5 c (.Tuple [tx,ty] n tp) body (.ref I) (FQ c F vs QF) (IInv c F g I d j es ep tx ty body QF vs) kk s:=by
 obtain ⟨i,st2,hi,rfl,ok,ov,hit2,⟨g2,ρ2,m2,W2⟩,hL2⟩:=I0;have own:st2.own[j]?=some (.dict es ep):=by
  generalize es.drop i=xs at hL2;induction xs using LLc with
  | nil=>exact hL2.1
  | cons x xs=>exact hL2.1
 refine Zt (W2.own j _ d own (W2.pin _ (.head _))) fun kvs u hl2 hv2=>?_;have WT:=ZaR (p:=c.p) (w:=c.w) c.hh I d hne kvs ep;rw [(YD hv2)] at WT;refine Or.elim (Nat.lt_or_ge i es.length) (fun hlt=>?_) fun hge=>?_
 ·rw [List.drop_eq_getElem_cons hlt] at hL2;refine WT.item i s _ _ hlt ⟨⟨_,_,hit2⟩,hl2⟩ fun T vals h' tk hPt hfresh hT hMd hk=>?_;refine Ka fun zn5=>?_;refine ZS hPt fun x t y hx zo3=>?_;subst zo3;refine zn5 ?_;refine WT.go [tx,ty] n tp i T _ _ _ hMd fun h2 hSi2 hk2=>?_;refine assign_Tuple_tuple c.hh (items:=#[.str x t,y]) (hT.at (h':=h2) fun o e=>hk2 T o (WT.apart _ _ _ hMd) e) (by rw [he];rfl) (by rw [he];rfl) fun h3 hx3=>?_;have hSub:Sub h2 h3:=fun b ob e=>hx3 b ob (Rg (Kk e)) e;refine Ka fun zn6=>?_;refine oza hSi2 fun zo5 u=>?_;refine Ue zo5 fun ok2 ov2 hit3=>?_;refine Za (Zm2 hv2 hx) fun e he1 he2=>?_;refine zn6 ?_;have ee:es[i]=(x,e):=by rw [Ke hlt] at he1;exact Kc he1
  rw [ee] at hL2;exact Zju hlt (hSub _ _ hit3) hd g0 hL2.2 ⟨g2,ρ2,m2,((Zkg (h':=h3) (t:=tk) W2 hit2 hd fun b o hb e=>hSub _ _ (hk2 b o hb (hk b o hb e))).push he2).push (a:=.d (.str x)) ⟨t,rfl⟩⟩ he
 ·have hin:i=es.length:=Nat.le_antisymm hi hge;subst hin;rw [List.drop_length] at hL2;exact WT.done s _ _ ⟨⟨_,_,hit2⟩,hl2⟩ fun h' tk hk=>⟨st2,Zni g0 W2 hit2 hd hk,hL2.2⟩
end
theorem Zdp {tx ty:Expr}{n:Nat}{tp:Pos}(h:EJ c iter st fun st1=>∃l o k j es ep,st1=⟨l,o,.view .items j::k⟩∧o[j]?=some (.dict es ep)∧Zeu c tx ty body (fun st=>st.own[j]?=some (.dict es ep)) es ⟨l,o,k⟩ QF)
 (hs:∀x,foldedSetIterable iter c.env x=pure x) (he:assignEach [tx,ty] c.env=[tx,ty].map fun e=>(false,assign e c.env):=by rfl):SJ c (.For (.Tuple [tx,ty] n tp) iter body [] pos) st QF:=fun F vs s R=>by
 refine ZiV (wpm (h F vs s R) (fun v s1 zq0=>?_)) hs;refine Ka fun zn7=>?_;obtain ⟨st1,⟨g,ρ,m,W⟩,l,o,k,j,es,ep,e1,ho,hL⟩:=zq0;refine zn7 ?_;subst e1;refine Ka fun zn8=>?_;obtain ⟨d,a,ea,e2,hview⟩:∃d a,ρ[j]?=some d∧v = .ref a∧Zcc g .items a d:=Zd W.stk;refine zn8 ?_;subst e2;refine Zt (W.own j _ d ho ea) fun kvs hns hl hv=>?_;have hne:d≠s1.heap.objs.size:=fun z=>by
  refine ZE hl fun ob u e u=>?_;exact absurd (Kk e) (by rw [z];exact Rn _)
 refine wpAny_pyIter_items (Xl W.keep .items hview) hl ⟨IInv c F g s1.heap.objs.size d j es ep tx ty body QF vs,es.length+1,.mk 0 _ (Q4 _) rfl .none .none ?_ (Zie (W.stack (Zb W.stk)) _ ea) hL,fun kk s2 I0=>ZjP hne (fun q hq z=>?_) W.g0 he I0⟩
 ·rw [YD hv];exact Kh _ rfl
 ·exact W.size_nomut (YY z▸YO hq)
end
end
section
structure KeyX where
 id:Str
 ty:Str
 sc:Str
 kv:Qd
noncomputable def KeyX.d (k:KeyX):D:=ZpU (.str k.id) (.str k.ty) (.str k.sc) (.dict k.kv) []
noncomputable def KeyX.e (k:KeyX):Qe:=ZoZ (.str k.ty) (.str k.sc) (.dict k.kv)
noncomputable def WR (ks:List KeyX):Qd:=ks.map fun k=>(k.id,k.d)
noncomputable def Z9:List KeyX→Nat→List (Str×A)
 | [],_=>[]
 | k::ks,b=>(k.id,.own b)::Z9 ks (b+1)
noncomputable def ZcP:List KeyX→List O→Prop
 | [],os=>os=[]
 | k::ks,os=>∃ep r,os = .dict k.e ep::r∧ZcP ks r
noncomputable def ZP:Nat→Nat→List A
 | _,0=>[]
 | b,n+1=>.own b::ZP (b+1) n
theorem YA {es:Qe}(h:x∉es.map (·.1)):Z6 es x a=es++[(x,a)]:=by
 unfold Z6;have:(es.any fun e=>decide (e.1=x))=false:=by
  rw [List.any_eq_false];intro e he hx;exact h (Kw hx▸Ri he)
 rw [this];rfl
theorem UE:∀(n b:Nat),ZP b n++[.own (b+n)]=ZP b (n+1)
 | 0,b=>rfl
 | n+1,b=>by
  show A.own b::(ZP (b+1) n++[.own (b+(n+1))])=A.own b::ZP (b+1) (n+1);rw [←UE n (b+1),show b+1+n=b+(n+1) by exact Nat.add_right_comm _ _ _]
theorem Znd (n:Nat):iot [] n=(n+·):=by funext j;rfl
theorem Zdq {l:Qc}{n:Nat}{f:Value}{args:Qi}(H:OSpecC c.G f need [] (args.map .d) R) (hk:∀h,c.G.lib.B h→ZF c f h) (hn:need≤c.fuel) (hl:args.length=n)
 (q:∀a os',R a os'→Q ⟨l,o++os'.map (Xv (o.length+·)),YN (o.length+·) a::k⟩):CJ c n ⟨l,o,(args.map A.d).reverse++.d (.val f)::k⟩ Q:=by
 have:=XX (c:=c) (l:=l) (o:=o) (k:=k) (Q:=Q) (n:=n) [] (os:=[]) (args:=args.map .d) (OSpecC.toO H) hk hn (by rw [Qw];exact hl) List.nodup_nil rfl (fun j i h=>by simp at h) (fun a os' hR=>by
  have:=q a os' hR;rw [Znd];have e:ZdL (fun x=>o.length+x) [] os' o=o:=by induction os' using LLc <;> rfl
  exact this)
 have e:(args.map A.d).map (YN (iot [] o.length))=args.map A.d:=by rw [Q0];rfl
 rw [e] at this;exact this
theorem ZlX {α:Type}{b r:List α}{x:α}:(b++[x]++r)[b.length]?=some x:=by rw [Qy,Km (Kq _),Rp];rfl
theorem Znv {α:Type}{b r:List α}{x y:α}:(b++[x]++r).set b.length y=b++[y]++r:=by rw [Qy,List.set_append_right _ _ (Kq _),Rp,Qy];rfl
end
variable {ks:List KeyX}
section
noncomputable def ZlE (scope:Scope) (t:Str):Bool:=!(scope.names.any fun (n,k)=>n==t&&(k == .local||k == .cell))
theorem blk:c.env.blockKind = .function:=by unfold Env.blockKind;rw [c.hk];rfl
theorem Zgt {t:Str}{kx vx:Expr}{g:List Comprehension}{vp:Pos}{line:Nat}(hy:IsL c t i) (h:ZlE scope t=true) (hl:(pos.line==vp.line)=true):swapsWith (.DictComp kx vx g scope vp) (some (.Name t pos)) line c.env=pure true:=by
 show (pure (c.env.blockKind == .function&&c.env.kindOf t==some .local&&pos.line==vp.line&&ZlE scope t):Sem Bool)=pure true;rw [blk,hy.1,h,hl];rfl
theorem ZlR {t:Str}{kx:Expr}{g:List Comprehension}{vp:Pos}{line:Nat}(hy:IsL c t i) (h:ZlE scope t=true) (hl:(pos.line==vp.line)=true):swapsWith (.ListComp kx g scope vp) (some (.Name t pos)) line c.env=pure true:=by
 show (pure (c.env.blockKind == .function&&c.env.kindOf t==some .local&&pos.line==vp.line&&ZlE scope t):Sem Bool)=pure true;rw [blk,hy.1,h,hl];rfl
theorem Zag:∀{ks:List KeyX}{KD:Qg},ZcP ks KD→KD.length=ks.length
 | [],_,h=>by rw [show _=[] from h];rfl
 | _::ks,_,⟨_,r,e,h⟩=>by subst e;simp [Zag h]
end
section
theorem ZkK {l:Qc}{es:Qe}(ho:o[i]?=some (.dict es ep)) (q:Q ⟨l,o,.d (.bool (Z5 es x).isSome)::k⟩):OJ2 c (compareOp .In) ⟨l,o,.own i::.d (.str x)::k⟩ Q:=fun F u v vs s zq0=>by
 obtain ⟨g,ρ,m,W⟩:=zq0;refine Za (Zd W.stk) fun a ea e2=>?_;refine oze (Zd (Zb W.stk)) fun t h1=>?_;subst h1 e2;refine Zt (W.own i _ a ho ea) fun kvs n0 hd hx=>?_;refine wpAny_in_of (strKind_is _ _ x t) (beq_eq_false_iff_ne.mpr n0) hd.dictOf.mapOf ?_;have W2:=(W.tok (s.toks+1)).stack (Zh (a:=.d (.bool (Z5 es x).isSome)) (v:=.bool (Z5 es x).isSome) rfl (Zb (Zb W.stk)));induction hv:Z5 es x with
 | none=>rw [hv] at W2 q;rw [Xz hx hv];exact ⟨_,⟨g,ρ,m,W2⟩,q⟩
 | some d =>
  rw [hv] at W2 q;refine Za (Up hx hv) fun y e j=>?_;rw [e];exact ⟨_,⟨g,ρ,m,W2⟩,q⟩
theorem ZiA {es:Qe}(h:x∉es.map (·.1)):Z5 es x=none:=by
 unfold Z5;rw [Option.map_eq_none_iff,List.find?_eq_none];intro e he hx;exact h (Kw hx▸Ri he)
end
section
section
variable {l:Qc}
theorem Zmj {e:Expr}(h:EJ c e st fun st1=>∃l o i k,st1=⟨l,o,.own i::k⟩∧∀a,Q ⟨l,o,.d (.val (.ref a))::k⟩):EJ c e st Q:=fun F vs s R =>
 wpm (h F vs s R) (fun v s1 zq0=>by
  obtain ⟨st1,⟨g,ρ,m,W⟩,l,o,i,k,e1,hq⟩:=zq0;subst e1;refine Za (Zd W.stk) fun a ea e2=>?_;exact ⟨_,⟨g,ρ,m,W.stack (Zh (a:=.d (.val (.ref a))) e2 (Zb W.stk))⟩,hq a⟩)
end
theorem ZbQ {n1 n2:Nat}{p2:Pos}{a:Addr}(hx:scope.names.lookup x=some .local) (hk:scope.kind = .function) (hnd:(x==("__debug__":Str))=false):
 Xp c scope x [.Compare (.Name x p1) [.IsNot] [.Constant .none n1 p2] p3] (.Constant (.int 1) n2 p4) (fun d=>!YG d) (fun j y=>∃t,y = .int 1 t) (.val (.ref a)):=fun A' E' cenv s₂ m₂ g v gf hh hu hns hm hB hs hv=>by
 have hkf:cenv.scope.kind = .function:=by rw [gf.scope];exact hk
 have hl:cenv.kindOf x=some .local:=by show cenv.scope.names.lookup x=_;rw [gf.scope];exact hx
 have ev:v = .ref a:=hv;subst ev;refine ⟨?_,fun j=>?_⟩
 ·rw [List.forIn_cons];dsimp only [if_true,List.forIn_nil];refine Kd (Kd (wpAny_isTrue_Compare1 (wpAny_Name (wpAny_loadName_local hkf hl hns hm (wpAny_Constant_none (isNot_none (wpAny_truthy_bool (Ki (Ki ?_)))))) hnd)));exact ⟨rfl,_,_,rfl,fun j j e=>e⟩
 ·exact wpAny_Constant_int ⟨⟨_,rfl⟩,_,_,rfl,fun j j e=>e⟩
theorem ZcF {l:Qc}{n:Nat}{f:Value}(H:OSpecC c.G f need o args R) (hk:∀h,c.G.lib.B h→ZF c f h) (hn:need≤c.fuel) (hl:args.length=n)
 (q:∀a os',R a os'→o.length≤os'.length∧Q ⟨l,os',a::k⟩):CJ c n ⟨l,o,args.reverse++.d (.val f)::k⟩ Q:=by
 have:=XX (c:=c) (l:=l) (o:=o) (k:=k) (Q:=Q) (n:=n) (List.range o.length) (os:=o) (args:=args) (OSpecC.toO H) hk hn hl List.nodup_range (by simp) (fun j i h=>by
  rw [Zar,Zbl];have hj:j<o.length:=by have:=(ZB h).1;simpa using this
  rw [List.getElem?_range hj] at h;obtain rfl:=Kc h;exact ⟨o[j],Ke hj,Ke hj⟩) (fun a os' hR=>by
  refine oza (q a os' hR) fun h1 h2=>?_;rw [Zfc rfl h1,Zar,Uk];exact h2)
 rw [Zar,Uk,List.map_id] at this;exact this
end
section
section
variable {Q:Fl→St→Prop}
theorem Zc9 (env:Env) (a b:Qr):execs (a++b) env=execs a env >>= fun f=>match f with | .next=>execs b env | f=>pure f:=by
 induction a with
 | nil=>rfl
 | cons t a ih =>
  rw [List.cons_append,execs_cons,execs_cons,ih,bind_assoc];refine congrArg _ (funext fun f=>?_);induction f <;> rfl
theorem Zo1 (n:Nat){ts:Qr}(h:XJ c (ts.take n) st fun f st1=>∃st2,Cv st.own.length st1 st2∧match f with | .next=>XJ c (ts.drop n) st2 Q | f=>Q f st2):XJ c ts st Q:=by
 intro F vs s R;have e:ts=ts.take n++ts.drop n:=(List.take_append_drop n ts).symm;rw [e,Zc9];refine Kd (wpm (Zrt (Q:=fun f st2=>match f with | .next=>XJ c (ts.drop n) st2 Q | f=>Q f st2) h F vs s R) (fun f s1 h1=>?_));induction f with
 | next=>obtain ⟨st1,R1,h1⟩:=h1;exact h1 F vs s1 R1
 | brk=>exact Ki h1
 | cont=>exact Ki h1
 | ret v=>exact Ki h1
end
noncomputable def Zi4 (own:Qg) (n:Nat):Qg→List O→Prop
 | [],[]=>True
 | x::xs,y::ys=>OFr own n x y∧Zi4 own n xs ys
 | _,_=>False
theorem Zhl {n:Nat}{xs ys:Qg}(h:Zi4 own n xs ys):R2 (OFr own n) xs ys:=by
 induction xs generalizing ys with
 | nil=>induction ys using LLc with
  | nil=>exact .nil
  | cons _ _=>exact h.elim
 | cons x xs ih=>induction ys using LLc with
  | nil=>exact h.elim
  | cons y ys=>exact .cons h.1 (ih h.2)
theorem Zez {n:Nat}{xs ys:Qg}(h:Zi4 own n xs ys):xs.length=ys.length∧∀(i:Nat) y,ys[i]?=some y→∃x,xs[i]?=some x∧OFr own n x y:=⟨(Zhl h).len.symm,fun j j e=>(Zhl h).getR e⟩
theorem Zqi {pre tail o':Qg}{l l':Qc}{n:Nat}(hn:pre.length=n) (ho:Zi4 (pre++tail) n pre o') (hl:∀q∈l',∃a,Zs q.1 l=some a∧AFr (pre++tail) n a q.2):Cv n ⟨l,pre++tail,[]⟩ ⟨l',o',[]⟩ where
 len:=by rw [←(Zez ho).1,hn]
 le:=by simp [←hn]
 own:=fun i y hy=>by
  refine Za ((Zez ho).2 i y hy) fun x h1 h2=>?_;exact ⟨x,by rw [Kl (ZB h1).1];exact h1,h2⟩
 loc:=fun x a h=>hl _ (Yy h)
 stk:=trivial
end
section
noncomputable def WP (xs:List Int):D:=.list (xs.map .int)
end
section
theorem Zfo (x y:Str):(Zae x none (some (y.length:Int))==y)=Txt.startswith x y:=by
 unfold Txt.startswith;rw [PySem.StrLaws.subAt_eq,Bool.eq_iff_iff,Q7,Qz,decide_eq_true_eq,Q7,List.drop_zero];have e:Zae x none (some (y.length:Int))=⟨(x.cps.toList.take y.length).toArray⟩:=by
  unfold Zae;rw [Zj4]
 rw [e];have hx:x.cps.toList.length=x.length:=rfl;have hy:y.cps.toList.length=y.length:=rfl;constructor
 ·intro h;have h1:x.cps.toList.take y.length=y.cps.toList:=congrArg (fun z:Str=>z.cps.toList) h;refine ⟨?_,h1⟩;have h2:=congrArg List.length h1;rw [List.length_take] at h2;lia
 ·rintro ⟨j,h⟩;rw [h]
end
section
theorem Zlx {os2:Qg}{n:Nat}(hn:∀i:Nat,n≤ι i) (h:∀(i:Nat) x,os[i]?=some x→os2[ι i]?=some (Xv ι x)){d:D}(f:Frz os 0 a d):Frz os2 n (YN ι a) d :=
 Frz.rec (motive_1:=fun a d j=>Frz os2 n (YN ι a) d) (motive_2:=fun a d j=>Frzs os2 n (a.map (YN ι)) d) (motive_3:=fun a d j=>Frze os2 n (Zf2 ι a) d)
  (fun x=>.d x) (fun j e j r=>.list (hn _) (h _ _ e) r) (fun j e j r=>.dict (hn _) (h _ _ e) r) (fun j e j e2 j r=>.inst (hn _) (h _ _ e) (hn _) (h _ _ e2) r) .nil (fun j j a r=>.cons a r) .nil (fun j j a r=>.cons a r) f
theorem ZkZ:∀(q:Qg) (p xs:Qg),q.length≤xs.length→ZdL ι (List.range' p.length q.length) xs (p++q)=p++(xs.take q.length).map (Xv ι):=by
 intro q;induction q with
 | nil=>intro p xs j;rfl
 | cons y q ih =>
  intro p xs h;induction xs using LLc with
  | nil=>exact absurd h (Nat.not_succ_le_zero _)
  | cons x xs =>
   rw [Rc,List.range'_succ];show ZdL ι _ xs ((p++y::q).set p.length (Xv ι x))=_;rw [List.set_append_right _ _ (Kq _),Rp];simpa using ih (p++[Xv ι x]) xs (Nat.le_of_succ_le_succ h)
theorem Zbw {q:Qg}:iot (List.range' o.length q.length) (o++q).length=(o.length+·):=by
 funext j;unfold iot;by_cases hj:j<q.length
 ·have:(List.range' o.length q.length)[j]?=some (o.length+j):=by simp [hj]
  rw [this]
 ·have:(List.range' o.length q.length)[j]?=none:=by simp;exact Nat.not_lt.mp (by assumption)
  rw [this];simp;lia
theorem ZiJ {q:Qg}(h:q.length≤os.length):WL (List.range' o.length q.length) (o++q) os=o++os.map (Xv (o.length+·)):=by
 unfold WL;rw [Zbw,ZkZ q o os h,List.length_range',Qy,←Q9,List.take_append_drop]
end
section
open PySem.SeqAt
open PySem.MeetsSeq3 (plain_eq_loop entry_eq_loop)
def EqT (G:Gx) (need:Nat) (a b:D):Prop :=
 ∀(A:Around) (F:Fz) (u v:Value) (s:Shared) (g:Heap),A.handled=none→A.depth+need<recursionLimit→A.units+8*need+40≤cLine→HS G F s g→VR G.p G.w g a u→VR G.p G.w g b v →
  wpAny (model G.p G.w) A (eqBool u v) (fun z s'=>z=true∧∃g',HS G F s' g'∧Sub g g') NoE s
def RcT (G:Gx) (need:Nat) (a b:D):Prop :=
 ∀(A:Around) (F:Fz) (u v:Value) (s:Shared) (g:Heap),A.handled=none→A.depth+need<recursionLimit→A.units+8*need+40≤cLine→HS G F s g→VR G.p G.w g a u→VR G.p G.w g b v →
  wpAny (model G.p G.w) A (richCompare .Eq u v) (fun z s'=>z = .bool true∧∃g',HS G F s' g'∧Sub g g') NoE s
noncomputable def Zsl (G:Gx) (need:Nat):Qi→List D→Prop
 | [],[]=>True
 | x::xs,y::ys=>EqT G need x y∧Zsl G need xs ys
 | _,_=>False
noncomputable def Zfx (G:Gx) (need:Nat):Qd→List (Str×D)→Prop
 | [],[]=>True
 | x::xs,y::ys=>x.1=y.1∧EqT G need x.2 y.2∧Zfx G need xs ys
 | _,_=>False
section
theorem EqT.fit {n:Nat}{a b:D}(hf:Fit n a b) (hd:deq a b=true) (hn:n≤need):EqT G need a b:=fun A F u v s g h1 h2 h3 H h4 h5 =>
 Zgq (p:=G.p) (w:=G.w) n hf (VR.sub _ _ H.keep _ _ h4) (VR.sub _ _ H.keep _ _ h5) (by lia) G.p G.w _ _ ⟨hd,g,H,Sub.refl _⟩
theorem ZlS {A:Around}{a b:Addr}{P:Shared→Prop}{s:Shared}(hs:P s) (h:wpAny M A (richCompare .Eq (.ref a) (.ref b)) (fun z s'=>z = .bool true∧P s') NoE s):wpAny M A (eqBool (.ref a) (.ref b)) (fun z s'=>z=true∧P s') NoE s:=by
 refine Rs ?_;refine wpAny_ite_split (fun j=>Kd (wpAny_rule (Ki ⟨rfl,hs⟩))) (fun j=>?_);exact Kd (wpm h (fun z s' zq0=>by obtain ⟨e,hp⟩:=zq0;subst e;exact wpAny_truthy_bool ⟨rfl,hp⟩))
theorem EqT.of_inst {c d:Addr}{xs ys:Qd}(h:RcT G need (.inst c xs) (.inst d ys)):EqT G need (.inst c xs) (.inst d ys):=fun A F u v s g h1 h2 h3 H h4 h5=>by
 refine Zc (id h4) fun a us zo1 q1 q2=>?_;subst zo1;refine Zc (id h5) fun b ws zo2 q3 q4=>?_;subst zo2;exact ZlS ⟨g,H,Sub.refl _⟩ (h A F _ _ s g h1 h2 h3 H h4 h5)
theorem ZmT {xs ys:Qd}(h:Zfx G need xs ys):R2 (fun x y=>x.1=y.1∧EqT G need x.2 y.2) xs ys:=by
 induction xs generalizing ys with
 | nil=>induction ys using LLc with
  | nil=>exact .nil
  | cons _ _=>exact h.elim
 | cons x xs ih=>induction ys using LLc with
  | nil=>exact h.elim
  | cons y ys=>exact .cons ⟨h.1,h.2.1⟩ (ih h.2.2)
theorem ZiO {xs ys:Qd}{x y:Str×D}(h:Zfx G need xs ys) (e1:xs[i]?=some x) (e2:ys[i]?=some y):x.1=y.1∧EqT G need x.2 y.2:=by
 refine Za ((ZmT h).get e1) fun z h1 h2=>?_;exact Kc (h1.symm.trans e2)▸h2
theorem Zeo {p:Program}{w:World}(h:VRe p w g es kvs) (hi:i<kvs.length):∃d,es[i]?=some (kvs[i].1,d)∧VR p w g d kvs[i].2:=ZdP h (Ke hi)
theorem Ze8 {p:Program}{w:World}(h:VRe p w g es kvs):kvs.map (·.1)=es.map (·.1):=(Zgl.mp h).maps fun j j h=>h.1
theorem ZiE {xs ys:Qd}(h:Zfx G need xs ys):xs.map (·.1)=ys.map (·.1):=by
 induction xs generalizing ys with
 | nil=>induction ys using LLc with
  | nil=>rfl
  | cons _ _=>exact h.elim
 | cons x xs ih=>induction ys using LLc with
  | nil=>exact h.elim
  | cons y ys=>rw [Rh,Rh,h.1,ih h.2.2]
theorem Zno (hn:(kvs.map (·.1)).Nodup) (hi:i<kvs.length):(kvs.findIdx? fun kv=>decide (kv.1=kvs[i].1))=some i:=by
 rw [List.findIdx?_eq_some_iff_getElem];refine ⟨hi,by simp,fun j hj=>?_⟩;have hj':j<kvs.length:=by lia
 simp only [decide_eq_true_eq];intro e;have:j=i:=YC hn (by simpa using hj') (by simpa using hi) (by simpa using e);lia
open Builtin.Dict in
theorem Zce {A:Around}{s:Shared}{a b:Addr}{xs ys:Qd}{lvs:Ql}{id:String}{Q:Bool→Shared→Prop}(hx:Zfx G need xs ys) (h1:A.handled=none) (h2:A.depth+need<recursionLimit) (h3:A.units+8*need+40≤cLine) (H:HS G F s g)
 (na:a≠sysModules) (nb:b≠sysModules) (da:g.DictOf (strKind G.p G.w) a kvs) (db:g.DictOf (strKind G.p G.w) b lvs) (ra:VRe G.p G.w g xs kvs) (rb:VRe G.p G.w g ys lvs) (h:∀s' g',HS G F s' g'→Sub g g'→Q true s'):wpAny (model G.p G.w) A (samePairs id a b) Q E s:=by
 refine Ka fun zn10=>?_;obtain ⟨oa,ea,pa,ga,ca,ta,ka,qa,nda⟩:=da;obtain ⟨ob,eb,pb,gb,cb,tb,kb,qb,ndb⟩:=db;refine zn10 ?_;have lk:kvs.map (·.1)=lvs.map (·.1):=by rw [Ze8 ra,Ze8 rb,ZiE hx]
 have lb:=qb.length;have ll:kvs.length=lvs.length:=by simpa using congrArg List.length lk
 have sa:ea.size=kvs.length:=by rw [←qa.length];rfl
 have sb:eb.size=lvs.length:=by rw [←lb];rfl
 unfold samePairs;unfold showsAll;rw [if_neg (by simpa using na)];refine Kd (Ki ?_);rw [if_neg (by simpa using nb)];refine Kd (Ki ?_);refine Kd (wpAny_dictEntries (H.keep _ _ ga) ta ?_);refine Kd (wpAny_dictEntries (H.keep _ _ gb) tb ?_);rw [if_neg (by simp;omega)];refine Kd (wpAny_dictEpoch (H.keep _ _ ga) ta ?_);refine Kd ?_;rw [Std.Legacy.Range.forIn_eq_forIn_range'];refine wpAny_forIn_list _ (fun rest r s'=>r.1=none∧∃i g',rest=List.range' i (ea.size - i)∧i≤ea.size∧HS G F s' g'∧Sub g g') _ ?_ ?_ _ _ ⟨rfl,0,g,by simp,Q4 _,H,Sub.refl _⟩
 ·rintro x rest r s' ⟨hr0,i,g',hr,hi,H',hs'⟩;have hlt:i<ea.size:=by
   refine Or.elim (Nat.lt_or_ge i ea.size) (fun h=>?_) fun h=>?_
   ·exact h
   ·rw [Nat.sub_eq_zero_of_le h] at hr;simp at hr
  refine Ka fun zn11=>?_;obtain ⟨rfl,hrest⟩:x=i∧rest=List.range' (i+1) (ea.size - (i+1)):=by
   have e:ea.size - i=(ea.size - (i+1))+1:=by exact nG (by assumption)
   rw [e,List.range'_succ] at hr
   injection hr with h1 h2
   exact ⟨h1,h2⟩
  have hk:x<kvs.length:=by exact nP' (by assumption) (by assumption)
  have hl:x<lvs.length:=nP' (by assumption) hk;have hlb:x<eb.size:=by exact nP (by assumption) (by assumption)
  refine Za (Zeo ra hk) fun d e1 v1=>?_;refine Za (Zeo rb hl) fun e e2 v2=>?_;refine oza (ZiO hx e1 e2) fun ek eq=>?_;refine oza (qa.get? (i:=x) (e:=ea[x]) (k:=kvs[x].1) (v:=kvs[x].2) (by simp [hlt]) (by simp [hk])) fun y1 y2=>?_;refine oza (qb.get? (i:=x) (e:=eb[x]) (k:=lvs[x].1) (v:=lvs[x].2) (by simp [hlb]) (by simp [hl])) fun y3 y4=>?_;refine Za (ka ea[x] (Array.getElem_mem hlt)) fun k0 y5 y6=>?_;obtain rfl:k0=kvs[x].1:=(strKind G.p G.w).inj _ _ _ y5 y1;refine zn11 ?_;refine Kd (wpAny_dictEntries (H'.keep _ _ (hs' _ _ ga)) ta ?_);rw [Rx hlt];refine Kd (Rs ?_);rw [y6];refine Kd (wpAny_dictFind_of y1 (H'.keep _ _ (hs' _ _ gb)) tb kb ?_);have hfi:(eb.findIdx? fun e=>(strKind G.p G.w).is kvs[x].1 e.key)=some x:=by
   have:=qb.findIdx kvs[x].1;rw [ek,Zno ndb hl] at this;rw [←this,ek,←List.findIdx?_toArray]
  rw [hfi];refine Kd (wpAny_dictEntries (H'.keep _ _ (hs' _ _ gb)) tb ?_);rw [Rx hlb];refine Rs ?_;rw [y2,y4];refine Kb (eq A F _ _ s' g' h1 h2 h3 H' (VR.sub _ _ hs' _ _ v1) (VR.sub _ _ hs' _ _ v2)) (fun z s2 zq2=>?_) fun j j x=>x.elim;refine YK zq2 fun hz g2 H2 hs2=>?_;subst hz;refine Kd (wpAny_dictEpoch (H2.keep _ _ (hs2 _ _ (hs' _ _ ga))) ta ?_);rw [if_neg (by simp)];exact Ki ⟨rfl,x+1,g2,hrest,hlt,H2,hs'.trans hs2⟩
 ·rintro r s' ⟨hr0,i,g',hr,hi,H',hs'⟩;obtain ⟨r1,r2⟩:=r;subst hr0;exact Ki (h s' g' H' hs')
theorem RcT.dict {xs ys:Qd}(hx:Zfx G need xs ys):RcT G (need+1) (.dict xs) (.dict ys):=fun A F u v s g h1 h2 h3 H h4 h5=>by
 refine Z8 h4 fun a us zo1 na l1 r1=>?_;subst zo1;refine Z8 h5 fun b ws zo2 nb l2 r2=>?_;subst zo2;have k1:=Zz _ _ H.keep l1;have k2:=Zz _ _ H.keep l2;refine wpAny_richCompare_same_room (T:="dict") (id:="dict.__eq__") k1.typeIs k2.typeIs PySem.F.slot_dict_eq (call_meetsIn (S:=fun A' R s'=>A'=A∧s'=s∧∀s' g',HS G F s' g'→Sub g g'→R (.ok (.ret (.bool true))) s') PySem.F.slot_dict_eq k1.typeIs PySem.F.entry_dict_eq (PySem.F.args_dict_eq_2 _ _) ?_ ⟨rfl,rfl,fun s' g' H' hs'=>⟨(fun x=>nomatch x),rfl,g',H',hs'⟩⟩) (by exact nN (by assumption));rintro A' R s' ⟨rfl,rfl,h⟩;refine Kd ?_;refine Kd (wpAny_notOrdered_dict k1.typeIs ?_);refine Ki ?_;refine Kd (wpAny_isInstance k2.typeIs isSubtype_dict_dict ?_);show wpAny _ _ (Builtin.Dict.samePairs _ a b >>= _) _ _ _;exact Kd (Zce hx h1 (by show A'.depth+need<_;exact Nat.le_of_lt (by assumption)) (nU (by assumption) (by decide)) H na nb l1 l2 r1 r2 fun s2 g2 H2 hs2=>Ki (h s2 g2 H2 hs2))
end
end
section
theorem Uv:∀{es:Qd},(∀e∈es,EqT G need e.2 e.2)→Zfx G need es es
 | [],_=>trivial
 | x::xs,h=>⟨rfl,h x (.head _),Uv fun e he=>h e (.tail _ he)⟩
end
section
structure IsX1 (G:Gx) (w:World):Prop where
 k:IsK kk1 G w
 p:G.p=pw1
 gen:GenOk G (kk1 w.params)
 r1:Yd 152∈G.reg
 r2:Yd 287∈G.reg
end
section
open PySem.W
def RcZ (G:Gx) (need:Nat) (a b:D) (r:Bool):Prop :=
 ∀(A:Around) (F:Fz) (u v:Value) (s:Shared) (g:Heap),A.handled=none→A.depth+need<recursionLimit→A.units+8*need+40≤cLine→HS G F s g→VR G.p G.w g a u→VR G.p G.w g b v →
  wpAny (model G.p G.w) A (richCompare .Eq u v) (fun z s'=>z = .bool r∧∃g',HS G F s' g'∧Sub g g') NoE s
theorem RcZ.t {n:Nat}{a b:D}(h:RcZ G n a b true):RcT G n a b:=h
theorem RcT.z {n:Nat}{a b:D}(h:RcT G n a b):RcZ G n a b true:=h
noncomputable def ZqE (K:Frag) (C f:Addr):Bool:=findIn K (.ref C) "__eq__"==some (some (.ref f))&&PySem.W.isFn K (.ref f)
theorem Zcj {C:Addr}{h:Heap}(hs:Sub g h) (H:VR G.p G.w g (.inst C es) v):∃a ox od,v = .ref a∧InstAt h a ox C (some od):=by
 refine Zc H fun a kvs e1 z r0=>?_;refine Za z fun dx e3 d0=>?_;refine ZS (Zz _ _ hs d0) fun od es' ep ho j=>?_;exact ⟨a,_,od,e1,Uq (hs _ _ e3) ho⟩
theorem WF {K:Params→Frag}{w:World}(I:IsK K G w){C f:Addr}{xs ys:Qd}{r:Bool}(ok:ZqE (K w.params) C f=true) (S:Zw G (.ref f) need [.inst C xs,.inst C ys] fun d=>d = .bool r):RcZ G need (.inst C xs) (.inst C ys) r:=fun A F u v s g hh hd hu H h1 h2=>by
 unfold ZqE at ok;rw [Qz] at ok;obtain ⟨X,j⟩:=I.B _ (G.lib.mono _ _ H.keep H.base);obtain ⟨a,ox,od,rfl,I1⟩:=Zcj H.keep h1;obtain ⟨b,ox2,od2,rfl,I2⟩:=Zcj H.keep h2;have hu2:A.units<cLine:=by exact nN (by assumption)
 have one:wpAny (model G.p G.w) A (tryCompare (.ref a) (cmpInfo .Eq).2.1 (.ref b)) (fun q s'=>q=some (.bool r)∧∃g',HS G F s' g'∧Sub g g') NoE s:=by
  unfold tryCompare;refine Kd (ifBound_K X I1 (beq_iff_eq.mp ok.1) ok.2 (Kb (S A F [.ref a,.ref b] s g hh hd hu H ⟨_,_,rfl,h1,_,_,rfl,h2,rfl⟩) (fun v s' z=>?_) fun j j e=>e));obtain ⟨g',d,H',hs,hv,rfl⟩:=z;obtain rfl:v = .bool r:=hv;exact Ki ⟨rfl,g',H',hs⟩
 unfold richCompare;dsimp only [oneThing_ref];refine Rs (Kd (wpAny_cRoomFor hu2 ?_));refine Kd (I1.type.here (Kd (I2.type.here ?_)));rw [if_neg (by simp)];refine Kd (Ki ?_);simp only [Bool.false_eq_true,if_false];refine Kd (Kb one (fun q s' z=>?_) fun j j e=>e);obtain ⟨rfl,hq⟩:=z;exact Ki ⟨rfl,hq⟩
theorem ZcC {p:Program}{w:World}{A:Around}{s:Shared}{a:Addr}(hT:s.TypeIs (.ref a) "dict") (slot:Slot "dict" name "dict.__eq__"):∀Q':Qj,Q' .notImplemented s→wpAny (model p w) A (call (.builtin "dict.__eq__") [.ref a,.none]) Q' E s:=fun Q' hq =>
 call_meetsIn (S:=fun A' R s'=>s'=s∧R (.ok (.ret .notImplemented)) s) slot hT PySem.F.entry_dict_eq (PySem.F.args_dict_eq_2 _ _) (by
  rintro A' R s' ⟨rfl,h⟩;refine Kd ?_;refine Kd (wpAny_notOrdered_dict hT ?_);refine Ki ?_;refine Kd (wpAny_isInstance (T:="NoneType") rfl PySem.F.sub_NoneType_dict ?_);refine Kd (wpAny_rule ?_);exact Ki h) ⟨rfl,hq⟩
theorem Zd2:RcZ G 0 .none (.dict es) false:=fun A F u v s g hh hd hu H h1 h2=>by
 obtain rfl:u = .none:=h1;refine Z8 h2 fun a us zo1 na l1 r1=>?_;subst zo1;have hT:=(Zz _ _ H.keep l1).typeIs
 exact SeqAt.rc_eq_decline_or (k:=false) rfl hT (by decide) PySem.F.sub_dict_NoneType PySem.F.slot_NoneType_eq PySem.F.slot_dict_eq_refl
  (fun j hq=>call_gives PySem.F.slot_NoneType_eq rfl PySem.F.entry_NoneType_eq (PySem.F.args_NoneType_eq_2 _ _) (SeqAt.NoneType___eq___none_ref_0 a) hq)
  (ZcC hT PySem.F.slot_dict_eq_refl) (fun j hq=>wpAny_of_eq (rfl:isSame .none (.ref a)=pure false) hq) (.inr (by exact Ku (Ko _ _) (by assumption))) ⟨rfl,g,H,Sub.refl _⟩
theorem Zdf:RcZ G 0 (.dict es) .none false:=fun A F u v s g hh hd hu H h1 h2=>by
 obtain rfl:v = .none:=h2;refine Z8 h1 fun a us zo1 na l1 r1=>?_;subst zo1;have hT:=(Zz _ _ H.keep l1).typeIs
 exact SeqAt.rc_eq_decline_or (k:=false) hT rfl (by decide) PySem.F.sub_NoneType_dict PySem.F.slot_dict_eq PySem.F.slot_NoneType_eq_refl
  (ZcC hT PySem.F.slot_dict_eq)
  (fun j hq=>call_gives PySem.F.slot_NoneType_eq_refl rfl PySem.F.entry_NoneType_eq (PySem.F.args_NoneType_eq_2 _ _) (SeqAt.NoneType___eq___none_ref_0 a) hq) (fun j hq=>wpAny_of_eq (rfl:isSame (.ref a) .none=pure false) hq) (.inr (by exact Ku (Ko _ _) (by assumption))) ⟨rfl,g,H,Sub.refl _⟩
theorem Wy:RcZ G 0 .none .none true:=fun A F u v s g hh hd hu H h1 h2=>by
 obtain rfl:u = .none:=h1;obtain rfl:v = .none:=h2;exact SeqAt.RcAt.none_none _ _ _ _ ⟨rfl,g,H,Sub.refl _⟩
section
variable {l:Qc}
theorem Yn {x y:D}{r:Bool}(h:RcZ c.G need x y r) (hn:need≤c.fuel) (q:Q ⟨l,o,.d (.bool r)::k⟩):OJ2 c (compareOp .Eq) ⟨l,o,.d y::.d x::k⟩ Q:=fun F a b vs s zq0=>by
 refine ozr zq0 fun g ρ m W=>?_;have hd:=c.hd;have hun:=c.hu;refine wpm (h c.A _ a b s g c.hh (by exact nT (by assumption) (by assumption)) (by exact nK (by assumption) (by assumption)) W.toCall (Zd (Zb W.stk)) (Zd W.stk)) (fun z s' zq1=>?_);refine YK zq1 fun hz g' H' hs=>?_;subst hz;exact ⟨_,⟨g',ρ,m,(W.back H').stack (Zh (a:=.d (.bool r)) rfl (ARs.sub _ _ hs (Ext.refl _) _ _ (Zb (Zb W.stk))))⟩,q⟩
end
end
section
section
variable {s:Shared}{h₁:Heap}{own':Qg}{σ:Qp}
theorem HS.newer (H:HS G F s g){b:Addr}(hb:s.heap.objs.size≤b):g.get? b=none∧(∀r∈G.reg,b≠r.at_)∧∀q∈F.hid,b≠q.1 :=
 ⟨by
  induction e:g.get? b with
  | none=>rfl
  | some o=>exact absurd (Kk (H.keep _ _ e)) (Za7 hb),H.fresh hb⟩
theorem OW.lt (H:OW G F os s g σ){b:Addr}(hb:b∈σ):b<s.heap.objs.size:=by
 refine oze (ZdV hb) fun j e=>?_;have hj:j<os.length:=H.len▸(ZB e).1;exact (OAt.there _ _ _ (H.own j _ b (Ke hj) e)).elim fun u e2=>Kk e2
theorem ZbI (H:OW G F os s g σ) (cG:c.G=G) (cL:c.env.locals=s.heap.objs.size){cn:Qq}(cC:c.cel=cn.zipIdx os.length) (sub:Sub s.heap h₁){m:Qk}(hns:h₁.Ns s.heap.objs.size m){tk:Nat}
 (hloc:∀(i:Nat) a,Zs i loc'=some a→∃x v,c.tab[i]?=some x∧m x=some v∧AR G.p G.w g σ a v) (hlen:own'.length=cn.length)
 (hown:∀(i:Nat) o,own'[i]?=some o→OAt G.p G.w g σ h₁ o (s.heap.objs.size+1+i))
 (hcl:∀(j:Nat) y,cn[j]?=some y→c.env.cells.lookup y=some (s.heap.objs.size+1+j)):RS c {F with g₀:=g} ⟨loc',os++own',[]⟩ [] {s with heap:=h₁,toks:=tk}:=by
 subst cG;have ex0:Ext σ (σ++List.range' (s.heap.objs.size+1) cn.length):=fun i a e=>(Kl (ZB e).1).trans e;have hr:∀b∈σ++List.range' (s.heap.objs.size+1) cn.length,b<s.heap.objs.size∧b∈σ∨s.heap.objs.size<b:=fun b hb=>(ZL hb).imp (fun hb=>⟨H.lt hb,hb⟩) fun hb=>(List.mem_range'_1.mp hb).1;have W1:=H.at_g.grow (s':={s with heap:=h₁,toks:=tk}) sub H.gens H.bare rfl;have hl2:(σ++List.range' (s.heap.objs.size+1) cn.length).length=(os++own').length:=by rw [Qu,Qu,H.len,hlen,List.length_range']
 have hat:∀i:Nat,(σ++List.range' (s.heap.objs.size+1) cn.length)[os.length+i]?=(List.range' (s.heap.objs.size+1) cn.length)[i]?:=fun i=>by rw [Km (H.len▸Ko _ _),H.len,Q6]
 refine ⟨g,σ++List.range' (s.heap.objs.size+1) cn.length,m,{
  toHS:=⟨W1.base,W1.g0,W1.keep,W1.reg,W1.hid,W1.gens,W1.bare,W1.os⟩
  ns:=cL▸hns
  nl:=cL▸(H.newer (Kq _)).1
  loc:=fun y a ha=>?_
  len:=hl2
  nd:=List.nodup_append.mpr ⟨H.nd,List.nodup_range',fun x hx y hy e=>by subst e;exact absurd (List.mem_range'_1.mp hy).1 (Nat.not_le_of_lt (Nat.lt_succ_of_lt (H.lt hx)))⟩
  fr:=fun b hb=>?_
  own:=fun i o a h1 h2=>?_
  stk:=rfl
  cel:=fun y i hy=>?_
  apart:=fun b hb=>?_
  pin:=fun q hq=>ex0 _ _ (H.pin q hq)}⟩
 ·refine Zc (hloc y a ha) fun x v e1 e2 e3=>?_;exact ⟨x,v,e1,e2,AR.sub _ _ (Sub.refl _) ex0 _ _ e3⟩
 ·rw [cL];rcases hr b hb with ⟨h1,h2⟩ | h1
  ·exact ⟨H.fr b h2,Rg h1⟩
  ·exact ⟨(H.newer (Nat.le_of_lt h1)).1,Nat.ne_of_gt h1⟩
 ·refine Or.elim (Nat.lt_or_ge i os.length) (fun hio=>?_) fun hio=>?_
  ·rw [Kl hio] at h1;rw [Kl (H.len.symm▸hio)] at h2;exact OAt.sub _ _ (Sub.refl _) ex0 (fun ob e=>sub _ _ e) o (H.own i o a h1 h2)
  ·refine oze (Nat.exists_eq_add_of_le hio) fun k zo1=>?_;subst zo1;rw [Km hio,Q6] at h1;rw [hat] at h2;have hk:k<cn.length:=hlen▸(ZB h1).1;rw [List.getElem?_range' hk,Nat.one_mul] at h2;obtain rfl:=Kc h2;exact OAt.sub _ _ (Sub.refl _) ex0 (fun ob e=>e) o (hown k o h1)
 ·rw [cC] at hy;obtain ⟨q1,q2⟩:=List.mem_zipIdx_iff_le_and_getElem?_sub.mp hy;refine oze (Nat.exists_eq_add_of_le (q1)) fun k zo2=>?_;subst zo2;have q3:cn[k]?=some y:=by have:cn[os.length+k - os.length]?=some y:=q2;rwa [Q6] at this
  exact ⟨s.heap.objs.size+1+k,by rw [hat,List.getElem?_range' (ZB q3).1,Nat.one_mul],hcl k y q3⟩
 ·rcases ZH hb with rfl | hb
  ·rw [cL];exact (H.newer (Kq _)).2
  ·rcases hr b hb with ⟨h1,h2⟩ | h1
   ·exact H.apart b h2
   ·exact (H.newer (Nat.le_of_lt h1)).2
theorem Wf (cG:c.G=G) (g0:Sub F.g₀ g){st':St}(R1:RS c {F with g₀:=g} st' vs s') (hv:∀g' ρ',ARs c.p c.w g' ρ' st'.stk vs→AR c.p c.w g' ρ' a v) (h:R a st'.own):OPost G F g R v s':=by
 subst cG;refine ozr R1 fun g' ρ' m' W=>?_;exact ⟨g',ρ',a,st'.own,W.toOW.of_g g0,W.g0,hv _ _ W.stk,h⟩
structure CxIs (c:Cx) (G:Gx) (A:Around) (env:Env) (tab:Qq) (cel:List (Str×Nat)) (fuel:Nat):Prop where
 G:c.G=G
 A:c.A=A
 env:c.env=env
 tab:c.tab=tab
 cel:c.cel=cel
 fuel:c.fuel=fuel
theorem ZjG {A:Around}{tab:Qq}{cel:List (Str×Nat)}(G:Gx) (tnd:tab.Nodup) (hk:env.scope.kind = .function) (hg:env.globals=mainGlobals) (hb:env.builtins=builtinsNs) (hh:A.handled=none) (hd:A.depth+(need+1)<recursionLimit) (hu:A.units+8*(need+1)+40≤cLine):
 ∃c,CxIs c G (A.deeper env) env tab cel need :=
 ⟨⟨G,A.deeper env,env,tab,cel,need,tnd,hk,hg,hb,hh,by show A.depth+1+need<_;exact nL (by assumption),nU (by assumption) (by decide)⟩,⟨rfl,rfl,rfl,rfl,rfl,rfl⟩⟩
end
section
variable {f:Addr}{qual:Str}{cd:Value}
theorem ZfK (K:DefAt G f scope qual cd body args.length names){own':Qg}
 (hl:∀q∈loc',∃x,(Zg scope)[q.1]?=some x∧scope.names.lookup x=some .local∧(x,q.2)∈WM names args) (ho:own'=(Zi scope.names).map fun x=>.cell (Zs x (WM names args)))
 (h:∀c:Cx,c.G=G→c.env=Z3 f scope qual cd c.env.locals→c.cel=(Zi scope.names).zipIdx os.length→c.tab=Zg scope→c.fuel=need→XJ c body ⟨loc',os++own',[]⟩ (Zh8 R)):OSpecC G (.ref f) (need+1) os args R:=fun ar F us s g σ hh hd hu H hv=>by
 have hB:=G.lib.mono _ _ H.keep H.base;obtain ⟨ob,fd,e1,e2,e3,hbody,rfl,hgl,hbu,hclo,rfl,rfl,hbi⟩:=K.at_ _ hB;have hlu:=Y8 hv;have hus:ARs G.p G.w g σ (args++List.replicate (names.length - args.length) (.d .none)) (us++List.replicate (names.length - args.length) Value.none):=Xk hv (Ut _);have hbi':=hbi us hlu s hB;generalize hbs:names.zip (us++List.replicate (names.length - args.length) Value.none)=binds at hbi';have hfst:binds.map (·.1)=names:=by
  have:=K.le;rw [←hbs,List.map_fst_zip (by rw [Qu,List.length_replicate,hlu];exact nJ)]
 have hn2:(binds.map (·.1)).Nodup:=hfst▸K.ndn;have hmem:∀x∈binds,x.1∈names:=fun x hx=>hfst▸Ri hx;refine codeAny_call_function (by exact Ku (Ko _ _) (by assumption)) e1 e2 K.co K.gen hbody e3 ?_;refine hbi' _ _ _ _ ?_;rw [hclo,hgl,hbu];refine wpAny_newFunctionEnv_cells K.kind (fun x hx=>?_) fun env he s₁ x=>?_
 ·refine (K.par _ (hmem x hx)).imp id fun q=>⟨q.1,?_⟩;obtain ⟨j,hj,ej⟩:=List.getElem_of_mem q.2;rw [Wm K.nd (j:=j) (by rw [←ej];exact Ke hj)];rfl
 ·obtain rfl:env=Z3 f fd.scope (fd.qualname++".<locals>.") fd.code s.heap.objs.size:=he;refine Ue x.toInCall.same fun h₁ tk zo4=>?_;subst zo4;have sub:Sub s.heap h₁:=x.toInCall.keep;have hcl:∀(j:Nat) y,(Zi fd.scope.names)[j]?=some y→(Z3 f fd.scope (fd.qualname++".<locals>.") fd.code s.heap.objs.size).cells.lookup y=some (s.heap.objs.size+1+j):=fun j y hy=>Wm K.nd hy;have hkd:∀y,(Z3 f fd.scope (fd.qualname++".<locals>.") fd.code s.heap.objs.size).kindOf y=fd.scope.names.lookup y:=fun k=>rfl;have hE:∀e,e=Z3 f fd.scope (fd.qualname++".<locals>.") fd.code s.heap.objs.size→e=Z3 f fd.scope (fd.qualname++".<locals>.") fd.code e.locals∧e.locals=s.heap.objs.size:=fun e q=>by rw [q];exact ⟨rfl,rfl⟩
  have hns:h₁.Ns s.heap.objs.size (bindL (fun y=>fd.scope.names.lookup y) binds fun k=>none):=x.toInCall.ns;have hce:∀n c,(Z3 f fd.scope (fd.qualname++".<locals>.") fd.code s.heap.objs.size).cells.lookup n=some c→h₁.IsCell c (bindC (fun y=>fd.scope.names.lookup y) binds (fun k=>none) n):=x.cell;refine oze (ZjG (env:=Z3 f fd.scope (fd.qualname++".<locals>.") fd.code s.heap.objs.size) (cel:=(Zi fd.scope.names).zipIdx os.length) G K.tnd K.kind rfl rfl hh hd hu) fun c C=>?_;refine ⟨(G.lib.nolimit _ hB).keeps sub,codeAny_func ?_⟩;clear x;have cA:=C.A;rw [←C.env] at hcl hce cA ⊢;rw [←cA];refine oza (hE _ C.env) fun hE1 hE2=>?_;have key:=h c C.G hE1 C.cel C.tab C.fuel {F with g₀:=g} [] _ (ZbI (tk:=tk) H C.G hE2 C.cel sub hns (fun i a ha=>?_) (by rw [ho,Qw]) (fun i o hi=>?_) hcl)
  ·have:=C.G;subst this;refine Kb key (fun fl s' hf'=>?_) fun k k x=>False.elim x;induction fl with
   | ret v =>
    obtain ⟨st',R1,a,hs,hR⟩:=hf';refine Wf rfl H.g0 R1 (fun g' ρ' q=>?_) hR;rw [hs] at q;refine Za (Yp q) fun v' e hv'=>?_
    injection e with zi;subst zi
    exact hv'
   | next =>
    refine ozg hf' fun st' R1 hR=>?_;exact Wf (a:=.d .none) rfl H.g0 R1 (fun k k k=>rfl) hR
   | brk=>refine ozg hf' fun k k h=>?_;exact h.elim
   | cont=>refine ozg hf' fun k k h=>?_;exact h.elim
  ·refine Zt (hl _ (Yy ha)) fun z m0 m2 m1=>?_;refine Za (Ww (names:=names) hus m1) fun v hv1 hv2=>?_;rw [hbs] at hv1;exact ⟨z,v,by rw [C.tab];exact m0,Zfg m2 hn2 hv1,hv2⟩
  ·rw [ho,Ru] at hi;refine Za (YW hi) fun y hy zo5=>?_;subst zo5;refine Za (hce y _ (hcl i y hy)) fun ob q1 q2=>?_;have kn:fd.scope.names.lookup y≠some .local:=by
    rw [K.cell y (Kj hy)];exact fun e=>nomatch e
   rw [ZiW kn hn2] at q2;have z:=ZfV (x:=y) (names:=names) hus;rw [hbs] at z;refine ⟨_,ob,q1,q2,?_⟩;induction hb:binds.lookup y with
   | none=>rw [hb] at z;exact z
   | some u=>rw [hb] at z;exact z
theorem ZeW {fv:Value}{args:Qi}{R:D→Prop}(S:OSpecC G fv need [] (args.map .d) fun a o=>∃d,Frz o 0 a d∧R d):Zw G fv need args R:=fun ar F us s g hh hd hu H hv=>by
 have O0:OW G {F with pin:=[]} [] s g []:={toHS:=⟨H.base,H.g0,H.keep,H.reg,H.hid,H.gens,H.bare,H.os⟩,len:=rfl,nd:=.nil,fr:=fun j h=>(nomatch h),own:=fun j j j h=>(nomatch h),apart:=fun j h=>(nomatch h),pin:=fun j h=>nomatch h};refine wpm (wpAny_call (S ar _ us s g [] hh hd hu O0 (UG.mpr hv))) (fun v s' zq0=>?_);obtain ⟨g',σ',a,os',W,hs,ha,d,hf,hR⟩:=zq0;refine Zt (W.toHS.retire (L:=0) (fun b hb=>(W.apart b hb).1) (fun b hb=>(W.apart b hb).2) W.own hf ha) fun g2 r1 r2 r3=>?_;exact ⟨g2,d,⟨r1.base,r1.g0,r1.keep,r1.reg,r1.hid,r1.gens,r1.bare,r1.os⟩,hs.trans r2,r3,hR⟩
theorem ZfJ {args:Qi}{R:D→Prop}(K:DefAt G f scope qual cd body args.length names){own':Qg}
 (hl:∀q∈loc',∃x,(Zg scope)[q.1]?=some x∧scope.names.lookup x=some .local∧(x,q.2)∈WM names (args.map .d)) (ho:own'=(Zi scope.names).map fun x=>.cell (Zs x (WM names (args.map .d))))
 (h:∀c:Cx,c.G=G→c.env=Z3 f scope qual cd c.env.locals→c.cel=(Zi scope.names).zipIdx→c.tab=Zg scope→c.fuel=need→XJ c body ⟨loc',own',[]⟩ (Ret R)):Zw G (.ref f) (need+1) args R :=
 ZeW (ZfK (by rw [Qw];exact K) hl ho fun c h1 h2 h3 h4 h5=>(h c h1 h2 h3 h4 h5).mono fun fl st q=>by
  induction fl with
  | ret=>refine Zc q fun a d h1 h2 h3=>?_;exact ⟨a,h1,d,h2,h3⟩
  | next=>exact ⟨.none,.d _,q⟩
  | brk=>exact q
  | cont=>exact q)
end
theorem Zd8 {K:Params→W.Frag}{w:World}(I:IsK K G w){C fI:Addr}{args:Qi}{fs:Qd}(hok:UL (K w.params) C fI=true)
 (H:OSpecC G (.ref fI) need [.inst C 1,.dict [] 0] (.own 0::args.map .d) fun a os'=>a = .d .none∧Frz os' 0 (.own 0) (.inst C fs)):Zw G (.ref C) (need+1) args fun d=>d = .inst C fs :=
 ZeW fun A F us s g σ h1 h2 h3 h4 h5=>codeAny_mono (Xn I (os:=[]) (P:=fun os'=>Frz os' 0 (.own 0) (.inst C fs)) hok H A F us s g σ h1 h2 h3 h4 h5) fun r s' q=>by
  induction r with
  | error e=>exact q
  | ok f=>induction f with
   | ret v =>
    obtain ⟨g',σ',a,os',H,hs,hv,rfl,h⟩:=q;exact ⟨g',σ',_,os',H,hs,hv,_,h,rfl⟩
   | _=>exact q
end
section
section
variable {K:Params→W.Frag}{w:World}{f fB C cc:Addr}{ar:Arg}{vs:Array Value}{file:Str}{tf:Tok}{cls ccl cel:Value}{cdd ced:Option Addr}{ccs ces:Array (Option Value)}{cd:ClassData}
theorem Ze3 (I:IsK K G w) (S:SupFacts (K w.params) G.p.main f fB C cc cda names ar vs file tf cls ccl cel cdd ced ccs ces cd){targs:Qh}{P:Qg→Prop}{p0 epos:Pos}{e:Expr}{es:Qs}{sx:Nat}{s:Shared}
 (cG:c.G=G) (cE:c.env=callEnv (Zm (K w.params) f) c.env.locals f) (cT:c.tab=Zg (Zm (K w.params) f).scope) (cF:c.fuel=need) (pl:Sem Bool)
 (hev:eval (.Call (.Attribute (.Call (.Name "super" p0) [] [] p1) "__init__" apos) (e::es) [] pos) c.env=(do
  let ov ←attributeBase (.Call (.Name "super" p0) [] [] p1) "__init__" c.env (eval (.Call (.Name "super" p0) [] [] p1) c.env)
  standAt apos.atName
  let (f,first) ←holding [ov] (getMethod ov "__init__" pl)
  callWith pos f first (backTo pos (starEach (e::es) c.env)) []))
 (hsw:swapsWith (.Call (.Attribute (.Call (.Name "super" p0) [] [] p1) "__init__" apos) (e::es) [] pos) none epos.line c.env=pure false) (hst:Zy (e::es)=true)
 (h0:Zs 0 loc'=some (.own sx)) (hos:os[sx]?=some (.inst C j))
 (T:OSpecC G (.ref fB) need os (.own sx::targs) fun r os'=>r = .d .none∧P os')
 (hargs:GJ c (e::es) ⟨loc',os,[]⟩ fun st1=>st1=⟨loc',os,targs.reverse⟩) (R0:RS c F ⟨loc',os,[]⟩ [] s) :
 PySem.wpAt (model c.p c.w) c.A (.func body c.env) (exec (.Expr (.Call (.Attribute (.Call (.Name "super" p0) [] [] p1) "__init__" apos) (e::es) [] pos) epos) c.env) (fun fl s'=>fl = .next∧∃os',P os'∧RS c F ⟨loc',os',[]⟩ [] s') NoE s:=by
 subst cG;refine Ka fun zn0=>?_;refine ozr R0 fun g ρ m0 W0=>?_;have hB:=c.G.lib.mono _ _ W0.keep W0.base;have X1:=(I.B _ hB).1;refine Za (ZeX X1 S.fn) fun ob e1 e2=>?_;have cS:c.env.scope=(Zm (K w.params) f).scope:=by rw [cE];rfl
 refine Zc (W0.loc 0 _ h0) fun nm self l1 l2 l3=>?_;obtain ⟨a0,l3,l4⟩:=l3;obtain rfl:nm=ar.arg:=by rw [cT,S.arg0] at l1;exact (Kc l1).symm
 refine zn0 ?_;subst l4;refine Ka fun zn1=>?_;obtain ⟨dx,i1,i2⟩:=W0.own sx _ a0 hos l3;refine YK (ZfS I S.sup (show bootBuiltins "super"=some (.type "super") by rfl) (by decide) _ hB) fun zo2 mb' bb1 bb2=>?_;refine Za zo2 fun mg' bg1 bg2=>?_;obtain ⟨oD,D1,D2⟩:∃oD,s.heap.get? C=some oD∧oD.data = .cls cd:=by
  have:=S.clsC;unfold W.clsIn at this;split at this
  ·rename_i ho;obtain rfl:=Kc this;exact ⟨_,X1 _ _ ho,rfl⟩
  ·exact Zp this
 refine zn1 ?_;refine ks_wpAt_Expr_any (ks_wpAt_MethodCall ?_ hev) (ZcG _) hsw;have kS:c.env.kindOf "super"=some .globalImplicit:=by show c.env.scope.names.lookup _=_;exact cS▸S.kS
 have kC:c.env.kindOf "__class__"=some .free:=by show c.env.scope.names.lookup _=_;exact cS▸S.kC
 have kA:c.env.kindOf ar.arg=some .local:=by show c.env.scope.names.lookup _=_;exact cS▸S.arg
 refine ks_wpAt_super_base (f:=f) (cc:=cda) (fd:=Zm (K w.params) f) (ar:=ar) kS kC (by decide) (by rw [cE];rfl) e1 e2 S.head (by rw [cE];exact S.code) (X1 _ _ S.codeAt) rfl S.vs2 S.file S.top ?_;refine PySem.W.ks_loadName_global c.hk kS (loadGlobal_builtin (by rw [c.hg];exact bg1) bg2 (by rw [c.hb];exact bb1) bb2 ⟨rfl,?_⟩);refine wpAny_loadName_free (c:=cc) c.hk kC (by rw [cE];show (Zm (K w.params) f).closure.lookup _=_;rw [S.clo];rfl) ⟨_,X1 _ _ S.cell,rfl⟩ ?_;refine wpAny_loadName_local c.hk kA W0.ns l2 ?_;refine ks_wpAny_isType_cls D1 D2 ⟨rfl,?_⟩;refine ks_wpAny_call_super D1 D2 i2 rfl (fun _ q=>by cases q) (W.looks_mroIn X1 S.mro) fun h2 hso k2=>?_;have X2:(K w.params).In h2:=fun a o q=>k2 _ _ (X1 a o q);have hmeth:=S.meth;unfold PySem.W.ks_superIn at hmeth;rw [S.clsC,Option.bind_some] at hmeth;obtain ⟨of,hof,hofc⟩:∃of,h2.get? fB=some of∧of.cls = .type "function":=by
  have ht':((K w.params).lookup fB).map (·.cls)=some (.type "function"):=S.methT;cases z:(K w.params).lookup fB with
  | none=>replace ht':=z▸ht';exact Zp ht'
  | some of=>replace ht':=z▸ht';exact ⟨of,X2 _ _ z,Kc ht'⟩
 have hne:a0≠C:=fun q=>by
  rw [q,D1] at i2
  have:=Kc i2;replace D2:=this▸D2;cases D2
 refine ks_wpAny_getMethod_super (D:=C) (x:=a0) (C:=C) (f:=fB) (l₀:=cd.mro) (K:=K w.params) hso (PySem.W.looks_opaque X2 S.stat) ?_ rfl X2 hmeth hof hofc hne (by decide) ?_
 ·exact fun A Q E s k q=>Kd ((PySem.W.looks_clsIn X2 S.clsC) A _ E s k (Ki q))
 have Wa:=(W0.grow (s':={s with heap:=h2}) k2 W0.gens W0.bare rfl).alloc {cls:=.type "method",data:=.fields #[.ref fB,.ref a0]} (s.toks+1);have hpush:(h2.push {cls:=.type "method",data:=.fields #[.ref fB,.ref a0]}).get? h2.objs.size=some {cls:=.type "method",data:=.fields #[.ref fB,.ref a0]}:=Kh _ rfl;have W3:=Wa.canon.at_g.pinned (pn:=[(sx,a0)]) fun q hq=>by rw [Q3] at hq;subst hq;exact l3
 have hq3:=Q1 (ZG c.G F (c.env.locals::ρ)) hpush (W0.grow (s':={s with heap:=h2}) k2 W0.gens W0.bare rfl).size_nomut;have hsub3:Sub g (PySem.W.hideAll (h2.push {cls:=.type "method",data:=.fields #[.ref fB,.ref a0]}) (ZG c.G F (c.env.locals::ρ))):=fun b o e=>Q1 _ (Wa.keep b o e) fun hb=>by rw [Wa.nomut b hb] at e;exact Zp e
 generalize PySem.W.hideAll (h2.push {cls:=.type "method",data:=.fields #[.ref fB,.ref a0]}) (ZG c.G F (c.env.locals::ρ))=g3 at W3 hq3 hsub3;clear Wa;generalize h2.push {cls:=.type "method",data:=.fields #[.ref fB,.ref a0]}=h3 at W3 hpush ⊢;generalize h2.objs.size=q at hpush hq3 ⊢;refine PySem.W.callWith_of (P:=fun h=>PySem.W.MethP (K w.params) q fB (.ref a0) h) (by rw [(XA hst).1];rfl) (fun h hP=>PySem.W.keeps_M S.methF h hP) ?_;have key:=hargs _ _ _ pos ⟨g3,ρ,_,W3⟩;have hes:YM e=false:=(Xx (show (!YM e&&Zy es)=true from hst)).1 |> fun q=>by simpa using q
 rw [ZT _ _ hes] at key ⊢;refine evalArgs_plain (wpm key (fun us1 s4 zq0=>?_));refine Ka fun zn3=>?_;obtain ⟨hl1,st1,⟨g4,ρ4,m4,W4⟩,e4⟩:=zq0;refine zn3 ?_;subst e4;have hm4:=W4.keep _ _ (W4.g0 _ _ hq3);refine ⟨⟨hm4,(I.B _ (c.G.lib.mono _ _ W4.keep W4.base)).1⟩,?_⟩;have p4:ρ4[sx]?=some a0:=W4.pin (sx,a0) (.head _);refine Ka fun zn4=>?_;obtain ⟨σ4,j1,j2,j3,O4⟩:=W4.lend (is:=List.range os.length) (os:=os) List.nodup_range (Rk).symm (fun j i e=>by
  obtain ⟨a,b⟩:=ZB e;obtain rfl:j=i:=(List.getElem_range a).symm.trans b;have hj:j<os.length:=Nat.lt_of_lt_of_eq a Rk;refine ⟨os[j],Ke hj,?_⟩;rw [Zar,Zbl];exact Ke hj)
 refine zn4 ?_;have q4:=ZaX W4.stk;rw [Rj,List.reverse_reverse,List.reverse_reverse] at q4;have j1':∀k:Nat,ρ4[k]?=σ4[k]?:=fun k=>by have:=j1 k;rw [Zar] at this;exact this
 have q5:ARs c.p c.w g4 σ4 targs us1:=(Zbb (ι:=id) j1').mp (by rw [Uk,List.map_id];exact q4);have hun:=c.hu;refine wpAny_call (ks_codeAny_call_bound hm4 (codeAny_mono (T c.A _ (.ref a0::us1) s4 g4 σ4 c.hh (by rw [←cF];exact c.hd) (by rw [←cF];omega) O4 ⟨_,_,rfl,⟨a0,(j1' sx).symm.trans p4,rfl⟩,q5⟩) fun r s5 hr=>?_));rcases r with e | (v | _ | _ | _) <;> first | exact hr.elim | skip
 refine Ka fun zn5=>?_;obtain ⟨g5,σ5,a5,os5,O5,hs5,av5,rfl,hP5⟩:=hr;refine Zt (W4.got j1 j2 j3 List.nodup_range O5 hs5) fun ρ5 _ _ W5=>?_;refine zn5 ?_;have hlen5:os.length≤os5.length:=by
  rw [←O5.len];cases hz:os.length with
  | zero=>exact Q4 _
  | succ k =>
   have h1:k<σ4.length:=by rw [j2,Rk,hz];exact Nat.lt_succ_self k
   exact (List.getElem?_eq_some_iff.mp (O5.pin (k,σ4[k]) (Un (Ke h1)))).1
 have W6:=W5.stack (k:=[]) (us:=[]) rfl;simp only [Zfc rfl hlen5] at W6;exact ⟨rfl,os5,hP5,RS.of_g (W0.g0.trans hsub3) ⟨g5,ρ5,m4,W6.unpin⟩⟩
theorem ZdU (I:IsK K G w) (S:SupFacts (K w.params) G.p.main f fB C cc cda names ar vs file tf cls ccl cel cdd ced ccs ces cd){n:Nat}{targs:Qh}{P:Qg→Prop}{p0 epos:Pos}{e:Expr}{es:Qs}{rest:Qr}{sx:Nat}
 (hbody:(Zm (K w.params) f).body = .stmts (.Expr (.Call (.Attribute (.Call (.Name "super" p0) [] [] p1) "__init__" apos) (e::es) [] pos) epos::rest))
 (pl:Env→Sem Bool)
 (hev:∀env:Env,eval (.Call (.Attribute (.Call (.Name "super" p0) [] [] p1) "__init__" apos) (e::es) [] pos) env=(do
  let ov ←attributeBase (.Call (.Name "super" p0) [] [] p1) "__init__" env (eval (.Call (.Name "super" p0) [] [] p1) env)
  standAt apos.atName
  let (f,first) ←holding [ov] (getMethod ov "__init__" (pl env))
  callWith pos f first (backTo pos (starEach (e::es) env)) []))
 (hsw:∀env:Env,swapsWith (.Call (.Attribute (.Call (.Name "super" p0) [] [] p1) "__init__" apos) (e::es) [] pos) none epos.line env=pure false) (hst:Zy (e::es)=true)
 (hn:args.length=n) (hle:n≤names.length) (hbind:∀us:Qo,us.length=n→∀S,W.peek (K w.params) S (bindArgs (Zm (K w.params) f) ⟨us,[]⟩)=some (names.zip (us++List.replicate (names.length - n) Value.none)))
 (hl:∀q∈loc',∃x,(Zg (Zm (K w.params) f).scope)[q.1]?=some x∧(x,q.2)∈WM names args) (h0:Zs 0 loc'=some (.own sx)) (hos:os[sx]?=some (.inst C j))
 (T:OSpecC G (.ref fB) need os (.own sx::targs) fun r os'=>r = .d .none∧P os')
 (hargs:∀c:Cx,c.G=G→c.env=callEnv (Zm (K w.params) f) c.env.locals f→c.tab=Zg (Zm (K w.params) f).scope→c.cel=[]→c.fuel=need→GJ c (e::es) ⟨loc',os,[]⟩ fun st1=>st1=⟨loc',os,targs.reverse⟩)
 (hrest:∀c:Cx,c.G=G→c.env=callEnv (Zm (K w.params) f) c.env.locals f→c.tab=Zg (Zm (K w.params) f).scope→c.cel=[]→c.fuel=need→∀os',P os'→XJ c rest ⟨loc',os',[]⟩ (Zh8 R)):OSpecC G (.ref f) (need+1) os args R:=fun A F us s g σ hh hd hu H hv=>by
 have hB:=G.lib.mono _ _ H.keep H.base;have X0:=(I.B _ hB).1;refine Za (ZeX X0 S.fn) fun ob e1 e2=>?_;have hlu:us.length=n:=(Y8 hv).trans hn;have hbi:=W.kp_binds X0 (hbind us hlu);have hus:ARs G.p G.w g σ (args++List.replicate (names.length - n) (.d .none)) (us++List.replicate (names.length - n) Value.none):=Xk hv (Ut _);unfold WM at hl;replace hl:=hn▸hl;generalize hbs:names.zip (us++List.replicate (names.length - n) Value.none)=binds at hbi;have hfst:binds.map (·.1)=names:=by rw [←hbs,List.map_fst_zip (by rw [Qu,List.length_replicate,hlu];exact nJ)]
 refine ks_codeAny_call_defAt (by exact Ku (Ko _ _) (by assumption)) e1 e2 (G.lib.nolimit _ hB) (W.codeRec_of X0 S.codeIn) hbody hbi (fun x hx=>by simpa using Zd4 S.ncell x hx) (fun x hx=>beq_iff_eq.mp (Zd4 S.par x.1 (hfst▸Ri hx))) (fun h₁ hns sub=>?_) S.co S.gen S.kind;have hE:∀e,e=callEnv (Zm (K w.params) f) s.heap.objs.size f→e=callEnv (Zm (K w.params) f) e.locals f∧e.locals=s.heap.objs.size:=fun e q=>by exact q▸⟨rfl,rfl⟩
 refine oze (ZjG (env:=callEnv (Zm (K w.params) f) s.heap.objs.size f) (tab:=Zg (Zm (K w.params) f).scope) (cel:=[]) G S.tnd S.kind S.gl S.bu hh hd hu) fun c C=>?_;have cA:=C.A;refine oza (hE _ C.env) fun hE1 hE2=>?_;rw [←C.env] at cA ⊢;rw [←cA];have cG:=C.G;subst cG;have R0:RS c {F with g₀:=g} ⟨loc',os++[],[]⟩ [] {s with heap:=h₁,toks:=s.toks+binds.length}:=ZbI (cn:=[]) H rfl hE2 C.cel sub hns (fun i a ha=>by
  refine Za (hl _ (Yy ha)) fun z m0 m1=>?_;refine Za (Ww (names:=names) hus m1) fun v hv1 hv2=>?_;rw [hbs] at hv1;exact ⟨z,v,by rw [C.tab];exact m0,ZdF (by rw [List.map_reverse,hfst];exact (List.reverse_perm _).nodup_iff.mpr S.ndn) (List.mem_reverse.mpr hv1),hv2⟩) rfl (fun u u h=>nomatch h) (fun u u h=>nomatch h)
 rw [Rj] at R0;refine ks_wpAt_execs_cons (ks_wpAt_mono (Ze3 I S rfl hE1 C.tab C.fuel (pl c.env) (hev _) (hsw _) hst h0 hos T (hargs c rfl hE1 C.tab C.cel C.fuel) R0) (fun fl s' hq=>?_) fun u u x=>False.elim x);refine YK hq fun zo1 os' hP R1=>?_;subst zo1;refine wpAt_of_wpAny (Kb (hrest c rfl hE1 C.tab C.cel C.fuel os' hP _ [] s' R1) (fun fl s2 hf'=>?_) fun u u x=>False.elim x);induction fl with
 | ret v =>
  obtain ⟨st',R1,a,hs,hR⟩:=hf';refine Wf rfl H.g0 R1 (fun g' ρ' q=>?_) hR;rw [hs] at q;refine Za (Yp q) fun v' e hv'=>?_;cases e;exact hv'
 | next =>
  obtain ⟨st',R1,hR⟩:=hf';exact Wf (a:=.d .none) rfl H.g0 R1 (fun u u u=>rfl) hR
 | brk=>obtain ⟨u,u,h⟩:=hf';exact h.elim
 | cont=>obtain ⟨u,u,h⟩:=hf';exact h.elim
end
end
section
variable {l:Qc}
theorem ZeN {xs:Qi}(hl:xs.length≤1000000) (q:Q ⟨l,o,.d (.list xs)::k⟩):CJ c 1 ⟨l,o,.d (.list xs)::.d (.val (.type "list"))::k⟩ Q :=
 ZkH (as:=[.d (.list xs)]) rfl (fun j=>XB) (fun F st vs s g ρ m us W h Q' hq=>by
  refine Za (Yp h) fun u zo1 h1=>?_;subst zo1;refine Zc h1 fun a us e1 hf hr=>?_;subst e1;refine Zt hf fun ob ho hc hd=>?_;refine oze hd fun n hd=>?_;have hlen:us.length=xs.length:=ZU hr;exact call_list_seq a (T:="list") (.inl rfl) (W.keep _ _ ho) hc hd (fun h' c' hk hl=>hq _ _ _ hk fun g' hs hg=>⟨_,us,rfl,⟨_,hg _ _ (Kq _) hl,rfl,c',rfl⟩,VRs.sub _ _ hs _ _ hr⟩) (by rw [sizeLine_eq];rw [List.size_toArray,hlen];lia)) q
theorem ZkA {p:Program}{w:World}(hr:VRe p w g es kvs):∀vs:Qo,vs.length=kvs.length→(∀(j:Nat) v,vs[j]?=some v→∃(k:Str) (x:Value),kvs[j]?=some (k,x)∧∃t,v = .str k t)→VRs p w g (es.map fun e=>D.str e.1) vs:=by
 induction es generalizing kvs with
 | nil=>intro vs h y;obtain rfl:kvs=[]:=hr;exact Re h
 | cons e es ih =>
  intro vs h hv;refine Zc hr fun v r zo1 y hr2=>?_;subst zo1;induction vs using LLc with
  | nil=>simp at h
  | cons u vs =>
   refine Ue (hv 0 u rfl) fun k x z=>?_;refine oza z fun e1 e2=>?_;obtain rfl:=congrArg Prod.fst (Kc e1);exact ⟨u,vs,rfl,e2,ih hr2 vs (Rm h) fun j v q=>hv (j+1) v q⟩
theorem ZeU (hl:es.length≤1000000) (q:Q ⟨l,o,.d (.list (es.map fun e=>.str e.1))::k⟩):CJ c 1 ⟨l,o,.d (.dict es)::.d (.val (.type "list"))::k⟩ Q :=
 ZkH (as:=[.d (.dict es)]) rfl (fun r=>XB) (fun F st vs s g ρ m us W h Q' hq=>by
  refine Za (Yp h) fun u zo1 h1=>?_;subst zo1;refine Z8 h1 fun b kvs e1 hn l2 r2=>?_;subst e1;refine ZS (Zz _ _ W.keep l2) fun ob es' ep e1 e2=>?_;have hm:s.heap.DictAt (strKind c.p c.w) b kvs ep:=⟨ob,es',e1,e2⟩;refine PySem.W.kdl_call (PySem.W.kdl_dict (knd:=strKind c.p c.w) (Zdx hn)) c.hh hm (by rw [sizeLine_eq,Zbp r2];lia) fun h' tk acc' c' hk hl hi=>hq _ _ _ hk fun g' hs hg=>⟨_,acc'.toList,rfl,⟨_,hg _ _ (Kq _) hl,rfl,c',by rfl⟩,?_⟩;refine ZkA (VRe.sub _ _ hs _ _ r2) acc'.toList (by simp [hi.1]) fun j v hv=>?_;refine Ue (hi.2 j v (by simpa using hv)) fun k x z=>?_;exact ⟨k,x,z.1,Zbj z.2⟩) q
end
section
set_option genSizeOf false
set_option genInjectivity false
inductive Sl where | l (i:Nat) | c (i:Nat)
inductive Tg where | one (s:Sl) | tup (ss:List Sl)
inductive Bi where | len | range1 | list
inductive Me where | append | join | startswith
inductive Md where | pop1 | pop2 | upd
inductive Sr where | val | enum
set_option genCtorIdx false in
inductive Pr where
 | lit (d:D) | loc (i:Nat) | cell (i:Nat) | bin (op:Operator) | cmp (op:CmpOp) | un (op:UnaryOp)
 | sub | cut | list (n:Nat) | listO (n:Nat) | tup (n:Nat) | dict0 | bi (b:Bi) | me (m:Me) | st (s:Sl) | pop | set | nm (x:Str)
set_option genCtorIdx false in
inductive C where
 | nil | tru | ret | brk | cont | bad
 | o (p:Pr) (k:C) | slc (x y z:Bool) (a b d k:C) | dict (ks:Qq) (vs k:C) | boo (and:Bool) (a b k:C)
 | call (n:Nat) (k:C) | bi (b:Bi) (as k:C) | mth (m:Me) (as k:C) | meth (x:Str) (n:Nat) (as k:C) | attr (x:Str) (cs:Qp) (k:C) | stA (x:Str) (cs:Qp) (k:C) | mtd (m:Md) (as k:C) | raw (ts:Qr) (k:C)
 | sel (t a b k:C) | wh (n:Nat) (t b k:C) | for_ (z:Bool) (s:Sr) (t:Tg) (b k:C)
 | notT (t:C) | andT (s t:C) | orT (s t:C)
 | mark (is:List Nat) (k:C) | blk (is:List Nat) (a k:C)
 | comp (s:Sr) (n m:Nat) (it:C) (t:Tg) (b k:C)
set_option genCtorIdx false in
inductive Fw where | next | brk | cont | ret | b (z:Bool)
abbrev Qa:=Fw→St→Prop
noncomputable abbrev Zds {α:Type}(o:Option α) (f:α→Prop) (e:Prop):Prop:=@Option.rec α (fun j=>Prop) e (fun a=>f a) o
noncomputable abbrev opt {α:Type}(o:Option α) (f:α→Prop):Prop:=Zds o f False
noncomputable abbrev Sel (b:Bool) (P Q:Prop):Prop:=@Bool.rec (fun j=>Prop) Q P b
noncomputable abbrev Ok (b:Bool) (P:Prop):Prop:=Sel b P False
inductive Stop (P:Prop):Prop | mk (h:P)
noncomputable def nxt (P:Qf) (Q:Qa):Qa
 | .next,st=>P st
 | f,st=>Q f st
noncomputable def nx (P:Qf):Qa
 | .next,st=>P st
 | _,_=>False
noncomputable def onB (P:Bool→St→Prop):Qa
 | .b z,st=>P z st
 | _,_=>False
noncomputable def lpW (I:Qf) (Q:Qa):Qa
 | .next,st=>I st
 | .cont,st=>I st
 | .brk,st=>Q .next st
 | f,st=>Q f st
theorem Zf {α:Type}{o:Option α}{f:α→Prop}{e:Prop}{a:α}(h:o=some a) (q:f a):Zds o f e:=by subst h;exact q
theorem YE {α:Type}{o:Option α}{f:α→Prop}{e:Prop}(h:Zds o f e):(∃a,o=some a∧f a)∨e:=by
 induction o with
 | none=>exact .inr h
 | some a=>exact .inl ⟨a,rfl,h⟩
theorem Yq {α:Type}{o:Option α}{f:α→Prop}(h:opt o f):∃a,o=some a∧f a:=(YE h).elim id False.elim
theorem Yr {b:Bool}{Q:Prop}(h1:b=true→P) (h2:b=false→Q):Sel b P Q:=by
 induction b with
 | true=>exact h1 rfl
 | false=>exact h2 rfl
theorem Zad {b:Bool}(h:b=true) (q:P):Ok b P:=by subst h;exact q
theorem Zbt {b:Bool}(h:Ok b P):b=true∧P:=by
 induction b with
 | true=>exact ⟨rfl,h⟩
 | false=>exact h.elim
theorem Y7 {b:Bool}{Q:Prop}(h:Sel b P Q):(b=true→P)∧(b=false→Q):=by
 induction b with
 | true=>exact ⟨fun j=>h,fun e=>nomatch e⟩
 | false=>exact ⟨fun e=>(nomatch e),fun j=>h⟩
noncomputable def asI:A→Option Int
 | .d (.int x)=>some x
 | _=>none
noncomputable def asS:A→Option Str
 | .d (.str x)=>some x
 | _=>none
noncomputable def asL:A→Option (Qi)
 | .d (.list x)=>some x
 | _=>none
noncomputable def asB:A→Option Bool
 | .d (.bool x)=>some x
 | _=>none
noncomputable def Xr {α β γ:Type}(x:Option α) (y:Option β) (f:α→β→Option γ) (e:Option γ):Option γ:=match x with
 | some a=>(match y with | some b=>f a b | none=>e)
 | none=>e
noncomputable def ifO {γ:Type}(p:Prop) [Decidable p](x:Option γ):Option γ:=if p then x else none
noncomputable def WU (o:Qg) (i:Nat):Option (Qh):=match o[i]? with
 | some (.list xs)=>some xs
 | _=>none
noncomputable def lsA (o:Qg):A→Option (Qh)
 | .d (.list ds)=>some (ds.map .d)
 | .own i=>WU o i
 | _=>none
mutual
noncomputable def Zpe:Nat→D→D→Bool
 | _,.none,.none=>true
 | _,.bool _,.bool _=>true
 | _,.int _,.int _=>true
 | _,.str _,.str _=>true
 | n+1,.list xs,.list ys=>fitLB n xs ys
 | n+1,.tuple xs,.tuple ys=>fitLB n xs ys
 | _,_,_=>false
noncomputable def fitLB:Nat→List D→List D→Bool
 | n,x::xs,y::ys=>Zpe n x y&&fitLB n xs ys
 | _,_,_=>true
end
noncomputable def Zrp (o:Qg):A→Option Bool
 | .d x=>(match x with
  | .bool b=>some b
  | .int i=>some (i != 0)
  | .none=>some false
  | .str x=>ifO (x.length≤1000000) (some ((x.length:Int) != 0))
  | .list xs=>ifO (xs.length≤1000000) (some (!xs.isEmpty))
  | _=>none)
 | .own i=>(WU o i).bind fun xs=>ifO (xs.length≤1000000) (some (!xs.isEmpty))
 | .view _ _=>none
noncomputable def Zqd (l:Qc) (o:Qg) (r:Qh) (op:Operator) (a b:A):Option St:=match op with
 | .Add=>Xr (asI a) (asI b) (fun x y=>some ⟨l,o,.d (.int (x+y))::r⟩) (Xr (asS a) (asS b) (fun x y=>ifO (x.length+y.length≤sizeLine) (some ⟨l,o,.d (.str (x++y))::r⟩)) none)
 | .Sub=>Xr (asI a) (asI b) (fun x y=>some ⟨l,o,.d (.int (x - y))::r⟩) none
 | .Mult=>Xr (asI a) (asI b) (fun x y=>ifO (y.natAbs<18446744073709551616) (some ⟨l,o,.d (.int (x*y))::r⟩)) none
 | .Mod=>Xr (asI a) (asI b) (fun x y=>ifO (y≠0) (some ⟨l,o,.d (.int (x.fmod y))::r⟩)) none
 | .FloorDiv=>Xr (asI a) (asI b) (fun x y=>ifO (y≠0∧y.natAbs<1073741824) (some ⟨l,o,.d (.int (x.fdiv y))::r⟩)) none
 | .Pow=>Xr (asI a) (asI b) (fun x y=>ifO ((x=2∨x=16)∧0≤y∧y≤64) (some ⟨l,o,.d (.int (x ^ y.toNat))::r⟩)) none
 | .RShift=>Xr (asI a) (asI b) (fun x y=>ifO (0≤y) (some ⟨l,o,.d (.int (x.fdiv (2 ^ y.toNat)))::r⟩)) none
 | _=>none
noncomputable def Zra:D→Option Bool
 | .none=>some true
 | .val _=>none
 | _=>some false
noncomputable def isN:A→Option Bool
 | .d x=>Zra x
 | .own _=>some false
 | .view _ _=>none
noncomputable def Zd0:A→Bool
 | .d .none=>true
 | _=>false
noncomputable def ZaI:Qi→Option (Qq)
 | []=>some []
 | .str x::r=>(ZaI r).map (x::·)
 | _::_=>none
noncomputable def eqL (x y:Qi):Option Bool:=match y with
 | []=>some x.isEmpty
 | _=>ifO (fitLB 20 x y=true) (some (deqs x y))
noncomputable def Zh5 (op:CmpOp) (a b:A):Option Bool:=match op with
 | .Eq=>Xr (asI a) (asI b) (fun x y=>some (x==y)) (Xr (asS a) (asS b) (fun x y=>some (x==y)) (Xr (asL a) (asL b) eqL none))
 | .NotEq=>Xr (asI a) (asI b) (fun x y=>some (x != y)) (Xr (asS a) (asS b) (fun x y=>some (x != y)) (Xr (asL a) (asL b) (fun x y=>(eqL x y).map (!·)) none))
 | .Lt=>Xr (asI a) (asI b) (fun x y=>some (decide (x<y))) none
 | .LtE=>Xr (asI a) (asI b) (fun x y=>some (decide (x≤y))) none
 | .Gt=>Xr (asI a) (asI b) (fun x y=>some (decide (y<x))) none
 | .Is=>(match Zd0 b with | true=>isN a | false=>none)
 | .IsNot=>(match Zd0 b with | true=>(isN a).map (!·) | false=>none)
 | _=>none
noncomputable def unA (op:UnaryOp) (a:A):Option A:=match op with
 | .Not=>(asB a).map fun x=>.d (.bool !x)
 | _=>none
noncomputable def ZfO {α:Type}(n:Int) (xs:List α):Option α:=match n with
 | .ofNat i=>ifO (i<9223372036854775808) xs[i]?
 | .negSucc _=>none
noncomputable def ZcV (o:Qg) (b:A):A→Option A
 | .d x=>(match x with
  | .list xs=>(asI b).bind fun n=>(ZfO n xs).map .d
  | .str xs=>(asI b).bind fun n=>(ZfO n xs.cps.toList).map fun x=>.d (.str ⟨#[x]⟩)
  | .dict es=>(asS b).bind fun x=>(Yk x es).map .d
  | _=>none)
 | _=>none
noncomputable def Zqn:A→Option (Option Int×Option Int×Option Int)
 | .d (.slice lo hi st)=>some (lo,hi,st)
 | _=>none
noncomputable def ZqJ (o:Qg) (b a:A):Option A:=(Zqn b).bind fun s=>match s.2.2 with
 | none=>(match a with
  | .d (.list xs)=>ifO (xs.length≤1000000) (some (.d (.list (cut xs s.1 s.2.1))))
  | .d (.str xs)=>ifO (xs.length≤1000000) (some (.d (.str (Zae xs s.1 s.2.1))))
  | _=>none)
 | some _=>none
noncomputable abbrev Zjb (m n:Int):Prop:=m=0∧n.natAbs≤32
noncomputable def slF (s:Sl) (x:A) (l:Qc) (o:Qg) (r:Qh):Option St:=match s with
 | .l i=>some ⟨(i,x)::l,o,r⟩
 | .c i=>(match o[i]? with | some (.cell _)=>some ⟨l,o.set i (.cell (some x)),r⟩ | _=>none)
noncomputable def ZkN (o:Qg) (a:A):Option Nat:=match lsA o a with
 | some xs=>some xs.length
 | none=>(match a with | .d (.str xs)=>some xs.length | _=>none)
noncomputable def biA (b:Bi) (l:Qc) (o:Qg) (a:A) (r:Qh):Option St:=match b with
 | .len=>(ZkN o a).bind fun n=>ifO (n<4611686018427387904) (some ⟨l,o,.d (.int n)::r⟩)
 | .range1=>(asI a).map fun n=>⟨l,o,.d (.range 0 n)::r⟩
 | .list=>(match a with
  | .d x=>(match x with
   | .list xs=>ifO (xs.length≤1000000) (some ⟨l,o,.d (.list xs)::r⟩)
   | .dict es=>ifO (es.length≤1000000) (some ⟨l,o,.d (.list (es.map fun e=>.str e.1))::r⟩)
   | _=>none)
  | _=>none)
noncomputable def Zp2 (m:Me):St→Bool
 | ⟨_,o,a::_⟩=>(match m with
  | .append=>(match a with | .own i=>(WU o i).isSome | _=>false)
  | _=>(asS a).isSome)
 | _=>false
noncomputable def meA (m:Me) (l:Qc) (o:Qg) (b a:A) (r:Qh):Option St:=match m with
 | .append=>(match a with | .own i=>(WU o i).bind fun xs=>ifO (xs.length≤1000000) (some ⟨l,o.set i (.list (xs++[b])),.d .none::r⟩) | _=>none)
 | .join=>Xr (asS a) (asL b) (fun x xs=>(ZaI xs).bind fun ys=>ifO (x.length≤16∧(ys.map (·.length)).sum+ys.length≤1048576) (some ⟨l,o,.d (.str (Txt.join x ys))::r⟩)) none
 | .startswith=>Xr (asS a) (asS b) (fun x y=>some ⟨l,o,.d (.bool (Txt.startswith x y))::r⟩) none
noncomputable def Xd (p:Pr):St→Option St
 | ⟨l,o,s⟩=>(match p with
  | .lit d=>some ⟨l,o,.d d::s⟩
  | .loc i=>(Zs i l).map fun a=>⟨l,o,a::s⟩
  | .cell i=>(match o[i]? with | some (.cell (some a))=>some ⟨l,o,a::s⟩ | _=>none)
  | .list n=>(Ziw n s).map fun q=>⟨l,o,.d (.list q.1)::q.2⟩
  | .listO n=>(Zii n s).map fun q=>⟨l,o++[.list q.1],.own o.length::q.2⟩
  | .tup n=>(Ziw n s).map fun q=>⟨l,o,.d (.tuple q.1)::q.2⟩
  | .dict0=>some ⟨l,o++[.dict [] 0],.own o.length::s⟩
  | .nm _=>none
  | p=>(match s with
   | []=>none
   | b::s=>(match p with
    | .un op=>(unA op b).map fun x=>⟨l,o,x::s⟩
    | .bi f=>biA f l o b s
    | .st i=>slF i b l o s
    | .pop=>some ⟨l,o,s⟩
    | p=>(match s with
     | []=>none
     | a::r=>(match p with
      | .bin op=>Zqd l o r op a b
      | .cmp op=>(Zh5 op a b).map fun z=>⟨l,o,.d (.bool z)::r⟩
      | .sub=>(ZcV o b a).map fun x=>⟨l,o,x::r⟩
      | .cut=>(ZqJ o b a).map fun x=>⟨l,o,x::r⟩
      | .me m=>meA m l o b a r
      | _=>none)))))
def PrJ (c:Cx) (p:Pr) (st:St) (Q:Qf):Prop:=match p with
 | .bin op=>OJ2 c (binaryOp op) st Q
 | .cmp op=>OJ2 c (compareOp op) st Q
 | .un op=>OJ1 c (unaryOp op) st Q
 | .set=>TIJ c st Q
 | .nm x=>∀p,EJ c (.Name x p) st Q
 | _=>False
noncomputable def orE {α γ:Type}(x:Option α) (u:α→Option γ) (v:Option γ):Option γ:=match x with
 | some a=>u a
 | none=>v
noncomputable def U5 (o:Qg) (i:Nat):Option (Addr×Nat):=match o[i]? with
 | some (.inst C j)=>some (C,j)
 | _=>none
noncomputable def Y4 (o:Qg) (i:Nat):Option (Qe):=match o[i]? with
 | some (.dict es _)=>some es
 | _=>none
noncomputable def gaF (x:Str) (cs:Qp):St→Option St
 | ⟨l,o,a::s⟩=>(match a with
  | .d (.inst C es)=>ifO (cs.contains C=true) ((Z5 es x).bind fun d=>ifO (ZaJ (.d d)=true) (some ⟨l,o,.d d::s⟩))
  | .own i=>(U5 o i).bind fun z=>ifO (cs.contains z.1=true) ((Y4 o z.2).bind fun es=>(Z5 es x).bind fun a=>ifO (ZaJ a=true) (some ⟨l,o,a::s⟩))
  | _=>none)
 | _=>none
noncomputable def saF (x:Str) (cs:Qp):St→Option (Nat→St)
 | ⟨l,o,b::a::s⟩=>(match b with
  | .own i=>(U5 o i).bind fun z=>ifO (cs.contains z.1=true) ((Y4 o z.2).bind fun es=>ifO (es.length≤1000) (some fun ep=>⟨l,o.set z.2 (.dict (Z6 es x a) ep),s⟩))
  | _=>none)
 | _=>none
noncomputable def ZpA:St→Bool
 | ⟨_,o,.own i::_⟩=>(Y4 o i).isSome
 | _=>false
noncomputable def mdF (m:Md):St→Option (Nat→St)
 | ⟨l,o,b::a::s⟩=>(match m with
  | .pop1=>(match a with
   | .own i=>(asS b).bind fun x=>(Y4 o i).bind fun es=>(Z5 es x).bind fun v=>ifO (es.length≤1000) (some fun ep=>⟨l,o.set i (.dict (YR es x) ep),v::s⟩)
   | _=>none)
  | .pop2=>(match s with
   | .own i::s=>(asS a).bind fun x=>(Y4 o i).bind fun es=>(match Z5 es x with
    | some v=>ifO (es.length≤1000) (some fun ep=>⟨l,o.set i (.dict (YR es x) ep),v::s⟩)
    | none=>some fun j=>⟨l,o,b::s⟩)
   | _=>none)
  | .upd=>(match a with
   | .own i=>(match b with
    | .d (.dict more)=>(Y4 o i).bind fun es=>ifO (es.length+more.length≤1000) (some fun ep=>⟨l,o.set i (.dict (Zbk es (more.map fun e=>(e.1,A.d e.2))) ep),.d .none::s⟩)
    | _=>none)
   | _=>none))
 | _=>none
noncomputable def upF:Fl→Fw
 | .next=>.next
 | .brk=>.brk
 | .cont=>.cont
 | .ret=>.ret
noncomputable def Zos:List Sl→List D→St→Option St
 | [],[],st=>some st
 | s::ss,d::ds,⟨l,o,r⟩=>(slF s (.d d) l o r).bind fun st1=>Zos ss ds st1
 | _,_,_=>none
noncomputable def tgF (t:Tg) (a:A):St→Option St
 | ⟨l,o,r⟩=>(match t with
  | .one s=>slF s a l o r
  | .tup ss=>(match a with | .d (.tuple ds)=>Zos ss ds ⟨l,o,r⟩ | _=>none))
noncomputable abbrev Kp:=Option (Nat×Qh)
def okS (k:Kp) (st:St):Prop:=match k with
 | none=>True
 | some (j,xs)=>st.own[j]?=some (.list xs)
def okP (k:Kp) (st:St) (P:Prop):Prop:=match k with
 | none=>P
 | some (j,xs)=>st.own[j]?=some (.list xs)∧P
noncomputable def itD:D→Option (Qi)
 | .list xs=>some xs
 | .range m n=>ifO (Zjb m n) (some ((List.range (n - m).toNat).map fun (i:Nat)=>D.int (m+i)))
 | .dict es=>some (es.map fun e=>D.str e.1)
 | _=>none
noncomputable def itF (s:Sr) (t:Tg):St→Option (Kp×List A×St)
 | ⟨l,o,a::r⟩=>(match s with
  | .val=>(match t with
   | .one _=>(match a with
    | .d x=>(itD x).map fun xs=>(none,xs.map .d,⟨l,o,r⟩)
    | .own j=>(WU o j).map fun xs=>(some (j,xs),xs,⟨l,o,r⟩)
    | .view _ _=>none)
   | .tup _=>none)
  | .enum=>(asL a).map fun xs=>(none,(xs.zipIdx.map fun q=>[D.int (q.2:Int),q.1]).map fun x=>.d (.tuple x),⟨l,o,r⟩))
 | _=>none
noncomputable abbrev Bd:=St→(Qa)→Prop
noncomputable def ZhI (t:Tg) (B:Bd) (k:Kp):Qh→St→(Qa)→Prop
 | [],st,Q=>okP k st (Q .next st)
 | x::xs,st,Q=>okP k st (opt (tgF t x st) fun st1=>B st1 (lpW (fun st2=>ZhI t B k xs st2 Q) Q))
inductive WhI (T B:Bd) (Q:Qa) (st:St):Prop
 | mk {β:Type} (L:β→List (Nat×A)) (ow:β→List O) (k:Qh) (I:β→Prop) (μ:β→Nat) (b0:β) (hst:At (L b0) (ow b0) k st) (h0:I b0)
  (turn:∀b,I b→T ⟨L b,ow b,k⟩ (onB fun z st1=>Sel z (B st1 (lpW (fun st2=>∃b',I b'∧μ b'<μ b∧At (L b') (ow b') k st2) Q)) (Q .next st1)))
inductive LpI (t:Tg) (B:Bd) (kp:Kp) (Q:Qa) (xs:Qh) (st:St):Prop
 | mk {α β:Type} (as:List α) (enc:α→A) (L:β→List (Nat×A)) (ow:β→List O) (k:Qh) (I:List α→β→Prop) (b0:β) (hx:xs=as.map enc) (hst:At (L b0) (ow b0) k st) (h0:I as b0) (hok:∀b l,okS kp ⟨l,ow b,k⟩)
  (turn:∀x xs b,I (x::xs) b→opt (tgF t (enc x) ⟨L b,ow b,k⟩) fun st1=>B st1 (lpW (fun st2=>∃b',I xs b'∧At (L b') (ow b') k st2) Q)) (fin:∀b,I [] b→Q .next ⟨L b,ow b,k⟩)
noncomputable def Zc5:List Nat→List (Nat×A)→Option (Qc)
 | [],_=>some []
 | i::is,l=>(Zs i l).bind fun a=>(Zc5 is l).map fun r=>(i,a)::r
noncomputable def ZI {α β:Type}(f:α→Option β):List α→Option (List β)
 | []=>some []
 | x::xs=>(f x).bind fun y=>(ZI f xs).map (y::·)
noncomputable def Zak {α β:Type}(f:α→Option β) (e:Str×α):Option (Str×β):=(f e.2).map fun d=>(e.1,d)
noncomputable def WZ (m:Nat):Nat→List O→A→Option D
 | _,_,.d x=>some x
 | n+1,own,.own i=>ifO (m≤i) (orE (WU own i) (fun xs=>(ZI (WZ m n own) xs).map .list) (orE (Y4 own i) (fun es=>(ZI (Zak (WZ m n own)) es).map .dict) ((U5 own i).bind fun z=>ifO (m≤z.2) ((Y4 own z.2).bind fun es=>(ZI (Zak (WZ m n own)) es).map (.inst z.1)))))
 | _,_,_=>none
noncomputable def Zan (m:Nat) (own:Qg) (a:A):Option A:=match a with
 | .d x=>some (.d x)
 | .own i=>if i<m then some (.own i) else (WZ m 9 own (.own i)).map .d
 | .view k i=>ifO (i<m) (some (.view k i))
noncomputable def Zj2 (m:Nat) (own:Qg) (o:O):Option O:=match o with
 | .list xs=>(ZI (Zan m own) xs).map .list
 | .dict es ep=>(ZI (Zak (Zan m own)) es).map fun es=>.dict es ep
 | .inst c j=>ifO (j<m) (some (.inst c j))
 | .cell none=>some (.cell none)
 | .cell (some a)=>(Zan m own a).map fun a=>.cell (some a)
 | .ask a n=>some (.ask a n)
 | .dead=>some .dead
noncomputable def ZcY (is:List Nat) (m:Nat):St→Option St
 | ⟨l,o,[]⟩=>ifO (m≤o.length) ((Zc5 is l).bind fun l'=>(ZI (fun q:Nat×A=>(Zan m o q.2).map fun a=>(q.1,a)) l').bind fun l2=>(ZI (Zj2 m o) (o.take m)).map fun o'=>⟨l2,o',[]⟩)
 | _=>none
def Zgz (z:Bool) (B:Bd) (st:St) (g:Option Int→St→Prop):Prop:=match z with
 | false=>g none st
 | true=>B st (nx fun st1=>match st1 with
  | ⟨l,o,.d (.int i)::r⟩=>g (some i) ⟨l,o,r⟩
  | _=>False)
noncomputable def ClN:Nat→List O→Prop
 | 0,cl=>cl=[]
 | n+1,cl=>∃b r,cl = .cell b::r∧ClN n r
noncomputable def emG {α:Type}(n:Nat) (R:α→Option D→Prop) (x:α) (own:Qg):Qa
 | .next,st=>∃y cl,R x (some y)∧st.stk=[.d y]∧st.own=own++cl∧ClN n cl
 | .cont,st=>R x none∧st.stk=[]∧∃cl,st.own=own++cl∧ClN n cl
 | _,_=>False
noncomputable def ZmA {α:Type}(R:α→Option D→Prop):List α→List D→Prop
 | [],ys=>ys=[]
 | x::xs,ys=>∃z zs,R x z∧ZmA R xs zs∧ys=z.toList++zs
inductive CompI (c:Cx) (t:Tg) (B:Cx→Bd) (n:Nat) (xs:Qh) (st st2:St) (o:Qg) (P:Qi→Prop):Prop
 | mk {α:Type} (as:List α) (enc:α→A) (R:α→Option D→Prop) (hs:st2=st) (hx:xs=as.map enc) (hl:as.length≤1000000)
  (turn:∀c',c'.G=c.G→c'.fuel=c.fuel→∀x∈as,∀l ys cl,ClN n cl→opt (tgF t (enc x) ⟨l,o++[.list ys]++cl,[]⟩) fun st1=>B c' st1 (emG n R x (o++[.list ys])))
  (q:∀ys,ZmA R as ys→P ys)
noncomputable def wp (c:Cx):C→St→(Qa)→Prop
 | .bad,_,_=>False
 | .nil,st,Q=>Q .next st
 | .ret,st,Q=>Q .ret st
 | .brk,st,Q=>Q .brk st
 | .cont,st,Q=>Q .cont st
 | .tru,⟨l,o,s⟩,Q=>(match s with | a::r=>Zds (Zrp o a) (fun z=>Q (.b z) ⟨l,o,r⟩) (Stop (BJ c ⟨l,o,a::r⟩ fun z st=>Q (.b z) st)) | []=>False)
 | .o p k,st,Q=>Zds (Xd p st) (fun st1=>wp c k st1 Q) (Stop (PrJ c p st fun st1=>wp c k st1 Q))
 | .slc x y z a b d k,st,Q=>Zgz x (fun st P=>wp c a st P) st fun i st1=>Zgz y (fun st P=>wp c b st P) st1 fun j st2=>Ok (!z) (match st2 with | ⟨l,o,s⟩=>wp c k ⟨l,o,.d (.slice i j none)::s⟩ Q)
 | .dict ks vs k,⟨l,o,s⟩,Q=>wp c vs ⟨l,o++[.dict [] 0],s⟩ (nx fun st=>(match st with | ⟨l1,o1,s1⟩=>opt (Zii ks.length s1) fun q=>(match q with | (as,r)=>(match o1[o.length]? with | some (.dict [] 0)=>∀ep,wp c k ⟨l1,o1.set o.length (.dict (ks.zip as) ep),.own o.length::r⟩ Q | _=>False))))
 | .boo z a b k,st,Q=>wp c a st (nx fun st1=>(match st1 with
  | ⟨l,o,.d (.bool y)::r⟩=>Sel (y==z) (wp c b ⟨l,o,r⟩ (nxt (fun st2=>wp c k st2 Q) Q)) (wp c k ⟨l,o,.d (.bool y)::r⟩ Q)
  | _=>False))
 | .call n k,st,Q=>Stop (CJ c n st fun st=>wp c k st Q)
 | .bi b as k,st,Q=>wp c as st (nx fun st1=>opt (Xd (.bi b) st1) fun st2=>wp c k st2 Q)
 | .mth m as k,st,Q=>Ok (Zp2 m st) (wp c as st (nx fun st1=>opt (Xd (.me m) st1) fun st2=>wp c k st2 Q))
 | .meth x n as k,st,Q=>Stop (MJ c x st fun m st1=>wp c as st1 (nx fun st2=>CJ c (m+n) st2 fun st3=>wp c k st3 Q))
 | .attr x cs k,st,Q=>Zds (gaF x cs st) (fun st1=>wp c k st1 Q) (Stop (GaJ c x st fun st=>wp c k st Q))
 | .stA x cs k,st,Q=>Zds (saF x cs st) (fun f=>∀ep,wp c k (f ep) Q) (Stop (AtJ c x st fun st=>wp c k st Q))
 | .mtd m as k,st,Q=>Ok (ZpA st) (wp c as st (nx fun st1=>opt (mdF m st1) fun f=>∀ep,wp c k (f ep) Q))
 | .raw ts k,st,Q=>Stop (XJ c ts st fun f st1=>nxt (fun st2=>wp c k st2 Q) Q (upF f) st1)
 | .sel t a b k,st,Q=>wp c t st (onB fun z st1=>Sel z (wp c a st1 (nxt (fun st2=>wp c k st2 Q) Q)) (wp c b st1 (nxt (fun st2=>wp c k st2 Q) Q)))
 | .wh n t b k,st,Q=>(match n with
  | 0=>WhI (fun st P=>wp c t st P) (fun st P=>wp c b st P) (nxt (fun st2=>wp c k st2 Q) Q) st
  | _=>False)
 | .for_ z s t b k,st,Q=>opt (itF s t st) fun q=>(match q with | (kp,xs,st1)=>(match z with
  | true=>ZhI t (fun st P=>wp c b st P) kp xs st1 (nxt (fun st2=>wp c k st2 Q) Q)
  | false=>LpI t (fun st P=>wp c b st P) kp (nxt (fun st2=>wp c k st2 Q) Q) xs st1))
 | .notT t,st,Q=>wp c t st (onB fun z st1=>Q (.b !z) st1)
 | .andT s t,st,Q=>wp c s st (onB fun z st1=>Sel z (wp c t st1 Q) (Q (.b false) st1))
 | .orT s t,st,Q=>wp c s st (onB fun z st1=>Sel z (Q (.b true) st1) (wp c t st1 Q))
 | .mark is k,⟨l,o,s⟩,Q=>opt (Zc5 is l) fun l'=>wp c k ⟨l',o,s⟩ Q
 | .blk is a k,⟨l,o,s⟩,Q=>wp c a ⟨l,o,s⟩ fun f st1=>(match f with
  | .next=>opt (ZcY is o.length st1) fun st2=>wp c k st2 Q
  | _=>False)
 | .comp s n m it t b k,⟨l,o,s0⟩,Q=>Ok (n==0||o.length==m) (wp c it ⟨l,o,s0⟩ (nx fun st1=>opt (itF s t st1) fun q=>(match q with | (_,xs,st2)=>CompI c t (fun c' st P=>wp c' b st P) n xs ⟨l,o,s0⟩ st2 o fun ds=>wp c k ⟨l,o,.d (.list ds)::s0⟩ Q)))
end
section
theorem Stop.out (h:Stop P):P:=by obtain ⟨h⟩:=h;exact h
theorem Zac {α β γ:Type}{x:Option α}{y:Option β}{f:α→β→Option γ}{e:Option γ}{r:γ}(h:Xr x y f e=some r):(∃a b,x=some a∧y=some b∧f a b=some r)∨e=some r:=by
 induction x with
 | none=>exact .inr h
 | some a=>induction y with
  | none=>exact .inr h
  | some b=>exact .inl ⟨a,b,rfl,rfl,h⟩
theorem XZ {γ:Type}{p:Prop}[Decidable p]{x:Option γ}{r:γ}(h:ifO p x=some r):p∧x=some r:=by
 unfold ifO at h;by_cases hp:p
 ·rw [if_pos hp] at h;exact ⟨hp,h⟩
 ·rw [if_neg hp] at h;exact Zp h
theorem Zu {γ:Type}{p:Prop}[Decidable p]{x:Option γ}(h:p):ifO p x=x:=if_pos h
theorem ZbT {x:Int}(h:asI a=some x):a = .d (.int x):=by
 induction a using A.casesOn with
 | d y=>induction y using D.casesOn <;> first | exact Zp h | exact Kc h▸rfl
 | _=>exact Zp h
theorem WB (h:asS a=some x):a = .d (.str x):=by
 induction a using A.casesOn with
 | d y=>induction y using D.casesOn <;> first | exact Zp h | exact Kc h▸rfl
 | _=>exact Zp h
theorem ZdZ {x:Qi}(h:asL a=some x):a = .d (.list x):=by
 induction a using A.casesOn with
 | d y=>induction y using D.casesOn <;> first | exact Zp h | exact Kc h▸rfl
 | _=>exact Zp h
theorem ZlJ {s:Option Int×Option Int×Option Int}(h:Zqn a=some s):a = .d (.slice s.1 s.2.1 s.2.2):=by
 induction a using A.casesOn with
 | d y=>induction y using D.casesOn <;> first | exact Zp h | exact Kc h▸rfl
 | _=>exact Zp h
theorem ZpF {x:Bool}(h:asB a=some x):a = .d (.bool x):=by
 induction a using A.casesOn with
 | d y=>induction y using D.casesOn <;> first | exact Zp h | exact Kc h▸rfl
 | _=>exact Zp h
section
variable {γ:Type}{b:A}{e:Option γ}{r:γ}
theorem ZoC {f:Int→Int→Option γ}(h:Xr (asI a) (asI b) f e=some r):(∃x y,a = .d (.int x)∧b = .d (.int y)∧f x y=some r)∨e=some r :=
 (Zac h).imp (fun zq0=>by refine Zc zq0 fun x y h1 h2 q=>?_;exact ⟨x,y,ZbT h1,ZbT h2,q⟩) id
theorem Zpz {f:Str→Str→Option γ}(h:Xr (asS a) (asS b) f e=some r):(∃x y,a = .d (.str x)∧b = .d (.str y)∧f x y=some r)∨e=some r :=
 (Zac h).imp (fun zq1=>by refine Zc zq1 fun x y h1 h2 q=>?_;exact ⟨x,y,WB h1,WB h2,q⟩) id
theorem ZpC {f:Qi→List D→Option γ}(h:Xr (asL a) (asL b) f e=some r):(∃x y,a = .d (.list x)∧b = .d (.list y)∧f x y=some r)∨e=some r :=
 (Zac h).imp (fun zq2=>by refine Zc zq2 fun x y h1 h2 q=>?_;exact ⟨x,y,ZdZ h1,ZdZ h2,q⟩) id
theorem ZW {x:γ}(h:none=some x):P:=nomatch h
theorem Yl {P:γ→Prop}{x y:γ}(h:some x=some y) (q:P y):P x:=Kc h▸q
theorem Yi {p:Prop}[Decidable p]{x:Option γ}{y:γ}(h:ifO p x=some y) (k:p→x=some y→P):P:=k (XZ h).1 (XZ h).2
theorem ZV {α:Type}{x:Option α}{g:α→Option γ}{y:γ}(h:x.bind g=some y) (k:∀a,x=some a→g a=some y→P):P:=by
 refine Za (Zeq h) fun a h1 h2=>?_;exact k a h1 h2
theorem XD {α:Type}{x:Option α}{g:α→γ}{y:γ}(h:x.map g=some y) (k:∀a,x=some a→some (g a)=some y→P):P:=by
 refine Za (YW h) fun a h1 zo1=>?_;subst zo1;exact k a h1 rfl
theorem ZjF {P:A→Prop}(h:Zd0 a=true) (k:P (.d .none)):P a:=by
 have e:a = .d .none:=by induction a using A.casesOn with
  | d x=>induction x using D.casesOn <;> first | rfl | exact Xi h
  | _=>exact Xi h
 exact e▸k
theorem Zd6 {x:Bool}{u v:Option γ}(h:(match x with | true=>u | false=>v)=some r) (h1:x=true→u=some r→P) (h2:v=some r→P):P:=by
 induction x using Bool.casesOn
 ·exact h2 h
 ·exact h1 rfl h
end
theorem Wi (h:WU o i=some xs):o[i]?=some (.list xs):=by
 unfold WU at h;induction e:o[i]? with
 | none=>rw [e] at h;exact Zp h
 | some y =>
  rw [e] at h;cases y with
  | list zs=>exact Kc h▸rfl
  | _=>exact Zp h
theorem ZmQ (h:o[i]?=some (.list xs)):WU o i=some xs:=by
 unfold WU;rw [h]
theorem Zo3 (h:lsA o a=some xs):ZfB o a xs:=by
 induction a using A.casesOn with
 | d y=>induction y using D.casesOn <;> first | exact Zp h | exact Kc h▸rfl
 | own i=>exact Wi h
 | view k i=>exact Zp h
theorem Zbm {x:D}{z:Bool}(h:Zra x=some z):Zci x∧YG x=z:=by
 induction x using D.casesOn <;> cases h <;> exact ⟨trivial,rfl⟩
theorem ZeC {n:Nat}(ih:∀{x y:D},Zpe n x y=true→Fit n x y):∀{xs ys:Qi},fitLB n xs ys=true→Fits n xs ys:=by
 intro xs;induction xs with
 | nil=>intro ys j;induction ys using LLc <;> trivial
 | cons x xs ihx =>
  intro ys h;induction ys using LLc with
  | nil=>trivial
  | cons y ys=>exact ⟨ih (Xx h).1,ihx (Xx h).2⟩
theorem ZmD:∀{n:Nat}{x y:D},Zpe n x y=true→Fit n x y:=by
 intro n;induction n with
 | zero=>intro x y h;induction x using D.casesOn <;> first | (exact Xi h;done) | (induction y using D.casesOn <;> first | trivial | cases h)
 | succ n ih=>intro x y h;induction x using D.casesOn <;> first | (exact Xi h;done) | (induction y using D.casesOn <;> first | trivial | exact ZeC ih h | cases h)
theorem Zke {n:Nat}{xs:Qi}(h:fitLB n xs ys=true):Fits n xs ys:=ZeC ZmD h
theorem ZhR:∀{ds:Qi}{xs:Qq},ZaI ds=some xs→ds=xs.map .str:=by
 intro ds;induction ds with
 | nil=>intro xs h;obtain rfl:=Kc h;rfl
 | cons d ds ih =>
  intro xs h;induction d using D.casesOn <;> first | (exact Zp h;done) | skip
  refine Za (YW h) fun ys h1 h2=>?_;subst h2;rw [ih h1];rfl
theorem Zga:∀xs:Qq,ZaI (xs.map .str)=some xs:=by
 intro xs;induction xs with
 | nil=>rfl
 | cons x xs ih=>show (ZaI (xs.map .str)).map _=_;rw [ih];rfl
section
variable {l:Qc}{b:A}{f:Qf}
theorem Zph {f:Bool→St→Prop}{z:Bool}(h:Zrp o a=some z) (q:f z ⟨l,o,r⟩):BJ c ⟨l,o,a::r⟩ f:=by
 have q':∀{y:Bool},some y=some z→f y ⟨l,o,r⟩:=fun h=>Kc h▸q;induction a using A.casesOn with
 | d x =>
  induction x using D.casesOn with
  | none=>exact Zpa (q' h)
  | bool b=>exact Yg (q' h)
  | int i=>exact ZrH (q' h)
  | str x=>exact Yi h fun h1 h=>Zob h1 (q' h)
  | list xs=>exact Yi h fun h1 h=>ZnQ (xs:=xs.map .d) rfl (by rw [Qw];exact h1) (by rw [List.isEmpty_map];exact q' h)
  | _=>exact ZW h
 | own i=>exact ZV h fun xs h0 h=>Yi h fun h1 h=>ZnQ (a:=.own i) (Wi h0) h1 (q' h)
 | view k i=>exact ZW h
section
variable {γ:Type}{e:Option γ}{y:γ}{g:Value→Value→Sem Value}
theorem WG {k:Int→Int→Option γ}(h:Xr (asI a) (asI b) k e=some y) (h1:∀x z,k x z=some y→OJ2 c g ⟨l,o,.d (.int z)::.d (.int x)::r⟩ f) (h2:e=some y→OJ2 c g ⟨l,o,b::a::r⟩ f):OJ2 c g ⟨l,o,b::a::r⟩ f :=
 (ZoC h).elim (fun q=>by obtain ⟨x,z,rfl,rfl,q⟩:=q;exact h1 x z q) h2
theorem Zkn {k:Str→Str→Option γ}(h:Xr (asS a) (asS b) k e=some y) (h1:∀x z,k x z=some y→OJ2 c g ⟨l,o,.d (.str z)::.d (.str x)::r⟩ f) (h2:e=some y→OJ2 c g ⟨l,o,b::a::r⟩ f):OJ2 c g ⟨l,o,b::a::r⟩ f :=
 (Zpz h).elim (fun q=>by obtain ⟨x,z,rfl,rfl,q⟩:=q;exact h1 x z q) h2
theorem Zon {k:Qi→List D→Option γ}(h:Xr (asL a) (asL b) k e=some y) (h1:∀x z,k x z=some y→OJ2 c g ⟨l,o,.d (.list z)::.d (.list x)::r⟩ f) (h2:e=some y→OJ2 c g ⟨l,o,b::a::r⟩ f):OJ2 c g ⟨l,o,b::a::r⟩ f :=
 (ZpC h).elim (fun q=>by obtain ⟨x,z,rfl,rfl,q⟩:=q;exact h1 x z q) h2
end
theorem ZhK {x y:Int}(h:x=2∨x=16) (h0:0≤y) (h1:y≤64):(Builtin.Int.intBits x:Int)*y≤2 ^ 27:=by
 rcases h with rfl | rfl
 ·have:(Builtin.Int.intBits 2:Int)=2:=by decide +kernel
  rw [this];exact Int.le_trans (Int.mul_le_mul_of_nonneg_left h1 (by decide)) (by decide)
 ·have:(Builtin.Int.intBits 16:Int)=5:=by decide +kernel
  rw [this];exact Int.le_trans (Int.mul_le_mul_of_nonneg_left h1 (by decide)) (by decide)
theorem Zpv {op:Operator}(h:Zqd l o r op a b=some st) (q:f st):OJ2 c (binaryOp op) ⟨l,o,b::a::r⟩ f:=by
 cases op with
 | Add=>exact WG h (fun x y h=>Zi2 (Yl h q)) fun h=>Zkn h (fun x y h=>Yi h fun h1 h=>Zkq h1 (Yl h q)) ZW
 | Sub=>exact WG h (fun x y h=>Zr6 (Yl h q)) ZW
 | Mult=>exact WG h (fun x y h=>Yi h fun h1 h=>Zr9 (Znk (by omega) (by omega)) (Yl h q)) ZW
 | Mod=>exact WG h (fun x y h=>Yi h fun h1 h=>Zn9 h1 (Yl h q)) ZW
 | FloorDiv=>exact WG h (fun x y h=>Yi h fun h1 h=>Zqt h1.1 h1.2 (Yl h q)) ZW
 | Pow=>exact WG h (fun x y h=>Yi h fun h1 h=>Zrh h1.2.1 (ZhK h1.1 h1.2.1 h1.2.2) (Yl h q)) ZW
 | RShift=>exact WG h (fun x y h=>Yi h fun h1 h=>Zr1 h1 (Yl h q)) ZW
 | _=>exact ZW h
theorem ZdY {x y:Qi}{z:Bool}(h:eqL x y=some z):Fits 20 x y∧deqs x y=z:=by
 induction y using LLc with
 | nil=>obtain rfl:=Kc h;exact ⟨Ze6,ZeF⟩
 | cons y ys=>refine oza (XZ h) fun h1 h2=>?_;obtain rfl:=Kc h2;exact ⟨Zke h1,rfl⟩
theorem Zpx {op:CmpOp}{z:Bool}(h:Zh5 op a b=some z) (q:f ⟨l,o,.d (.bool z)::r⟩):OJ2 c (compareOp op) ⟨l,o,b::a::r⟩ f:=by
 have q':∀{y:Bool},some y=some z→f ⟨l,o,.d (.bool y)::r⟩:=fun h=>Kc h▸q;clear q;cases op with
 | Eq=>exact WG h (fun j j h=>ZqK (q' h)) fun h=>Zkn h (fun j j h=>Zsk (q' h)) fun h=>Zon h (fun j j h=>Zsp (ZdY h).1 (q' (congrArg some (ZdY h).2))) ZW
 | NotEq=>exact WG h (fun j j h=>Zmy (q' h)) fun h=>Zkn h (fun j j h=>Zsb (q' h)) fun h=>Zon h (fun j j h=>XD h fun y h8 h=>ZoQ (ZdY h8).1 (q' ((congrArg (fun z=>some !z) (ZdY h8).2).trans h))) ZW
 | Lt=>exact WG h (fun j j h=>ZsF (q' h)) ZW
 | LtE=>exact WG h (fun j j h=>ZsD (q' h)) ZW
 | Gt=>exact WG h (fun j j h=>Zso (q' h)) ZW
 | Is =>
  refine Zd6 h (fun hb h=>ZjF (P:=fun b=>OJ2 c (compareOp .Is) ⟨l,o,b::a::r⟩ f) hb ?_) ZW;induction a using A.casesOn with
  | d x=>exact Zlj (Zbm h).1 (q' (congrArg some (Zbm h).2))
  | own i=>exact ZkI (q' h)
  | view k i=>exact ZW h
 | IsNot =>
  refine Zd6 h (fun hb h=>ZjF (P:=fun b=>OJ2 c (compareOp .IsNot) ⟨l,o,b::a::r⟩ f) hb (XD h fun y h8 h9=>?_)) ZW;induction a using A.casesOn with
  | d x=>exact Yw (Zbm h8).1 (q' ((congrArg (fun z=>some !z) (Zbm h8).2).trans h9))
  | own i=>exact ZaY (q' ((congrArg (fun z=>some !z) (Kc h8)).trans h9))
  | view k i=>exact ZW h8
 | _=>exact ZW h
theorem Zqg {op:UnaryOp}{x:A}(h:unA op a=some x) (q:f ⟨l,o,x::r⟩):OJ1 c (unaryOp op) ⟨l,o,a::r⟩ f:=by
 cases op with
 | Not=>refine Za (YW h) fun x h1 zo1=>?_;subst zo1;rw [ZpF h1];exact ZqX q
 | _=>exact Zp h
theorem Zai {α:Type}{n:Int}{xs:List α}{x:α}(h:ZfO n xs=some x):0≤n∧n<2 ^ 63∧xs[n.toNat]?=some x:=by
 induction n with
 | ofNat i=>refine oza (XZ h) fun h1 h=>?_;exact ⟨Rb _,Int.ofNat_lt.mpr h1,h⟩
 | negSucc i=>exact ZW h
theorem Zpy {v sl:Expr}{x:A}(hs:∀a b,subscripted sl false a b=operate [a,b] (getItem a b)) (h:ZcV o b a=some x) (q:f ⟨l,o,x::r⟩):OJ2 c (subscriptTail v sl) ⟨l,o,b::a::r⟩ f:=by
 have q':∀{y:A},some y=some x→f ⟨l,o,y::r⟩:=fun h=>Kc h▸q;induction a using A.casesOn with
 | d y =>
  induction y using D.casesOn with
  | str xs=>exact ZV h fun n h1 h=>XD h fun ch h2 h=>by rw [ZbT h1];exact Zq1 (Zai h2).1 (Zai h2).2.1 (by rw [←Array.getElem?_toList];exact (Zai h2).2.2) (q' h) hs
  | list xs=>exact ZV h fun n h1 h=>XD h fun d h2 h=>by rw [ZbT h1];exact Zoz (Zai h2).1 (Zai h2).2.1 (Zai h2).2.2 (q' h) hs
  | dict es=>exact ZV h fun x h1 h=>XD h fun d h2 h=>by rw [WB h1];exact ZdO h2 (q' h) hs
  | _=>exact ZW h
 | _=>exact ZW h
theorem ZpL {v sl:Expr}{x:A}(hs:∀a b,∃ops,subscripted sl false a b=operate ops (getItem a b)) (h:ZqJ o b a=some x) (q:f ⟨l,o,x::r⟩):OJ2 c (subscriptTail v sl) ⟨l,o,b::a::r⟩ f:=by
 have q':∀{y:A},some y=some x→f ⟨l,o,y::r⟩:=fun h=>Kc h▸q;refine ZV h fun s hs0 h=>?_;obtain ⟨lo,hi,st⟩:=s;rw [ZlJ hs0];induction st with
 | none =>
  induction a using A.casesOn with
  | d y =>
   induction y using D.casesOn with
   | str xs=>exact Yi h fun h0 h=>Zpp h0 (q' h) hs
   | list xs=>exact Yi h fun h0 h=>ZoH h0 (q' h) hs
   | _=>exact ZW h
  | _=>exact ZW h
 | some n=>exact ZW h
theorem ZiB {m n:Int}(h:Zjb m n):Builtin.Range.small m n 1=true:=by
 obtain ⟨rfl,h⟩:=h;induction n with
 | ofNat k=>exact (by decide +kernel:∀k≤32,Builtin.Range.small 0 (Int.ofNat k) 1=true) k h
 | negSucc k=>exact (by decide +kernel:∀k≤32,Builtin.Range.small 0 (Int.negSucc k) 1=true) k (Nat.le_of_succ_le h)
end
end
section
noncomputable def biV:Bi→Value
 | .len=>.builtin "len"
 | .range1=>.type "range"
 | .list=>.type "list"
noncomputable def biN (_:Bi):Nat:=1
noncomputable def meN (_:Me):Nat:=1
noncomputable def meX:Me→Str
 | .append=>"append"
 | .join=>"join"
 | .startswith=>"startswith"
section
variable {l:Qc}{p s:Qh}{f P:Qf}
theorem U1 {es:Qs}(h:GJ c es ⟨l,o,p++s⟩ P):GJ c es ⟨l,o,p++.d (.val v)::s⟩ fun st1=>∃q s1,st1.stk=q++.d (.val v)::s1∧q.length=es.length+p.length∧P ⟨st1.loc,st1.own,q++s1⟩:=fun F vs sh pos zq0=>by
 obtain ⟨g,ρ,m,W⟩:=zq0;refine Zc (Zaq W.stk) fun us ws zo1 h1 h2=>?_;subst zo1;refine Zc h2 fun u ws zo2 e h3=>?_;subst zo2;have e':u=v:=e;subst e';refine wpm (h F (us++ws) sh pos ⟨g,ρ,m,W.stack (Xk h1 h3)⟩) (fun xs s' zw=>oza zw fun hl zv=>ozg zv fun st1 zu q=>ozr zu fun g1 ρ1 m1 W1=>⟨hl,?_⟩);have hk:=W1.stk;rw [←Qy] at hk;have hlen:st1.stk.length=(xs.reverse++us).length+ws.length:=by rw [←Y8 hk,Qu]
 have es1:st1.stk=st1.stk.take (xs.reverse++us).length++st1.stk.drop (xs.reverse++us).length:=(List.take_append_drop _ _).symm;rw [es1] at hk;refine Zc (Zaq hk) fun xa xb e2 q1 q2=>?_;have l1:=Y8 q1;rw [List.length_take,hlen,Rz (Ko _ _)] at l1;refine oza (ZgJ e2 l1.symm) fun zo3 zo4=>?_;subst zo3;subst zo4;refine ⟨⟨st1.loc,st1.own,st1.stk.take (xs.reverse++us).length++.d (.val u)::st1.stk.drop (xs.reverse++us).length⟩,⟨g1,ρ1,m1,W1.stack ?_⟩,_,_,rfl,?_,?_⟩
 ·rw [←Qy];exact Xk q1 (Zh XY q2)
 ·rw [List.length_take,hlen,Rz (Ko _ _),Qu,List.length_reverse,hl,Y8 h1]
 ·rw [←es1];exact q
end
noncomputable def meI:Me→String
 | .append=>"list.append"
 | .join=>"str.join"
 | .startswith=>"str.startswith"
section
variable {l:Qc}{p s:Qh}{f P:Qf}
theorem Zpq {n:Nat}(h:ZkN o a=some n) (hn:n<2 ^ 62) (q:f ⟨l,o,.d (.int n)::s⟩):CJ c 1 ⟨l,o,a::.d (.val (.builtin "len"))::s⟩ f:=by
 unfold ZkN at h;induction hl:lsA o a with
 | some xs=>rw [hl] at h;obtain rfl:=Kc h;exact Zp5 (Zo3 hl) hn q
 | none =>
  rw [hl] at h;induction a using A.casesOn with
  | d x=>induction x using D.casesOn <;> cases h <;> exact ZiG hn q
  | _=>exact Zp h
theorem ZqG {b:Bi}{q:Qh}(hq:q.length=biN b) (h:Xd (.bi b) ⟨l,o,q++s⟩=some st) (hf:f st):CJ c (biN b) ⟨l,o,q++.d (.val (biV b))::s⟩ f:=by
 induction q using LLc with
 | nil=>induction b <;> cases hq
 | cons a q =>
  induction b with
  | len =>
   obtain rfl:=Re (Rm hq);exact ZV h fun n h1 h=>Yi h fun h2 h=>Zpq h1 h2 (Yl h hf)
  | range1 =>
   obtain rfl:=Re (Rm hq);exact XD h fun n h1 h=>by rw [ZbT h1];exact ZeH (Yl h hf)
  | list =>
   obtain rfl:=Re (Rm hq);induction a using A.casesOn with
   | d x=>induction x using D.casesOn with
    | list xs=>exact Yi h fun h1 h=>ZeN h1 (Yl h hf)
    | dict es=>exact Yi h fun h1 h=>ZeU h1 (Yl h hf)
    | _=>exact ZW h
   | _=>exact ZW h
theorem Znp {m:Me}(h:Zp2 m ⟨l,o,a::s⟩=true) (q:QM 1 ⟨l,o,a::.d (.val (.builtin (meI m)))::s⟩):MJ c (meX m) ⟨l,o,a::s⟩ QM:=by
 have hs:(asS a).isSome=true→∃x,a = .d (.str x):=fun h=>by
  refine oze (Option.isSome_iff_exists.mp h) fun x h=>?_;exact ⟨x,WB h⟩
 induction m with
 | append =>
  induction a using A.casesOn with
  | own i =>
   refine oze (Option.isSome_iff_exists.mp h) fun xs h=>?_;exact ZqL (Wi h) PySem.F.slot_list_append PySem.F.type_list_append q
  | _=>exact Xi h
 | join=>refine oze (hs h) fun x zo1=>?_;subst zo1;exact ZpZ q
 | startswith=>refine oze (hs h) fun x zo3=>?_;subst zo3;exact Zdc q
theorem Zjo {α:Type}{q:List α}(h:2≤q.length):∃b a q',q=b::a::q':=by
 induction q using LLc with
 | nil=>cases h
 | cons b q=>induction q using LLc with
  | nil=>exact absurd h (by simp)
  | cons a q=>exact ⟨b,a,q,rfl⟩
theorem Zr2 {m:Me}{q:Qh}(hq:q.length=meN m+1) (h:Xd (.me m) ⟨l,o,q++s⟩=some st) (hf:f st):CJ c (meN m+1) ⟨l,o,q++.d (.val (.builtin (meI m)))::s⟩ f:=by
 obtain ⟨b,a,q,rfl⟩:∃b a q',q=b::a::q':=Zjo (Nat.le_of_eq hq.symm);induction m with
 | append =>
  obtain rfl:=Re (Rm (Rm hq));induction a using A.casesOn with
  | own i=>exact ZV h fun xs h0 h=>Yi h fun h1 h=>ZkY (Wi h0) h1 (Yl h hf)
  | _=>exact ZW h
 | join =>
  obtain rfl:=Re (Rm (Rm hq));refine (Zac h).elim (fun h=>?_) ZW;refine Zc h fun x xs h1 h2 h=>?_;rw [WB h1,ZdZ h2];exact ZV h fun ys h3 h=>Yi h fun h4 h=>by rw [ZhR h3];exact Zpw h4.1 h4.2 (Yl h hf)
 | startswith =>
  obtain rfl:=Re (Rm (Rm hq));refine (Zac h).elim (fun h=>?_) ZW;refine Zc h fun x y h1 h2 h=>?_;rw [WB h1,WB h2];exact Zdz (Yl h hf)
end
section
variable {l:Qc}{s:Qh}{f:Qf}
noncomputable def mdN:Md→Nat
 | .pop1=>1
 | .pop2=>2
 | .upd=>1
noncomputable def mdX:Md→Str
 | .pop1=>"pop"
 | .pop2=>"pop"
 | .upd=>"update"
noncomputable def mdI:Md→String
 | .pop1=>"dict.pop"
 | .pop2=>"dict.pop"
 | .upd=>"dict.update"
theorem Xf {es:Qe}(h:Y4 o i=some es):∃ep,o[i]?=some (.dict es ep):=by
 unfold Y4 at h;induction e:o[i]? with
 | none=>rw [e] at h;exact Zp h
 | some y =>
  rw [e] at h;cases y with
  | dict=>obtain rfl:=Kc h;exact ⟨_,rfl⟩
  | _=>exact Zp h
theorem ZbJ {z:Addr×Nat}(h:U5 o i=some z):o[i]?=some (.inst z.1 z.2):=by
 unfold U5 at h;induction e:o[i]? with
 | none=>rw [e] at h;exact Zp h
 | some y =>
  rw [e] at h;cases y with
  | inst=>exact Kc h▸rfl
  | _=>exact Zp h
theorem ZnP {α γ:Type}{x:Option α}{u:α→Option γ}{v:Option γ}{r:γ}(h:orE x u v=some r) (h1:∀a,x=some a→u a=some r→P) (h2:v=some r→P):P:=by
 induction x with
 | none=>exact h2 h
 | some a=>exact h1 a rfl h
theorem Zmm {m:Md}(h:ZpA ⟨l,o,a::s⟩=true) (q:QM 1 ⟨l,o,a::.d (.val (.builtin (mdI m)))::s⟩):MJ c (mdX m) ⟨l,o,a::s⟩ QM:=by
 induction a using A.casesOn with
 | own i =>
  refine oze (Option.isSome_iff_exists.mp h) fun es h=>?_;refine oze (Xf h) fun ep h=>?_;induction m with
  | upd=>exact ZfZ h PySem.F.slot_dict_update PySem.F.type_dict_update q
  | _=>exact ZfZ h PySem.F.slot_dict_pop PySem.F.type_dict_pop q
 | _=>exact Xi h
theorem Zri {m:Md}{q:Qh}{g:Nat→St}(hq:q.length=mdN m+1) (h:mdF m ⟨l,o,q++s⟩=some g) (hf:∀ep,f (g ep)):CJ c (mdN m+1) ⟨l,o,q++.d (.val (.builtin (mdI m)))::s⟩ f:=by
 obtain ⟨b,a,q,rfl⟩:∃b a q',q=b::a::q':=Zjo (by rw [hq];induction m <;> decide);have q':∀{g':Nat→St},some g'=some g→∀ep,f (g' ep):=fun h=>Kc h▸hf;induction m with
 | pop1 =>
  obtain rfl:=Re (Rm (Rm hq));induction a using A.casesOn with
  | own i=>exact ZV h fun x h1 h=>ZV h fun es h2 h=>ZV h fun v h3 h=>Yi h fun h4 h=>by rw [WB h1];exact Zrs (Xf h2).choose_spec h3 rfl h4 (q' h)
  | _=>exact ZW h
 | pop2 =>
  obtain ⟨z,rfl⟩:∃z,q=[z]:=List.length_eq_one_iff.mp (Rm (Rm hq));induction z using A.casesOn with
  | own i =>
   refine ZV h fun x h1 h=>ZV h fun es h2 h=>?_;rw [WB h1];split at h
   ·rename_i v h3;exact Yi h fun h4 h=>ZpX (Xf h2).choose_spec h3 rfl h4 (q' h)
   ·rename_i h3;exact ZpJ (Xf h2).choose_spec h3 (q' h 0)
  | _=>exact ZW h
 | upd =>
  obtain rfl:=Re (Rm (Rm hq));induction a using A.casesOn with
  | own i=>induction b using A.casesOn with
   | d d=>induction d using D.casesOn with
    | dict fs=>exact ZV h fun es h2 h=>Yi h fun h4 h=>ZjD (Xf h2).choose_spec rfl h4 (q' h)
    | _=>exact ZW h
   | _=>exact ZW h
  | _=>exact ZW h
end
structure E0 where
 sc:Scope
 cel:List (Str×Nat)
 gl:Qk
 gs:Str→Option Str
 own:List Nat
 mks:List (Nat×List Nat)
 wh:List (Nat×Nat)
 cm:List (Nat×Nat)
 bk:List (Nat×Nat×List Nat)
 rn:List Nat
 ga:Str→List Addr
 sa:Str→List Addr
 rw:List Nat
 fz:List (Nat×Nat)
structure EnvOk (c:Cx) (E:E0):Prop where
 l:∀x i,ZbN E.sc x i=true→IsL c x i
 k:∀x i,(x,i)∈E.cel→(ZaC E.sc x||Zia E.sc x)=true→IsC c x i
 kd:∀x,ZaC E.sc x=true→c.env.kindOf x=some .cell
 g:∀x v,Zcu E.sc x=true→(Xh c.G x v∨Xa c.G x v)→IsG c x v
 gl:∀x v,E.gl x=some v→Xh c.G x v∨Xa c.G x v
 gs:∀x y,E.gs x=some y→∃t,Xh c.G x (.str y t)
 cel:c.cel=E.cel
 ga:∀x C,(E.ga x).contains C=true→∃K,KIn c K∧ZcI K C x=true
 sa:∀x C,(E.sa x).contains C=true→∃K,KIn c K∧Zfh K C x=true
theorem ZM {α:Type}{i:α}:∀{l:List (Str×α)},l.lookup x=some i→(x,i)∈l:=by
 intro l;induction l with
 | nil=>intro h;exact Zp h
 | cons q l ih =>
  intro h;obtain ⟨y,j⟩:=q;rw [List.lookup_cons] at h;induction hb:x==y with
  | true=>rw [hb] at h;obtain rfl:=Kc h;rw [Rt hb];exact .head _
  | false=>rw [hb] at h;exact .tail _ (ih h)
noncomputable def inE (E:E0) (sc:Scope) (n:Nat):E0:={E with sc:=sc,cel:=Yu sc (Zb6 sc E.cel) n}
theorem ZoK {E:E0}{n:Nat}(X:EnvOk c E) (H:CompFr c c' sc (Yu sc (Zb6 sc E.cel) n)):EnvOk c' (inE E sc n) where
 l:=fun x i h=>Zfp H h
 k:=fun x i hc h=>by
  refine Or.elim (Bool.or_eq_true_iff.mp h) (fun h=>?_) fun h=>?_
  ·exact Zsm H hc h
  ·exact Zl7 H hc h
 kd:=fun x h=>Zj6 H h
 g:=fun x v h hv=>Zrl H h (by rw [←H.G];exact hv)
 gl:=fun x v h=>by rw [H.G];exact X.gl x v h
 gs:=fun x y h=>by rw [H.G];exact X.gs x y h
 cel:=H.cel
 ga:=fun x C h=>(X.ga x C h).imp fun K q=>⟨fun h hB=>q.1 h (H.G▸hB),q.2⟩
 sa:=fun x C h=>(X.sa x C h).imp fun K q=>⟨fun h hB=>q.1 h (H.G▸hB),q.2⟩
theorem Zey:∀{is:List Nat}{l l':Qc},Zc5 is l=some l'→Le l' l:=by
 intro is;induction is with
 | nil=>intro l l' h;obtain rfl:=Kc h;exact Wh
 | cons i is ih =>
  intro l l' h;refine Za (Zeq h) fun a h1 h2=>?_;refine Za (YW h2) fun r h3 zo1=>?_;subst zo1;exact Z0 h1 (ih h3)
noncomputable def cnd (b:Bool) (k:C):C:=match b with | true=>k | false=>.bad
noncomputable def opC {α:Type}(o:Option α) (f:α→C):C:=match o with | some a=>f a | none=>.bad
theorem Yo {b:Bool}{k:C}{Q:Qa}(h:wp c (cnd b k) st Q):b=true∧wp c k st Q:=by
 induction b with
 | true=>exact ⟨rfl,h⟩
 | false=>exact h.elim
theorem Zam {α:Type}{o:Option α}{f:α→C}{Q:Qa}(h:wp c (opC o f) st Q):∃a,o=some a∧wp c (f a) st Q:=by
 induction o with
 | some a=>exact ⟨a,rfl,h⟩
 | none=>exact h.elim
noncomputable def Zep (E:E0) (x:Str):Option Sl :=
 let i:=(Zg E.sc).idxOf x
 if ZbN E.sc x i=true then some (.l i) else if ZaC E.sc x=true then (E.cel.lookup x).map .c else none
noncomputable def Zdm (E:E0):Qs→Option (List Sl)
 | []=>some []
 | .Name x _::r=>(Zep E x).bind fun s=>(Zdm E r).map (s::·)
 | _::_=>none
noncomputable def Za4 (E:E0):Expr→Option Tg
 | .Name x _=>(Zep E x).map .one
 | .Tuple es _ _=>(Zdm E es).map .tup
 | _=>none
section
variable {E:E0}{l:Qc}{f:Qf}
theorem ZrE (X:EnvOk c E) (h:Zds (gaF x (E.ga x) st) Q (Stop (GaJ c x st Q))):GaJ c x st Q:=by
 rcases YE h with ⟨st1,h,q⟩ | h
 ·obtain ⟨l,o,s⟩:=st;induction s using LLc with
  | nil=>exact Zp h
  | cons a s=>induction a using A.casesOn with
   | d y =>
    induction y using D.casesOn <;> first | (exact Zp h;done) | skip
    refine Ka fun zn17=>?_;refine oza (XZ h) fun h1 h=>?_;refine Za (Zeq h) fun v h2 h=>?_;refine oza (XZ h) fun h3 h=>?_;refine zn17 ?_;obtain rfl:=Kc h;refine Za (X.ga x _ h1) fun K k1 k2=>?_;exact Yt k1 k2 h2 h3 q
   | own i =>
    exact ZV h fun z hz h=>Yi h fun h1 h=>ZV h fun es h2 h=>ZV h fun v h3 h=>Yi h fun h4 h=>by
     obtain rfl:=Kc h;refine Za (X.ga x _ h1) fun K k1 k2=>?_;exact Zjs k1 k2 (ZbJ hz) (Xf h2).choose_spec h3 h4 q
   | view k i=>exact Zp h
 ·exact Stop.out h
theorem ZrS (X:EnvOk c E) (h:Zds (saF x (E.sa x) st) (fun f=>∀ep,Q (f ep)) (Stop (AtJ c x st Q))):AtJ c x st Q:=by
 rcases YE h with ⟨g,h,q⟩ | h
 ·obtain ⟨l,o,s⟩:=st;induction s using LLc with
  | nil=>exact Zp h
  | cons b s=>induction s using LLc with
   | nil=>exact Zp h
   | cons a s=>induction b using A.casesOn with
    | own i =>
     exact ZV h fun z hz h=>Yi h fun h1 h=>ZV h fun es h2 h=>Yi h fun h4 h=>by
      obtain rfl:=Kc h;refine Za (X.sa x _ h1) fun K k1 k2=>?_;exact Zo4 k1 k2 (ZbJ hz) (Xf h2).choose_spec h4 q
    | _=>exact Zp h
 ·exact Stop.out h
theorem ZiS (X:EnvOk c E){s:Sl}(e:Zep E x=some s) (h:slF s a l o r=some st) (hf:f st):NJ c x ⟨l,o,a::r⟩ f:=by
 unfold Zep at e;dsimp only at e;by_cases h1:ZbN E.sc x ((Zg E.sc).idxOf x)=true
 ·rw [if_pos h1] at e;obtain rfl:=Kc e;obtain rfl:=Kc h;exact ZK (X.l _ _ h1) hf
 ·rw [if_neg h1] at e;by_cases h2:ZaC E.sc x=true
  ·rw [if_pos h2] at e;refine Za (YW e) fun i h3 zo1=>?_;subst zo1;have h4:(match o[i]? with | some (.cell _)=>some ⟨l,o.set i (.cell (some a)),r⟩ | _=>none)=some st:=h;split at h4
   ·rename_i q;obtain rfl:=Kc h4;exact Zkl (X.kd _ h2) (X.k _ _ (ZM h3) (by rw [h2];rfl)) q hf
   ·exact Zp h4
  ·rw [if_neg h2] at e;exact Zp e
theorem Zgc (X:EnvOk c E):∀{es:Qs}{ss:List Sl}{ds:Qi}{st st':St},Zdm E es=some ss→Zos ss ds st=some st'→f st'→es.length=ds.length∧assignEach es c.env=es.map (fun e=>(false,assign e c.env))∧Zf1 c es ds st f:=by
 intro es;induction es with
 | nil =>
  intro ss ds st st' e h hf;obtain rfl:=Kc e;induction ds using LLc with
  | nil=>exact ⟨rfl,rfl,Yl (x:=st) h hf⟩
  | cons _ _=>exact ZW h
 | cons x es ih =>
  intro ss ds st st' e h hf;induction x using Expr.casesOn with
  | Name x p =>
   refine Za (Zeq e) fun s h1 h2=>?_;refine Za (YW h2) fun ss h3 zo1=>?_;subst zo1;induction ds using LLc with
   | nil=>exact ZW h
   | cons d ds =>
    refine ZV h fun st1 h4 h5=>?_;refine Yz (ih h3 h5 hf) fun q1 q2 q3=>?_;exact ⟨congrArg Nat.succ q1,congrArg (List.cons _) q2,Z7 (ZiS X h1 h4 q3)⟩
  | _=>exact ZW e
inductive TgI (E:E0):Expr→Tg→Prop
 | one {x:Str} {p:Pos} {s:Sl} (h:Zep E x=some s):TgI E (.Name x p) (.one s)
 | tup {es:Qs} {n:Nat} {p:Pos} {ss:List Sl} (h:Zdm E es=some ss):TgI E (.Tuple es n p) (.tup ss)
theorem ZqI {t:Tg}(e:Za4 E tgt=some t):TgI E tgt t:=by
 induction tgt using Expr.casesOn with
 | Name x p=>refine Za (YW e) fun s h1 zo1=>?_;subst zo1;exact .one h1
 | Tuple es n p=>refine Za (YW e) fun s h1 zo2=>?_;subst zo2;exact .tup h1
 | _=>exact ZW e
theorem Zjy (X:EnvOk c E){t:Tg}(e:Za4 E tgt=some t) (h:tgF t a ⟨l,o,r⟩=some st) (hf:f st):AsJ c tgt ⟨l,o,a::r⟩ f:=by
 induction ZqI e with
 | one h1=>exact Z7 (ZiS X h1 h hf)
 | tup h1 =>
  induction a using A.casesOn with
  | d x=>induction x using D.casesOn with
   | tuple ds=>exact Zen (Zgc X h1 h hf).1 (Zgc X h1 h hf).2.2 (Zgc X h1 h hf).2.1
   | _=>exact ZW h
  | _=>exact ZW h
theorem ZiP {k:Kp}(h:okP k st P):okS k st∧P:=by
 induction k with
 | none=>exact ⟨trivial,h⟩
 | some q=>exact h
def Zqs (tgt:Expr):Prop:=∀it v,letOwnedTupleGo tgt it v=pure ()
theorem Zmf {s:Sl}(e:Za4 E tgt=some (.one s)):Zqs tgt:=by
 cases ZqI e with
 | one h1=>exact fun j j=>rfl
theorem Zre {t:Tg}{z:Kp×List A×St}(e:Za4 E tgt=some t) (h:itF .val t st=some z):ItJ c tgt st fun ok xs st2=>ok=okS z.1∧okS z.1 st2∧xs=z.2.1∧st2=z.2.2:=by
 have q':∀{y:Kp×List A×St},some y=some z→okS y.1 y.2.2→okS y.1=okS z.1∧okS z.1 y.2.2∧y.2.1=z.2.1∧y.2.2=z.2.2:=fun h q=>by
  obtain rfl:=Kc h;exact ⟨rfl,q,rfl,rfl⟩
 obtain ⟨l,o,s⟩:=st;induction s using LLc with
 | nil=>exact ZW h
 | cons a r =>
  induction t with
  | tup ss=>exact ZW h
  | one s =>
   have hn:=Zmf e;induction a using A.casesOn with
   | d x =>
    refine XD h fun xs h1 h=>?_;have q2:∀{ys:Qi},some ys=some xs→okS none=okS z.1∧okS z.1 ⟨l,o,r⟩∧ys.map A.d=z.2.1∧(⟨l,o,r⟩:St)=z.2.2:=fun e=>Kc e▸q' h trivial;induction x using D.casesOn with
    | list xs=>exact Zhi (q2 h1) (.inl hn)
    | dict es=>exact ZdE (q2 h1) hn
    | range m n=>exact Yi h1 fun h2 h1=>ZeA (ZiB h2) (q2 h1) hn
    | _=>exact ZW h1
   | own j=>exact XD h fun xs h1 h=>Zln (Wi h1) (q' h (Wi h1)) hn
   | view _ _=>exact ZW h
end
theorem YZ {α β:Type}{f:α→Option β}{x:α}{xs:List α}{ys:List β}(h:ZI f (x::xs)=some ys):∃y zs,f x=some y∧ZI f xs=some zs∧ys=y::zs:=by
 refine Ka fun zn29=>?_;refine Za (Zeq h) fun y h1 h2=>?_;refine Za (YW h2) fun zs h3 h4=>?_;refine zn29 ?_;exact ⟨y,zs,h1,h3,h4.symm⟩
section
variable {n:Nat}
theorem ZmU (ih:∀{a d},WZ m n own a=some d→Frz own m a d):∀{xs:Qh}{ds:Qi},ZI (WZ m n own) xs=some ds→Frzs own m xs ds:=by
 intro xs;induction xs with
 | nil=>intro ds h;obtain rfl:=Kc h;exact .nil
 | cons x xs ihx=>intro ds h;refine Zc (YZ h) fun y zs h1 h2 zo1=>?_;subst zo1;exact .cons (ih h1) (ihx h2)
theorem Zed (ih:∀{a d},WZ m n own a=some d→Frz own m a d):∀{xs:Qe}{ds:Qd},ZI (Zak (WZ m n own)) xs=some ds→Frze own m xs ds:=by
 intro xs;induction xs with
 | nil=>intro ds h;obtain rfl:=Kc h;exact .nil
 | cons x xs ihx =>
  intro ds h;refine Zc (YZ h) fun y zs h1 h2 zo1=>?_;subst zo1;refine Za (YW h1) fun d h3 zo2=>?_;subst zo2;exact .cons (ih h3) (ihx h2)
theorem Wl:∀{n:Nat}{a:A}{d:D},WZ m n own a=some d→Frz own m a d:=by
 intro n;induction n with
 | zero=>intro a d h;induction a using A.casesOn <;> first | exact Zp h | exact Kc h▸.d _
 | succ n ih =>
  intro a d h;induction a using A.casesOn with
  | d x=>obtain rfl:=Kc h;exact .d _
  | view _ _=>exact Zp h
  | own i =>
   refine oza (XZ h) fun h0 h=>?_;refine ZnP h (fun xs q h=>XD h fun ds h1 h=>?_) fun h=>ZnP h (fun es q h=>XD h fun ds h1 h=>?_) fun h=>ZV h fun z q h=>Yi h fun h2 h=>ZV h fun es q2 h=>XD h fun ds h1 h=>?_
   ·exact Kc h▸.list h0 (Wi q) (ZmU ih h1)
   ·exact Kc h▸.dict h0 (Xf q).choose_spec (Zed ih h1)
   ·exact Kc h▸.inst h0 (ZbJ q) h2 (Xf q2).choose_spec (Zed ih h1)
theorem Zbu {b:A}(h:Zan m own a=some b):AFr own m a b:=by
 induction a using A.casesOn with
 | d x=>obtain rfl:=Kc h;exact .d _
 | own i =>
  have h:(if i<m then some (.own i) else (WZ m 9 own (.own i)).map .d)=some b:=h;split at h
  ·rename_i q;obtain rfl:=Kc h;exact ⟨rfl,q⟩
  ·refine Za (YW h) fun d h1 zo1=>?_;subst zo1;exact Wl h1
 | view k i=>refine oza (XZ h) fun h0 h=>?_;obtain rfl:=Kc h;exact ⟨rfl,h0⟩
theorem ZlA:∀{xs ys:Qh},ZI (Zan m own) xs=some ys→AFrs own m xs ys:=by
 intro xs;induction xs with
 | nil=>intro ys h;obtain rfl:=Kc h;trivial
 | cons x xs ih=>intro ys h;refine Zc (YZ h) fun y zs h1 h2 zo1=>?_;subst zo1;exact ⟨Zbu h1,ih h2⟩
theorem Zji:∀{xs ys:Qe},ZI (Zak (Zan m own)) xs=some ys→Zj0 own m xs ys:=by
 intro xs;induction xs with
 | nil=>intro ys h;obtain rfl:=Kc h;trivial
 | cons x xs ih =>
  intro ys h;refine Zc (YZ h) fun y zs h1 h2 zo1=>?_;subst zo1;refine Za (YW h1) fun d h3 zo2=>?_;subst zo2;exact ⟨rfl,Zbu h3,ih h2⟩
theorem ZoJ {a b:O}(h:Zj2 m own a=some b):OFr own m a b:=by
 induction a using O.casesOn with
 | list xs=>refine Za (YW h) fun ys h1 zo1=>?_;subst zo1;exact ZlA h1
 | dict es ep=>refine Za (YW h) fun ys h1 zo2=>?_;subst zo2;exact ⟨rfl,Zji h1⟩
 | inst c j=>refine oza (XZ h) fun h0 h=>?_;obtain rfl:=Kc h;exact ⟨rfl,rfl,h0⟩
 | cell x=>induction x with
  | none=>obtain rfl:=Kc h;trivial
  | some a=>refine Za (YW h) fun y h1 zo3=>?_;subst zo3;exact Zbu h1
 | ask _ _=>obtain rfl:=Kc h;exact ⟨rfl,rfl⟩
 | dead=>obtain rfl:=Kc h;trivial
theorem Zl2:∀{xs ys:Qg},ZI (Zj2 m own) xs=some ys→Zi4 own m xs ys:=by
 intro xs;induction xs with
 | nil=>intro ys h;obtain rfl:=Kc h;trivial
 | cons x xs ih=>intro ys h;refine Zc (YZ h) fun y zs h1 h2 zo1=>?_;subst zo1;exact ⟨ZoJ h1,ih h2⟩
theorem Zpf:∀{l l' l2:Qc},(∀q∈l',Zs q.1 l=some q.2)→ZI (fun q:Nat×A=>(Zan m own q.2).map fun a=>(q.1,a)) l'=some l2→∀q∈l2,∃a,Zs q.1 l=some a∧AFr own m a q.2:=by
 intro l l';induction l' with
 | nil=>intro l2 j h;obtain rfl:=Kc h;exact fun j h=>nomatch h
 | cons x l' ih =>
  intro l2 hl h;refine Zc (YZ h) fun y zs h1 h2 zo1=>?_;subst zo1;refine Za (YW h1) fun a h3 zo2=>?_;subst zo2;intro q hq;rcases ZH hq with rfl | hq
  ·exact ⟨x.2,hl x (.head _),Zbu h3⟩
  ·exact ih (fun z hz=>hl z (.tail _ hz)) h2 q hq
theorem ZjV {st':St}(h:ZcY is m st=some st'):Cv m st st':=by
 obtain ⟨l,o,s⟩:=st;induction s using LLc with
 | cons _ _=>exact Zp h
 | nil =>
  refine oza (XZ h) fun h0 h=>?_;refine Za (Zeq h) fun l' h1 h=>?_;refine Za (Zeq h) fun l2 h2 h=>?_;refine Za (YW h) fun o' h3 zo1=>?_;subst zo1;have e:o=o.take m++o.drop m:=(List.take_append_drop m o).symm
  have:=Zqi (pre:=o.take m) (tail:=o.drop m) (l:=l) (l':=l2) (n:=m) (List.length_take_of_le h0) (by rw [←e];exact Zl2 h3) (by rw [←e];exact Zpf (Zey h1) h2);rw [←e] at this;exact this
end
noncomputable abbrev up:Fl→Fw:=upF
theorem Zn6 {I I':Qf}{Q:Qa}{f:Fl}(h:lpW I Q (up f) st) (hp:∀st,I st→I' st):lpQ I' (fun f=>Q (up f)) f st:=by
 induction f <;> first | exact hp _ h | exact h
section
variable {E:E0}{t:Tg}{B T:Bd}{k:Kp}{Q:Qa}
theorem Zmv (X:EnvOk c E) (e:Za4 E tgt=some t) (hB:∀st P,B st P→XJ c body st fun f=>P (up f)):∀{xs:Qh}{st:St},ZhI t B k xs st Q→Wg c tgt body (okS k) xs st fun f=>Q (up f):=by
 intro xs;induction xs with
 | nil=>intro st h;exact ZiP h
 | cons x xs ih =>
  intro st h;refine oza (ZiP h) fun h1 h2=>?_;obtain ⟨l,o,r⟩:=st;refine Za (Yq h2) fun st2 h3 q=>?_;exact ⟨h1,Zjy X e h3 ((hB _ _ q).mono fun f st3 q3=>Zn6 q3 fun st4 q4=>ih q4)⟩
theorem Zr7 {tx:Expr}(hT:∀st P,T st P→TJ c tx st fun z=>P (.b z)) (hB:∀st P,B st P→XJ c body st fun f=>P (up f)) (h:WhI T B Q st):SJ c (.While tx body [] pos) st fun f=>Q (up f):=by
 obtain ⟨L,ow,k,I,μ,b0,hst,h0,turn⟩:=h;exact ZkR I μ b0 h0 hst fun b hb=>(hT _ _ (turn b hb)).mono fun z st1 q=>by
  refine oza (Y7 q) fun q1 q2=>?_;exact ⟨fun hz=>(hB _ _ (q1 hz)).mono fun f st2 q3=>Zn6 q3 fun st3 q4=>q4,q2⟩
theorem Zpb {x:Stmt}(h:SJ c x st fun f st1=>∃l,(∀x a,Zs x l=some a→Zs x st1.loc=some a)∧QF f ⟨l,st1.own,st1.stk⟩):SJ c x st QF:=fun F vs s R =>
 wpm (h F vs s R) (fun f s1 h1=>by
  induction f <;> (obtain ⟨st1,R1,l,hl,q⟩:=h1;exact ⟨_,R1.forget hl,q⟩))
theorem Zqz (X:EnvOk c E) (e:Za4 E tgt=some t) (hB:∀st P,B st P→XJ c body st fun f=>P (up f)) (h:LpI t B k Q xs st):Wg c tgt body (okS k) xs st fun f st1=>∃l,(∀x a,Zs x l=some a→Zs x st1.loc=some a)∧Q (up f) ⟨l,st1.own,st1.stk⟩:=by
 obtain ⟨as,enc,L,ow,kk,I,b0,rfl,hst,h0,hok,turn,fin⟩:=h;refine ZjL (I:=fun xs st=>∃b,I xs b∧At (L b) (ow b) kk st) as st ?_ ?_ ?_ ⟨b0,h0,hst⟩
 ·rintro xs ⟨l,o,s⟩ ⟨b,_,_,e1,e2⟩;obtain rfl:o=_:=e1;obtain rfl:s=_:=e2;exact hok b l
 ·rintro x xs ⟨l,o,s⟩ ⟨b,hb,e0,e1,e2⟩;obtain rfl:o=_:=e1;obtain rfl:s=_:=e2;refine Zhe (l:=L b) ?_ e0;refine Za (Yq (turn x xs b hb)) fun st2 h3 q=>?_;exact Zjy X e h3 ((hB _ _ q).mono fun f st3 q3=>by
   induction f with
   | next=>exact q3
   | cont=>exact q3
   | brk=>exact ⟨_,fun j j h=>h,q3⟩
   | ret=>exact ⟨_,fun j j h=>h,q3⟩)
 ·rintro ⟨l,o,s⟩ ⟨b,hb,e0,e1,e2⟩;obtain rfl:o=_:=e1;obtain rfl:s=_:=e2;exact ⟨L b,fun x a hx=>e0 _ (Yy hx),fin b hb⟩
end
theorem Zjl:∀n,ClN n (List.replicate n (.cell none)):=by
 intro n;induction n with
 | zero=>rfl
 | succ n ih=>exact ⟨none,_,rfl,ih⟩
theorem CompJ.mono {ok:Qf}{n:Nat}{Q':Qf}(hq:∀st,Q st→Q' st):∀{xs:Qh}{st:St},CompJ c tgt ifs elt ok n xs st Q→CompJ c tgt ifs elt ok n xs st Q':=by
 intro xs;induction xs with
 | nil=>intro st h;exact ⟨h.1,hq _ h.2⟩
 | cons x xs ih =>
  intro st h;refine ⟨h.1,fun F v vs s R=>wpm (h.2 F v vs s R) (fun j j zq2=>by refine ozg zq2 fun st1 R1 h1=>?_;exact ⟨st1,R1,U9 h1 fun z st2 hb=>⟨fun e=>(hb.1 e).mono fun st3 zq3=>by refine Z8 zq3 fun a ys q1 q2 q3 q4=>?_;exact ⟨a,ys,q1,q2,q3,ih q4⟩,fun e=>ih (hb.2 e)⟩⟩)⟩
section
variable {α:Type}{ok:Qf}{enc:α→A}{R:α→Option D→Prop}{n:Nat}
theorem ZhL (hok:∀l ys,ok ⟨l,own++ys,[]⟩){P:Qi→Prop}:∀(as:List α) (acc:Qi) (l:Qc) (cl:Qg),acc.length+as.length≤1000000→ClN n cl →
 (∀x∈as,∀l ys cl,ClN n cl→AsJ c tgt ⟨l,own++[.list ys]++cl,[enc x]⟩ fun st1=>Zap c ifs st1 fun b st2=>(b=true→EJ c elt st2 fun st3=>emG n R x (own++[.list ys]) .next st3)∧(b=false→emG n R x (own++[.list ys]) .cont st2)) →
 (∀ys,ZmA R as ys→P (acc++ys))→CompJ c tgt ifs elt ok own.length (as.map enc) ⟨l,own++[.list (acc.map .d)]++cl,[]⟩ fun st3=>∃(ys:Qi) (cl:Qg),st3.own=own++[.list (ys.map .d)]++cl∧P ys:=by
 intro as;induction as with
 | nil =>
  intro acc l cl j hc j q;refine ⟨by rw [Qy];exact hok _ _,acc,cl,rfl,?_⟩
  have:=q [] rfl
  rwa [Rj] at this
 | cons x as ih =>
  intro acc l cl hl hc step q;have hl':acc.length+(as.length+1)≤1000000:=hl;refine ⟨by rw [Qy];exact hok _ _,fun F v vs s R=>wpm (step x (.head _) l _ cl hc F v vs s R) (fun j s1 zw=>ozg zw fun st1 R1 h1=>⟨st1,R1,?_⟩)⟩;refine U9 h1 fun z st2 hb=>⟨fun e=>(hb.1 e).mono fun st3 zw=>Z8 zw fun y cl' hy hs ho hc'=>⟨.d y,acc.map .d,hs,?_,?_,?_⟩,fun e=>?_⟩
  ·rw [ho,Qy,Km (Kq _),Rp];rfl
  ·rw [Qw];exact Kr (Ko _ _) hl
  ·rw [ho,Qy,List.set_append_right _ _ (Kq _),Rp]
   have:=ih (acc++[y]) st3.loc cl' (by rw [Qu,List.length_singleton,Nat.add_assoc,Nat.add_comm 1];exact hl') hc' (fun z hz=>step z (.tail _ hz)) fun ys hys=>by
    rw [Qy];exact q _ ⟨some y,ys,hy,hys,rfl⟩
   rw [Q9,Qy] at this;exact this
  ·obtain ⟨hy,hs,cl',ho,hc'⟩:=hb.2 e;obtain ⟨l2,o2,k2⟩:=st2;obtain rfl:k2=[]:=hs;obtain rfl:o2=_:=ho;exact ih acc l2 cl' (Kr (Ry (Nat.le_succ _) _) hl') hc' (fun z hz=>step z (.tail _ hz)) fun ys hys=>q _ ⟨none,ys,hy,hys,rfl⟩
end
section
variable {E:E0}{t:Tg}{k:Kp}{B:Cx→Bd}{P:Qi→Prop}
theorem ZmG (X:EnvOk c E) (e:Za4 (inE E sc st.own.length) tgt=some t) (hB:∀c',EnvOk c' (inE E sc st.own.length)→∀st Q,B c' st Q→Zap c' ifs st fun b st2=>(b=true→EJ c' elt st2 fun st3=>Q .next st3)∧(b=false→Q .cont st2))
 (hk:okS k st) {xs:Qh} {st2:St} (h:CompI c t B (Yb sc.names) xs st st2 st.own P) {c':Cx} (H:CompFr c c' sc (Yu sc (Zb6 sc E.cel) st.own.length)) :
 st2=st∧CompJ c' tgt ifs elt (okS k) st.own.length xs ⟨[],st.own++[.list []]++List.replicate (Yb sc.names) (.cell none),[]⟩ fun st3=>∃(ys:Qi) (cl:Qg),st3.own=st.own++[.list (ys.map .d)]++cl∧P ys:=by
 obtain ⟨as,enc,R,rfl,rfl,hl,turn,q⟩:=h;refine ⟨rfl,?_⟩;have X':=ZoK X H;refine ZhL (n:=Yb sc.names) (R:=R) (fun l ys=>?_) as [] [] _ (by simpa using hl) (Zjl _) (fun x hx l ys cl hcl=>?_) q
 ·induction k with
  | none=>trivial
  | some z =>
   have hk':st2.own[z.1]?=some (.list z.2):=hk;show (st2.own++ys)[z.1]?=_;rw [Kl (ZB hk').1];exact hk'
 ·refine Za (Yq (turn c' H.G H.fuel x hx l ys cl hcl)) fun st2 h3 q=>?_;exact Zjy X' e h3 (hB c' X' _ _ q)
theorem Zku {tail cl:Qg}(o:Qg) (h:tail=[.list (ys.map .d)]++cl):Frz (o++tail) o.length (.own o.length) (.list ys):=by
 subst h;refine Frz.list (Kq _) (xs:=ys.map .d) ?_ (Frzs.d _);rw [Km (Kq _),Rp];rfl
end
end
section
noncomputable def Zco (E:E0) (x:Str):Option Value:=if Zcu E.sc x=true then E.gl x else none
noncomputable def Zn4 (E:E0) (x:Str) (k:C):C :=
 let i:=(Zg E.sc).idxOf x
 if ZbN E.sc x i=true then .o (.loc i) k
 else if (ZaC E.sc x||Zia E.sc x)=true then (match E.cel.lookup x with | some i=>.o (.cell i) k | none=>.o (.nm x) k)
 else cnd (Zcu E.sc x) (match E.gs x with | some y=>.o (.lit (.str y)) k | none=>opC (E.gl x) fun v=>.o (.lit (.val v)) k)
noncomputable def Zk2 (v:Value) (n:Nat):Option Bi :=
 if v = .builtin "len"∧n=1 then some .len else if v = .type "range"∧n=1 then some .range1
 else if v = .type "list"∧n=1 then some .list else none
noncomputable def ZrP:Expr→Str
 | .Name x _=>x
 | _=>""
noncomputable def biE (E:E0) (f:Expr) (n:Nat):Option Bi:=ifO ((f.ctorIdx==23)=true) ((Zco E (ZrP f)).bind fun v=>Zk2 v n)
noncomputable def Zje (x:Str) (n:Nat):Option Me :=
 if x="append"∧n=1 then some .append else if x="join"∧n=1 then some .join
 else if x="startswith"∧n=1 then some .startswith else none
noncomputable def ZjQ (x:Str) (n:Nat):Option Md :=
 if x="pop"∧n=1 then some .pop1 else if x="pop"∧n=2 then some .pop2 else if x="update"∧n=1 then some .upd else none
noncomputable def ZoO:Const→Option D
 | .none=>some .none
 | .bool b=>some (.bool b)
 | .int i=>some (.int i)
 | .str x=>some (.str x)
 | _=>none
noncomputable def swN (e:Expr):Bool:=!(e.ctorIdx==8||(e.ctorIdx==9||e.ctorIdx==10))
noncomputable def UH (e:Expr):Bool:=!(e.ctorIdx==7)
noncomputable def Zg1 (e:Expr):Bool:=e.ctorIdx==26
noncomputable def isTup (e:Expr):Bool:=e.ctorIdx==25
noncomputable def Za8 (E:E0) (tgt it:Expr):Sr:=match it with
 | .Call (.Name x _) as _ _=>if Zco E x=some (.type "enumerate")∧as.length=1∧isTup tgt=true then .enum else .val
 | _=>.val
noncomputable def ZqC:Option Expr→Option Str
 | some (.Constant (.str x) _ _)=>some x
 | _=>none
noncomputable def Zhp:List (Option Expr)→Option (Qq)
 | []=>some []
 | k::r=>(ZqC k).bind fun x=>(Zhp r).map (x::·)
set_option genCtorIdx false in
inductive It where
 | e (x:Expr) | z (x:Expr) | es (xs:Qs) | t (x:Expr) | ts (op:BoolOp) (xs:Qs) | v (op:BoolOp) (xs:Qs) | p (x:Option Expr)
 | i (s:Sr) (x:Expr) | c (ifs:Qs) (x:Expr) | s (x:Stmt) | ss (xs:Qr)
noncomputable def ZdQ (b:Expr) (k:C) (f:C→C):C:=match b with
 | .List [] _=>.o (.lit (.list [])) k
 | _=>f k
noncomputable def ZiK (e:Expr):Nat:=e.pos.line
noncomputable def cmp:Nat→E0→It→C→C
 | 0,_,_,_=>.bad
 | n+1,E,.e x,k=>cmp n E (.z x) k
 | n+1,E,.z x,k=>(match x with
  | .Constant v _ _=>opC (ZoO v) fun d=>.o (.lit d) k
  | .Name x _=>Zn4 E x k
  | .BinOp a op b _=>cmp n E (.e a) (cmp n E (.e b) (.o (.bin op) k))
  | .Compare a [op] [b] _=>cnd (UH b) (cmp n E (.e a) (ZdQ b (.o (.cmp op) k) (cmp n E (.e b))))
  | .UnaryOp op a _=>cmp n E (.e a) (.o (.un op) k)
  | .IfExp t a b _=>.sel (cmp n E (.t t) .nil) (cmp n E (.e a) .nil) (cmp n E (.e b) .nil) k
  | .BoolOp op xs _=>cmp n E (.v op xs) k
  | .Subscript v i _=>cmp n E (.e v) (cmp n E (.e i) (if Zg1 i=true then .o .cut k else .o .sub k))
  | .Slice lo hi st _=>.slc lo.isSome hi.isSome st.isSome (cmp n E (.p lo) .nil) (cmp n E (.p hi) .nil) .bad k
  | .List es pos=>cnd (decide (es.length≤1000)) (cmp n E (.es es) (if es=[]∨pos.line∈E.own then .o (.listO es.length) k else .o (.list es.length) k))
  | .Tuple es _ _=>cnd (decide (es.length≤1000)) (cmp n E (.es es) (.o (.tup es.length) k))
  | .Dict ks es _=>(match ks,es with
   | [],[]=>.o .dict0 k
   | ks,es=>cnd (Zca ks es) (opC (Zhp ks) fun xs=>cnd (decide xs.Nodup) (.dict xs (cmp n E (.es es) .nil) k)))
  | .Call f as kw pos=>(match kw with
   | []=>(match f with
    | .Attribute ob x ap=>cnd (!Xs ob&&Zy as&&decide (as.length<30)&&(ap.endLine==pos.line)) (cmp n E (.e ob) (match Zje x as.length with
     | some m=>.mth m (cmp n E (.es as) .nil) k
     | none=>(match ZjQ x as.length with
      | some m=>.mtd m (cmp n E (.es as) .nil) k
      | none=>.meth x as.length (cmp n E (.es as) .nil) k)))
    | f=>cnd (Zy as) (match biE E f as.length with
     | some b=>.bi b (cmp n E (.es as) .nil) k
     | none=>cmp n E (.e f) (cmp n E (.es as) (.call as.length k))))
   | _=>.bad)
  | .Attribute ob x _=>cnd (!Xs ob) (cmp n E (.e ob) (.attr x (E.ga x) k))
  | .ListComp elt gs sc pos=>(match gs with
   | [⟨tgt,it,ifs,z⟩] =>
    let m:=(E.cm.lookup pos.line).getD 0
    cnd (decide (z=0)) (cnd (Us sc E.cel&&UH it) (opC (Za4 (inE E sc m) tgt) fun tg=>.comp (Za8 E tgt it) (Yb sc.names) m (cmp n E (.i (Za8 E tgt it) it) .nil) tg (cmp n (inE E sc m) (.c ifs elt) .nil) k))
   | _=>.bad)
  | _=>.bad)
 | n+1,E,.es xs,k=>(match xs with
  | []=>k
  | x::xs=>cnd (!YM x) (cmp n E (.e x) (cmp n E (.es xs) k)))
 | n+1,E,.t x,k=>(match x with
  | .UnaryOp .Not y _=>.notT (cmp n E (.t y) .nil)
  | .BoolOp op xs _=>cmp n E (.ts op xs) .nil
  | .IfExp .. => .bad
  | .Compare a [op] [b] _=>cnd (UH b) (cmp n E (.e a) (ZdQ b (.o (.cmp op) .tru) (cmp n E (.e b))))
  | .Compare .. => .bad
  | .UnaryOp .. => .bad
  | x=>cmp n E (.e x) .tru)
 | n+1,E,.ts op xs,k=>(match xs with
  | []=>.bad
  | [x]=>cmp n E (.t x) .nil
  | x::xs=>(match op with
   | .And=>.andT (cmp n E (.t x) .nil) (cmp n E (.ts op xs) .nil)
   | .Or=>.orT (cmp n E (.t x) .nil) (cmp n E (.ts op xs) .nil)))
 | n+1,E,.v op xs,k=>(match xs with
  | []=>.bad
  | [x]=>cmp n E (.e x) k
  | x::xs=>.boo (match op with | .And=>true | .Or=>false) (cmp n E (.e x) .nil) (cmp n E (.v op xs) .nil) k)
 | n+1,E,.p x,k=>(match x with
  | none=>.bad
  | some x=>cmp n E (.e x) k)
 | n+1,E,.i s x,k=>(match s with
  | .val=>cmp n E (.e x) k
  | _=>(match x with
   | .Call f as [] _=>cnd (Zy as&&!XG f) (cmp n E (.es as) k)
   | _=>.bad))
 | n+1,E,.c ifs x,k=>(match ifs with
  | []=>cmp n E (.e x) .nil
  | y::ifs=>.sel (cmp n E (.t y) .nil) .nil .cont (cmp n E (.c ifs x) .nil))
 | n+1,E,.s x,k=>(match x with
  | .Assign [t] e pos=>(match t with
   | .Name y py=>(match e with
    | e=>cnd (swN e) (opC (Zep E y) fun s=>cmp n E (.e e) (.o (.st s) k)))
   | .Attribute ob y _=>cnd (swN e&&!Xs ob) (cmp n E (.e e) (cmp n E (.e ob) (.stA y (E.sa y) k)))
   | .Subscript ob i _=>cnd (swN e) (cmp n E (.e e) (cmp n E (.e ob) (cmp n E (.e i) (.o .set k))))
   | _=>.bad)
  | .If t b e _=>.sel (cmp n E (.t t) .nil) (cmp n E (.ss b) .nil) (cmp n E (.ss e) .nil) k
  | .While t b [] pos=>.wh 0 (cmp n E (.t t) .nil) (cmp n E (.ss b) .nil) k
  | .For tgt it b [] _=>cnd (UH it) (opC (Za4 E tgt) fun tg=>cmp n E (.i (Za8 E tgt it) it) (.for_ (decide (ZiK it∈E.rn)) (Za8 E tgt it) tg (cmp n E (.ss b) .nil) k))
  | .Return (some e) _=>cmp n E (.e e) .ret
  | .Expr e _=>cnd (swN e) (cmp n E (.e e) (.o .pop k))
  | .Break _=>.brk
  | _=>.bad)
 | n+1,E,.ss xs,k=>(match xs with
  | []=>k
  | x::xs=>(match E.bk.lookup x.pos.line with
   | some (m,is)=>.blk is (cmp n {E with bk:=E.bk.filter fun q=>q.1 != x.pos.line} (.ss ((x::xs).take m)) .nil) (cmp n E (.ss ((x::xs).drop m)) k)
   | none=>(match E.mks.lookup x.pos.line with
    | some is=>.mark is (if x.pos.line∈E.rw then .raw [x] (cmp n E (.ss xs) k) else cmp n E (.s x) (cmp n E (.ss xs) k))
    | none=>if x.pos.line∈E.rw then .raw [x] (cmp n E (.ss xs) k) else cmp n E (.s x) (cmp n E (.ss xs) k))))
end
section
noncomputable def Mng (c:Cx) (E:E0) (rc:It→C→C):It→Prop
 | .e x=>∀k st Q,wp c (rc (.e x) k) st Q→EJ c x st fun st1=>wp c k st1 Q
 | .z x=>∀k st Q,wp c (rc (.z x) k) st Q→EJ c x st fun st1=>wp c k st1 Q
 | .es xs=>∀k st Q,wp c (rc (.es xs) k) st Q→(GJ c xs st fun st1=>wp c k st1 Q)∧∀ks keys,Zhp ks=some keys→ks.length=xs.length→DJ c ks xs st fun ys st1=>ys=keys∧wp c k st1 Q
 | .t x=>∀st Q,wp c (rc (.t x) .nil) st Q→TJ c x st fun z st1=>Q (.b z) st1
 | .ts op xs=>∀st Q,wp c (rc (.ts op xs) .nil) st Q→AJ c op xs st fun z st1=>Q (.b z) st1
 | .v op xs=>∀pos k st Q,wp c (rc (.v op xs) k) st Q→VJ c pos op xs st fun st1=>wp c k st1 Q
 | .p x=>∀st g,Zgz x.isSome (fun st P=>wp c (rc (.p x) .nil) st P) st g→PJ c x st g
 | .i s x=>∀(E':E0) tgt t,Za4 E' tgt=some t→s=Za8 E tgt x→∀k st Q f,wp c (rc (.i s x) k) st Q→(∀st1,wp c k st1 Q→opt (itF s t st1) f)→IEJ c tgt x st fun ok xs st2=>∃z:Kp×List A×St,ok=okS z.1∧okS z.1 st2∧xs=z.2.1∧st2=z.2.2∧f z
 | .c ifs x=>∀st Q,wp c (rc (.c ifs x) .nil) st Q→Zap c ifs st fun b st2=>(b=true→EJ c x st2 fun st3=>Q .next st3)∧(b=false→Q .cont st2)
 | .s x=>∀k st Q,wp c (rc (.s x) k) st Q→SJ c x st fun f st1=>nxt (fun st2=>wp c k st2 Q) Q (up f) st1
 | .ss xs=>∀k st Q,wp c (rc (.ss xs) k) st Q→XJ c xs st fun f st1=>nxt (fun st2=>wp c k st2 Q) Q (up f) st1
theorem ZfT {p:Prop}[Decidable p]{a b:C}{Q:Qa}(h:wp c (if p then a else b) st Q):(p∧wp c a st Q)∨(¬p∧wp c b st Q):=by
 by_cases hp:p
 ·rw [if_pos hp] at h;exact .inl ⟨hp,h⟩
 ·rw [if_neg hp] at h;exact .inr ⟨hp,h⟩
section
variable {E:E0}{k:C}{Q:Qa}
theorem Zlw (X:EnvOk c E) (h:wp c (Zn4 E x k) st Q):EJ c (.Name x pos) st fun st1=>wp c k st1 Q:=by
 obtain ⟨l,o,s⟩:=st;rcases ZfT h with ⟨h1,h⟩ | ⟨_,h⟩
 ·refine Za (YE h |>.resolve_right fun h=>h.out) fun b h2 h3=>?_;refine Za (YW h2) fun a h4 zo1=>?_;subst zo1;exact Ze (X.l _ _ h1) h4 h3
 rcases ZfT h with ⟨h1,h⟩ | ⟨_,h⟩
 ·induction h2:E.cel.lookup x with
  | none=>rw [h2] at h;exact h.out pos
  | some i =>
   rw [h2] at h;refine Za (YE h |>.resolve_right fun h=>h.out) fun st1 h3 h4=>?_;have h3:(match o[i]? with | some (.cell (some a))=>some (⟨l,o,a::s⟩:St) | _=>none)=some st1:=h3;split at h3
   ·rename_i q;obtain rfl:=Kc h3;exact ZaG (X.k _ _ (ZM h2) h1) q h4
   ·exact Zp h3
 refine oza (Yo h) fun h1 h=>?_;induction hs:E.gs x with
 | some y =>
  rw [hs] at h;refine oze (X.gs x y hs) fun t ht=>?_;exact Zm1 (X.g _ _ h1 (.inl ht)) h
 | none =>
  rw [hs] at h;refine Za (Zam h) fun v hv h=>?_;exact ZQ (X.g _ _ h1 (X.gl _ _ hv)) h
theorem ZgM (X:EnvOk c E) (h:Zco E x=some v):IsG c x v:=by
 unfold Zco at h;by_cases h1:Zcu E.sc x=true
 ·rw [if_pos h1] at h;exact X.g _ _ h1 (X.gl _ _ h)
 ·rw [if_neg h1] at h;exact Zp h
theorem Zl5 {n:Nat}{b:Bi}(h:Zk2 v n=some b):v=biV b∧n=biN b:=by
 unfold Zk2 at h;split at h
 ·rename_i q;obtain rfl:=Kc h;exact q
 split at h
 ·rename_i q;obtain rfl:=Kc h;exact q
 split at h
 ·rename_i q;obtain rfl:=Kc h;exact q
 ·exact Zp h
theorem Zm8 {n:Nat}{m:Me}(h:Zje x n=some m):x=meX m∧n=meN m:=by
 unfold Zje at h;split at h
 ·rename_i q;obtain rfl:=Kc h;exact q
 split at h
 ·rename_i q;obtain rfl:=Kc h;exact q
 split at h
 ·rename_i q;obtain rfl:=Kc h;exact q
 ·exact Zp h
theorem Zl6 {n:Nat}{m:Md}(h:ZjQ x n=some m):x=mdX m∧n=mdN m:=by
 unfold ZjQ at h;split at h
 ·rename_i q;obtain rfl:=Kc h;exact q
 split at h
 ·rename_i q;obtain rfl:=Kc h;exact q
 split at h
 ·rename_i q;obtain rfl:=Kc h;exact q
 ·exact Zp h
theorem ZjI (h:wp c .tru st Q):BJ c st fun z st1=>Q (.b z) st1:=by
 obtain ⟨l,o,s⟩:=st;induction s using LLc with
 | nil=>exact False.elim h
 | cons a r =>
  rcases YE h with ⟨z,h1,h2⟩ | h
  ·exact Zph h1 h2
  ·exact h.out
theorem Zo0 {p:Pr}{st1:St}(hp:∀l o s,s.length<2→Xd p ⟨l,o,s⟩=none) (h:Xd p st=some st1):∃l o b a r,st=⟨l,o,b::a::r⟩:=by
 obtain ⟨l,o,s⟩:=st;induction s using LLc with
 | nil=>rw [hp _ _ _ (by decide)] at h;exact Zp h
 | cons b s=>induction s using LLc with
  | nil=>rw [hp _ _ _ (by simp)] at h;exact Zp h
  | cons a r=>exact ⟨l,o,b,a,r,rfl⟩
theorem Zlo {p:Pr}(h0:∀l o,Xd p ⟨l,o,[]⟩=none) (h1:∀l o b,Xd p ⟨l,o,[b]⟩=none):∀l o s,s.length<2→Xd p ⟨l,o,s⟩=none:=by
 intro l o s h;induction s using LLc with
 | nil=>exact h0 l o
 | cons b s=>induction s using LLc with
  | nil=>exact h1 l o b
  | cons a r=>exact absurd h (by simp)
theorem ZkC {p:Pr}(hp:∀l o s,s.length<2→Xd p ⟨l,o,s⟩=none) (h:wp c (.o p k) st Q) (h1:∀l o b a r z,st=⟨l,o,b::a::r⟩→Xd p ⟨l,o,b::a::r⟩=some z→wp c k z Q→P) (h2:PrJ c p st (fun st1=>wp c k st1 Q)→P):P:=by
 rcases YE h with ⟨z,q1,q2⟩ | h
 ·refine Zlv (Zo0 hp q1) fun l o b a r zo1=>?_;subst zo1;exact h1 l o b a r z rfl q1 q2
 ·exact h2 h.out
theorem Zo2 {op:Operator}(h:wp c (.o (.bin op) k) st Q):OJ2 c (binaryOp op) st fun st1=>wp c k st1 Q :=
 ZkC (Zlo (fun j j=>rfl) fun j j j=>rfl) h (fun l o b a r z e h1 h2=>by subst e;exact Zpv (f:=fun st1=>wp c k st1 Q) h1 h2) id
theorem Zk7 {op:CmpOp}(h:wp c (.o (.cmp op) k) st Q):OJ2 c (compareOp op) st fun st1=>wp c k st1 Q :=
 ZkC (Zlo (fun j j=>rfl) fun j j j=>rfl) h (fun l o b a r z e h1 h2=>by
  subst e;exact XD h1 fun y h3 h4=>Zpx (f:=fun st1=>wp c k st1 Q) h3 (Yl (P:=fun z=>wp c k z Q) h4 h2)) id
theorem Zpu (h:wp c (.o .set k) st Q):TIJ c st fun st1=>wp c k st1 Q :=
 ZkC (Zlo (fun j j=>rfl) fun j j j=>rfl) h (fun l o b a r z e h1 h2=>ZW h1) id
theorem Zrq {op:UnaryOp}(h:wp c (.o (.un op) k) st Q):OJ1 c (unaryOp op) st fun st1=>wp c k st1 Q:=by
 rcases YE h with ⟨z,h1,h2⟩ | h
 ·obtain ⟨l,o,s⟩:=st;induction s using LLc with
  | nil=>exact Zp h1
  | cons a r =>
   refine Za (YW h1) fun y h3 zo1=>?_;subst zo1;exact Zqg (f:=fun st1=>wp c k st1 Q) h3 h2
 ·exact h.out
theorem ZlC {i:Expr}(h:Zg1 i=true):∃lo hi st p,i = .Slice lo hi st p:=Expr.Slice.elim (motive_1:=fun i=>∃lo hi st p,i = .Slice lo hi st p) i (Rt h) fun j j j j=>⟨_,_,_,_,rfl⟩
theorem ZoE {v i:Expr}(h:wp c (if Zg1 i=true then .o .cut k else .o .sub k) st Q):OJ2 c (subscriptTail v i) st fun st1=>wp c k st1 Q:=by
 rcases ZfT h with ⟨h1,h⟩ | ⟨h1,h⟩
 ·refine ZdJ (ZlC h1) fun j j j j zo1=>?_;subst zo1;exact ZkC (Zlo (fun j j=>rfl) fun j j j=>rfl) h (fun l o b a r z e h1 h2=>by
   subst e;exact XD h1 fun y h3 h4=>ZpL (f:=fun st1=>wp c k st1 Q) ZbX h3 (Yl (P:=fun z=>wp c k z Q) h4 h2)) False.elim
 ·exact ZkC (Zlo (fun j j=>rfl) fun j j j=>rfl) h (fun l o b a r z e h3 h2=>by
   subst e;exact XD h3 fun y h4 h5=>Zpy (f:=fun st1=>wp c k st1 Q) (Zis (show Zg1 i=false from eq_false_of_ne_true h1)) h4 (Yl (P:=fun z=>wp c k z Q) h5 h2)) False.elim
theorem UQ {e:Expr}(h:UH e=true):∀x,foldedSetIterable e env x=pure x:=fun x=>by
 induction e using Expr.casesOn <;> first | rfl | exact Bool.noConfusion h
theorem ZcE {e:Expr}{op:CmpOp}(h:UH e=true):behindInMarks op e=false:=by
 induction e using Expr.casesOn <;> first | rfl | exact Bool.noConfusion h
theorem ZdB {e:Expr}{t:Option Expr}{line:Nat}(h:swN e=true):swapsWith e t line env=pure false:=by
 induction e using Expr.casesOn <;> first | rfl | exact Bool.noConfusion h
theorem MJ.mono {Q Q':Nat→St→Prop}(h:MJ c x st Q) (q:∀m st1,Q m st1→Q' m st1):MJ c x st Q':=fun F ov vs s pl R=>wpm (h F ov vs s pl R) (fun fx s1 z=>by refine ozg z fun st1 R1 h1=>?_;exact ⟨st1,R1,q _ _ h1⟩)
theorem GJ.mono {es:Qs}{Q Q':Qf}(h:GJ c es st Q) (q:∀st1,Q st1→Q' st1):GJ c es st Q':=fun F vs s pos R=>wpm (h F vs s pos R) (fun us s1 z=>by obtain ⟨a,st1,R1,h1⟩:=z;exact ⟨a,st1,R1,q _ h1⟩)
theorem ItJ.mono {Q Q':Qb}(h:ItJ c tgt st Q) (q:∀ok xs st,Q ok xs st→Q' ok xs st):ItJ c tgt st Q':=fun F v vs s R=>wpm (h F v vs s R) (fun itv s2 z=>by
 obtain ⟨it,need,wr,fp,g₁,pn,xs,ok,Si,st',e,hn,K,h0,hs,hd,R,h⟩:=z;exact ⟨it,need,wr,fp,g₁,pn,xs,ok,Si,st',e,hn,K,h0,hs,hd,R,q _ _ _ h⟩)
theorem IEJ.mono {e:Expr}{Q Q':Qb}(h:IEJ c tgt e st Q) (q:∀ok xs st,Q ok xs st→Q' ok xs st):IEJ c tgt e st Q':=fun F vs s R=>wpm (h F vs s R) (fun v s1 h1=>Kb h1 (fun itv s2 h2=>by
 obtain ⟨it,need,wr,fp,g₁,pn,xs,ok,Si,st',e,hn,K,h0,hs,hd,R,h⟩:=h2;exact ⟨it,need,wr,fp,g₁,pn,xs,ok,Si,st',e,hn,K,h0,hs,hd,R,q _ _ _ h⟩) fun j j x=>x)
theorem Zik {x:Option Expr}(h:ZqC x=some y):∃n p,x=some (.Constant (.str y) n p):=by
 induction x with
 | none=>exact ZW h
 | some x=>induction x using Expr.casesOn with
  | Constant v n p=>cases v with
   | str z=>obtain rfl:=Kc h;exact ⟨_,_,rfl⟩
   | _=>exact ZW h
  | _=>exact ZW h
end
theorem Zot {E:E0}{a:Nat}(h:(Yb sc.names==0||a==m)=true):inE E sc m=inE E sc a:=by
 refine Or.elim (Bool.or_eq_true_iff.mp h) (fun h=>?_) fun h=>?_
 ·have:Zi sc.names=[]:=Re (by rw [←Zc6];exact Rt h);unfold inE Yu;rw [this];rfl
 ·rw [Rt h]
section
variable {n:Nat}{E:E0}(X:EnvOk c E) (ih:∀{c:Cx}{E:E0},EnvOk c E→∀it,Mng c E (cmp n E) it)
include X ih
theorem ZjO {it:Expr}{t:Tg}{P:Qi→Prop}(hc:Us sc E.cel=true) (e:Za4 (inE E sc m) tgt=some t) (hn:(Yb sc.names==0||st.own.length==m)=true)
 (h:wp c (cmp n E (.i (Za8 E tgt it) it) .nil) st (nx fun st1=>opt (itF (Za8 E tgt it) t st1) fun q=>(match q with | (_,xs,st2)=>CompI c t (fun c' st P=>wp c' (cmp n (inE E sc m) (.c ifs elt) .nil) st P) (Yb sc.names) xs st st2 st.own P))) :
 IEJ c tgt it st fun ok xs st2=>st2=st∧∀c',CompFr c c' sc (Yu sc (Zb6 sc E.cel) st.own.length)→CompJ c' tgt ifs elt ok st.own.length xs ⟨[],st.own++[.list []]++List.replicate (Yb sc.names) (.cell none),[]⟩ fun st3=>∃(ys:Qi) (cl:Qg),st3.own=st.own++[.list (ys.map .d)]++cl∧P ys:=by
 rw [(Zot (E:=E) hn)] at h e;refine (ih X (.i (Za8 E tgt it) it) _ tgt t e rfl .nil st _ _ h fun st1 q=>q).mono fun ok xs st2 zq0=>?_;refine Zgw zq0 fun zo2 e1 e2 e3 e4 q=>?_;obtain ⟨kp,ys,st3⟩:=zo2;obtain rfl:ok=_:=e1;obtain rfl:xs=_:=e3;obtain rfl:st2=_:=e4;have hs:st2=st:=by induction q;assumption
 subst hs;exact ⟨rfl,fun c' H=>(ZmG X e (fun c' X' st Q q=>ih X' (.c ifs elt) st Q q) e2 q H).2⟩
theorem ZoB {it:Expr}{t:Tg}{k:C}{Q:Qa}(hc:(Us sc E.cel&&UH it)=true) (e:Za4 (inE E sc m) tgt=some t)
 (h:wp c (.comp (Za8 E tgt it) (Yb sc.names) m (cmp n E (.i (Za8 E tgt it) it) .nil) t (cmp n (inE E sc m) (.c ifs elt) .nil) k) st Q):EJ c (.ListComp elt [⟨tgt,it,ifs,0⟩] sc pos) st fun st1=>wp c k st1 Q:=by
 refine oza (Xx hc) fun hc hs=>?_;obtain ⟨l,o,s⟩:=st;refine oza (Zbt h) fun hn h=>?_;refine ZfW (ZdC (UK X.cel hc) (ZeY ((ZjO X ih hc e hn h).mono fun ok xs st2 zq1 c' H=>?_)) (UQ hs));refine oza zq1 fun e2 q=>?_;subst e2;exact (q c' H).mono fun st3 zq2=>by refine ZE zq2 fun ys cl ho hp=>?_;exact ⟨[.list (ys.map .d)]++cl,.own o.length,.list ys,by rw [ho,Qy],Zku _ rfl,hp⟩
theorem ZgF {x:Option Expr}{g:Option Int→St→Prop}(h:Zgz x.isSome (fun st P=>wp c (cmp n E (.p x) .nil) st P) st g):PJ c x st g:=ih X (.p x) st g h
theorem ZsH (xs:Qs):Mng c E (cmp (n+1) E) (.es xs):=by
 intro k st Q h;induction xs using LLc with
 | nil =>
  refine ⟨Ym h,fun ks keys hk hl=>?_⟩;induction ks using LLc with
  | nil=>obtain rfl:=Kc hk;exact Zk6 ⟨rfl,h⟩
  | cons _ _=>cases hl
 | cons x xs =>
  refine oza (Yo h) fun hs h=>?_;have hx:=ih X (.e x) _ _ _ h;refine ⟨Zq (hx.mono fun st1 q=>(ih X (.es xs) _ _ _ q).1) (by simpa using hs),fun ks keys hk hl=>?_⟩;induction ks using LLc with
  | nil=>cases hl
  | cons y ks =>
   refine Za (Zeq hk) fun z h1 h2=>?_;refine Za (YW h2) fun zs h3 zo1=>?_;subst zo1;refine Ue (Zik h1) fun nn p zo2=>?_;subst zo2;refine Zg2 (hx.mono fun st1 q=>?_);exact fun F vs s pos R=>wpm ((ih X (.es xs) _ _ _ q).2 ks zs h3 (Rm hl) F vs s pos R) (fun ps s2 zq5=>by refine Z8 zq5 fun ys st2 q1 q2 q3 q4=>?_;exact ⟨ys,st2,q1,q2,by rw [q3],q4⟩)
end
end
section
section
variable {n:Nat}{E:E0}(X:EnvOk c E) (ih:∀{c:Cx}{E:E0},EnvOk c E→∀it,Mng c E (cmp n E) it)
include X ih
omit X ih in
theorem Zh7 {b:Expr}{k:C}{g:C→C}{Q:Qa}(h:wp c (ZdQ b k g) st Q):(∃p,b = .List [] p∧wp c (.o (.lit (.list [])) k) st Q)∨wp c (g k) st Q:=by
 induction b using Expr.casesOn with
 | List es p=>induction es using LLc with
  | nil=>exact .inl ⟨p,rfl,h⟩
  | cons _ _=>exact .inr h
 | _=>exact .inr h
theorem ZcO {b:Expr}{op:CmpOp}{k:C}{Q:Qa}(h:wp c (ZdQ b (.o (.cmp op) k) (cmp n E (.e b))) st Q):EJ c b st fun st2=>OJ2 c (compareOp op) st2 fun st3=>wp c k st3 Q:=by
 rcases Zh7 h with ⟨p,rfl,h⟩ | h
 ·obtain ⟨l,o,s⟩:=st;exact Zaz (by decide) (Ym ⟨[],s,rfl,Zk7 (st:=⟨l,o,.d (.list [])::s⟩) h⟩)
 ·exact (ih X (.e _) _ _ _ h).mono fun st2 q=>Zk7 q
omit X ih in
theorem ZlK {f:Expr}{b:Bi}(h:biE E f m=some b):∃x p v,f = .Name x p∧Zco E x=some v∧Zk2 v m=some b :=
 Yi h fun h1 h=>ZV h fun v h2 h3=>Expr.Name.elim (motive_1:=fun f=>Zco E (ZrP f)=some v→∃x p v,f = .Name x p∧Zco E x=some v∧Zk2 v m=some b) f (Rt h1) (fun x p h2=>⟨x,p,v,rfl,h2,h3⟩) h2
theorem Zps {f:Expr}{as:Qs}{k:C}{Q:Qa}(ha:XG f=false) (hs:Zy as=true) (h:wp c (match biE E f as.length with
 | some b=>.bi b (cmp n E (.es as) .nil) k
 | none=>cmp n E (.e f) (cmp n E (.es as) (.call as.length k))) st Q):EJ c (.Call f as [] pos) st fun st1=>wp c k st1 Q:=by
 induction hb:biE E f as.length with
 | some b =>
  rw [hb] at h;refine ZgP (ZlK hb) fun x px v zo1 h1 h2=>?_;subst zo1;refine oza (Zl5 h2) fun zo2 h3=>?_;subst zo2;obtain ⟨l,o,s⟩:=st;have hg:=ZgM X h1;have key:GJ c as ⟨l,o,.d (.val (biV b))::s⟩ fun st2=>CJ c as.length st2 fun st1=>wp c k st1 Q:=(U1 (p:=[]) (v:=biV b) (ih X (.es as) _ ⟨l,o,s⟩ _ h).1).mono fun st1 q=>by
   refine Zc q fun q s1' e1 e2 e3=>?_;obtain ⟨l1,o1,k1⟩:=st1;obtain rfl:k1=_:=e1;refine Za (Yq e3) fun st2 e4 e5=>?_;rw [h3];exact ZqG (f:=fun st1=>wp c k st1 Q) (by rw [e2,h3];rfl) e4 e5
  induction as using LLc with
  | nil=>induction b <;> cases h3
  | cons a as=>exact UM (ZQ hg key) ha hs
 | none =>
  rw [hb] at h;have hf:=ih X (.e f) _ _ _ h;induction as using LLc with
  | nil =>
   refine Zmz (hf.mono fun st1 q=>?_) ha;have hg:=(ih X (.es []) _ _ _ q).1;induction n using Nat.casesOn with
   | zero=>exact False.elim q
   | succ n=>exact Stop.out q
  | cons a as=>exact UM (hf.mono fun st1 q=>fun F vs s pos R=>wpm ((ih X (.es (a::as)) _ _ _ q).1 F vs s pos R) (fun us s1 zq1=>by obtain ⟨hl,st2,R2,q2⟩:=zq1;exact ⟨hl,st2,R2,Stop.out q2⟩)) ha hs
theorem Zsj {ob:Expr}{ap:Pos}{as:Qs}{m:Me}{k:C}{Q:Qa}(h1:Xs ob=false) (h2:Zy as=true) (h3:decide (as.length<30)=true) (h4:(ap.endLine==pos.line)=true) (h5:as.length=meN m)
 (ho:EJ c ob st fun st1=>wp c (.mth m (cmp n E (.es as) .nil) k) st1 Q):EJ c (.Call (.Attribute ob (meX m) ap) as [] pos) st fun st1=>wp c k st1 Q:=by
 induction as using LLc with
 | nil=>induction m <;> cases h5
 | cons a as =>
  refine XV (ho.mono fun st1 q=>?_) h1 h2 h3 h4;refine oza (Zbt q) fun q1 q2=>?_;obtain ⟨l,o,s⟩:=st1;induction s using LLc with
  | nil=>exact Xi q1
  | cons r s =>
   refine Znp q1 ((U1 (p:=[r]) (v:=.builtin (meI m)) (ih X (.es (a::as)) _ ⟨l,o,[r]++s⟩ _ q2).1).mono fun st1 q=>?_);refine Zc q fun q s1' e1 e2 e3=>?_;obtain ⟨l1,o1,k1⟩:=st1;obtain rfl:k1=_:=e1;refine Za (Yq e3) fun st2 e4 e5=>?_;rw [Nat.add_comm,h5];exact Zr2 (f:=fun st1=>wp c k st1 Q) (by rw [e2,h5];rfl) e4 e5
theorem ZsE {ob:Expr}{ap:Pos}{as:Qs}{m:Md}{k:C}{Q:Qa}(h1:Xs ob=false) (h2:Zy as=true) (h3:decide (as.length<30)=true) (h4:(ap.endLine==pos.line)=true) (h5:as.length=mdN m)
 (ho:EJ c ob st fun st1=>wp c (.mtd m (cmp n E (.es as) .nil) k) st1 Q):EJ c (.Call (.Attribute ob (mdX m) ap) as [] pos) st fun st1=>wp c k st1 Q:=by
 induction as using LLc with
 | nil=>induction m <;> cases h5
 | cons a as =>
  refine XV (ho.mono fun st1 q=>?_) h1 h2 h3 h4;refine oza (Zbt q) fun q1 q2=>?_;obtain ⟨l,o,s⟩:=st1;induction s using LLc with
  | nil=>exact Xi q1
  | cons r s =>
   refine Zmm q1 ((U1 (p:=[r]) (v:=.builtin (mdI m)) (ih X (.es (a::as)) _ ⟨l,o,[r]++s⟩ _ q2).1).mono fun st1 q=>?_);refine Zc q fun q s1' e1 e2 e3=>?_;obtain ⟨l1,o1,k1⟩:=st1;obtain rfl:k1=_:=e1;refine Za (Yq e3) fun g e4 e5=>?_;rw [Nat.add_comm,h5];exact Zri (f:=fun st1=>wp c k st1 Q) (by rw [e2,h5];rfl) e4 e5
theorem ZsC {ob:Expr}{ap:Pos}{as:Qs}{k:C}{Q:Qa}(h1:Xs ob=false) (h2:Zy as=true) (h3:decide (as.length<30)=true) (h4:(ap.endLine==pos.line)=true)
 (ho:EJ c ob st fun st1=>wp c (.meth x as.length (cmp n E (.es as) .nil) k) st1 Q):EJ c (.Call (.Attribute ob x ap) as [] pos) st fun st1=>wp c k st1 Q:=by
 induction as using LLc with
 | nil =>
  refine Xu (ho.mono fun st1 q=>MJ.mono (Stop.out q) fun m st2 q2=>?_) h1 h4;induction n using Nat.casesOn with
  | zero=>exact False.elim q2
  | succ n=>exact q2
 | cons a as=>exact XV (ho.mono fun st1 q=>MJ.mono (Stop.out q) fun m st2 q2=>(ih X (.es (a::as)) _ _ _ q2).1) h1 h2 h3 h4
theorem Zo7 {ob:Expr}{ap:Pos}{as:Qs}{k:C}{Q:Qa}(hb:(!Xs ob&&Zy as&&decide (as.length<30)&&(ap.endLine==pos.line))=true) (h:wp c (cmp n E (.e ob) (match Zje x as.length with
 | some m=>.mth m (cmp n E (.es as) .nil) k
 | none=>(match ZjQ x as.length with
  | some m=>.mtd m (cmp n E (.es as) .nil) k
  | none=>.meth x as.length (cmp n E (.es as) .nil) k))) st Q):EJ c (.Call (.Attribute ob x ap) as [] pos) st fun st1=>wp c k st1 Q:=by
 simp only [Qz,Rf] at hb;refine oza hb fun zo3 h4=>?_;refine oza zo3 fun zo2 h3=>?_;refine oza zo2 fun h1 h2=>?_;have ho:=ih X (.e ob) _ _ _ h;clear h;induction hm:Zje x as.length with
 | some m=>rw [hm] at ho;refine oza (Zm8 hm) fun zo3 h5=>?_;subst zo3;exact Zsj X ih h1 h2 h3 h4 h5 ho
 | none =>
  rw [hm] at ho;induction hd:ZjQ x as.length with
  | some m=>rw [hd] at ho;refine oza (Zl6 hd) fun zo4 h5=>?_;subst zo4;exact ZsE X ih h1 h2 h3 h4 h5 ho
  | none=>rw [hd] at ho;exact ZsC X ih h1 h2 h3 h4 ho
theorem m_e (x:Expr):Mng c E (cmp (n+1) E) (.e x):=by
 intro k st Q h;exact ih X (.z x) _ _ _ h
omit X ih in
theorem Zk3 {f:Expr}(h:XG f=true):∃ob x p,f = .Attribute ob x p:=Expr.Attribute.elim (motive_1:=fun t=>∃ob x p,t = .Attribute ob x p) f (Rt h) fun j j j=>⟨_,_,_,rfl⟩
omit X ih in
theorem ZiN {f:Expr}{as:Qs}{k:C}{Q:Qa}(ha:XG f=false) (h:wp c (cmp (n+1) E (.z (.Call f as [] pos)) k) st Q):wp c (cnd (Zy as) (match biE E f as.length with
 | some b=>.bi b (cmp n E (.es as) .nil) k
 | none=>cmp n E (.e f) (cmp n E (.es as) (.call as.length k)))) st Q:=by
 induction f using Expr.casesOn with
 | Attribute ob x p=>exact Bool.noConfusion ha
 | _=>exact h
theorem ZoS {ks:List (Option Expr)}{es:Qs}{k:C}{Q:Qa}(h:wp c (cmp (n+1) E (.z (.Dict ks es pos)) k) st Q):EJ c (.Dict ks es pos) st fun st1=>wp c k st1 Q:=by
 obtain ⟨l,o,s⟩:=st;induction ks using LLc with
 | nil=>induction es using LLc with
  | nil=>exact ZnG h
  | cons e es=>exact False.elim h
 | cons y ks =>
  have h:wp c (cnd (Zca (y::ks) es) (opC (Zhp (y::ks)) fun xs=>cnd (decide xs.Nodup) (.dict xs (cmp n E (.es es) .nil) k))) ⟨l,o,s⟩ Q:=h;refine oza (Yo h) fun h1 h=>?_;refine Za (Zam h) fun xs h2 h=>?_;refine oza (Yo h) fun h3 h=>?_;have hl:(y::ks).length=es.length:=by
   unfold Zca at h1;simp only [Qz,Q7] at h1;exact h1.1.1.2
  refine Zg0 ?_ h1;refine fun F vs s pos R=>wpm ((ih X (.es es) _ _ _ h).2 _ xs h2 hl F vs s pos R) (fun ps s1 zw=>Z8 zw fun ys st1 q1 q2 q3 q4=>⟨ys,st1,q1,q2,?_⟩);subst q3;obtain ⟨l1,o1,s1⟩:=st1;refine Za (Yq q4) fun zo2 e1 e2=>?_;obtain ⟨as,r⟩:=zo2;dsimp only at e2;split at e2
  ·rename_i e3;exact ⟨e3,Kw h3,as,r,e1,e2⟩
  ·exact e2.elim
theorem Zpj {gs:List Comprehension}{k:C}{Q:Qa}(h:wp c (cmp (n+1) E (.z (.ListComp elt gs sc pos)) k) st Q):EJ c (.ListComp elt gs sc pos) st fun st1=>wp c k st1 Q:=by
 induction gs using LLc with
 | nil=>exact False.elim h
 | cons g gs =>
  obtain ⟨tgt,it,ifs,z⟩:=g;induction gs using LLc with
  | cons _ _=>exact False.elim h
  | nil =>
   refine oza (Yo h) fun h0 h3=>?_;refine oza (Yo h3) fun h1 h4=>?_;refine Za (Zam h4) fun t h2 h5=>?_;obtain rfl:z=0:=Kw h0;exact ZoB X ih h1 h2 h5
theorem ZqP {a:Expr}{ops:List CmpOp}{bs:Qs}{k:C}{Q:Qa}(h:wp c (cmp (n+1) E (.z (.Compare a ops bs pos)) k) st Q):EJ c (.Compare a ops bs pos) st fun st1=>wp c k st1 Q:=by
 induction ops using LLc with
 | nil=>exact False.elim h
 | cons op ops=>induction ops using LLc with
  | cons _ _=>exact False.elim h
  | nil=>induction bs using LLc with
   | nil=>exact False.elim h
   | cons b bs=>induction bs using LLc with
    | cons _ _=>exact False.elim h
    | nil =>
     refine oza (Yo h) fun h1 h=>?_;exact ZrT ((ih X (.e a) _ _ _ h).mono fun st1 q=>ZcO X ih q) (ZcE h1)
theorem ZpO {f:Expr}{as:Qs}{kw:List Keyword}{k:C}{Q:Qa}(h:wp c (cmp (n+1) E (.z (.Call f as kw pos)) k) st Q):EJ c (.Call f as kw pos) st fun st1=>wp c k st1 Q:=by
 induction kw using LLc with
 | cons _ _=>exact False.elim h
 | nil =>
  by_cases ha:XG f=true
  ·refine ZkE (Zk3 ha) fun ob x ap zo1=>?_;subst zo1;refine oza (Yo h) fun h1 h=>?_;exact Zo7 X ih h1 h
  ·have ha':XG f=false:=by simpa using ha
   have h':wp c (cnd (Zy as) (match biE E f as.length with
    | some b=>.bi b (cmp n E (.es as) .nil) k
    | none=>cmp n E (.e f) (cmp n E (.es as) (.call as.length k)))) st Q:=ZiN ha' h
   refine oza (Yo h') fun h1 h2=>?_;exact Zps X ih ha' h1 h2
theorem ZpG {es:Qs}{k:C}{Q:Qa}(h:wp c (cmp (n+1) E (.z (.List es pos)) k) st Q):EJ c (.List es pos) st fun st1=>wp c k st1 Q:=by
 refine oza (Yo h) fun h1 h=>?_;have hg:=(ih X (.es es) _ _ _ h).1;refine Or.elim (Decidable.em (es=[]∨pos.line∈E.own)) (fun hp=>?_) fun hp=>?_
 ·rw [if_pos hp] at hg;refine ZmK (Kw h1) (fun F vs s pos R=>wpm (hg F vs s pos R) (fun us s1 zw=>oza zw fun hl zv=>ozg zv fun st1 R1 q=>⟨hl,st1,R1,?_⟩));refine Ka fun zn18=>?_;refine Za (YE q |>.resolve_right fun h=>h.out) fun q1 q2 q3=>?_;refine Za (YW q2) fun q4 q5 zo1=>?_;subst zo1;refine zn18 ?_;exact ⟨_,_,q5,q3⟩
 ·rw [if_neg hp] at hg;refine Zaz (Kw h1) (fun F vs s pos R=>wpm (hg F vs s pos R) (fun us s1 zw=>oza zw fun hl zv=>ozg zv fun st1 R1 q=>⟨hl,st1,R1,?_⟩));refine Ka fun zn19=>?_;refine Za (YE q |>.resolve_right fun h=>h.out) fun q1 q2 q3=>?_;refine Za (YW q2) fun q4 q5 zo2=>?_;subst zo2;refine zn19 ?_;exact ⟨_,_,q5,q3⟩
theorem ZrA {es:Qs}{kk:Nat}{k:C}{Q:Qa}(h:wp c (cmp (n+1) E (.z (.Tuple es kk pos)) k) st Q):EJ c (.Tuple es kk pos) st fun st1=>wp c k st1 Q:=by
 refine oza (Yo h) fun h1 h=>?_;refine ZdD (Kw h1) (fun F vs s pos R=>wpm ((ih X (.es es) _ _ _ h).1 F vs s pos R) (fun us s1 zw=>oza zw fun hl zv=>ozg zv fun st1 R1 q=>⟨hl,st1,R1,?_⟩));refine Ka fun zn21=>?_;refine Za (YE q |>.resolve_right fun h=>h.out) fun q1 q2 q3=>?_;refine Za (YW q2) fun q4 q5 zo1=>?_;subst zo1;refine zn21 ?_;exact ⟨_,_,q5,q3⟩
theorem ZmF {lo hi sp:Option Expr}{k:C}{Q:Qa}(h:wp c (cmp (n+1) E (.z (.Slice lo hi sp pos)) k) st Q):EJ c (.Slice lo hi sp pos) st fun st1=>wp c k st1 Q:=by
 refine ZgG (fun F vs s R=>wpm (ZgF X ih h F vs s R) (fun v s1 zw=>Zc zw fun i st1 q1 R1 q=>⟨i,st1,q1,R1,?_⟩));refine fun F vs s R=>wpm (ZgF X ih q F vs s R) (fun v s1 zw=>Zc zw fun j st1 q1 R1 q=>⟨j,st1,q1,R1,?_⟩);refine oza (Zbt q) fun hz q=>?_;obtain ⟨l,o,s⟩:=st1;induction sp with
 | none=>exact Zcf q
 | some _=>exact Xi hz
theorem m_z (x:Expr):Mng c E (cmp (n+1) E) (.z x):=by
 intro k st Q h;induction x using Expr.casesOn with
 | BoolOp op xs pos=>exact Zlk (ih X (.v op xs) _ _ _ _ h)
 | BinOp a op b pos=>exact Wx ((ih X (.e a) _ _ _ h).mono fun st1 q=>(ih X (.e b) _ _ _ q).mono fun st2 q=>Zo2 q)
 | UnaryOp op a pos=>exact Zmh ((ih X (.e a) _ _ _ h).mono fun st1 q=>Zrq q)
 | IfExp t a b pos =>
  exact ZgI ((ih X (.t t) _ _ h).mono fun z st1 q=>⟨fun hz=>(ih X (.e a) _ _ _ ((Y7 q).1 hz)).mono fun st2 q=>q,fun hz=>(ih X (.e b) _ _ _ ((Y7 q).2 hz)).mono fun st2 q=>q⟩)
 | Dict ks es pos=>exact ZoS X ih h
 | ListComp elt gs sc pos=>exact Zpj X ih h
 | Compare a ops bs pos=>exact ZqP X ih h
 | Call f as kw pos=>exact ZpO X ih h
 | Constant v kk pos =>
  obtain ⟨l,o,s⟩:=st;refine Za (Zam h) fun d h1 h=>?_;induction v <;> cases h1
  ·exact Zaj h
  ·exact Zkm h
  ·exact ZaZ h
  ·exact UD h
 | Attribute ob y pos =>
  refine oza (Yo h) fun h1 h=>?_;exact YT ((ih X (.e ob) _ _ _ h).mono fun st1 q=>ZrE X q) (by simpa using h1)
 | Subscript v i pos=>exact Zex ((ih X (.e v) _ _ _ h).mono fun st1 q=>(ih X (.e i) _ _ _ q).mono fun st2 q=>ZoE q)
 | Name y pos=>exact Zlw X h
 | List es pos=>exact ZpG X ih h
 | Tuple es kk pos=>exact ZrA X ih h
 | Slice lo hi sp pos=>exact ZmF X ih h
 | _=>exact False.elim h
theorem m_t (x:Expr):Mng c E (cmp (n+1) E) (.t x):=by
 intro st Q h;have val:wp c (cmp n E (.e x) .tru) st Q→(∀whole,isTrue x c.env whole=(do let v ←whole;standAt x.pos;holding [v] (truthy v)))→TJ c x st fun z st1=>Q (.b z) st1:=fun h he=>ZeB ((ih X (.e x) _ _ _ h).mono fun st1 q=>ZjI q) he;induction x using Expr.casesOn with
 | UnaryOp op y pos=>cases op with
  | Not=>exact Zoe ((ih X (.t y) _ _ h).mono fun z st1 q=>q)
  | _=>exact False.elim h
 | BoolOp op xs pos=>exact ZfA (ih X (.ts op xs) _ _ h)
 | IfExp _ _ _ _=>exact False.elim h
 | Compare a ops bs pos =>
  induction ops using LLc with
  | nil=>exact False.elim h
  | cons op ops=>induction ops using LLc with
   | cons _ _=>exact False.elim h
   | nil=>induction bs using LLc with
    | nil=>exact False.elim h
    | cons b bs=>induction bs using LLc with
     | cons _ _=>exact False.elim h
     | nil =>
      obtain ⟨h1,h⟩:=Yo h;exact XO ((ih X (.e a) _ _ _ h).mono fun st1 q=>(ZcO X ih q).mono fun st2 q=>fun F u v vs s R=>wpm (q F u v vs s R) (fun v s1 zq14=>by refine ozg zq14 fun st3 R3 q3=>?_;exact ⟨st3,R3,ZjI q3⟩)) (ZcE h1)
 | _=>exact val h fun j=>rfl
theorem ZsI (op:BoolOp) (xs:Qs):Mng c E (cmp (n+1) E) (.ts op xs):=by
 intro st Q h;induction xs using LLc with
 | nil=>exact False.elim h
 | cons x xs=>induction xs using LLc with
  | nil =>
   have h1:=ih X (.t x) _ _ h;cases op with
   | And=>exact ZhC (h1.mono fun z st1 q=>⟨fun hz=>Zig (hz▸q),fun hz=>hz▸q⟩)
   | Or=>exact Zmt (h1.mono fun z st1 q=>⟨fun hz=>Zff (hz▸q),fun hz=>hz▸q⟩)
  | cons y xs=>cases op with
   | And=>exact ZhC ((ih X (.t x) _ _ h).mono fun z st1 q=>⟨fun hz=>ih X (.ts .And (y::xs)) _ _ ((Y7 q).1 hz),fun hz=>(Y7 q).2 hz⟩)
   | Or=>exact Zmt ((ih X (.t x) _ _ h).mono fun z st1 q=>⟨fun hz=>ih X (.ts .Or (y::xs)) _ _ ((Y7 q).2 hz),fun hz=>(Y7 q).1 hz⟩)
omit X ih in
theorem ZeT {R:Bool→List (Nat×A)→List O→List A→Prop}{l:Qc}{s:Qh}(q:match (⟨l,o,s⟩:St) with | ⟨l,o,.d (.bool y)::r⟩=>R y l o r | _=>False):∃y r,s = .d (.bool y)::r∧R y l o r:=by
 induction s using LLc with
 | nil=>exact False.elim q
 | cons a r=>induction a using A.casesOn with
  | d x=>induction x using D.casesOn with
   | bool y=>exact ⟨_,_,rfl,q⟩
   | _=>exact False.elim q
  | _=>exact False.elim q
theorem m_v (op:BoolOp) (xs:Qs):Mng c E (cmp (n+1) E) (.v op xs):=by
 intro pos k st Q h;induction xs using LLc with
 | nil=>exact False.elim h
 | cons x xs=>induction xs using LLc with
  | nil=>exact Zop (ih X (.e x) _ _ _ h)
  | cons y xs =>
   have hx:=ih X (.e x) _ _ _ h;cases op with
   | And =>
    refine Zq0 (hx.mono fun st1 q=>?_);obtain ⟨l,o,s⟩:=st1;refine ZE (ZeT (R:=fun b l o r=>Sel (b==true) (wp c (cmp n E (.v .And (y::xs)) .nil) ⟨l,o,r⟩ fun f st2=>nxt (fun st2=>wp c k st2 Q) Q f st2) (wp c k ⟨l,o,.d (.bool b)::r⟩ Q)) q) fun b r zo1 q=>?_;subst zo1;refine ZiM ⟨fun hz=>?_,fun hz=>?_⟩
    ·subst hz;exact fun F vs s R=>wpm (ih X (.v .And (y::xs)) pos _ _ _ q F vs s R) fun j j x=>x
    ·subst hz;exact q
   | Or =>
    refine Zsv (hx.mono fun st1 q=>?_);obtain ⟨l,o,s⟩:=st1;refine ZE (ZeT (R:=fun b l o r=>Sel (b==false) (wp c (cmp n E (.v .Or (y::xs)) .nil) ⟨l,o,r⟩ fun f st2=>nxt (fun st2=>wp c k st2 Q) Q f st2) (wp c k ⟨l,o,.d (.bool b)::r⟩ Q)) q) fun b r zo2 q=>?_;subst zo2;refine ZiM ⟨fun hz=>?_,fun hz=>?_⟩
    ·subst hz;exact fun F vs s R=>wpm (ih X (.v .Or (y::xs)) pos _ _ _ q F vs s R) fun j j x=>x
    ·subst hz;exact q
theorem m_p (x:Option Expr):Mng c E (cmp (n+1) E) (.p x):=by
 intro st g h;induction x with
 | none=>exact Zcf h
 | some x =>
  refine ZkW ((ih X (.e x) _ _ _ h).mono fun st1 q=>?_);obtain ⟨l,o,s⟩:=st1;induction s using LLc with
  | nil=>exact False.elim q
  | cons a r=>induction a using A.casesOn with
   | d x=>induction x using D.casesOn with
    | int i=>exact ⟨_,_,rfl,q⟩
    | _=>exact False.elim q
   | _=>exact False.elim q
theorem m_c (ifs:Qs) (x:Expr):Mng c E (cmp (n+1) E) (.c ifs x):=by
 intro st Q h;induction ifs using LLc with
 | nil=>exact ⟨fun j=>ih X (.e x) _ _ _ h,fun e=>nomatch e⟩
 | cons y ifs=>exact (ih X (.t y) _ _ h).mono fun z st1 q=>⟨fun hz=>ih X (.c ifs x) _ _ ((Y7 q).1 hz),fun hz=>⟨fun e=>(nomatch e),fun j=>(Y7 q).2 hz⟩⟩
end
end
section
section
variable {n:Nat}{E:E0}(X:EnvOk c E) (ih:∀{c:Cx}{E:E0},EnvOk c E→∀it,Mng c E (cmp n E) it)
include X ih
omit X ih in
theorem ZhO {t:Expr}(h:isTup t=true):∃es n p,t = .Tuple es n p:=Expr.Tuple.elim (motive_1:=fun t=>∃es n p,t = .Tuple es n p) t (Rt h) fun j j j=>⟨_,_,_,rfl⟩
inductive SrI (E:E0) (tgt:Expr):Sr→Expr→Prop
 | val {it:Expr}:SrI E tgt .val it
 | enum {x:Str} {px:Pos} {a:Expr} {kw:List Keyword} {pos:Pos} (h1:Zco E x=some (.type "enumerate")) (h2:isTup tgt=true):SrI E tgt .enum (.Call (.Name x px) [a] kw pos)
omit X ih in
theorem ZnI {it:Expr}:SrI E tgt (Za8 E tgt it) it:=by
 induction it using Expr.casesOn with
 | Call f as kw pos=>induction f using Expr.casesOn with
  | Name x px =>
   show SrI E tgt (if Zco E x=some (.type "enumerate")∧as.length=1∧isTup tgt=true then .enum else .val) _;by_cases h:Zco E x=some (.type "enumerate")∧as.length=1∧isTup tgt=true
   ·rw [if_pos h];refine oze (List.length_eq_one_iff.mp h.2.1) fun a zo2=>?_;subst zo2;exact .enum h.1 h.2.2
   ·rw [if_neg h];exact .val
  | _=>exact .val
 | _=>exact .val
theorem m_i (s:Sr) (x:Expr):Mng c E (cmp (n+1) E) (.i s x):=by
 intro E' tgt t e hs k st Q f h hk;have S:SrI E tgt s x:=hs▸ZnI;cases S with
 | val =>
  refine UA ((ih X (.e x) _ _ _ h).mono fun st1 q=>?_);refine Za (Yq (hk _ q)) fun z h1 h2=>?_;exact (Zre e h1).mono fun ok xs st2 h=>⟨z,h.1,h.2.1,h.2.2.1,h.2.2.2,h2⟩
 | @enum x px a kw pos z1 z3 =>
  refine ZkE (ZhO z3) fun es n' p' zo3=>?_;subst zo3;induction kw using LLc with
  | cons _ _=>exact False.elim h
  | nil =>
   refine oza (Yo h) fun h1 h5=>?_;obtain ⟨l,o,r⟩:=st;refine Zm3 (ZQ (ZgM X z1) ((U1 (p:=[]) (v:=.type "enumerate") (ih X (.es [a]) _ ⟨l,o,r⟩ _ h5).1).mono fun st1 q=>?_)) rfl (Xx h1).1;refine Zc q fun q s1' e1 e2 e3=>?_;obtain ⟨l1,o1,k1⟩:=st1;obtain rfl:k1=_:=e1;refine oze (List.length_eq_one_iff.mp e2) fun u zo4=>?_;subst zo4;refine Za (Yq (hk _ e3)) fun z h6 h7=>?_;refine XD h6 fun xs h8 h9=>?_;rw [ZdZ h8];obtain rfl:=Kc h9;exact ⟨_,_,rfl,(none,_,_),rfl,trivial,rfl,rfl,h7⟩
omit ih in
theorem Zq2 {s:Sl}{k:C}{Q:Qa}(e:Zep E y=some s) (h:wp c (.o (.st s) k) st Q):NJ c y st fun st1=>wp c k st1 Q:=by
 obtain ⟨l,o,r⟩:=st;refine Za (YE h |>.resolve_right fun h=>h.out) fun z h1 h2=>?_;induction r using LLc with
 | nil=>exact Zp h1
 | cons a r=>exact ZiS X e h1 h2
theorem UY (b:Qr){Q:Qa}(h:wp c (cmp n E (.ss b) .nil) st Q):XJ c b st fun f st1=>Q (up f) st1:=(ih X (.ss b) _ _ _ h).mono fun f st1 q=>by induction f <;> exact q
theorem Zpm {py:Pos}{e:Expr}{k:C}{Q:Qa}(h:wp c (cmp (n+1) E (.s (.Assign [.Name y py] e pos)) k) st Q):SJ c (.Assign [.Name y py] e pos) st fun f st1=>nxt (fun st2=>wp c k st2 Q) Q (up f) st1:=by
 have plain:wp c (cnd (swN e) (opC (Zep E y) fun s=>cmp n E (.e e) (.o (.st s) k))) st Q→SJ c (.Assign [.Name y py] e pos) st fun f st1=>nxt (fun st2=>wp c k st2 Q) Q (up f) st1:=fun h=>by
  refine oza (Yo h) fun h1 h=>?_;refine Za (Zam h) fun s h2 h=>?_;exact XH ((ih X (.e e) _ _ _ h).mono fun st1 q=>Zq2 X h2 q) (ZdB h1)
 induction e using Expr.casesOn with
 | _=>exact plain h
theorem Zkr {t e:Expr}{k:C}{Q:Qa}(h:wp c (cmp (n+1) E (.s (.Assign [t] e pos)) k) st Q):SJ c (.Assign [t] e pos) st fun f st1=>nxt (fun st2=>wp c k st2 Q) Q (up f) st1:=by
 induction t using Expr.casesOn with
 | Attribute ob y p =>
  refine oza (Yo h) fun h1 h=>?_;refine oza (Xx h1) fun h1 h2=>?_;exact Zpi ((ih X (.e e) _ _ _ h).mono fun st1 q=>(ih X (.e ob) _ _ _ q).mono fun st2 q=>ZrS X q) (ZdB h1)
 | Subscript ob i p =>
  refine oza (Yo h) fun h1 h=>?_;exact ZcJ ((ih X (.e e) _ _ _ h).mono fun st1 q=>(ih X (.e ob) _ _ _ q).mono fun st2 q=>(ih X (.e i) _ _ _ q).mono fun st3 q=>Zpu q) (ZdB h1)
 | Name y py=>exact Zpm X ih h
 | _=>exact False.elim h
theorem Zm6 {t:Expr}{b:Qr}{k:C}{Q:Qa}(h:wp c (cmp (n+1) E (.s (.While t b [] pos)) k) st Q):SJ c (.While t b [] pos) st fun f st1=>nxt (fun st2=>wp c k st2 Q) Q (up f) st1:=by
 have hT:∀st P,wp c (cmp n E (.t t) .nil) st P→TJ c t st fun z=>P (.b z):=fun st P q=>ih X (.t t) _ _ q;have hB:∀st P,wp c (cmp n E (.ss b) .nil) st P→XJ c b st fun f=>P (up f):=fun st P q=>UY X ih b q;exact Zr7 hT hB h
theorem ZrD {it:Expr}{b:Qr}{k:C}{Q:Qa}(h:wp c (cmp (n+1) E (.s (.For tgt it b [] pos)) k) st Q):SJ c (.For tgt it b [] pos) st fun f st1=>nxt (fun st2=>wp c k st2 Q) Q (up f) st1:=by
 refine Ka fun zn19=>?_;refine oza (Yo h) fun h1 h=>?_;refine Za (Zam h) fun t h2 h=>?_;refine zn19 ?_;have hB:∀st P,wp c (cmp n E (.ss b) .nil) st P→XJ c b st fun f=>P (up f):=fun st P q=>UY X ih b q;have key:=ih X (.i (Za8 E tgt it) it) E tgt t h2 rfl _ _ _ (fun q=>match q with | (kp,xs,st1)=>(match decide (ZiK it∈E.rn) with
  | true=>ZhI t (fun st P=>wp c (cmp n E (.ss b) .nil) st P) kp xs st1 (nxt (fun st2=>wp c k st2 Q) Q)
  | false=>LpI t (fun st P=>wp c (cmp n E (.ss b) .nil) st P) kp (nxt (fun st2=>wp c k st2 Q) Q) xs st1)) h fun st1 q=>q
 clear h;induction hz:decide (ZiK it∈E.rn) with
 | true =>
  rw [hz] at key;exact Zg8 (key.mono fun ok xs st2 q=>by obtain ⟨z,e1,j,e3,e4,q⟩:=q;subst e1 e3 e4;exact Zmv X h2 hB q) (UQ h1)
 | false =>
  rw [hz] at key;exact Zpb (Zg8 (key.mono fun ok xs st2 q=>by obtain ⟨z,e1,j,e3,e4,q⟩:=q;subst e1 e3 e4;exact Zqz X h2 hB q) (UQ h1))
theorem ZoL {e:Expr}{k:C}{Q:Qa}(h:wp c (cmp (n+1) E (.s (.Expr e pos)) k) st Q):SJ c (.Expr e pos) st fun f st1=>nxt (fun st2=>wp c k st2 Q) Q (up f) st1:=by
 refine oza (Yo h) fun h1 h=>?_;refine ZjA ((ih X (.e e) _ _ _ h).mono fun st1 q=>?_) (ZcG _) (ZdB h1);obtain ⟨l,o,r⟩:=st1;refine Za (YE q |>.resolve_right fun h=>h.out) fun z h2 h3=>?_;induction r using LLc with
 | nil=>exact ZW h2
 | cons a r=>exact Yl (P:=fun z=>wp c k z Q) h2 h3
theorem m_s (x:Stmt):Mng c E (cmp (n+1) E) (.s x):=by
 intro k st Q h;cases x with
 | Assign ts e pos =>
  induction ts using LLc with
  | nil=>exact False.elim h
  | cons t ts=>induction ts using LLc with
   | cons _ _=>exact False.elim h
   | nil=>exact Zkr X ih h
 | If t b e pos =>
  exact Zcy ((ih X (.t t) _ _ h).mono fun z st1 q=>⟨fun hz=>(UY X ih b ((Y7 q).1 hz)).mono fun f st2 q=>by induction f <;> exact q,fun hz=>(UY X ih e ((Y7 q).2 hz)).mono fun f st2 q=>by induction f <;> exact q⟩)
 | While t b e pos =>
  induction e using LLc with
  | cons _ _=>exact False.elim h
  | nil=>exact Zm6 X ih h
 | For tgt it b e pos =>
  induction e using LLc with
  | cons _ _=>exact False.elim h
  | nil=>exact ZrD X ih h
 | Return e pos =>
  induction e with
  | none=>exact False.elim h
  | some e=>exact ZbP (ih X (.e e) _ _ _ h)
 | Expr e pos=>exact ZoL X ih h
 | Break pos=>exact ZmV h
 | _=>exact False.elim h
omit ih in
theorem Zr8 (bk:List (Nat×Nat×List Nat)):EnvOk c {E with bk:=bk}:=⟨X.l,X.k,X.kd,X.g,X.gl,X.gs,X.cel,X.ga,X.sa⟩
omit X ih in
theorem Zog {a b:Qr}(h:XJ c a st fun f st1=>match f with | .next=>XJ c b st1 QF | f=>QF f st1):XJ c (a++b) st QF:=fun F vs s R=>by
 rw [Zc9];refine Kd (wpm (h F vs s R) (fun f s1 h1=>?_));induction f with
 | next=>obtain ⟨st1,R1,h1⟩:=h1;exact h1 F vs s1 R1
 | brk=>exact Ki h1
 | cont=>exact Ki h1
 | ret v=>exact Ki h1
theorem ZsT (xs:Qr):Mng c E (cmp (n+1) E) (.ss xs):=by
 intro k st Q h;induction xs using LLc with
 | nil=>exact ZR h
 | cons x xs =>
  have one:∀{st},wp c (if x.pos.line∈E.rw then .raw [x] (cmp n E (.ss xs) k) else cmp n E (.s x) (cmp n E (.ss xs) k)) st Q→XJ c (x::xs) st fun f st1=>nxt (fun st2=>wp c k st2 Q) Q (up f) st1:=fun h=>by
   by_cases hr:x.pos.line∈E.rw
   ·rw [if_pos hr] at h;refine Zog (a:=[x]) ((Stop.out h).mono fun f st1 q=>?_);induction f with
    | next=>exact ih X (.ss xs) _ _ _ q
    | brk=>exact q
    | cont=>exact q
    | ret=>exact q
   rw [if_neg hr] at h;exact ZO ((ih X (.s x) _ _ _ h).mono fun f st1 q=>by
    induction f with
    | next=>exact ih X (.ss xs) _ _ _ q
    | brk=>exact q
    | cont=>exact q
    | ret=>exact q)
  have h:wp c (match E.bk.lookup x.pos.line with
   | some (m,is)=>.blk is (cmp n {E with bk:=E.bk.filter fun q=>q.1 != x.pos.line} (.ss ((x::xs).take m)) .nil) (cmp n E (.ss ((x::xs).drop m)) k)
   | none=>(match E.mks.lookup x.pos.line with
    | some is=>.mark is (if x.pos.line∈E.rw then .raw [x] (cmp n E (.ss xs) k) else cmp n E (.s x) (cmp n E (.ss xs) k))
    | none=>if x.pos.line∈E.rw then .raw [x] (cmp n E (.ss xs) k) else cmp n E (.s x) (cmp n E (.ss xs) k))) st Q:=h
  induction hb:E.bk.lookup x.pos.line with
  | some q =>
   obtain ⟨m,is⟩:=q;rw [hb] at h;obtain ⟨l,o,s⟩:=st;refine Zo1 m ((UY (Zr8 X _) ih _ h).mono fun f st1 q=>?_);induction f with
   | next=>refine Za (Yq q) fun st2 h1 h2=>?_;exact ⟨st2,ZjV h1,ih X (.ss _) _ _ _ h2⟩
   | _=>exact False.elim q
  | none =>
   rw [hb] at h;cases hm:E.mks.lookup x.pos.line with
   | none=>rw [hm] at h;exact one h
   | some is =>
    rw [hm] at h;refine Ka fun zn24=>?_;obtain ⟨l,o,s⟩:=st;refine Za (Yq h) fun l' h1 h2=>?_;refine zn24 ?_;exact ZsV (one h2) (Zey h1)
end
theorem Zna:∀(n:Nat) {c:Cx}{E:E0},EnvOk c E→∀it,Mng c E (cmp n E) it:=by
 intro n;induction n with
 | zero =>
  intro c E X it;induction it with
  | es xs=>exact fun j j j h=>h.elim
  | p x=>induction x with
   | none=>exact fun st g h=>Zcf h
   | some x=>exact fun st g h=>False.elim h
  | i s x=>exact fun j j j j j j j j j h=>False.elim h
  | v=>exact fun j j j j h=>False.elim h
  | ts=>exact fun j j h=>False.elim h
  | t=>exact fun j j h=>False.elim h
  | c=>exact fun j j h=>False.elim h
  | _=>exact fun j j j h=>False.elim h
 | succ n ih =>
  intro c E X it;induction it with
  | e x=>exact m_e X ih x
  | z x=>exact m_z X ih x
  | es xs=>exact ZsH X ih xs
  | t x=>exact m_t X ih x
  | ts op xs=>exact ZsI X ih op xs
  | v op xs=>exact m_v X ih op xs
  | p x=>exact m_p X ih x
  | i s x=>exact m_i X ih s x
  | c ifs x=>exact m_c X ih ifs x
  | s x=>exact m_s X ih x
  | ss xs=>exact ZsT X ih xs
end
section
noncomputable def glK (K:W.Frag) (x:Str):Option Value:=match W.nsIn K mainGlobals x with
 | some (some v)=>some v
 | some none=>if x="__name__" then none else bootBuiltins x
 | none=>none
noncomputable def ZsG:Value→Str
 | .str y _=>y
 | _=>""
noncomputable def gsK (K:W.Frag) (x:Str):Option Str:=(W.nsIn K mainGlobals x).bind fun a=>a.bind fun v=>ifO ((v.ctorIdx==6)=true) (some (ZsG v))
noncomputable def Zsi (t:Stmt) (i:Nat):Stmt :=
 let b:=match t with
  | .FunctionDef _ _ b _ _ _ _ _ _ _=>b
  | .If _ b e _=>b++e
  | .For _ _ b e _=>b++e
  | .While _ b e _=>b++e
  | _=>[]
 match b[i]? with | some t=>t | none=>t
noncomputable abbrev ZZ (t:Stmt) (is:List Nat):Stmt:=is.foldl Zsi t
structure Hi where
 own:List Nat:=[]
 mks:List (Nat×List Nat):=[]
 wh:List (Nat×Nat):=[]
 cm:List (Nat×Nat):=[]
 bk:List (Nat×Nat×List Nat):=[]
 rn:List Nat:=[]
 rw:List Nat:=[]
 fz:List (Nat×Nat):=[]
 cls:Qp:=[70,201,324]
noncomputable def EK (K:W.Frag) (f m:Nat) (H:Hi):E0:=⟨(Zm K f).scope,(Zi (Zm K f).scope.names).zipIdx m,glK K,gsK K,H.own,H.mks,H.wh,H.cm,H.bk,H.rn,fun x=>H.cls.filter fun C=>ZcI K C x,fun x=>H.cls.filter fun C=>Zfh K C x,H.rw,H.fz⟩
noncomputable def Yc (K:W.Frag) (f m:Nat) (H:Hi):C:=cmp 160 (EK K f m H) (.ss (XU K f)) .nil
theorem Zrn (he:c.env.scope=sc) (hc:(x,i)∈c.cel) (h:Zia sc x=true):IsC c x i:=by
 unfold Zia at h;simp only [Qz,Q7,Rf] at h;exact ⟨.inr (by show c.env.scope.names.lookup x=_;rw [he];exact h.1.1),hc,h.1.2,h.2⟩
theorem Zsd (he:c.env.scope=sc) (hc:(x,i)∈c.cel) (h:ZaC sc x=true):IsC c x i:=by
 unfold ZaC at h;simp only [Qz,Q7,Rf] at h;exact ⟨.inl (by show c.env.scope.names.lookup x=_;rw [he];exact h.1.1),hc,h.1.2,h.2⟩
structure EntF (K:W.Frag) (f m:Nat) (c:Cx):Prop where
 env:Zss K f c
 tab:ZpQ K f c
 cel:c.cel=(Zi (Zm K f).scope.names).zipIdx m
section
variable {K:Params→W.Frag}{w:World}
theorem Zlm (I:IsK K G w) (h:glK (K w.params) x=some v):Xh G x v∨Xa G x v:=by
 unfold glK at h;split at h
 ·rename_i q;obtain rfl:=Kc h;exact .inl (ZkQ I q)
 ·rename_i q;split at h
  ·exact Zp h
  ·rename_i hn;exact .inr (ZfS I q h hn)
 ·exact Zp h
theorem ZiL (I:IsK K G w) (h:gsK (K w.params) x=some y):∃t,Xh G x (.str y t):=by
 refine ZV h fun a ha h=>ZV h fun v hv h=>Yi h fun hc h=>?_;refine Ue (Zhk hc) fun z t e=>?_;subst e;subst hv;exact ⟨t,Kc h▸ZkQ I ha⟩
theorem Zh2 (I:IsK K G w){f:Nat}{H:Hi}(hG:c.G=G) (hs:c.env.scope=(Zm (K w.params) f).scope) (ht:ZpQ (K w.params) f c) (hc:c.cel=(Zi (Zm (K w.params) f).scope.names).zipIdx m):EnvOk c (EK (K w.params) f m H) where
 l:=fun x i h=>Zqx hs ht h
 k:=fun x i hm h=>by
  refine Or.elim (Bool.or_eq_true_iff.mp h) (fun h=>?_) fun h=>?_
  ·exact Zsd hs (hc▸hm) h
  ·exact Zrn hs (hc▸hm) h
 kd:=fun x h=>by
  unfold ZaC at h;simp only [Qz,Q7] at h;show c.env.scope.names.lookup x=_;rw [hs];exact h.1.1
 g:=fun x v h hv=>Zqu hs h hv
 gl:=fun x v h=>by rw [hG];exact Zlm I h
 gs:=fun x y h=>by rw [hG];exact ZiL I h
 cel:=hc
 ga:=fun x C h=>⟨_,kIn I hG,(Zio (List.mem_of_elem_eq_true h)).2⟩
 sa:=fun x C h=>⟨_,kIn I hG,(Zio (List.mem_of_elem_eq_true h)).2⟩
theorem EntF.ok (I:IsK K G w){f:Nat}(H:Hi) (hG:c.G=G) (e:EntF (K w.params) f m c):EnvOk c (EK (K w.params) f m H):=Zh2 I hG (by rw [e.env];rfl) e.tab e.cel
noncomputable def WO (R:D→Prop):Qa
 | .ret,⟨_,o,[a]⟩=>opt (WZ 0 9 o a) R
 | .next,_=>R .none
 | _,_=>False
theorem Zdt {R:D→Prop}{f:Fl}(h:WO R (up f) st):Ret R f st:=by
 obtain ⟨l,o,s⟩:=st;induction f with
 | next=>exact h
 | brk=>exact False.elim h
 | cont=>exact False.elim h
 | ret =>
  induction s using LLc with
  | nil=>exact False.elim h
  | cons a s=>induction s using LLc with
   | cons _ _=>exact False.elim h
   | nil=>refine Za (Yq h) fun d h1 h2=>?_;exact ⟨a,d,rfl,Wl h1,h2⟩
noncomputable def YH (R:A→List O→Prop):Qa
 | .ret,⟨_,o,[a]⟩=>R a o
 | .next,⟨_,o,_⟩=>R (.d .none) o
 | _,_=>False
theorem Uc {f:Fl}(h:YH R (up f) st):Zh8 R f st:=by
 obtain ⟨l,o,s⟩:=st;induction f with
 | next=>exact h
 | brk=>exact False.elim h
 | cont=>exact False.elim h
 | ret =>
  induction s using LLc with
  | nil=>exact False.elim h
  | cons a s=>induction s using LLc with
   | cons _ _=>exact False.elim h
   | nil=>exact ⟨a,rfl,h⟩
theorem Xo {E:E0}(X:EnvOk c E){n:Nat}{ts:Qr}{code:C}(hc:cmp n E (.ss ts) .nil=code){Q:Qa}(h:wp c code st Q):XJ c ts st fun f st1=>Q (up f) st1:=by
 subst hc;exact (Zna n X (.ss ts) _ _ _ h).mono fun f st1 q=>by induction f <;> exact q
theorem fsW (I:IsK K G w){f:Nat}{args:Qi}{R:D→Prop}{H:Hi}{code:C}{own':Qg}(D:Zlp (K w.params) G f args.length names) (hc:Yc (K w.params) f 0 H=code)
 (hl:∀q∈loc',∃x,(Zg (Zm (K w.params) f).scope)[q.1]?=some x∧(Zm (K w.params) f).scope.names.lookup x=some .local∧(x,q.2)∈WM names (args.map .d)) (ho:own'=(Zi (Zm (K w.params) f).scope.names).map fun x=>.cell (Zs x (WM names (args.map .d))))
 (h:∀c:Cx,c.G=G→c.fuel=need→wp c code ⟨loc',own',[]⟩ (WO R)):Zw G (.ref f) (need+1) args R :=
 ZfJ D hl ho fun c hG he hcel ht hfu=>(Xo (EntF.ok I H hG ⟨he,ht,hcel⟩) hc (h c hG hfu)).mono fun j j q=>Zdt q
theorem ZsN (I:IsK K G w){f:Nat}{args:Qi}{R:D→Prop}{H:Hi}{code:C}{own':Qg}(D:Zlp (K w.params) G f args.length names) (hc:Yc (K w.params) f 0 H=code)
 (hl:∀q∈loc',∃x,(Zg (Zm (K w.params) f).scope)[q.1]?=some x∧(Zm (K w.params) f).scope.names.lookup x=some .local∧(x,q.2)∈WM names (args.map .d)) (ho:own'=(Zi (Zm (K w.params) f).scope.names).map fun x=>.cell (Zs x (WM names (args.map .d))))
 (h:∀c:Cx,c.G=G→c.fuel=need→EnvOk c (EK (K w.params) f 0 H)→wp c code ⟨loc',own',[]⟩ (WO R)):Zw G (.ref f) (need+1) args R :=
 ZfJ D hl ho fun c hG he hcel ht hfu=>(Xo (EntF.ok I H hG ⟨he,ht,hcel⟩) hc (h c hG hfu (EntF.ok I H hG ⟨he,ht,hcel⟩))).mono fun j j q=>Zdt q
theorem Uy (I:IsK K G w){f:Nat}{H:Hi}{code:C}{own':Qg}(D:Zlp (K w.params) G f args.length names) (hc:Yc (K w.params) f os.length H=code)
 (hl:∀q∈loc',∃x,(Zg (Zm (K w.params) f).scope)[q.1]?=some x∧(Zm (K w.params) f).scope.names.lookup x=some .local∧(x,q.2)∈WM names args) (ho:own'=(Zi (Zm (K w.params) f).scope.names).map fun x=>.cell (Zs x (WM names args)))
 (h:∀c:Cx,c.G=G→c.fuel=need→EntF (K w.params) f os.length c→wp c code ⟨loc',os++own',[]⟩ (YH R)):OSpecC G (.ref f) (need+1) os args R :=
 ZfK D hl ho fun c hG he hcel ht hfu=>(Xo (EntF.ok I H hG ⟨he,ht,hcel⟩) hc (h c hG hfu ⟨he,ht,hcel⟩)).mono fun j j q=>Uc q
end
end
variable {H:Hi}
section
theorem ZpD {code:C}{X:D}(h:wp c code st (WO fun d=>d=X)=(X=X)):wp c code st (WO fun d=>d=X):=by rw [h]
theorem Yj {L l:Qc}(h:L.map (fun q=>Zs q.1 l)=L.map (fun q=>some q.2)):Le L l:=fun q hq=>List.map_inj_left.mp h q hq
theorem Zi7 {α:Type}{f:α→Option D}:∀{as:List α}{ys:Qi},ZmA (fun x z=>z=f x) as ys→ys=as.filterMap f:=by
 intro as;induction as with
 | nil=>intro ys h;exact h
 | cons x as ih =>
  intro ys h;refine Zc h fun z zs zo1 h2 zo2=>?_;subst zo1;subst zo2;rw [ih h2,List.filterMap_cons];cases f x <;> rfl
section
variable {t:Tg}{B:Cx→Bd}{n:Nat}{st2:St}{P:Qi→Prop}{α:Type}
theorem Zou (as:List α) (enc:α→A) (f:α→Option D) (hs:st2=st) (hx:xs=as.map enc) (hl:as.length≤1000000)
 (turn:∀c',c'.G=c.G→c'.fuel=c.fuel→∀x∈as,∀l ys cl,ClN n cl→opt (tgF t (enc x) ⟨l,o++[.list ys]++cl,[]⟩) fun st1=>B c' st1 (emG n (fun x z=>z=f x) x (o++[.list ys]))) (q:P (as.filterMap f)):CompI c t B n xs st st2 o P :=
 ⟨as,enc,fun x z=>z=f x,hs,hx,hl,turn,fun ys h=>Zi7 h▸q⟩
end
section
variable {b:Cx→Bd}{n:Nat}{st2:St}{P:Qi→Prop}{α:Type}
theorem Zgo (as:List α) (enc:α→A) (f:α→Option D) (hs:st2=st) (hx:xs=as.map enc) (hl:as.length≤1000000)
 (turn:∀c',c'.G=c.G→c'.fuel=c.fuel→∀x∈as,∀l ys cl,ClN n cl→b c' ⟨(i,enc x)::l,o++[.list ys]++cl,[]⟩ (emG n (fun x z=>z=f x) x (o++[.list ys]))) (q:P (as.filterMap f)):CompI c (.one (.l i)) b n xs st st2 o P :=
 Zou as enc f hs hx hl turn q
variable {B:Bd}{Q:Qa}{β:Type}
theorem Zqk (as:List α) (enc:α→A) (L:β→List (Nat×A)) (ow:β→List O) (k:Qh) (I:List α→β→Prop) (b0:β) (hx:xs=as.map enc) (hst:At (L b0) (ow b0) k st) (h0:I as b0)
 (turn:∀x xs b,I (x::xs) b→B ⟨(i,enc x)::L b,ow b,k⟩ (lpW (fun st2=>∃b',I xs b'∧At (L b') (ow b') k st2) Q)) (fin:∀b,I [] b→Q .next ⟨L b,ow b,k⟩):LpI (.one (.l i)) B none Q xs st :=
 .mk as enc L ow k I b0 hx hst h0 (fun j j=>trivial) turn fin
end
section
variable {l:Qc}{n:Int}
theorem ZbF {α:Type}{xs:List α}{x:α}(h0:0≤n) (h1:n<9223372036854775808) (h:xs[n.toNat]?=some x):ZfO n xs=some x:=by
 induction n with
 | ofNat i=>exact (Zu (Int.ofNat_lt.mp h1)).trans h
 | negSucc i=>exact absurd h0 (Int.not_le.mpr (Int.negSucc_lt_zero _))
theorem Zbz {x:A}(h:ZcV o (.d (.int n)) a=some x):Xd .sub ⟨l,o,.d (.int n)::a::r⟩=some ⟨l,o,x::r⟩:=by
 show (ZcV o (.d (.int n)) a).map _=_;rw [h];rfl
theorem Zru (h:lsA o a=some xs) (hl:xs.length<4611686018427387904):Xd (.bi .len) ⟨l,o,a::r⟩=some ⟨l,o,.d (.int xs.length)::r⟩:=by
 show (ZkN o a).bind _=_;unfold ZkN;rw [h];exact Zu hl
end
section
variable {K:Params→W.Frag}{w:World}{n a:Nat}{l:Qc}
theorem Zkb (I:IsK K G w) (hG:c.G=G) (hF:c.fuel=n){args:Qi}{R:D→Prop}(H:Zw G (.ref a) need args R) (hf:isFn (K w.params) a=true) (hn:need≤n) (hl:args.length=m) (q:∀d,R d→Q ⟨l,o,.d d::k⟩):Stop (CJ c m ⟨l,o,(args.map A.d).reverse++.d (.val (.ref a))::k⟩ Q) :=
 ⟨Wr (hG▸H) (XW I hf hG) (hF▸hn) hl q⟩
theorem ZrC (I:IsK K G w) (hG:c.G=G) (hF:c.fuel=n){X:D}(H:Zw G (.ref a) need [] (fun d=>d=X)) (hf:isFn (K w.params) a=true) (hn:need≤n) (q:Q ⟨l,o,.d X::k⟩):Stop (CJ c 0 ⟨l,o,.d (.val (.ref a))::k⟩ Q) :=
 Zkb (args:=[]) I hG hF H hf hn rfl fun j e=>e▸q
theorem Zc0 (I:IsK K G w) (hG:c.G=G) (hF:c.fuel=n){x:D}{X:D}(H:Zw G (.ref a) need [x] (fun d=>d=X)) (hf:isFn (K w.params) a=true) (hn:need≤n) (q:Q ⟨l,o,.d X::k⟩):Stop (CJ c 1 ⟨l,o,.d x::.d (.val (.ref a))::k⟩ Q) :=
 Zkb (args:=[x]) I hG hF H hf hn rfl fun j e=>e▸q
theorem WQ (I:IsK K G w) (hG:c.G=G) (hF:c.fuel=n){x y:D}{X:D}(H:Zw G (.ref a) need [x,y] (fun d=>d=X)) (hf:isFn (K w.params) a=true) (hn:need≤n) (q:Q ⟨l,o,.d X::k⟩):Stop (CJ c 2 ⟨l,o,.d y::.d x::.d (.val (.ref a))::k⟩ Q) :=
 Zkb (args:=[x,y]) I hG hF H hf hn rfl fun j e=>e▸q
end
theorem Zdw {P:Nat×A→Prop}:∀q∈([]:Qc),P q:=fun j h=>nomatch h
section
variable {l:Qc}{b:A}
theorem Zpd {ys:Qq}(h1:x.length≤16) (h2:(ys.map (·.length)).sum+ys.length≤1048576):Xd (.me .join) ⟨l,o,.d (.list (ys.map .str))::.d (.str x)::r⟩=some ⟨l,o,.d (.str (Txt.join x ys))::r⟩:=by
 show (ZaI (ys.map .str)).bind _=_;rw [Zga];exact Zu ⟨h1,h2⟩
theorem Zkt (h:x.length<4611686018427387904):Xd (.bi .len) ⟨l,o,.d (.str x)::r⟩=some ⟨l,o,.d (.int x.length)::r⟩:=Zu h
theorem Zqw {xs:Qi}{n:Int}{x:D}(h0:0≤n) (h1:n<9223372036854775808) (h:xs[n.toNat]?=some x):Xd .sub ⟨l,o,.d (.int n)::.d (.list xs)::r⟩=some ⟨l,o,.d x::r⟩ :=
 Zbz (by show (ZfO n xs).map _=_;rw [ZbF h0 h1 h];rfl)
theorem ZaF {d:D}(h:Yk x es=some d):Xd .sub ⟨l,o,.d (.str x)::.d (.dict es)::r⟩=some ⟨l,o,.d d::r⟩:=by
 show ((Yk x es).map A.d).map _=_;rw [h];rfl
theorem Zov {xs:Qi}(h:xs.length≤1000000):Xd .cut ⟨l,o,.d (.slice lo hi none)::.d (.list xs)::r⟩=some ⟨l,o,.d (.list (cut xs lo hi))::r⟩:=by
 show (ifO _ _).map _=_;rw [Zu h];rfl
theorem Zox (h:x.length≤1000000):Xd .cut ⟨l,o,.d (.slice lo hi none)::.d (.str x)::r⟩=some ⟨l,o,.d (.str (Zae x lo hi))::r⟩:=by
 show (ifO _ _).map _=_;rw [Zu h];rfl
theorem ZgA {n:Nat}{t:Sl}(h:n≤32):itF .val (.one t) ⟨l,o,.d (.range 0 n)::r⟩=some (none,((List.range n).map fun (i:Nat)=>D.int (0+i)).map .d,⟨l,o,r⟩):=by
 show (ifO _ _).map _=_;rw [Zu ⟨rfl,h⟩];rfl
end
end
section
variable {w:World}
theorem Znw {i:Int}(h0:0≤i) (h1:i<16):ZcV ([]:Qg) (.d (.int i)) (.d (.str UO))=some (.d (.str (Xy i))):=by
 show (ZfO i UO.cps.toList).map _=_;rw [ZbF h0 (Int.lt_trans h1 (by decide)) (by rw [Array.getElem?_toList];exact ZlF h0 h1)];rfl
end
section
variable {w:World}
theorem ZkP {n:Nat}{x:D}:WZ m n own (.d x)=some x:=by induction n using Nat.casesOn <;> rfl
theorem Zpo {n:Nat}(xs:Qi):ZI (WZ m n own) (xs.map .d)=some xs:=by
 induction xs with
 | nil=>rfl
 | cons x xs ih =>
  show (WZ m n own (.d x)).bind (fun y=>(ZI (WZ m n own) (xs.map .d)).map (y::·))=_;rw [ZkP,ih];rfl
end
section
variable {w:World}
theorem ZjN:∀xs:Qi,ZI (Zan m own) (xs.map .d)=some (xs.map .d)
 | []=>rfl
 | x::xs=>by
  show (ZI (Zan m own) (xs.map .d)).map (A.d x::·)=_;rw [ZjN xs];rfl
end
section
noncomputable def lc36:C:=.o (.loc 1) <| .o (.loc 0) <| .stA "keyid" [70,201,324] <| .o (.loc 2) <| .o (.loc 0) <| .stA "keytype" [70,201,324] <| .o (.loc 3) <| .o (.loc 0) <| .stA "scheme" [70,201,324] <| .o (.loc 4) <| .o (.loc 0) <| .stA "keyval" [70,201,324] <| .sel (.o (.loc 5) <| .o (.lit .none) <| .o (.cmp .Is) .tru) (.o .dict0 <| .o (.st (.l 5)) .nil) .nil <| .o (.loc 5) <| .o (.loc 0) <| .stA "unrecognized_fields" [70,201,324] .nil
theorem Zrb (w:World):Yc (kk1 w.params) 36 0 {}=lc36:=by kd_p
theorem Zp0 {w:World}(I:IsK kk1 G w){a3 a4:A}(h:∀c:Cx,c.G=G→c.fuel=need→EntF (kk1 w.params) 36 os.length c→wp c lc36 ⟨[(0,a0),(1,a1),(2,a2),(3,a3),(4,a4),(5,.d .none)],os++[],[]⟩ (YH R)):OSpecC G (.ref 36) (need+1) os [a0,a1,a2,a3,a4] R :=
 Uy I (own':=[]) (Z2 (n:=5) (names:=["self","keyid","keytype","scheme","keyval","unrecognized_fields"]) I (by kd_p) (ln5 fun b0 b1 b2 b3 b4 S=>by kd_p)) (Zrb w) (Zr [0,1,2,3,4,5] (by kd_p)) (by kd_p) h
theorem ZoP {w:World}(I:IsK kk1 G w){a3 a4 a5:A}(h:∀c:Cx,c.G=G→c.fuel=need→EntF (kk1 w.params) 36 os.length c→wp c lc36 ⟨[(0,a0),(1,a1),(2,a2),(3,a3),(4,a4),(5,a5)],os++[],[]⟩ (YH R)):OSpecC G (.ref 36) (need+1) os [a0,a1,a2,a3,a4,a5] R :=
 Uy I (own':=[]) (Z2 (n:=6) (names:=["self","keyid","keytype","scheme","keyval","unrecognized_fields"]) I (by kd_p) (ln6 fun b0 b1 b2 b3 b4 b5 S=>by kd_p)) (Zrb w) (Zr [0,1,2,3,4,5] (by kd_p)) (by kd_p) h
noncomputable def lc43:C:=.sel (.notT (.o (.lit (.val (.builtin "isinstance"))) <| .o (.loc 1) <| .o (.lit (.val (.ref 70))) <| .call 2 .tru)) (.o (.lit (.bool false)) .ret) .nil <| .boo true (.o (.loc 0) <| .attr "keyid" [70,201,324] <| .o (.loc 1) <| .attr "keyid" [70,201,324] <| .o (.cmp .Eq) .nil) (.boo true (.o (.loc 0) <| .attr "keytype" [70,201,324] <| .o (.loc 1) <| .attr "keytype" [70,201,324] <| .o (.cmp .Eq) .nil) (.boo true (.o (.loc 0) <| .attr "scheme" [70,201,324] <| .o (.loc 1) <| .attr "scheme" [70,201,324] <| .o (.cmp .Eq) .nil) (.boo true (.o (.loc 0) <| .attr "keyval" [70,201,324] <| .o (.loc 1) <| .attr "keyval" [70,201,324] <| .o (.cmp .Eq) .nil) (.o (.loc 0) <| .attr "unrecognized_fields" [70,201,324] <| .o (.loc 1) <| .attr "unrecognized_fields" [70,201,324] <| .o (.cmp .Eq) .nil) .nil) .nil) .nil) .ret
theorem Zsr (w:World):Yc (kk1 w.params) 43 0 {}=lc43:=by kd_p
theorem ZsO {w:World}(I:IsK kk1 G w){R:D→Prop}(h:∀c:Cx,c.G=G→c.fuel=need→wp c lc43 ⟨[(0,.d d0),(1,.d d1)],[],[]⟩ (WO R)):Zw G (.ref 43) (need+1) [d0,d1] R :=
 fsW I (own':=[]) (Z2 (n:=2) (names:=["self","other"]) I (by kd_p) (ln2 fun b0 b1 S=>by kd_p)) (Zsr w) (Zr [0,1] (by kd_p)) (by kd_p) h
noncomputable def lc60:C:=.dict ["keytype","scheme","keyval"] (.o (.loc 0) <| .attr "keytype" [70,201,324] <| .o (.loc 0) <| .attr "scheme" [70,201,324] <| .o (.loc 0) <| .attr "keyval" [70,201,324] .nil) <| .o (.st (.l 1)) <| .o (.loc 1) <| .mtd .upd (.o (.loc 0) <| .attr "unrecognized_fields" [70,201,324] .nil) <| .o .pop <| .o (.loc 1) .ret
theorem ZsA (w:World):Yc (kk1 w.params) 60 0 {}=lc60:=by kd_p
theorem ZoU {w:World}(I:IsK kk1 G w) (h:∀c:Cx,c.G=G→c.fuel=need→EntF (kk1 w.params) 60 os.length c→wp c lc60 ⟨[(0,a0)],os++[],[]⟩ (YH R)):OSpecC G (.ref 60) (need+1) os [a0] R :=
 Uy I (own':=[]) (Z2 (n:=1) (names:=["self"]) I (by kd_p) (ln1 fun b0 S=>by kd_p)) (ZsA w) (Zr [0] (by kd_p)) (by kd_p) h
noncomputable def lc50:C:=.o (.loc 2) <| .mtd .pop1 (.o (.lit (.str "keytype")) .nil) <| .o (.st (.l 3)) <| .o (.loc 2) <| .mtd .pop1 (.o (.lit (.str "scheme")) .nil) <| .o (.st (.l 4)) <| .o (.loc 2) <| .mtd .pop1 (.o (.lit (.str "keyval")) .nil) <| .o (.st (.l 5)) <| .o (.loc 0) <| .o (.loc 1) <| .o (.loc 3) <| .o (.loc 4) <| .o (.loc 5) <| .o (.loc 2) <| .call 5 .ret
theorem ZsR (w:World):Yc (kk1 w.params) 50 0 {}=lc50:=by kd_p
theorem Zpr {w:World}(I:IsK kk1 G w) (h:∀c:Cx,c.G=G→c.fuel=need→EntF (kk1 w.params) 50 os.length c→wp c lc50 ⟨[(0,a0),(1,a1),(2,a2)],os++[],[]⟩ (YH R)):OSpecC G (.ref 50) (need+1) os [a0,a1,a2] R :=
 Uy I (own':=[]) (Z2 (n:=3) (names:=["cls","keyid","key_dict"]) I (by kd_p) (ln3 fun b0 b1 b2 S=>by kd_p)) (ZsR w) (Zr [0,1,2] (by kd_p)) (by kd_p) h
noncomputable def lc109:C:=.raw [ZZ (mAt pw1 7 0) [0]] <| .sel (.o (.loc 2) <| .o (.lit (.int 1)) <| .o (.cmp .Lt) .tru) .bad .nil <| .o (.loc 1) <| .o (.loc 0) <| .stA "keyids" [201,275] <| .o (.loc 2) <| .o (.loc 0) <| .stA "threshold" [201,275] <| .sel (.o (.loc 3) <| .o (.lit .none) <| .o (.cmp .Is) .tru) (.o .dict0 <| .o (.st (.l 3)) .nil) .nil <| .o (.loc 3) <| .o (.loc 0) <| .stA "unrecognized_fields" [201,275] .nil
theorem Zrw (w:World):Yc (kk1 w.params) 109 0 {rw:=[121],cls:=[201,275]}=lc109:=by kd_p
theorem ZhA {w:World}(I:IsK kk1 G w){a3:A}(h:∀c:Cx,c.G=G→c.fuel=need→EntF (kk1 w.params) 109 os.length c→wp c lc109 ⟨[(0,a0),(1,a1),(2,a2),(3,a3)],os++[],[]⟩ (YH R)):OSpecC G (.ref 109) (need+1) os [a0,a1,a2,a3] R :=
 Uy I (own':=[]) (Z2 (n:=4) (names:=["self","keyids","threshold","unrecognized_fields"]) I (by kd_p) (ln4 fun b0 b1 b2 b3 S=>by kd_p)) (Zrw w) (Zr [0,1,2,3] (by kd_p)) (by kd_p) h
noncomputable def lc116:C:=.sel (.notT (.o (.lit (.val (.builtin "isinstance"))) <| .o (.loc 1) <| .o (.lit (.val (.ref 136))) <| .call 2 .tru)) (.o (.lit (.bool false)) .ret) .nil <| .boo true (.o (.loc 0) <| .attr "keyids" [201,275] <| .o (.loc 1) <| .attr "keyids" [201,275] <| .o (.cmp .Eq) .nil) (.boo true (.o (.loc 0) <| .attr "threshold" [201,275] <| .o (.loc 1) <| .attr "threshold" [201,275] <| .o (.cmp .Eq) .nil) (.o (.loc 0) <| .attr "unrecognized_fields" [201,275] <| .o (.loc 1) <| .attr "unrecognized_fields" [201,275] <| .o (.cmp .Eq) .nil) .nil) .ret
theorem Zqp (w:World):Yc (kk1 w.params) 116 0 {cls:=[201,275]}=lc116:=by kd_p
theorem ZrZ {w:World}(I:IsK kk1 G w){R:D→Prop}(h:∀c:Cx,c.G=G→c.fuel=need→wp c lc116 ⟨[(0,.d d0),(1,.d d1)],[],[]⟩ (WO R)):Zw G (.ref 116) (need+1) [d0,d1] R :=
 fsW I (own':=[]) (Z2 (n:=2) (names:=["self","other"]) I (by kd_p) (ln2 fun b0 b1 S=>by kd_p)) (Zqp w) (Zr [0,1] (by kd_p)) (by kd_p) h
noncomputable def lc133:C:=.dict ["keyids","threshold"] (.o (.loc 0) <| .attr "keyids" [201,275] <| .o (.loc 0) <| .attr "threshold" [201,275] .nil) <| .o (.st (.l 1)) <| .o (.loc 1) <| .mtd .upd (.o (.loc 0) <| .attr "unrecognized_fields" [201,275] .nil) <| .o .pop <| .o (.loc 1) .ret
theorem Zqh (w:World):Yc (kk1 w.params) 133 0 {cls:=[201,275]}=lc133:=by kd_p
theorem Zol {w:World}(I:IsK kk1 G w){R:D→Prop}(h:∀c:Cx,c.G=G→c.fuel=need→wp c lc133 ⟨[(0,.d d0)],[],[]⟩ (WO R)):Zw G (.ref 133) (need+1) [d0] R :=
 fsW I (own':=[]) (Z2 (n:=1) (names:=["self"]) I (by kd_p) (ln1 fun b0 S=>by kd_p)) (Zqh w) (Zr [0] (by kd_p)) (by kd_p) h
noncomputable def lc157:C:=.o (.loc 1) <| .o (.loc 0) <| .stA "name" [201] <| .o (.loc 4) <| .o (.loc 0) <| .stA "terminating" [201] <| .o (.loc 5) <| .o (.loc 6) <| .o (.list 2) <| .o (.st (.l 8)) <| .raw [ZZ (mAt pw1 8 0) [4]] <| .raw [ZZ (mAt pw1 8 0) [5]] <| .raw [ZZ (mAt pw1 8 0) [6]] <| .o (.loc 5) <| .o (.loc 0) <| .stA "paths" [201] <| .o (.loc 6) <| .o (.loc 0) <| .stA "path_hash_prefixes" [201] .nil
theorem Zok (w:World):cmp 160 (EK (kk1 w.params) 157 0 {rw:=[153,155,157],cls:=[201]}) (.ss (XU (kk1 w.params) 157).tail) .nil=lc157:=by kd_p
noncomputable def lc164:C:=.sel (.notT (.o (.lit (.val (.builtin "isinstance"))) <| .o (.loc 1) <| .o (.lit (.val (.ref 201))) <| .call 2 .tru)) (.o (.lit (.bool false)) .ret) .nil <| .boo true (.o (.lit (.val (.ref 136))) <| .meth "__eq__" 2 (.o (.loc 0) <| .o (.loc 1) .nil) .nil) (.boo true (.o (.loc 0) <| .attr "name" [201] <| .o (.loc 1) <| .attr "name" [201] <| .o (.cmp .Eq) .nil) (.boo true (.o (.loc 0) <| .attr "terminating" [201] <| .o (.loc 1) <| .attr "terminating" [201] <| .o (.cmp .Eq) .nil) (.boo true (.o (.loc 0) <| .attr "paths" [201] <| .o (.loc 1) <| .attr "paths" [201] <| .o (.cmp .Eq) .nil) (.o (.loc 0) <| .attr "path_hash_prefixes" [201] <| .o (.loc 1) <| .attr "path_hash_prefixes" [201] <| .o (.cmp .Eq) .nil) .nil) .nil) .nil) .ret
theorem Zq8 (w:World):Yc (kk1 w.params) 164 0 {cls:=[201]}=lc164:=by kd_p
theorem ZrJ {w:World}(I:IsK kk1 G w){R:D→Prop}(h:∀c:Cx,c.G=G→c.fuel=need→wp c lc164 ⟨[(0,.d d0),(1,.d d1)],[],[]⟩ (WO R)):Zw G (.ref 164) (need+1) [d0,d1] R :=
 fsW I (own':=[]) (Z2 (n:=2) (names:=["self","other"]) I (by kd_p) (ln2 fun b0 b1 S=>by kd_p)) (Zq8 w) (Zr [0,1] (by kd_p)) (by kd_p) h
noncomputable def lc171:C:=.o (.loc 1) <| .mtd .pop1 (.o (.lit (.str "name")) .nil) <| .o (.st (.l 2)) <| .o (.loc 1) <| .mtd .pop1 (.o (.lit (.str "keyids")) .nil) <| .o (.st (.l 3)) <| .o (.loc 1) <| .mtd .pop1 (.o (.lit (.str "threshold")) .nil) <| .o (.st (.l 4)) <| .o (.loc 1) <| .mtd .pop1 (.o (.lit (.str "terminating")) .nil) <| .o (.st (.l 5)) <| .o (.loc 1) <| .mtd .pop2 (.o (.lit (.str "paths")) <| .o (.lit .none) .nil) <| .o (.st (.l 6)) <| .o (.loc 1) <| .mtd .pop2 (.o (.lit (.str "path_hash_prefixes")) <| .o (.lit .none) .nil) <| .o (.st (.l 7)) <| .o (.loc 0) <| .o (.loc 2) <| .o (.loc 3) <| .o (.loc 4) <| .o (.loc 5) <| .o (.loc 6) <| .o (.loc 7) <| .o (.loc 1) <| .call 7 .ret
theorem Zsf (w:World):Yc (kk1 w.params) 171 0 {}=lc171:=by kd_p
theorem ZmB {w:World}(I:IsK kk1 G w) (h:∀c:Cx,c.G=G→c.fuel=need→EntF (kk1 w.params) 171 os.length c→wp c lc171 ⟨[(0,a0),(1,a1)],os++[],[]⟩ (YH R)):OSpecC G (.ref 171) (need+1) os [a0,a1] R :=
 Uy I (own':=[]) (Z2 (n:=2) (names:=["cls","role_dict"]) I (by kd_p) (ln2 fun b0 b1 S=>by kd_p)) (Zsf w) (Zr [0,1] (by kd_p)) (by kd_p) h
noncomputable def lc181:C:=.o (.lit (.val (.ref 136))) <| .meth "to_dict" 1 (.o (.loc 0) .nil) <| .o (.st (.l 1)) <| .dict ["name","terminating"] (.o (.loc 0) <| .attr "name" [201] <| .o (.loc 0) <| .attr "terminating" [201] .nil) <| .o (.st (.l 2)) <| .o (.loc 2) <| .mtd .upd (.o (.loc 1) .nil) <| .o .pop <| .sel (.o (.loc 0) <| .attr "paths" [201] <| .o (.lit .none) <| .o (.cmp .IsNot) .tru) (.o (.loc 0) <| .attr "paths" [201] <| .o (.loc 2) <| .o (.lit (.str "paths")) <| .o .set .nil) (.sel (.o (.loc 0) <| .attr "path_hash_prefixes" [201] <| .o (.lit .none) <| .o (.cmp .IsNot) .tru) (.o (.loc 0) <| .attr "path_hash_prefixes" [201] <| .o (.loc 2) <| .o (.lit (.str "path_hash_prefixes")) <| .o .set .nil) .nil .nil) <| .o (.loc 2) .ret
theorem Zr5 (w:World):Yc (kk1 w.params) 181 0 {cls:=[201]}=lc181:=by kd_p
theorem Zne {w:World}(I:IsK kk1 G w) (h:∀c:Cx,c.G=G→c.fuel=need→EntF (kk1 w.params) 181 os.length c→wp c lc181 ⟨[(0,a0)],os++[],[]⟩ (YH R)):OSpecC G (.ref 181) (need+1) os [a0] R :=
 Uy I (own':=[]) (Z2 (n:=1) (names:=["self"]) I (by kd_p) (ln1 fun b0 S=>by kd_p)) (Zr5 w) (Zr [0] (by kd_p)) (by kd_p) h
noncomputable def lc198:C:=.sel (.o (.loc 0) <| .attr "path_hash_prefixes" [201] <| .o (.lit .none) <| .o (.cmp .IsNot) .tru) (.o (.loc 2) <| .o (.loc 1) <| .meth "encode" 1 (.o (.lit (.str "utf-8")) .nil) <| .o (.lit (.str "sha256")) <| .call 2 <| .o (.st (.l 3)) <| .o (.loc 0) <| .attr "path_hash_prefixes" [201] <| .for_ false .val (.one (.l 4)) (.sel (.o (.loc 3) <| .mth .startswith (.o (.loc 4) .nil) .tru) (.o (.lit (.bool true)) .ret) .nil .nil) .nil) (.sel (.o (.loc 0) <| .attr "paths" [201] <| .o (.lit .none) <| .o (.cmp .IsNot) .tru) (.o (.loc 0) <| .attr "paths" [201] <| .for_ false .val (.one (.l 5)) (.sel (.o (.loc 0) <| .meth "_is_target_in_pathpattern" 2 (.o (.loc 1) <| .o (.loc 5) .nil) .tru) (.o (.lit (.bool true)) .ret) .nil .nil) .nil) .nil .nil) <| .o (.lit (.bool false)) .ret
theorem ZqO (w:World):Yc (kk1 w.params) 198 0 {cls:=[201]}=lc198:=by kd_p
theorem Zma {w:World}(I:IsK kk1 G w) (h:∀c:Cx,c.G=G→c.fuel=need→EntF (kk1 w.params) 198 os.length c→wp c lc198 ⟨[(0,a0),(1,a1),(2,a2)],os++[],[]⟩ (YH R)):OSpecC G (.ref 198) (need+1) os [a0,a1,a2] R :=
 Uy I (own':=[]) (Z2 (n:=3) (names:=["self","target_filepath","digest"]) I (by kd_p) (ln3 fun b0 b1 b2 S=>by kd_p)) (ZqO w) (Zr [0,1,2] (by kd_p)) (by kd_p) h
noncomputable def lc227:C:=.sel (.orT (.o (.loc 3) <| .o (.lit (.int 0)) <| .o (.cmp .LtE) .tru) (.o (.loc 3) <| .o (.lit (.int 32)) <| .o (.cmp .Gt) .tru)) .bad .nil <| .sel (.notT (.o (.lit (.val (.builtin "isinstance"))) <| .o (.loc 4) <| .o (.lit (.val (.type "str"))) <| .call 2 .tru)) .bad .nil <| .o (.loc 3) <| .o (.loc 0) <| .stA "bit_length" [275] <| .o (.loc 4) <| .o (.loc 0) <| .stA "name_prefix" [275] <| .o (.lit (.int 2)) <| .o (.loc 3) <| .o (.bin .Pow) <| .o (.loc 0) <| .stA "number_of_bins" [275] <| .bi .len (.o (.lit (.val (.ref 210))) <| .o (.loc 0) <| .attr "number_of_bins" [275] <| .o (.lit (.int 1)) <| .o (.bin .Sub) <| .o (.lit (.int 1)) <| .call 2 .nil) <| .o (.loc 0) <| .stA "suffix_len" [275] .nil
theorem Zn5 (w:World):cmp 160 (EK (kk1 w.params) 227 0 {cls:=[275]}) (.ss (XU (kk1 w.params) 227).tail) .nil=lc227:=by kd_p
noncomputable def lc234:C:=.sel (.notT (.o (.lit (.val (.builtin "isinstance"))) <| .o (.loc 1) <| .o (.lit (.val (.ref 275))) <| .call 2 .tru)) (.o (.lit (.bool false)) .ret) .nil <| .boo true (.o (.lit (.val (.ref 136))) <| .meth "__eq__" 2 (.o (.loc 0) <| .o (.loc 1) .nil) .nil) (.boo true (.o (.loc 0) <| .attr "bit_length" [275] <| .o (.loc 1) <| .attr "bit_length" [275] <| .o (.cmp .Eq) .nil) (.o (.loc 0) <| .attr "name_prefix" [275] <| .o (.loc 1) <| .attr "name_prefix" [275] <| .o (.cmp .Eq) .nil) .nil) .ret
theorem ZrK (w:World):Yc (kk1 w.params) 234 0 {cls:=[275]}=lc234:=by kd_p
theorem ZrO {w:World}(I:IsK kk1 G w){R:D→Prop}(h:∀c:Cx,c.G=G→c.fuel=need→wp c lc234 ⟨[(0,.d d0),(1,.d d1)],[],[]⟩ (WO R)):Zw G (.ref 234) (need+1) [d0,d1] R :=
 fsW I (own':=[]) (Z2 (n:=2) (names:=["self","other"]) I (by kd_p) (ln2 fun b0 b1 S=>by kd_p)) (ZrK w) (Zr [0,1] (by kd_p)) (by kd_p) h
noncomputable def lc241:C:=.o (.loc 1) <| .mtd .pop1 (.o (.lit (.str "keyids")) .nil) <| .o (.st (.l 2)) <| .o (.loc 1) <| .mtd .pop1 (.o (.lit (.str "threshold")) .nil) <| .o (.st (.l 3)) <| .o (.loc 1) <| .mtd .pop1 (.o (.lit (.str "bit_length")) .nil) <| .o (.st (.l 4)) <| .o (.loc 1) <| .mtd .pop1 (.o (.lit (.str "name_prefix")) .nil) <| .o (.st (.l 5)) <| .o (.loc 0) <| .o (.loc 2) <| .o (.loc 3) <| .o (.loc 4) <| .o (.loc 5) <| .o (.loc 1) <| .call 5 .ret
theorem Zqb (w:World):Yc (kk1 w.params) 241 0 {}=lc241:=by kd_p
theorem ZmE {w:World}(I:IsK kk1 G w) (h:∀c:Cx,c.G=G→c.fuel=need→EntF (kk1 w.params) 241 os.length c→wp c lc241 ⟨[(0,a0),(1,a1)],os++[],[]⟩ (YH R)):OSpecC G (.ref 241) (need+1) os [a0,a1] R :=
 Uy I (own':=[]) (Z2 (n:=2) (names:=["cls","role_dict"]) I (by kd_p) (ln2 fun b0 b1 S=>by kd_p)) (Zqb w) (Zr [0,1] (by kd_p)) (by kd_p) h
noncomputable def lc251:C:=.dict ["bit_length","name_prefix"] (.o (.loc 0) <| .attr "bit_length" [275] <| .o (.loc 0) <| .attr "name_prefix" [275] .nil) <| .o (.st (.l 1)) <| .o (.loc 1) <| .mtd .upd (.o (.lit (.val (.ref 136))) <| .meth "to_dict" 1 (.o (.loc 0) .nil) .nil) <| .o .pop <| .o (.loc 1) .ret
theorem ZqA (w:World):Yc (kk1 w.params) 251 0 {cls:=[275]}=lc251:=by kd_p
theorem ZnE {w:World}(I:IsK kk1 G w) (h:∀c:Cx,c.G=G→c.fuel=need→EntF (kk1 w.params) 251 os.length c→wp c lc251 ⟨[(0,a0)],os++[],[]⟩ (YH R)):OSpecC G (.ref 251) (need+1) os [a0] R :=
 Uy I (own':=[]) (Z2 (n:=1) (names:=["self"]) I (by kd_p) (ln1 fun b0 S=>by kd_p)) (ZqA w) (Zr [0] (by kd_p)) (by kd_p) h
noncomputable def lc258:C:=.o (.loc 2) <| .o (.loc 1) <| .meth "encode" 1 (.o (.lit (.str "utf-8")) .nil) <| .o (.lit (.str "sha256")) <| .call 2 <| .slc false true false .bad (.o (.lit (.int 8)) .nil) .bad <| .o .cut <| .o (.st (.l 3)) <| .o (.lit (.int 32)) <| .o (.loc 0) <| .attr "bit_length" [275] <| .o (.bin .Sub) <| .o (.st (.l 4)) <| .o (.lit (.val (.type "int"))) <| .o (.loc 3) <| .o (.lit (.int 16)) <| .call 2 <| .o (.loc 4) <| .o (.bin .RShift) <| .o (.st (.l 5)) <| .o (.lit (.val (.ref 210))) <| .o (.loc 5) <| .o (.loc 0) <| .attr "suffix_len" [275] <| .call 2 <| .o (.st (.l 6)) <| .raw [ZZ (mAt pw1 10 4) [4]] .nil
theorem Zq4 (w:World):Yc (kk1 w.params) 258 0 {rw:=[251],cls:=[275]}=lc258:=by kd_p
theorem ZmZ {w:World}(I:IsK kk1 G w) (h:∀c:Cx,c.G=G→c.fuel=need→EntF (kk1 w.params) 258 os.length c→wp c lc258 ⟨[(0,a0),(1,a1),(2,a2)],os++[],[]⟩ (YH R)):OSpecC G (.ref 258) (need+1) os [a0,a1,a2] R :=
 Uy I (own':=[]) (Z2 (n:=3) (names:=["self","target_filepath","digest"]) I (by kd_p) (ln3 fun b0 b1 b2 S=>by kd_p)) (Zq4 w) (Zr [0,1,2] (by kd_p)) (by kd_p) h
noncomputable def ZnB:C:=.o (.loc 2) <| .o (.loc 0) <| .stA "roles" [324] <| .o (.loc 3) <| .o (.loc 0) <| .stA "succinct_roles" [324] <| .sel (.o (.loc 4) <| .o (.lit .none) <| .o (.cmp .Is) .tru) (.o .dict0 <| .o (.st (.l 4)) .nil) .nil <| .o (.loc 4) <| .o (.loc 0) <| .stA "unrecognized_fields" [324] .nil
noncomputable def lc292:C:=.o (.loc 1) <| .o (.loc 0) <| .stA "keys" [324] <| .raw [ZZ (mAt pw1 11 0) [1]] <| .raw [ZZ (mAt pw1 11 0) [2]] <| .mark [0,1,2,3,4] ZnB
theorem ZiQ (w:World):Yc (kk1 w.params) 292 0 {rw:=[264,266],mks:=[(270,[0,1,2,3,4])],cls:=[324]}=lc292:=by kd_p
theorem ZlM {w:World}(I:IsK kk1 G w){a3:A}(h:∀c:Cx,c.G=G→c.fuel=need→EntF (kk1 w.params) 292 os.length c→wp c lc292 ⟨[(0,a0),(1,a1),(2,a2),(3,a3),(4,.d .none)],os++[],[]⟩ (YH R)):OSpecC G (.ref 292) (need+1) os [a0,a1,a2,a3] R :=
 Uy I (own':=[]) (Z2 (n:=4) (names:=["self","keys","roles","succinct_roles","unrecognized_fields"]) I (by kd_p) (ln4 fun b0 b1 b2 b3 S=>by kd_p)) (ZiQ w) (Zr [0,1,2,3,4] (by kd_p)) (by kd_p) h
theorem Znj {w:World}(I:IsK kk1 G w) (h:∀c:Cx,c.G=G→c.fuel=need→EntF (kk1 w.params) 292 os.length c→wp c lc292 ⟨[(0,a0),(1,a1),(2,a2),(3,.d .none),(4,.d .none)],os++[],[]⟩ (YH R)):OSpecC G (.ref 292) (need+1) os [a0,a1,a2] R :=
 Uy I (own':=[]) (Z2 (n:=3) (names:=["self","keys","roles","succinct_roles","unrecognized_fields"]) I (by kd_p) (ln3 fun b0 b1 b2 S=>by kd_p)) (ZiQ w) (Zr [0,1,2,3,4] (by kd_p)) (by kd_p) h
theorem Zme {w:World}(I:IsK kk1 G w){a3 a4:A}(h:∀c:Cx,c.G=G→c.fuel=need→EntF (kk1 w.params) 292 os.length c→wp c lc292 ⟨[(0,a0),(1,a1),(2,a2),(3,a3),(4,a4)],os++[],[]⟩ (YH R)):OSpecC G (.ref 292) (need+1) os [a0,a1,a2,a3,a4] R :=
 Uy I (own':=[]) (Z2 (n:=5) (names:=["self","keys","roles","succinct_roles","unrecognized_fields"]) I (by kd_p) (ln5 fun b0 b1 b2 b3 b4 S=>by kd_p)) (ZiQ w) (Zr [0,1,2,3,4] (by kd_p)) (by kd_p) h
noncomputable def lc299:C:=.sel (.notT (.o (.lit (.val (.builtin "isinstance"))) <| .o (.loc 1) <| .o (.lit (.val (.ref 324))) <| .call 2 .tru)) (.o (.lit (.bool false)) .ret) .nil <| .boo true (.o (.loc 0) <| .attr "keys" [324] <| .o (.loc 1) <| .attr "keys" [324] <| .o (.cmp .Eq) .nil) (.boo true (.o (.loc 0) <| .attr "roles" [324] <| .o (.loc 1) <| .attr "roles" [324] <| .o (.cmp .Eq) .nil) (.boo true (.o (.loc 0) <| .attr "succinct_roles" [324] <| .o (.loc 1) <| .attr "succinct_roles" [324] <| .o (.cmp .Eq) .nil) (.o (.loc 0) <| .attr "unrecognized_fields" [324] <| .o (.loc 1) <| .attr "unrecognized_fields" [324] <| .o (.cmp .Eq) .nil) .nil) .nil) <| .o (.st (.l 2)) <| .sel (.andT (.o (.loc 0) <| .attr "roles" [324] <| .o (.lit .none) <| .o (.cmp .IsNot) .tru) (.o (.loc 1) <| .attr "roles" [324] <| .o (.lit .none) <| .o (.cmp .IsNot) .tru)) (.boo true (.o (.loc 2) .nil) (.bi .list (.o (.loc 0) <| .attr "roles" [324] .nil) <| .bi .list (.o (.loc 1) <| .attr "roles" [324] .nil) <| .o (.cmp .Eq) .nil) <| .o (.st (.l 2)) .nil) .nil <| .o (.loc 2) .ret
theorem Zqm (w:World):Yc (kk1 w.params) 299 0 {cls:=[324]}=lc299:=by kd_p
theorem Zhc {w:World}(I:IsK kk1 G w){R:D→Prop}(h:∀c:Cx,c.G=G→c.fuel=need→wp c lc299 ⟨[(0,.d d0),(1,.d d1)],[],[]⟩ (WO R)):Zw G (.ref 299) (need+1) [d0,d1] R :=
 fsW I (own':=[]) (Z2 (n:=2) (names:=["self","other"]) I (by kd_p) (ln2 fun b0 b1 S=>by kd_p)) (Zqm w) (Zr [0,1] (by kd_p)) (by kd_p) h
noncomputable def Zmn:C:=.o (.loc 1) <| .mtd .pop2 (.o (.lit (.str "succinct_roles")) <| .o (.lit .none) .nil) <| .o (.st (.l 10)) <| .o (.lit .none) <| .o (.st (.l 11)) <| .sel (.o (.loc 10) <| .o (.lit .none) <| .o (.cmp .IsNot) .tru) (.raw [ZZ (mAt pw1 11 2) [8,0]] .nil) .nil <| .o (.loc 0) <| .o (.loc 3) <| .o (.loc 7) <| .o (.loc 11) <| .o (.loc 1) <| .call 4 .ret
noncomputable def ZlV:C:=.o (.loc 1) <| .mtd .pop2 (.o (.lit (.str "roles")) <| .o (.lit .none) .nil) <| .o (.st (.l 6)) <| .o (.lit .none) <| .o (.st (.l 7)) <| .sel (.o (.loc 6) <| .o (.lit .none) <| .o (.cmp .IsNot) .tru) (.o .dict0 <| .o (.st (.l 7)) <| .o (.loc 6) <| .for_ false .val (.one (.l 8)) (.raw [ZZ (mAt pw1 11 2) [5,1,0]] <| .raw [ZZ (mAt pw1 11 2) [5,1,1]] <| .o (.loc 9) <| .o (.loc 7) <| .o (.loc 9) <| .attr "name" [70,201,324] <| .o .set .nil) .nil) .nil <| .mark [0,1,3,7] Zmn
noncomputable def lc306:C:=.o (.loc 1) <| .mtd .pop1 (.o (.lit (.str "keys")) .nil) <| .o (.st (.l 2)) <| .o .dict0 <| .o (.st (.l 3)) <| .raw [ZZ (mAt pw1 11 2) [2]] <| .mark [0,1,3] ZlV
theorem Zq6 (w:World):Yc (kk1 w.params) 306 0 {rw:=[288,295,296,302],mks:=[(290,[0,1,3]),(299,[0,1,3,7])]}=lc306:=by kd_p
theorem ZgB {w:World}(I:IsK kk1 G w) (h:∀c:Cx,c.G=G→c.fuel=need→EntF (kk1 w.params) 306 os.length c→wp c lc306 ⟨[(0,a0),(1,a1)],os++[],[]⟩ (YH R)):OSpecC G (.ref 306) (need+1) os [a0,a1] R :=
 Uy I (own':=[]) (Z2 (n:=2) (names:=["cls","delegations_dict"]) I (by kd_p) (ln2 fun b0 b1 S=>by kd_p)) (Zq6 w) (Zr [0,1] (by kd_p)) (by kd_p) h
noncomputable def lc314:C:=.raw [ZZ (mAt pw1 11 3) [0]] <| .dict ["keys"] (.o (.loc 1) .nil) <| .o (.st (.l 2)) <| .o (.loc 2) <| .mtd .upd (.o (.loc 0) <| .attr "unrecognized_fields" [324] .nil) <| .o .pop <| .sel (.o (.loc 0) <| .attr "roles" [324] <| .o (.lit .none) <| .o (.cmp .IsNot) .tru) (.raw [ZZ (mAt pw1 11 3) [3,0]] <| .o (.loc 3) <| .o (.loc 2) <| .o (.lit (.str "roles")) <| .o .set .nil) (.sel (.o (.loc 0) <| .attr "succinct_roles" [324] <| .o (.lit .none) <| .o (.cmp .IsNot) .tru) (.o (.loc 0) <| .attr "succinct_roles" [324] <| .meth "to_dict" 0 .nil <| .o (.loc 2) <| .o (.lit (.str "succinct_roles")) <| .o .set .nil) .nil .nil) <| .o (.loc 2) .ret
theorem Zry (w:World):Yc (kk1 w.params) 314 0 {rw:=[306,310],cls:=[324]}=lc314:=by kd_p
theorem Zhh {w:World}(I:IsK kk1 G w) (h:∀c:Cx,c.G=G→c.fuel=need→EntF (kk1 w.params) 314 os.length c→wp c lc314 ⟨[(0,a0)],os++[],[]⟩ (YH R)):OSpecC G (.ref 314) (need+1) os [a0] R :=
 Uy I (own':=[]) (Z2 (n:=1) (names:=["self"]) I (by kd_p) (ln1 fun b0 S=>by kd_p)) (Zry w) (Zr [0] (by kd_p)) (by kd_p) h
noncomputable def lc371:C:=.raw [ZZ (fAt pw1 20) [0]] <| .boo true (.o (.loc 0) <| .o (.loc 6) <| .o (.cmp .Eq) <| .o (.un .Not) .nil) (.o (.loc 6) <| .o (.loc 0) <| .o (.cmp .Eq) <| .o (.un .Not) .nil) .ret
theorem Zr3 (w:World):Yc (kk1 w.params) 371 0 {rw:=[342]}=lc371:=by kd_p
end
section
variable {w:World}
theorem Zfi (I:IsK kk1 G w){a b c d:D}:OSpecC G (.ref 36) 2 [.inst 70 1,.dict [] 0] (.own 0::[a,b,c,d].map .d) fun r os'=>r = .d .none∧Frz os' 0 (.own 0) (ZpU a b c d []) :=
 Zp0 I (need:=1) fun cx hG hF j=>fun j j j j j=>⟨rfl,Wl (n:=9) (by kd_p)⟩
end
section
noncomputable def Zv (ids:Qq):D:=.list (ids.map .str)
noncomputable def Y1 (nm:Str) (ids:Qq) (t:Int) (h:Qq):D:=.inst 201 ([("keyids",Zv ids),("threshold",.int t),("unrecognized_fields",.dict []),("name",.str nm),("terminating",.bool true),("paths",.none),("path_hash_prefixes",Zv h)]:Qd)
noncomputable def Xc (nm:Str) (ids:Qq) (t:Int) (h:Qq):Qe:=[("name",.d (.str nm)),("terminating",.d (.bool true)),("keyids",.d (Zv ids)),("threshold",.d (.int t)),("path_hash_prefixes",.d (Zv h))]
noncomputable def XC (nm:Str) (ids:Qq) (t:Int) (h:Qq) (u:A):Qe:=[("keyids",.d (Zv ids)),("threshold",.d (.int t)),("unrecognized_fields",u),("name",.d (.str nm)),("terminating",.d (.bool true)),("paths",.d .none),("path_hash_prefixes",.d (Zv h))]
noncomputable def Zx (ids:Qq) (t:Int) (b:Nat) (p:Str):D:=.inst 275 ([("keyids",Zv ids),("threshold",.int t),("unrecognized_fields",.dict []),("bit_length",.int b),("name_prefix",.str p),("number_of_bins",.int (2 ^ b)),("suffix_len",.int ((b+3) / 4:Nat))]:Qd)
noncomputable def ZcW (ids:Qq) (t:Int) (b:Nat) (p:Str):Qe:=[("bit_length",.d (.int b)),("name_prefix",.d (.str p)),("keyids",.d (Zv ids)),("threshold",.d (.int t))]
noncomputable def Zc1 (ids:Qq) (t:Int) (b:Nat) (p:Str) (u:A):Qe:=[("keyids",.d (Zv ids)),("threshold",.d (.int t)),("unrecognized_fields",u),("bit_length",.d (.int b)),("name_prefix",.d (.str p)),("number_of_bins",.d (.int (2 ^ b))),("suffix_len",.d (.int ((b+3) / 4:Nat)))]
section
variable {w:World}
theorem Zcm (I:IsX1 G w){a b c:Str}{x:Qd}:OSpecC G (.ref 60) 3 [] [.d (ZpU (.str a) (.str b) (.str c) (.dict x) [])] fun r os'=>r = .own 0∧∃ep,os'=[.dict (ZoZ (.str b) (.str c) (.dict x)) ep] :=
 ZoU I.k (need:=2) fun cx hG hF j=>fun j e=>⟨rfl,e,by kd_p⟩
theorem Zch (I:IsX1 G w){nm:Str}{t:Int}{h:Qq}:Zw G (.ref 133) 3 [Y1 nm ids t h] fun d=>d = .dict ([("keyids",Zv ids),("threshold",.int t)]:Qd) :=
 Zol I.k (need:=2) fun cx hG hF=>fun j e=>by
  with_unfolding_all exact rfl
end
end
section
inductive GenW (prog:Program) (w:World) (A:Around) (x:Str) (ifs:Qs) (elt:Expr) (env:Env) (it:Value) (Q:Qj) (s:Shared):Prop
 | mk (I:Addr) (fp wr:Qp) (n₀:Nat) (P:Nat→Value→Prop) (St₀:Nat→Heap→Prop) (pz:Nat→Bool) (F:Nat→Value→Prop) (e:it = .ref I) (W₀:∀A':Around,A'.handled=none→Walks prog w A' I fp wr n₀ P St₀) (hst:St₀ 0 s.heap) (hfp:∀b∈fp,b<s.heap.objs.size)
  (hl:s.heap.NoLimit) (hcw:cStatics∉wr) (hq:∀href:Heap,(∀b o,s.heap.get? b=some o→href.get? b=some o)→QuietGenD prog w env x ifs elt (List.range s.heap.objs.size) wr P pz F href (A.depth+1) (A.units+8))
  (hQ:∀a h₅ tk gs,gs.bare=true→s.heap.objs.size<a→h₅.objs.size=a+1→(∀b o,s.heap.get? b=some o→h₅.get? b=some o) →
   WalksS prog w A.in4 a (a::s.heap.objs.size::List.range s.heap.objs.size) (s.heap.objs.size::wr) (GenOnlyQ s.gens.size) (passing pz n₀ 0).length
    (fun j y=>∃i,(passing pz n₀ 0)[j]?=some i∧F i y) (GenAt prog w A.in4 a s.gens.size s.heap.objs.size (List.range s.heap.objs.size) wr pz n₀ F) →
   GenAt prog w A.in4 a s.gens.size s.heap.objs.size (List.range s.heap.objs.size) wr pz n₀ F 0 {s with gens:=s.gens.push gs,toks:=tk,heap:=h₅} →
   Q (.ref a) {s with gens:=s.gens.push gs,toks:=tk,heap:=h₅})
theorem ZfR {w:World}{A:Around}{s:Shared}{cl:Qm}{Q:Qj}
 (hh:A.handled=none) (hco:scope.isCoroutine=false) (hclos:closureFor scope env=pure cl) (hcell:∀y∈scope.names,y.2≠.cell) (h0:scope.names.lookup (".0":Str)=some NameKind.local)
 (hx:scope.names.lookup x=some .local) (hkind:scope.kind = .function) (hroom:A.depth<recursionLimit)
 (h:wpAny (model prog w) A (eval iter env) (fun x0 s₀=>wpAny (model prog w) A (genFold iter env x0) (fun xv s₁=>wpAny (model prog w) A (pyIter xv) (fun it s₂=>s₂.heap.NoLimit ∧
  wpAny (model prog w) A (genexprCode env pos (env.qual++"<genexpr>") scope) (fun code s₃=>wpAny (model prog w) A (builtinsFor env.globals env.builtins) (fun bi s₄ =>
   GenW prog w A x ifs elt (genEnv scope cl s₄.heap.objs.size code bi env) it Q s₄) E s₃) E s₂) E s₁) E s₀) E s) :
 wpAny (model prog w) A (eval (.GeneratorExp elt [⟨.Name x px,iter,ifs,0⟩] scope pos) env) Q E s:=by
 refine Zip hco hclos hcell h0 hkind hroom (Kb h (fun x0 s₀ h₀=>Kb h₀ (fun xv s₁ h₁=>Kb h₁ (fun it s₂ h₂=>⟨h₂.1,Kb h₂.2 (fun code s₃ h₃=>Kb h₃ (fun bi s₄ h₄=>?_)
  fun j j e=>e) fun j j e=>e⟩) fun j j e=>e) fun j j e=>e) fun j j e=>e)
 obtain ⟨I,fp,wr,n₀,P,St₀,pz,F,rfl,W₀,hst,hfp,hl₄,hcw,hq,hQ⟩:=h₄;have hclt:cStatics<s₄.heap.objs.size:=by refine Za hl₄ fun j hn j=>?_;exact hn.lt
 intro h' hn' hs';have hsz:h'.objs.size=s₄.heap.objs.size+1:=by rw [hs'.1,Heap.size_push]
 have keep':∀b o,s₄.heap.get? b=some o→h'.get? b=some o:=fun b o e=>hs'.extBut b o (Rg (Kk e)) (Kn _ e);have hsub:∀b∈wr,b∈List.range s₄.heap.objs.size:=fun b hb=>Zkd (hfp b ((W₀ A hh).sub b hb));have haC:h'.objs.size≠s₄.heap.objs.size:=by rw [hsz];exact Nat.succ_ne_self _
 have haf:h'.objs.size∉List.range s₄.heap.objs.size:=fun hm=>by have:=ZfC hm;lia
 have keep₅:∀b o,s₄.heap.get? b=some o→(h'.push {cls:=.type "generator",data:=.fields #[.int s₄.gens.size 0,.str "<genexpr>" (s₄.toks+1),.str (env.qual++"<genexpr>") (s₄.toks+1+1)]}).get? b=some o :=
  fun b o e=>Kn _ (keep' b o e)
 refine hQ _ _ _ _ rfl (by lia) (by rw [Heap.size_push]) keep₅ (WalksS.genexpQ (A:=A.in4) hh _ _ _ _ wr pz n₀ F haC haf hsub hroom (Zkd hclt) (Rg hclt) hcw) ?_
 refine GenAt.freshD (A:=A.in4) (cenv:=genEnv scope cl s₄.heap.objs.size code bi env) (m:=fun y=>if y=".0" then some (.ref I) else none) hh
  (fun A' hA=>(W₀ A' hA).mono_fp fun b hb=>Zkd (hfp b hb)) pz F hx (by simp [genEnv,hkind]) hco
  (fun hm=>Rn _ (ZfC hm)) (hq _ keep₅) ⟨_,_,_,Kh _ rfl,rfl,rfl,rfl⟩ (Array.getElem?_push_size ..) ((W₀ A hh).frame _ _ _ hst fun b j o e=>keep₅ b o e) (hn'.push _) (hl₄.keeps keep₅)
section
variable {l:Qc}
inductive GenR (c:Cx) (F:Fz) (st:St) (vs:Qo) (xs:Qi) (tz:D→Bool) (Fd:D→Value→Prop) (a:Addr) (s:Shared):Prop
 | mk (C:Addr) (wr:Qp) (g:Nat) (fp:Qp) (n:Nat) (hn:n=(xs.filter tz).length)
  (W:WalksS c.p c.w c.A.in4 a (a::C::fp) wr (GenOnlyQ g) n (fun j y=>∃d,(xs.filter tz)[j]?=some d∧Fd d y) (GenAt c.p c.w c.A.in4 a g C fp wr.tail (fun i=>(xs[i]?).any tz) xs.length (fun i y=>∃d,xs[i]?=some d∧Fd d y)))
  (G:GenAt c.p c.w c.A.in4 a g C fp wr.tail (fun i=>(xs[i]?).any tz) xs.length (fun i y=>∃d,xs[i]?=some d∧Fd d y) 0 s) (hfp:∀b∈a::C::fp,b<s.heap.objs.size) (back:∀s',Moved wr (GenOnlyQ g) s s'→RS c F st vs s')
theorem Zev {v0:Value}{s1:Shared}{m:Qk}{P:Addr}{Qv:Qj}(GK:GenOk c.G K) (hP:Yd P∈c.G.reg) (hcode:c.env.code = .ref cda) (htab:XQ K cda P=true) (hne:cda≠P) (hfu:3≤c.fuel)
 {xs:Qi} {tz:D→Bool} {Fd:D→Value→Prop} {a:Addr} {iobj:Obj} {IsIt:Nat→Heap→Prop} {IsSrc:Heap→Prop} (W:RSW c F ⟨l,o,.d (.list xs)::k⟩ (v0::vs) s1 g ρ m) (hvs:VRs c.p c.w g xs us) (hT:∀d∈xs,Xp c scope x ifs elt tz Fd d)
 (ha:a<s1.heap.objs.size) (hpush:(s1.heap.push iobj).get? s1.heap.objs.size=some iobj) (hit:∀h:Heap,h.get? s1.heap.objs.size=some iobj→IsIt 0 h) (hsrc:∀h:Heap,(∀b ob,s1.heap.get? b=some ob→b≠P→h.get? b=some ob)→IsSrc h)
 (walks:∀A':Around,A'.handled=none→Walks c.p c.w A' s1.heap.objs.size [s1.heap.objs.size,a] [s1.heap.objs.size] us.toArray.size (fun i v=>us.toArray[i]?=some v) fun i h=>IsIt i h∧IsSrc h)
 (cont:∀a' s',GenR c F ⟨l,o,k⟩ vs xs tz Fd a' s'→Qv (.ref a') s') :
 (s1.heap.push iobj).NoLimit∧wpAny (model c.p c.w) c.A (genexprCode c.env pos (c.env.qual++"<genexpr>") scope) (fun code s₃=>wpAny (model c.p c.w) c.A (builtinsFor c.env.globals c.env.builtins) (fun bi s₄ =>
  GenW c.p c.w c.A x ifs elt (genEnv scope [] s₄.heap.objs.size code bi c.env) (.ref s1.heap.objs.size) Qv s₄) NoE s₃) NoE {s1 with heap:=s1.heap.push iobj}:=by
 have hd:=c.hd;have hu:=c.hu;have hB:=c.G.lib.mono _ _ W.keep W.base;have hlim:s1.heap.NoLimit:=c.G.lib.nolimit _ hB;refine ⟨hlim.push _,?_⟩;refine Ka fun zn1=>?_;obtain ⟨u,op,hop,ps,hps0,htr⟩:=W.reg _ hP;refine zn1 ?_;have hps:op.data = .fields ps:=by exact congrArg _ hps0
 have hopP:s1.heap.get? P=some op:=hop;have X1:K.In s1.heap:=GK.K _ hB;have pu:∀b ob,s1.heap.get? b=some ob→(s1.heap.push iobj).get? b=some ob:=fun b ob e=>Kn _ e;refine Zde hcode (ZcA (X1.keeps pu) htab (pu _ _ hopP) hps htr hne) (XM (X1.keeps pu) htab (hps0▸pu _ _ hopP)) fun code h3' tk ps' hext hcode' htab'=>?_;have hg0:∀r∈c.G.reg,g.get? r.at_=none:=fun r hr=>(W.reg r hr).1;have gP:g.get? P=none:=hg0 _ hP;have subg:Sub g h3':=fun b ob e=>hext b ob (fun q=>by rw [q,gP] at e;exact Zp e) (pu _ _ (W.keep _ _ e));refine Ka fun zn2=>?_;obtain ⟨mm,bm,bo,b1,b2,b3,b4,b5,b6,b7⟩:=GK.bm _ W.base;refine zn2 ?_;refine wpAny_builtinsFor (by rw [c.hg];exact b1.keeps subg) b2 b3 (subg _ _ b4) b5 b6 b7 ?_;have hIP:s1.heap.objs.size≠P:=fun q=>absurd (Kk hopP) (by rw [←q];exact Rn _);have hIobj:h3'.get? s1.heap.objs.size=some iobj:=hext _ _ hIP hpush;have hl3:IsSrc h3':=hsrc _ fun b ob e hb=>hext b ob hb (pu _ _ e);have hlim3:h3'.NoLimit:=(c.G.lib.nolimit _ W.base).keeps subg;have hcs:cStatics∉[s1.heap.objs.size]:=fun hm=>by
  rw [Q3] at hm;refine Za hlim fun u hn u=>?_
  have:=hn.lt;rw [←hm] at this;exact absurd this (Rn _)
 have hsz3:s1.heap.objs.size<h3'.objs.size:=Kk hIobj;refine oza (Zcd xs tz) fun pl pm=>?_;refine .mk s1.heap.objs.size [s1.heap.objs.size,a] [s1.heap.objs.size] us.toArray.size (fun i v=>us.toArray[i]?=some v) (fun i h=>IsIt i h∧IsSrc h) (fun i=>(xs[i]?).any tz) (fun i y=>∃d,xs[i]?=some d∧Fd d y) rfl walks ⟨hit _ hIobj,hl3⟩ (fun b hb=>?_) hlim3 hcs (fun href hkeep=>?_) fun a' h5 tk5 gs hbare hlt hsz5 hk5 WS GA=>?_
 ·rcases ZH hb with rfl | hb
  ·exact hsz3
  ·rw [Q3] at hb;subst hb;exact Nat.lt_trans ha hsz3
 ·have item:∀(i:Nat) v,us.toArray[i]?=some v→∃d,xs[i]?=some d∧VR c.p c.w g d v:=fun i v hv=>UW hvs (by simpa using hv);have sb:∀s₂:Shared,(∀b∈List.range h3'.objs.size,b∉[s1.heap.objs.size]→∀ob,href.get? b=some ob→s₂.heap.get? b=some ob)→Sub g s₂.heap:=fun s₂ hk b ob e=>hk b (Zkd (Kk (subg _ _ e))) (fun hm=>by
   rw [Q3] at hm
   have:=Kk (W.keep _ _ e);rw [hm] at this;exact absurd this (Rn _)) ob (hkeep _ _ (subg _ _ e))
  have gf:GenFr c.G scope (genEnv scope [] h3'.objs.size code builtinsNs c.env):=⟨rfl,c.hg,rfl⟩
  exact {
   tests:=fun A' E' i v s₂ m₂ q1 q2 q3 q4 q5 q6 q7=>by
    refine Za (item i v q4) fun d e1 e2=>?_
    have:=(hT d (Kj e1) A' E' _ s₂ m₂ g v gf q1 (by lia) q5 q6 W.base (sb s₂ q7) e2).1;rw [e1];exact this
   elt:=fun A' E' i v s₂ m₂ q1 q2 q3 q4 q4' q5 q6 q7=>by
    refine Za (item i v q4) fun d e1 e2=>?_;rw [e1] at q4'
    have:=(hT d (Kj e1) A' E' _ s₂ m₂ g v gf q1 (by lia) q5 q6 W.base (sb s₂ q7) e2).2 q4';exact wpm this (fun y s₃ zq1=>by refine oza zq1 fun y1 y2=>?_;exact ⟨⟨d,e1,y1⟩,y2⟩)}
 ·have hul':us.toArray.size=xs.length:=by simp [(ZU hvs)]
  rw [hul'] at WS GA;refine cont a' _ (.mk h3'.objs.size [h3'.objs.size,s1.heap.objs.size] s1.gens.size (List.range h3'.objs.size) _ rfl (Zfv WS pl fun j y zq2=>?_) GA (fun b hb=>?_) fun s'' hm=>?_)
  ·refine Ka fun zn7=>?_;refine Zi8 zq2 fun i hi d ed hF=>?_;refine Za (pm j i hi) fun d' e1 e2=>?_;refine zn7 ?_;rw [ed] at e1;obtain rfl:=Kc e1;exact ⟨d,e2,hF⟩
  ·rw [hsz5];rcases List.mem_cons.mp hb with rfl | hb
   ·exact Nat.lt_succ_self _
   rcases List.mem_cons.mp hb with rfl | hb
   ·exact Nat.lt_succ_of_lt hlt
   ·exact Nat.lt_succ_of_lt (Nat.lt_trans (List.mem_range.mp hb) hlt)
  ·have far:∀b,b<s1.heap.objs.size→b∉[h3'.objs.size,s1.heap.objs.size]:=fun b hb hm=>by
    rcases List.mem_cons.mp hm with rfl | hm
    ·exact absurd (Nat.lt_trans hb hsz3) (Rn _)
    ·rw [Q3] at hm;subst hm;exact absurd hb (Rn _)
   have kp:∀b ob,s1.heap.get? b=some ob→b≠P→s''.heap.get? b=some ob:=fun b ob e hb=>hm.heap b ob (far b (Kk e)) (hk5 _ _ (hext _ _ hb (pu _ _ e)));have hP3:∃ob ps,s''.heap.get? P=some ob∧ob={cls:=.none,data:=.fields ps}∧TriplesOk ps.toList:=by
    refine Ka fun zn8=>?_;obtain ⟨u,u,u,u,u,u,u,u,u,op',u,u,u,u,u,u,u,r1,r2,r3,u⟩:=hcode';refine zn8 ?_;exact ⟨_,ps',hm.heap P _ (far P (Kk hopP)) (hk5 _ _ htab'.2),rfl,r3⟩
   have H2:HS c.G F s'' g:=W.toHS.turnTo (fun b ob e hb=>kp b ob e (hb _ hP)) (fun r hr=>by
    by_cases hq:r.at_=P
    ·have zo1:=GK.reg r hr P hP hq;subst zo1;refine Ka fun zn10=>?_;refine Zc hP3 fun ob ps q1 q2 q3=>?_;refine zn10 ?_;exact ⟨ob,q1,ps,q2,q3⟩
    ·refine Ka fun zn11=>?_;refine YK (W.reg _ hr) fun u ob q1 q2=>?_;refine zn11 ?_;exact ⟨ob,kp _ _ q1 hq,q2⟩) (fun i y hy=>by
    have e1:=W.gens i y hy;have hi:i<s1.gens.size:=(Array.getElem?_eq_some_iff.mp e1).1;have e2:(s1.gens.push gs)[i]?=some y:=by rw [Array.getElem?_push_lt hi];rw [Rx hi] at e1;exact e1
    rcases hm.gens with q | ⟨⟨_,q⟩,_⟩
    ·rw [q];exact e2
    ·rw [q i (Rg hi)];exact e2) (fun y hy=>by
    have hb5:AllBare (s1.gens.push gs):=W.bare.push hbare;rcases hm.gens with q | ⟨⟨qs,q⟩,q2⟩
    ·rw [q] at hy;exact hb5 y hy
    ·refine Ka fun zn12=>?_;obtain ⟨k,hk,ek⟩:=Array.getElem_of_mem hy;refine zn12 ?_;have e1:s''.gens[k]?=some y:=by rw [Rx hk,ek]
     by_cases hk':k=s1.gens.size
     ·subst hk';exact q2 y e1
     ·rw [q k hk'] at e1;exact hb5 y (Array.mem_of_getElem? e1)) hm.os
   exact ⟨g,ρ,m,(W.onto H2 (Sub.refl _) (fun b hb=>W.nomut b (ZD hb)) fun b hb ob e=>kp b ob e ((W.apart b hb).1 _ hP)).stack (Zb W.stk)⟩
theorem Zg9 {s1:Shared}{m:Qk}{P:Addr}(W:RSW c F st vs s1 g ρ m) (hP:Yd P∈c.G.reg){a:Addr}{ol:Obj}(hol:s1.heap.get? a=some ol) (hs:∀ps,ol.data≠.fields ps) (h:Heap) (hk:∀b ob,s1.heap.get? b=some ob→b≠P→h.get? b=some ob):h.get? a=some ol :=
 hk a ol hol fun q=>by
  obtain ⟨j,op,hop,ps,hps,j⟩:=W.reg _ hP;rw [show (Yd P).at_=a from q.symm,hol] at hop;obtain rfl:=Kc hop;exact hs ps (by rw [hps])
theorem ZcN {s:Shared}{P:Addr}{Qv:Qj}(GK:GenOk c.G K) (hP:Yd P∈c.G.reg) (hcode:c.env.code = .ref cda) (htab:XQ K cda P=true) (hne:cda≠P)
 (hsc:XN scope x=true) (hf:(∀v,genFold iter c.env v=pure v)∨∃els lp,iter = .List els lp∧Zy els=true) {QX:Qi→Prop} {tz:D→Bool} {Fd:D→Value→Prop}
 (h:EJ c iter ⟨l,o,k⟩ fun st1=>∃xs,st1=⟨l,o,.d (.list xs)::k⟩∧xs.length≤1000∧(∀d∈xs,Xp c scope x ifs elt tz Fd d)∧QX xs) (R:RS c F ⟨l,o,k⟩ vs s) (hfu:3≤c.fuel)
 (cont:∀xs a s',QX xs→GenR c F ⟨l,o,k⟩ vs xs tz Fd a s'→Qv (.ref a) s'):wpAny (model c.p c.w) c.A (eval (.GeneratorExp elt [⟨.Name x px,iter,ifs,0⟩] scope pos) c.env) Qv NoE s:=by
 unfold XN at hsc;simp only [Qz,Q7,Rf] at hsc;refine oza hsc fun zo4 h5=>?_;refine oza zo4 fun zo3 h4=>?_;refine oza zo3 fun zo2 h3=>?_;obtain ⟨h1,h2⟩:=zo2;have hd:=c.hd;refine ZfR c.hh h1 (Za5 h2) (fun y hy=>by simpa using (Xx (Zd4 h2 y hy)).1) h3 h4 h5 (by exact Ku (Ko _ _) (by assumption)) ?_;refine wpm (h F vs s R) (fun v s1 zq3=>?_);obtain ⟨st1,⟨g,ρ,m,W⟩,xs,e1,hx,hT,hQ⟩:=zq3;subst e1;refine Zc (Zd W.stk) fun a us zo5 hfl hvs=>?_;subst zo5;refine Ug (isList_sub W.keep hfl) fun ol hol h6 n0 h7=>?_;have lst:wpAny (model c.p c.w) c.A (pyIter (.ref a)) (fun it s₂=>s₂.heap.NoLimit∧wpAny (model c.p c.w) c.A (genexprCode c.env pos (c.env.qual++"<genexpr>") scope) (fun code s₃=>wpAny (model c.p c.w) c.A (builtinsFor c.env.globals c.env.builtins) (fun bi s₄ =>
  GenW c.p c.w c.A x ifs elt (genEnv scope [] s₄.heap.objs.size code bi c.env) it Qv s₄) NoE s₃) NoE s₂) NoE s1:=wpAny_pyIter_list ⟨ol,hol,h6,n0,h7⟩ (Zev (IsIt:=fun i h=>h.IsListIter s1.heap.objs.size a i) (IsSrc:=fun h=>h.IsList a us.toArray) GK hP hcode htab hne hfu W hvs hT (Kk hol) (Kh _ rfl) (fun h e=>⟨_,e,rfl,rfl⟩) (fun h hk=>⟨ol,Zg9 W hP hol (fun ps e=>nomatch h7.symm.trans e) h hk,h6,n0,h7⟩)
  (fun A' hA=>Walks.list hA _ a (Rg (Kk hol)) us.toArray) fun a' s'=>cont xs a' s' hQ)
 rcases hf with hf | ⟨els,lp,rfl,hns⟩
 ·rw [hf];exact Ki lst
 ·refine Kd (wpAny_askSetting (wpAny_ite ?_));split
  ·exact Ki lst
  ·clear lst
   try dsimp only
   split
   ·rename_i hany;refine Za (List.any_eq_true.mp hany) fun e he hm=>?_;have hne':YM e=false:=by simpa using Zd4 hns e he
    exfalso;induction e using Expr.casesOn <;> first | (exact Zf6 hne';done) | exact Xi hm
   refine Kd (wpAny_rule (Kd (wpAny_seqItems hol h7 ?_)));have hul:=ZU hvs;refine wpAny_newTuple ?_ (by rw [sizeLine_eq];dsimp only [Option.getD_some];lia);have Wn:=W.alloc {cls:=.type "tuple",data:=.seq us.toArray} s1.toks;dsimp only [Option.getD_some,Array.toArray_toList];have ht:(s1.heap.push {cls:=.type "tuple",data:=.seq us.toArray}).get? s1.heap.objs.size=some {cls:=.type "tuple",data:=.seq us.toArray}:=Kh _ rfl;generalize s1.heap.push {cls:=.type "tuple",data:=.seq us.toArray}=h2 at Wn ht ⊢
   exact wpAny_pyIter_tuple ⟨_,ht,rfl,0,rfl⟩ (Zev (s1:={s1 with heap:=h2}) (IsIt:=fun i h=>h.IsTupleIter h2.objs.size s1.heap.objs.size i) (IsSrc:=fun h=>h.IsTuple s1.heap.objs.size us.toArray) GK hP hcode htab hne hfu Wn hvs hT (Kk ht) (Kh _ rfl) (fun h e=>⟨_,e,rfl,rfl⟩) (fun h hk=>⟨_,Zg9 Wn hP ht (fun ps e=>nomatch e) h hk,rfl,0,rfl⟩)
    (fun A' hA=>Walks.tuple hA _ _ (Rg (Kk ht)) us.toArray) fun a' s'=>cont xs a' s' hQ)
theorem ZcZ {p0 gpos:Pos}{P:Addr}(GK:GenOk c.G K) (hP:Yd P∈c.G.reg) (hcode:c.env.code = .ref cda) (htab:XQ K cda P=true) (hne:cda≠P)
 (hsc:XN scope x=true) (hf:(∀v,genFold iter c.env v=pure v)∨∃els lp,iter = .List els lp∧Zy els=true) {tz:D→Bool} (hsum:IsG c "sum" (.builtin "sum")) (hfu:3≤c.fuel)
 (h:EJ c iter ⟨l,o,.d (.val (.builtin "sum"))::k⟩ fun st1=>∃xs,st1=⟨l,o,.d (.list xs)::.d (.val (.builtin "sum"))::k⟩∧xs.length≤1000∧(∀d∈xs,Xp c scope x ifs elt tz (fun j y=>∃t,y = .int 1 t) d)∧Q ⟨l,o,.d (.int (xs.filter tz).length)::k⟩) :
 EJ c (.Call (.Name "sum" p0) [.GeneratorExp elt [⟨.Name x px,iter,ifs,0⟩] scope gpos] [] pos) ⟨l,o,k⟩ Q:=fun F vs s R=>by
 refine wpq (Y2 _ _ _ rfl) ?_;refine Kd (wpm (ZQ (Q:=fun st=>st=⟨l,o,.d (.val (.builtin "sum"))::k⟩) hsum rfl F vs s R) (fun f s1 zq4=>?_));obtain ⟨st1,R1,h1⟩:=zq4;subst h1;obtain rfl:f = .builtin "sum":=by refine ozr R1 fun g ρ m W=>?_;exact Zd W.stk
 refine W.callWith_of (P:=fun h=>ZF c (.builtin "sum") h) rfl (fun h hk=>hk) ?_;rw [ZT _ _ rfl];refine evalArgs_plain (Calls.spliced_cons (ZcN GK hP hcode htab hne hsc hf h R1 hfu fun xs a s' hQ zq5=>?_));obtain ⟨C,wr,g,fp,n,hn,W,St,hfp,back⟩:=zq5;refine Calls.spliced_nil ⟨Zl,?_⟩;refine call_sum_walkAnyS (W.of_in1.of_in1.of_in1.self 0 s' _ _ St ⟨a,_,_,_,n,_,_,fun j=>1,rfl,W.of_in1.of_in1.of_in1,St,hfp,fun i v hv=>?_,fun s'' t' hm=>?_⟩)
 ·refine ZjB hv fun d j t e=>?_;exact ⟨t,e⟩
 ·rw [Zb0,hn];refine ozr (back s'' hm) fun g' ρ m W'=>?_;exact ⟨_,⟨g',ρ,m,W'.stack (Zh YS (Zb W'.stk))⟩,hQ⟩
theorem ZhU {p0 gpos:Pos}{P:Addr}(GK:GenOk c.G K) (hP:Yd P∈c.G.reg) (hcode:c.env.code = .ref cda) (htab:XQ K cda P=true) (hne:cda≠P)
 (hsc:XN scope x=true) (hf:(∀v,genFold iter c.env v=pure v)∨∃els lp,iter = .List els lp∧Zy els=true) {tz:D→Bool} (hany:IsG c "any" (.builtin "any")) (hfu:3≤c.fuel)
 (h:EJ c iter ⟨l,o,.d (.val (.builtin "any"))::k⟩ fun st1=>∃xs,st1=⟨l,o,.d (.list xs)::.d (.val (.builtin "any"))::k⟩∧xs.length≤1000∧(∀d∈xs,Xp c scope x ifs elt tz (fun j y=>y = .bool false) d)∧Q ⟨l,o,.d (.bool false)::k⟩) :
 EJ c (.Call (.Name "any" p0) [.GeneratorExp elt [⟨.Name x px,iter,ifs,0⟩] scope gpos] [] pos) ⟨l,o,k⟩ Q:=fun F vs s R=>by
 refine wpq (Y2 _ _ _ rfl) ?_;refine Kd (wpm (ZQ (Q:=fun st=>st=⟨l,o,.d (.val (.builtin "any"))::k⟩) hany rfl F vs s R) (fun f s1 zq6=>?_));obtain ⟨st1,R1,h1⟩:=zq6;subst h1;obtain rfl:f = .builtin "any":=by refine ozr R1 fun g ρ m W=>?_;exact Zd W.stk
 refine W.callWith_of (P:=fun h=>ZF c (.builtin "any") h) rfl (fun h hk=>hk) ?_;rw [ZT _ _ rfl];refine evalArgs_plain (Calls.spliced_cons (ZcN GK hP hcode htab hne hsc hf h R1 hfu fun xs a s' hQ zq7=>?_));obtain ⟨C,wr,g,fp,n,hn,W,St,hfp,back⟩:=zq7;refine Calls.spliced_nil ⟨Zl,?_⟩;refine call_any_walkS (W.of_in1.of_in1.of_in1.self 0 s' _ _ St ⟨a,_,_,_,n,_,_,fun j=>false,rfl,W.of_in1.of_in1.of_in1,St,fun i v s Q E hv hq=>?_,fun s'' hm=>?_⟩)
 ·refine Za hv fun d j e=>?_;subst e;exact wpAny_truthy_bool hq
 ·have:((List.range n).any fun j=>false)=false:=by simp
  rw [this];refine ozr (back s'' hm) fun g' ρ m W'=>?_;exact ⟨_,⟨g',ρ,m,W'.stack (Zh Y3 (Zb W'.stk))⟩,hQ⟩
end
end
section
theorem l1r {n k:Nat}(h:n≤k) (hk:k≤1000000):(List.range n).length≤1000000:=by rw [Rk];exact Kr h hk
theorem fdv (n m:Nat):(n:Int).fdiv (m:Nat)=((n / m:Nat):Int):=Int.fdiv_eq_ediv_of_nonneg _ (Rb m)
theorem fmd (n m:Nat):(n:Int).fmod (m:Nat)=((n % m:Nat):Int):=Int.fmod_eq_emod_of_nonneg _ (Rb m)
theorem fdp (n m k:Nat):(n:Int).fdiv ((m:Int) ^ k)=((n / m ^ k:Nat):Int):=by rw [←Int.natCast_pow];exact fdv n (m ^ k)
theorem p16:∀k≤7,(16:Int) ^ k≠0∧((16:Int) ^ k).natAbs<1073741824:=by decide +kernel
theorem p2:∀k≤3,(2:Int) ^ k≠0∧((2:Int) ^ k).natAbs<1073741824:=by decide +kernel
theorem ZcU {x:Int}(hm:0<m):∃j:Nat,j<m∧x.fmod (m:Nat)=(j:Int):=by
 obtain ⟨j,e⟩:=Int.eq_ofNat_of_zero_le (Int.fmod_nonneg_of_pos x (b:=(m:Int)) (Int.natCast_pos.mpr hm));exact ⟨j,Int.ofNat_lt.mp (e▸Int.fmod_lt_of_pos x (b:=(m:Int)) (Int.natCast_pos.mpr hm)),e⟩
theorem nib (y:Nat):∀e≤3,(y % 16) / 2 ^ e % 2=y / 2 ^ e % 2
 | 0,_=>by rw [Nat.pow_zero,Nat.div_one,Nat.div_one];exact Nat.mod_mod_of_dvd _ ⟨8,rfl⟩
 | 1,_=>(congrArg (· % 2) (Nat.mod_mul_right_div_self y 2 8)).trans (Nat.mod_mod_of_dvd _ ⟨4,rfl⟩)
 | 2,_=>(congrArg (· % 2) (Nat.mod_mul_right_div_self y 4 4)).trans (Nat.mod_mod_of_dvd _ ⟨2,rfl⟩)
 | 3,_=>(congrArg (· % 2) (Nat.mod_mul_right_div_self y 8 2)).trans (Nat.mod_mod_of_dvd _ ⟨1,rfl⟩)
 | n+4,h=>absurd h (Nat.not_le.mpr (Nat.lt_add_left n (by decide)))
theorem d16 (v m:Nat):v / (m*16)*16+v / m % 16=v / m:=by rw [←Nat.div_div_eq_div_mul];exact Nat.div_add_mod' _ _
theorem Zsz {v:Nat}(hv:v<2 ^ 32):(((((((0*16+v / 268435456 % 16)*16+v / 16777216 % 16)*16+v / 1048576 % 16)*16+v / 65536 % 16)*16+v / 4096 % 16)*16+v / 256 % 16)*16+v / 16 % 16)*16+v / 1 % 16=v:=by
 have s:∀{a:Nat} (m:Nat),a=v / (m*16)→a*16+v / m % 16=v / m:=fun m h=>h▸d16 v m;exact (s 1 (s 16 (s 256 (s 4096 (s 65536 (s 1048576 (s 16777216 (s 268435456 (Nat.div_eq_of_lt hv).symm)))))))).trans (Nat.div_one v)
end
section
noncomputable def lc335:C:=.o (.lit (.str "bin")) <| .o (.lit (.str "b")) <| .o (.lit (.str "")) <| .o (.lit (.str "a-b")) <| .o (.lit (.str "role/0")) <| .o (.list 5) .ret
theorem ZrM (w:World):Yc (kk1 w.params) 335 0 {}=lc335:=by kd_p
theorem Zrm {w:World}(I:IsK kk1 G w){R:D→Prop}(h:∀c:Cx,c.G=G→c.fuel=need→wp c lc335 ⟨[],[],[]⟩ (WO R)):Zw G (.ref 335) (need+1) [] R :=
 fsW I (own':=[]) (Z2 (n:=0) (names:=[]) I (by kd_p) (ln0 fun S=>by kd_p)) (ZrM w) Zdw (by kd_p) h
noncomputable def lc354:C:=.o (.loc 0) <| .o (.lit (.int 3)) <| .o (.bin .Add) <| .o (.lit (.int 4)) <| .o (.bin .FloorDiv) .ret
theorem ZqM (w:World):Yc (kk1 w.params) 354 0 {}=lc354:=by kd_p
theorem ZrI {w:World}(I:IsK kk1 G w){R:D→Prop}(h:∀c:Cx,c.G=G→c.fuel=need→wp c lc354 ⟨[(0,.d d0)],[],[]⟩ (WO R)):Zw G (.ref 354) (need+1) [d0] R :=
 fsW I (own':=[]) (Z2 (n:=1) (names:=["bits"]) I (by kd_p) (ln1 fun b0 S=>by kd_p)) (ZqM w) (Zr [0] (by kd_p)) (by kd_p) h
noncomputable def lc340:C:=.o (.lit (.str "")) <| .mth .join (.comp .val 0 0 (.bi .range1 (.o (.cell 1) .nil) .nil) (.one (.l 1)) (.o (.lit (.str "0123456789abcdef")) <| .o (.cell 0) <| .o (.lit (.int 16)) <| .o (.cell 1) <| .o (.lit (.int 1)) <| .o (.bin .Sub) <| .o (.loc 1) <| .o (.bin .Sub) <| .o (.bin .Pow) <| .o (.bin .FloorDiv) <| .o (.lit (.int 16)) <| .o (.bin .Mod) <| .o .sub .nil) .nil) .ret
theorem Zrr (w:World):Yc (kk1 w.params) 340 0 {}=lc340:=by kd_p
theorem Zq7 {w:World}(I:IsK kk1 G w){R:D→Prop}(h:∀c:Cx,c.G=G→c.fuel=need→wp c lc340 ⟨[],[.cell (some (.d d0)),.cell (some (.d d1))],[]⟩ (WO R)):Zw G (.ref 340) (need+1) [d0,d1] R :=
 fsW I (own':=[.cell (some (.d d0)),.cell (some (.d d1))]) (Z2 (n:=2) (names:=["number","count"]) I (by kd_p) (ln2 fun b0 b1 S=>by kd_p)) (Zrr w) Zdw (by kd_p) h
noncomputable def lc359:C:=.o (.lit (.int 2)) <| .o (.lit (.int 4)) <| .o (.lit (.val (.ref 354))) <| .o (.cell 1) <| .call 1 <| .o (.bin .Mult) <| .o (.cell 1) <| .o (.bin .Sub) <| .o (.bin .Pow) <| .o (.st (.c 2)) <| .comp .val 0 0 (.bi .range1 (.o (.cell 2) .nil) .nil) (.one (.l 1)) (.o (.lit (.val (.ref 340))) <| .o (.cell 0) <| .o (.cell 2) <| .o (.bin .Mult) <| .o (.loc 1) <| .o (.bin .Add) <| .o (.lit (.val (.ref 354))) <| .o (.cell 1) <| .call 1 <| .call 2 .nil) .ret
theorem ZqZ (w:World):Yc (kk1 w.params) 359 0 {}=lc359:=by kd_p
theorem Zp6 {w:World}(I:IsK kk1 G w){R:D→Prop}(h:∀c:Cx,c.G=G→c.fuel=need→wp c lc359 ⟨[],[.cell (some (.d d0)),.cell (some (.d d1)),.cell none],[]⟩ (WO R)):Zw G (.ref 359) (need+1) [d0,d1] R :=
 fsW I (own':=[.cell (some (.d d0)),.cell (some (.d d1)),.cell none]) (Z2 (n:=2) (names:=["number","bits"]) I (by kd_p) (ln2 fun b0 b1 S=>by kd_p)) (ZqZ w) Zdw (by kd_p) h
noncomputable def ZmC:C:=.bi .range1 (.o (.loc 1) .nil) <| .for_ false .val (.one (.l 3)) (.o (.loc 2) <| .o (.lit (.int 2)) <| .o (.bin .Mult) <| .o (.lit (.str "0123456789abcdef")) <| .meth "index" 1 (.o (.loc 0) <| .o (.loc 3) <| .o (.lit (.int 4)) <| .o (.bin .FloorDiv) <| .o .sub .nil) <| .o (.lit (.int 2)) <| .o (.lit (.int 3)) <| .o (.loc 3) <| .o (.lit (.int 4)) <| .o (.bin .Mod) <| .o (.bin .Sub) <| .o (.bin .Pow) <| .o (.bin .FloorDiv) <| .o (.lit (.int 2)) <| .o (.bin .Mod) <| .o (.bin .Add) <| .o (.st (.l 2)) .nil) <| .o (.loc 2) .ret
noncomputable def lc347:C:=.o (.lit (.int 0)) <| .o (.st (.l 2)) <| .mark [2,1,0] ZmC
theorem ZrU (w:World):Yc (kk1 w.params) 347 0 {mks:=[(331,[2,1,0])]}=lc347:=by kd_p
theorem Zrk {w:World}(I:IsK kk1 G w){R:D→Prop}(h:∀c:Cx,c.G=G→c.fuel=need→wp c lc347 ⟨[(0,.d d0),(1,.d d1)],[],[]⟩ (WO R)):Zw G (.ref 347) (need+1) [d0,d1] R :=
 fsW I (own':=[]) (Z2 (n:=2) (names:=["signs","bits"]) I (by kd_p) (ln2 fun b0 b1 S=>by kd_p)) (ZrU w) (Zr [0,1] (by kd_p)) (by kd_p) h
noncomputable def lc210:C:=.o (.lit (.str "")) <| .o (.st (.l 2)) <| .wh 0 (.orT (.o (.loc 0) <| .o (.lit (.int 0)) <| .o (.cmp .Gt) .tru) (.bi .len (.o (.loc 2) .nil) <| .o (.loc 1) <| .o (.cmp .Lt) .tru)) (.o (.lit (.str "0123456789abcdef")) <| .o (.loc 0) <| .o (.lit (.int 16)) <| .o (.bin .Mod) <| .o .sub <| .o (.loc 2) <| .o (.bin .Add) <| .o (.st (.l 2)) <| .o (.loc 0) <| .o (.lit (.int 16)) <| .o (.bin .FloorDiv) <| .o (.st (.l 0)) .nil) <| .o (.loc 2) .ret
theorem ZrW (w:World):Yc (kk1 w.params) 210 0 {}=lc210:=by kd_p
theorem Zqj {w:World}(I:IsK kk1 G w){R:D→Prop}(h:∀c:Cx,c.G=G→c.fuel=need→wp c lc210 ⟨[(0,.d d0),(1,.d d1)],[],[]⟩ (WO R)):Zw G (.ref 210) (need+1) [d0,d1] R :=
 fsW I (own':=[]) (Z2 (n:=2) (names:=["number","length"]) I (by kd_p) (ln2 fun b0 b1 S=>by kd_p)) (ZrW w) (Zr [0,1] (by kd_p)) (by kd_p) h
end
section
variable {w:World}
theorem Zfs (I:IsK kk1 G w):Zw G (.ref 335) 4 [] (fun d=>d = .list ((["bin","b","","a-b","role/0"]:Qq).map .str)):=Zrm I fun c j j=>ZpD (by kd_p)
noncomputable def Zll (b:Int):Int:=(b+3).fdiv 4
theorem Zl3 (I:IsK kk1 G w) (b:Int):Zw G (.ref 354) 4 [.int b] (fun d=>d = .int (Zll b)):=ZrI I fun c j j=>by
 exact rfl
noncomputable def Ze2 (n:Int) (c:Nat):Qq:=(List.range c).map fun k=>Xy ((n.fdiv (16 ^ (c - 1 - k))).fmod 16)
noncomputable def ZC (n:Int) (c:Nat):Str:=Txt.join "" (Ze2 n c)
theorem ZbZ {i:Int}(h0:0≤i) (h1:i<16):ZcV o (.d (.int i)) (.d (.str UO))=some (.d (.str (Xy i))):=Znw h0 h1
theorem Zi0 (n:Int) (c:Nat):((Ze2 n c).map (·.length)).sum=c:=by
 unfold Ze2;rw [Q0];have:∀l:List Nat,((l.map ((·.length)∘fun k=>Xy ((n.fdiv (16 ^ (c - 1 - k))).fmod 16))).sum)=l.length:=fun l=>by
  induction l with
  | nil=>rfl
  | cons a r ih=>rw [Rh,List.sum_cons,ih,Rc,Nat.add_comm];rfl
 rw [this,Rk]
theorem ZdT (I:IsK kk1 G w) (n:Int) (c:Nat) (hc:c≤8):Zw G (.ref 340) 6 [.int n,.int c] (fun d=>d = .str (ZC n c)):=Zq7 I (need:=5) fun cx hG hF=>by
 refine Zf (ZgA (Kr hc (by decide))) ?_;refine Zgo (List.range c) (fun i=>.d (.int (0+i))) (fun k=>some (.str (Xy ((n.fdiv (16 ^ (c - 1 - k))).fmod 16)))) rfl Q0 (l1r hc (by decide)) (fun c' hG' hF' k hk l ys cl hcl=>?_) ?_
 ·have hk:=ZfC hk;have e:(c:Int) - 1 - (0+(k:Int))=((c - 1 - k:Nat):Int):=by rw [Int.zero_add,Int.ofNat_sub (Nat.le_sub_one_of_lt hk),Int.ofNat_sub (Nat.succ_le_of_lt (Ku (Q4 _) hk))];rfl
  have h7:c - 1 - k≤7:=Kr (Nat.sub_le _ _) (Nat.sub_le_of_le_add hc);refine Zf (Zu ⟨.inr rfl,e▸Rb _,e▸Int.ofNat_le.mpr (Kr h7 (by decide))⟩) ?_;refine e▸(Zf (Zu (p16 _ h7)) ?_);refine Zf (Zbz (ZbZ (Int.fmod_nonneg_of_pos _ (by decide)) (Int.fmod_lt_of_pos _ (by decide)))) ?_;exact ⟨_,cl,rfl,rfl,rfl,hcl⟩
 ·have ef:(List.range c).filterMap (fun k=>some (D.str (Xy ((n.fdiv (16 ^ (c - 1 - k))).fmod 16))))=(Ze2 n c).map .str:=by
   rw [List.filterMap_eq_map'];unfold Ze2;rw [Q0];rfl
  refine ef▸(Zf (Zpd (by decide) (by rw [Zi0];unfold Ze2;rw [Qw,Rk];exact ad2 hc hc (by decide))) ?_);exact rfl
end
section
variable {w:World}
noncomputable def wd (b:Nat):Nat:=(b+3) / 4
theorem ZfF (b:Nat):Zll b=(wd b:Nat):=by
 exact fdv (b+3) 4
theorem U4 (I:IsK kk1 G w) (b:Nat):Zw G (.ref 354) 4 [.int b] (fun d=>d = .int (wd b:Nat)):=ZfF b▸Zl3 I b
theorem Wb (h:b≤32):wd b≤8∧b≤4*wd b∧4*wd b≤b+3:=(by decide +kernel:∀b≤32,wd b≤8∧b≤4*wd b∧4*wd b≤b+3) b h
noncomputable def YI (b:Nat):Nat:=2 ^ (4*wd b - b)
theorem U0 (h:b≤32):1≤YI b∧YI b≤8:=(by decide +kernel:∀b≤32,1≤YI b∧YI b≤8) b h
noncomputable def Zdg (n:Int) (b:Nat):Qq:=(List.range (YI b)).map fun (k:Nat)=>ZC (n*(YI b:Nat)+k) (wd b)
theorem Zq3 (I:IsK kk1 G w) (n:Int) (b:Nat) (hb:b≤32):Zw G (.ref 359) 10 [.int n,.int b] (fun d=>d = .list ((Zdg n b).map .str)):=Zp6 I (need:=9) fun cx hG hF=>by
 refine Yz (Wb hb) fun h1 h2 h3=>?_;refine oza (U0 hb) fun s1 s2=>?_;refine Zc0 I hG hF (U4 I b) (by kd_p) (by decide) ?_;have q:=(by decide +kernel:∀b≤32,(wd b:Int).natAbs<18446744073709551616∧0≤(4:Int)*(wd b:Nat) - (b:Nat)∧(4:Int)*(wd b:Nat) - (b:Nat)≤64∧(2:Int) ^ ((4:Int)*(wd b:Nat) - (b:Nat)).toNat=(YI b:Nat)) b hb;refine Zf (Zu q.1) ?_;refine Zf (Zu ⟨.inl rfl,q.2.1,q.2.2.1⟩) ?_;refine q.2.2.2▸(Zf (ZgA (Kr s2 (by decide))) ?_);refine Zgo (List.range (YI b)) (fun i=>.d (.int (0+i))) (fun (k:Nat)=>some (.str (ZC (n*(YI b:Nat)+k) (wd b)))) rfl Q0 (l1r s2 (by decide)) (fun c' hG' hF' k hk l ys cl hcl=>?_) ?_
 ·rw [show ((0:Int)+(k:Int))=(k:Int) from Int.zero_add _];refine Zf (Zu (Ku s2 (by decide))) ?_;refine Zc0 I (hG'.trans hG) (hF'.trans hF) (U4 I b) (by kd_p) (by decide) ?_;refine WQ I (hG'.trans hG) (hF'.trans hF) (ZdT I _ _ h1) (by kd_p) (by decide) ?_;exact ⟨_,cl,rfl,rfl,rfl,hcl⟩
 ·rw [List.filterMap_eq_map'];exact Q0▸rfl
end
section
variable {w:World}
theorem Ur {a b:Str}(h:cp a=cp b):a=b:=by
 cases a;cases b;exact congrArg Str.mk (Array.toList_inj.mp h)
theorem Zgr (x:Str) (xs:Qq):Txt.join "" (x::xs)=x++Txt.join "" xs:=by
 apply Ur;rw [YL,Zda,Zda,show cp ""=[] by kd_p,ZdX,ZdX,Rh,List.flatten_cons]
theorem fdN (n k:Nat):(n:Int).fdiv (16 ^ k)=((n / 16 ^ k:Nat):Int):=fdp n 16 k
theorem Ul (n i:Nat):ZC n (i+1)=Xy (((n / 16 ^ i:Nat):Int).fmod 16)++ZC n i:=by
 unfold ZC;rw [←Zgr];congr 1;unfold Ze2;rw [List.range_succ_eq_map,Rh,Q0,←fdN];congr 1;refine List.map_congr_left fun k hk=>?_;have e:i+1 - 1 - (k+1)=i - 1 - k:=by rw [Nat.add_sub_cancel,Nat.sub_sub,Nat.add_comm]
 exact e▸rfl
theorem Z4 (n i:Nat):(ZC n i).length=i:=by
 induction i with
 | zero=>rfl
 | succ i ih =>
  rw [Ul];show (_++_:Array Nat).size=_;rw [Array.size_append];show 1+(ZC n i).length=_;rw [ih,Nat.add_comm]
theorem ZnV (I:IsK kk1 G w){n len c:Nat}(h1:len≤c) (h2:c≤8) (h3:n<16 ^ c) (h4:c=len∨16 ^ (c - 1)≤n):Zw G (.ref 210) 4 [.int n,.int len] (fun d=>d = .str (ZC n c)):=Zqj I (need:=3) fun cx hG hF=>by
 conv=>whnf
 refine .mk (β:=Int×Str×Nat) (fun b=>[(2,.d (.str b.2.1)),(0,.d (.int b.1)),(1,.d (.int len))]) (fun j=>[]) [] (fun b=>b.2.2≤c∧b.1=((n / 16 ^ b.2.2:Nat):Int)∧b.2.1=ZC n b.2.2) (fun b=>c - b.2.2) ((n:Int),"",0) (UF (Yj rfl) rfl rfl) ⟨Q4 _,by simp,rfl⟩ ?_;rintro ⟨m,s,i⟩ ⟨i1,i2,i3⟩;dsimp only at i1 i2 i3;have hl:s.length=i:=i3▸Z4 _ _
 have turn:i<c→∀Q:Qa,wp cx (.o (.lit (.str "0123456789abcdef")) <| .o (.loc 0) <| .o (.lit (.int 16)) <| .o (.bin .Mod) <| .o .sub <| .o (.loc 2) <| .o (.bin .Add) <| .o (.st (.l 2)) <| .o (.loc 0) <| .o (.lit (.int 16)) <| .o (.bin .FloorDiv) <| .o (.st (.l 0)) .nil) ⟨[(2,.d (.str s)),(0,.d (.int m)),(1,.d (.int len))],[],[]⟩
  (lpW (fun st2=>∃b':Int×Str×Nat,(b'.2.2≤c∧b'.1=((n / 16 ^ b'.2.2:Nat):Int)∧b'.2.1=ZC n b'.2.2)∧c - b'.2.2<c - i∧At [(2,.d (.str b'.2.1)),(0,.d (.int b'.1)),(1,.d (.int len))] [] [] st2) Q):=fun hi Q=>by
  refine Zf (Zbz (ZbZ (Int.fmod_nonneg_of_pos _ (by decide)) (Int.fmod_lt_of_pos _ (by decide)))) ?_;refine Zf (Zu (by rw [hl,sizeLine_eq];show 1+i≤_;exact Ux (Kr (Nat.le_of_lt hi) h2) (by decide))) ?_;refine ⟨(m.fdiv 16,Xy (m.fmod 16)++s,i+1),⟨hi,?_,?_⟩,Nat.sub_lt_sub_left hi (Nat.lt_succ_self i),UF (Yj rfl) rfl rfl⟩
  ·show m.fdiv 16=_;rw [i2,Nat.pow_succ,←Nat.div_div_eq_div_mul];exact fdv _ 16
  ·show Xy (m.fmod 16)++s=ZC n (i+1);rw [Ul,i2,i3]
 conv=>whnf
 refine Yr (fun hz=>?_) (fun hz=>?_)
 ·have hz:0<m:=Kw hz;refine turn ?_ _;refine Nat.lt_of_le_of_ne i1 fun e=>?_;rw [i2,e,Nat.div_eq_of_lt h3] at hz;exact absurd hz (by decide)
 ·have hz:¬0<m:=of_decide_eq_false hz;have hz:n / 16 ^ i=0:=Nat.eq_zero_of_not_pos fun h=>hz (i2▸Int.natCast_pos.mpr h);refine Zf (Zkt (Ku (hl▸i1) (Ku h2 (by decide)))) ?_
  conv=>whnf
  refine Yr (fun hy=>?_) (fun hy=>?_)
  ·have hy:(s.length:Int)<len:=Kw hy;exact turn (Kt (hl▸Int.ofNat_lt.mp hy) h1) _
  ·have hy:¬(s.length:Int)<len:=of_decide_eq_false hy;have e:i=c:=by
    refine Nat.le_antisymm i1 (Nat.not_lt.mp fun hi=>?_);rcases h4 with h4 | h4
    ·exact hy (Int.ofNat_lt.mpr (hl▸h4▸hi))
    ·have h5:n<16 ^ i:=(Nat.div_eq_zero_iff_lt (Nat.pow_pos (by decide))).mp hz;exact absurd (Kt h5 (Nat.pow_le_pow_right (by decide) (Nat.le_sub_one_of_lt hi))) (Za7 h4)
   show D.str s=_;rw [i3,e]
theorem Zgn (h:b≤32):2 ^ b≤16 ^ wd b:=by
 rw [show (16:Nat)=2 ^ 4 from rfl,←Nat.pow_mul];exact Nat.pow_le_pow_right (by decide) (Wb h).2.1
theorem ZkJ (I:IsK kk1 G w){n:Nat}(hb:b≤32) (h:n<2 ^ b):Zw G (.ref 210) 4 [.int n,.int (wd b:Nat)] (fun d=>d = .str (ZC n (wd b))) :=
 ZnV I (Kq _) (Wb hb).1 (Kt h (Zgn hb)) (.inl rfl)
theorem Zpt (I:IsK kk1 G w) (h1:1≤b) (hb:b≤32):Zw G (.ref 210) 4 [.int ((2 ^ b - 1:Nat):Int),.int 1] (fun d=>d = .str (ZC (2 ^ b - 1:Nat) (wd b))):=by
 have q:=(by decide +kernel:∀b≤32,1≤b→1≤wd b∧wd b≤8∧2 ^ b - 1<16 ^ wd b∧16 ^ (wd b - 1)≤2 ^ b - 1) b hb h1;exact ZnV (len:=1) I q.1 q.2.1 q.2.2.1 (.inr q.2.2.2)
end
section
section
variable {w:World}{l:Qc}{Q:Fl→St→Prop}
theorem ZeS (X:EnvOk c (EK (kk1 w.params) 109 m H)) (hn:ids.Nodup) (hl:ids.length≤100) (h1:Zs 1 l=some (.d (Zv ids))) (q:Q .next ⟨l,o,[]⟩):XJ c [ZZ (mAt pw1 7 0) [0]] ⟨l,o,[]⟩ Q:=by
 have L1:=X.l "keyids" 1 (by kd_p);have G0:=X.g "len" (.builtin "len") (by kd_p) (X.gl _ _ (by kd_p));refine ZO (Zcy (XO (Zki rfl G0 (X.g "set" (.type "set") (by kd_p) (X.gl _ _ (by kd_p))) (Ze L1 h1 ⟨_,_,ids,rfl,hn,by lia,?_⟩)) rfl));refine UM (ZQ G0 (Zq (Ze L1 h1 (Ym (Zf3 (by rw [Qw];lia) (Zmy (Yg ⟨fun h=>?_,fun j=>ZR ?_⟩)))))))
 ·rw [Qw] at h;simp at h
 ·exact ZR q
end
variable {w:World}
noncomputable def Zi5 (ids:Qq) (t:Int) (u:A):Qe:=[("keyids",.d (Zv ids)),("threshold",.d (.int t)),("unrecognized_fields",u)]
theorem Zkj {t:Int}(ht:1≤t) (h:decide (t<1)=true):P:=absurd (Kw h) (Int.not_lt.mpr ht)
theorem ZaV (I:IsK kk1 G w){C:Addr}(hC:C=201∨C=275){t:Int}(hn:ids.Nodup) (hl:ids.length≤100) (ht:1≤t):OSpecC G (.ref 109) 2 [.inst C 1,.dict [] 0] [.own 0,.d (Zv ids),.d (.int t),.d .none] fun r os'=>r = .d .none∧∃ep,os'=[.inst C 1,.dict (Zi5 ids t (.own 2)) ep,.dict [] 0] :=
 ZhA I (need:=1) fun cx hG hF E=>Stop.mk (ZeS (E.ok I {} hG) hn hl rfl (Yr (Zkj ht) fun j=>hC.elim (fun e=>by subst e;exact fun j j e=>⟨rfl,e,by kd_p⟩) fun e=>by subst e;exact fun j j e=>⟨rfl,e,by kd_p⟩))
theorem U2 (I:IsK kk1 G w){C:Addr}(hC:C=201∨C=275){t:Int}(hn:ids.Nodup) (hl:ids.length≤100) (ht:1≤t):OSpecC G (.ref 109) 2 [.dict [] e0,.inst C 2,.dict [] 0] [.own 1,.d (Zv ids),.d (.int t),.own 0] fun r os'=>r = .d .none∧∃ep,os'=[.dict [] e0,.inst C 2,.dict (Zi5 ids t (.own 0)) ep] :=
 ZhA I (need:=1) fun cx hG hF E=>Stop.mk (ZeS (E.ok I {} hG) hn hl rfl (Yr (Zkj ht) fun j=>hC.elim (fun e=>by subst e;exact fun j j e=>⟨rfl,e,by kd_p⟩) fun e=>by subst e;exact fun j j e=>⟨rfl,e,by kd_p⟩))
end
section
theorem Zom (w:World):∃ar vs file tf cls ccl cel cdd ced ccs ces cd,SupFacts (kk1 w.params) pw1.main 157 109 201 144 156 ["self","name","keyids","threshold","terminating","paths","path_hash_prefixes","unrecognized_fields"] ar vs file tf cls ccl cel cdd ced ccs ces cd :=
 ⟨_,_,_,_,.none,_,_,_,_,_,_,_,{
  fn:=by kd_p,codeIn:=by kd_p,code:=by kd_p,kind:=by kd_p,co:=by kd_p,gen:=by kd_p,tnd:=Kw (by kd_p),ndn:=Kw (by kd_p),par:=by kd_p,ncell:=by kd_p
  gl:=by kd_p,bu:=by kd_p,clo:=by kd_p,head:=by kd_p1,arg:=by kd_p,arg0:=by kd_p,codeAt:=by kd_p1,vs2:=by kd_p1,file:=by kd_p,top:=by kd_p
  cell:=by kd_p1,clsC:=by kd_p1,mro:=by kd_p,sup:=by kd_p,meth:=by kd_p,methT:=by kd_p,methF:=by kd_p,stat:=by kd_p,kS:=by kd_p,kC:=by kd_p}⟩
theorem Zhj (w:World):UL (kk1 w.params) 201 157=true:=by kd_p
theorem Zgy (w:World):UL (kk1 w.params) 275 227=true:=by kd_p
theorem ZkV (w:World):UL (kk1 w.params) 70 36=true:=by kd_p
theorem Zbs (w:World):UL (kk1 w.params) 324 292=true:=by kd_p
section
variable {l:Qc}{Q:Fl→St→Prop}
structure DelF (w:World) (c:Cx):Prop where
 X:EnvOk c (EK (kk1 w.params) 157 0 {rw:=[153,155,157],cls:=[201]})
 gen:GenOk c.G (kk1 w.params)
 r1:Yd 152∈c.G.reg
 code:c.env.code = .ref 156
 fuel:3≤c.fuel
theorem ZnT (D:DelF w c){p h:Option (Qq)}(hp:((p.isSome&&h.isNone)||(p.isNone&&h.isSome))=true) (h8:Zs 8 l=some (.d (.list [Zk8 p,Zk8 h]))) (q:Q .next ⟨l,o,[]⟩):XJ c [ZZ (mAt pw1 8 0) [4]] ⟨l,o,[]⟩ Q:=by
 refine ZO (Zcy (XO (ZcZ (tz:=fun d=>!YG d) D.gen D.r1 D.code (by kd_p) (by decide) (by kd_p) (.inl fun j=>rfl) (D.X.g "sum" (.builtin "sum") (by kd_p) (D.X.gl _ _ (by kd_p))) D.fuel (Ze (D.X.l "exclusive_vars" 8 (by kd_p)) h8 ⟨_,rfl,Rd rfl,fun d hd=>UB (by kd_p) rfl ?_ (by kd_p),ZaZ (Zmy (Yg ⟨fun z=>?_,fun j=>ZR (ZR q)⟩))⟩))))
 ·rcases ZH hd with rfl | hd
  ·induction p using Option.casesOn <;> trivial
  ·rw [Q3] at hd;subst hd;induction h using Option.casesOn <;> trivial
 ·induction p using Option.casesOn <;> induction h using Option.casesOn <;> first | exact Xi hp;done | exact Xi z
noncomputable def Zfl (sc:Scope):Bool:=XN sc "p"&&(sc.names.lookup ("p":Str)==some .local&&sc.names.lookup ("isinstance":Str)==some .globalImplicit&&sc.names.lookup ("str":Str)==some .globalImplicit&&sc.kind == .function)
theorem ZgE (D:DelF w c){p:Option (Qq)}(hpl:∀xs,p=some xs→xs.length≤1000) (L:IsL c x i) (hx:Zs i l=some (.d (Zk8 p))){p2 p5 p6 q1 q2 q3 q4 q5 q6 b1 b2:Pos}{ts:Qr}
 (hs:Zfl sc=true) (q:Q .next ⟨l,o,[]⟩) :
 SJ c (.If (.BoolOp .And [.Compare (.Name x p1) [.IsNot] [.Constant .none m p2] p3,.Call (.Name "any" p4) [.GeneratorExp (.UnaryOp .Not (.Call (.Name "isinstance" q1) [.Name "p" q2,.Name "str" q3] [] q4) q5) [⟨.Name "p" px,.Name x p5,[],0⟩] sc q6] [] p6] b1) ts [] b2) ⟨l,o,[]⟩ Q:=by
 unfold Zfl at hs;simp only [Qz,Q7] at hs;refine Zcy (ZfA (ZhC (XO (Ze L hx (Zaj ?_)) rfl)))
 match p,hpl with
 | none,_=>exact Yw trivial (Yg ⟨fun z=>(nomatch z),fun j=>⟨fun z=>(nomatch z),fun j=>ZR q⟩⟩)
 | some xs,hpl =>
  refine Yw trivial (Yg ⟨fun j=>ZhC (ZeB ?_),fun z=>(nomatch z)⟩);refine ZhU (tz:=fun j=>true) D.gen D.r1 D.code (by kd_p) (by decide) hs.1 (.inl fun j=>rfl) (D.X.g "any" (.builtin "any") (by kd_p) (D.X.gl _ _ (by kd_p))) D.fuel (Ze L hx ⟨_,rfl,by rw [Qw];exact hpl xs rfl,fun d hd=>?_,Yg ⟨fun z=>(nomatch z),fun j=>⟨fun z=>(nomatch z),fun j=>ZR q⟩⟩⟩);refine Za (Yh hd) fun t j zo1=>?_;subst zo1;exact Zdv (D.X.gl "isinstance" _ (by kd_p)) (D.X.gl "str" _ (by kd_p)) hs.2.1.1.1 hs.2.1.1.2 hs.2.1.2 hs.2.2 ⟨t,rfl⟩ (by decide)
theorem Zjk (D:DelF w c){p:Option (Qq)}(hpl:∀xs,p=some xs→xs.length≤1000) (hx:Zs 5 l=some (.d (Zk8 p))) (q:Q .next ⟨l,o,[]⟩):XJ c [ZZ (mAt pw1 8 0) [5]] ⟨l,o,[]⟩ Q :=
 ZO (ZgE D hpl (D.X.l "paths" 5 (by kd_p)) hx (by kd_p) (ZR q))
theorem Zli (D:DelF w c){p:Option (Qq)}(hpl:∀xs,p=some xs→xs.length≤1000) (hx:Zs 6 l=some (.d (Zk8 p))) (q:Q .next ⟨l,o,[]⟩):XJ c [ZZ (mAt pw1 8 0) [6]] ⟨l,o,[]⟩ Q :=
 ZO (ZgE D hpl (D.X.l "path_hash_prefixes" 6 (by kd_p)) hx (by kd_p) (ZR q))
end
variable {w:World}
theorem ZnH (I:IsX1 G w) (hG:c.G=G) (cE:c.env=callEnv (Zm (kk1 w.params) 157) c.env.locals 157) (cT:c.tab=Zg (Zm (kk1 w.params) 157).scope) (cC:c.cel=[]) (cF:c.fuel=4):DelF w c where
 X:=Zh2 I.k hG (by rw [cE];rfl) cT cC
 gen:=hG▸I.gen
 r1:=hG▸I.r1
 code:=by rw [cE];exact (by kd_p:(Zm (kk1 w.params) 157).code = .ref 156)
 fuel:=by rw [cF];decide
theorem Zd3 (I:IsX1 G w){nm:Str}{t:Int}{h:Qq}(hn:ids.Nodup) (hl:ids.length≤100) (ht:1≤t) (hhl:h.length≤1000):
 OSpecC G (.ref 157) 5 [.inst 201 1,.dict [] 0] [.own 0,.d (.str nm),.d (Zv ids),.d (.int t),.d (.bool true),.d .none,.d (Zv h)] fun r os'=>r = .d .none∧Frz os' 0 (.own 0) (Y1 nm ids t h):=by
 refine Ka fun zn1=>?_;obtain ⟨ar,vs,file,tf,cls,ccl,cel,cdd,ced,ccs,ces,cd,S⟩:=Zom w;refine zn1 ?_;replace S:=I.p▸S;refine ZdU (n:=7) (targs:=[.d (Zv ids),.d (.int t),.d .none]) (loc':=[(0,.own 0),(1,.d (.str nm)),(2,.d (Zv ids)),(3,.d (.int t)),(4,.d (.bool true)),(5,.d .none),(6,.d (Zv h)),(7,.d .none)]) (rest:=(XU (kk1 w.params) 157).tail) I.k S (by kd_p1) (fun j=>_) (fun j=>rfl) (fun j=>rfl) (by kd_p1) rfl (by decide) (ln7 fun b0 b1 b2 b3 b4 b5 b6 S=>by kd_p) (Uo [0,1,2,3,4,5,6,7] (by kd_p)) rfl rfl (ZgR (ZaV I.k (.inl rfl) hn hl ht)) ?_ ?_
 ·intro c hG cE cT cC cF;have D:=ZnH I hG cE cT cC cF;exact Zq (Ze (D.X.l "keyids" 2 (by kd_p)) rfl (Zq (Ze (D.X.l "threshold" 3 (by kd_p)) rfl (Zq (Ze (D.X.l "unrecognized_fields" 7 (by kd_p)) rfl (Ym rfl))))))
 ·rintro c hG cE cT cC cF os' ⟨ep,rfl⟩;have D:=ZnH I hG cE cT cC cF;refine (Xo D.X (Zok w) (Q:=YH _) ?_).mono fun j j q=>Uc q;intro j j;exact Stop.mk (ZnT D (p:=none) (h:=some h) rfl rfl (Stop.mk (Zjk D (p:=none) (fun j e=>nomatch e) rfl (Stop.mk (Zli D (p:=some h) (fun j e=>Kc e▸hhl) rfl fun j j=>⟨rfl,Wl (n:=9) (by kd_p)⟩)))))
theorem Zdl (I:IsX1 G w){nm:Str}{t:Int}{h:Qq}(hn:ids.Nodup) (hl:ids.length≤100) (ht:1≤t) (hhl:h.length≤1000):Zw G (.ref 201) 6 [.str nm,Zv ids,.int t,.bool true,.none,Zv h] fun d=>d=Y1 nm ids t h :=
 Zd8 I.k (Zhj w) (Zd3 I hn hl ht hhl)
theorem Zcl (I:IsX1 G w){nm:Str}{t:Int}{h:Qq}(hn:ids.Nodup) (hl:ids.length≤100) (ht:1≤t) (hhl:h.length≤1000):
 OSpecC G (.ref 157) 5 ([.dict [] e0]++[.inst 201 2,.dict [] 0]) [.own 1,.d (.str nm),.d (Zv ids),.d (.int t),.d (.bool true),.d .none,.d (Zv h),.own 0] fun r os'=>r = .d .none∧∃ep,os'=[.dict [] e0,.inst 201 2,.dict (XC nm ids t h (.own 0)) ep]:=by
 refine Ka fun zn3=>?_;obtain ⟨ar,vs,file,tf,cls,ccl,cel,cdd,ced,ccs,ces,cd,S⟩:=Zom w;refine zn3 ?_;replace S:=I.p▸S;refine ZdU (n:=8) (targs:=[.d (Zv ids),.d (.int t),.own 0]) (loc':=[(0,.own 1),(1,.d (.str nm)),(2,.d (Zv ids)),(3,.d (.int t)),(4,.d (.bool true)),(5,.d .none),(6,.d (Zv h)),(7,.own 0)]) (rest:=(XU (kk1 w.params) 157).tail) I.k S (by kd_p1) (fun j=>_) (fun j=>rfl) (fun j=>rfl) (by kd_p1) rfl (by decide) (ln8 fun b0 b1 b2 b3 b4 b5 b6 b7 S=>by kd_p) (Uo [0,1,2,3,4,5,6,7] (by kd_p)) rfl rfl (ZgR (U2 I.k (.inl rfl) hn hl ht)) ?_ ?_
 ·intro c hG cE cT cC cF;have D:=ZnH I hG cE cT cC cF;exact Zq (Ze (D.X.l "keyids" 2 (by kd_p)) rfl (Zq (Ze (D.X.l "threshold" 3 (by kd_p)) rfl (Zq (Ze (D.X.l "unrecognized_fields" 7 (by kd_p)) rfl (Ym rfl))))))
 ·rintro c hG cE cT cC cF os' ⟨ep,rfl⟩;have D:=ZnH I hG cE cT cC cF;refine (Xo D.X (Zok w) (Q:=YH _) ?_).mono fun j j q=>Uc q;intro j j;exact Stop.mk (ZnT D (p:=none) (h:=some h) rfl rfl (Stop.mk (Zjk D (p:=none) (fun j e=>nomatch e) rfl (Stop.mk (Zli D (p:=some h) (fun j e=>Kc e▸hhl) rfl fun j e=>⟨rfl,e,by kd_p⟩)))))
theorem UV (I:IsX1 G w){nm:Str}{t:Int}{h:Qq}(hn:ids.Nodup) (hl:ids.length≤100) (ht:1≤t) (hhl:h.length≤1000):
 OSpecC G (.ref 171) 8 [.dict (Xc nm ids t h) e0] [.d (.val (.ref 201)),.own 0] fun r os'=>r = .own 1∧∃e1 ep,os'=[.dict [] e1,.inst 201 2,.dict (XC nm ids t h (.own 0)) ep] :=
 ZmB I.k (need:=7) fun cx hG hF u=>by
  intro u u u u u e1;refine Stop.mk (XX [0] (os:=[.dict [] e1]) (args:=[.d (.str nm),.d (Zv ids),.d (.int t),.d (.bool true),.d .none,.d (Zv h),.own 0]) (OSpecC.toO (by rw [hG];exact Xn I.k (Zhj w) (Zcl I hn hl ht hhl))) (Ua I.k (by kd_p) hG) (by rw [hF];decide) rfl (by simp) rfl (fun j i h=>?_) ?_)
  ·induction j using Nat.casesOn with
   | zero=>obtain rfl:=Kc h;exact ⟨_,rfl,rfl⟩
   | succ j=>exact Zp h
  ·rintro u os' ⟨rfl,ep,rfl⟩;exact ⟨rfl,_,_,rfl⟩
end
section
theorem Zk5 (a:Value) (u:Tok):argsOk "bytes.decode" ⟨[a,.str "utf-8" u],[]⟩:=by
 unfold argsOk;rw [signature?_of (id:="bytes.decode") (n:=['e','d','o','c','e','d']) (o:=['s','e','t','y','b']) (by kd_p) W.FB.owner_bytes];kd_p
open Builtin in
theorem Ziy {c:UInt8}{cs:List UInt8}{t u:Tok}:«bytes.decode» ⟨[.bytes (c::cs).toArray t,.str "utf-8" u],[]⟩=(mkStr (PySem.Str.ofString "utf-8") >>= fun j=>mkStr (PySem.Str.ofString "utf-8") >>= fun e=>mkStr (PySem.Str.ofString "bytes.decode") >>= fun d =>
 call (.builtin "_codecs.decode.text") [.bytes (c::cs).toArray t,e,.none,d] >>= fun v=>ret v):=by kd_p
noncomputable def pathsAll:Qq:=["d/f0","d/f1","d/f2","d/f3","d/f4","f1","f3","f5","f"]
open Builtin in
inductive Dec (x:Str):Prop
 | mk (c:UInt8) (cs:List UInt8) (n:Nat) (e:WN x=(c::cs).toArray) (h:∀id,_codecs.runDecoder id _codecs.utf8Decoder none true (c::cs).toArray 0 []=pure (x.cps,n))
theorem Ub {P:Str→Prop}(h:P "d/f0"∧P "d/f1"∧P "d/f2"∧P "d/f3"∧P "d/f4"∧P "f1"∧P "f3"∧P "f5"∧P "f") (hx:x∈pathsAll):P x:=by
 unfold pathsAll at hx;simp only [List.mem_cons,List.not_mem_nil,or_false] at hx;obtain ⟨h1,h2,h3,h4,h5,h6,h7,h8,h9⟩:=h;rcases hx with rfl | rfl | rfl | rfl | rfl | rfl | rfl | rfl | rfl <;> assumption
theorem Znx (hx:x∈pathsAll):Dec x :=
 Ub ⟨⟨100,[47,102,48],4,by kd_p,fun j=>by kd_p⟩,⟨100,[47,102,49],4,by kd_p,fun j=>by kd_p⟩,⟨100,[47,102,50],4,by kd_p,fun j=>by kd_p⟩,⟨100,[47,102,51],4,by kd_p,fun j=>by kd_p⟩,⟨100,[47,102,52],4,by kd_p,fun j=>by kd_p⟩,
  ⟨102,[49],2,by kd_p,fun j=>by kd_p⟩,⟨102,[51],2,by kd_p,fun j=>by kd_p⟩,⟨102,[53],2,by kd_p,fun j=>by kd_p⟩,⟨102,[],1,by kd_p,fun j=>by kd_p⟩⟩ hx
theorem Ze4 {w:World}{A:Around}{s:Shared}{t u:Tok}{Q:Qj}(hx:Dec x) (hsz:x.length≤1000) (h:∀t' k,Q (.str x t') {s with toks:=k}):wpAny (model prog w) A (call (.builtin "bytes.decode") [.bytes (WN x) t,.str "utf-8" u]) Q E s:=by
 obtain ⟨c,cs,n,e,hd⟩:=hx;refine e▸(wpAny_call_entry W.FB.slot_bytes_decode (T:="bytes") (PySem.W.typeIs_bytes _ _ _) W.FB.entry_bytes_decode ?_ (Zk5 _ _));refine Ziy▸(Kd (wpAny_mkStr ?_ (by decide)));refine Kd (wpAny_mkStr ?_ (by decide));refine Kd (wpAny_mkStr ?_ (by decide));exact Kd (call_function_meets W.KBd.kind_text W.KBd.plain_text W.KBd.entry_text (W.KBd.args_text _ _ _ _) (W.KBd.meets_text hd) ⟨by rw [sizeLine_eq];lia,Ki ⟨_,rfl,h _ _⟩⟩)
structure FixC (c:Cx) (x:Str) (b:Addr) (v:Value):Prop where
 kind:c.env.kindOf x=some .cell∨c.env.kindOf x=some .free
 at_:c.env.cells.lookup x=some b
 n1:(x==("__debug__":Str))=false
 n2:(x==("__classdict__":Str))=false
 val:∀g,c.G.lib.B g→∃ob,g.get? b=some ob∧ob.data = .cell (some v)
section
variable {l:Qc}
theorem Zjh (hx:Dec x) (hsz:x.length≤1000) (q:Q ⟨l,o,.d (.str x)::k⟩):CJ c 2 ⟨l,o,.d (.str "utf-8")::.d (.bytes (WN x))::.d (.val (.builtin "bytes.decode"))::k⟩ Q :=
 WY (as:=[.d (.bytes (WN x)),.d (.str "utf-8")]) (r:=.d (.str x)) rfl (fun j=>Zl) (fun F st vs s g ρ m us W h2 Q' hq=>by
  refine Zc (YF h2) fun u v zo6 zo7 zo8=>?_;subst zo6;obtain ⟨t,rfl⟩:=zo7;obtain ⟨t',rfl⟩:=zo8;exact Ze4 hx hsz fun t k=>hq _ _ Xb) q
theorem ZjT {b:Array UInt8}(q:QM 1 ⟨l,o,.d (.bytes b)::.d (.val (.builtin "bytes.decode"))::k⟩):MJ c "decode" ⟨l,o,.d (.bytes b)::k⟩ QM :=
 Wu W.FB.plainAttrs_bytes W.FB.slot_bytes_decode W.FB.type_bytes_decode ZfU q
theorem ZeM {b:Addr}(X:FixC c x b v){s:Shared}{m:Qk}(W:RSW c F st vs s g ρ m) (hv:AR c.p c.w g ρ a v) (h:Q ⟨st.loc,st.own,a::st.stk⟩):
 wpAny (model c.p c.w) c.A (loadName c.env x) (EQ c F vs Q) NoE s:=by
 refine Za (X.val g W.base) fun ob e1 e2=>?_;refine X.kind.elim (fun hk=>?_) fun hk=>?_
 ·exact wpAny_loadName_cell c.hk hk X.at_ ⟨ob,W.keep _ _ e1,e2⟩ ⟨_,⟨g,ρ,m,W.push hv⟩,h⟩
 ·exact wpAny_loadName_free c.hk hk X.at_ ⟨ob,W.keep _ _ e1,e2⟩ ⟨_,⟨g,ρ,m,W.push hv⟩,h⟩ X.n2
theorem Zhn {b:Addr}{d:D}(X:FixC c x b v) (hv:∀g,c.G.lib.B g→VR c.p c.w g d v) (h:Q ⟨l,o,.d d::k⟩):EJ c (.Name x pos) ⟨l,o,k⟩ Q :=
 fun j j j R=>wpAny_Name (ozr R fun g ρ m W=>ZeM X W (a:=.d d) (hv g W.base) h) X.n1
theorem Zoa {b:Addr}{n:Nat}(X:FixC c x b (.ref a₀)) (ho:o[i]?=some (.ask a₀ n)) (h:Q ⟨l,o,.own i::k⟩):EJ c (.Name x pos) ⟨l,o,k⟩ Q :=
 fun j j j R=>wpAny_Name (ozr R fun g ρ m W=>by
  have hi:i<ρ.length:=by exact W.len▸((ZB ho).1)
  have e:=Ke hi;exact ZeM X W (a:=.own i) ⟨_,e,congrArg Value.ref (W.own i _ _ ho e).1.symm⟩ h) X.n1
theorem Zr0 {n:Nat}(ho:o[i]?=some (.ask a₀ n)) (q:QM 1 ⟨l,o,.own i::.d (.val (.builtin "list.append"))::k⟩):MJ c "append" ⟨l,o,.own i::k⟩ QM:=fun F ov vs s pl R=>ozr R fun g ρ m W=>by
 have h1:=Zd W.stk;have h0:∃a,ρ[i]?=some a∧ov = .ref a:=h1;refine Za h0 fun a ea e1=>?_;subst e1;refine oza (W.own i _ a ho ea) fun j z=>?_;refine Za z fun ws zo2 j=>?_;refine oze zo2 fun n hw=>?_;exact getMethod_builtin (T:="list") ⟨_,hw,rfl⟩ PySem.F.plainAttrs_list PySem.F.slot_list_append PySem.F.type_list_append (fun b e=>by injection e with zi;subst zi;exact ⟨_,hw,rfl⟩) ⟨_,⟨g,ρ,m,W.stack (Zh h1 (Zh XY (Zb W.stk)))⟩,q⟩
theorem Zq5 {n:Nat}(ho:o[i]?=some (.ask a₀ n)) (hn:n≤1000000) (q:Q ⟨l,o.set i (.ask a₀ (n+1)),.d .none::k⟩):CJ c 2 ⟨l,o,.d (.str "sha256")::.own i::.d (.val (.builtin "list.append"))::k⟩ Q:=fun F f us vs s hl R=>ozr R fun g ρ m W=>by
 refine oza (ZA (xs:=[.own i,.d (.str "sha256")]) W.stk (by rw [hl];rfl)) fun q1 q2=>?_;have ef:f=_:=Zd q2;subst ef;refine Zc (YF q1) fun u v zo3 zo4 hv=>?_;subst zo3;refine Za zo4 fun ad ea e1=>?_;subst e1;refine oza (W.own i _ ad ho ea) fun ha z=>?_;refine Zt z fun ws hw hlen hall=>?_;refine ⟨Zl,WW hw (by rw [hlen];exact hn) fun h' h1 h2=>?_⟩;refine ⟨_,⟨g,ρ,m,((W.stack (Zb q2)).setOwn (t:=s.toks) (ZB ho).1 ea (fun b ob hb e=>(h2.2 b hb).trans e) (o':=.ask a₀ (n+1)) ⟨ha,ws++[v],h1,by rw [Qu,hlen];rfl,fun u hu=>?_⟩).push Zbr⟩,q⟩;refine (ZL hu).elim (hall u) fun hu=>?_;obtain rfl:=YY hu;exact hv
theorem ZoI {h:Heap}{p:Program}{w:World}{a:Addr}{n:Nat}(H:OAt p w g ρ h (.ask a₀ n) a):OAt p w g ρ h (.list (List.replicate n (.d (.str "sha256")))) a:=by
 refine oza H fun j z=>?_;refine Zt z fun vs l hl hall=>?_;refine ⟨vs,l,?_⟩;clear l z H;induction vs generalizing n with
 | nil=>subst hl;exact rfl
 | cons v vs ih =>
  subst hl;exact ⟨v,vs,rfl,hall v (.head _),ih rfl fun u hu=>hall u (.tail _ hu)⟩
theorem RSW.asList {s:Shared}{m:Qk}{n:Nat}(W:RSW c F ⟨l,o,k⟩ vs s g ρ m) (ho:o[i]?=some (.ask a₀ n)):RSW c F ⟨l,o.set i (.list (List.replicate n (.d (.str "sha256")))),k⟩ vs s g ρ m:=by
 have hi:=(ZB ho).1;have hi':i<ρ.length:=by rw [W.len];exact hi
 have e:=Ke hi'
 have:=W.setOwn (t:=s.toks) hi e (h':=s.heap) (fun j j j e=>e) (ZoI (W.own i _ _ ho e));exact this
theorem ZiF {b:Addr}{n:Nat}(X:FixC c x b (.ref a₀)) (ho:o[i]?=some (.ask a₀ n)) (h:Q ⟨l,o.set i (.list (List.replicate n (.d (.str "sha256")))),.own i::k⟩):EJ c (.Name x pos) ⟨l,o,k⟩ Q:=fun F vs s R =>
 wpm (Zoa (Q:=fun st=>st=⟨l,o,.own i::k⟩) X ho rfl F vs s R) fun v s1 z=>ozg z fun st1 R1 e=>by
  subst e;exact ozr R1 fun g ρ m W=>⟨_,⟨g,ρ,m,W.asList ho⟩,h⟩
end
end
section
variable {w:World}
section
variable {l:Qc}
theorem ZlW (q:QM 1 ⟨l,o,.d (.str x)::.d (.val (.builtin "str.index"))::k⟩):MJ c "index" ⟨l,o,.d (.str x)::k⟩ QM:=Wu PySem.F.plainAttrs_str PySem.F.slot_str_index PySem.F.type_str_index U7 q
theorem ZmL {rest:List Nat}(h:Builtin.Str.occurrences x y 0 x.length 1=i::rest) (q:Q ⟨l,o,.d (.int i)::k⟩):CJ c 2 ⟨l,o,.d (.str y)::.d (.str x)::.d (.val (.builtin "str.index"))::k⟩ Q :=
 WY (as:=[.d (.str x),.d (.str y)]) rfl (fun j=>Zl) (fun F st vs s g ρ m us W hu Q' hq=>by
  refine Zc (YF hu) fun u v e1 e2 e3=>?_;obtain ⟨t,e2⟩:=e2;obtain ⟨t',e3⟩:=e3;subst e1 e2 e3;exact SC.index h (hq _ _ YS)) q
end
noncomputable def ZhV (d:Nat→Nat):Nat→Nat
 | 0=>0
 | k+1=>ZhV d k*2+d (k / 4) / 2 ^ (3 - k % 4) % 2
theorem Znu:∀v,v<16→(Builtin.Str.occurrences UO (Xy (v:Nat)) 0 UO.length 1).head?=some v:=by decide +kernel
theorem Zqf (I:IsK kk1 G w){d:Nat→Nat}(hb:b≤32) (hd:∀j,j<wd b→d j<16∧(cp x)[j]?=some ((UO.cps[d j]?).getD 0)):Zw G (.ref 347) 4 [.str x,.int b] (fun r=>r = .int (ZhV d b:Nat)):=Zrk I (need:=3) fun cx hG hF=>by
 conv=>whnf
 refine Zf (ZgA hb) ?_;refine Zqk (List.range b) (fun i=>.d (.int (0+i))) (fun n:Int=>[(2,.d (.int n)),(0,.d (.str x)),(1,.d (.int b))]) (fun u=>[]) [] (fun xs n=>∃k,xs=List.range' k (b - k)∧k≤b∧n=(ZhV d k:Nat)) 0 Q0 (UF (Yj rfl) rfl rfl) ⟨0,List.range_eq_range',Q4 _,rfl⟩ ?_ ?_
 ·rintro i xs n ⟨k,e1,e2,e3⟩;have hk:k<b:=by
   refine Nat.lt_of_le_of_ne e2 fun e=>?_;rw [e,Rp] at e1;exact ZjU e1
  obtain ⟨rfl,e1⟩:i=k∧xs=List.range' (k+1) (b - (k+1)):=by
   rw [show b - k=(b - (k+1))+1 from (Nat.succ_pred_eq_of_pos (Nat.sub_pos_of_lt hk)).symm,List.range'_succ] at e1;exact ⟨(List.cons.inj e1).1,(List.cons.inj e1).2⟩
  rw [show ((0:Int)+(i:Int))=(i:Int) from Int.zero_add _];have ed:((i:Int).fdiv 4)=((i / 4:Nat):Int):=fdv i 4;have hi:i<32:=Kt hk hb;have e4:=(by decide +kernel:∀i:Nat,i<32→(0:Int)≤3 - (i:Int).fmod 4∧3 - (i:Int).fmod 4≤64∧(3 - (i:Int).fmod 4).toNat=3 - i % 4∧i / 4<9) i hi;refine oza (hd (i / 4) (Kt (Nat.div_lt_of_lt_mul (Kt hk (Wb hb).2.1)) (Kq _))) fun d1 d2=>?_;obtain ⟨rest,hr⟩:=Zha (Znu _ d1);refine Stop.mk (ZlW ?_);refine Zf (Zbz (x:=.d (.str (Xy (d (i / 4):Nat)))) ?_) ?_
  ·show (ZfO _ x.cps.toList).map _=_;rw [ed,ZbF (Rb _) (Int.ofNat_lt.mpr (Kt e4.2.2.2 (by decide))) (by exact d2)];rfl
  refine ZmL hr ?_;refine Zf (Zu ⟨.inl rfl,e4.1,e4.2.1⟩) ?_;rw [e4.2.2.1];refine Zf (Zu (p2 _ (Nat.sub_le _ _))) ?_;refine ⟨_,⟨i+1,e1,hk,?_⟩,UF (Yj rfl) rfl rfl⟩;show n*2+(((d (i / 4):Nat):Int).fdiv (2 ^ (3 - i % 4))).fmod 2=_;exact e3▸congrArg (((ZhV d i:Nat):Int)*2+·) ((congrArg (Int.fmod · 2) (fdp (d (i / 4)) 2 _)).trans (fmd _ 2))
 ·rintro n ⟨k,e1,e2,e3⟩;have hk:k=b:=by
   have:=congrArg List.length e1;rw [List.length_range',List.length_nil] at this;exact Nat.le_antisymm e2 (Nat.le_of_sub_eq_zero this.symm)
  show D.int n=_;rw [e3,hk]
end
section
theorem Zlh {v:Nat}{d:Nat→Nat}(hv:v<2 ^ 32) (hd:∀j,j<8→d j=v / 16 ^ (7 - j) % 16):∀k,k≤32→ZhV d k=v / 2 ^ (32 - k):=by
 intro k;induction k with
 | zero=>intro u;exact (Nat.div_eq_of_lt hv).symm
 | succ k ih =>
  intro hk;have hk:=Kt (Nat.lt_succ_self k) hk;have q:=(by decide +kernel:∀k<32,k / 4<8∧3 - k % 4≤3∧4*(7 - k / 4)+(3 - k % 4)=31 - k∧31 - k+1=32 - k) k hk;have e1:v / 16 ^ (7 - k / 4) / 2 ^ (3 - k % 4)=v / 2 ^ (31 - k):=by
   rw [Nat.div_div_eq_div_mul,show (16:Nat)=2 ^ 4 from rfl,←Nat.pow_mul,←Nat.pow_add,q.2.2.1]
  rw [ZhV,ih (Nat.le_of_lt hk),hd _ q.1,nib _ _ q.2.1,e1,←q.2.2.2,Nat.pow_succ,←Nat.div_div_eq_div_mul,Nat.div_add_mod'];exact congrArg (v / 2 ^ ·) (Nat.succ_sub_succ 31 k).symm
theorem Zse (n k:Nat):(((n:Int).fdiv (16 ^ k)).fmod 16)=((n / 16 ^ k % 16:Nat):Int):=by
 rw [fdN];exact fmd _ 16
theorem Wv (n c:Nat):cp (ZC n c)=(List.range c).map fun k=>(UO.cps[n / 16 ^ (c - 1 - k) % 16]?).getD 0:=by
 unfold ZC;rw [Zda,show cp ""=[] by kd_p,ZdX];unfold Ze2;rw [Q0];have:∀l:List Nat,(l.map (cp∘fun k=>Xy (((n:Int).fdiv (16 ^ (c - 1 - k))).fmod 16))).flatten=l.map fun k=>(UO.cps[n / 16 ^ (c - 1 - k) % 16]?).getD 0:=fun l=>by
  induction l with
  | nil=>rfl
  | cons a r ih =>
   rw [Rh,List.flatten_cons,ih,Rh];show cp (Xy (((n:Int).fdiv (16 ^ (c - 1 - a))).fmod 16))++_=_;rw [Zse];rfl
 exact this _
theorem ZkO {v:Nat}(hx:x=ZC v 8++y) (hj:j<8):v / 16 ^ (7 - j) % 16<16∧(cp x)[j]?=some ((UO.cps[v / 16 ^ (7 - j) % 16]?).getD 0):=by
 refine ⟨Nat.mod_lt _ (by decide),?_⟩;have hl:(cp (ZC v 8)).length=8:=by rw [Wv,Qw,Rk]
 rw [hx,YL,Kl (by rw [hl];exact hj),Wv,Ru,List.getElem?_range hj];rfl
variable {w:World}
theorem ZpY (I:IsK kk1 G w){v:Nat}(hb:b≤32) (hv:v<2 ^ 32) (hx:x=ZC v 8++y):Zw G (.ref 347) 4 [.str x,.int b] (fun r=>r = .int ((v / 2 ^ (32 - b):Nat):Int)) :=
 Zlh (d:=fun j=>v / 16 ^ (7 - j) % 16) hv (fun u u=>rfl) b hb▸Zqf I hb fun j hj=>ZkO hx (Kt hj (Wb hb).1)
end
section
section
variable {l:Qc}
theorem Zdj {e:Expr}(h:EJ c e st fun st1=>∃x l' o' k',st1=⟨l',o',.d (.str x)::k'⟩∧x.length≤sizeLine∧Q st1):EJ c (.FormattedValue e (-1) none pos) st Q:=fun F vs s R =>
 FormattedValue_plain (Kb (h F vs s R) (fun v s1 zw=>ozg zw fun st1 R1 hq=>by
  refine Zb2 hq fun x l' o' k' zo1 hx q=>?_;subst zo1;refine ozr R1 fun g ρ m W=>?_;refine oze ((Zd W.stk:VR c.p c.w g (.str x) v)) fun t zo2=>?_;subst zo2;exact formatField_str (fun t' tk=>⟨_,⟨g,ρ,m,((W.tok tk).stack (Zh Xb (Zb W.stk)))⟩,q⟩) hx) fun j j x=>x)
def FsJ (c:Cx) (out:Str) (es:Qs) (st:St) (Q:Qf):Prop :=
 ∀F vs s,RS c F st vs s→wpAny (model c.p c.w) c.A (joinParts out (evalEach es c.env)) (EQ c F vs Q) NoE s
theorem Zjx {out:Str}(hz:out.length≤sizeLine) (q:Q ⟨l,o,.d (.str out)::k⟩):FsJ c out [] ⟨l,o,k⟩ Q:=fun F vs s R =>
 ozr R fun g ρ m W=>joinParts_nil ⟨_,⟨g,ρ,m,(W.tok _).push Xb⟩,q⟩ hz
theorem Um {out:Str}{e:Expr}{es:Qs}(h:EJ c e st fun st1=>∃y l' o' k',st1=⟨l',o',.d (.str y)::k'⟩∧(out++y).length≤sizeLine∧FsJ c (out++y) es ⟨l',o',k'⟩ Q):FsJ c out (e::es) st Q:=fun F vs s R =>
 joinParts_cons (Kb (h F vs s R) (fun v s1 zw=>ozg zw fun st1 R1 hq=>by
  refine Zb2 hq fun y l' o' k' zo1 hy q=>?_;subst zo1;refine ozr R1 fun g ρ m W=>?_;refine oze ((Zd W.stk:VR c.p c.w g (.str y) v)) fun t zo2=>?_;subst zo2;exact ⟨hy,q F vs s1 ⟨g,ρ,m,W.stack (Zb W.stk)⟩⟩) fun j j x=>x)
theorem Zle {e1 e2:Expr}{es:Qs}(h:FsJ c Str.empty (e1::e2::es) st Q):EJ c (.JoinedStr (e1::e2::es) pos) st Q:=fun F vs s R=>JoinedStr_many (h F vs s R)
end
end
section
open PySem.W PySem.NumText
theorem Zh4 {A:Around}{s:Shared}{Q:Qj}{text:List Nat}{n:Int}
 (hs:(text.takeWhile (· != 0)).length≤640) (hr:(int_private% "readNumeral") 0 16 (text.takeWhile (· != 0))=(int_private% "Numeral.value") n)
 (ha:((text.takeWhile (· != 0)).length==text.length)=true) (h:Q (.int n s.toks) {s with toks:=s.toks+1}) :
 wpAny M A ((int_private% "intFromText") v text 16) Q E s:=by
 obtain ⟨hp,g,d,tk,os⟩:=s
 repeat (any_goals (first
  | assumption
  | (with_reducible refine wpAny_ite_true (decide_eq_true hs) ?_)
  | (with_reducible refine wpAny_ite_true (decide_eq_true ha) ?_)
  | wp_step))
 all_goals (try rw [hr])
 all_goals (try dsimp only)
 repeat (any_goals (first
  | assumption
  | (with_reducible refine wpAny_ite_true (decide_eq_true hs) ?_)
  | (with_reducible refine wpAny_ite_true (decide_eq_true ha) ?_)
  | wp_step))
structure Hid16 (p:Prop):Prop where
 out:p
set_option maxHeartbeats 4000000 in
theorem Zm4 {u u':Tok}{n:Int}(hx:x.cps.all (· < 128)=true) (hs:(x.cps.toList.takeWhile (· != 0)).length≤640) (hr:(int_private% "readNumeral") 0 16 (x.cps.toList.takeWhile (· != 0))=(int_private% "Numeral.value") n)
 (ha:((x.cps.toList.takeWhile (· != 0)).length==x.cps.toList.length)=true):Gives (Builtin.«int.__new__» ⟨[.type "int",.str x u,.int 16 u'],[]⟩) (.int n) :=
 .of_wp fun M A E s Q h=>by
  obtain ⟨hp,g,d,tk,os⟩:=s;have f1:=F.conv_sub_int;have f2:=F.madeHere_int;have f6:typeOf (.str x u)=pure (.type "str"):=rfl;have hk:=Hid16.mk (And.intro hs (And.intro hr ha));clear hs hr ha
  repeat (any_goals (first
   | assumption
   | ((with_reducible show wpAny _ _ ((int_private% "intFromText") _ _ _) _ _ _);refine (if_pos hx)▸(Zh4 hk.out.1 hk.out.2.1 hk.out.2.2 ?_))
   | wp_step))
  all_goals first | exact ⟨_,rfl,h⟩ | skip
theorem Zcg (a b:Value):checkTypeCall "int" ⟨[a,b],[]⟩=pure ():=by kd_p
theorem Zct (a b:Value):checkBuiltinCall "int.__new__" ⟨[.type "int",a,b],[]⟩=pure ():=by kd_p
theorem Zfj (o a b:Value):argsOk "object.__init__" ⟨[o,a,b],[]⟩:=by kd_p
theorem ZfG {w:World}{A:Around}{s:Shared}{Q:Qj}{t t':Tok}{n:Int}(hx:x.cps.all (· < 128)=true) (hs:(x.cps.toList.takeWhile (· != 0)).length≤640) (hr:(int_private% "readNumeral") 0 16 (x.cps.toList.takeWhile (· != 0))=(int_private% "Numeral.value") n)
 (ha:((x.cps.toList.takeWhile (· != 0)).length==x.cps.toList.length)=true) (h:Q (.int n s.toks) {s with toks:=s.toks+1}):wpAny (model prog w) A (call (.type "int") [.str x t,.int 16 t']) Q E s :=
 callType_new F.called_int F.newNe_int (Zcg _ _) (Zct _ _) (fun obj=>Zfj obj _ _) F.entry_int_new (Zm4 hx hs hr ha).meets (⟨rfl,h⟩)
end
section
section
variable {l:Qc}
theorem Zlz {n:Int}(hx:x.cps.all (· < 128)=true) (hs:(x.cps.toList.takeWhile (· != 0)).length≤640) (hr:(int_private% "readNumeral") 0 16 (x.cps.toList.takeWhile (· != 0))=(int_private% "Numeral.value") n)
 (ha:((x.cps.toList.takeWhile (· != 0)).length==x.cps.toList.length)=true) (q:Q ⟨l,o,.d (.int n)::k⟩):CJ c 2 ⟨l,o,.d (.int 16)::.d (.str x)::.d (.val (.type "int"))::k⟩ Q :=
 WY (as:=[.d (.str x),.d (.int 16)]) rfl (fun j=>XB) (fun F st vs s g ρ m us W hu Q' hq=>by
  refine Zc (YF hu) fun u v e1 e2 e3=>?_;obtain ⟨t,e2⟩:=e2;obtain ⟨t',e3⟩:=e3;subst e1 e2 e3;exact ZfG hx hs hr ha (hq _ _ YS)) q
end
end
section
open PySem.W PySem.NumText
noncomputable def hx (d:Nat):Nat:=(UO.cps[d]?).getD 0
theorem UN:∀d,d<16→blank (hx d)=false∧hx d≠45∧hx d≠43∧digit? (hx d)=some d∧(hx d==95)=false∧hx d≠120∧hx d≠88∧hx d<128∧hx d≠0:=by decide +kernel
theorem ZgU (h:∀d∈ds,d<16):(ds.map hx).dropWhile blank=ds.map hx:=by
 induction ds using LLc with
 | nil=>rfl
 | cons d r=>rw [Rh,List.dropWhile_cons,(UN d (h _ (.head _))).1];rfl
theorem Znf (h:∀d∈ds,d<16):(ds.map hx).takeWhile (· != 0)=ds.map hx:=by
 induction ds with
 | nil=>rfl
 | cons d r ih =>
  have e:(hx d != 0)=true:=bne_iff_ne.mpr (UN d (h _ (.head _))).2.2.2.2.2.2.2.2;rw [Rh,List.takeWhile_cons,e,ih fun x hx=>h x (.tail _ hx)];rfl
theorem Zsc {a c:Nat}{r:List Nat}(h1:c≠120) (h2:c≠88):prefix? (a::c::r)≠some 16:=by
 intro h;unfold prefix? at h;split at h
 ·rename_i c' r' e;have e:=(List.cons.inj e).2;have e:=(List.cons.inj e).1;subst e;have e1:(c==120||c==88)=false:=by simp [h1,h2]
  replace h:=e1▸h;simp only [Bool.false_eq_true,if_false] at h;split at h
  ·cases h
  ·split at h <;> cases h
 ·exact Zp h
theorem Ziu:∀d,d<16→prefix? [hx d]≠some 16:=by decide +kernel
theorem Zm7 (h:∀d∈ds,d<16):based 16 (ds.map hx)=(16,false,ds.map hx):=by
 have hp:prefix? (ds.map hx)≠some 16:=by
  induction ds using LLc with
  | nil=>intro e;exact Zp e
  | cons d r=>induction r using LLc with
   | nil=>exact Ziu d (h _ (.head _))
   | cons e r=>have:=UN e (h _ (.tail _ (.head _)));exact Zsc this.2.2.2.2.2.1 this.2.2.2.2.2.2.1
 unfold based;induction e:prefix? (ds.map hx) with
 | none=>rfl
 | some p =>
  have hne:((16:Nat)==0||(16:Nat)==p)=false:=Bool.or_eq_false_iff.mpr ⟨rfl,Zdx fun q=>hp (q▸e)⟩;dsimp only;rw [hne];rfl
theorem ZlZ (h:∀d∈ds,d<16):sign (ds.map hx)=(false,ds.map hx):=by
 unfold sign;split
 ·rename_i r e;cases ds with
  | nil=>exact ZoW e
  | cons d q=>exact absurd (List.cons.inj e).1 (UN d (h _ (.head _))).2.1
 ·rename_i r e;induction ds using LLc with
  | nil=>exact ZoW e
  | cons d q=>exact absurd (List.cons.inj e).1 (UN d (h _ (.head _))).2.2.1
 ·rfl
theorem ZmH {d:Nat}(h:d<16) (p:Array Nat×Bool):NumText.step 16 p (hx d)=some (p.1.push d,true):=by
 refine ZlD (UN d h) fun j j j h4 h5 j=>?_;unfold NumText.step;rw [h5,h4];simp [h]
theorem Znq (h:∀d∈ds,d<16):∀p:Array Nat×Bool,(ds.map hx).foldlM (NumText.step 16) p=some (p.1++ds.toArray,p.2||!ds.isEmpty):=by
 induction ds with
 | nil=>intro p;simp
 | cons d r ih =>
  intro p;rw [Rh,List.foldlM_cons,ZmH (h _ (.head _))];show List.foldlM (NumText.step 16) (p.1.push d,true) (r.map hx)=_;rw [ih fun x hx=>h x (.tail _ hx)];simp
theorem Zst (h:∀d∈ds,d<16) (hne:ds≠[]):(int_private% "readNumeral") 0 16 (ds.map hx)=(int_private% "Numeral.value") ((ds.foldl (fun acc d=>acc*16+d) 0:Nat):Int):=by
 have hr:((ds.map hx).reverse.dropWhile blank).reverse=ds.map hx:=by
  rw [←List.map_reverse,ZgU fun d hd=>h d (List.mem_reverse.mp hd),List.map_reverse,List.reverse_reverse]
 have hd:digits? 16 (ds.map hx)=some ds.toArray:=by
  unfold digits?;rw [Znq h];induction ds using LLc with
  | nil=>exact absurd rfl hne
  | cons=>simp
 rw [readNumeral_eq,ZgU h,ZlZ h,Zm7 h];rw [hr,hd];show (int_private% "Numeral.value") ((ds.toArray.foldl (fun acc d=>acc*16+d) 0:Nat):Int)=_;rw [List.foldl_toArray]
end
section
open PySem.W PySem.NumText
noncomputable def ZfP (v:Nat):List Nat:=(List.range 8).map fun k=>v / 16 ^ (7 - k) % 16
theorem Zdy (v:Nat):∀d∈ZfP v,d<16:=fun d hd=>by
 refine Za (List.mem_map.mp hd) fun k j zo1=>?_;subst zo1;exact Nat.mod_lt _ (by decide)
theorem ZmM (v:Nat):cp (ZC v 8)=(ZfP v).map hx:=by
 rw [Wv];unfold ZfP;rw [Q0];rfl
theorem ZiZ {v:Nat}(hv:v<2 ^ 32):(ZfP v).foldl (fun acc d=>acc*16+d) 0=v:=by
 exact Zsz hv
section
variable {l:Qc}
theorem ZpT {v:Nat}(hv:v<2 ^ 32) (q:Q ⟨l,o,.d (.int (v:Nat))::k⟩):CJ c 2 ⟨l,o,.d (.int 16)::.d (.str (ZC v 8))::.d (.val (.type "int"))::k⟩ Q:=by
 have e:(ZC v 8).cps.toList=(ZfP v).map hx:=ZmM v;have ht:(ZC v 8).cps.toList.takeWhile (· != 0)=(ZfP v).map hx:=by rw [e,Znf (Zdy v)]
 refine Zlz (n:=(v:Nat)) ?_ ?_ ?_ ?_ q
 ·rw [←Array.all_toList,e,List.all_eq_true];intro x hx';refine Za (List.mem_map.mp hx') fun d hd zo1=>?_;subst zo1;exact decide_eq_true (UN d (Zdy v d hd)).2.2.2.2.2.2.2.1
 ·rw [ht,Qw];unfold ZfP;rw [Qw];decide
 ·rw [ht,Zst (Zdy v) (fun h=>by exact ZjU h),ZiZ hv]
 ·exact ht▸e▸(Ro _)
end
end
section
section
variable {l:Qc}
open Builtin._codecs in
theorem Ws (h:(WN x).size≤10) (e:∀id self,encodeNarrow id utf8Codec none self x=pure (WN x)):Zgx x:=⟨Kr h (by rw [sizeLine_eq];decide),e⟩
theorem Zjw (h:x∈pathsAll) (q:Q ⟨l,o,.d (.bytes (WN x))::k⟩):Stop (MJ c "encode" ⟨l,o,.d (.str x)::k⟩ fun m st1=>wp c (.o (.lit (.str "utf-8")) .nil) st1 (nx fun st2=>CJ c (m+1) st2 Q)):=⟨by
 exact Zk1 (Zjq (Ub (P:=Zgx) ⟨Ws (by decide +kernel) fun j j=>by kd_p,Ws (by decide +kernel) fun j j=>by kd_p,Ws (by decide +kernel) fun j j=>by kd_p,Ws (by decide +kernel) fun j j=>by kd_p,Ws (by decide +kernel) fun j j=>by kd_p,Ws (by decide +kernel) fun j j=>by kd_p,Ws (by decide +kernel) fun j j=>by kd_p,Ws (by decide +kernel) fun j j=>by kd_p,Ws (by decide +kernel) fun j j=>by kd_p⟩ h) q)⟩
theorem Zmg (q:Q ⟨l,o,.d (.bool true)::k⟩):CJ c 2 ⟨l,o,.d (.val (.type "str"))::.d (.str x)::.d (.val (.builtin "isinstance"))::k⟩ Q:=fun F f us vs s hl zq2=>by
 refine ozr zq2 fun g ρ m W=>?_;refine oza (ZA (xs:=[.d (.str x),.d (.val (.type "str"))]) W.stk (by rw [hl];rfl)) fun q1 q2=>?_;have ef:f=_:=Zd q2;subst ef;obtain ⟨u1,r1,rfl,e1,v1,r2,rfl,e2,r3⟩:=q1;obtain ⟨t,rfl⟩:=e1;subst e2;subst r3;exact ⟨Zl,IsiPair.str_str ⟨_,⟨g,ρ,m,W.stack (Zh (a:=.d (.bool true)) rfl (Zb q2))⟩,q⟩⟩
theorem Zfr {n:Nat}(hi:i≤8):Xd (.bi .len) ⟨l,o,.d (.str (ZC n i))::r⟩=some ⟨l,o,.d (.int (i:Nat))::r⟩:=by
 have:=Zkt (l:=l) (o:=o) (r:=r) (x:=ZC n i) (by rw [Z4];exact Ku (by assumption) (by decide))
 rwa [Z4] at this
end
variable {w:World}
theorem ZqQ (w:World):∃ar vs file tf cls ccl cel cdd ced ccs ces cd,SupFacts (kk1 w.params) pw1.main 227 109 275 214 226 ["self","keyids","threshold","bit_length","name_prefix","unrecognized_fields"] ar vs file tf cls ccl cel cdd ced ccs ces cd :=
 ⟨_,_,_,_,.none,_,_,_,_,_,_,_,{
  fn:=by kd_p,codeIn:=by kd_p,code:=by kd_p,kind:=by kd_p,co:=by kd_p,gen:=by kd_p,tnd:=Kw (by kd_p),ndn:=Kw (by kd_p),par:=by kd_p,ncell:=by kd_p
  gl:=by kd_p,bu:=by kd_p,clo:=by kd_p,head:=by kd_p1,arg:=by kd_p,arg0:=by kd_p,codeAt:=by kd_p1,vs2:=by kd_p1,file:=by kd_p,top:=by kd_p
  cell:=by kd_p1,clsC:=by kd_p1,mro:=by kd_p,sup:=by kd_p,meth:=by kd_p,methT:=by kd_p,methF:=by kd_p,stat:=by kd_p,kS:=by kd_p,kC:=by kd_p}⟩
theorem Zk9 (I:IsK kk1 G w) (h1:1≤b) (hb:b≤32):Zw G (.ref 210) 4 [.int ((2:Int) ^ b - 1),.int 1] (fun d=>d = .str (ZC (2 ^ b - 1:Nat) (wd b))):=by
 have e:(2:Int) ^ b - 1=((2 ^ b - 1:Nat):Int):=by rw [Int.ofNat_sub Nat.one_le_two_pow,Int.natCast_pow];rfl
 exact e▸(Zpt I h1 hb)
theorem Zc3 {p:Str}(h1:1≤b) (hb:b≤32){a5:A}{P:Qa}
 (hw:wp c (.o (.loc 3) <| .o (.loc 0) <| .stA "bit_length" [275] <| .o (.loc 4) <| .o (.loc 0) <| .stA "name_prefix" [275] <| .o (.lit (.int 2)) <| .o (.loc 3) <| .o (.bin .Pow) <| .o (.loc 0) <| .stA "number_of_bins" [275] <| .bi .len (.o (.lit (.val (.ref 210))) <| .o (.loc 0) <| .attr "number_of_bins" [275] <| .o (.lit (.int 1)) <| .o (.bin .Sub) <| .o (.lit (.int 1)) <| .call 2 .nil) <| .o (.loc 0) <| .stA "suffix_len" [275] .nil) ⟨[(0,.own i),(1,a1),(2,a2),(3,.d (.int b)),(4,.d (.str p)),(5,a5)],os,[]⟩ P):wp c lc227 ⟨[(0,.own i),(1,a1),(2,a2),(3,.d (.int b)),(4,.d (.str p)),(5,a5)],os,[]⟩ P:=by
 refine Yr (fun h=>absurd (Kw h) (by lia)) fun j=>?_;refine Yr (fun h=>absurd (Kw h) (by lia)) fun j=>?_;refine Stop.mk (Zmg ?_);exact hw
theorem Zem (I:IsX1 G w){t:Int}{p:Str}(hn:ids.Nodup) (hl:ids.length≤100) (ht:1≤t) (h1:1≤b) (hb:b≤32):
 OSpecC G (.ref 227) 6 [.inst 275 1,.dict [] 0] [.own 0,.d (Zv ids),.d (.int t),.d (.int b),.d (.str p)] fun r os'=>r = .d .none∧Frz os' 0 (.own 0) (Zx ids t b p):=by
 refine Ka fun zn1=>?_;obtain ⟨ar,vs,file,tf,cls,ccl,cel,cdd,ced,ccs,ces,cd,S⟩:=ZqQ w;refine zn1 ?_;replace S:=I.p▸S;refine ZdU (n:=5) (targs:=[.d (Zv ids),.d (.int t),.d .none]) (loc':=[(0,.own 0),(1,.d (Zv ids)),(2,.d (.int t)),(3,.d (.int b)),(4,.d (.str p)),(5,.d .none)]) (rest:=(XU (kk1 w.params) 227).tail) I.k S (by kd_p1) (fun j=>_) (fun j=>rfl) (fun j=>rfl) (by kd_p1) rfl (by decide) (ln5 fun b0 b1 b2 b3 b4 S=>by kd_p) (Uo [0,1,2,3,4,5] (by kd_p)) rfl rfl (ZgR (m:=5) (ZaV I.k (.inr rfl) hn hl ht)) ?_ ?_
 ·intro c hG cE cT cC cF;have X:EnvOk c (EK (kk1 w.params) 227 0 {cls:=[275]}):=Zh2 I.k hG (by rw [cE];rfl) cT cC;exact Zq (Ze (X.l "keyids" 1 (by kd_p)) rfl (Zq (Ze (X.l "threshold" 2 (by kd_p)) rfl (Zq (Ze (X.l "unrecognized_fields" 5 (by kd_p)) rfl (Ym rfl))))))
 ·rintro c hG cE cT cC cF os' ⟨ep,rfl⟩;have X:EnvOk c (EK (kk1 w.params) 227 0 {cls:=[275]}):=Zh2 I.k hG (by rw [cE];rfl) cT cC;refine (Xo X (Zn5 w) (Q:=YH _) ?_).mono fun j j q=>Uc q;refine Zc3 h1 hb ?_;intro j j;refine Zf (Zu ⟨.inl rfl,by exact Rb _,by exact Int.ofNat_le.mpr (Kr (by assumption) (by decide))⟩) ?_;intro j;refine WQ I.k hG cF (Zk9 I.k h1 hb) (by kd_p) (by decide) ?_;refine Zf (Zfr (Wb hb).1) ?_;exact fun e=>⟨rfl,Wl (n:=9) (by kd_p)⟩
end
section
def GSpecO (G:Gx) (f:Value) (need:Nat) (os:Qg) (args ys:Qi):Prop :=
 ∀(A:Around) (F:Fz) (us:Qo) (s:Shared) (g:Heap) (σ:Qp),A.handled=none→A.depth+need<recursionLimit→A.units+8*need+40≤cLine→OW G F os s g σ→VRs G.p G.w g args us →
  wpAny (model G.p G.w) A (call f us) (GPost G A F g ys) NoE s
theorem ZjC {f:Addr}{qual:Str}{cd:Value}{args:Qi}(K:DefG G f scope qual cd body args.length names)
 (hl:∀q∈loc',∃x,(Zg scope)[q.1]?=some x∧scope.names.lookup x=some .local∧(x,q.2)∈WM names (args.map .d))
 (h:∀c:Cx,c.G=G→c.env=Z3 f scope qual cd c.env.locals→c.cel=[]→c.tab=Zg scope→c.fuel=need→∀A g₀,YJ c A [] [] g₀ (execs body c.env) ys ⟨loc',os,[]⟩ fun ys' st'=>ys'=[]∧ZnA c st'):GSpecO G (.ref f) (need+1) os args ys:=fun ar F us s g σ hh hd hu H hv=>by
 have hB:=G.lib.mono _ _ H.keep H.base;obtain ⟨ob,fd,e1,e2,e3,hbody,hsc,hgl,hbu,hclo,hqu,hcd,hbi⟩:=K.at_ _ hB;have hlu:=ZU hv;have hus:ARs G.p G.w g [] (args.map .d++List.replicate (names.length - args.length) (.d .none)) (us++List.replicate (names.length - args.length) Value.none):=Xk (UG.mpr hv) (Ut _);have hbi':=hbi us hlu s hB;generalize hbs:names.zip (us++List.replicate (names.length - args.length) Value.none)=binds at hbi';have hfst:binds.map (·.1)=names:=by
  have:=K.le;rw [←hbs,List.map_fst_zip (by simp [hlu];exact nJ)]
 have efull:WM names (args.map A.d)=names.zip (args.map A.d++List.replicate (names.length - args.length) (.d .none)):=by simp [WM]
 rw [efull] at hl;have hn2:(binds.map (·.1)).Nodup:=hfst▸K.ndn;have hmem:∀x∈binds,x.1∈names:=fun x hx=>hfst▸Ri hx;have env_eq:∀L,callEnvC fd L f=Z3 f scope qual cd L:=fun L=>by unfold callEnvC Z3;exact hsc▸hgl▸hbu▸hqu▸hcd▸rfl
 refine wpAny_call (codeAny_call_generator (by exact Ku (Ko _ _) (by assumption)) e1 e2 (by rw [hsc];exact K.co) (by rw [hsc];exact K.gen) hbody e3 ?_);refine hbi' _ _ _ _ ?_;refine hclo▸(wpAny_newFunctionEnv_cells (by rw [hsc];exact K.kind) (fun x hx=>by rw [hsc];exact .inl (K.par _ (hmem x hx))) fun env he s₁ x=>?_);subst he;change InCallC s (callEnvC fd s.heap.objs.size f).locals (bindL (callEnvC fd s.heap.objs.size f).kindOf binds fun u=>none) (callEnvC fd s.heap.objs.size f).cells (bindC (callEnvC fd s.heap.objs.size f).kindOf binds fun u=>none) s₁ at x;refine Ue x.toInCall.same fun h₁ tk zo1=>?_;subst zo1;have hk:=x.toInCall.keep;refine ⟨(G.lib.nolimit _ hB).keeps hk,?_⟩;have ee:=env_eq s.heap.objs.size;rw [env_eq] at x;unfold callEnvC at ee;rw [ee];have fresh:∀b,s.heap.objs.size≤b→g.get? b=none∧(∀r∈G.reg,b≠r.at_)∧∀q∈F.hid,b≠q.1:=fun b hb=>H.newer hb;have sub:Sub s.heap h₁:=hk;have hns:=x.toInCall.ns;have hLo:∃o,h₁.get? s.heap.objs.size=some o:=by refine ZS hns fun o u u e u=>?_;exact ⟨o,e⟩
 have hLt:s.heap.objs.size<h₁.objs.size:=Kk hLo.choose_spec;generalize hgo:({cls:=.type "generator",data:=.fields #[.int s.gens.size 0,.str fd.name tk,.str fd.qualname (tk+1)]}:Obj)=gob;have hgob:gob.cls = .type "generator"∧gob.data = .fields #[.int s.gens.size 0,.str fd.name tk,.str fd.qualname (tk+1)]∧gob.slots=#[]:=by rw [←hgo];exact ⟨rfl,rfl,rfl⟩
 have hs2:Sub h₁ (h₁.push gob):=Sub.push _ _;have H1:HS G F {s with heap:=h₁.push gob,gens:=s.gens.push (.fresh (.func body (Z3 f scope qual cd s.heap.objs.size))),toks:=tk+1+1} g:=H.grow (sub.trans hs2) (fun i y e=>by
  have e1:=H.gens i y e;have hi:i<s.gens.size:=(Array.getElem?_eq_some_iff.mp e1).1;rw [Array.getElem?_push_lt hi];rw [Rx hi] at e1;exact e1) (H.bare.push rfl) rfl
 have hnm:∀b,s.heap.objs.size≤b→b∉ZG G F []:=fun b hb hm=>by
  refine Or.elim (ZL (show b∈G.reg.map (·.at_)++F.hid.map (·.1) from hm)) (fun z=>?_) fun z=>?_
  ·refine Za (Yh z) fun r hr e=>?_;exact (fresh b hb).2.1 r hr e.symm
  ·refine Za (Yh z) fun q hq e=>?_;exact (fresh b hb).2.2 q hq e.symm
 have hst:∀b∈σ,∃o,s.heap.get? b=some o:=fun b hb=>by
  refine oze (ZdV hb) fun j e=>?_;have hj:j<os.length:=H.len▸(ZB e).1;exact OAt.there _ _ _ (H.own j _ b (Ke hj) e)
 have hsub:Sub g (W.hideAll (h₁.push gob) (ZG G F (s.heap.objs.size::σ))):=fun b o e=>W.hideAll_get _ (H1.keep b o e) fun hb=>by
  refine Or.elim (ZL hb) (fun hb=>?_) fun hb=>?_
  ·refine Or.elim (ZH hb) (fun hb=>?_) fun hb=>?_
   ·subst hb;rw [(fresh _ (Kq _)).1] at e;exact Zp e
   ·rw [H.fr b hb] at e;exact Zp e
  ·rw [H1.nomut b (show b∈ZG G F [] from Kf _ hb)] at e;exact Zp e
 have haget:(h₁.push gob).get? h₁.objs.size=some gob:=Kh _ (by rw [←hgo];rfl);have hag:(W.hideAll (h₁.push gob) (ZG G F (s.heap.objs.size::σ))).get? h₁.objs.size=some gob:=W.hideAll_get _ haget fun hb=>by
  refine Or.elim (ZL hb) (fun hb=>?_) fun hb=>?_
  ·refine Or.elim (ZH hb) (fun hb=>?_) fun hb=>?_
   ·exact absurd hb (Nat.ne_of_gt hLt)
   ·exact absurd (H.lt hb) (Nat.not_lt.mpr (Nat.le_of_lt hLt))
  ·exact hnm _ (Nat.le_of_lt hLt) (Kf _ hb)
 have kept:∀b∈σ,∀o,s.heap.get? b=some o→(h₁.push gob).get? b=some o:=fun b u o e=>hs2 _ _ (sub _ _ e);refine ⟨h₁.objs.size,s.gens.size,s.heap.objs.size::σ,W.hideAll (h₁.push gob) (ZG G F (s.heap.objs.size::σ)),.func body (Z3 f scope qual cd s.heap.objs.size),rfl,?_,hsub,⟨_,_,_,hag,hgob⟩,?_,Array.getElem?_push_size ..,fun b hb=>?_,fun F'' s'' g'' X=>?_⟩
 ·exact H1.regrow hsub (fun u u e=>W.of_hideAll _ e) fun b hb=>W.hideAll_none _ (Kf _ hb)
 ·induction e:F.gens[s.gens.size]? with
  | none=>rfl
  | some y=>exact absurd (Array.getElem?_eq_some_iff.mp (H.gens _ _ e)).1 (Rn _)
 ·refine ⟨?_,W.hideAll_none _ (Kg _ hb),?_⟩
  ·refine Or.elim (ZH hb) (fun hb=>?_) fun hb=>?_
   ·subst hb;exact hLo.elim fun o e=>⟨o,hs2 _ _ e⟩
   ·exact (hst b hb).elim fun o e=>⟨o,kept b hb o e⟩
  ·refine Or.elim (ZH hb) (fun hb=>?_) fun hb=>?_
   ·subst hb;exact (fresh _ (Kq _)).2
   ·exact H.apart b hb
 ·have hd':(ar.in1.deeper (Z3 f scope qual cd s.heap.objs.size)).depth+need<recursionLimit:=by show ar.depth+1+need<_;exact nL (by assumption)
  have hu':(ar.in1.deeper (Z3 f scope qual cd s.heap.objs.size)).units+8*need+40≤cLine:=by show ar.units+1+3+_+_≤_;exact nM (by assumption)
  refine Ka fun zn8=>?_;obtain ⟨c,cG,cE,cA,cT,cC,cF⟩:∃c:Cx,c.G=G∧c.env=Z3 f scope qual cd s.heap.objs.size∧c.A=ar.in1.deeper (Z3 f scope qual cd s.heap.objs.size)∧c.tab=Zg scope∧c.cel=[]∧c.fuel=need:=⟨⟨G,ar.in1.deeper (Z3 f scope qual cd s.heap.objs.size),Z3 f scope qual cd s.heap.objs.size,Zg scope,[],need,K.tnd,K.kind,rfl,rfl,hh,hd',hu'⟩,rfl,rfl,rfl,rfl,rfl,rfl⟩;have cL:c.env.locals=s.heap.objs.size:=by rw [cE];rfl
  refine UT X fun X1 X2 X3 X4=>?_;refine Yz (X4 _ (.head _)) fun x1 x2 x3=>?_;refine zn8 ?_;have R0:RS c {F'' with g₀:=g''} ⟨loc',os,[]⟩ [] s'':=by
   refine ⟨g'',σ,_,{
    toHS:=by rw [cG];exact ⟨X1.base,Sub.refl _,X1.keep,X1.reg,X1.hid,X1.gens,X1.bare,X1.os⟩
    ns:=by rw [cL];exact (hns.push gob).at' fun o e=>x2 o e
    nl:=by rw [cL];exact x1
    loc:=fun y a ha=>?_
    len:=H.len
    nd:=H.nd
    fr:=fun b hb=>⟨(X4 b (.tail _ hb)).1,by rw [cL];exact Rg (H.lt hb)⟩
    own:=fun i o a h1 h2=>by
     unfold Cx.p Cx.w;rw [cG];have hb:=Kj h2;exact OAt.sub _ _ (hsub.trans X2) (Ext.refl _) (fun ob e=>(X4 a (.tail _ hb)).2.1 ob (kept a hb ob e)) o (H.own i o a h1 h2)
    stk:=rfl
    cel:=fun y i hy=>by rw [cC] at hy;cases hy
    apart:=fun b hb=>by
     rw [cL] at hb;rw [cG];refine Or.elim (ZH hb) (fun hb=>?_) fun hb=>?_
     ·subst hb;exact ⟨(fresh _ (Kq _)).2.1,x3⟩
     ·exact ⟨(H.apart b hb).1,(X4 b (.tail _ hb)).2.2⟩
    pin:=fun q hq=>by rw [show ({F'' with g₀:=g''}:Fz).pin=F''.pin from rfl,X3] at hq;cases hq}⟩
   have hm:=Yy ha;refine Ka fun zn9=>?_;refine Zt (hl _ hm) fun z m0 m2 m1=>?_;refine Za (Ww (names:=names) hus m1) fun v hv1 hv2=>?_;refine zn9 ?_;rw [hbs] at hv1;refine ⟨z,v,by rw [cT];exact m0,Zfg (show scope.names.lookup z=some .local from m2) hn2 hv1,?_⟩;unfold Cx.p Cx.w;rw [cG];exact AR.sub _ _ (hsub.trans X2) (fun i a e=>by simp at e) _ _ hv2
  have key:=ZmY (A:=ar.in1) (body:=body) (ys:=ys) (g₀:=g'') (F:={F'' with g₀:=g''}) (fun Γ hcd hΓ=>by
   have:=hΓ.over [];rw [hcd] at this;rw [cA,←cE];rw [cE] at this ⊢;exact this) (Sub.refl _) R0 (h c cG (by rw [cL];exact cE) cC cT cF ar.in1 g'')
  rw [cG,cE] at key;exact YRun.weak X1.g0 key
end
section
def Zjt (rg:Reg):Prop:=∀g g' o,(∀b ob vs,g.get? b=some ob→ob.data = .fields vs→g'.get? b=some ob)→rg.ok g o→rg.ok g' o
theorem Zeb {P:Addr}:Zjt (Yd P):=fun j j j j h=>h
def Xj (a₀:Addr) (N:Nat) (g:Heap):Prop:=∃n vs,n≤N∧IsLst g a₀ vs∧vs.length=n∧∀v∈vs,∃t,v = .str "sha256" t
theorem ZgQ {l:Qc}{n:Nat}(hf:c.G.fin=Xj a₀ N) (hn:n≤N):ZnA c ⟨l,[.ask a₀ n],k⟩:=fun F s R=>ozr R fun g ρ m W=>by
 have hl:ρ.length=1:=W.len;refine oze (List.length_eq_one_iff.mp hl) fun a zo1=>?_;subst zo1;refine oza (W.own 0 _ a rfl rfl) fun ea z=>?_;subst ea;refine Zt z fun vs hv hlen hall=>?_;refine oze hv fun q hq=>?_;have hs:Sub g (PySem.W.hideAll s.heap (ZG c.G F [c.env.locals])):=fun b o e=>Q1 _ (W.keep b o e) fun hb=>by
  refine Or.elim (ZL hb) (fun hb=>?_) fun hb=>?_
  ·obtain rfl:=YY hb;replace e:=W.nl▸e;exact Zp e
  ·rw [W.toHS.nomut b (Kf _ hb)] at e;exact Zp e
 refine ⟨_,W.toHS.regrow hs (fun j j e=>PySem.W.of_hideAll _ e) fun b hb=>Ra _ (Kf _ hb),?_⟩;refine hf▸(⟨n,vs,hn,⟨q,Q1 _ hq fun hb=>?_⟩,hlen,hall⟩);refine Or.elim (ZL hb) (fun hb=>?_) fun hb=>?_
 ·exact (W.fr a (.head _)).2 (YY hb)
 ·refine Or.elim (ZL hb) (fun z=>?_) fun z=>?_
  ·exact Za (Yh z) fun r hr e=>(W.apart a (.tail _ (.head _))).1 r hr e.symm
  ·exact Za (Yh z) fun q hq e=>(W.apart a (.tail _ (.head _))).2 q hq e.symm
inductive GenCallO (c:Cx) (n:Nat) (l:Qc) (os:Qg) (ys:Qi) (st3:St):Prop
 | mk (f:Value) (need:Nat) (args:Qi) (S:GSpecO c.G f need os args ys) (hk:∀h,c.G.lib.B h→ZF c f h) (hn:need≤c.fuel) (hl:n=args.length) (e:st3=⟨l,os,(args.map A.d).reverse++[.d (.val f)]⟩)
section
variable {l:Qc}{s:Shared}
theorem Zng {e:Expr}{r:Qs}(hpin:F.pin=[]) (hcel:c.cel=[]) (hloc:∀q∈l,∃d,q.2 = .d d)
 (h:EJ c oe ⟨l,os,[]⟩ fun st1=>MJ c name st1 fun n st2=>GJ c (e::r) st2 fun st3=>GenCallO c (n+(e::r).length) l os ys st3) (R:RS c F ⟨l,os,[]⟩ [] s)
 (ht:∀it v,letOwnedTupleGo tgt it v=pure ())
 (hb:Xs oe=false:=by rfl) (hs:Zy (e::r)=true:=by rfl) (hn:decide ((e::r).length<30)=true:=by rfl) (hl:(apos.endLine==pos.line)=true:=by rfl) :
 wpAny (model c.p c.w) c.A (eval (.Call (.Attribute oe name apos) (e::r) [] pos) c.env) (fun v s1=>wpAny (model c.p c.w) c.A (pyIter v) (IGGot c F c.G.fin tgt [] fun ok xs st=>ok=(fun u=>True)∧xs=ys.map .d∧st=⟨l,[],[]⟩) NoE s1) NoE s:=by
 refine Ui (F:=F) (vs:=[]) hb hs hn hl (wpm (h F [] s R) (fun ov s1 zw pl=>ozg zw fun st1 R1 h1=>Kb (h1 F ov [] s1 pl R1) (fun fx s2 zw=>ozg zw fun st2 R2 h2=>Zf8 R2 h2 hs fun us st3 s3 hu R3 h3=>?_) fun u u x=>x));obtain ⟨f,need,args,S,hk,hneed,hlen,rfl⟩:=h3;refine ozr R3 fun g ρ m W=>?_;refine oza (ZA (xs:=args.map A.d) W.stk (by rw [Qw];exact hu.trans hlen)) fun q1 q2=>?_;have ef:fx.1=f:=Zd q2;rw [ef];have hd:=c.hd;have hun:=c.hu;refine ⟨hk _ (c.G.lib.mono _ _ W.keep W.base),?_⟩
 have HO:OW c.G {g₀:=g,hid:=F.hid++Zo s3.heap [c.env.locals],gens:=F.gens,os:=F.os,pin:=[]} os s3 g ρ :=
  {base:=W.base,g0:=Sub.refl _,keep:=W.keep,reg:=W.reg,gens:=W.gens,bare:=W.bare,os:=W.os,len:=W.len,nd:=W.nd,own:=W.own,fr:=fun b hb=>(W.fr b hb).1
   hid:=fun q hq=>(ZL hq).elim (fun hq=>W.hid q hq) fun hq=>by
    refine oza (Zj hq) fun h1 h2=>?_;have h1:=YY h1;exact ⟨h2,by rw [h1];exact W.nl,by rw [h1];exact (W.apart _ (.head _)).1⟩
   apart:=fun b hb=>⟨(W.apart b (.tail _ hb)).1,fun q hq=>(ZL hq).elim (fun hq=>(W.apart b (.tail _ hb)).2 q hq) fun hq=>by
    rw [YY (Zj hq).1];exact (W.fr b hb).2⟩
   pin:=fun q hq=>nomatch hq}
 refine wpm (S c.A _ us s3 g ρ c.hh (by exact nT (by assumption) (by assumption)) (by exact nK (by assumption) (by assumption)) HO (UG.mp q1)) (fun v s' P=>?_);obtain ⟨a,gi,L,g',code,rfl,H',hsub,hgen,hgi,hgs,l1,hrun⟩:=P;refine wpAny_pyIter_gen (hgen.keeps H'.keep) ?_;have hloc':∃o,s3.heap.get? c.env.locals=some o∧s'.heap.get? c.env.locals=some o∧g'.get? c.env.locals=none∧(c.env.locals,o)∈F.hid++Zo s3.heap [c.env.locals]:=by
  refine oze (W.there _ (.head _)) fun o e=>?_;have hm:(c.env.locals,o)∈F.hid++Zo s3.heap [c.env.locals]:=Kf _ (ZX (.head _) e);exact ⟨o,e,(H'.hid _ hm).1,(H'.hid _ hm).2.1,hm⟩
 refine Wj hloc' fun lo lo1 lo2 lo3 lo4=>?_;have hg1:∀b∈L,b∉ZG c.G F [c.env.locals]:=fun b hb z=>by
  refine UT (l1 b hb) fun u u l3 l4=>?_;rcases ZL z with z | z
  ·exact l4 _ lo4 (YY z)
  rcases ZL z with z | z
  ·exact Za (Yh z) fun r hr e=>l3 r hr e.symm
  ·exact Za (Yh z) fun q hq' e=>l4 q (Kg _ hq') e.symm
 have W1:RSW c F ⟨l,[],[]⟩ [] s' g' [] m :=
  {base:=H'.base,g0:=W.g0.trans hsub,keep:=H'.keep,reg:=H'.reg,hid:=fun q hq=>H'.hid q (Kg _ hq),gens:=H'.gens,bare:=H'.bare,os:=H'.os
   ns:=by refine ZS W.ns fun o es ep h r=>?_;rw [lo1] at h;obtain rfl:=Kc h;exact ⟨lo,es,ep,lo2,r⟩
   nl:=lo3
   loc:=fun y a h=>by
    refine Zc (W.loc y a h) fun z v e0 e r=>?_;refine oze (hloc _ (Yy h)) fun d ed=>?_;have ed:a = .d d:=ed;subst ed;exact ⟨z,v,e0,e,VR.sub _ _ hsub d v r⟩
   len:=rfl
   nd:=.nil
   fr:=fun u h=>nomatch h
   own:=fun u u u h=>nomatch h
   stk:=rfl
   cel:=fun u u h=>by rw [hcel] at h;exact nomatch h
   apart:=fun b hb=>by obtain rfl:=YY hb;exact W.apart _ (.head _)
   pin:=fun q hq=>by rw [hpin] at hq;exact nomatch hq}
 have W2:=W1.at_g.hide (hs:=Zo s'.heap L) fun q hq'=>by
  refine oza (Zj hq') fun h1 h2=>?_;exact ⟨h2,(l1 _ h1).2.1,hg1 _ h1⟩
 refine ⟨a,need,some gi,[],_,_,_,L,g',_,rfl,hneed,GFeed.gen c.hh (by exact Ku (Ko _ _) (by assumption)) ht,⟨hgen,fun b hb'=>⟨(l1 b hb').1,(l1 b hb').2.2.1⟩,g',.fresh code,Sub.refl _,hgs,fun F'' s'' g'' X=>hrun F'' s'' g'' X⟩,W.g0.trans hsub,fun q hq' z=>?_,fun j e=>by obtain rfl:=Kc e;exact hgi,⟨g',[],m,W2⟩,rfl,rfl,rfl⟩;exact (l1 _ z).2.2.2 q (Kg _ hq') rfl
end
noncomputable def Y0 (q:Str×Bool):D:=.tuple [.str q.1,.bool q.2]
theorem Zlf {p:Program}{w:World}(hk:∀b o,g.get? b=some o→b≠a₀→g'.get? b=some o) (ha:IsLst g a₀ us):∀{qs:List (Str×Bool)}{vs:Qo},VRs p w g (qs.map Y0) vs→VRs p w g' (qs.map Y0) vs:=by
 intro qs;induction qs with
 | nil=>intro vs h;exact h
 | cons q qs ih =>
  intro vs h;refine Zc h fun v r e h1 h2=>?_;refine ⟨v,r,e,?_,ih h2⟩;refine Zc h1 fun a us2 e1 ht hr=>?_;refine ⟨a,us2,e1,?_,?_⟩
  ·refine Zt ht fun o ho hc hd=>?_;refine ⟨o,hk _ _ ho fun z=>?_,hc,hd⟩;subst z;refine oze ha fun n e=>?_;rw [ho] at e;obtain rfl:=Kc e
   injection hc with z
   exact absurd z (by decide)
  ·refine Zc hr fun v1 r1 e1 h1 h2=>?_;refine Zc h2 fun v2 r2 e2 h3 h4=>?_;exact ⟨v1,r1,e1,h1,v2,r2,e2,h3,h4⟩
theorem ZlQ {l:Qc}{n:Nat}{qs:List (Str×Bool)}{jx:Nat}{px2 lp rp:Pos}{e:Expr}{r:Qs}
 (hreg:∀rg∈c.G.reg,Zjt rg) (hcel:c.cel=[]) (hloc:∀q∈l,∃d,q.2 = .d d) (hql:qs.length≤1000) (K:∀c1:Cx,c1.cel=c.cel→CompOK c1 scope celA) (hx:∀c1 c2,CompFr c1 c2 scope (Yu scope celA 0)→IsL c2 x jx)
 (h:∀c1:Cx,c1.G={c.G with fin:=Xj a₀ N}→c1.env=c.env→c1.tab=c.tab→c1.cel=c.cel→c1.fuel=c.fuel→EJ c1 oe ⟨l,[.ask a₀ n],[]⟩ fun st1=>MJ c1 name st1 fun m st2=>GJ c1 (e::r) st2 fun st3=>GenCallO c1 (m+(e::r).length) l [.ask a₀ n] (qs.map Y0) st3)
 (ht:∀it v,letOwnedTupleGo (.Name x px) it v=pure ()) (hf:∀v,foldedSetIterable (.Call (.Attribute oe name apos) (e::r) [] pos) c.env v=pure v)
 (hb:Xs oe=false:=by rfl) (hs:Zy (e::r)=true:=by rfl) (hn:decide ((e::r).length<30)=true:=by rfl) (hl:(apos.endLine==pos.line)=true:=by rfl) :
 XJ c [.Return (some (.ListComp (.Name x px2) [⟨.Name x px,.Call (.Attribute oe name apos) (e::r) [] pos,[],0⟩] scope lp)) rp] ⟨l,[.ask a₀ n],[]⟩ (Zh8 fun a o=>a = .d (.list (qs.map Y0))∧∃n',n'≤N∧o=[.ask a₀ n']):=by
 refine ZO fun F vs s R=>wpAny_Return_some (ozr R fun g ρ m W=>?_);obtain rfl:vs=[]:=W.stk;refine oze (List.length_eq_one_iff.mp (show ρ.length=1 from W.len)) fun a zo1=>?_;subst zo1;obtain rfl:a=a₀:=(W.own 0 _ a rfl rfl).1
 have W1:RSW {c with G:={c.G with fin:=Xj a N}} {F with g₀:=g,pin:=[]} ⟨l,[.ask a n],[]⟩ [] s g [a] m :=
  {base:=W.base,g0:=Sub.refl _,keep:=W.keep,reg:=W.reg,hid:=W.hid,gens:=W.gens,bare:=W.bare,os:=W.os,ns:=W.ns,nl:=W.nl,loc:=W.loc,len:=W.len,nd:=W.nd,fr:=W.fr,own:=W.own,stk:=W.stk,cel:=W.cel,apart:=W.apart,pin:=fun q hq=>nomatch hq}
 generalize hc:({c with G:={c.G with fin:=Xj a N}}:Cx)=c1 at W1;have cG:c1.G={c.G with fin:=Xj a N}:=by exact hc▸rfl
 have cE:c1.env=c.env:=by exact hc▸rfl
 have cT:c1.tab=c.tab:=by exact hc▸rfl
 have cC:c1.cel=c.cel:=by exact hc▸rfl
 have cF:c1.fuel=c.fuel:=by exact hc▸rfl
 have cA:c1.A=c.A:=by exact hc▸rfl
 have hfin:c1.G.fin=Xj a N:=by exact congrArg _ cG
 have cM:model c1.p c1.w=model c.p c.w:=by exact hc▸rfl
 rw [←cM,←cA,←cE,eval_ListComp];refine ZbS (F:={F with g₀:=g,pin:=[]}) (Z:=Xj a N) (use:=none) Zp7 (K c1 cC) (by rw [cE];exact hf) (Q:=fun st=>∃tail,st=⟨l,.list ((qs.map Y0).map .d)::tail,[.own 0]⟩) (wpm (Zng rfl (cC.trans hcel) hloc (h c1 cG cE cT cC cF) ⟨_,_,_,W1⟩ ht hb hs hn hl) fun v s1 z=>Kb z (fun itv s2 z=>?_) fun j j x=>x) ⟨_,_,_,W1⟩ fun gz D C s' st' mC lo hz hfz hQ hn hC hd zw=>ozr zw fun g5 ρ5 m5 W5=>⟨mC,hn,fun h' hs'=>?_⟩
 ·obtain ⟨it,need,gi,pn,xs,ok,Si,wr,gk,st2,e1,e2,e3,e4,e5,e6,e7,e8,q1,q2,q3⟩:=z;subst q1 q2 q3;refine ⟨it,need,gi,pn,_,_,Si,wr,gk,_,e1,e2,hfin▸e3,e4,e5,e6,e7,e8,fun c2 H=>?_⟩;exact Zfm (Zjj (own:=[.list []]++List.replicate (Yb scope.names) (.cell none)) (hx _ _ H) (Nat.succ_pos _) (by rw [Qw];lia) fun l2=>⟨_,rfl⟩)
 ·refine oze hQ fun tail zo2=>?_;subst zo2
  have W6:RSW c1 {F with g₀:=gz,pin:=[]} ⟨l,.list ((qs.map Y0).map .d)::tail,[.own 0]⟩ [.ref D] {s' with heap:=h'} g5 ρ5 m5 :=
   RSW.rehide (F:={F with g₀:=gz,pin:=[]}) (g₁:=gz) (hs:=[(C,lo)]) (hs':=[]) W5 (fun q hq z=>hd q hq (by simpa using z)) (h':=h') (t:=s'.toks) (fun b o hb e=>(hs'.2 b (by simpa using hb)).trans e) (fun j h=>nomatch h)
  have hlo:c1.env.locals=c.env.locals:=by rw [cE]
  have hreq:c1.G.reg=c.G.reg:=by rw [cG]
  refine Z8 hfz fun n' us' hn' hav hlen hall=>?_;have ha5:IsLst g5 a us':=hav.sub W6.g0;refine Za (Zd W6.stk) fun b hb eb=>?_;obtain rfl:D=b:=by injection eb
  have hDm:=Kj hb;refine Za (W6.own 0 _ D rfl hb) fun us hus hav2=>?_;have hv5:VRs c1.p c1.w g5 (qs.map Y0) us:=UG.mp hav2;have hs6:Sub g (PySem.W.hideAll h' (ZG c.G F (c.env.locals::[a]))):=fun b o e=>Q1 _ (W6.keep _ _ (W6.g0 _ _ (hz _ _ e))) fun hb=>by
   have:=W.nomut b hb;replace this:=e▸this;exact Za3 this
  have hk6:∀b o,g5.get? b=some o→b≠a→(PySem.W.hideAll h' (ZG c.G F (c.env.locals::[a]))).get? b=some o:=fun b o e hb=>Q1 _ (W6.keep _ _ e) fun hm=>by
   refine (ZL hm).elim (fun hm=>?_) fun hm=>?_
   ·refine (ZH hm).elim (fun hm=>?_) fun hm=>hb (YY hm)
    have:=W6.nl;rw [hlo,←hm,e] at this;exact Za3 this
   ·have:=W6.toHS.nomut b (by unfold ZG;exact hreq▸hm);replace this:=e▸this;exact Za3 this
  have hDa:D≠a:=fun z=>by
   refine oze ha5 fun q hq=>?_
   have:=(W6.fr D hDm).1;rw [z,hq] at this;exact Za3 this
  have hDg:(PySem.W.hideAll h' (ZG c.G F (c.env.locals::[a]))).get? D=h'.get? D:=by
   refine oze hus fun q hq=>?_;refine (Q1 _ hq fun hm=>?_).trans hq.symm;refine (ZL hm).elim (fun hm=>?_) fun hm=>?_
   ·exact (ZH hm).elim (fun hm=>(W6.fr D hDm).2 (hm.trans hlo.symm)) fun hm=>hDa (YY hm)
   ·refine (ZL hm).elim (fun z=>?_) fun z=>?_
    ·exact Za (Yh z) fun rg hr e=>(W6.apart D (.tail _ hDm)).1 rg (hreq▸hr) e.symm
    ·exact Za (Yh z) fun q hq e=>(W6.apart D (.tail _ hDm)).2 q hq e.symm
  have hp:c1.p=c.p:=by rw [←hc]
  have hw:c1.w=c.w:=by rw [←hc]
  rw [hp,hw] at hv5;refine ⟨⟨[],[.ask a n'],[.d (.list (qs.map Y0))]⟩,⟨PySem.W.hideAll h' (ZG c.G F (c.env.locals::[a])),[a],m5,?_⟩,_,rfl,rfl,n',hn',rfl⟩
  exact {
   base:=c.G.lib.mono _ _ hs6 W.base
   g0:=W.g0.trans hs6
   keep:=fun j j e=>PySem.W.of_hideAll _ e
   reg:=fun rg hr=>⟨Ra _ (Xq hr),by refine YK (W6.reg rg (hreq▸hr)) fun j o h1 h2=>?_;exact ⟨o,h1,hreg rg hr _ _ _ (fun b ob vs e1 e2=>hk6 b ob e1 fun z=>by subst z;refine oze ha5 fun q hq=>?_;replace hq:=e1▸hq;obtain rfl:=Kc hq;exact nomatch e2) h2⟩⟩
   hid:=fun q hq=>⟨(W6.hid q hq).1,Ra _ (YO hq),(W.hid q hq).2.2⟩
   gens:=W6.gens,bare:=W6.bare,os:=W6.os
   ns:=by have:=W6.ns;rwa [hlo] at this
   nl:=Ra _ (ZD (.head _))
   loc:=fun j j h=>nomatch h
   len:=rfl
   nd:=W.nd
   fr:=fun b hb=>⟨Ra _ (ZD (.tail _ hb)),(W.fr b hb).2⟩
   own:=fun i o b h1 h2=>by
    induction i using Nat.casesOn with
    | zero =>
     obtain rfl:=Kc h1;obtain rfl:=Kc h2;exact ⟨rfl,us',(ha5.sub W6.keep),hlen,hall⟩
    | succ i=>exact nomatch h1
   stk:=Zh (a:=.d (.list (qs.map Y0))) ⟨D,us,rfl,(by refine oze hus fun q hq=>?_;exact IsLst.fl ⟨q,hDg.trans hq⟩),Zlf hk6 ha5 hv5⟩ rfl
   cel:=fun j j h=>by replace h:=hcel▸h;exact nomatch h
   apart:=W.apart
   pin:=W.pin}
end
section
noncomputable def Uw (P:Addr) (pos:Pos) (q:Str):Reg:=⟨P,fun g o=>∃ps,o={cls:=.none,data:=.fields ps}∧TriplesOk ps.toList∧∀cv,codeAmong pos ps.toList=some cv→g.CodeRec cv q,
 fun j j j x h=>by refine Zt h fun ps h1 h2 h3=>?_;exact ⟨ps,h1,h2,fun cv e=>(h3 cv e).keeps x⟩⟩
theorem Zin {P:Addr}:Zjt (Uw P pos q):=fun g g' o hk h=>by
 refine Zt h fun ps h1 h2 h3=>?_;refine ⟨ps,h1,h2,fun cv e=>?_⟩;refine ZcT (h3 cv e) fun c ob vs t e1 e2 e3 e4=>?_;exact ⟨c,ob,vs,t,e1,hk _ _ _ e2 e3,e3,e4⟩
section
variable {A:Around}{s:Shared}
def ZfL (g:Heap) (n:Nat) (h':Heap) (cv:Value) (q:Str):Prop:=∀g',Sub g g'→(∀b o,n≤b→h'.get? b=some o→g'.get? b=some o)→g'.CodeRec cv q
theorem Zcw {c P:Addr}{fl:Nat}{params:Arguments}{body:FuncBody}{Q:Qj}(hc:env.code = .ref c) (hok:s.heap.IsCode c P ps) (ht:s.heap.TableAt c P ps) (htr:TriplesOk ps.toList)
 (hr:∀cv,codeAmong pos ps.toList=some cv→g.CodeRec cv q) (hgs:Sub g s.heap)
 (hQ:∀cv h' tk ps',Heap.ExtBut P s.heap h'→h'.TableAt c P ps'→TriplesOk ps'.toList→h'.CodeRec cv q→ZfL g s.heap.objs.size h' cv q→(∀cv',codeAmong pos ps'.toList=some cv'→ZfL g s.heap.objs.size h' cv' q)→Q cv {s with heap:=h',toks:=tk}):wpAny M A (functionCode env pos fl name q params scope body) Q E s:=by
 induction hnf:codeAmong pos ps.toList with
 | some cv=>exact wpAny_functionCode_hit hc hok hnf (hQ cv s.heap s.toks ps (Heap.ExtBut.refl _ _) ht htr ((hr cv hnf).keeps hgs) (fun g' x j=>(hr cv hnf).keeps x) fun cv' e g' x j=>(hr cv' e).keeps x)
 | none =>
  exact wpAny_functionCodeX hc hok ht hnf fun c' h' tk x1 hc' j x2 x3 x4 j=>by
   have rc:ZfL g s.heap.objs.size h' (.ref c') q:=fun g' j y=>by
    refine ZcT x3 fun c2 ob vs t e1 e2 e3 e4=>?_;obtain rfl:c'=c2:=by injection e1
    exact ⟨c',ob,vs,t,rfl,y _ _ hc' e2,e3,e4⟩
   exact hQ _ h' tk _ x1 x4 (by rw [Array.toList_append];exact TriplesOk_snoc _ _ _ _ htr) x3 rc fun cv' e=>Kc ((codeAmong_snoc _ htr hnf).symm.trans (by rw [←Array.toList_append];exact e))▸rc
noncomputable def Y9 (name q:Str) (params:Arguments) (body:Qr) (scope:Scope) (cl:Qm) (ct cv pm:Value):FuncData :=
 {name,qualname:=q,params,body:=.stmts body,scope,globals:=mainGlobals,closure:=cl,closureTuple:=ct,code:=cv,builtins:=builtinsNs,defaults:=.none,kwdefaults:=.none,pyModule:=pm}
theorem Zld {params:Arguments}{mg:Qk}{c P bm:Addr}{ob:Obj}{fl:Nat}{cl:Qm}{Q:Qj}
 (hcl:closureFor scope env=pure cl) (hne:cl.isEmpty=false) (hdoc:docOf body=none) (hg:s.heap.Ns env.globals mg) (hglob:env.globals=mainGlobals) (hgP:env.globals≠P) (hcode:env.code = .ref c) (hok:s.heap.IsCode c P ps) (ht:s.heap.TableAt c P ps) (htr:TriplesOk ps.toList)
 (hr:∀cv,codeAmong pos ps.toList=some cv→g.CodeRec cv q) (hgs:Sub g s.heap) (b1:mg "__builtins__"=some (.ref bm)) (b2:bm≠builtinsNs) (b3:bm≠P) (b4:s.heap.get? bm=some ob) (b5:ob.cls = .type "module") (b6:ob.dict=some builtinsNs) (b7:ob.data = .plain)
 (h:∀ct cv h' tk ps',Heap.ExtBut P s.heap h'→h'.TableAt c P ps'→TriplesOk ps'.toList→ZfL g s.heap.objs.size h' cv q→(∀cv',codeAmong pos ps'.toList=some cv'→ZfL g s.heap.objs.size h' cv' q) →
  Q (.ref h'.objs.size) {s with heap:=h'.push {cls:=.type "function",data:=.func (Y9 name q params body scope cl ct cv ((mg "__name__").getD .none))},toks:=tk}) :
 wpAny M A (makeFunction name q params (.stmts body) scope env [] [] [] pos fl) Q E s:=by
 simp only [makeFunction,List.zip_nil_right,List.filterMap_nil,List.isEmpty_nil,if_true,pure_bind,hcl,hdoc,hne,Bool.false_eq_true,if_false];refine Kd (wpAny_newTextTuple ?_);have pu:Sub s.heap (s.heap.push {cls:=.type "tuple",data:=.seq ((cl.mergeSort fun a b=>a.1.cps.toList≤b.1.cps.toList).map (.ref ·.2)).toArray}):=Sub.push _ _;refine Kd (Zcw (s:={s with heap:=_}) hcode (hok.keeps pu) ⟨(ht.1.elim fun o z=>z.elim fun vs z=>⟨o,vs,pu _ _ z.1,z.2⟩),pu _ _ ht.2⟩ htr hr (hgs.trans pu) fun cv h' tk ps' x1 x2 x3 j x4 x5=>?_);have hx:Heap.ExtBut P s.heap h':=fun b o hb e=>x1 b o hb (pu _ _ e);have hg':=hg.extBut hx hgP;refine Kd (wpAny_builtinsFor hg' b1 b2 (hx _ _ b3 b4) b5 b6 b7 ?_);refine Kd (wpAny_nsGet hg' ?_);simp only [newObj];rw [hglob];have up:∀{cv'},ZfL g (s.heap.push {cls:=.type "tuple",data:=.seq ((cl.mergeSort fun a b=>a.1.cps.toList≤b.1.cps.toList).map (.ref ·.2)).toArray}).objs.size h' cv' q→ZfL g s.heap.objs.size h' cv' q:=fun z g' y1 y2=>z g' y1 fun b o hb e=>y2 b o (Kr (by rw [Heap.size_push];exact Nat.le_succ _) hb) e;exact Kd (wpAny_alloc (Ki (h _ cv h' tk ps' hx x2 x3 (up x4) fun cv' e=>up (x5 cv' e))))
end
section
variable {l:Qc}{s:Shared}{m:Qk}
theorem ZmP (W:RSW c F ⟨l,o,[]⟩ [] s g ρ m) (GK:GenOk c.G K){P:Addr}(hP:Uw P pos q∈c.G.reg) (huni:∀r∈c.G.reg,r.at_=P→r=Uw P pos q) (hcode:c.env.code = .ref cda) (htab:XQ K cda P=true) (hne:cda≠P)
 {name:Str} {params:Arguments} {body:Qr} {scope:Scope} {fl:Nat} {cl:Qm} (hcl:closureFor scope c.env=pure cl) (hcne:cl.isEmpty=false) (hdoc:docOf body=none) :
 wpAny (model c.p c.w) c.A (makeFunction name q params (.stmts body) scope c.env [] [] [] pos fl) (fun v s1=>∃fD ct cv pm g1,v = .ref fD∧RSW c F ⟨l,o,[]⟩ [] s1 g1 ρ m∧Sub g g1∧g1.get? fD=some {cls:=.type "function",data:=.func (Y9 name q params body scope cl ct cv pm)}∧g1.CodeRec cv q) NoE s:=by
 have X1:=GK.K _ (c.G.lib.mono _ _ W.keep W.base);refine YK (W.reg _ hP) fun gP op hop zw=>?_;refine Zt zw fun ps hps htr hr=>?_;obtain ⟨mm,bm,bo,b1,b2,b3,b4,b5,b6,b7⟩:=GK.bm _ W.base;have hgp:∀b ob,g.get? b=some ob→b≠P:=fun b ob e z=>by subst z;replace e:=(show g.get? b=none from gP)▸e;exact Zp e
 have hgl:c.env.globals≠P:=by
  refine c.hg▸(ZS b1 fun ob j j e j=>?_);exact hgp _ _ e
 refine Zld (g:=g) hcl hcne hdoc (by rw [c.hg];exact b1.keeps W.keep) c.hg hgl hcode (ZcA X1 htab hop (by rw [hps]) htr hne) (XM X1 htab (hps▸hop)) htr hr W.keep b2 b3 (hgp _ _ b4) (W.keep _ _ b4) b5 b6 b7 fun ct cv h' tk ps' x1 x2 x3 x4 x5=>?_;have hPm:∀b∈c.env.locals::ρ,b≠P:=fun b hb=>(W.apart b hb).1 _ hP;have kp:∀b ob,s.heap.get? b=some ob→b≠P→(h'.push {cls:=.type "function",data:=.func (Y9 name q params body scope cl ct cv ((mm "__name__").getD .none))}).get? b=some ob:=fun b ob e hb=>Kn _ (x1 b ob hb e);have lt:∀b∈ZG c.G F (c.env.locals::ρ),b<s.heap.objs.size:=fun b hb=>(W.thereM b hb).elim fun j e=>Kk e;have hsz:∀b∈ZG c.G F (c.env.locals::ρ),b≠h'.objs.size:=fun b hb z=>by
  by_cases hbP:b=P
  ·subst hbP;subst z;exact absurd (Kk x2.2) (Rn _)
  ·refine oze (W.thereM b hb) fun ob e=>?_
   have:=Kk (x1 b ob hbP e);replace this:=z▸this;exact absurd this (Rn _)
 have hs1:Sub g (PySem.W.hideAll (h'.push {cls:=.type "function",data:=.func (Y9 name q params body scope cl ct cv ((mm "__name__").getD .none))}) (ZG c.G F (c.env.locals::ρ))):=fun b ob e=>Q1 _ (kp b ob (W.keep _ _ e) (hgp b ob e)) fun hb=>by
  have:=W.nomut b hb;replace this:=e▸this;exact Za3 this
 have hfr:∀b ob,s.heap.objs.size≤b→h'.get? b=some ob→(PySem.W.hideAll (h'.push {cls:=.type "function",data:=.func (Y9 name q params body scope cl ct cv ((mm "__name__").getD .none))}) (ZG c.G F (c.env.locals::ρ))).get? b=some ob:=fun b ob hb e=>Q1 _ (Kn _ e) fun hm=>absurd (lt b hm) (Za7 hb);refine ⟨h'.objs.size,ct,cv,_,_,rfl,W.onto ?_ hs1 (fun b hb=>Ra _ (ZD hb)) fun b hb ob e=>kp b ob e (hPm b hb),hs1,Q1 _ (Kh _ rfl) fun hm=>hsz _ hm rfl,x4 _ hs1 hfr⟩
 exact {
  base:=c.G.lib.mono _ _ hs1 W.base
  g0:=W.g0.trans hs1
  keep:=fun j j e=>PySem.W.of_hideAll _ e
  reg:=fun r hr=>⟨Ra _ (Xq hr),by
   by_cases hq:r.at_=P
   ·have e:=huni r hr hq;subst e;exact ⟨_,Kn _ x2.2,ps',rfl,x3,fun cv' e=>x5 cv' e _ hs1 hfr⟩
   ·refine YK (W.reg r hr) fun j ob h1 h2=>?_;exact ⟨ob,kp _ _ h1 hq,r.mono _ _ _ hs1 h2⟩⟩
  hid:=fun q hq=>⟨kp _ _ (W.hid q hq).1 ((W.hid q hq).2.2 _ hP),Ra _ (YO hq),(W.hid q hq).2.2⟩
  gens:=W.gens,bare:=W.bare,os:=W.os}
end
end
section
structure DigG (G:Gx) (fD a5 a6 aL:Addr) (vh:Value) (fd:FuncData) (es:Qd):Prop where
 fn:∀h,G.lib.B h→h.get? fD=some {cls:=.type "function",data:=.func fd}∧h.CodeRec fd.code fd.qualname
 k5:∀h,G.lib.B h→∃ob,h.get? a5=some ob∧ob.data = .cell (some (.ref aL))
 k6:∀h,G.lib.B h→∃ob,h.get? a6=some ob∧ob.data = .cell (some vh)
 vr:∀h,G.lib.B h→VR G.p G.w h (.dict es) vh
noncomputable def ZlG (G:Gx) (fD a5 a6:Addr) (v5 vh:Value) (fd:FuncData) (es:Qd):Lib where
 B h:=G.lib.B h∧(h.get? fD=some {cls:=.type "function",data:=.func fd}∧h.CodeRec fd.code fd.qualname)∧(∃ob,h.get? a5=some ob∧ob.data = .cell (some v5))∧(∃ob,h.get? a6=some ob∧ob.data = .cell (some vh))∧VR G.p G.w h (.dict es) vh
 mono _ _ x h:=⟨G.lib.mono _ _ x h.1,⟨x _ _ h.2.1.1,h.2.1.2.keeps x⟩,h.2.2.1.elim fun o z=>⟨o,x _ _ z.1,z.2⟩,h.2.2.2.1.elim fun o z=>⟨o,x _ _ z.1,z.2⟩,VR.sub _ _ x _ _ h.2.2.2.2⟩
 nolimit _ h:=G.lib.nolimit _ h.1
 low _ h:=G.lib.low _ h.1
def Zhu (x:O):Prop:=x = .cell none∨∃d,x = .cell (some (.d d))
theorem ZjY {p:Program}{w:World}{h:Heap}{ρ':Qp}{x:O}{a:Addr}(hx:Zhu x) (hs:Sub g g') (H:OAt p w g ρ h x a):OAt p w g' ρ' h x a:=by
 rcases hx with rfl | ⟨d,rfl⟩
 ·exact H
 ·obtain ⟨v,o,h1,h2,u,h3,h4⟩:=H;exact ⟨v,o,h1,h2,u,h3,VR.sub _ _ hs d u h4⟩
noncomputable def bOf:D→Option Bool
 | .bool b=>some b
 | _=>none
theorem ZqS {d:D}{b:Bool}(hf:Frz own m a d):bOf d=some b→a = .d d :=
 Frz.casesOn (motive_1:=fun a d j=>bOf d=some b→a = .d d) hf (fun j j=>rfl) (fun j j j e=>Zp e) (fun j j j e=>Zp e) (fun j j j j j e=>Zp e)
theorem ZqD {l:Qc}{pre:Qg}{id:Nat}{b0:Option A}{ca ch nm:Str}{P:Addr}{params:Arguments}{cl2:List (Str×Nat)}{rest:Qr}
 (GK:GenOk c.G K) (hP:Uw P pos q∈c.G.reg) (huni:∀r∈c.G.reg,r.at_=P→r=Uw P pos q) (hcode:c.env.code = .ref cda) (htab:XQ K cda P=true) (hne:cda≠P) (hthaw:∀r∈c.G.reg,Zjt r)
 (hexec:PlainDefTree nm params body scope pos) (hq:qualnameIn c.env nm nm=q) (hdoc:docOf body=none) (hfree:∀x,(x,NameKind.free)∈scope.names→x=ca∨x=ch) (hfa:(ca,NameKind.free)∈scope.names) (hfh:(ch,NameKind.free)∈scope.names)
 (hca:(ca,pre.length)∈c.cel) (hch:(ch,pre.length+1)∈c.cel) (hcd:IsC c nm id) (hkd:c.env.kindOf nm=some .cell) (hpre:∀x∈pre,Zhu x) (hid:pre[id]?=some (.cell b0)) (hc2:∀q∈cl2,q∈c.cel∧q.2<pre.length) (hloc:∀q∈l,∃d,q.2 = .d d)
 (h:∀(c2:Cx) (fD a5 a6 aL:Addr) (vh ct cv pm:Value) (cl:Qm),c2.env=c.env→c2.tab=c.tab→c2.cel=cl2→c2.fuel=c.fuel→c2.G.p=c.G.p→c2.G.w=c.G.w→c2.G.reg=c.G.reg→c2.G.fin=c.G.fin→(∀g,c2.G.lib.B g→c.G.lib.B g) →
  DigG c2.G fD a5 a6 aL vh (Y9 nm q params body scope cl ct cv pm) es→c.env.cells.lookup ca=some a5→c.env.cells.lookup ch=some a6→cl.lookup ca=some a5→cl.lookup ch=some a6 →
  XJ c2 rest ⟨l,pre.set id (.cell (some (.d (.val (.ref fD)))))++[.ask aL 0],[]⟩ (Ret fun d=>d = .bool true)) :
 XJ c (.FunctionDef nm params body [] none [] scope none nm pos::rest) ⟨l,pre++[.cell (some (.own (pre.length+2))),.cell (some (.d (.dict es))),.list []],[]⟩ (Ret fun d=>d = .bool true):=fun F vs s R=>ozr R fun g ρ m W=>by
 obtain rfl:vs=[]:=W.stk;refine Za (W.cel ca _ hca) fun a5' u l5=>?_;refine Za (W.cel ch _ hch) fun a6' u l6=>?_;refine Za (ZbV scope c.env fun x hx=>(hfree x hx).elim (fun e=>⟨a5',e▸l5⟩) fun e=>⟨a6',e▸l6⟩) fun cl hcl hlk=>?_;have hcne:cl.isEmpty=false:=by
  have:=hlk ca hfa;rw [l5] at this;induction cl using LLc with
  | nil=>exact Zp this
  | cons _ _=>rfl
 refine wpAny_execs_cons ?_;rw [hexec,hq];refine Kd (Rq (Kd (Rs (wpm (ZmP W GK hP huni hcode htab hne hcl hcne hdoc) fun v s1 z=>?_))));obtain ⟨fD,ct,cv,pm,g1,rfl,W1,x1,hfn,hrec⟩:=z;refine Kd (Rq (Kd (wpAny_bindName ?_)));have hil:id<pre.length:=(ZB hid).1;refine wpm ((Zkl (l:=l) (o:=pre++[.cell (some (.own (pre.length+2))),.cell (some (.d (.dict es))),.list []]) (k:=[]) (a:=.d (.val (.ref fD))) (Q:=fun st=>st=⟨l,pre.set id (.cell (some (.d (.val (.ref fD)))))++[.cell (some (.own (pre.length+2))),.cell (some (.d (.dict es))),.list []],[]⟩) hkd hcd (by rw [Kl hil];exact hid) (by rw [List.set_append_left _ _ hil])) {F with g₀:=g1} (.ref fD) [] s1 ⟨g1,ρ,m,W1.at_g.push XY⟩) fun u s3 z=>ozg z fun st3 R3 e3=>ozr R3 fun g3 ρ3 m3 W3=>?_;subst e3;refine Ki ?_;generalize hpre':pre.set id (.cell (some (.d (.val (.ref fD)))))=pre' at W3;have hpl:pre'.length=pre.length:=by rw [←hpre',Q8]
 have hpre2:∀x∈pre',Zhu x:=fun x hx=>by
  rw [←hpre'] at hx;exact (List.mem_or_eq_of_mem_set hx).elim (hpre x) fun e=>.inr ⟨_,e⟩
 have h3l:ρ3.length=pre.length+3:=by rw [W3.len,Qu,hpl];rfl
 refine Za (W3.cel ca _ hca) fun a5 p5 q5=>?_;refine Za (W3.cel ch _ hch) fun a6 p6 q6=>?_;obtain ⟨aL,pL⟩:∃a,ρ3[pre.length+2]?=some a:=⟨_,Ke (h3l▸Nat.lt_succ_self _)⟩;have o5:(pre'++[.cell (some (.own (pre.length+2))),.cell (some (.d (.dict es))),.list []]:Qg)[pre.length]?=some (.cell (some (.own (pre.length+2)))):=by rw [←hpl,Km (Kq _),Rp];rfl
 have o6:(pre'++[.cell (some (.own (pre.length+2))),.cell (some (.d (.dict es))),.list []]:Qg)[pre.length+1]?=some (.cell (some (.d (.dict es)))):=by rw [←hpl,Km (Ko _ _),Q6];rfl
 have oL:(pre'++[.cell (some (.own (pre.length+2))),.cell (some (.d (.dict es))),.list []]:Qg)[pre.length+2]?=some (.list []):=by rw [←hpl,Km (Ko _ _),Q6];rfl
 obtain ⟨w5,b5,e5,d5,u5,rfl,r5⟩:=W3.own _ _ a5 o5 p5;obtain ⟨w6,b6,e6,d6,vh,rfl,r6⟩:=W3.own _ _ a6 o6 p6;refine Za r5 fun aL' pL' zo4=>?_;subst zo4;obtain rfl:aL=aL':=Kc (pL.symm.trans pL');refine Za (W3.own _ _ aL oL pL) fun usL hL zo5=>?_;subst zo5;have inj:∀{i j:Nat} {a b:Addr},ρ3[i]?=some a→ρ3[j]?=some b→a=b→i=j:=fun {i j a b} h1 h2 e=>by
  refine oze (ZB h1) fun i1 i2=>?_;refine oze (ZB h2) fun j1 j2=>?_;exact YC W3.nd i1 j1 (i2.trans (e.trans j2.symm))
 have htl:(ρ3.take pre.length).length=pre.length:=by rw [List.length_take,h3l];exact Rz (Ko _ _)
 have ntake:∀{j:Nat} {a:Addr},ρ3[j]?=some a→pre.length≤j→a∉ρ3.take pre.length:=fun {j a} hj hle hm=>by
  refine oze (ZdV hm) fun i hi=>?_;have hil2:i<pre.length:=htl▸(ZB hi).1;replace hi:=(List.getElem?_take_of_lt hil2)▸hi;exact Nat.not_le.mpr hil2 (inj hi hj rfl▸hle)
 have hρ2:∀b∈ρ3.take pre.length++[aL],b∈ρ3:=fun b hb=>(ZL hb).elim (fun hb=>List.mem_of_mem_take hb) fun hb=>(YY hb)▸(Kj pL);have nn:∀{j:Nat} {a:Addr},ρ3[j]?=some a→pre.length≤j→j≠pre.length+2→a∉ρ3.take pre.length++[aL]:=fun hj hle hne hm=>(ZL hm).elim (ntake hj hle) fun hm=>hne (inj hj pL (YY hm));have l5:(ρ3.take pre.length++[aL]).length=pre.length+1:=by rw [Qu,htl];rfl
 have get2:∀{i:Nat},i<pre.length→(ρ3.take pre.length++[aL])[i]?=ρ3[i]?:=fun {i} hlt=>by
  rw [Kl (htl.symm▸hlt),List.getElem?_take_of_lt hlt]
 have getL:(ρ3.take pre.length++[aL])[pre.length]?=some aL:=by rw [Km (Nat.le_of_eq htl),htl,Rp];rfl
 have nd5:(ρ3.take pre.length++[aL]).Nodup:=List.nodup_append.mpr ⟨W3.nd.sublist (List.take_sublist _ _),by simp,fun x hx y hy e=>ntake pL (Ko _ _) ((YY hy)▸e▸hx)⟩;clear ntake htl;generalize ρ3.take pre.length++[aL]=ρ5 at hρ2 nn l5 get2 getL nd5;have nk:∀{j:Nat} {a:Addr},ρ3[j]?=some a→pre.length≤j→j≠pre.length+2→a∉ZG c.G F (c.env.locals::ρ5):=fun {j a} hj hle hne hm=>by
  have hm5:=Kj hj;refine (ZL hm).elim (fun hm=>?_) fun hm=>?_
  ·exact (ZH hm).elim (fun e=>(W3.fr a hm5).2 e) (nn hj hle hne)
  ·refine (ZL hm).elim (fun z=>?_) fun z=>?_
   ·exact Za (Yh z) fun rg hr e=>(W3.apart a (.tail _ hm5)).1 rg hr e.symm
   ·exact Za (Yh z) fun q hq e=>(W3.apart a (.tail _ hm5)).2 q hq e.symm
 have sub2:Sub g3 (PySem.W.hideAll s3.heap (ZG c.G F (c.env.locals::ρ5))):=fun b ob e=>Q1 _ (W3.keep _ _ e) fun hm=>by
  have:g3.get? b=none:=W3.nomut b ((ZL hm).elim (fun hm=>Kg _ ((ZH hm).elim (fun e=>e▸.head _) fun hm=>.tail _ (hρ2 b hm))) fun hm=>Kf _ hm);rw [e] at this;exact Za3 this
 have k5:=Q1 _ e5 (nk p5 (Kq _) (Rg (Nat.lt_add_of_pos_right (by decide))));have k6:=Q1 _ e6 (nk p6 (Nat.le_succ _) (Rg (Nat.lt_succ_self _)));have hof:∀b ob,(PySem.W.hideAll s3.heap (ZG c.G F (c.env.locals::ρ5))).get? b=some ob→s3.heap.get? b=some ob:=fun u u e=>PySem.W.of_hideAll _ e;have hno:∀b∈ZG c.G F (c.env.locals::ρ5),(PySem.W.hideAll s3.heap (ZG c.G F (c.env.locals::ρ5))).get? b=none:=fun b hb=>Ra _ hb;clear nk nn;generalize PySem.W.hideAll s3.heap (ZG c.G F (c.env.locals::ρ5))=g5 at sub2 k5 k6 hof hno
 have hB2:(ZlG c.G fD a5 a6 (.ref aL) vh (Y9 nm q params body scope cl ct cv pm) es).B g5 :=
  ⟨c.G.lib.mono _ _ sub2 W3.base,⟨sub2 _ _ (W3.g0 _ _ hfn),(hrec.keeps W3.g0).keeps sub2⟩,⟨b5,k5,d5⟩,⟨b6,k6,d6⟩,VR.sub _ _ sub2 _ _ r6⟩
 have D0:DigG {c.G with lib:=ZlG c.G fD a5 a6 (.ref aL) vh (Y9 nm q params body scope cl ct cv pm) es} fD a5 a6 aL vh (Y9 nm q params body scope cl ct cv pm) es:=⟨fun u h=>h.2.1,fun u h=>h.2.2.1,fun u h=>h.2.2.2.1,fun u h=>h.2.2.2.2⟩;have hlb:∀g,(ZlG c.G fD a5 a6 (.ref aL) vh (Y9 nm q params body scope cl ct cv pm) es).B g→c.G.lib.B g:=fun u h=>h.1;generalize ZlG c.G fD a5 a6 (.ref aL) vh (Y9 nm q params body scope cl ct cv pm) es=lb at hB2 D0 hlb
 have W2:RSW {c with G:={c.G with lib:=lb},cel:=cl2} {F with g₀:=g3,pin:=idx ρ5} ⟨l,pre'++[.ask aL 0],[]⟩ [] s3 g5 ρ5 m3 :=
  {base:=hB2
   g0:=sub2
   keep:=hof
   reg:=fun r hr=>⟨hno _ (Xq hr),(W3.reg r hr).2.elim fun o z=>⟨o,z.1,r.mono _ _ _ sub2 z.2⟩⟩
   hid:=fun q hq=>⟨(W3.hid q hq).1,hno _ (YO hq),(W3.hid q hq).2.2⟩
   gens:=W3.gens,bare:=W3.bare,os:=W3.os,ns:=W3.ns
   nl:=hno _ (ZD (.head _))
   loc:=fun y a ha=>by
    refine Zc (W3.loc y a ha) fun z v e0 e r=>?_;refine oze (hloc _ (Yy ha)) fun d ed=>?_;have ed:a = .d d:=ed;subst ed;exact ⟨z,v,e0,e,VR.sub _ _ sub2 d v r⟩
   len:=by rw [l5,Qu,hpl];rfl
   nd:=nd5
   fr:=fun b hb=>⟨hno _ (ZD (.tail _ hb)),(W3.fr b (hρ2 b hb)).2⟩
   own:=fun i o a h1 h2=>by
    rcases Nat.lt_or_ge i pre.length with hlt | hge
    ·rw [Kl (hpl.symm▸hlt)] at h1;exact ZjY (hpre2 o (Kj h1)) sub2 (W3.own i o a (by rw [Kl (hpl.symm▸hlt)];exact h1) (get2 hlt▸h2))
    ·obtain rfl:i=pre.length:=Nat.le_antisymm (Nat.le_of_lt_succ (nP' l5 (ZB h2).1)) hge;rw [←hpl,Km (Kq _),Rp] at h1;obtain rfl:=Kc h1;obtain rfl:=Kc (getL.symm.trans h2);exact ⟨rfl,[],hL,rfl,fun u h=>nomatch h⟩
   stk:=rfl
   cel:=fun x i hx=>by
    refine oza (hc2 _ hx) fun h1 h2=>?_;refine Za (W3.cel x i h1) fun a e1 e2=>?_;exact ⟨a,(get2 h2).trans e1,e2⟩
   apart:=fun b hb=>W3.apart b ((ZH hb).elim (fun e=>e▸.head _) fun hb=>.tail _ (hρ2 b hb))
   pin:=fun q hq=>Zdi hq}
 have key:=h {c with G:={c.G with lib:=lb},cel:=cl2} fD a5 a6 aL vh ct cv pm cl rfl rfl rfl rfl rfl rfl rfl rfl hlb D0 q5 q6 ((hlk ca hfa).trans q5) ((hlk ch hfh).trans q6) {F with g₀:=g3,pin:=idx ρ5} [] s3 ⟨_,_,_,by rw [hpre'];exact W2⟩;refine Kb key (fun f s' z=>?_) fun u u x=>x;induction f with
 | next=>exact ozg z fun u u e=>Zp (congrArg bOf e)
 | brk=>exact ozg z fun u u e=>e.elim
 | cont=>exact ozg z fun u u e=>e.elim
 | ret v =>
  refine ozg z fun st4 R4 e4=>ozr R4 fun g4 ρ4 m4 W4=>?_;obtain ⟨a,d,hs4,hf,rfl⟩:=e4;have ha:a = .d (.bool true):=ZqS (b:=true) hf rfl;subst ha;have hv:v = .bool true:=by have:=W4.stk;rw [hs4] at this;exact Zd this
  have hB4:=W4.base;have hm3:∀b∈ρ3,b∈ρ5∨b=a5∨b=a6:=fun b hb=>by
   refine oze (ZdV hb) fun i hi=>?_
   have:=(ZB hi).1;rcases Nat.lt_or_ge i pre.length with hlt | hge
   ·exact .inl (Kj ((get2 hlt).trans hi))
   ·rcases Nat.eq_or_lt_of_le hge with rfl | hge
    ·exact .inr (.inl (Kc (hi.symm.trans p5)))
    ·rcases Nat.eq_or_lt_of_le hge with rfl | hge
     ·exact .inr (.inr (Kc (hi.symm.trans p6)))
     ·obtain rfl:=Nat.le_antisymm (Nat.le_of_lt_succ (nP' h3l this)) hge;exact .inl (Kc (hi.symm.trans pL)▸Kj getL)
  have h24:∀b∈ρ5,b∈ρ4:=fun b hb=>(ZdV hb).elim fun i hi=>Kj (W4.pin (i,b) (Un hi));have x5:Sub g3 (PySem.W.hideAll s'.heap (ZG c.G F (c.env.locals::ρ3))):=fun b ob e=>Q1 _ (W4.keep _ _ (W4.g0 _ _ e)) fun hm=>by
   have:g3.get? b=none:=W3.nomut b hm;rw [e] at this;exact Za3 this
  refine ⟨⟨[],List.replicate ρ3.length .dead,[.d (.bool true)]⟩,⟨PySem.W.hideAll s'.heap (ZG c.G F (c.env.locals::ρ3)),ρ3,m4,?_⟩,_,_,rfl,.d _,rfl⟩
  exact {
   base:=c.G.lib.mono _ _ x5 W3.base
   g0:=((W.g0.trans x1).trans W3.g0).trans x5
   keep:=fun u u e=>PySem.W.of_hideAll _ e
   reg:=fun r hr=>⟨Ra _ (Xq hr),by
    refine YK (W4.reg r hr) fun u o h1 h2=>?_;refine ⟨o,h1,hthaw r hr _ _ _ (fun b ob vs e1 e2=>Q1 _ (W4.keep _ _ e1) fun hm=>?_) h2⟩;refine (ZL hm).elim (fun hm=>?_) fun hm=>?_
    ·refine (ZH hm).elim (fun e=>?_) fun hm=>?_
     ·have:=W4.nl;rw [←e,e1] at this;exact Za3 this
     ·rcases hm3 b hm with hm | rfl | rfl
      ·have:=(W4.fr b (h24 b hm)).1;rw [e1] at this;exact Za3 this
      ·refine Za (D0.k5 _ hB4) fun ob' f1 f2=>?_;rw [f1] at e1;obtain rfl:=Kc e1;rw [f2] at e2;exact nomatch e2
      ·refine Za (D0.k6 _ hB4) fun ob' f1 f2=>?_;rw [f1] at e1;obtain rfl:=Kc e1;rw [f2] at e2;exact nomatch e2
    ·have:=W4.toHS.nomut b hm;rw [e1] at this;exact Za3 this⟩
   hid:=fun q hq=>⟨(W4.hid q hq).1,Ra _ (YO hq),(W4.hid q hq).2.2⟩
   gens:=W4.gens,bare:=W4.bare,os:=W4.os,ns:=W4.ns
   nl:=Ra _ (ZD (.head _))
   loc:=fun u u h=>nomatch h
   len:=by rw [List.length_replicate]
   nd:=W3.nd
   fr:=fun b hb=>⟨Ra _ (ZD (.tail _ hb)),(W3.fr b hb).2⟩
   own:=fun i o b h1 h2=>by
    obtain rfl:=(List.mem_replicate.mp (Kj h1)).2;rcases hm3 b (Kj h2) with hm | rfl | rfl
    ·exact W4.there b (.tail _ (h24 b hm))
    ·exact (D0.k5 _ hB4).elim fun ob z=>⟨ob,W4.keep _ _ z.1⟩
    ·exact (D0.k6 _ hB4).elim fun ob z=>⟨ob,W4.keep _ _ z.1⟩
   stk:=Zh (a:=.d (.bool true)) hv rfl
   cel:=W3.cel
   apart:=W3.apart
   pin:=W3.pin}
end
section
noncomputable def ZeG (sc:Scope):Bool:=sc.kind == .function&&(!sc.isCoroutine&&(!sc.isGenerator&&(sc.names.all (fun x=>x.2 != .cell)&&(sc.names.lookup ("data":Str)==some .local&&(sc.names.lookup ("algo":Str)==some .local&&(sc.names.lookup ("asked":Str)==some .free&&(sc.names.lookup ("hashes":Str)==some .free&&(Zg sc==(["data","algo"]:Qq)))))))))
theorem Zi1 {a5 a6:Addr}{vh:Value}{n:Nat}{p:Str}{d:D}{p2 p5 p6 p7 p8 p9 p10 p11 p12:Pos}(X5:FixC c "asked" a5 (.ref aL)) (X6:FixC c "hashes" a6 vh) (hv:∀g,c.G.lib.B g→VR c.p c.w g (.dict es) vh) (L0:IsL c "data" 0) (L1:IsL c "algo" 1) (hp:Dec p) (hpl:p.length≤1000) (hd:Yk p es=some d) (hn:n≤1000000)
 (h2:(p2.endLine==p4.line)=true) (h8:(p8.endLine==p10.line)=true) :
 XJ c [.Expr (.Call (.Attribute (.Name "asked" p1) "append" p2) [.Name "algo" p3] [] p4) p5,.Return (some (.Subscript (.Name "hashes" p6) (.Call (.Attribute (.Name "data" p7) "decode" p8) [.Constant (.str "utf-8") m p9] [] p10) p11)) p12] ⟨[(0,.d (.bytes (WN p))),(1,.d (.str "sha256"))],[.ask aL n],[]⟩ (Zh8 fun r o=>r = .d d∧o=[.ask aL (n+1)]):=by
 refine ZO (ZjA (XV (Zoa (i:=0) X5 rfl (Zr0 rfl (Zq (Ze L1 rfl (Ym (Zq5 (i:=0) rfl hn ?_))) rfl))) rfl rfl rfl h2) (by unfold interactive;rw [c.hk];rfl));refine ZO (ZbP (Zex (Zhn X6 hv (XV (Ze L0 rfl (ZjT (Zq (UD (Ym (Zjh hp hpl (ZdO hd ⟨_,rfl,rfl,rfl⟩ fun j j=>rfl)))) rfl))) rfl rfl rfl h8))))
theorem ZjS {a5 a6:Addr}{vh ct cv pm:Value}{nm:Str}{params:Arguments}{cl:Qm}(X:DigG G fD a5 a6 aL vh (Y9 nm q params body scope cl ct cv pm) es) (h5:cl.lookup ("asked":Str)=some a5) (h6:cl.lookup ("hashes":Str)=some a6)
 (hsc:ZeG scope=true) (hbind:∀(u1 u2:Value) (s:Shared),BindsTo s (Y9 nm q params body scope cl ct cv pm) ⟨[u1,u2],[]⟩ [("data",u1),("algo",u2)]) {m:Nat} {p1 p2 p3 p4 p5 p6 p7 p8 p9 p10 p11 p12:Pos}
 (hbody:body=[.Expr (.Call (.Attribute (.Name "asked" p1) "append" p2) [.Name "algo" p3] [] p4) p5,.Return (some (.Subscript (.Name "hashes" p6) (.Call (.Attribute (.Name "data" p7) "decode" p8) [.Constant (.str "utf-8") m p9] [] p10) p11)) p12]) (h2:(p2.endLine==p4.line)=true) (h8:(p8.endLine==p10.line)=true)
 {n:Nat} {p:Str} {d:D} (hp:Dec p) (hpl:p.length≤1000) (hd:Yk p es=some d) (hn:n≤1000000):OSpecC G (.ref fD) 2 [.ask aL n] [.d (.bytes (WN p)),.d (.str "sha256")] fun r o=>r = .d d∧o=[.ask aL (n+1)]:=fun A F us s g σ hh hdp hu H hv=>by
 have hB:=G.lib.mono _ _ H.keep H.base;refine oza (X.fn _ hB) fun e1 hrec=>?_;unfold ZeG at hsc;simp only [Qz,Q7,Rf] at hsc;obtain ⟨sk,sco,sg,sn,sd,sa,s5,s6,st⟩:=hsc;have hcell:∀x∈scope.names,x.2≠.cell:=fun x hx=>by have:=Zd4 sn x hx;simpa using this
 refine Zc (YF hv) fun u1 u2 zo1 hv1 hv2=>?_;subst zo1;refine codeAny_call_function (by exact Ku (Ko _ _) hdp) e1 rfl sco sg rfl hrec ?_;refine hbind u1 u2 s _ _ _ _ ?_;refine wpAny_newFunctionEnv hcell (fun x hx=>?_) (fun h₀ hns₀ hsb₀=>⟨(G.lib.nolimit _ hB).fresh _ hsb₀,codeAny_func ?_⟩) sk
 ·rcases ZH hx with rfl | hx
  ·exact sd
  ·exact (YY hx)▸sa
 have sub:Sub s.heap h₀:=fun b o e=>hsb₀.extBut b o (Rg (Kk e)) (Kn _ e);refine oze (ZjG (A:=A) (env:=newEnv scope s.heap.objs.size mainGlobals cl (q++".<locals>.") (some fD) cv none builtinsNs) (tab:=Zg scope) (cel:=[]) (need:=1) G (by rw [st];decide) sk rfl rfl hh hdp hu) fun c C=>?_;have key:=ZbI (c:=c) H C.G (by rw [C.env];rfl) (cn:=[]) (C.cel) sub hns₀ (tk:=s.toks+2) (loc':=[(0,.d (.bytes (WN p))),(1,.d (.str "sha256"))]) (own':=[]) (fun i a ha=>?_) rfl (fun j j h=>nomatch h) (fun j j h=>nomatch h)
 ·have hk:∀x,c.env.kindOf x=scope.names.lookup x:=fun x=>by rw [C.env];rfl
  have X5:FixC c "asked" a5 (.ref aL):=⟨.inr ((hk _).trans s5),by rw [C.env];exact h5,by decide,by decide,fun g hg=>X.k5 g (C.G▸hg)⟩;have X6:FixC c "hashes" a6 vh:=⟨.inr ((hk _).trans s6),by rw [C.env];exact h6,by decide,by decide,fun g hg=>X.k6 g (C.G▸hg)⟩;have L0:IsL c "data" 0:=⟨(hk _).trans sd,by rw [C.tab,st];rfl,by decide⟩;have L1:IsL c "algo" 1:=⟨(hk _).trans sa,by rw [C.tab,st];rfl,by decide⟩;have B:=Zi1 (p1:=p1) (p3:=p3) (p5:=p5) (p6:=p6) (p7:=p7) (p9:=p9) (p11:=p11) (p12:=p12) (m:=m) X5 X6 (fun g hg=>by have:=X.vr g (C.G▸hg);unfold Cx.p Cx.w;rw [C.G];exact this) L0 L1 hp hpl hd hn h2 h8 {F with g₀:=g} [] _ key;rw [C.A,C.env,←hbody] at B;unfold Cx.p Cx.w at B;rw [C.G] at B;refine Kb B (fun fl s' hf'=>?_) fun j j x=>False.elim x;induction fl with
  | ret v =>
   obtain ⟨st',R1,a,hs,hR⟩:=hf';refine Wf C.G H.g0 R1 (fun g' ρ' q=>?_) hR;rw [hs] at q;refine Za (Yp q) fun v' e hv'=>?_
   injection e with zi;subst zi
   exact hv'
  | next=>exact ozg hf' fun st' R1 hR=>Wf (a:=.d .none) C.G H.g0 R1 (fun j j j=>rfl) hR
  | brk=>refine ozg hf' fun j j h=>?_;exact h.elim
  | cont=>refine ozg hf' fun j j h=>?_;exact h.elim
 ·unfold Zs at ha;by_cases hi:0=i
  ·rw [if_pos hi] at ha;obtain rfl:=Kc ha;subst hi;exact ⟨"data",u1,by rw [C.tab,st];rfl,rfl,hv1⟩
  ·rw [if_neg hi] at ha;unfold Zs at ha;by_cases hi1:1=i
   ·rw [if_pos hi1] at ha;obtain rfl:=Kc ha;subst hi1;exact ⟨"algo",u2,by rw [C.tab,st];rfl,rfl,hv2⟩
   ·rw [if_neg hi1] at ha;exact Zp ha
end
section
variable {w:World}
theorem ZaM (I:IsX1 G w){t:Int}{p:Str}(hn:ids.Nodup) (hl:ids.length≤100) (ht:1≤t) (h1:1≤b) (hb:b≤32):Zw G (.ref 275) 7 [Zv ids,.int t,.int b,.str p] fun d=>d=Zx ids t b p :=
 Zd8 I.k (Zgy w) (Zem I hn hl ht h1 hb)
theorem ZdR (I:IsX1 G w){t:Int}{p:Str}(hn:ids.Nodup) (hl:ids.length≤100) (ht:1≤t) (h1:1≤b) (hb:b≤32):
 OSpecC G (.ref 227) 6 ([.dict [] e0]++[.inst 275 2,.dict [] 0]) [.own 1,.d (Zv ids),.d (.int t),.d (.int b),.d (.str p),.own 0] fun r os'=>r = .d .none∧∃ep,os'=[.dict [] e0,.inst 275 2,.dict (Zc1 ids t b p (.own 0)) ep]:=by
 refine Ka fun zn1=>?_;obtain ⟨ar,vs,file,tf,cls,ccl,cel,cdd,ced,ccs,ces,cd,S⟩:=ZqQ w;refine zn1 ?_;replace S:=I.p▸S;refine ZdU (n:=6) (targs:=[.d (Zv ids),.d (.int t),.own 0]) (loc':=[(0,.own 1),(1,.d (Zv ids)),(2,.d (.int t)),(3,.d (.int b)),(4,.d (.str p)),(5,.own 0)]) (rest:=(XU (kk1 w.params) 227).tail) I.k S (by kd_p1) (fun j=>_) (fun j=>rfl) (fun j=>rfl) (by kd_p1) rfl (by decide) (ln6 fun b0 b1 b2 b3 b4 b5 S=>by kd_p) (Uo [0,1,2,3,4,5] (by kd_p)) rfl rfl (ZgR (m:=5) (U2 I.k (.inr rfl) hn hl ht)) ?_ ?_
 ·intro c hG cE cT cC cF;have X:EnvOk c (EK (kk1 w.params) 227 0 {cls:=[275]}):=Zh2 I.k hG (by rw [cE];rfl) cT cC;exact Zq (Ze (X.l "keyids" 1 (by kd_p)) rfl (Zq (Ze (X.l "threshold" 2 (by kd_p)) rfl (Zq (Ze (X.l "unrecognized_fields" 5 (by kd_p)) rfl (Ym rfl))))))
 ·rintro c hG cE cT cC cF os' ⟨ep,rfl⟩;have X:EnvOk c (EK (kk1 w.params) 227 0 {cls:=[275]}):=Zh2 I.k hG (by rw [cE];rfl) cT cC;refine (Xo X (Zn5 w) (Q:=YH _) ?_).mono fun j j q=>Uc q;refine Zc3 h1 hb ?_;intro j j;refine Zf (Zu ⟨.inl rfl,by exact Rb _,by lia⟩) ?_;intro j;refine WQ I.k hG cF (Zk9 I.k h1 hb) (by kd_p) (by decide) ?_;refine Zf (Zfr (Wb hb).1) ?_;exact fun e=>⟨rfl,e,by kd_p⟩
theorem ZaB (I:IsX1 G w){t:Int}{p:Str}(hn:ids.Nodup) (hl:ids.length≤100) (ht:1≤t) (h1:1≤b) (hb:b≤32):
 OSpecC G (.ref 241) 9 [.dict (ZcW ids t b p) e0] [.d (.val (.ref 275)),.own 0] fun r os'=>r = .own 1∧∃e1 ep,os'=[.dict [] e1,.inst 275 2,.dict (Zc1 ids t b p (.own 0)) ep] :=
 ZmE I.k (need:=8) fun cx hG hF u=>by
  intro u u u e1;refine Stop.mk (XX [0] (os:=[.dict [] e1]) (args:=[.d (Zv ids),.d (.int t),.d (.int b),.d (.str p),.own 0]) (OSpecC.toO (by rw [hG];exact Xn I.k (Zgy w) (ZdR I hn hl ht h1 hb))) (Ua I.k (by kd_p) hG) (by rw [hF];decide) rfl (by simp) rfl (fun j i h=>?_) ?_)
  ·induction j using Nat.casesOn with
   | zero=>obtain rfl:=Kc h;exact ⟨_,rfl,rfl⟩
   | succ j=>exact Zp h
  ·rintro u os' ⟨rfl,ep,rfl⟩;exact ⟨rfl,_,_,rfl⟩
theorem Zb1 (I:IsX1 G w){t:Int}{p:Str}:Zw G (.ref 133) 3 [Zx ids t b p] fun d=>d = .dict ([("keyids",Zv ids),("threshold",.int t)]:Qd) :=
 Zol I.k (need:=2) fun cx hG hF=>fun j e=>by
  with_unfolding_all exact rfl
theorem Zhz (w:World):Zhr (kk1 w.params) 136=true:=by kd_p
theorem ZnK (w:World):Zg7 (W.findCls (kk1 w.params) (.ref 136) (.type "type") "to_dict")=some (.ref 133):=by kd_p
theorem ZbK (I:IsX1 G w){t:Int}{p:Str}:OSpecC G (.ref 251) 5 [] [.d (Zx ids t b p)] fun r os'=>r = .own 0∧∃ep,os'=[.dict (ZcW ids t b p) ep] :=
 ZnE I.k (need:=4) fun c hG hF j=>by
  intro e0;refine Stop.mk (Zbc (f:=133) (kIn I.k hG) (Zhz w) (ZnK w) ?_);refine (Zc0 I.k hG hF (Zb1 I) (by kd_p) (by decide) ?_).out;exact fun e=>⟨rfl,e,by kd_p⟩
theorem Za6 (I:IsX1 G w){nm:Str}{t:Int}{h:Qq}:OSpecC G (.ref 181) 5 [] [.d (Y1 nm ids t h)] fun r os'=>r = .own 0∧∃ep,os'=[.dict (Xc nm ids t h) ep] :=
 Zne I.k (need:=4) fun c hG hF j=>by
  refine Stop.mk (Zbc (f:=133) (kIn I.k hG) (Zhz w) (ZnK w) ?_);refine (Zc0 I.k hG hF (Zch I) (by kd_p) (by decide) ?_).out;intro e1 e2;refine Stop.mk (WC rfl rfl (Rd (by kd_p)) fun e=>?_);exact ⟨rfl,e,by kd_p⟩
end
section
noncomputable def Zfb:Stmt:=ZZ (fAt pw1 21) [9]
noncomputable def Zod:Stmt→Arguments
 | .FunctionDef _ a _ _ _ _ _ _ _ _=>a
 | _=>⟨[],[],none,[],[],none,[]⟩
noncomputable def Zjf:Stmt→List Stmt
 | .FunctionDef _ _ b _ _ _ _ _ _ _=>b
 | _=>[]
noncomputable def ZgK:Stmt→Scope
 | .FunctionDef _ _ _ _ _ _ s _ _ _=>s
 | _=>{kind:=.function,names:=[],isGenerator:=false,isCoroutine:=false,more:=[]}
noncomputable def YQ (H:List (Str×Str)):Qd:=H.map fun e=>(e.1,.str e.2)
noncomputable abbrev Zoo (cl:Qm) (ct cv pm:Value):FuncData:=Y9 "digest" "law.<locals>.digest" (Zod Zfb) (Zjf Zfb) (ZgK Zfb) cl ct cv pm
inductive DigX (G:Gx) (fD aL:Addr) (H:List (Str×Str)):Prop
 | mk (a5 a6:Addr) (vh ct cv pm:Value) (cl:Qm) (X:DigG G fD a5 a6 aL vh (Zoo cl ct cv pm) (YQ H)) (h5:cl.lookup ("asked":Str)=some a5) (h6:cl.lookup ("hashes":Str)=some a6)
theorem DigX.fin {H:List (Str×Str)}(X:DigX G fD aL H) (f:Heap→Prop):DigX {G with fin:=f} fD aL H:=by
 obtain ⟨a5,a6,vh,ct,cv,pm,cl,X,h5,h6⟩:=X;exact ⟨a5,a6,vh,ct,cv,pm,cl,⟨X.fn,X.k5,X.k6,X.vr⟩,h5,h6⟩
theorem DigX.keep {H:List (Str×Str)}(X:DigX G fD aL H) (hG:c.G=G):∀h,c.G.lib.B h→ZF c (.ref fD) h:=fun h hB=>by
 subst hG;obtain ⟨a5,a6,vh,ct,cv,pm,cl,X,j,j⟩:=X;exact ZgY (X.fn h hB).1 rfl
theorem ZiH {cl:Qm}{ct cv pm u1 u2:Value}{s:Shared}:BindsTo s (Zoo cl ct cv pm) ⟨[u1,u2],[]⟩ [("data",u1),("algo",u2)]:=BindsTo.of_eq (by kd_p)
theorem DigX.spec {H:List (Str×Str)}(X:DigX G fD aL H){p:Str}{n:Nat}(hp:p∈pathsAll) (hd:Yk p (YQ H)=some (.str x)) (hn:n≤1000000):
 OSpecC G (.ref fD) 2 [.ask aL n] [.d (.bytes (WN p)),.d (.str "sha256")] fun r o=>r = .d (.str x)∧o=[.ask aL (n+1)]:=by
 obtain ⟨a5,a6,vh,ct,cv,pm,cl,X,h5,h6⟩:=X;exact ZjS X h5 h6 (by kd_p) (fun j j j=>ZiH) (by kd_p1) (by kd_p1) (by kd_p1) (Znx hp) (Kr (Ub (P:=fun x=>x.length≤10) (by decide +kernel) hp) (by decide)) hd hn
theorem IsX1.fin {w:World}(I:IsX1 G w) (f:Heap→Prop):IsX1 {G with fin:=f} w:=⟨⟨I.k.B,I.k.w⟩,I.p,⟨I.gen.K,I.gen.reg,I.gen.bm,I.gen.nostat⟩,I.r1,I.r2⟩
section
variable {w:World}{l:Qc}
theorem ZnZ {H:List (Str×Str)}(X:DigX G fD aL H) (hG:c.G=G) (hF:2≤c.fuel){p:Str}{n:Nat}(hp:p∈pathsAll) (hd:Yk p (YQ H)=some (.str x)) (hn:n≤1000000) (q:Q ⟨l,[.ask aL (n+1)],.d (.str x)::k⟩):
 CJ c 2 ⟨l,[.ask aL n],.d (.str "sha256")::.d (.bytes (WN p))::.d (.val (.ref fD))::k⟩ Q:=by
 refine XX [0] (os:=[.ask aL n]) (args:=[.d (.bytes (WN p)),.d (.str "sha256")]) (OSpecC.toO (by rw [hG];exact X.spec hp hd hn)) (X.keep hG) hF rfl (by simp) rfl (fun j i h=>?_) ?_
 ·induction j using Nat.casesOn with
  | zero=>obtain rfl:=Kc h;exact ⟨_,rfl,rfl⟩
  | succ j=>exact Zp h
 ·rintro u os' ⟨rfl,rfl⟩;exact q
end
variable {w:World}
noncomputable def ZY (p:Str) (b v:Nat):Str:=p++"-"++ZC ((v / 2 ^ (32 - b):Nat):Int) (wd b)
theorem Zbn {d n:Nat}:ZN d (some (i:Int)) n=min i n:=Zax d i n
theorem Zsw {v:Nat}:Zae (ZC v 8++y) none (some 8)=ZC v 8:=by
 refine Ur ?_;have hl:(cp (ZC v 8)).length=8:=by rw [Wv,Qw,Rk]
 have hn:(ZC v 8++y).cps.toList.length=8+(cp y).length:=by
  have:=congrArg List.length (YL (ZC v 8) y);rw [Qu,hl] at this;exact this
 show ((cp (ZC v 8++y)).drop (ZN 0 none (ZC v 8++y).cps.toList.length)).take (ZN (ZC v 8++y).cps.toList.length (some 8) (ZC v 8++y).cps.toList.length - ZN 0 none (ZC v 8++y).cps.toList.length)=_;rw [show ZN 0 none (ZC v 8++y).cps.toList.length=0 from rfl,hn,show (8:Int)=((8:Nat):Int) from rfl,Zbn,List.drop_zero,Rz (Ko _ _),YL,←hl];exact List.take_left
theorem ZlN {v:Nat}:(v:Int).fdiv (2 ^ ((32:Int) - b).toNat)=((v / 2 ^ (32 - b):Nat):Int) :=
 (congrArg (fun z=>(v:Int).fdiv (2 ^ z)) (Int.toNat_sub 32 b)).trans (fdp v 2 _)
theorem Zp4 {l:Qc}{v:Nat}(hb:b≤32):Xd (.bin .RShift) ⟨l,o,.d (.int ((32:Int) - b))::.d (.int (v:Nat))::r⟩=some ⟨l,o,.d (.int ((v / 2 ^ (32 - b):Nat):Int))::r⟩:=by
 refine (Zu (Int.sub_nonneg_of_le (Int.ofNat_le.mpr hb):(0:Int)≤32 - b)).trans ?_;exact (ZlN)▸rfl
theorem Zeh (I:IsX1 G w){H:List (Str×Str)}(X:DigX G fD aL H){t:Int}{p:Str}{v n:Nat}(hb:b≤32) (hq:q.length≤100) (hp:p∈pathsAll) (hv:v<2 ^ 32) (hd:Yk p (YQ H)=some (.str (ZC v 8++y))) (hy:y.length≤100) (hn:n≤1000000):
 OSpecC G (.ref 258) 8 [.ask aL n] [.d (Zx ids t b q),.d (.str p),.d (.val (.ref fD))] fun r o=>r = .d (.str (ZY q b v))∧o=[.ask aL (n+1)] :=
 ZmZ I.k (need:=7) fun c hG hF E=>by
  have Xe:=E.ok I.k {rw:=[251],cls:=[275]} hG;have hz:∀{n},n≤1000→n≤sizeLine:=fun h=>by rw [sizeLine_eq];lia
  have hlt:v / 2 ^ (32 - b)<2 ^ b:=by
   rw [Nat.div_lt_iff_lt_mul (Nat.two_pow_pos _),←Nat.pow_add,Nat.add_sub_of_le hb];exact hv
  have hw:=(Wb hb).1;refine Zjw hp ?_;refine Stop.mk (ZnZ X hG (by rw [hF];decide) hp hd hn ?_);refine Zf (Zox (by show (ZC v 8++y).length≤_;rw [Q5,Z4];exact Ux hy (by decide))) ?_;rw [Zsw];refine Stop.mk (ZpT hv ?_);refine Zf (Zp4 hb) ?_;refine WQ I.k hG hF (ZkJ I.k hb hlt) (by kd_p) (by decide) ?_;refine Stop.mk (ZO (ZbP (Zle (Um (Zdj (YT (Ze (Xe.l "self" 0 (by kd_p)) rfl (Yt (K:=kk1 w.params) (d:=.str q) (kIn I.k hG) (by kd_p) rfl rfl ⟨q,_,_,_,rfl,hz (Kr hq (by decide)),q,_,_,_,rfl,?_,Um (UD ⟨_,_,_,_,rfl,?_,Um (Zdj (Ze (Xe.l "suffix" 6 (by kd_p)) rfl ⟨_,_,_,_,rfl,?_,_,_,_,_,rfl,?_,Zjx ?_ ?_⟩))⟩)⟩))))))))
  ·rw [Q5];exact hz (Ux hq (by decide))
  ·rw [Q5,Q5];exact hz (ad1 (Ux hq (Kq _)) (by decide))
  ·rw [Z4];exact hz (Kr hw (by decide))
  ·rw [Q5,Q5,Q5,Z4];exact hz (ad2 (ad1 (Ux hq (Kq _)) (Kq _)) hw (by decide))
  ·rw [Q5,Q5,Q5,Z4];exact hz (ad2 (ad1 (Ux hq (Kq _)) (Kq _)) hw (by decide))
  ·refine ⟨?_,rfl⟩;exact congrArg (fun z=>A.d (D.str (z++"-"++_))) (Ur (by rw [YL];rfl))
end
section
variable {w:World}
noncomputable def YU (x:Str) (h:Qq):Bool:=h.any fun z=>Txt.startswith x z
theorem ZgX (I:IsX1 G w){H:List (Str×Str)}(X:DigX G fD aL H){nm p:Str}{h:Qq}{t:Int}{n:Nat}(hp:p∈pathsAll) (hd:Yk p (YQ H)=some (.str x)) (hn:n≤1000000):
 OSpecC G (.ref 198) 8 [.ask aL n] [.d (Y1 nm ids t h),.d (.str p),.d (.val (.ref fD))] fun r o=>r = .d (.bool (YU x h))∧o=[.ask aL (n+1)] :=
 Zma I.k (need:=7) fun c hG hF E=>by
  refine Zjw hp ?_;refine Stop.mk (ZnZ X hG (by rw [hF];decide) hp hd hn ?_);refine Zqk h (fun t=>.d (.str t)) (fun _:Unit=>[(3,.d (.str x))]) (fun j=>[.ask aL (n+1)]) [] (fun xs j=>YU x h=xs.any fun t=>Txt.startswith x t) () Q0 (UF (Yj rfl) rfl rfl) rfl ?_ ?_
  ·intro t xs j h1;rw [List.any_cons] at h1;refine Yr (fun h=>?_) (fun h=>?_)
   ·exact ⟨congrArg (fun z=>A.d (D.bool z)) (by rw [h1,h];rfl),rfl⟩
   ·rw [h,Bool.false_or] at h1;exact ⟨(),h1,UF (Yj rfl) rfl rfl⟩
  ·intro j h1;exact ⟨congrArg (fun z=>A.d (D.bool z)) h1.symm,rfl⟩
theorem ZhZ {α:Type}{A₁:Around}{enc:α→A}{tell:α→List D}{L:Qc}{Q:Qi→St→Prop}(xs:List α) (n:Nat) (hN:n+xs.length≤1000000) (st:St)
 (step:∀x∈xs,∀m ys',m≤1000000→AsJ c tgt ⟨L,[.ask aL m],[enc x]⟩ fun st1=>∀wr pn g₁,YJ c A₁ wr pn g₁ (execs body c.env) (tell x++ys') st1 fun ys2 st2=>ys2=ys'∧At L [.ask aL (m+1)] [] st2) (h:At L [.ask aL n] [] st)
 (fin:∀l,Le L l→Q [] ⟨l,[.ask aL (n+xs.length)],[]⟩):ZeD c A₁ tgt body (fun j=>True) (xs.map enc) st (xs.map tell).flatten Q:=by
 induction xs generalizing st n with
 | nil =>
  obtain ⟨l,o',k'⟩:=st;refine Yz h fun h1 h2 h3=>?_;obtain rfl:o'=_:=h2;obtain rfl:k'=[]:=h3;exact ⟨trivial,fin l h1⟩
 | cons x xs ih =>
  obtain ⟨l,o',k'⟩:=st;refine Yz h fun h1 h2 h3=>?_;obtain rfl:o'=_:=h2;obtain rfl:k'=[]:=h3;replace hN:=Rc▸hN;refine ⟨trivial,Zhe (st:=⟨l,[.ask aL n],[enc x]⟩) (fun F v vs s R=>wpm (step x (.head _) n (xs.map tell).flatten (by exact Kr (Ko _ _) (by assumption)) F v vs s R) (fun j s1 z=>?_)) h1⟩;refine ozg z fun st1 R1 h=>?_;refine ⟨st1,R1,fun wr pn g₁=>(h wr pn g₁).mono fun ys2 st2 hf=>?_⟩;rw [hf.1];exact ih (n+1) (by exact nS (by assumption)) st2 (fun y hy=>step y (.tail _ hy)) hf.2 fun l hl=>by exact (show n+1+xs.length=n+(x::xs).length by rw [Rc];exact Nat.add_right_comm _ _ _)▸(fin l hl)
structure Fr321v (c:Cx):Prop where
 l0:IsL c "self" 0
 l1:IsL c "target_filepath" 1
 l2:IsL c "digest" 2
 l3:IsL c "role" 3
theorem Zpc (I:IsK kk1 G w):DefG G 321 (Zm (kk1 w.params) 321).scope ((Zm (kk1 w.params) 321).qualname++".<locals>.") (Zm (kk1 w.params) 321).code (stm (Zm (kk1 w.params) 321).body) 3 ["self","target_filepath","digest"] :=
 ZnS I (by kd_p) (by kd_p) (by kd_p) (by kd_p) (by kd_p) (by kd_p) (by kd_p) (by kd_p) (by kd_p) (by kd_p) (by kd_p) (by decide)
  (ln3 fun b0 b1 b2 S=>by kd_p)
theorem ZgL (I:IsK kk1 G w){d2:D}(h:∀c,c.G=G→c.fuel=need→c.cel=[]→Fr321v c→c.env.scope.isCoroutine=false→∀A g₀,YJ c A [] [] g₀ (execs (stm (Zm (kk1 w.params) 321).body) c.env) ys ⟨[(0,.d d0),(1,.d d1),(2,.d d2)],os,[]⟩ fun ys' st'=>ys'=[]∧ZnA c st'):GSpecO G (.ref 321) (need+1) os [d0,d1,d2] ys:=by
 refine ZjC (Zpc I) (loc':=[(0,.d d0),(1,.d d1),(2,.d d2)]) (Zr [0,1,2] (by kd_p)) fun c hG he hcel ht hfu=>by
  have hco:c.env.scope.isCoroutine=false:=by rw [he];kd_p
  with_reducible exact h c hG hfu hcel ⟨isL he ht (by kd_p),isL he ht (by kd_p),isL he ht (by kd_p),isL he ht (by kd_p)⟩ hco
theorem Zes (w:World):Zas (kk1 w.params) 201 198 "is_delegated_path"=true:=by kd_p
theorem ZcQ (w:World):Zas (kk1 w.params) 275 258 "get_role_for_target"=true:=by kd_p
noncomputable def Zn (ids:Qq) (t:Int) (rs:List (Str×Qq)):Qd:=rs.map fun r=>(r.1,Y1 r.1 ids t r.2)
noncomputable def ZbW (x:Str) (rs:List (Str×Qq)):List (Str×Bool):=(rs.filter fun r=>YU x r.2).map fun r=>(r.1,true)
noncomputable def Z1 (ks:Qd) (s:D):D:=.inst 324 ([("keys",.dict ks),("roles",.none),("succinct_roles",s),("unrecognized_fields",.dict [])]:Qd)
theorem Zsa {l:Qc}{f:Value}{n:Nat}{R:A→Prop}(H:OSpecC c.G f need [.ask aL n] args fun r o=>R r∧o=[.ask aL m]) (hk:∀h,c.G.lib.B h→ZF c f h) (hn:need≤c.fuel) (hl:args.length=j) (hr:∀a∈args,YN (iot [0] 1) a=a) (hrr:∀r,R r→YN (iot [0] 1) r=r) (q:∀r,R r→Q ⟨l,[.ask aL m],r::k⟩):
 CJ c j ⟨l,[.ask aL n],args.reverse++.d (.val f)::k⟩ Q:=by
 have e:args.map (YN (iot [0] 1))=args:=by rw [List.map_congr_left hr,List.map_id']
 have:=XX (l:=l) (o:=[.ask aL n]) (k:=k) (Q:=Q) [0] (os:=[.ask aL n]) (args:=args) (OSpecC.toO H) hk hn hl (by simp) rfl (fun j i h=>by
  induction j using Nat.casesOn with
  | zero=>obtain rfl:=Kc h;exact ⟨_,rfl,rfl⟩
  | succ j=>exact Zp h) (by
  rintro r os' ⟨hR,rfl⟩;show Q ⟨l,_,YN (iot [0] 1) r::k⟩;rw [hrr r hR];exact q r hR)
 rw [show ([.ask aL n]:Qg).length=1 from rfl,e] at this;exact this
end
section
variable {w:World}
theorem ZrN (I:IsX1 G w){H:List (Str×Str)}(X:DigX G fD aL H){n:Nat}(hf:G.fin=Xj aL N){ks:Qd}{t:Int}{rs:List (Str×Qq)}{p:Str}(hp:p∈pathsAll) (hd:Yk p (YQ H)=some (.str x)) (hn:n+rs.length≤N) (hN:N≤1000000):
 GSpecO G (.ref 321) 25 [.ask aL n] [Yv ks (Zn ids t rs),.str p,.val (.ref fD)] ((ZbW x rs).map Y0):=by
 refine ZgL I.k fun cx hG hF hcel H hco A₁ g₀=>?_;have hK:=kIn I.k hG;have L0:=H.l0;have L3:=H.l3;refine X7 (ZlP (XO (YT (Ze L0 rfl (Yt (d:=.dict (Zn ids t rs)) hK rfl (by kd_p) rfl (Zaj (ZaL rfl (Yg ⟨fun j=>?_,fun h=>Bool.noConfusion h⟩))))) rfl) rfl));refine X7 (ZnW (UA (Xu (YT (Ze L0 rfl (Yt (d:=.dict (Zn ids t rs)) hK rfl (by kd_p) rfl (Zef (Ze0 ?_)))) rfl) rfl rfl)) (fun j=>rfl));refine Zc8 ?_ (fun j j=>rfl);have e1:((Zn ids t rs).map fun e=>e.2).map A.d=rs.map fun r=>A.d (Y1 r.1 ids t r.2):=by simp [Zn]
 have e2:(ZbW x rs).map Y0=(rs.map fun r=>if YU x r.2=true then [D.tuple [.str r.1,.bool true]] else []).flatten:=by
  clear hn e1;unfold ZbW;induction rs with
  | nil=>rfl
  | cons r rs ih =>
   simp only [List.filter_cons,Rh,List.flatten_cons];induction YU x r.2 with
   | true=>simp only [if_true,Rh,List.cons_append,List.nil_append];rw [ih];rfl
   | false=>simp only [Bool.false_eq_true,if_false,List.nil_append];exact ih
 rw [e1,e2];refine ZhZ (L:=[(1,.d (.str p)),(2,.d (.val (.ref fD)))]) rs n (by exact Kr (by assumption) (by assumption)) _ (fun r hr' m ys' hm=>?_) ⟨Z0 (by first | rfl | simp [Zs]) (Z0 (by first | rfl | simp [Zs]) Wh),rfl,rfl⟩ (fun l hl=>W9 (W9 ⟨rfl,ZgQ (hG▸hf) hn⟩));refine Z7 (ZK L3 fun wr pn g₁=>?_);refine X7 (ZlP (ZeB (XV (Ze L3 rfl (X8 hK (Zes w) (by kd_p) (Zq (Ze H.l1 rfl (Zq (Ze H.l2 rfl (Ym ?_)) rfl)) rfl))) rfl rfl rfl rfl) (by with_unfolding_all (intro j;rfl))));refine Zsa (args:=[.d (Y1 r.1 ids t r.2),.d (.str p),.d (.val (.ref fD))]) (R:=fun a=>a = .d (.bool (YU x r.2))) (hG▸ZgX I X hp hd hm) (XW I.k (by kd_p) hG) (by rw [hF];decide) rfl (by simp [YN]) (fun a e=>by rw [e];rfl) ?_;rintro j rfl;refine Yg ?_;refine ⟨fun h=>?_,fun h=>?_⟩
 ·rw [if_pos h];refine X7 (ZdA (ZdD (by decide) (Zq (YT (Ze L3 rfl (Yt (d:=.str r.1) hK rfl (by kd_p) rfl (Zq (YT (Ze L3 rfl (Yt (d:=.bool true) hK rfl (by kd_p) rfl (Ym ?_))) rfl) rfl))) rfl) rfl)) hco);refine ⟨_,_,rfl,?_⟩;refine ⟨_,_,rfl,rfl,?_⟩;refine W9 ?_;refine W9 ?_;exact ⟨rfl,Z0 (by first | rfl | simp [Zs]) (Z0 (by first | rfl | simp [Zs]) Wh),rfl,rfl⟩
 ·rw [if_neg (by rw [h];trivial)];refine W9 ?_;refine W9 ?_;exact ⟨rfl,Z0 (by first | rfl | simp [Zs]) (Z0 (by first | rfl | simp [Zs]) Wh),rfl,rfl⟩
theorem Zrg (I:IsX1 G w){H:List (Str×Str)}(X:DigX G fD aL H){n:Nat}(hf:G.fin=Xj aL N){ks:Qd}{t:Int}{p:Str}{v:Nat}(hb:b≤32) (hq:q.length≤100) (hp:p∈pathsAll) (hv:v<2 ^ 32) (hd:Yk p (YQ H)=some (.str (ZC v 8++y))) (hy:y.length≤100) (hn:n+1≤N) (hN:N≤1000000):
 GSpecO G (.ref 321) 25 [.ask aL n] [Z1 ks (Zx ids t b q),.str p,.val (.ref fD)] (([(ZY q b v,true)]:List (Str×Bool)).map Y0):=by
 refine ZgL I.k fun cx hG hF hcel H hco A₁ g₀=>?_;have hK:=kIn I.k hG;have L0:=H.l0;refine X7 (ZlP (XO (YT (Ze L0 rfl (Yt (d:=.none) hK rfl (by kd_p) rfl (Zaj (Yw trivial (Yg ⟨fun h=>Bool.noConfusion h,fun j=>?_⟩))))) rfl) rfl));refine X7 (ZlP (XO (YT (Ze L0 rfl (Yt (d:=Zx ids t b q) hK rfl (by kd_p) rfl (Zaj (ZaL rfl (Yg ⟨fun j=>?_,fun h=>Bool.noConfusion h⟩))))) rfl) rfl));refine X7 (ZdA (ZdD (by decide) (Zq (XV (YT (Ze L0 rfl (Yt (d:=Zx ids t b q) hK rfl (by kd_p) rfl (X8 hK (ZcQ w) (by kd_p) (Zq (Ze H.l1 rfl (Zq (Ze H.l2 rfl (Ym ?_)) rfl)) rfl)))) rfl) rfl rfl rfl rfl) rfl)) hco);refine Zsa (args:=[.d (Zx ids t b q),.d (.str p),.d (.val (.ref fD))]) (R:=fun a=>a = .d (.str (ZY q b v))) (hG▸Zeh I X hb hq hp hv hd hy (by exact nR (by assumption) (by assumption))) (XW I.k (by kd_p) hG) (by rw [hF];decide) rfl (by simp [YN]) (fun a e=>by rw [e];rfl) ?_;rintro j rfl;refine Zq (Zkm (Ym ?_)) rfl;refine ⟨_,_,rfl,?_⟩;refine ⟨_,_,rfl,rfl,?_⟩;exact W9 (W9 (W9 ⟨rfl,ZgQ (hG▸hf) hn⟩))
end
section
variable {w:World}
theorem Zm9 (w:World):Zas (kk1 w.params) 324 321 "get_roles_for_target"=true:=by kd_p
def ZcK (G:Gx):Prop:=∀rg∈G.reg,Zjt rg
theorem Zmq (I:IsX1 G w) (T:ZcK G){H:List (Str×Str)}(X:DigX G fD aL H){n:Nat}{told:D}{p:Str}{qs:List (Str×Bool)}(ht:told = .inst 324 es) (hn:Z5 es ("get_roles_for_target":Str)=none) (hql:qs.length≤1000)
 (S:∀G',G'={G with fin:=Xj aL N}→GSpecO G' (.ref 321) 25 [.ask aL n] [told,.str p,.val (.ref fD)] (qs.map Y0)) {px px2 p1 p2 p3 p4 p5 p6 p7:Pos} {scope:Scope} {body:Qr}
 (hbody:body=[.Return (some (.ListComp (.Name "pair" px2) [⟨.Name "pair" px,.Call (.Attribute (.Name "roles" p1) "get_roles_for_target" p2) [.Name "path" p3,.Name "digest" p4] [] p5,[],0⟩] scope p6)) p7]) (h1:(p2.endLine==p5.line)=true) (h2:Us scope []=true) (h3:ZbN scope "pair" 1=true)
 {c:Cx} (hG:c.G=G) (hF:26≤c.fuel) (hcel:c.cel=[]) (L0:IsL c "roles" 0) (L1:IsL c "path" 1) (L2:IsL c "digest" 2) :
 XJ c body ⟨[(0,.d told),(1,.d (.str p)),(2,.d (.val (.ref fD)))],[.ask aL n],[]⟩ (Zh8 fun r o=>r = .d (.list (qs.map Y0))∧∃n',n'≤N∧o=[.ask aL n']):=by
 subst hbody;subst ht;refine ZlQ (jx:=1) (hG▸T) hcel (fun q hq=>?_) hql (fun c1 h=>UK (h.trans hcel) h2) (fun c1 c2 h=>Zfp h h3) (fun c1 g1 e1 t1 q1 f1=>?_) (fun j j=>rfl) (fun j=>rfl) rfl rfl rfl h1
 ·rcases ZH hq with rfl | hq
  ·exact ⟨_,rfl⟩
  ·rcases ZH hq with rfl | hq
   ·exact ⟨_,rfl⟩
   ·exact (YY hq)▸⟨_,rfl⟩
 ·have eG:c1.G={G with fin:=Xj aL N}:=by rw [g1,hG]
  have L0':IsL c1 "roles" 0:=⟨by rw [e1];exact L0.1,by rw [t1];exact L0.2.1,L0.2.2⟩;have L1':IsL c1 "path" 1:=⟨by rw [e1];exact L1.1,by rw [t1];exact L1.2.1,L1.2.2⟩;have L2':IsL c1 "digest" 2:=⟨by rw [e1];exact L2.1,by rw [t1];exact L2.2.1,L2.2.2⟩;have I1:=I.fin (Xj aL N);refine Ze L0' rfl (X8 (f:=321) (kIn I1.k eG) (Zm9 w) hn ?_);refine Zq (Ze L1' rfl (Zq (Ze L2' rfl (Ym ?_)) rfl)) rfl;exact ⟨_,_,[.inst 324 es,.str p,.val (.ref fD)],eG▸S _ rfl,XW I1.k (by kd_p) eG,by rw [f1];exact Nat.le_of_lt (by assumption),rfl,rfl⟩
section
variable {H:List (Str×Str)}{ks:Qd}{t:Int}{p:Str}{n:Nat}
theorem Zow (I:IsK kk1 G w):Zlp (kk1 w.params) G 364 3 ["roles","path","digest"]:=Z2 (n:=3) (names:=["roles","path","digest"]) I (by kd_p) (ln3 fun b0 b1 b2 S=>by kd_p)
theorem Zhx (I:IsX1 G w) (T:ZcK G) (X:DigX G fD aL H){told:D}{qs:List (Str×Bool)}(ht:told = .inst 324 es) (hn:Z5 es ("get_roles_for_target":Str)=none) (hql:qs.length≤1000)
 (S:∀G',G'={G with fin:=Xj aL N}→GSpecO G' (.ref 321) 25 [.ask aL n] [told,.str p,.val (.ref fD)] (qs.map Y0)) :
 OSpecC G (.ref 364) 27 [.ask aL n] [.d told,.d (.str p),.d (.val (.ref fD))] fun r o=>r = .d (.list (qs.map Y0))∧∃n',n'≤N∧o=[.ask aL n'] :=
 ZfK (own':=[]) (Zow I.k) (loc':=[(0,.d told),(1,.d (.str p)),(2,.d (.val (.ref fD)))]) (Zr [0,1,2] (by kd_p)) (by kd_p) fun c hG he hcel ht' hfu=>by
  exact Zmq I T X ht hn hql S (by kd_p1) (by kd_p1) (by kd_p) (by kd_p) hG (Nat.le_of_eq hfu.symm) (hcel.trans (by kd_p)) (isL he ht' (by kd_p)) (isL he ht' (by kd_p)) (isL he ht' (by kd_p))
theorem ZhE (I:IsX1 G w) (T:ZcK G) (X:DigX G fD aL H){rs:List (Str×Qq)}(hp:p∈pathsAll) (hd:Yk p (YQ H)=some (.str x)) (hrs:rs.length≤1000) (hn:n+rs.length≤N) (hN:N≤1000000):
 OSpecC G (.ref 364) 27 [.ask aL n] [.d (Yv ks (Zn ids t rs)),.d (.str p),.d (.val (.ref fD))] fun r o=>r = .d (.list ((ZbW x rs).map Y0))∧∃n',n'≤N∧o=[.ask aL n'] :=
 Zhx I T X rfl (by kd_p) (by unfold ZbW;rw [Qw];exact Kr (List.length_filter_le _ _) hrs) fun G' e=>by subst e;exact ZrN (I.fin _) (X.fin _) rfl hp hd hn hN
theorem ZhD (I:IsX1 G w) (T:ZcK G) (X:DigX G fD aL H){v:Nat}(hb:b≤32) (hq:q.length≤100) (hp:p∈pathsAll) (hv:v<2 ^ 32) (hd:Yk p (YQ H)=some (.str (ZC v 8++y))) (hy:y.length≤100) (hn:n+1≤N) (hN:N≤1000000):
 OSpecC G (.ref 364) 27 [.ask aL n] [.d (Z1 ks (Zx ids t b q)),.d (.str p),.d (.val (.ref fD))] fun r o=>r = .d (.list (([(ZY q b v,true)]:List (Str×Bool)).map Y0))∧∃n',n'≤N∧o=[.ask aL n'] :=
 Zhx I T X rfl (by kd_p) (by show 1≤1000;decide) fun G' e=>by subst e;exact Zrg (I.fin _) (X.fin _) rfl hb hq hp hv hd hy hn hN
end
end
section
theorem WD {L l:Qc}(h:Le L l) (hi:L.map (·.1)=is):Zc5 is l=some L:=by
 subst hi;induction L with
 | nil=>rfl
 | cons q L ih =>
  show (Zs q.1 l).bind _=_;rw [h q (.head _)];rw [ih fun q hq=>h q (.tail _ hq)];rfl
section
variable {l:Qc}{s:Qh}{e:Nat}{C:Addr}{es:Qe}{cs:Qp}
theorem ZcD (h:Zs i l=some a):Xd (.loc i) ⟨l,o,s⟩=some ⟨l,o,a::s⟩:=by
 show (Zs i l).map _=_;rw [h];rfl
theorem Zhv (h:o[i]?=some (.inst C j)):U5 o i=some (C,j):=by unfold U5;exact h▸rfl
theorem Wz (h:o[i]?=some (.dict es e)):Y4 o i=some es:=by unfold Y4;exact h▸rfl
theorem Zbq (h:o[i]?=some (.list xs)):WU o i=some xs:=by unfold WU;exact h▸rfl
theorem ZhG (h1:o[i]?=some (.inst C j)) (h2:o[j]?=some (.dict es e)) (hc:cs.contains C=true) (hz:es.length≤1000):saF x cs ⟨l,o,.own i::a::s⟩=some fun ep=>⟨l,o.set j (.dict (Z6 es x a) ep),s⟩:=by
 show (U5 o i).bind _=_;refine (Zhv h1)▸((Zu hc).trans ?_);exact (Wz h2)▸(Zu hz)
theorem Zrd (h1:o[i]?=some (.inst C j)) (h2:o[j]?=some (.dict es e)) (hc:cs.contains C=true) (hv:Z5 es x=some a) (hp:ZaJ a=true):gaF x cs ⟨l,o,.own i::s⟩=some ⟨l,o,a::s⟩:=by
 show (U5 o i).bind _=_;refine (Zhv h1)▸((Zu hc).trans ?_);rw [Wz h2];show (Z5 es x).bind _=_;exact hv▸(Zu hp)
theorem ZaW (h:o[i]?=some (.dict es e)):ZpA ⟨l,o,.own i::s⟩=true:=by
 show (Y4 o i).isSome=true;rw [Wz h];rfl
theorem Zht (h:o[i]?=some (.dict es e)) (hv:Z5 es x=some a) (hz:es.length≤1000):mdF .pop1 ⟨l,o,.d (.str x)::.own i::s⟩=some fun ep=>⟨l,o.set i (.dict (YR es x) ep),a::s⟩:=by
 show (Y4 o i).bind _=_;rw [Wz h];show (Z5 es x).bind _=_;exact hv▸(Zu hz)
theorem Zl0 {b:A}(h:o[i]?=some (.dict es e)) (hv:Z5 es x=some a) (hz:es.length≤1000):mdF .pop2 ⟨l,o,b::.d (.str x)::.own i::s⟩=some fun ep=>⟨l,o.set i (.dict (YR es x) ep),a::s⟩:=by
 show (Y4 o i).bind _=_;rw [Wz h];show (match Z5 es x with | some v=>ifO _ _ | none=>_)=_;exact hv▸(Zu hz)
theorem ZgS {b:A}(h:o[i]?=some (.dict es e)) (hv:Z5 es x=none):mdF .pop2 ⟨l,o,b::.d (.str x)::.own i::s⟩=some fun j=>⟨l,o,b::s⟩:=by
 show (Y4 o i).bind _=_;rw [Wz h];show (match Z5 es x with | some v=>ifO _ _ | none=>_)=_;exact hv▸rfl
theorem ZjR {more:Qd}(h:o[i]?=some (.dict es e)) (hz:es.length+more.length≤1000):mdF .upd ⟨l,o,.d (.dict more)::.own i::s⟩=some fun ep=>⟨l,o.set i (.dict (Zbk es (more.map fun e=>(e.1,A.d e.2))) ep),.d .none::s⟩:=by
 show (Y4 o i).bind _=_;exact (Wz h)▸(Zu hz)
end
theorem ZoF {l:Qc}{w:World}(hK:KIn c (kk1 w.params)) (q:Q ⟨l,o,.d (.bool ((["root","timestamp","snapshot","targets"]:Qq).any (· == x)))::k⟩):OJ2 c (compareOp .In) ⟨l,o,.d (.val (.ref 75))::.d (.str x)::k⟩ Q:=o2 (fun F st vs s g ρ m u v W zq1 h2 Q' hq=>by
 refine oze zq1 fun t h1=>?_;subst h2;subst h1;have hl:s.heap.IsTuple 75 #[.str "root" 283,.str "timestamp" 284,.str "snapshot" 285,.str "targets" 286]:=⟨_,(W.kIn hK) 75 _ (by kd_p1),rfl,_,rfl⟩;have hu:=c.hu;refine SeqAt.in_tupleAt (fun v=>match v with | .str y _=>y==x | _=>false) hl (fun y hy=>?_) ?_
 rotate_left
 ·rw [List.any_toArray];exact hq _ s.toks rfl
 simp only [List.mem_toArray,List.mem_cons,List.not_mem_nil,or_false] at hy;rcases hy with h | h | h | h <;> (subst h;exact Zgq (p:=c.p) (w:=c.w) 1 (a:=.str _) (b:=.str x) trivial ⟨_,rfl⟩ ⟨_,rfl⟩ (by show c.A.units+1+1<cLine;lia))) q
variable {w:World}
def Zcx (x:Str):Prop:=(1≤x.length∧x.length≤1000)∧(["root","timestamp","snapshot","targets"]:Qq).any (· == x)=false
section
variable {l:Qc}{Q:Fl→St→Prop}
structure DelsV (w:World) (m:Nat) (c:Cx):Prop where
 X:EnvOk c (EK (kk1 w.params) 292 m {rw:=[264,266],mks:=[(270,[0,1,2,3,4])],cls:=[324]})
 gen:GenOk c.G (kk1 w.params)
 r2:Yd 287∈c.G.reg
 code:c.env.code = .ref 291
 fuel:3≤c.fuel
 K:KIn c (kk1 w.params)
theorem ZkF (I:IsX1 G w) (hG:c.G=G) (hF:c.fuel=4) (E:EntF (kk1 w.params) 292 m c):DelsV w m c where
 X:=E.ok I.k _ hG
 gen:=hG▸I.gen
 r2:=hG▸I.r2
 code:=by rw [E.env];exact (by kd_p:(Zm (kk1 w.params) 292).code = .ref 291)
 fuel:=by rw [hF];decide
 K:=kIn I.k hG
theorem ZrL (V:DelsV w m c) (h:Zcx x) (h5:Zs 5 l=some (.d (.str x))){s:Qh}(q:Q .next ⟨l,o,s⟩):XJ c [ZZ (mAt pw1 11 0) [2,0,0]] ⟨l,o,s⟩ Q:=by
 have L5:=V.X.l "role" 5 (by kd_p);have h1:=h.1.1;refine ZO (Zcy (ZfA (Zmt (Zoe (ZeB (Ze L5 h5 (Zob (Kr h.1.2 (by decide)) ⟨fun j=>Zmt (XO (Ze L5 h5 (ZQ (V.X.g "TOP_LEVEL_ROLE_NAMES" (.ref 75) (by kd_p) (V.X.gl _ _ (by kd_p))) (ZoF V.K (Yg ⟨fun j=>Zff ⟨fun z=>(nomatch z),fun j=>ZR (ZR q)⟩,fun z=>?_⟩))))),fun z=>?_⟩)))))))
 ·exact absurd (h.2.symm.trans z) (fun e=>nomatch e)
 ·simp at z;omega
theorem Zi6 (V:DelsV w m c){p:Pos}{ok:Qf}(hok:∀l,ok ⟨l,o,[]⟩){L:Qc}(hL:(L.any fun q=>q.1==5)=false) (ns:Qq) (hn:∀x∈ns,Zcx x) (q:∀l,Le L l→Q .next ⟨l,o,[]⟩) (h:Le L l):
 Wg c (.Name "role" p) [ZZ (mAt pw1 11 0) [2,0,0]] ok (ns.map fun x=>.d (.str x)) ⟨l,o,[]⟩ Q:=by
 induction ns generalizing l with
 | nil=>exact ⟨hok _,q l h⟩
 | cons x ns ih =>
  refine ⟨hok _,Z7 (ZK (V.X.l "role" 5 (by kd_p)) (ZrL V (hn x (.head _)) rfl (ih (fun y hy=>hn y (.tail _ hy)) fun z hz=>?_)))⟩;unfold Zs;rw [if_neg fun e=>?_]
  rotate_left
  ·have:=List.any_eq_false.mp hL z hz;rw [←e] at this;exact this rfl
  exact h z hz
theorem Zdn (V:DelsV w m c){L:Qc}(hL:(L.any fun q=>q.1==5)=false) (h:Le L l) (h2:Zs 2 l=some a) (ha:a = .d .none∨(∃es:Qd,a = .d (.dict es)∧∀e∈es,Zcx e.1)∨∃(j:Nat) (es:Qe) (ep:Nat),a = .own j∧o[j]?=some (.dict es ep)∧∀e∈es,Zcx e.1)
 (q:∀l,Le L l→Q .next ⟨l,o,[]⟩):XJ c [ZZ (mAt pw1 11 0) [2]] ⟨l,o,[]⟩ Q:=by
 have L2:=V.X.l "roles" 2 (by kd_p);refine ZO (Zcy (XO (Ze L2 h2 (Zaj ?_)) rfl));rcases ha with rfl | ⟨es,rfl,he⟩ | ⟨j,es,ep,rfl,ho,he⟩
 ·exact Yw trivial (Yg ⟨fun z=>(nomatch z),fun u=>ZR (ZR (q l h))⟩)
 ·refine Yw trivial (Yg ⟨fun u=>ZO (Zg8 (UA (Ze L2 h2 (ZdE ?_))) (fun u=>rfl)),fun z=>(nomatch z)⟩);have e1:(es.map fun e=>D.str e.1).map A.d=(es.map (·.1)).map fun x=>A.d (.str x):=by rw [Q0,Q0];rfl
  exact e1▸(Zi6 V (fun u=>trivial) hL _ (fun x hx=>Za (Yh hx) fun e h1 h2=>h2▸he e h1) (fun l hl=>ZR (ZR (q l hl))) h)
 ·refine ZaY (Yg ⟨fun u=>ZO (Zg8 (UA (Ze L2 h2 (Zj5 ho ?_ (fun u u=>rfl)))) (fun u=>rfl)),fun z=>(nomatch z)⟩);have e1:(es.map fun e=>A.d (.str e.1))=(es.map (·.1)).map fun x=>A.d (.str x):=by rw [Q0];rfl
  exact e1▸(Zi6 V (fun u=>ho) hL _ (fun x hx=>Za (Yh hx) fun e h1 h2=>h2▸he e h1) (fun l hl=>ZR (ZR (q l hl))) h)
def UU (a:A) (b:Bool):Prop:=(∃d,a = .d d∧Zci d∧YG d=b)∨(b=false∧∃j,a = .own j)
def Zqq (c:Cx) (b:Bool) (d:D):Prop:=YG d=b∧∀{scope:Scope}{x:Str}{n1 n2:Nat}{p1 p2 p3 p4:Pos},scope.names.lookup x=some .local→scope.kind = .function→(x==("__debug__":Str))=false→Xp c scope x [.Compare (.Name x p1) [.IsNot] [.Constant .none n1 p2] p3] (.Constant (.int 1) n2 p4) (fun d=>!YG d) (fun j y=>∃t,y = .int 1 t) d
theorem ZkG {b:Bool}{p:Pos}{Q:Qf}(L:IsL c x i) (h:Zs i l=some a) (ha:UU a b) (q:∀d,Zqq c b d→Q ⟨l,o,.d d::k⟩):EJ c (.Name x p) ⟨l,o,k⟩ Q:=by
 rcases ha with ⟨d,rfl,hd,hb⟩ | ⟨rfl,j,rfl⟩
 ·exact Ze L h (q d ⟨hb,fun h1 h2 h3=>UB h1 h2 hd h3⟩)
 ·exact Zmj (Ze L h ⟨_,_,_,_,rfl,fun ra=>q _ ⟨rfl,fun h1 h2 h3=>ZbQ h1 h2 h3⟩⟩)
theorem Zo5 (V:DelsV w m c){b:A}{z:Bool}(h2:Zs 2 l=some a) (h3:Zs 3 l=some b) (ha:UU a z) (hb:UU b (!z)) (q:Q .next ⟨l,o,[]⟩):XJ c [ZZ (mAt pw1 11 0) [1]] ⟨l,o,[]⟩ Q:=by
 have L3:=V.X.l "succinct_roles" 3 (by kd_p);refine ZO (Zcy (XO (ZcZ (tz:=fun d=>!YG d) V.gen V.r2 V.code (by kd_p) (by decide) (by kd_p) (.inr ⟨_,_,rfl,rfl⟩) (V.X.g "sum" (.builtin "sum") (by kd_p) (V.X.gl _ _ (by kd_p))) V.fuel ?_)));refine Zaz (by decide) (Zq (ZkG (V.X.l "roles" 2 (by kd_p)) h2 ha fun d1 t1=>Zq (ZkG L3 h3 hb fun d2 t2=>Ym ⟨[d1,d2],_,rfl,_,rfl,Rd rfl,fun d hd=>?_,ZaZ (Zmy (Yg ⟨fun zz=>?_,fun j=>ZR (ZR q)⟩))⟩)))
 ·rcases ZH hd with rfl | hd
  ·exact t1.2 (by kd_p) rfl (by kd_p)
  ·rw [Q3] at hd;subst hd;exact t2.2 (by kd_p) rfl (by kd_p)
 ·have:([d1,d2].filter fun d=>!YG d).length=1:=by
   simp only [List.filter_cons,t1.1,t2.1];cases z <;> rfl
  replace zz:=this▸zz;exact Xi zz
end
end
section
variable {w:World}
theorem WE:UU (.d .none) true:=.inl ⟨_,rfl,trivial,rfl⟩
theorem ZfX:UU (.d (.dict es)) false:=.inl ⟨_,rfl,trivial,rfl⟩
theorem ZfH {C:Addr}:UU (.d (.inst C es)) false:=.inl ⟨_,rfl,trivial,rfl⟩
theorem ZcB:UU (.own j) false:=.inr ⟨rfl,j,rfl⟩
theorem Zcp (I:IsX1 G w){ks rs:Qd}(hr:∀e∈rs,Zcx e.1):Zw G (.ref 324) 6 [.dict ks,.dict rs] fun d=>d=Yv ks rs :=
 have H:OSpecC G (.ref 292) 5 [.inst 324 1,.dict [] 0] (.own 0::[.dict ks,.dict rs].map .d) fun r os'=>r = .d .none∧Frz os' 0 (.own 0) (Yv ks rs) :=
  Znj I.k (need:=4) fun cx hG hF E=>fun j=>by
   have V:=ZkF I hG hF E;refine Stop.mk (Zo5 V rfl rfl ZfX WE (Stop.mk (Zdn V (L:=[(0,.own 0),(1,.d (.dict ks)),(2,.d (.dict rs)),(3,.d .none),(4,.d .none)]) rfl (Yj rfl) rfl (.inr (.inl ⟨_,rfl,hr⟩)) fun l hl=>?_)));exact Zf (WD hl rfl) fun j j j=>⟨rfl,Wl (n:=9) (by kd_p)⟩
 Zd8 I.k (Zbs w) H
theorem Zcs (I:IsX1 G w){ks:Qd}{t:Int}{p:Str}:Zw G (.ref 324) 6 [.dict ks,.none,Zx ids t b p] fun d=>d=Z1 ks (Zx ids t b p) :=
 have H:OSpecC G (.ref 292) 5 [.inst 324 1,.dict [] 0] (.own 0::[.dict ks,.none,Zx ids t b p].map .d) fun r os'=>r = .d .none∧Frz os' 0 (.own 0) (Z1 ks (Zx ids t b p)) :=
  ZlM I.k (need:=4) fun cx hG hF E=>fun j=>by
   have V:=ZkF I hG hF E;refine Stop.mk (Zo5 V rfl rfl WE ZfH (Stop.mk (Zdn V (L:=[(0,.own 0),(1,.d (.dict ks)),(2,.d .none),(3,.d (Zx ids t b p)),(4,.d .none)]) rfl (Yj rfl) rfl (.inl rfl) fun l hl=>?_)));exact Zf (WD hl rfl) fun j j j=>⟨rfl,Wl (n:=9) (by kd_p)⟩
 Zd8 I.k (Zbs w) H
noncomputable def ZjJ (a1 a2 a3 a4:A):Qe:=[("keys",a1),("roles",a2),("succinct_roles",a3),("unrecognized_fields",a4)]
theorem Uf (I:IsX1 G w){kr dd:Nat}{a3:A}{z:Bool}(ha:UU a2 z) (hb:UU a3 (!z)) (hr:a2 = .d .none∨∃(j:Nat) (es:Qe) (ep:Nat),a2 = .own j∧os[j]?=some (.dict es ep)∧∀e∈es,Zcx e.1):
 OSpecC G (.ref 292) 5 (os++[.inst 324 (os.length+1),.dict [] 0]) (.own os.length::[.own kr,a2,a3,.own dd]) fun r os'=>r = .d .none∧∃ep,os'=os++[.inst 324 (os.length+1),.dict (ZjJ (.own kr) a2 a3 (.own dd)) ep]:=by
 have hI:∀d:O,(os++[O.inst 324 (os.length+1),d])[os.length]?=some (.inst 324 (os.length+1)):=fun d=>by rw [Km (Kq _),Rp];rfl
 have hJ:∀d:O,(os++[O.inst 324 (os.length+1),d])[os.length+1]?=some d:=fun d=>by rw [Km (Ko _ 1),Q6];rfl
 have hS:∀d e:O,(os++[O.inst 324 (os.length+1),d]).set (os.length+1) e=os++[O.inst 324 (os.length+1),e]:=fun d e=>by
  rw [List.set_append_right _ _ (Ko _ 1),Q6];rfl
 refine Zme I.k (need:=4) fun cx hG hF E=>?_;have V:=ZkF I hG hF E;rw [Rj];refine Zf (ZhG (hI _) (hJ _) rfl (Rd (by kd_p))) fun ep=>?_;rw [hS];refine Stop.mk (Zo5 V rfl rfl ha hb (Stop.mk (Zdn V (L:=[(0,.own os.length),(1,.own kr),(2,a2),(3,a3),(4,.own dd)]) rfl (Yj rfl) rfl ?_ fun l hl=>?_)))
 ·rcases hr with rfl | ⟨j,es,ep,rfl,ho,he⟩
  ·exact .inl rfl
  ·exact .inr (.inr ⟨j,es,ep,rfl,by rw [Kl (ZB ho).1];exact ho,he⟩)
 refine Zf (WD hl rfl) ?_;refine Zf (ZhG (hI _) (hJ _) rfl (Rd (by kd_p))) fun ep=>?_;rw [hS];refine Zf (ZhG (hI _) (hJ _) rfl (Rd (by kd_p))) fun ep=>?_;rw [hS];refine Zf (ZhG (hI _) (hJ _) rfl (Rd (by kd_p))) fun ep=>?_;rw [hS];exact ⟨rfl,ep,rfl⟩
end
section
variable {w:World}
section
theorem Zgi (I:IsX1 G w) (hG:c.G=G) (hf:3≤c.fuel){n:Nat}{py pa pb pc pd tp:Pos}(L0:IsL c "keyid" 1) (L1:IsL c "key" 2) (hl:(pb.endLine==pc.line)=true) (ks:List KeyX) (ents:Qe) (ep:Nat) (KD:Qg) (l:Qc) (hnd:(ents.map (·.1)++ks.map KeyX.id).Nodup) (hz:ents.length+ks.length≤1000)
 (q:∀l ep' KD',ZcP ks KD'→Q ⟨l,.dict (ents++Z9 ks (KD.length+1)) ep'::(KD++KD'),[]⟩) :
 WX c (.Tuple [.Name "keyid" px,.Name "key" py] n tp) [] (Zec (.Name "keyid" pa) (.Call (.Attribute (.Name "key" pd) "to_dict" pb) [] [] pc)) (fun j=>True) 0 (ks.map fun k=>.d (.tuple [.str k.id,k.d])) ⟨l,.dict ents ep::KD,[]⟩ Q:=by
 induction ks generalizing ents ep KD l with
 | nil=>exact ⟨trivial,by simpa [Z9] using q l ep [] rfl⟩
 | cons k ks ih =>
  refine ⟨trivial,Zen rfl ?_ rfl⟩;refine Zew (Z7 (ZK L0 (Zew (Z7 (ZK L1 (Zmw ?_))))));refine Zbg ⟨fun j=>?_,fun h=>nomatch h⟩;refine Zhq (Ze L0 rfl (Xu (Ze L1 rfl (X8 (f:=60) (kIn I.k hG) (by kd_p) (by kd_p) ?_)) rfl hl));refine Zdq (args:=[k.d]) (hG▸Zcm I (a:=k.id) (b:=k.ty) (c:=k.sc) (x:=k.kv)) (XW I.k (by kd_p) hG) hf rfl ?_;rintro j os' ⟨rfl,ep1,rfl⟩;refine ⟨k.id,.own (KD.length+1),ents,ep,rfl,rfl,Kr (Ko _ _) hz,fun ep'=>?_⟩;have hni:k.id∉ents.map (·.1):=fun h=>(List.nodup_append.mp hnd).2.2 _ h _ (Ri (.head _)) rfl;rw [YA hni];rw [Rc] at hz;refine ih (ents++[(k.id,.own (KD.length+1))]) ep' (KD++[.dict k.e ep1]) _ (by rw [Q9,Qy];exact hnd) (by rw [Qu];show _+1+_≤_;exact nS (by assumption)) fun l ep2 KD' hKD=>?_
  have:=q l ep2 (.dict k.e ep1::KD') ⟨ep1,KD',rfl,hKD⟩;rw [Qy,Qy,Qu];exact this
noncomputable def UZ (ids:Qq) (t:Int):List (Str×Qq)→List O→Prop
 | [],os=>os=[]
 | r::rs,os=>∃ep q,os = .dict (Xc r.1 ids t r.2) ep::q∧UZ ids t rs q
theorem Zkp:∀n b,(ZP b n).length=n:=fun n=>by
 induction n with
 | zero=>intro b;rfl
 | succ n ih=>intro b;show (ZP (b+1) n).length+1=_;rw [ih]
theorem Zfe (I:IsX1 G w) (hG:c.G=G) (hf:5≤c.fuel){t:Int}{pb pc pd:Pos}(L0:IsL c "role_obj" 1) (hl:(pb.endLine==pc.line)=true) (base:Qg) (rs:List (Str×Qq)) (RD:Qg) (l:Qc) (hz:RD.length+rs.length≤1000000)
 (q:∀l RD',UZ ids t rs RD'→Q ⟨l,base++[.list (ZP (base.length+1) (RD.length+rs.length))]++(RD++RD'),[]⟩) :
 CompJ c (.Name "role_obj" px) [] (.Call (.Attribute (.Name "role_obj" pd) "to_dict" pb) [] [] pc) (fun j=>True) base.length (rs.map fun r=>.d (Y1 r.1 ids t r.2)) ⟨l,base++[.list (ZP (base.length+1) RD.length)]++RD,[]⟩ Q:=by
 induction rs generalizing RD l with
 | nil=>exact ⟨trivial,by simpa using q l [] rfl⟩
 | cons r rs ih =>
  refine ⟨trivial,Z7 (ZK L0 (Zbg ⟨fun j=>?_,fun h=>nomatch h⟩))⟩;refine Xu (Ze L0 rfl (X8 (f:=181) (kIn I.k hG) (by kd_p) (by kd_p) ?_)) rfl hl;refine Zdq (args:=[Y1 r.1 ids t r.2]) (hG▸Za6 I (nm:=r.1) (ids:=ids) (t:=t) (h:=r.2)) (XW I.k (by kd_p) hG) hf rfl ?_;rintro j os' ⟨rfl,ep1,rfl⟩;have hlen:(base++[O.list (ZP (base.length+1) RD.length)]++RD).length=base.length+1+RD.length:=by rw [Qu,Qu];rfl
  replace hz:=Rc▸hz;refine ⟨.own (base.length+1+RD.length),ZP (base.length+1) RD.length,by rw [hlen];rfl,?_,?_,?_⟩
  ·rw [Qy (base++[_]) RD];exact ZlX
  ·rw [Zkp];exact Kr (Ko _ _) (by assumption)
  ·have e:List.map (Xv fun x=>(base++[O.list (ZP (base.length+1) RD.length)]++RD).length+x) [O.dict (Xc r.1 ids t r.2) ep1]=[.dict (Xc r.1 ids t r.2) ep1]:=rfl;rw [e,Qy (base++[_]) RD,Znv,UE];have key:=ih (RD++[O.dict (Xc r.1 ids t r.2) ep1]) ((1,.d (Y1 r.1 ids t r.2))::l) (by rw [Qu];show _+1+_≤_;exact nS (by assumption)) fun l RD' hRD=>by
    have:=q l (.dict (Xc r.1 ids t r.2) ep1::RD') ⟨ep1,RD',rfl,hRD⟩;have e2:(RD++[O.dict (Xc r.1 ids t r.2) ep1]).length+rs.length=RD.length+(r::rs).length:=by rw [Qu];show RD.length+1+rs.length=RD.length+(rs.length+1);exact Nat.add_right_comm _ _ _
    rw [e2,Qy RD];exact this
   replace key:=Qu▸key;exact key
theorem XF {P:Qf}{Q:Qa}(h:P st):nxt P Q (upF .next) st:=h
theorem ZeO {l:Qc}{s:Qh}{k:C}{Q:Qa}(h:Zs i l=some a) (q:∀ep,wp c k ⟨l,o++[.dict [(x,a)] ep],.own o.length::s⟩ Q):wp c (.dict [x] (.o (.loc i) .nil) k) ⟨l,o,s⟩ Q:=by
 refine Zf (ZcD h) ?_;show (match (o++[O.dict [] 0])[o.length]? with | some (.dict [] 0)=>∀ep,wp c k ⟨l,(o++[O.dict [] 0]).set o.length (.dict [(x,a)] ep),.own o.length::s⟩ Q | _=>False);rw [Km (Kq _),Rp];intro ep;rw [List.set_append_right _ _ (Kq _),Rp];exact q ep
theorem ZnY {e:Nat}{es:Qe}{l:Qc}{v:A}{k:C}{Q:Qa}(ho:o[j]?=some (.dict es e)) (hz:es.length≤1000) (q:∀ep,wp c k ⟨l,o.set j (.dict (Z6 es x v) ep),r⟩ Q):wp c (.o .set k) ⟨l,o,.d (.str x)::.own j::v::r⟩ Q :=
 Stop.mk (WC ho rfl hz q)
theorem Zjd {e:Nat}{es:Qe}{l:Qc}{v:A}{k:C}{Q:Qa}(hi:Zs i l=some (.own j)) (ho:o[j]?=some (.dict es e)) (hz:es.length≤1000) (q:∀ep,wp c k ⟨l,o.set j (.dict (Z6 es x v) ep),r⟩ Q):wp c (.o (.loc i) (.o (.lit (.str x)) (.o .set k))) ⟨l,o,v::r⟩ Q :=
 Zf (ZcD hi) (ZnY ho hz q)
theorem Zlg {KD:Qg}(h:ZcP ks KD){k:KeyX}(hk:ks[j]?=some k):∃e,KD[j]?=some (.dict k.e e):=by
 induction ks generalizing KD j with
 | nil=>exact Zp hk
 | cons x ks ih =>
  obtain ⟨ep,r,rfl,h⟩:=h;induction j using Nat.casesOn with
  | zero=>obtain rfl:=Kc hk;exact ⟨ep,rfl⟩
  | succ j=>exact (ih h hk :)
theorem ZhS {t:Int}{rs:List (Str×Qq)}{RD:Qg}(h:UZ ids t rs RD){r:Str×Qq}(hr:rs[j]?=some r):∃e,RD[j]?=some (.dict (Xc r.1 ids t r.2) e):=by
 induction rs generalizing RD j with
 | nil=>exact Zp hr
 | cons x ks ih =>
  obtain ⟨ep,q,rfl,h⟩:=h;induction j using Nat.casesOn with
  | zero=>obtain rfl:=Kc hr;exact ⟨ep,rfl⟩
  | succ j=>exact (ih h hr :)
theorem ZeV {t:Int}{rs:List (Str×Qq)}{RD:Qg}(h:UZ ids t rs RD):RD.length=rs.length:=by
 induction rs generalizing RD with
 | nil=>rw [h];rfl
 | cons x ks ih =>
  obtain ⟨ep,q,rfl,h⟩:=h;exact congrArg Nat.succ (ih h)
structure KeysW (ks:List KeyX) (o:Qg):Prop where
 d:∃e,o[0]?=some (.dict (Z9 ks 1) e)
 at_:∀(j:Nat) k,ks[j]?=some k→∃e,o[1+j]?=some (.dict k.e e)
theorem Zek {KD:Qg}{e:Nat}(h:ZcP ks KD) (r:Qg):KeysW ks (.dict (Z9 ks 1) e::(KD++r)) where
 d:=⟨e,rfl⟩
 at_:=fun j k hk=>by
  refine oze (Zlg h hk) fun e he=>?_;refine ⟨e,?_⟩;rw [Nat.add_comm 1 j];show (KD++r)[j]?=_;rw [Kl (ZB he).1];exact he
theorem Za2 {M:Qg}{x:O}{r:Qg}:(M++x::r)[M.length]?=some x:=by rw [Km (Kq _),Rp];rfl
theorem Zf7 {M:Qg}{x y:O}{r:Qg}:(M++x::r).set M.length y=M++y::r:=by rw [List.set_append_right _ _ (Kq _),Rp];rfl
theorem Zg6 (I:IsX1 G w) (hG:c.G=G) (hF:3≤c.fuel) (X:EnvOk c (EK (kk1 w.params) 314 m H)){C:Addr}(hC:C=324) (hv:Z5 es ("keys":Str)=some (.dict (WR ks))) (hkn:(ks.map KeyX.id).Nodup) (hkl:ks.length≤100){l:Qc}(h0:Zs 0 l=some (.d (.inst C es))){Q:Fl→St→Prop}
 (q:∀e KD,ZcP ks KD→Q .next ⟨(1,.own 0)::l,.dict (Z9 ks 1) e::KD,[]⟩):XJ c [ZZ (mAt pw1 11 3) [0]] ⟨l,[],[]⟩ Q:=by
 subst hC;refine ZO (Zb9 (UK X.cel (by kd_p)) (UA (Xu (YT (Ze (X.l "self" 0 (by kd_p)) h0 (Yt (d:=.dict (WR ks)) (kIn I.k hG) (by kd_p) hv rfl (Zmx (ZlU (Zi9 fun c' hc'=>?_)))))) rfl rfl)) (Zgt (X.l "keys" 1 (by kd_p)) (by kd_p) rfl) (fun j=>rfl));have e1:List.map (fun x=>A.d (D.tuple x)) (List.map (fun e=>[D.str e.1,e.2]) (WR ks))=ks.map fun k=>A.d (.tuple [.str k.id,k.d]):=by unfold WR;rw [Q0,Q0];rfl
 refine e1▸(Zgi I (hc'.G.trans hG) (by rw [hc'.fuel];exact hF) (Zfp hc' (by kd_p)) (Zfp hc' (by kd_p)) rfl ks [] 0 [] [] hkn (by show 0+_≤_;exact Ux (by assumption) (by decide)) fun l' ep KD hKD=>?_);exact ZK (X.l "keys" 1 (by kd_p)) (ZR (q ep KD hKD))
end
structure WrS (ids:Qq) (t:Int) (b:Nat) (p:Str) (ks:List KeyX) (o:Qg):Prop where
 k:KeysW ks o
 d:∃e,o[ks.length+1]?=some (.dict [("keys",.own 0),("succinct_roles",.own (ks.length+2))] e)
 s:∃e,o[ks.length+2]?=some (.dict (ZcW ids t b p) e)
 len:o.length=ks.length+3
theorem Ziq (I:IsX1 G w){t:Int}{p:Str}(hkn:(ks.map KeyX.id).Nodup) (hkl:ks.length≤100):
 OSpecC G (.ref 314) 7 [] [.d (Z1 (WR ks) (Zx ids t b p))] fun r os'=>r = .own (ks.length+1)∧WrS ids t b p ks os' :=
 Zhh I.k (need:=6) fun cx hG hF E=>by
  refine Stop.mk (Zg6 I hG (by rw [hF];decide) (E.ok I.k {rw:=[306,310],cls:=[324]} hG) rfl rfl hkn hkl rfl fun e KD hKD=>?_);refine XF (ZeO rfl fun e1=>?_);refine Zad (ZaW Za2) ?_;refine Zf (ZjR Za2 (by decide)) fun e2=>?_;rw [Zf7];refine Stop.mk (X8 (f:=251) (kIn I.k hG) (by kd_p) (by kd_p) ?_);refine Zdq (args:=[Zx ids t b p]) (hG▸ZbK I) (XW I.k (by kd_p) hG) (by rw [hF];decide) rfl ?_;rintro u os' ⟨rfl,ep,rfl⟩;rw [Qy];refine Zjd (j:=(O.dict (Z9 ks 1) e::KD).length) rfl Za2 (Rd rfl) fun e3=>?_
  erw [Zf7]
  have hz:(O.dict (Z9 ks 1) e::KD).length=ks.length+1:=congrArg Nat.succ (Zag hKD);refine And.intro (congrArg A.own hz) ⟨Zek hKD _,⟨e3,?_⟩,⟨ep,?_⟩,?_⟩
  ·refine hz▸(Za2.trans ?_);rw [Qu,hz];rfl
  ·rw [show ks.length+2=(O.dict (Z9 ks 1) e::KD).length+1 by rw [hz],Km (Ko _ _),Q6];rfl
  ·rw [Qu,hz];rfl
end
section
variable {w:World}
theorem Zkz (I:IsX1 G w) (hG:c.G=G) (hF:5≤c.fuel) (X:EnvOk c (EK (kk1 w.params) 314 m H)){ks:Qd}{t:Int}{rs:List (Str×Qq)}(hrl:rs.length≤100){l:Qc}(h0:Zs 0 l=some (.d (Yv ks (Zn ids t rs)))){base:Qg}{Q:Fl→St→Prop}
 (q:∀RD,UZ ids t rs RD→Q .next ⟨(3,.own base.length)::l,base++[.list (ZP (base.length+1) rs.length)]++RD,[]⟩):XJ c [ZZ (mAt pw1 11 3) [3,0]] ⟨l,base,[]⟩ Q:=by
 refine ZO (Zly (UK X.cel (by kd_p)) (ZeY (UA (Xu (YT (Ze (X.l "self" 0 (by kd_p)) h0 (Yt (d:=.dict (Zn ids t rs)) (kIn I.k hG) (by kd_p) (by kd_p) rfl (Zef (Ze0 (Zc8 (fun c' hc'=>?_) (fun j j=>rfl))))))) rfl rfl))) (ZlR (X.l "roles" 3 (by kd_p)) (by kd_p) rfl) (fun j=>rfl));have e1:((Zn ids t rs).map fun e=>e.2).map A.d=rs.map fun r=>A.d (Y1 r.1 ids t r.2):=by unfold Zn;rw [Q0,Q0];rfl
 refine e1▸(Zfe I (hc'.G.trans hG) (by rw [hc'.fuel];exact hF) (Zfp hc' (by kd_p)) rfl base rs [] [] (by show 0+_≤_;exact Ux (by assumption) (by decide)) fun l' RD hRD=>?_);rw [List.nil_append,show ([]:Qg).length+rs.length=rs.length from Nat.zero_add _];exact ZK (X.l "roles" 3 (by kd_p)) (ZR (q RD hRD))
theorem ZpB {u e:Nat}{es:Qe}{l:Qc}{v:A}{k:C}{Q:Qa}(hu:Zs u l=some v) (hi:Zs i l=some (.own j)) (ho:o[j]?=some (.dict es e)) (hz:es.length≤1000) (q:∀ep,wp c k ⟨l,o.set j (.dict (Z6 es x v) ep),r⟩ Q):wp c (.o (.loc u) (.o (.loc i) (.o (.lit (.str x)) (.o .set k)))) ⟨l,o,r⟩ Q :=
 Zf (ZcD hu) (Zjd hi ho hz q)
structure WrT (ids:Qq) (t:Int) (ks:List KeyX) (rs:List (Str×Qq)) (o:Qg):Prop where
 k:KeysW ks o
 d:∃e,o[ks.length+1]?=some (.dict [("keys",.own 0),("roles",.own (ks.length+2))] e)
 l:o[ks.length+2]?=some (.list (ZP (ks.length+3) rs.length))
 r:∀(j:Nat) r,rs[j]?=some r→∃e,o[ks.length+3+j]?=some (.dict (Xc r.1 ids t r.2) e)
 len:o.length=ks.length+3+rs.length
theorem Zim (I:IsX1 G w){t:Int}{rs:List (Str×Qq)}(hkn:(ks.map KeyX.id).Nodup) (hkl:ks.length≤100) (hrl:rs.length≤100):
 OSpecC G (.ref 314) 7 [] [.d (Yv (WR ks) (Zn ids t rs))] fun r os'=>r = .own (ks.length+1)∧WrT ids t ks rs os' :=
 Zhh I.k (need:=6) fun cx hG hF E=>by
  have X:=E.ok I.k {rw:=[306,310],cls:=[324]} hG;refine Stop.mk (Zg6 I hG (by rw [hF];decide) X rfl rfl hkn hkl rfl fun e KD hKD=>?_);refine XF (ZeO rfl fun e1=>?_);refine Zad (ZaW Za2) ?_;refine Zf (ZjR Za2 (by decide)) fun e2=>?_;rw [Zf7];refine Stop.mk (Zkz I hG (by rw [hF];decide) X hrl rfl fun RD hRD=>?_);have hz:(O.dict (Z9 ks 1) e::KD).length=ks.length+1:=congrArg Nat.succ (Zag hKD);have hz2:∀x:O,(O.dict (Z9 ks 1) e::KD++[x]).length=ks.length+2:=fun x=>by rw [Qu,hz];rfl
  refine XF ?_;rw [Qy,Qy];refine ZpB (j:=(O.dict (Z9 ks 1) e  :: KD).length) rfl rfl Za2 (Rd rfl) fun e3=>?_
  erw [Zf7]
  refine And.intro (congrArg A.own hz) ⟨Zek hKD _,⟨e3,?_⟩,?_,fun j r hr=>?_,?_⟩
  ·rw [←hz];refine Za2.trans ?_;show some (O.dict [("keys",.own 0),("roles",.own (_:Qg).length)] e3)=_;rw [hz2]
  ·rw [show ks.length+2=(O.dict (Z9 ks 1) e::KD).length+1 by rw [hz],Km (Ko _ _),Q6];show some (O.list (ZP ((_:Qg).length+1) _))=_;rw [hz2]
  ·refine oze (ZhS hRD hr) fun er he=>⟨er,?_⟩;rw [show ks.length+3+j=(O.dict (Z9 ks 1) e::KD).length+(j+2) by rw [hz];omega];exact (Km (Ko _ _)).trans (by rw [Q6];exact he)
  ·rw [Qu,hz];show ks.length+1+(RD.length+1+1)=_;rw [ZeV hRD];lia
end
section
section
variable {α:Type}
noncomputable def XE (nm:α→Str):List α→Nat→List (Str×A)
 | [],_=>[]
 | x::xs,a=>(nm x,.own a)::XE nm xs (a+2)
theorem ZfN {nm:α→Str}{x:α}{xs:List α}{a:Nat}:XE nm (xs++[x]) a=XE nm xs a++[(nm x,.own (a+2*xs.length))]:=by
 induction xs generalizing a with
 | nil=>rfl
 | cons y xs ih =>
  show _::XE nm (xs++[x]) (a+2)=_::(XE nm xs (a+2)++_);rw [ih,show a+2+2*xs.length=a+2*(xs.length+1) by exact Nat.add_right_comm _ _ _];rfl
theorem XT {nm:α→Str}{xs:List α}{a:Nat}:(XE nm xs a).map (·.1)=xs.map nm:=by
 induction xs generalizing a with
 | nil=>rfl
 | cons y xs ih=>exact congrArg (nm y::·) ih
theorem Zc7 {nm:α→Str}{xs:List α}{a:Nat}:(XE nm xs a).length=xs.length:=by
 have:=congrArg List.length (XT (nm:=nm) (xs:=xs) (a:=a))
 rwa [Qw,Qw] at this
structure Made (C:Addr) (F:α→A→List (Str×A)) (o:Qg) (x:α) (i n:Nat):Prop where
 src:∃e,o[i]?=some (.dict [] e)
 ins:o[n]?=some (.inst C (n+1))
 fld:∃e,o[n+1]?=some (.dict (F x (.own i)) e)
theorem Made.mono {C:Addr}{F:α→A→List (Str×A)}{o':Qg}{x:α}{n:Nat}(h:Made C F o x i n) (h1:o'[i]?=o[i]?) (h2:o'[n]?=o[n]?) (h3:o'[n+1]?=o[n+1]?):Made C F o' x i n :=
 ⟨by rw [h1];exact h.src,by rw [h2];exact h.ins,by exact h3▸h.fld⟩
structure FdInv (nm:α→Str) (E:α→List (Str×A)) (C:Addr) (F:α→A→List (Str×A)) (b K a:Nat) (o₀:Qg) (done rest:List α) (o:Qg):Prop where
 len:o.length=a+2*done.length
 res:∃e,o[K]?=some (.dict (XE nm done a) e)
 made:∀(j:Nat) x,done[j]?=some x→Made C F o x (b+j) (a+2*j)
 todo:∀(j:Nat) x,rest[j]?=some x→∃e,o[b+done.length+j]?=some (.dict (E x) e)
 kept:∀i,i<a→i≠K→(i<b∨b+(done.length+rest.length)≤i)→o[i]?=o₀[i]?
 k1:b+(done.length+rest.length)≤K
 k2:K<a
noncomputable def WH (o:Qg) (i K:Nat) (x y1 y2 z:O):Qg:=((o.set i x)++[y1,y2]).set K z
theorem ZkB {K:Nat}{x y1 y2 z:O}:(WH o i K x y1 y2 z).length=o.length+2:=by
 unfold WH;rw [Q8,Qu,Q8];rfl
theorem ZoG {K:Nat}{x y1 y2 z:O}(h:K<o.length):(WH o i K x y1 y2 z)[K]?=some z:=by
 exact (List.getElem?_set_self (by rw [Qu,Q8];exact Kt (by assumption) (Ko _ _)))
theorem Uu {K:Nat}{x y1 y2 z:O}(hj:j<o.length) (h:j≠K) (hi:j≠i):(WH o i K x y1 y2 z)[j]?=o[j]?:=by
 unfold WH;rw [Rw (Ne.symm h),Kl (by rw [Q8];exact hj),Rw (Ne.symm hi)]
theorem ZoM {K:Nat}{x y1 y2 z:O}(hj:i<o.length) (h:i≠K):(WH o i K x y1 y2 z)[i]?=some x:=by
 unfold WH;rw [Rw (Ne.symm h),Kl (by rw [Q8];exact hj),List.getElem?_set_self hj]
theorem ZoN {K:Nat}{x y1 y2 z:O}(h:K<o.length):(WH o i K x y1 y2 z)[o.length]?=some y1∧(WH o i K x y1 y2 z)[o.length+1]?=some y2:=by
 have hl:(o.set i x).length=o.length:=Q8;unfold WH;rw [Rw (by exact Rg (by assumption)),Rw (by lia),Km (by lia),Km (by lia),hl,Rp,Q6];exact ⟨rfl,rfl⟩
section
variable {nm:α→Str}{E:α→List (Str×A)}{C:Addr}{F:α→A→List (Str×A)}{K a:Nat}{o₀:Qg}{done rest:List α}{x:α}
theorem FdInv.start {e:Nat}(h:o.length=a) (hK:o[K]?=some (.dict [] e)) (ht:∀(j:Nat) x,rest[j]?=some x→∃e,o[b+j]?=some (.dict (E x) e)) (h1:b+rest.length≤K):FdInv nm E C F b K a o [] rest o where
 len:=h
 res:=⟨e,hK⟩
 made:=fun u u h=>Zp h
 todo:=ht
 kept:=fun u u u u=>rfl
 k1:=by rw [show ([]:List α).length+rest.length=rest.length from Nat.zero_add _];exact h1
 k2:=h▸(ZB hK).1
theorem Ze5 {α:Type}{xs:List α}{x:α}:(xs++[x]).length=xs.length+1:=Qu
theorem tw {a n:Nat}(h:j<n):a+2*j+1<a+2*n:=by omega
theorem FdInv.step (I:FdInv nm E C F b K a o₀ done (x::rest) o){e1 e2:Nat}:
 FdInv nm E C F b K a o₀ (done++[x]) rest (WH o (b+done.length) K (.dict [] e1) (.inst C (o.length+1)) (.dict (F x (.own (b+done.length))) ep) (.dict (XE nm done a++[(nm x,.own o.length)]) e2)):=by
 have k1:=I.k1;have k2:=I.k2;have hl:=I.len;rw [Rc] at k1;have hKo:K<o.length:=Kt k2 (hl▸Ko _ _);have hbK:b+done.length<K:=Kt (Nat.add_lt_add_left (Nat.lt_add_of_pos_right (Nat.succ_pos _)) b) k1;have gt:∀m,b+done.length<a+m:=fun m=>Kt (Nat.lt_trans hbK k2) (Ko _ _);have gK:∀m,K<a+m:=fun m=>Kt k2 (Ko _ _);refine ⟨by rw [ZkB,hl,Ze5];lia,⟨e2,?_⟩,fun j y hj=>?_,fun j y hj=>?_,fun i h1 h2 h3=>?_,by rw [Ze5];lia,k2⟩
 ·rw [ZoG hKo,ZfN,hl]
 ·rcases Nat.lt_or_ge j done.length with h | h
  ·replace hj:=(Kl h)▸hj;have q:=Nat.add_lt_add_left h b;exact (I.made j y hj).mono (Uu (Nat.lt_trans q (Nat.lt_trans hbK hKo)) (Rg (Nat.lt_trans q hbK)) (Rg q)) (Uu (hl▸Nat.lt_of_succ_lt (tw h)) (Nat.ne_of_gt (gK _)) (Nat.ne_of_gt (gt _))) (Uu (hl▸tw h) (Nat.ne_of_gt (gK (2*j+1))) (Nat.ne_of_gt (gt (2*j+1))))
  ·have hj2:=(ZB hj).1;replace hj2:=Ze5▸hj2;obtain rfl:j=done.length:=Nat.le_antisymm (Nat.le_of_lt_succ hj2) h;rw [Km (Kq _),Rp] at hj;obtain rfl:=Kc hj
   have:=ZoN (o:=o) (i:=b+done.length) (K:=K) (x:=.dict [] e1) (y1:=.inst C (o.length+1)) (y2:=.dict (F x (.own (b+done.length))) ep) (z:=.dict (XE nm done a++[(nm x,.own o.length)]) e2) hKo;refine ⟨⟨e1,ZoM (Nat.lt_trans hbK hKo) (Rg hbK)⟩,?_,⟨ep,?_⟩⟩
   ·exact hl▸this.1
   ·exact hl▸this.2
 ·refine oze (I.todo (j+1) y hj) fun e he=>⟨e,?_⟩;have hlt:=(ZB hj).1;rw [Ze5,show b+(done.length+1)+j=b+done.length+(j+1) by exact nQ];have r:b+done.length+(j+1)<K:=Kt (Nat.add_lt_add_left (Nat.succ_lt_succ hlt) _) (by rw [Nat.add_assoc];exact k1);exact (Uu (Nat.lt_trans r hKo) (Rg r) (Nat.ne_of_gt (Nat.lt_add_of_pos_right (Nat.succ_pos _)))).trans he
 ·rw [Ze5] at h3;rw [Uu (Kt h1 (hl▸Ko _ _)) h2 (by lia)];exact I.kept i h1 h2 (by rw [Rc];lia)
theorem ZbH {T:α→D}(hF:∀x i o e,o[i]?=some (.dict [] e)→∃ds,T x = .inst C ds∧Frze o 0 (F x (.own i)) ds){xs:List α}(h:∀(j:Nat) x,xs[j]?=some x→Made C F o x (b+j) (a+2*j)):Frze o 0 (XE nm xs a) (xs.map fun x=>(nm x,T x)):=by
 induction xs generalizing a b with
 | nil=>exact .nil
 | cons x xs ih =>
  have M:=h 0 x rfl;refine .cons ?_ (ih (b:=b+1) fun j y hj=>by
   have:=h (j+1) y hj
   rwa [show b+(j+1)=b+1+j by exact nQ.symm,show a+2*(j+1)=a+2+2*j by lia] at this)
  refine oze M.src fun e he=>?_;refine oze M.fld fun e2 he2=>?_;refine Za (hF x (b+0) o e he) fun ds h1 h2=>?_;exact h1▸(.inst (Q4 _) M.ins (Q4 _) he2 h2)
end
end
end
section
variable {w:World}
theorem Zqv (w:World):ZhJ (kk1 w.params) 70 50 "from_dict"=true:=by kd_p
theorem Zqr (w:World):ZhJ (kk1 w.params) 201 171 "from_dict"=true:=by kd_p
theorem ZrX (w:World):ZhJ (kk1 w.params) 324 306 "from_dict"=true:=by kd_p
theorem ZqY (w:World):ZhJ (kk1 w.params) 275 241 "from_dict"=true:=by kd_p
theorem Zet {n:Nat}(h:os.length=1){o2:Qg}{x y:O}(hx:os=[x]) (hy:o2[i]?=some (Xv (iot [i] n) x)):∀(j k:Nat),([i]:List Nat)[j]?=some k→∃x,os[j]?=some x∧o2[k]?=some (Xv (iot [i] n) x):=fun j k h=>by
 subst hx;induction j using Nat.casesOn with
 | zero=>obtain rfl:=Kc h;exact ⟨_,rfl,hy⟩
 | succ j=>exact Zp h
theorem Zfw (I:IsK kk1 G w){a b c d:D}:OSpecC G (.ref 36) 2 ([.dict [] e0]++[.inst 70 2,.dict [] 0]) (.own 1::[.d a,.d b,.d c,.d d,.own 0]) fun r os'=>r = .d .none∧∃ep,os'=[.dict [] e0,.inst 70 2,.dict (Zm0 a b c d (.own 0)) ep] :=
 ZoP I (need:=1) fun cx hG hF j=>fun j j j j e=>⟨rfl,e,by kd_p⟩
theorem Za9 (I:IsX1 G w){a:Str}{b c d:D}:OSpecC G (.ref 50) 5 [.dict (ZoZ b c d) e0] [.d (.val (.ref 70)),.d (.str a),.own 0] fun r os'=>r = .own 1∧∃e1 ep,os'=[.dict [] e1,.inst 70 2,.dict (Zm0 (.str a) b c d (.own 0)) ep] :=
 Zpr I.k (need:=4) fun cx hG hF j=>by
  intro j j e1;refine Stop.mk (XX [0] (os:=[.dict [] e1]) (args:=[.d (.str a),.d b,.d c,.d d,.own 0]) (OSpecC.toO (by rw [hG];exact Xn I.k (ZkV w) (Zfw I.k))) (Ua I.k (by kd_p) hG) (by rw [hF];decide) rfl (by simp) rfl (Zet rfl rfl rfl (y:=.dead)) ?_);rintro j os' ⟨rfl,ep,rfl⟩;exact ⟨rfl,_,_,rfl⟩
theorem Zhg {l:Qc}(h:j≠i):Zs i ((j,a)::l)=Zs i l:=if_neg h
theorem ZaA {C:Addr}{e1:Nat}{f:A→List (Str×A)}(hf:∀ι,Zf2 ι (f (.own 0))=f (.own (ι 0))):WL [i] o [.dict [] e1,.inst C 2,.dict (f (.own 0)) ep]=o.set i (.dict [] e1)++[.inst C (o.length+1),.dict (f (.own i)) ep]:=by
 show o.set i _++[O.inst C (o.length+1),O.dict (Zf2 _ (f (.own 0))) ep]=_;rw [hf];rfl
noncomputable def KeyX.f (k:KeyX) (u:A):Qe:=Zm0 (.str k.id) (.str k.ty) (.str k.sc) (.dict k.kv) u
section
theorem Zdu {k:KeyX}:Z9 (k::ks) b=(k.id,.own b)::Z9 ks (b+1):=rfl
theorem Zgg (I:IsX1 G w) (hG:c.G=G) (hF:8≤c.fuel) (X:EnvOk c (EK (kk1 w.params) 306 m H)){o₀:Qg}{ES:Qe}{K a:Nat}(h0:o₀[0]?=some (.dict ES e0)) (hnd:(ks.map KeyX.id).Nodup) (hkl:ks.length≤100){py:Pos}{Q:Fl→St→Prop}(rest:List KeyX):
 ∀(done:List KeyX) (l:Qc) (o:Qg),done++rest=ks→FdInv KeyX.id KeyX.e 70 KeyX.f 1 K a o₀ done rest o→Zs 3 l=some (.own K) →
 (∀l' o',(∀i,i≠4→i≠5→Zs i l'=Zs i l)→FdInv KeyX.id KeyX.e 70 KeyX.f 1 K a o₀ ks [] o'→Q .next ⟨l',o',[]⟩) →
 Zeu c (.Name "keyid" px) (.Name "key_dict" py) [ZZ (mAt pw1 11 2) [2,0]] (fun st=>st.own[0]?=some (.dict ES e0)) (Z9 rest (1+done.length)) ⟨l,o,[]⟩ Q:=by
 have L4:=X.l "keyid" 4 (by kd_p);have L5:=X.l "key_dict" 5 (by kd_p);have G0:=X.g "Key" (.ref 70) (by kd_p) (X.gl _ _ (by kd_p));induction rest with
 | nil =>
  intro done l o hks J h3 q;rw [Rj] at hks;subst hks;exact ⟨(J.kept 0 (by have:=J.k1;have:=J.k2;lia) (by have:=J.k1;lia) (.inl (by exact Kq _))).trans h0,q l o (fun j j j=>rfl) J⟩
 | cons k rest ih =>
  intro done l o hks J h3 q;rw [Zdu];refine ⟨(J.kept 0 (by have:=J.k1;have:=J.k2;lia) (by have:=J.k1;lia) (.inl (by exact Kq _))).trans h0,?_⟩;obtain ⟨ek,hk⟩:=J.todo 0 k rfl;obtain ⟨eK,hK⟩:=J.res;have k1:=J.k1;rw [Rc] at k1;refine Z7 (ZK L4 (Z7 (ZK L5 (ZO (ZcJ ?_ rfl)))));refine ZfI [1+done.length] (o:=o) (args:=[.d (.str k.id),.own 0]) (os:=[.dict k.e ek]) (kIn I.k hG) (Zqv w) (hG▸Za9 I) (Kr (by decide) hF) (ZQ G0 rfl) ?_ rfl rfl rfl rfl;refine Zq (Ze L4 rfl (Zq (Ze L5 rfl (Ym ⟨_,_,[],rfl,rfl,by simp,rfl,Zet rfl rfl hk (y:=.dead),?_⟩)) rfl)) rfl;rintro j os' ⟨rfl,e1,e9,rfl⟩;rw [ZaA (f:=fun u=>Zm0 (.str k.id) (.str k.ty) (.str k.sc) (.dict k.kv) u) fun j=>rfl,show YN (iot [1+done.length] o.length) (.own 1) = .own o.length from rfl];have hKl:=(ZB hK).1;have hid:k.id∉(XE KeyX.id done a).map (·.1):=by
   rw [XT];intro hm;rw [←hks,Q9] at hnd;exact (List.nodup_append.mp hnd).2.2 _ hm _ (.head _) rfl
  refine Ze (a:=.own K) (X.l "keys_res" 3 (by kd_p)) h3 (Ze (a:=.d (.str k.id)) L4 rfl ?_);refine WC (i:=K) (es:=XE KeyX.id done a) (ep:=eK) ?_ (YA hid) ?_ fun e2=>?_
  ·rw [Kl (by rw [Q8];exact hKl),Rw (by omega)];exact hK
  ·rw [Zc7]
   have:=congrArg List.length hks;rw [Qu,Rc] at this;exact nW (by assumption) (Kr (by assumption) (by decide))
  ·have ld:(done++[k]).length=done.length+1:=by rw [Qu];rfl
   refine ZR ?_
   have:=ih (done++[k]) ((5,.own (1+done.length))::(4,.d (.str k.id))::l) _ (by rw [Qy];exact hks) (J.step (e1:=e1) (ep:=e9) (e2:=e2)) h3 fun l' o' hl' J'=>q l' o' (fun i h4 h5=>(hl' i h4 h5).trans ((Zhg (Ne.symm h5)).trans (Zhg (Ne.symm h4)))) J';replace this:=ld▸this;exact this
end
end
section
variable {w:World}
section
theorem Zgv (I:IsX1 G w) (hG:c.G=G) (hF:8≤c.fuel) (X:EnvOk c (EK (kk1 w.params) 306 m H)) (hnd:(ks.map KeyX.id).Nodup) (hkl:ks.length≤100){K a e:Nat}{l:Qc}(W:KeysW ks o) (hK:o[K]?=some (.dict [] e)) (hl:o.length=a) (hk:1+ks.length≤K) (h2:Zs 2 l=some (.own 0)) (h3:Zs 3 l=some (.own K)){Q:Fl→St→Prop}
 (q:∀l' o',(∀i,i≠4→i≠5→Zs i l'=Zs i l)→FdInv KeyX.id KeyX.e 70 KeyX.f 1 K a o ks [] o'→Q .next ⟨l',o',[]⟩):XJ c [ZZ (mAt pw1 11 2) [2]] ⟨l,o,[]⟩ Q:=by
 refine oze W.d fun e0 h0=>?_;refine ZO (Zdp (Xu (Ze (X.l "keys" 2 (by kd_p)) h2 (ZfZ h0 PySem.F.slot_dict_items PySem.F.type_dict_items (Zjc h0 ⟨_,_,_,0,_,e0,rfl,h0,?_⟩))) rfl rfl) (fun j=>rfl) rfl);exact Zgg I hG hF X h0 hnd hkl ks [] l o rfl (.start hl hK W.at_ hk) h3 fun l' o' hl' J=>ZR (q l' o' hl' J)
theorem Zit (I:IsX1 G w) (hG:c.G=G) (hF:8≤c.fuel) (X:EnvOk c (EK (kk1 w.params) 306 m H)){nm:Str}{t:Int}{h:Qq}(hn:ids.Nodup) (hil:ids.length≤100) (ht:1≤t) (hhl:h.length≤1000){l:Qc}{Q:Fl→St→Prop}{e:Nat}(h8:Zs 8 l=some (.own i)) (ho:o[i]?=some (.dict (Xc nm ids t h) e))
 (q:∀e1 e2,Q .next ⟨(9,.own o.length)::l,o.set i (.dict [] e1)++[.inst 201 (o.length+1),.dict (XC nm ids t h (.own i)) e2],[]⟩):XJ c [ZZ (mAt pw1 11 2) [5,1,0]] ⟨l,o,[]⟩ Q:=by
 refine ZO (XH ?_ rfl);refine ZfI [i] (o:=o) (args:=[.own 0]) (os:=[.dict (Xc nm ids t h) e]) (kIn I.k hG) (Zqr w) (hG▸UV I hn hil ht hhl) hF (ZQ (X.g "DelegatedRole" (.ref 201) (by kd_p) (X.gl _ _ (by kd_p))) rfl) ?_ rfl rfl rfl rfl;refine Zq (Ze (X.l "role_dict" 8 (by kd_p)) h8 (Ym ⟨_,o,[],rfl,rfl,(by simp),rfl,Zet rfl rfl ho (y:=.dead),?_⟩)) rfl;rintro j os' ⟨rfl,e1,e2,rfl⟩;rw [ZaA (f:=fun u=>XC nm ids t h u) fun j=>rfl,show YN (iot [i] o.length) (.own 1) = .own o.length from rfl];exact ZK (X.l "new_role" 9 (by kd_p)) (ZR (q e1 e2))
theorem Zrf (I:IsX1 G w) (hG:c.G=G) (X:EnvOk c (EK (kk1 w.params) 306 m H)){nm:Str}{t:Int}{h:Qq}{u:A}{l:Qc}{Q:Fl→St→Prop}{k e e':Nat}{es:Qe}(h9:Zs 9 l=some (.own i)) (ho:o[i]?=some (.inst 201 j)) (ho2:o[j]?=some (.dict (XC nm ids t h u) e)) (h7:Zs 7 l=some (.own k)) (ho3:o[k]?=some (.dict es e')) (hn:nm∉es.map (·.1))
 (q:Q .next ⟨l,o,[]⟩):XJ c [ZZ (mAt pw1 11 2) [5,1,1]] ⟨l,o,[]⟩ Q:=by
 refine ZO (Zcy (XO (YT (Ze (X.l "new_role" 9 (by kd_p)) h9 (Zjs (K:=kk1 w.params) (a:=.d (.str nm)) (kIn I.k hG) (by kd_p) ho ho2 rfl rfl (Ze (X.l "roles_res" 7 (by kd_p)) h7 (ZkK ho3 (Yg ⟨fun z=>?_,fun r=>ZR (ZR q)⟩)))))) rfl));rw [ZiA hn] at z;exact Xi z
end
end
section
variable {w:World}
section
variable {t:Qg}{x y:O}
theorem YX (h:j≠i):(o.set i x)[j]?=o[j]?:=Rw (Ne.symm h)
theorem Zbx (h:o[i]?=some y):(o.set i x)[i]?=some x:=List.getElem?_set_self (ZB h).1
theorem Ys (h:j<o.length):(o++t)[j]?=o[j]?:=Kl h
theorem WA (h:o.length=j):(o++x::t)[j]?=some x:=by subst h;exact Za2
theorem Zbe (h:o.length+1=j):(o++x::y::t)[j]?=some y:=by subst h;rw [Km (Ko _ _),Q6];rfl
end
theorem Zhw {l:Qc}{s:Qh}{e:Nat}{b:A}{es es':Qe}(h:o[i]?=some (.dict es e)) (hv:Z5 es x=some a) (hw:YR es x=es') (hz:es.length≤1000):mdF .pop2 ⟨l,o,b::.d (.str x)::.own i::s⟩=some fun ep=>⟨l,o.set i (.dict es' ep),a::s⟩:=by
 subst hw;exact Zl0 h hv hz
section
theorem Zic (I:IsX1 G w) (hG:c.G=G) (hF:9≤c.fuel) (X:EnvOk c (EK (kk1 w.params) 306 m H)){t:Int}{p:Str}(hn:ids.Nodup) (hl:ids.length≤100) (ht:1≤t) (h1:1≤b) (hb:b≤32){l:Qc}{Q:Fl→St→Prop}{e:Nat}(h10:Zs 10 l=some (.own i)) (ho:o[i]?=some (.dict (ZcW ids t b p) e))
 (q:∀e1 e2,Q .next ⟨(11,.own o.length)::l,o.set i (.dict [] e1)++[.inst 275 (o.length+1),.dict (Zc1 ids t b p (.own i)) e2],[]⟩):XJ c [ZZ (mAt pw1 11 2) [8,0]] ⟨l,o,[]⟩ Q:=by
 refine ZO (XH ?_ rfl);refine ZfI [i] (o:=o) (args:=[.own 0]) (os:=[.dict (ZcW ids t b p) e]) (kIn I.k hG) (ZqY w) (hG▸ZaB I hn hl ht h1 hb) hF (ZQ (X.g "SuccinctRoles" (.ref 275) (by kd_p) (X.gl _ _ (by kd_p))) rfl) ?_ rfl rfl rfl rfl;refine Zq (Ze (X.l "succinct_roles_dict" 10 (by kd_p)) h10 (Ym ⟨_,o,[],rfl,rfl,(by simp),rfl,Zet rfl rfl ho (y:=.dead),?_⟩)) rfl;rintro j os' ⟨rfl,e1,e2,rfl⟩;rw [ZaA (f:=fun u=>Zc1 ids t b p u) fun j=>rfl,show YN (iot [i] o.length) (.own 1) = .own o.length from rfl];exact ZK (X.l "succinct_roles_info" 11 (by kd_p)) (ZR (q e1 e2))
end
theorem Zho (x:KeyX) (i:Nat) (o:Qg) (e:Nat) (h:o[i]?=some (.dict [] e)):∃ds,x.d = .inst 70 ds∧Frze o 0 (x.f (.own i)) ds :=
 ⟨_,rfl,.cons (.d _) (.cons (.d _) (.cons (.d _) (.cons (.d _) (.cons (.dict (Q4 _) h .nil) .nil))))⟩
theorem Zj9 {t:Int}{p:Str}{n e e2:Nat}(h1:o[n]?=some (.inst 275 (n+1))) (h2:o[n+1]?=some (.dict (Zc1 ids t b p (.own i)) e)) (h:o[i]?=some (.dict [] e2)):Frz o 0 (.own n) (Zx ids t b p) :=
 .inst (Q4 _) h1 (Q4 _) h2 (.cons (.d _) (.cons (.d _) (.cons (.dict (Q4 _) h .nil) (.cons (.d _) (.cons (.d _) (.cons (.d _) (.cons (.d _) .nil)))))))
theorem Zcr {n:Nat}{x:O}(h:o.length=n):(o.set i x).length=n:=List.length_set.trans h
theorem Zea (I:IsX1 G w){t:Int}{p:Str}(hn:ids.Nodup) (hil:ids.length≤100) (ht:1≤t) (h1:1≤b) (hb:b≤32) (hkn:(ks.map KeyX.id).Nodup) (hkl:ks.length≤100) (W:WrS ids t b p ks os):
 OSpecC G (.ref 306) 10 os [.d (.val (.ref 324)),.own (ks.length+1)] fun r os'=>os.length≤os'.length∧Frz os' 0 r (Z1 (WR ks) (Zx ids t b p)) :=
 ZgB I.k (need:=9) fun cx hG hF E=>by
  have X:=E.ok I.k {rw:=[288,295,296,302],mks:=[(290,[0,1,3]),(299,[0,1,3,7])]} hG;refine oze W.d fun ed hd=>?_;refine oze W.k.d fun e0 h0=>?_;refine oze W.s fun es hs=>?_;have hl:=W.len;rw [Rj];refine Zad (ZaW hd) ?_;refine Zf (Zht hd rfl (Rd rfl)) fun e1=>?_;refine Stop.mk (Zgv I hG (by rw [hF];decide) X hkn hkl (K:=ks.length+3) (a:=ks.length+4) (e:=0) ⟨⟨e0,?_⟩,fun j k hk=>?_⟩ (WA (Zcr hl)) (by rw [Qu,Q8,hl];rfl) (by omega) rfl ?_ fun l' o' hl' J=>?_)
  ·rw [Ys (by rw [Q8];exact Nat.lt_of_sub_eq_succ (by assumption)),YX (by omega)];exact h0
  ·refine oze (W.k.at_ j k hk) fun e he=>⟨e,?_⟩
   have:=(ZB hk).1;rw [Ys (by rw [Q8];omega),YX (by omega)];exact he
  ·exact congrArg (some∘A.own) (Zcr hl)
  have hd1:o'[ks.length+1]?=some (.dict [("succinct_roles",.own (ks.length+2))] e1):=by
   rw [J.kept _ (by omega) (by omega) (.inr (by show 1+(_+0)≤_;omega)),Ys (by rw [(Zcr hl)];exact Nat.le_succ _)];exact Zbx hd
  have hs1:o'[ks.length+2]?=some (.dict (ZcW ids t b p) es):=by
   rw [J.kept _ (by exact Nat.le_succ _) (by lia) (.inr (by show 1+(_+0)≤_;lia)),Ys (by rw [(Zcr hl)];exact Kq _),YX (by lia)];exact hs
  refine XF ?_;refine Zf (WD (L:=[(0,.d (.val (.ref 324))),(1,.own (ks.length+1)),(3,.own (ks.length+3))]) (Z0 ?_ (Z0 ?_ (Z0 ?_ Wh))) rfl) ?_
  ·exact (hl' 0 (by decide) (by decide)).trans rfl
  ·exact (hl' 1 (by decide) (by decide)).trans rfl
  ·exact (hl' 3 (by decide) (by decide)).trans (congrArg (some∘A.own) (Zcr hl))
  refine Zad (ZaW hd1) ?_;refine Zf (ZgS hd1 rfl) fun u=>?_;refine Zad (ZaW hd1) ?_;refine Zf (Zhw (es':=[]) hd1 rfl rfl (Rd rfl)) fun e2=>?_;refine Stop.mk (Zic I hG (Nat.le_of_eq hF.symm) X hn hil ht h1 hb (i:=ks.length+2) (e:=es) rfl ((YX (by lia)).trans hs1) fun e3 e4=>?_);have hlo:=J.len;have hle:(o'.set (ks.length+1) (.dict [] e2)).length=ks.length+4+2*ks.length:=by rw [Q8];exact hlo
  rw [hle];generalize hz:ks.length+4+2*ks.length=n at hle hlo ⊢;have hle2:((o'.set (ks.length+1) (.dict [] e2)).set (ks.length+2) (.dict [] e3)).length=n:=by rw [Q8];exact hle
  have get:∀{j:Nat} {x:O},o'[j]?=some x→j≠ks.length+1→j≠ks.length+2→∀y1 y2,((o'.set (ks.length+1) (.dict [] e2)).set (ks.length+2) (.dict [] e3)++[y1,y2])[j]?=some x:=fun {j x} h i1 i2 y1 y2=>by
   rw [Ys (by rw [hle2,←hlo];exact (ZB h).1),YX i2,YX i1];exact h
  have q1:∀y1 y2,((o'.set (ks.length+1) (.dict [] e2)).set (ks.length+2) (.dict [] e3)++[y1,y2])[ks.length+1]?=some (.dict [] e2):=fun y1 y2=>by
   rw [Ys (by lia),YX (by lia)];exact Zbx hd1
  have q2:∀y1 y2,((o'.set (ks.length+1) (.dict [] e2)).set (ks.length+2) (.dict [] e3)++[y1,y2])[ks.length+2]?=some (.dict [] e3):=fun y1 y2=>by
   rw [Ys (by lia)];exact Zbx ((YX (by lia)).trans hs1)
  have q3:∀y1 y2,((o'.set (ks.length+1) (.dict [] e2)).set (ks.length+2) (.dict [] e3)++[y1,y2])[n]?=some y1:=fun y1 y2=>WA hle2;have q4:∀y1 y2,((o'.set (ks.length+1) (.dict [] e2)).set (ks.length+2) (.dict [] e3)++[y1,y2])[n+1]?=some y2:=fun y1 y2=>Zbe (by rw [hle2]);obtain ⟨eK,hK⟩:=J.res;replace hK:=get hK (by lia) (by lia);have hM:∀y1 y2,∀(j:Nat) x,ks[j]?=some x→Made 70 KeyX.f ((o'.set (ks.length+1) (.dict [] e2)).set (ks.length+2) (.dict [] e3)++[y1,y2]) x (1+j) (ks.length+4+2*j):=fun y1 y2 j x hj=>by
   have hj2:=(ZB hj).1;have M:=J.made j x hj;refine M.mono ?_ ?_ ?_
   ·exact M.src.elim fun e he=>(get he (by lia) (by lia) y1 y2).trans he.symm
   ·exact (get M.ins (by lia) (by lia) y1 y2).trans M.ins.symm
   ·exact M.fld.elim fun e he=>(get he (by lia) (by lia) y1 y2).trans he.symm
  generalize hO:(o'.set (ks.length+1) (.dict [] e2)).set (ks.length+2) (.dict [] e3)++[O.inst 275 (n+1),O.dict (Zc1 ids t b p (.own (ks.length+2))) e4]=OO;replace hK:OO[ks.length+3]?=some _:=hO▸hK _ _;replace hM:∀(j:Nat) x,ks[j]?=some x→Made 70 KeyX.f OO x (1+j) (ks.length+4+2*j):=hO▸hM _ _;replace q1:OO[ks.length+1]?=some _:=hO▸q1 _ _;replace q2:OO[ks.length+2]?=some _:=hO▸q2 _ _;replace q3:OO[n]?=some _:=hO▸q3 _ _;replace q4:OO[n+1]?=some _:=hO▸q4 _ _;have hlen:os.length≤OO.length:=by rw [←hO,Qu,hle2,hl];lia
  clear hO;refine XF ?_;refine Stop.mk (ZcF (o:=OO) (args:=[.own (ks.length+3),.d .none,.own n,.own (ks.length+1)]) (hG▸Xn I.k (Zbs w) (Uf I WE ZcB (.inl rfl))) (Ua I.k (by kd_p) hG) (by rw [hF];decide) rfl ?_);rintro u os' ⟨rfl,ep,rfl⟩;refine ⟨by rw [Qu];exact Ko _ _,by rw [Qu];lia,?_⟩;have lift:∀(i:Nat) x,OO[i]?=some x→(OO++[O.inst 324 (OO.length+1),O.dict (ZjJ (.own (ks.length+3)) (.d .none) (.own n) (.own (ks.length+1))) ep])[i]?=some x:=fun i x h=>(Ys (ZB h).1).trans h;refine .inst (i:=OO.length) (j:=OO.length+1) (Q4 _) (WA rfl) (Q4 _) (Zbe rfl) ?_;refine .cons (.dict (Q4 _) (lift _ _ hK) (ZbH (b:=1) (a:=ks.length+4) Zho fun j x hj=>(hM j x hj).mono ?_ ?_ ?_)) (.cons (.d _) (.cons (Zj9 (lift _ _ q3) (lift _ _ q4) (lift _ _ q2)) (.cons (.dict (Q4 _) (lift _ _ q1) .nil) .nil)))
  ·exact (hM j x hj).src.elim fun e he=>(lift _ _ he).trans he.symm
  ·exact (lift _ _ (hM j x hj).ins).trans (hM j x hj).ins.symm
  ·exact (hM j x hj).fld.elim fun e he=>(lift _ _ he).trans he.symm
end
section
variable {w:World}
theorem UR {l:Qc}:Zs i ((i,a)::l)=some a:=if_pos rfl
theorem Zgh {n:Nat}:∀b,ZP b n=(List.range' b n).map A.own:=by
 induction n with
 | zero=>intro b;rfl
 | succ n ih=>intro b;show A.own b::ZP (b+1) n=_;rw [ih];rfl
theorem Zqo {l:Qc}{s:Sl}(h:o[j]?=some (.list xs)):itF .val (.one s) ⟨l,o,.own j::r⟩=some (some (j,xs),xs,⟨l,o,r⟩):=by
 show (WU o j).map _=_;rw [Zbq h];rfl
theorem Zgb {n x:Nat}{xs:List Nat}(h:x::xs=List.range' b n):x=b∧∃k,n=k+1∧xs=List.range' (b+1) k:=by
 induction n using Nat.casesOn with
 | zero=>exact ZjU h
 | succ k=>exact ⟨(List.cons.inj h).1,k,rfl,(List.cons.inj h).2⟩
noncomputable abbrev Rl:=Str×Qq
noncomputable abbrev ZrR (ids:Qq) (t:Int):=FdInv (α:=Rl) (fun r=>r.1) (fun r=>Xc r.1 ids t r.2) 201 (fun r u=>XC r.1 ids t r.2 u)
structure RB (j:Nat) (XS:Qh) where
 o:Qg
 h:o[j]?=some (.list XS)
 done:List Rl
 rest:List Rl
theorem ZiT (ids:Qq) (t:Int) (x:Rl) (i:Nat) (o:Qg) (e:Nat) (h:o[i]?=some (.dict [] e)):∃ds,Y1 x.1 ids t x.2 = .inst 201 ds∧Frze o 0 (XC x.1 ids t x.2 (.own i)) ds :=
 ⟨_,rfl,.cons (.d _) (.cons (.d _) (.cons (.dict (Q4 _) h .nil) (.cons (.d _) (.cons (.d _) (.cons (.d _) (.cons (.d _) .nil))))))⟩
section
theorem Zd5 (I:IsX1 G w) (hG:c.G=G) (hF:8≤c.fuel) (X:EnvOk c (EK (kk1 w.params) 306 m H)){t:Int}{rs:List Rl}(hn:ids.Nodup) (hil:ids.length≤100) (ht:1≤t) (hrl:rs.length≤100) (hrn:(rs.map fun r=>r.1).Nodup) (hh:∀r∈rs,r.2.length≤1000){o₀:Qg}{R:Nat}{XS:Qh}{L:Qc}(hXS:XS=(List.range' b rs.length).map A.own) (h7:Zs 7 L=some (.own R)) (hL:∀a b,Le L ((9,a)::(8,b)::L)) (hj:o₀[j]?=some (.list XS)) (hjb:j<b)
 (ht0:∀(j:Nat) r,rs[j]?=some r→∃e,o₀[b+j]?=some (.dict (Xc r.1 ids t r.2) e)) {e:Nat} (hR:o₀[R]?=some (.dict [] e)) (hl:o₀.length=R+1) (hbR:b+rs.length≤R) {P:Qa} {l:Qc} (hLe:Le L l)
 (q:∀o',ZrR ids t b R (R+1) o₀ rs [] o'→P .next ⟨L,o',[]⟩) :
 LpI (.one (.l 8)) (fun st Q=>wp c (.raw [ZZ (mAt pw1 11 2) [5,1,0]] <| .raw [ZZ (mAt pw1 11 2) [5,1,1]] <| .o (.loc 9) <| .o (.loc 7) <| .o (.loc 9) <| .attr "name" [70,201,324] <| .o .set .nil) st Q) (some (j,XS)) P XS ⟨l,o₀,[]⟩:=by
 refine .mk (List.range' b rs.length) A.own (fun _:RB j XS=>L) (fun x=>x.o) [] (fun xs x=>x.done++x.rest=rs∧xs=List.range' (b+x.done.length) x.rest.length∧ZrR ids t b R (R+1) o₀ x.done x.rest x.o) ⟨o₀,hj,[],rs⟩ hXS (UF hLe rfl rfl) ⟨rfl,rfl,.start hl hR ht0 hbR⟩ (fun x u=>x.h) ?_ ?_
 ·intro i xs x hx;obtain ⟨o,ho,done,rest⟩:=x;obtain ⟨h1,h2,J⟩:=hx;refine YK (Zgb h2) fun zo1 k h3 zo2=>?_;subst zo1;subst zo2;induction rest using LLc with
  | nil=>exact nomatch h3
  | cons r rest =>
   obtain rfl:rest.length=k:=Rm h3;replace h1:done++r::rest=rs:=h1;have hlr:done.length+(rest.length+1)=rs.length:=by
    have:=congrArg List.length h1
    rwa [Qu] at this
   obtain ⟨er,hr⟩:=J.todo 0 r rfl;obtain ⟨eR,hRo⟩:=J.res;have hlo':o.length=R+1+2*done.length:=J.len;have hnm:r.1∉(XE (fun r:Rl=>r.1) done (R+1)).map (·.1):=by
    rw [XT];intro hm;rw [←h1,Q9] at hrn;exact (List.nodup_append.mp hrn).2.2 _ hm _ (.head _) rfl
   have hrm:r∈rs:=h1▸Kf _ (.head _);have hb1:b+(done.length+(rest.length+1))≤R:=J.k1;refine Zf (a:=⟨(8,.own (b+done.length))::L,o,[]⟩) rfl ?_;refine Stop.mk (Zit I hG hF X hn hil ht (hh r hrm) (UR) hr fun e1 e2=>?_);have q1:(o.set (b+done.length) (O.dict [] e1)++[O.inst 201 (o.length+1),O.dict (XC r.1 ids t r.2 (.own (b+done.length))) e2])[o.length]?=some (O.inst 201 (o.length+1)):=WA Q8;have q2:(o.set (b+done.length) (O.dict [] e1)++[O.inst 201 (o.length+1),O.dict (XC r.1 ids t r.2 (.own (b+done.length))) e2])[o.length+1]?=some (O.dict (XC r.1 ids t r.2 (.own (b+done.length))) e2):=Zbe (congrArg Nat.succ Q8);have q3:(o.set (b+done.length) (O.dict [] e1)++[O.inst 201 (o.length+1),O.dict (XC r.1 ids t r.2 (.own (b+done.length))) e2])[R]?=some (O.dict (XE (fun r:Rl=>r.1) done (R+1)) eR):=by
    rw [Ys (by rw [Q8];lia),YX (by lia)];exact hRo
   refine XF ?_;have h7':∀a b:A,Zs 7 ((9,a)::(8,b)::L)=some (.own R):=fun a b=>h7;refine Stop.mk (Zrf I hG X UR q1 q2 (h7' _ _) q3 hnm ?_);refine XF ?_;refine Zf (ZcD (h7' _ _)) ?_;refine Zf (Zrd (a:=.d (.str r.1)) q1 q2 rfl rfl rfl) ?_;refine ZnY q3 (by rw [Zc7];exact nW (by assumption) (Kr (by assumption) (by decide))) fun e3=>?_;rw [YA hnm];refine ⟨⟨_,?_,done++[r],rest⟩,⟨(Qy _ _ _).trans h1,?_,J.step (e1:=e1) (ep:=e2) (e2:=e3)⟩,hL _ _,rfl,rfl⟩
   ·show (WH o (b+done.length) R _ _ _ _)[j]?=_;rw [Uu (by lia) (by lia) (by lia)];exact ho
   ·rw [Qu];rfl
 ·rintro ⟨o,ho,done,rest⟩ ⟨h1,h2,J⟩;induction rest using LLc with
  | nil=>rw [Rj] at h1;subst h1;exact q o J
  | cons r rest=>exact nomatch h2
end
end
variable {rs:List Rl}
section
variable {w:World}
theorem Zd9 (I:IsX1 G w){t:Int}(hn:ids.Nodup) (hil:ids.length≤100) (ht:1≤t) (hkn:(ks.map KeyX.id).Nodup) (hkl:ks.length≤100) (hrl:rs.length≤100) (hrn:(rs.map fun r=>r.1).Nodup) (hh:∀r∈rs,r.2.length≤1000) (hnm:∀r∈rs,Zcx r.1) (W:WrT ids t ks rs os):
 OSpecC G (.ref 306) 10 os [.d (.val (.ref 324)),.own (ks.length+1)] fun r os'=>os.length≤os'.length∧Frz os' 0 r (Yv (WR ks) (Zn ids t rs)) :=
 ZgB I.k (need:=9) fun cx hG hF E=>by
  have X:=E.ok I.k {rw:=[288,295,296,302],mks:=[(290,[0,1,3]),(299,[0,1,3,7])]} hG;refine oze W.d fun ed hd=>?_;refine oze W.k.d fun e0 h0=>?_;have hl:=W.len;rw [Rj];refine Zad (ZaW hd) ?_;refine Zf (Zht hd rfl (Rd rfl)) fun e1=>?_;refine Stop.mk (Zgv I hG (by rw [hF];decide) X hkn hkl (K:=ks.length+3+rs.length) (a:=ks.length+3+rs.length+1) (e:=0) ⟨⟨e0,?_⟩,fun j k hk=>?_⟩ (WA (Zcr hl)) (by rw [Qu,Q8,hl];rfl) (by lia) rfl ?_ fun l' o' hl' J=>?_)
  ·rw [Ys (by rw [Q8];lia),YX (by lia)];exact h0
  ·refine oze (W.k.at_ j k hk) fun e he=>⟨e,?_⟩
   have:=(ZB hk).1;rw [Ys (by rw [Q8];lia),YX (by lia)];exact he
  ·exact congrArg (some∘A.own) (Zcr hl)
  have kp:∀i,1+ks.length≤i→i<ks.length+3+rs.length→i≠ks.length+1→o'[i]?=os[i]?:=fun i h1 h2 h3=>by
   rw [J.kept _ (by exact Nat.le_succ_of_le (by assumption)) (by exact Rg (by assumption)) (.inr (by show 1+(_+0)≤_;assumption)),Ys (by rw [(Zcr hl)];assumption),YX h3]
  have hd1:o'[ks.length+1]?=some (.dict [("roles",.own (ks.length+2))] e1):=by
   rw [J.kept _ (by lia) (by lia) (.inr (by show 1+(_+0)≤_;lia)),Ys (by rw [(Zcr hl)];lia)];exact Zbx hd
  refine XF ?_;refine Zf (WD (L:=[(0,.d (.val (.ref 324))),(1,.own (ks.length+1)),(3,.own (ks.length+3+rs.length))]) (Z0 ?_ (Z0 ?_ (Z0 ?_ Wh))) rfl) ?_
  ·exact (hl' 0 (by decide) (by decide)).trans rfl
  ·exact (hl' 1 (by decide) (by decide)).trans rfl
  ·exact (hl' 3 (by decide) (by decide)).trans (congrArg (some∘A.own) (Zcr hl))
  have hlo:=J.len;refine Zad (ZaW hd1) ?_;refine Zf (Zhw (es':=[]) hd1 rfl rfl (Rd rfl)) fun e2=>?_;have hle:(o'.set (ks.length+1) (.dict [] e2)).length=ks.length+3+rs.length+1+2*ks.length:=by rw [Q8];exact hlo
  have hx1:(o'.set (ks.length+1) (.dict [] e2)++[.dict [] 0])[ks.length+2]?=some (.list (ZP (ks.length+3) rs.length)):=by
   rw [Ys (by lia),YX (by lia),kp _ (by lia) (by exact Ko _ _) (by lia)];exact W.l
  refine Zf (Zqo hx1) ?_;refine Zd5 (R:=ks.length+3+rs.length+1+2*ks.length) (L:=[(0,.d (.val (.ref 324))),(1,.own (ks.length+1)),(3,.own (ks.length+3+rs.length)),(7,.own (ks.length+3+rs.length+1+2*ks.length))]) I hG (by rw [hF];decide) X hn hil ht hrl hrn hh (Zgh _) rfl (fun u u=>Yj rfl) hx1 (by exact Kq _) (fun j r hr=>?_) (WA hle) (by rw [Qu,hle];rfl) (by omega) ?_ fun o2 J2=>?_
  ·refine oze (W.r j r hr) fun e he=>⟨e,?_⟩
   have:=(ZB hr).1;rw [Ys (by omega),YX (by omega),kp _ (by omega) (by exact Ry (by assumption) _) (by omega)];exact he
  ·refine Z0 rfl (Z0 rfl (Z0 rfl (Z0 ?_ Wh)));exact congrArg (some∘A.own) hle
  have hl2:=J2.len;generalize hR:ks.length+3+rs.length+1+2*ks.length=R at *;have kp2:∀{i:Nat} {x:O},o'[i]?=some x→i≠ks.length+1→(i<ks.length+3∨ks.length+3+rs.length≤i)→o2[i]?=some x:=fun {i x} h h1 h2=>by
   have:=(ZB h).1;rw [J2.kept _ (by omega) (by omega) (by show _∨_+(_+0)≤_;assumption),Ys (by omega),YX h1];exact h
  have hd2:o2[ks.length+1]?=some (.dict [] e2):=by
   rw [J2.kept _ (by omega) (by lia) (.inl (by exact Nat.le_succ _)),Ys (by lia)];exact Zbx hd1
  obtain ⟨eK,hK⟩:=J.res;obtain ⟨eR,hRo⟩:=J2.res;have hK2:=kp2 hK (by lia) (.inr (Kq _));have hM:∀(j:Nat) x,ks[j]?=some x→Made 70 KeyX.f o2 x (1+j) (ks.length+3+rs.length+1+2*j):=fun j x hj=>by
   have hj2:=(ZB hj).1;have M:=J.made j x hj;refine M.mono ?_ ?_ ?_
   ·exact M.src.elim fun e he=>(kp2 he (by lia) (.inl (by lia))).trans he.symm
   ·exact (kp2 M.ins (by lia) (.inr (by lia))).trans M.ins.symm
   ·exact M.fld.elim fun e he=>(kp2 he (by lia) (.inr (by lia))).trans he.symm
  refine Zad (ZaW hd2) ?_;refine Zf (ZgS hd2 rfl) fun u=>?_;refine Stop.mk (ZcF (o:=o2) (args:=[.own (ks.length+3+rs.length),.own R,.d .none,.own (ks.length+1)]) (hG▸Xn I.k (Zbs w) (Uf I ZcB WE (.inr ⟨R,_,eR,rfl,hRo,fun e he=>(by
   have:=Ri (f:=(·.1)) he;rw [XT] at this;exact Za (Yh this) fun r h1 h2=>h2▸hnm r h1)⟩))) (Ua I.k (by kd_p) hG) (by rw [hF];decide) rfl ?_)
  rintro u os' ⟨rfl,ep,rfl⟩;refine ⟨by rw [Qu];exact Ko _ _,by rw [Qu];lia,?_⟩;have lift:∀(i:Nat) x,o2[i]?=some x→(o2++[O.inst 324 (o2.length+1),O.dict (ZjJ (.own (ks.length+3+rs.length)) (.own R) (.d .none) (.own (ks.length+1))) ep])[i]?=some x:=fun i x h=>(Ys (ZB h).1).trans h;refine .inst (i:=o2.length) (j:=o2.length+1) (Q4 _) (WA rfl) (Q4 _) (Zbe rfl) ?_;refine .cons (.dict (Q4 _) (lift _ _ hK2) (ZbH (b:=1) (a:=ks.length+3+rs.length+1) Zho fun j x hj=>(hM j x hj).mono ?_ ?_ ?_)) (.cons (.dict (Q4 _) (lift _ _ hRo) (ZbH (b:=ks.length+3) (a:=R+1) (ZiT ids t) fun j x hj=>(J2.made j x hj).mono ?_ ?_ ?_)) (.cons (.d _) (.cons (.dict (Q4 _) (lift _ _ hd2) .nil) .nil)))
  ·exact (hM j x hj).src.elim fun e he=>(lift _ _ he).trans he.symm
  ·exact (lift _ _ (hM j x hj).ins).trans (hM j x hj).ins.symm
  ·exact (hM j x hj).fld.elim fun e he=>(lift _ _ he).trans he.symm
  ·exact (J2.made j x hj).src.elim fun e he=>(lift _ _ he).trans he.symm
  ·exact (lift _ _ (J2.made j x hj).ins).trans (J2.made j x hj).ins.symm
  ·exact (J2.made j x hj).fld.elim fun e he=>(lift _ _ he).trans he.symm
end
section
variable {w:World}
theorem ZnL (I:IsX1 G w) (hG:c.G=G) (hF:25≤c.fuel){l:Qc}{T:D}{u:Nat}{W:Qg→Prop}(hT:T = .inst 324 es) (hes:Z5 es ("to_dict":Str)=none) (S1:OSpecC G (.ref 314) 7 [] [.d T] fun r os'=>r = .own u∧W os') (S2:∀os,W os→OSpecC G (.ref 306) 10 os [.d (.val (.ref 324)),.own u] fun r os'=>os.length≤os'.length∧Frz os' 0 r T)
 {i:Nat} {x:Str} {y:Str} {p1 p2 p3 p4 p5 p6:Pos} (L:IsL c x i) (hl:Zs i l=some (.d T)) (GD:IsG c y (.ref 324)) (h1:(p2.endLine==p3.line)=true) (h2:(p5.endLine==p6.line)=true) (q:Q ⟨l,o,.d T::k⟩) :
 EJ c (.Call (.Attribute (.Name y p1) "from_dict" p2) [.Call (.Attribute (.Name x p4) "to_dict" p5) [] [] p6] [] p3) ⟨l,o,k⟩ Q:=by
 have hK:=kIn I.k hG;refine ZfW (Zg4 hK (ZrX w) (need:=10) (Kr (by decide) hF) (ZQ GD rfl) (Zq (Xu (Ze L hl ?_) rfl h2) rfl) rfl rfl rfl h1);rw [hT];refine X8 (f:=314) hK (by kd_p) hes ?_;refine hT▸(Zdq (args:=[T]) (hG▸S1) (XW I.k (by kd_p) hG) (Kr (by decide) hF) rfl ?_);rintro z os ⟨rfl,hos⟩;have S:=S2 os hos;clear hos;have hlo:os.length=(os.map (Xv (o.length+·))).length:=(Qw _).symm;refine Ym ⟨List.range' o.length (os.map (Xv (o.length+·))).length,os,[.own u],_,hG▸S,_,_,k,by rw [Zbw];rfl,rfl,List.nodup_range',by rw [List.length_range'];exact hlo,fun j i h=>?_,?_⟩
 ·rw [Zbw];obtain ⟨hj,rfl⟩:j<os.length∧o.length+j=i:=by
   refine oze (ZB h) fun h1 h2=>?_;rw [List.getElem_range',Nat.one_mul] at h2;rw [List.length_range',←hlo] at h1;exact ⟨h1,h2⟩
  refine ⟨os[j],Ke hj,?_⟩;rw [Km (Ko _ _),Q6,Ru,Ke hj];rfl
 ·rintro a os' ⟨hle,hf⟩;rw [Zbw,ZiJ (hlo▸hle)];refine ⟨_,_,_,rfl,Zlx (fun i=>Ko _ _) (fun i x h=>?_) hf,q⟩;rw [Km (Ko _ _),Q6,Ru,h];rfl
noncomputable def Zdb (x:Str):KeyX:=⟨x,"t","s",[("public",.str ("p"++x))]⟩
noncomputable def ZJ (ids:Qq):Qd:=WR (ids.map Zdb)
theorem U6:(ids.map Zdb).map KeyX.id=ids:=by rw [Q0];exact List.map_id _
section
variable {l:Qc}{t:Int}{p2 p5 p6:Pos}
theorem ZqW (I:IsX1 G w) (hG:c.G=G) (hF:25≤c.fuel){p:Str}(hn:ids.Nodup) (hil:ids.length≤100) (ht:1≤t) (hb1:1≤b) (hb:b≤32) (L:IsL c x i) (hl:Zs i l=some (.d (Z1 (ZJ ids) (Zx ids t b p)))) (GD:IsG c y (.ref 324)) (h1:(p2.endLine==p3.line)=true) (h2:(p5.endLine==p6.line)=true) (q:Q ⟨l,o,.d (Z1 (ZJ ids) (Zx ids t b p))::k⟩):
 EJ c (.Call (.Attribute (.Name y p1) "from_dict" p2) [.Call (.Attribute (.Name x p4) "to_dict" p5) [] [] p6] [] p3) ⟨l,o,k⟩ Q :=
 ZnL I hG hF rfl (by kd_p) (Ziq I (ks:=ids.map Zdb) (by rw [U6];exact hn) (by rw [Qw];exact hil)) (fun os W=>Zea I hn hil ht hb1 hb (by rw [U6];exact hn) (by rw [Qw];exact hil) W) L hl GD h1 h2 q
theorem Zr4 (I:IsX1 G w) (hG:c.G=G) (hF:25≤c.fuel) (hn:ids.Nodup) (hil:ids.length≤100) (ht:1≤t) (hrl:rs.length≤100) (hrn:(rs.map fun r=>r.1).Nodup) (hh:∀r∈rs,r.2.length≤1000) (hnm:∀r∈rs,Zcx r.1) (L:IsL c x i) (hl:Zs i l=some (.d (Yv (ZJ ids) (Zn ids t rs)))) (GD:IsG c y (.ref 324)) (h1:(p2.endLine==p3.line)=true) (h2:(p5.endLine==p6.line)=true) (q:Q ⟨l,o,.d (Yv (ZJ ids) (Zn ids t rs))::k⟩):
 EJ c (.Call (.Attribute (.Name y p1) "from_dict" p2) [.Call (.Attribute (.Name x p4) "to_dict" p5) [] [] p6] [] p3) ⟨l,o,k⟩ Q :=
 ZnL I hG hF rfl (by kd_p) (Zim I (ks:=ids.map Zdb) (by rw [U6];exact hn) (by rw [Qw];exact hil) hrl) (fun os W=>Zd9 I hn hil ht (by rw [U6];exact hn) (by rw [Qw];exact hil) hrl hrn hh hnm W) L hl GD h1 h2 q
end
end
section
variable {w:World}
theorem ZfE {n:Nat}{xs ys:Qq}:fitLB n (xs.map .str) (ys.map .str)=true:=by
 induction xs generalizing ys with
 | nil=>rfl
 | cons x xs ih=>induction ys using LLc with
  | nil=>rfl
  | cons y ys=>exact (congrArg (_&&·) ih).trans (by induction n using Nat.casesOn <;> rfl)
section
variable {l:Qc}
theorem Zbh {xs ys:Qq}:Xd (.cmp .Eq) ⟨l,o,.d (Zv ys)::.d (Zv xs)::k⟩=some ⟨l,o,.d (.bool (xs==ys))::k⟩:=by
 show (eqL (xs.map .str) (ys.map .str)).map _=_;rw [show eqL (xs.map .str) (ys.map .str)=some (xs==ys) from ?_]
 ·rfl
 ·induction ys using LLc with
  | nil=>induction xs using LLc <;> rfl
  | cons y ys =>
   refine (Zu ZfE).trans ?_;exact congrArg _ Zib
theorem Za0 {K:PySem.W.Frag}{C C':Addr}(hK:KIn c K) (hi:PySem.W.isIn K (.ref C') C=true) (q:Q ⟨l,o,.d (.bool true)::k⟩):CJ c 2 ⟨l,o,.d (.val (.ref C))::.d (.inst C' es)::.d (.val (.builtin "isinstance"))::k⟩ Q:=fun F f us vs s hl z=>by
 refine ozr z fun g ρ m W=>?_;refine oza (ZA (xs:=[.d (.inst C' es),.d (.val (.ref C))]) W.stk (by rw [hl];rfl)) fun q1 q2=>?_;have ef:f=_:=Zd q2;subst ef;obtain ⟨u1,r1,rfl,e1,v1,r2,rfl,e2,r3⟩:=q1;obtain rfl:v1 = .ref C:=e2;subst r3;refine ZS (Zcj W.keep e1) fun a ox od zo3 I1=>?_;subst zo3;exact ⟨Zl,PySem.W.isi_call (W.kIn hK) (fun M=>I1.type) hi (fun e=>nomatch e) ⟨_,⟨g,ρ,m,W.stack (Zh (a:=.d (.bool true)) rfl (Zb q2))⟩,q⟩⟩
end
theorem Wo {z:Bool}{Q:Prop}(h1:z=true→P) (h2:z=false→Q):Sel (z==true) P Q:=by
 induction z with
 | true=>exact h1 rfl
 | false=>exact h2 rfl
theorem Zab:RcZ G 1 (.dict []) (.dict []) true:=RcT.dict (need:=0) trivial
theorem ZmX (I:IsX1 G w):Zw G (.ref 43) 5 [(Zdb x).d,(Zdb x).d] fun d=>d = .bool true :=
 ZsO I.k (need:=4) fun c hG hF=>by
  refine Stop.mk (Za0 (kIn I.k hG) (by kd_p) ?_);refine Wo (fun j=>?_) (fun h=>absurd h (by simp));refine Stop.mk (Yn (r:=true) (need:=2) (RcT.z (RcT.dict (need:=1) (Uv fun e he=>?_))) (by rw [hF];decide) ?_)
  ·exact (YY he)▸(EqT.fit (n:=0) trivial (by show (_==_)=true;exact Ro _) (by decide))
  ·exact Stop.mk (Yn Zab (by rw [hF];decide) rfl)
theorem Zee (I:IsX1 G w){C:Addr}{ids':Qq}{t t':Int}{es':Qd}(hC:C=201∨C=275):Zw G (.ref 116) 4 [.inst C (("keyids",Zv ids)::("threshold",.int t)::("unrecognized_fields",.dict [])::es),.inst C (("keyids",Zv ids')::("threshold",.int t')::("unrecognized_fields",.dict [])::es')] fun d=>d = .bool ((ids==ids')&&(t==t')) :=
 ZrZ I.k (need:=3) fun c hG hF=>by
  rcases hC with rfl | rfl
  all_goals
   refine Stop.mk (Za0 (kIn I.k hG) (by kd_p) ?_);refine Zf Zbh ?_;refine Wo (fun h1=>?_) (fun h1=>?_)
   ·rw [h1];refine Wo (fun h2=>?_) (fun h2=>?_)
    ·rw [h2];exact Stop.mk (Yn Zab (by rw [hF];decide) rfl)
    ·rw [h2];rfl
   ·rw [h1];rfl
end
section
variable {w:World}
theorem ZmI {a b:Bool}:RcZ G 0 (.bool a) (.bool b) (a==b):=fun A F u v s g hh hd hu H h1 h2=>by
 obtain rfl:u = .bool a:=h1;obtain rfl:v = .bool b:=h2;exact SeqAt.RcAt.bool_bool a b _ _ _ _ ⟨rfl,g,H,Sub.refl _⟩
theorem ZnJ (w:World):Zg7 (PySem.W.findCls (kk1 w.params) (.ref 136) (.type "type") "__eq__")=some (.ref 116):=by kd_p
theorem ZhX (I:IsX1 G w){nm:Str}{t:Int}{h:Qq}:Zw G (.ref 164) 6 [Y1 nm ids t h,Y1 nm ids t h] fun d=>d = .bool true :=
 ZrJ I.k (need:=5) fun c hG hF=>by
  refine Stop.mk (Za0 (kIn I.k hG) (by kd_p) ?_);refine Stop.mk (Zbc (f:=116) (kIn I.k hG) (Zhz w) (ZnJ w) ?_);refine (WQ I.k hG hF (Zee I (.inl rfl)) (by kd_p) (by decide) ?_).out;refine Wo (fun j=>?_) (fun h=>absurd h (by simp));refine Wo (fun j=>?_) (fun h=>absurd h (by simp));refine Stop.mk (Yn ZmI (Q4 _) ?_);refine Stop.mk (Yn Wy (Q4 _) ?_);refine Zf Zbh ?_;exact congrArg (fun z=>D.bool z) (Ro _)
theorem Zja (I:IsX1 G w){ids':Qq}{t t':Int}{b':Nat}{p p':Str}:Zw G (.ref 234) 6 [Zx ids t b p,Zx ids' t' b' p'] fun d=>d = .bool ((((ids==ids')&&(t==t'))&&((b:Int)==b'))&&(p==p')) :=
 ZrO I.k (need:=5) fun c hG hF=>by
  refine Stop.mk (Za0 (kIn I.k hG) (by kd_p) ?_);refine Stop.mk (Zbc (f:=116) (kIn I.k hG) (Zhz w) (ZnJ w) ?_);refine (WQ I.k hG hF (Zee I (.inr rfl)) (by kd_p) (by decide) ?_).out;refine Wo (fun h1=>?_) (fun h1=>?_)
  ·rw [h1];refine Wo (fun h2=>?_) (fun h2=>?_)
   ·rw [h2];rfl
   ·rw [h2];rfl
  ·rw [h1];rfl
end
section
variable {w:World}
theorem Zbo (I:IsX1 G w):RcZ G 6 (.dict (ZJ ids)) (.dict (ZJ ids)) true :=
 RcT.z (RcT.dict (need:=5) (Uv fun e he=>by
  refine Za (Yh he) fun k h1 h2=>?_;refine Za (Yh h1) fun x h3 h4=>?_;exact h2▸h4▸(EqT.of_inst (RcZ.t (WF I.k (C:=70) (f:=43) (by kd_p) (ZmX I))))))
theorem Zkk (I:IsX1 G w){t:Int}:RcZ G 7 (.dict (Zn ids t rs)) (.dict (Zn ids t rs)) true :=
 RcT.z (RcT.dict (need:=6) (Uv fun e he=>by
  refine Za (Yh he) fun r h1 h2=>?_;exact h2▸(EqT.of_inst (RcZ.t (WF I.k (C:=201) (f:=164) (by kd_p) (ZhX I))))))
theorem Zbi (I:IsX1 G w){ids':Qq}{t t':Int}{b':Nat}{p p':Str}:RcZ G 6 (Zx ids t b p) (Zx ids' t' b' p') ((((ids==ids')&&(t==t'))&&((b:Int)==b'))&&(p==p')) :=
 WF I.k (C:=275) (f:=234) (by kd_p) (Zja I)
theorem Zcz {t:Int}{p:Str}:((((ids==ids)&&(t==t))&&((b:Int)==b))&&(p==p))=true:=by simp
theorem Zql (I:IsX1 G w){t:Int}{p:Str}:Zw G (.ref 299) 10 [Z1 (ZJ ids) (Zx ids t b p),Z1 (ZJ ids) (Zx ids t b p)] fun d=>d = .bool true :=
 Zhc I.k (need:=9) fun c hG hF=>by
  subst hG;refine Stop.mk (Za0 (kIn I.k rfl) (by kd_p) ?_);refine Stop.mk (Yn (Zbo I) (by rw [hF];decide) ?_);refine Stop.mk (Yn Wy (Q4 _) ?_);refine Stop.mk (Yn (r:=true) (Zcz▸Zbi I) (by rw [hF];decide) ?_);exact Stop.mk (Yn Zab (by rw [hF];decide) rfl)
theorem ZgT {l:Qc}(h:es.length≤1000):Xd (.bi .list) ⟨l,o,.d (.dict es)::k⟩=some ⟨l,o,.d (Zv (es.map (·.1)))::k⟩:=by
 refine (Zu (Kr h (by decide))).trans ?_;unfold Zv;rw [Q0];rfl
theorem ZqF (I:IsX1 G w){t:Int}(hr:rs.length≤100):Zw G (.ref 299) 10 [Yv (ZJ ids) (Zn ids t rs),Yv (ZJ ids) (Zn ids t rs)] fun d=>d = .bool true :=
 Zhc I.k (need:=9) fun c hG hF=>by
  subst hG;have hl:(Zn ids t rs).length≤1000:=by unfold Zn;rw [Qw];lia
  refine Stop.mk (Za0 (kIn I.k rfl) (by kd_p) ?_);refine Stop.mk (Yn (Zbo I) (by rw [hF];decide) ?_);refine Stop.mk (Yn (Zkk I) (by rw [hF];decide) ?_);refine Stop.mk (Yn Wy (Q4 _) ?_);refine Stop.mk (Yn Zab (by rw [hF];decide) ?_);refine Zf (ZgT hl) ?_;refine Zf (ZgT hl) ?_;refine Zf Zbh ?_;exact congrArg (fun z=>D.bool z) (Ro _)
theorem ZpE (I:IsX1 G w){t:Int}{p:Str}:Zw G (.ref 299) 10 [Z1 (ZJ ids) (Zx ids t b p),Yv (ZJ ids) (Zn ids t rs)] fun d=>d = .bool false :=
 Zhc I.k (need:=9) fun c hG hF=>by
  subst hG;refine Stop.mk (Za0 (kIn I.k rfl) (by kd_p) ?_);refine Stop.mk (Yn (Zbo I) (by rw [hF];decide) ?_);exact Stop.mk (Yn Zd2 (Q4 _) rfl)
theorem ZpS (I:IsX1 G w){t:Int}{p:Str}:Zw G (.ref 299) 10 [Yv (ZJ ids) (Zn ids t rs),Z1 (ZJ ids) (Zx ids t b p)] fun d=>d = .bool false :=
 Zhc I.k (need:=9) fun c hG hF=>by
  subst hG;refine Stop.mk (Za0 (kIn I.k rfl) (by kd_p) ?_);refine Stop.mk (Yn (Zbo I) (by rw [hF];decide) ?_);exact Stop.mk (Yn Zdf (Q4 _) rfl)
end
section
variable {w:World}
section
variable {l:Qc}
theorem Zbd {n v:Int}{a b:Expr}{y z:D}{p2:Pos}(L:IsL c x i) (hl:Zs i l=some (.d (.int v))) (h1:∀Q,Q ⟨l,o,.d y::k⟩→EJ c a ⟨l,o,k⟩ Q) (h2:∀Q,Q ⟨l,o,.d z::k⟩→EJ c b ⟨l,o,k⟩ Q) (q:Q ⟨l,o,.d (if v=n then y else z)::k⟩):EJ c (.IfExp (.Compare (.Name x p1) [.Eq] [.Constant (.int n) m p2] p3) a b p4) ⟨l,o,k⟩ Q :=
 ZgI (XO (Ze L hl (ZaZ (ZqK (Yg ⟨fun e=>h1 _ (by rw [if_pos (beq_iff_eq.mp e)] at q;exact q),fun e=>h2 _ (by rw [if_neg (by simpa using e)] at q;exact q)⟩)))) rfl)
end
noncomputable def Zaw (v:Int) (ids:Qq):Qq:=if v=0 then ids.drop 1++([("z":Str)]:Qq) else ids
noncomputable def Zcq (v t:Int):Int:=if v=1 then t+1 else t
noncomputable def ZbY (v:Int) (b:Nat):Nat:=if v=2 then b % 32+1 else b
noncomputable def Zfa (v:Int) (p:Str):Str:=if v=3 then p++"x" else p
theorem Zh0 (I:IsX1 G w) (hG:c.G=G) (hF:9≤c.fuel) (X:EnvOk c (EK (kk1 w.params) 371 m H)){t v:Int}{p:Str}(hil:ids.length≤99) (hpl:p.length≤100) (hn:(Zaw v ids).Nodup) (ht:1≤t) (hb1:1≤b) (hb:b≤32){Q:Fl→St→Prop}
 (q:Q .next ⟨(6,.d (Zx (Zaw v ids) (Zcq v t) (ZbY v b) (Zfa v p)))::[(0,.d d0),(1,.d (Zv ids)),(2,.d (.int t)),(3,.d (.int b)),(4,.d (.str p)),(5,.d (.int v))],[],[]⟩):XJ c [ZZ (fAt pw1 20) [0]] ⟨[(0,.d d0),(1,.d (Zv ids)),(2,.d (.int t)),(3,.d (.int b)),(4,.d (.str p)),(5,.d (.int v))],[],[]⟩ Q:=by
 have L1:=X.l "ids" 1 (by kd_p);have L2:=X.l "threshold" 2 (by kd_p);have L3:=X.l "bits" 3 (by kd_p);have L4:=X.l "prefix" 4 (by kd_p);have L5:=X.l "which" 5 (by kd_p);have hs:(Zaw v ids).length≤100:=by unfold Zaw;split;rw [Qu,List.length_drop];exact Kr (Nat.add_le_add_right (Nat.sub_le _ _) 1) (ad1 hil (by decide));exact Kr hil (by decide)
 have GS:=X.g "SuccinctRoles" (.ref 275) (by kd_p) (X.gl _ _ (by kd_p));have e1:(if v=0 then D.list ((ids.drop 1).map .str++[D.str "z"]) else Zv ids)=Zv (Zaw v ids):=by
  unfold Zaw Zv;split
  ·rw [Q9];rfl
  ·rfl
 have e2:(if v=1 then D.int (t+1) else D.int t)=D.int (Zcq v t):=by unfold Zcq;split <;> rfl
 have e3:(if v=2 then D.int ((b:Int).fmod 32+1) else D.int b)=D.int (ZbY v b):=by
  unfold ZbY;split
  ·exact congrArg D.int (congrArg (· + 1) (fmd b 32))
  ·rfl
 have e4:(if v=3 then D.str (p++"x") else D.str p)=D.str (Zfa v p):=by unfold Zfa;split <;> rfl
 have hT:1≤Zcq v t:=by unfold Zcq;split;exact Int.le_trans ht (Int.le_add_of_nonneg_right (by decide));exact ht
 have hB:1≤ZbY v b∧ZbY v b≤32:=by unfold ZbY;split;exact ⟨Nat.succ_pos _,Nat.mod_lt _ (by decide)⟩;exact ⟨hb1,hb⟩
 refine ZO (XH (UM (ZQ GS (Zq (Zbd (y:=.list ((ids.drop 1).map .str++[.str "z"])) (z:=Zv ids) L5 rfl (fun Q q=>?_) (fun Q q=>Ze L1 rfl q) (Zq (Zbd (y:=.int (t+1)) (z:=.int t) L5 rfl (fun Q q=>?_) (fun Q q=>Ze L2 rfl q) (Zq (Zbd (y:=.int ((b:Int).fmod 32+1)) (z:=.int b) L5 rfl (fun Q q=>?_) (fun Q q=>Ze L3 rfl q) (Zq (Zbd (y:=.str (p++"x")) (z:=.str p) L5 rfl (fun Q q=>?_) (fun Q q=>Ze L4 rfl q) (Ym ?_)) rfl)) rfl)) rfl)) rfl))) rfl)
 ·refine Wx (Zex (Ze L1 rfl (ZgG (ZkW (ZaZ ⟨1,_,rfl,Zcf (Zcf (Zn8 (a:=.d (Zv ids)) (xs:=ids.map .str) rfl (by rw [Qw];exact Kr hil (by decide)) ?_ ZbX))⟩)))));refine Zaz (by decide) (Zq (UD (Ym ⟨[.str "z"],_,rfl,?_⟩)) rfl);rw [ZmS,←List.map_drop];exact Zqc (xs:=(ids.drop 1).map .str) (ys:=[.str "z"]) rfl rfl (by rw [Qw,List.length_drop];exact Kr (Nat.add_le_add_right (Nat.sub_le _ _) 1) (ad1 hil (by decide))) q
 ·exact Wx (Ze L2 rfl (ZaZ (Zi2 q)))
 ·exact Wx (Wx (Ze L3 rfl (ZaZ (Zn9 (by decide) (ZaZ (Zi2 q))))))
 ·exact Wx (Ze L4 rfl (UD (Zkq (by rw [sizeLine_eq];exact ad1 hpl (by decide)) q)))
 ·rw [e1,e2,e3,e4];refine Wr (args:=[Zv (Zaw v ids),.int (Zcq v t),.int (ZbY v b:Nat),.str (Zfa v p)]) (hG▸ZaM I hn hs hT hB.1 hB.2) (Ua I.k (by kd_p) hG) (Kr (by decide) hF) rfl ?_;rintro j rfl;exact ZK (X.l "other" 6 (by kd_p)) (ZR q)
noncomputable def ZbE (ids ids':Qq) (t t':Int) (b b':Nat) (p p':Str):Bool:=(((ids==ids')&&(t==t'))&&((b:Int)==b'))&&(p==p')
theorem Zf5 {ids':Qq}{t t':Int}{b':Nat}{p p':Str}:ZbE ids ids' t t' b b' p p'=ZbE ids' ids t' t b' b p' p:=by
 unfold ZbE;exact (BEq.comm (a:=ids))▸(BEq.comm (a:=t))▸(BEq.comm (a:=(b:Int)))▸(BEq.comm (a:=p))▸rfl
theorem Zkx {ids':Qq}{t t':Int}{b':Nat}{p p':Str}(h:ids=ids'→t=t'→b=b'→p=p'→False):ZbE ids ids' t t' b b' p p'=false:=by
 refine Bool.eq_false_iff.mpr fun e=>?_;unfold ZbE at e;simp only [Qz,Q7] at e;exact h e.1.1.1 e.1.1.2 (Int.ofNat.inj e.1.2) e.2
theorem ZoR {t v:Int}{p:Str}(hv:v=0∨v=1∨v=2∨v=3) (hz:("z":Str)∉ids) (hb1:1≤b) (hb:b≤32):ZbE ids (Zaw v ids) t (Zcq v t) b (ZbY v b) p (Zfa v p)=false :=
 Zkx fun e1 e2 e3 e4=>by
  rcases hv with rfl | rfl | rfl | rfl
  ·refine hz (e1▸?_);unfold Zaw;exact (if_pos rfl)▸(Kf _ (.head _))
  ·unfold Zcq at e2;replace e2:=(if_pos rfl)▸e2;lia
  ·unfold ZbY at e3;rw [if_pos rfl] at e3;exact (by decide:∀b≤32,b≠b % 32+1) b hb e3
  ·have:=congrArg Str.length e4;unfold Zfa at this;rw [if_pos rfl,Q5] at this;have h1:("x":Str).length=1:=rfl;lia
theorem ZjE (I:IsX1 G w){t v:Int}{p:Str}(hv:v=0∨v=1∨v=2∨v=3) (hz:("z":Str)∉ids) (hil:ids.length≤99) (hpl:p.length≤100) (hn:ids.Nodup) (ht:1≤t) (hb1:1≤b) (hb:b≤32):
 Zw G (.ref 371) 10 [Zx ids t b p,Zv ids,.int t,.int b,.str p,.int v] fun d=>d = .bool true :=
 ZsN I.k (need:=9) (own':=[]) (args:=[Zx ids t b p,Zv ids,.int t,.int b,.str p,.int v]) (loc':=[(0,.d (Zx ids t b p)),(1,.d (Zv ids)),(2,.d (.int t)),(3,.d (.int b)),(4,.d (.str p)),(5,.d (.int v))]) (Z2 (n:=6) (names:=["roles","ids","threshold","bits","prefix","which"]) I.k (by kd_p) (ln6 fun b0 b1 b2 b3 b4 b5 S=>by kd_p)) (Zr3 w) (Zr [0,1,2,3,4,5] (by kd_p)) (by kd_p) fun c hG hF X=>by
  subst hG;have hnu:(Zaw v ids).Nodup:=by
   unfold Zaw;split
   ·refine List.nodup_append.mpr ⟨hn.sublist (List.drop_sublist _ _),by simp,fun x hx y hy e=>hz ?_⟩;exact (YY hy)▸e▸(List.mem_of_mem_drop hx)
   ·exact hn
  have h1:=ZoR (t:=t) (p:=p) hv hz hb1 hb;have h2:=Zf5.symm.trans h1;have r1:=Zbi I (ids:=ids) (ids':=Zaw v ids) (t:=t) (t':=Zcq v t) (b:=b) (b':=ZbY v b) (p:=p) (p':=Zfa v p);have r2:=Zbi I (ids:=Zaw v ids) (ids':=ids) (t:=Zcq v t) (t':=t) (b:=ZbY v b) (b':=b) (p:=Zfa v p) (p':=p);unfold ZbE at h1 h2;rw [h1] at r1;rw [h2] at r2;refine Stop.mk (Zh0 I rfl (Nat.le_of_eq hF.symm) X hil hpl hnu ht hb1 hb ?_);refine Stop.mk (Yn r1 (by rw [hF];decide) ?_);exact Stop.mk (Yn r2 (by rw [hF];decide) rfl)
end
section
variable {w:World}
theorem Zoq (I:IsK kk1 G w):DefG G 265 (Zm (kk1 w.params) 265).scope ((Zm (kk1 w.params) 265).qualname++".<locals>.") (Zm (kk1 w.params) 265).code (stm (Zm (kk1 w.params) 265).body) 1 ["self"] :=
 ZnS I (by kd_p) (by kd_p) (by kd_p) (by kd_p) (by kd_p) (by kd_p) (by kd_p) (by kd_p) (by kd_p) (by kd_p) (by kd_p) (by decide)
  (ln1 fun b0 S=>by kd_p)
theorem GSpecO.toG {f:Value}{args:Qi}(H:GSpecO G f need [] args ys):ZkX G f need args ys:=fun A F us s g h1 h2 h3 H' hv =>
 wpm (H A {F with pin:=[]} us s g [] h1 h2 h3 {base:=H'.base,g0:=H'.g0,keep:=H'.keep,reg:=H'.reg,hid:=H'.hid,gens:=H'.gens,bare:=H'.bare,os:=H'.os,len:=rfl,nd:=.nil,own:=fun j j j h=>(nomatch h),fr:=fun j h=>(nomatch h),apart:=fun j h=>(nomatch h),pin:=fun j h=>(nomatch h)} hv) fun v s' P=>by
  obtain ⟨a,gi,L,g',code,e,H,hs,hgen,hgi,hgs,l1,r⟩:=P;exact ⟨a,gi,L,g',code,e,⟨H.base,H.g0,H.keep,H.reg,H.hid,H.gens,H.bare,H.os⟩,hs,hgen,hgi,hgs,l1,r⟩
noncomputable def Zav (q:Str) (b:Nat):Qi:=(List.range (2 ^ b)).map fun k=>.str (q++"-"++ZC (k:Nat) (wd b))
theorem Zjp (I:IsX1 G w) (hf:∀g,G.fin g){t:Int}(hb:b≤5) (hq:q.length≤100):ZkX G (.ref 265) 10 [Zx ids t b q] (Zav q b):=by
 refine GSpecO.toG (ZjC (Zoq I.k) (loc':=[(0,.d (Zx ids t b q))]) (Zr [0] (by kd_p)) fun c hG he hcel ht hfu A₁ g₀=>YJ.mono (Q:=fun ys' j=>ys'=[]) ?_ fun ys' st' e=>⟨e,fun F s R=>ozr R fun g ρ m W=>⟨g,W.toHS,hG▸hf g⟩⟩);have hK:=kIn I.k hG;have L0:IsL c "self" 0:=isL he ht (by kd_p);have L1:IsL c "i" 1:=isL he ht (by kd_p);have L2:IsL c "suffix" 2:=isL he ht (by kd_p);have hz:∀{n},n≤1000→n≤sizeLine:=fun h=>by rw [sizeLine_eq];lia
 have hw:=(Wb (Kr hb (by decide:5≤32))).1;have hp:2 ^ b≤32:=Nat.pow_le_pow_right (by decide) hb;have hsm:Builtin.Range.small 0 ((2:Int) ^ b) 1=true:=(by decide:∀b≤5,Builtin.Range.small 0 ((2:Int) ^ b) 1=true) b hb;have er:((List.range ((2:Int) ^ b - 0).toNat).map fun (i:Nat)=>D.int (0+i)).map A.d=(List.range (2 ^ b)).map fun k=>A.d (.int (k:Nat)):=by
  rw [show ((2:Int) ^ b - 0).toNat=2 ^ b by rw [Int.sub_zero,show ((2:Int) ^ b)=((2 ^ b:Nat):Int) from (Int.natCast_pow 2 b).symm];rfl,Q0];exact List.map_congr_left fun k j=>congrArg (fun z=>A.d (.int z)) (Int.zero_add _)
 have ey:Zav q b=((List.range (2 ^ b)).map fun k=>[D.str (q++"-"++ZC (k:Nat) (wd b))]).flatten:=by
  unfold Zav;induction List.range (2 ^ b) with
  | nil=>rfl
  | cons x xs ih=>rw [Rh,Rh,List.flatten_cons,←ih];rfl
 have G0:IsG c "range" (.type "range"):=isG he (by kd_p) (.inr (by rw [hG];exact ZfS I.k (by kd_p) (by rfl) (by decide)));have G1:IsG c "_hex" (.ref 210):=isG he (by kd_p) (.inl (by rw [hG];exact ZkQ I.k (by kd_p)));refine X7 (ZnW (UA (UM (ZQ G0 (Zq (YT (Ze L0 rfl (Yt (d:=.int (2 ^ b)) hK rfl (by kd_p) rfl (Ym (ZeH (ZeA hsm ?_)))))) rfl)))) (fun j=>rfl));refine er▸ey▸(Ziv (L:=[(0,.d (Zx ids t b q))]) (fun j=>trivial) (List.range (2 ^ b)) _ (fun k hk ys'=>?_) ⟨Z0 rfl Wh,rfl,rfl⟩ (fun l j=>W9 rfl));refine Z7 (ZK L1 fun wr pn g₁=>?_);refine X7 (Zo8 (XH (UM (ZQ G1 (Zq (Ze L1 rfl (Zq (YT (Ze L0 rfl (Yt (d:=.int (wd b)) hK rfl (by kd_p) rfl (Ym ?_)))) rfl)) rfl))) rfl));refine ZlO (hG▸ZkJ I.k (n:=k) (Kr hb (by decide:5≤32)) (ZfC hk)) (XW I.k (by kd_p) hG) (by rw [hfu];decide) ?_;rintro j rfl;refine ZK L2 ⟨rfl,?_⟩;refine X7 (ZdA (Zle (Um (Zdj (YT (Ze L0 rfl (Yt (d:=.str q) hK rfl (by kd_p) rfl ⟨q,_,_,_,rfl,hz (Kr hq (by decide)),q,_,_,_,rfl,?_,Um (UD ⟨_,_,_,_,rfl,?_,Um (Zdj (Ze L2 rfl ⟨_,_,_,_,rfl,?_,_,_,_,_,rfl,?_,Zjx ?_ ?_⟩))⟩)⟩)))))) (by rw [he];kd_p))
 ·rw [Q5];exact hz (Ux hq (by decide))
 ·rw [Q5,Q5];exact hz (ad1 (Ux hq (Kq _)) (by decide))
 ·rw [Z4];exact hz (Kr hw (by decide))
 ·rw [Q5,Q5,Q5,Z4];exact hz (ad2 (ad1 (Ux hq (Kq _)) (Kq _)) hw (by decide))
 ·rw [Q5,Q5,Q5,Z4];exact hz (ad2 (ad1 (Ux hq (Kq _)) (Kq _)) hw (by decide))
 ·refine ⟨_,_,?_,rfl,W9 ⟨rfl,Z0 rfl Wh,rfl,rfl⟩⟩;exact congrArg (fun z=>[D.str (z++"-"++_)]++ys') (Ur (by rw [YL];rfl))
end
section
section
variable {s:Shared}
theorem Zif (h:EJ c oe st fun st1=>MJ c name st1 fun n st2=>GenCall c n QI st2)
 (ht:∀it v,letOwnedTupleGo tgt it v=pure ()) (hb:Xs oe=false:=by rfl) (hl:(apos.endLine==pos.line)=true:=by rfl):IGJ c tgt (.Call (.Attribute oe name apos) [] [] pos) st QI:=fun F vs s R =>
 Ui (F:=F) (vs:=vs) hb rfl rfl hl (wpm (h F vs s R) (fun ov s1 zw pl=>ozg zw fun st1 R1 h1=>Kb (h1 F ov vs s1 pl R1) (fun fx s2 zw=>ozg zw fun st2 R2 h2=>by
  refine W.callWith_of (P:=fun h=>ZF c fx.1 h) rfl (fun h hk=>hk) (evalArgs_nil3 ?_);rw [Rj];exact Zlt rfl R2 h2 ht) fun j j x=>x))
inductive GInv (c:Cx) (F:Fz) (pn:Qn) (tgt:Expr) (body:Qr) (ok:Qf) (Si:Nat→List Addr→Heap→Heap→Array GenState→Prop) (xs:Qh) (QF:Fl→St→Prop) (vs:Qo) (k:Nat) (s':Shared):Prop
 | mk (i:Nat) (st':St) (wr:Qp) (gk:Heap) (hi:i≤xs.length) (hk:k=xs.length+1 - i) (hg:Sub F.g₀ gk) (hS:Si i wr gk s'.heap s'.gens) (hd:∀q∈F.hid,q.1∉wr) (R:RS c {F with g₀:=gk,hid:=Zo s'.heap wr++F.hid,pin:=pn++F.pin} st' vs s') (hL:Wg c tgt body ok (xs.drop i) st' QF)
theorem ZoV (h:IGJ c tgt iter st fun ok xs st2=>Wg c tgt body ok xs st2 QF)
 (hs:∀x,foldedSetIterable iter c.env x=pure x):SJ c (.For tgt iter body [] pos) st QF:=fun F vs s R=>by
 refine ZiV (wpm (h F vs s R) (fun v s1 h1=>Kb h1 (fun itv s2 h2=>?_) fun j j x=>x)) hs;obtain ⟨it,need,gi,pn,xs,ok,Si,wr,gk,st2,rfl,hneed,K,hS0,hg,hd,hgi,R2,hL⟩:=h2;refine ⟨GInv c F pn tgt body ok Si xs QF vs,xs.length+1,⟨0,st2,wr,gk,Q4 _,rfl,hg,hS0,hd,R2,hL⟩,fun k s1 I=>?_⟩;obtain ⟨i,st1,wr,gk,hi,rfl,hg,hSi,hd,R1,hL1⟩:=I;rcases Nat.lt_or_ge i xs.length with hlt | hge
 ·rw [List.drop_eq_getElem_cons hlt] at hL1;refine oza hL1 fun hok hL1=>?_;refine wpm (K.item c {F with g₀:=gk,pin:=pn++F.pin} F.hid i wr _ st1 vs s1 rfl rfl hneed (Ke hlt) hSi hok (fun q hq=>Kg _ hq) hd hgi R1) (fun r s2 z=>?_);refine Za z fun v zo3 h2=>?_;subst zo3;refine wpm h2 (fun j s3 z=>?_);refine Z8 z fun wr3 gk3 hg3 hSi3 hd3 R3=>?_;refine wpm (hL1 _ v vs _ R3.pinG) (fun j s4 z=>?_);refine ozg z fun st4 R4 h4=>?_;refine wpm (h4 _ vs s4 R4) (fun f s5 h5=>?_);have stay:∀{st':St} {us:Qo},RS c {F with g₀:=gk3,hid:=Zo s3.heap wr3++F.hid,gens:=s3.gens,pin:=pn++F.pin} st' us s5→_:=fun {st' us} R5=>K.stay (F':={F with g₀:=gk3,hid:=Zo s3.heap wr3++F.hid,gens:=s3.gens,pin:=pn++F.pin}) hSi3 rfl R3.g0K rfl hd3 R5;have un:∀{st':St} {us:Qo},RS c {F with g₀:=gk3,hid:=Zo s3.heap wr3++F.hid,gens:=s3.gens,pin:=pn++F.pin} st' us s5→RS c {F with g₀:=gk3,hid:=Zo s5.heap wr3++F.hid,pin:=pn++F.pin} st' us s5:=fun {st' us} R5=>RS.unG (F:={F with g₀:=gk3,hid:=Zo s5.heap wr3++F.hid,pin:=pn++F.pin}) R3.gensK (stay R5).2;have go:∀{st':St},RS c {F with g₀:=gk3,hid:=Zo s3.heap wr3++F.hid,gens:=s3.gens,pin:=pn++F.pin} st' vs s5→Wg c tgt body ok (xs.drop (i+1)) st' QF→∃m,m<xs.length+1 - i∧GInv c F pn tgt body ok Si xs QF vs m s5:=fun R5 h6=>⟨_,ZbG hlt,i+1,_,wr3,gk3,hlt,rfl,hg.trans hg3,(stay R5).1,hd3,un R5,h6⟩;induction f with
  | next=>refine ozg h5 fun st5 R5 h6=>?_;exact go R5 h6
  | cont=>refine ozg h5 fun st5 R5 h6=>?_;exact go R5 h6
  | brk=>refine ozg h5 fun st5 R5 h6=>?_;exact ⟨st5,(un R5).unhide (hg.trans hg3),h6⟩
  | ret v=>refine ozg h5 fun st5 R5 h6=>?_;exact ⟨st5,(un R5).unhide (hg.trans hg3),h6⟩
 ·obtain rfl:=Nat.le_antisymm hi hge;replace hL1:=List.drop_length▸hL1;refine oza hL1 fun hok hL1=>?_;refine wpm (K.done c {F with g₀:=gk,pin:=pn++F.pin} F.hid wr st1 vs s1 rfl rfl hneed hSi hok (fun q hq=>Kg _ hq) hd hgi R1) (fun r s2 z=>?_);refine oza z fun zo3 z2=>?_;subst zo3;refine Zt z2 fun gk2 h2 hz R2=>?_;exact ⟨st1,RS.unhide (hs:=[]) (pn:=pn) R2 (hg.trans h2),hL1⟩
end
end
section
noncomputable def ZkL (E:E0):E0:={E with cel:=E.cel.take 5}
noncomputable def ZkD:C:=.o (.loc 5) <| .o (.lit (.int 2)) <| .o (.cell 0) <| .o (.bin .Pow) <| .o (.bin .Mod) <| .o (.lit (.int 2)) <| .o (.lit (.int 32)) <| .o (.cell 0) <| .o (.bin .Sub) <| .o (.bin .Pow) <| .o (.bin .Mult) <| .o (.loc 5) <| .o (.lit (.int 64)) <| .o (.bin .FloorDiv) <| .o (.lit (.int 2)) <| .o (.bin .Mod) <| .o (.bin .Sub) <| .o (.st (.l 6)) <| .sel (.o (.cell 2) <| .o (.cell 6) <| .o (.cmp .NotIn) .tru) (.o (.lit (.val (.ref 340))) <| .o (.loc 5) <| .o (.lit (.int 2654435761)) <| .o (.bin .Mult) <| .o (.loc 6) <| .o (.loc 5) <| .o (.list 3) <| .o (.loc 4) <| .o (.lit (.int 3)) <| .o (.bin .Mod) <| .o .sub <| .o (.lit (.int 2)) <| .o (.lit (.int 32)) <| .o (.bin .Pow) <| .o (.bin .Mod) <| .o (.lit (.int 8)) <| .call 2 <| .o (.lit (.str "0123456789abcdef")) <| .o (.loc 4) <| .o .sub <| .o (.loc 4) <| .o (.lit (.int 3)) <| .o (.bin .Mod) <| .o (.bin .Mult) <| .o (.bin .Add) <| .o (.cell 6) <| .o (.cell 2) <| .o .set .nil) .nil .nil
noncomputable def Zof:C:=.sel (.o (.cell 6) <| .o .dict0 <| .o (.cmp .Eq) .tru) (.o (.lit (.str "00000000")) <| .o (.cell 6) <| .o (.lit (.str "f")) <| .o .set .nil) .nil .nil
noncomputable def ZqT:C:=.o (.loc 0) <| .slc true true false (.o (.lit (.int 1)) .nil) (.o (.lit (.int 7)) .nil) .bad <| .o .cut <| .for_ false .enum (.tup [.l 4,.l 5]) (.sel (.o (.loc 4) <| .o (.lit (.int 2)) <| .o (.bin .Mod) <| .o (.lit (.int 0)) <| .o (.cmp .Eq) .tru) (.o (.lit (.str "d/f%d")) <| .o (.loc 5) <| .o (.lit (.int 5)) <| .o (.bin .Mod) <| .o (.bin .Mod) .nil) (.o (.lit (.str "f%d")) <| .o (.loc 4) <| .o (.bin .Mod) .nil) <| .o (.st (.c 2)) <| .mark [0,1,2,3,4,5] ZkD) <| .mark [1,2,3] Zof
noncomputable def Zn1:C:=.o .dict0 <| .o (.st (.c 6)) <| .mark [0,1,2,3] ZqT
noncomputable def Zoh:C:=.o (.listO 0) <| .o (.st (.c 5)) .nil
noncomputable def ZnR:C:=.o (.lit (.int 1)) <| .o (.loc 1) <| .o (.lit (.int 32)) <| .o (.bin .Mod) <| .o (.bin .Add) <| .o (.st (.c 0)) <| .o (.lit (.val (.ref 335))) <| .call 0 <| .o (.loc 1) <| .o (.lit (.int 32)) <| .o (.bin .FloorDiv) <| .o (.lit (.int 5)) <| .o (.bin .Mod) <| .o .sub <| .o (.st (.c 1)) <| .o (.lit (.str "a")) <| .o (.lit (.str "b")) <| .o (.lit (.str "c")) <| .o (.list 3) <| .slc false true false .bad (.o (.lit (.int 1)) <| .o (.loc 1) <| .o (.lit (.int 160)) <| .o (.bin .FloorDiv) <| .o (.lit (.int 3)) <| .o (.bin .Mod) <| .o (.bin .Add) .nil) .bad <| .o .cut <| .o (.st (.l 2)) <| .o (.lit (.int 1)) <| .o (.loc 1) <| .o (.lit (.int 480)) <| .o (.bin .FloorDiv) <| .o (.lit (.int 3)) <| .o (.bin .Mod) <| .o (.bin .Add) <| .o (.st (.l 3)) <| .blk [1,2,3] (.mark [0,1,2,3] Zn1) <| .mark [1,2,3] Zoh
noncomputable def lca:C:=.sel (.o (.loc 0) .tru) (.o (.loc 0) <| .o (.lit (.int 0)) <| .o .sub .nil) (.o (.lit (.int 0)) .nil) <| .o (.st (.l 1)) <| .mark [0,1] ZnR
theorem Zq9 (w:World):cmp 160 (EK (kk1 w.params) 376 0 {mks:=[(346,[0,1]),(350,[0,1,2,3]),(351,[0,1,2,3]),(353,[0,1,2,3,4,5]),(356,[1,2,3]),(358,[1,2,3])],bk:=[(350,3,[1,2,3])]}) (.ss ((XU (kk1 w.params) 376).take 9)) .nil=lca:=by kd_p
noncomputable def ZqB:C:=.o (.nm "hashes") <| .for_ false .val (.one (.c 2)) (.o (.lit (.val (.ref 347))) <| .o (.nm "hashes") <| .o (.cell 2) <| .o .sub <| .o (.cell 0) <| .call 2 <| .o (.st (.l 5)) <| .o (.cell 1) <| .o (.lit (.str "-")) <| .o (.bin .Add) <| .o (.lit (.val (.ref 340))) <| .o (.loc 5) <| .o (.lit (.val (.ref 354))) <| .o (.cell 0) <| .call 1 <| .call 2 <| .o (.bin .Add) <| .o (.st (.l 8)) <| .o (.loc 8) <| .o (.loc 12) <| .o (.cell 2) <| .o .set <| .o (.lit (.val (.ref 201))) <| .o (.loc 8) <| .bi .list (.o (.loc 2) .nil) <| .o (.loc 3) <| .o (.lit (.bool true)) <| .o (.lit .none) <| .o (.lit (.val (.ref 359))) <| .o (.loc 5) <| .o (.cell 0) <| .call 2 <| .call 6 <| .o (.cell 4) <| .o (.loc 8) <| .o .set .nil) .nil
noncomputable def ZiU:C:=.o .dict0 <| .o (.st (.c 4)) <| .o .dict0 <| .o (.st (.l 12)) <| .mark [1,2,3,7,9,10,11,12] ZqB
noncomputable def Zlr:C:=.sel (.orT (.notT (.andT (.o (.loc 11) <| .o (.loc 10) <| .o (.cmp .Eq) .tru) (.andT (.o (.loc 10) <| .o (.loc 11) <| .o (.cmp .Eq) .tru) (.andT (.o (.loc 11) <| .attr "succinct_roles" [70,201,324] <| .o (.loc 7) <| .o (.cmp .Eq) .tru) (.andT (.o (.loc 14) <| .o (.loc 13) <| .o (.cmp .Eq) .tru) (.o (.loc 13) <| .o (.loc 14) <| .o (.cmp .Eq) .tru)))))) (.orT (.o (.loc 10) <| .o (.loc 13) <| .o (.cmp .Eq) .tru) (.o (.loc 13) <| .o (.loc 10) <| .o (.cmp .Eq) .tru))) (.o (.lit (.bool false)) .ret) .nil <| .o (.lit (.val (.ref 371))) <| .o (.loc 7) <| .o (.loc 2) <| .o (.loc 3) <| .o (.cell 0) <| .o (.cell 1) <| .o (.loc 1) <| .o (.lit (.int 7)) <| .o (.bin .FloorDiv) <| .o (.lit (.int 4)) <| .o (.bin .Mod) <| .call 6 .ret
noncomputable def ZrG:C:=.sel (.o (.cell 0) <| .o (.lit (.int 6)) <| .o (.cmp .Lt) .tru) (.blk [1,2,3,7,10,11,13,14,16] (.o (.listO 0) <| .o (.st (.l 16)) <| .raw [ZZ (fAt pw1 21) [21,1]] .nil) <| .sel (.o (.loc 16) <| .comp .val 0 0 (.bi .range1 (.o (.lit (.int 2)) <| .o (.cell 0) <| .o (.bin .Pow) .nil) .nil) (.one (.l 1)) (.o (.cell 1) <| .o (.lit (.str "-")) <| .o (.bin .Add) <| .o (.lit (.val (.ref 340))) <| .o (.loc 1) <| .o (.lit (.val (.ref 354))) <| .o (.cell 0) <| .call 1 <| .call 2 <| .o (.bin .Add) .nil) <| .o (.cmp .NotEq) .tru) (.o (.lit (.bool false)) .ret) .nil .nil) .nil <| .mark [1,2,3,7,10,11,13,14] Zlr
noncomputable def ZiY:C:=.raw [ZZ (fAt pw1 21) [20]] <| .mark [1,2,3,7,10,11,13,14] ZrG
noncomputable def Zrx:C:=.o (.nm "hashes") <| .for_ false .val (.one (.c 2)) (.sel (.o (.loc 7) <| .meth "get_role_for_target" 2 (.o (.cell 2) <| .o (.cell 3) .nil) <| .o (.loc 12) <| .o (.cell 2) <| .o .sub <| .o (.cmp .NotEq) .tru) (.o (.lit (.bool false)) .ret) .nil <| .o (.loc 10) <| .o (.loc 11) <| .o (.loc 13) <| .o (.loc 14) <| .o (.list 4) <| .for_ true .val (.one (.l 15)) (.sel (.o (.lit (.val (.ref 364))) <| .o (.loc 15) <| .o (.cell 2) <| .o (.cell 3) <| .call 3 <| .o (.loc 12) <| .o (.cell 2) <| .o .sub <| .o (.lit (.bool true)) <| .o (.tup 2) <| .o (.list 1) <| .o (.cmp .NotEq) .tru) (.o (.lit (.bool false)) .ret) .nil .nil) <| .raw [ZZ (fAt pw1 21) [19,2]] .nil) <| .mark [1,2,3,7,10,11,13,14] ZiY
noncomputable def ZkU:C:=.o (.lit (.val (.ref 324))) <| .o (.loc 9) <| .o (.cell 4) <| .call 2 <| .o (.st (.l 13)) <| .raw [ZZ (fAt pw1 21) [18]] <| .mark [1,2,3,7,10,11,12,13,14] Zrx
noncomputable def lcb:C:=.o (.lit (.val (.ref 275))) <| .bi .list (.o (.loc 2) .nil) <| .o (.loc 3) <| .o (.cell 0) <| .o (.cell 1) <| .call 4 <| .o (.st (.l 7)) <| .raw [ZZ (fAt pw1 21) [11]] <| .o (.lit (.val (.ref 324))) <| .o (.loc 9) <| .o (.lit .none) <| .o (.loc 7) <| .call 3 <| .o (.st (.l 10)) <| .raw [ZZ (fAt pw1 21) [13]] <| .blk [1,2,3,7,9,10,11,12] (.mark [1,2,3,7,9,10,11] ZiU) <| .mark [1,2,3,7,9,10,11,12] ZkU
theorem ZqN (w:World):cmp 160 (ZkL (EK (kk1 w.params) 376 0 {rw:=[364,366,375,382,384,388],rn:=[379],bk:=[(367,3,[1,2,3,7,9,10,11,12]),(387,2,[1,2,3,7,10,11,13,14,16])],mks:=[(367,[1,2,3,7,9,10,11]),(369,[1,2,3,7,9,10,11,12]),(374,[1,2,3,7,9,10,11,12]),(376,[1,2,3,7,10,11,12,13,14]),(384,[1,2,3,7,10,11,13,14]),(386,[1,2,3,7,10,11,13,14]),(394,[1,2,3,7,10,11,13,14])]})) (.ss ((XU (kk1 w.params) 376).drop 10)) .nil=lcb:=by kd_p
noncomputable def lcn:C:=.o (.loc 16) <| .mth .append (.o (.loc 8) .nil) <| .o .pop <| .sel (.bi .len (.o (.loc 16) .nil) <| .o (.lit (.int 32)) <| .o (.cmp .Gt) .tru) .brk .nil .nil
theorem ZrY (w:World):cmp 160 (ZkL (EK (kk1 w.params) 376 0 {})) (.ss ([ZZ (fAt pw1 21) [21,1,0],ZZ (fAt pw1 21) [21,1,1]])) .nil=lcn:=by kd_p
end
section
open PySem.W
section
variable {w:World}{A:Around}{s:Shared}{n:Int}{t u:Tok}{Q:Qj}
theorem Zp9 (h0:0≤n) (h1:n<10 ^ 10) (h:∀t' k,Q (.str (("d/f":Str)++Str.ofString (toString n)) t') {s with toks:=k}):wpAny (model prog w) A (binaryOp .Mod (.str (Str.ofString "d/f%d") t) (.int n u)) Q E s:=by
 refine' KPc.mod_int (T:=fun i=>("d/f":Str)++Str.ofString (toString i)) ?kpcF h0 h1 ?kpcm h
 case kpcF=>kpc_eq
 case kpcm=>k_dflt kpc_run
theorem Zqy (h0:0≤n) (h1:n<10 ^ 10) (h:∀t' k,Q (.str (("f":Str)++Str.ofString (toString n)) t') {s with toks:=k}):wpAny (model prog w) A (binaryOp .Mod (.str (Str.ofString "f%d") t) (.int n u)) Q E s:=by
 refine' KPc.mod_int (T:=fun i=>("f":Str)++Str.ofString (toString i)) ?kpcF h0 h1 ?kpcm h
 case kpcF=>kpc_eq
 case kpcm=>k_dflt kpc_run
end
section
variable {l:Qc}{n:Int}
theorem ZpN (h0:0≤n) (h1:n<10 ^ 10) (q:Q ⟨l,o,.d (.str (("d/f":Str)++Str.ofString (toString n)))::k⟩):OJ2 c (binaryOp .Mod) ⟨l,o,.d (.int n)::.d (.str (Str.ofString "d/f%d"))::k⟩ Q :=
 o2 (fun j j j j j j j j j j z0 z1 j h=>by obtain ⟨j,e1⟩:=z0;obtain ⟨j,e2⟩:=z1;subst e1 e2;exact Zp9 h0 h1 fun t' k=>h _ _ Xb) q
theorem ZoX (h0:0≤n) (h1:n<10 ^ 10) (q:Q ⟨l,o,.d (.str (("f":Str)++Str.ofString (toString n)))::k⟩):OJ2 c (binaryOp .Mod) ⟨l,o,.d (.int n)::.d (.str (Str.ofString "f%d"))::k⟩ Q :=
 o2 (fun j j j j j j j j j j z0 z1 j h=>by obtain ⟨j,e1⟩:=z0;obtain ⟨j,e2⟩:=z1;subst e1 e2;exact Zqy h0 h1 fun t' k=>h _ _ Xb) q
noncomputable def rep (x:Str) (n:Int):Str:=if n=0 then Str.empty else if n=1 then x else x++x
theorem Znl (hx:x.length=1):(rep x n).length≤2:=by
 unfold rep;split
 ·decide
 ·split
  ·lia
  ·rw [Q5];lia
theorem ZpH (hx:x.length=1) (hn:n=0∨n=1∨n=2) (q:Q ⟨l,o,.d (.str (rep x n))::k⟩):OJ2 c (binaryOp .Mult) ⟨l,o,.d (.int n)::.d (.str x)::k⟩ Q :=
 o2 (fun j j j j j j j j j j z0 z1 j h=>by
  obtain ⟨j,e1⟩:=z0;obtain ⟨j,e2⟩:=z1;subst e1 e2;rcases hn with rfl | rfl | rfl
  ·exact P.mul_str_none (by decide) (by decide) (h _ _ Xb)
  ·exact P.mul_str (by decide) (fun j e=>nomatch e) (fun j e=>nomatch e) (h _ _ Xb)
  ·refine P.mul_str (by decide) (fun j j=>by rw [hx];decide) (fun j j=>by rw [hx];decide) ?_;rw [if_neg (by decide),if_neg (by rw [hx];decide)];have e:(⟨(List.replicate (2:Int).toNat x.cps).foldl (· ++ ·) #[]⟩:Str)=x++x:=by
    show (⟨#[]++x.cps++x.cps⟩:Str)=⟨x.cps++x.cps⟩;rw [Array.empty_append]
   rw [e];exact ⟨by rw [Q5,sizeLine_eq];lia,h _ _ Xb⟩) q
theorem Zls {es:Qe}(ho:o[i]?=some (.dict es ep)) (q:Q ⟨l,o,.d (.bool (!(Z5 es x).isSome))::k⟩):OJ2 c (compareOp .NotIn) ⟨l,o,.own i::.d (.str x)::k⟩ Q:=fun F u v vs s zq0=>by
 obtain ⟨g,ρ,m,W⟩:=zq0;refine Za (Zd W.stk) fun a ea e2=>?_;refine oze (Zd (Zb W.stk)) fun t h1=>?_;subst h1 e2;refine Zt (W.own i _ a ho ea) fun kvs n0 hd hx=>?_;refine wpAny_notIn_of (strKind_is _ _ x t) (beq_eq_false_iff_ne.mpr n0) hd.dictOf.mapOf ?_;have W2:=(W.tok (s.toks+1)).stack (Zh (a:=.d (.bool (!(Z5 es x).isSome))) (v:=.bool (!(Z5 es x).isSome)) rfl (Zb (Zb W.stk)));have e:(valueAt kvs x).isSome=(Z5 es x).isSome:=by
  induction hv:Z5 es x with
  | none=>rw [Xz hx hv];rfl
  | some d=>exact Za (Up hx hv) fun y e j=>by rw [e];rfl
 rw [e];exact ⟨_,⟨g,ρ,m,W2⟩,q⟩
end
open Builtin.Dict in
theorem Zlc {p:Program}{w:World}{A:Around}{s:Shared}{a b:Addr}(hu:A.units<cLine) (na:a≠sysModules) (nb:b≠sysModules) (da:s.heap.DictOf (strKind p w) a kvs) (db:s.heap.DictOf (strKind p w) b []):
 wpAny (model p w) A (richCompare .Eq (.ref a) (.ref b)) (fun z s'=>z = .bool kvs.isEmpty∧s'=s) E s:=by
 refine wpAny_richCompare_same_room (T:="dict") (id:="dict.__eq__") da.typeIs db.typeIs PySem.F.slot_dict_eq (call_meetsIn (S:=fun A' R s'=>s'=s∧R (.ok (.ret (.bool kvs.isEmpty))) s) PySem.F.slot_dict_eq da.typeIs PySem.F.entry_dict_eq (PySem.F.args_dict_eq_2 _ _) ?_ ⟨rfl,⟨(fun x=>nomatch x),rfl,rfl⟩⟩) hu;rintro A' R s' ⟨rfl,h⟩;refine Kd ?_;refine Kd (wpAny_notOrdered_dict da.typeIs ?_);refine Ki ?_;refine Kd (wpAny_isInstance db.typeIs isSubtype_dict_dict ?_);show wpAny _ _ (Builtin.Dict.samePairs _ a b >>= _) _ _ _;refine Kd ?_;obtain ⟨oa,ea,pa,ga,ca,ta,ka,qa,nda⟩:=da;obtain ⟨ob,eb,pb,gb,cb,tb,kb,qb,ndb⟩:=db;have sa:ea.size=kvs.length:=by rw [←qa.length];rfl
 have sb:eb.size=0:=by rw [show eb.size=eb.toList.length from rfl,qb.length];rfl
 unfold Builtin.Dict.samePairs;unfold showsAll;rw [if_neg (by simpa using na)];refine Kd (Ki ?_);rw [if_neg (by simpa using nb)];refine Kd (Ki ?_);refine Kd (wpAny_dictEntries ga ta ?_);refine Kd (wpAny_dictEntries gb tb ?_);rw [sb,sa];induction kvs using LLc with
 | cons x xs =>
  rw [if_pos (by simp)];refine Kd (wpAny_rule ?_);exact Ki (Ki h)
 | nil =>
  rw [if_neg (by simp)];refine Kd (wpAny_dictEpoch ga ta ?_);refine Kd ?_;rw [Std.Legacy.Range.forIn_eq_forIn_range'];refine Ki ?_;exact Ki (Ki h)
section
variable {l:Qc}{n:Int}
theorem ZqV {es:Qe}(ho:o[i]?=some (.dict es ep)) (hj:o[j]?=some (.dict [] e0)) (q:Q ⟨l,o,.d (.bool es.isEmpty)::k⟩):OJ2 c (compareOp .Eq) ⟨l,o,.own j::.own i::k⟩ Q:=fun F u v vs s zq0=>by
 obtain ⟨g,ρ,m,W⟩:=zq0;refine Za (Zd W.stk) fun b eb e2=>?_;refine Za (Zd (Zb W.stk)) fun a ea e1=>?_;subst e1 e2;refine Zt (W.own i _ a ho ea) fun kvs na da ra=>?_;refine Zt (W.own j _ b hj eb) fun lvs nb db rb=>?_;obtain rfl:lvs=[]:=rb;have hu:=c.hu;refine wpm (Zlc (by exact nN (by assumption)) na nb da.dictOf db.dictOf) fun z s' zw=>?_;obtain ⟨rfl,rfl⟩:=zw;have e:kvs.isEmpty=es.isEmpty:=by
  have:=YD ra;induction es using LLc <;> induction kvs using LLc <;> first | rfl | exact absurd this (by simp)
 rw [e];exact ⟨_,⟨g,ρ,m,W.stack (Zh (a:=.d (.bool es.isEmpty)) (v:=.bool es.isEmpty) rfl (Zb (Zb W.stk)))⟩,q⟩
end
end
section
variable {w:World}
theorem Zk {α β:Type}{f:α→Option β}{x:α}{xs:List α}{y:β}{ys:List β}(h:f x=some y) (h2:ZI f xs=some ys):ZI f (x::xs)=some (y::ys):=by
 show (f x).bind (fun y=>(ZI f xs).map (y::·))=_;rw [h,h2];rfl
theorem Zb3 {l l' l2:Qc}{o':Qg}(h0:m≤o.length) (h1:Zc5 is l=some l') (h2:ZI (fun q:Nat×A=>(Zan m o q.2).map fun a=>(q.1,a)) l'=some l2) (h3:ZI (Zj2 m o) (o.take m)=some o'):ZcY is m ⟨l,o,[]⟩=some ⟨l2,o',[]⟩:=by
 show ifO _ _=_;rw [Zu h0,h1];show Option.bind (ZI _ l') _=_;rw [h2];rw [h3];rfl
theorem Zk4 {ds:Qi}(hm:m≤i) (h:own[i]?=some (.list (ds.map .d))):Zan m own (.own i)=some (.d (.list ds)):=by
 show (if i<m then _ else _)=_;rw [if_neg (Za7 hm)];show Option.map A.d (ifO _ _)=_;rw [Zu hm,ZmQ h];show Option.map A.d (Option.map D.list (ZI _ _))=_;rw [Zpo];rfl
end
section
variable {w:World}
theorem Zhm {n:Nat}:∀es:Qd,ZI (Zak (WZ m n own)) (es.map fun e=>(e.1,A.d e.2))=some es
 | []=>rfl
 | e::es=>Zk (by show Option.map _ (WZ m n own (.d e.2))=_;rw [ZkP];rfl) (Zhm es)
theorem Zah (hm:m≤i) (h:own[i]?=some (.dict (es.map fun e=>(e.1,A.d e.2)) ep)):Zan m own (.own i)=some (.d (.dict es)):=by
 show (if i<m then _ else _)=_;rw [if_neg (Za7 hm)];show Option.map A.d (ifO _ _)=_;rw [Zu hm,show WU own i=none by unfold WU;rw [h],show Y4 own i=some _ by unfold Y4;rw [h]];show Option.map A.d (Option.map D.dict (ZI _ _))=_;rw [Zhm];rfl
structure HOk (H:List (Str×Str)):Prop where
 n:(H.map (·.1)).Nodup
 p:∀e∈H,e.1∈pathsAll∧∃(v:Nat) (y:Str),v<2 ^ 32∧y.length≤100∧e.2=ZC v 8++y
noncomputable abbrev hO (H:List (Str×Str)) (ep:Nat):O:=.dict (H.map fun e=>(e.1,A.d (.str e.2))) ep
noncomputable abbrev cA (b:Nat) (q:Str) (pc hc:Option A):Qg:=[.cell (some (.d (.int b))),.cell (some (.d (.str q))),.cell pc,.cell none,.cell none,.cell none,.cell hc]
theorem ZgW {H:List (Str×Str)}:(H.map fun e=>(e.1,A.d (.str e.2))).map (·.1)=H.map (·.1):=by rw [Q0];rfl
theorem HOk.snoc {H:List (Str×Str)}(h:HOk H){p:Str}(hp:p∈pathsAll) (hn:p∉H.map (·.1)){v:Nat}(hv:v<2 ^ 32) (hy:y.length≤100):HOk (H++[(p,ZC v 8++y)]) where
 n:=by
  exact Q9▸(List.nodup_append.mpr ⟨h.n,by simp,fun x hx y hy e=>hn (by rw [YY hy] at e;have e:x=p:=e;rw [←e];exact hx)⟩)
 p:=fun e he=>(ZL he).elim (h.p e) fun he=>by exact (YY he)▸⟨hp,v,y,hv,hy,rfl⟩
theorem Zeg {es:Qe}(h:(Z5 es x).isSome=false):x∉es.map (·.1):=fun hm=>by
 refine Za (Yh hm) fun e h1 h2=>?_;unfold Z5 at h;have:es.find? (fun e=>decide (e.1=x))=none:=by
  induction hf:es.find? (fun e=>decide (e.1=x)) with
  | none=>rfl
  | some z=>replace h:=hf▸h;exact Zf6 h
 exact absurd h2 (by simpa using List.find?_eq_none.mp this e h1)
theorem ZkS {k:Nat}(h:k<16):(Xy (k:Int)).length=1:=(by decide +kernel:∀k<16,(Xy ((k:Nat):Int)).length=1) k h
section
variable {P:Qa}
theorem Zmc {l:Qc}{k:Nat}(h:k<16):Xd .sub ⟨l,o,.d (.int (k:Nat))::.d (.str "0123456789abcdef")::r⟩=some ⟨l,o,.d (.str (Xy (k:Nat)))::r⟩ :=
 Zbz (ZbZ (Rb k) (by exact Int.ofNat_lt.mpr (by assumption)))
theorem ZeK {k:Nat}(hm:0<m):((k:Nat):Int).fmod (m:Nat)=((k % m:Nat):Int):=by rw [Int.fmod_eq_emod_of_nonneg _ (Rb m)];rfl
theorem Zpl (I:IsK kk1 G w) (hG:c.G=G) (hF:c.fuel=30){k:Nat}{p:Str}(h1:1≤b) (hb:b≤32) (hp:p∈pathsAll) (hk:k<6){H:List (Str×Str)}(hH:HOk H) (hl:H.length≤100){n:Int}{a3:A}
 (h:∀H' ep' L,HOk H'→H'.length≤H.length+1→Le [(0,a0),(1,a1),(2,a2),(3,a3)] L→P .next ⟨L,cA b q (some (.d (.str p))) (some (.own 7))++[hO H' ep'],[]⟩) :
 wp c ZkD ⟨[(0,a0),(1,a1),(2,a2),(3,a3),(4,.d (.int (k:Nat))),(5,.d (.int n))],cA b q (some (.d (.str p))) (some (.own 7))++[hO H ep],[]⟩ P:=by
 have q32:=(by decide +kernel:∀b≤32,((32:Int) - (b:Nat)).toNat≤32∧(0:Int)≤32 - (b:Nat)∧(32:Int) - (b:Nat)≤64∧((b:Nat):Int)≤64) b hb;have kq:=(by decide +kernel:∀k<6,k<16∧(k % 3=0∨k % 3=1∨k % 3=2)∧(0:Int)≤((k:Nat):Int).fmod 3∧((k:Nat):Int).fmod 3<9223372036854775808∧(((k:Nat):Int).fmod 3).toNat=k % 3∧(((k:Nat):Int).fmod 3=0∨((k:Nat):Int).fmod 3=1∨((k:Nat):Int).fmod 3=2)) k hk;have e2:(2:Int) ^ ((b:Nat):Int).toNat≠0:=by rw [Int.toNat_natCast];exact Int.pow_ne_zero (by decide)
 have e3:((2:Int) ^ ((32:Int) - (b:Nat)).toNat).natAbs<18446744073709551616:=by
  rw [Int.natAbs_pow];exact Ku (Nat.pow_le_pow_right (by decide) q32.1) (by decide)
 refine Zf (Zu ⟨.inl rfl,Rb _,q32.2.2.2⟩) ?_;refine Zf (Zu e2) ?_;refine Zf (Zu ⟨.inl rfl,q32.2.1,q32.2.2.1⟩) ?_;refine Zf (Zu e3) ?_;generalize n.fmod (2 ^ ((b:Nat):Int).toNat)*2 ^ ((32:Int) - (b:Nat)).toNat=e;refine Stop.mk (Zls (i:=7) rfl ?_);refine Yr (fun z=>?_) (fun z=>h H ep _ hH (Nat.le_succ _) (Yj rfl));have hn:p∉H.map (·.1):=by
  exact ZgW▸(Zeg (by simpa using z))
 obtain ⟨m,hm⟩:∃m:Int,([.int (n*2654435761),.int (e - (n.fdiv 64).fmod 2),.int n]:Qi)[k % 3]?=some (.int m):=by
  rcases kq.2.1 with e | e | e <;> rw [e] <;> exact ⟨_,rfl⟩
 refine Zf (Zqw (x:=.int m) kq.2.2.1 kq.2.2.2.1 (kq.2.2.2.2.1▸hm)) ?_;obtain ⟨v,hv,hve⟩:∃v:Nat,v<2 ^ 32∧m.fmod (2 ^ (32:Int).toNat)=(v:Int):=by
  rw [show (2:Int) ^ (32:Int).toNat=((2 ^ 32:Nat):Int) by decide];exact ZcU (by decide)
 refine WQ I hG hF (ZdT I (m.fmod (2 ^ (32:Int).toNat)) 8 (Kq _)) (by kd_p) (by decide) ?_;refine hve▸(Zf (Zmc kq.1) ?_);have hx:=ZkS kq.1;refine Stop.mk (ZpH (n:=((k:Nat):Int).fmod 3) hx kq.2.2.2.2.2 ?_);have hy:=Znl (n:=((k:Nat):Int).fmod 3) hx;refine Zf (Zu (by rw [Z4,sizeLine_eq];exact Ux hy (by decide))) ?_;refine Stop.mk (WC (i:=7) (es:=H.map fun e=>(e.1,A.d (.str e.2))) (ep:=ep) rfl (YA (by rw [ZgW];exact hn)) (by rw [Qw];exact Kr hl (by decide)) fun ep'=>?_)
 have:=h (H++[(p,ZC v 8++rep (Xy (k:Nat)) (((k:Nat):Int).fmod 3))]) ep' [(6,.d (.int (e - (n.fdiv 64).fmod 2))),(0,a0),(1,a1),(2,a2),(3,a3),(4,.d (.int (k:Nat))),(5,.d (.int n))] (hH.snoc hp hn hv (Kr hy (by decide))) (by rw [Qu];exact Kq _) (Yj rfl);rw [show hO (H++[(p,ZC v 8++rep (Xy (k:Nat)) (((k:Nat):Int).fmod 3))]) ep' = .dict (H.map (fun e=>(e.1,A.d (.str e.2)))++[(p,.d (.str (ZC v 8++rep (Xy (k:Nat)) (((k:Nat):Int).fmod 3))))]) ep' from congrArg (fun z=>O.dict z ep') (Q9)] at this;exact this
end
end
section
variable {w:World}
theorem ZqU:∀i<5,("d/f":Str)++Str.ofString (toString ((i:Nat):Int))∈pathsAll:=by decide +kernel
theorem Zrj:∀k<6,k % 2=1→("f":Str)++Str.ofString (toString ((k:Nat):Int))∈pathsAll:=by decide +kernel
theorem ZrV {xs:List Int}:∃ns:List Int,cut (xs.map D.int) (some 1) (some 7)=ns.map .int∧ns.length≤6:=by
 refine ⟨(xs.drop (ZN 0 (some 1) xs.length)).take (ZN xs.length (some 7) xs.length - ZN 0 (some 1) xs.length),?_,?_⟩
 ·unfold cut;rw [Qw,←List.map_drop,←List.map_take]
 ·refine Kr (List.length_take_le _ _) ?_;show ZN _ (some ((7:Nat):Int)) _ - ZN _ (some ((1:Nat):Int)) _≤6;rw [Zbn,Zbn];induction xs using LLc with
  | nil=>decide
  | cons x r=>exact (Rz (Nat.succ_pos _:1≤(x::r).length)).symm▸Nat.sub_le_sub_right (Nat.min_le_left 7 _) 1
theorem Zh3 {ns:List Int}:(((ns.map D.int).zipIdx.map fun q=>[D.int (q.2:Int),q.1]).map fun x=>A.d (.tuple x))=ns.zipIdx.map fun z=>A.d (.tuple [.int (z.2:Nat),.int z.1]):=by
 rw [List.zipIdx_map,Q0,Q0];rfl
theorem ZsU:HOk [("f","00000000")] where
 n:=by trivial
 p:=fun e he=>by
  exact (YY he)▸⟨by decide +kernel,0,"",by decide,by decide,by kd_p⟩
structure HB where
 H:List (Str×Str)
 ep:Nat
 pc:Option Str
section
variable {P:Qa}
theorem Zj7 (I:IsK kk1 G w) (hG:c.G=G) (hF:c.fuel=30) (h1:1≤b) (hb:b≤32){xs:List Int}(hx:xs.length≤63){d2 d3:D}{K:C}
 (h:∀H pc,HOk H→H≠[]→H.length≤7→wp c K ⟨[(1,.d d1),(2,.d d2),(3,.d d3)],cA b q (Option.map (fun p=>A.d (.str p)) pc) (some (.d (.dict (YQ H)))),[]⟩ P) :
 wp c (.blk [1,2,3] (.mark [0,1,2,3] Zn1) K) ⟨[(3,.d d3),(2,.d d2),(1,.d d1),(0,.d (WP xs))],cA b q none none,[]⟩ P:=by
 refine Za (ZrV (xs:=xs)) fun ns hns hnl=>?_;refine Zf (Zov (by rw [Qw];omega)) ?_;refine hns▸(.mk (α:=Int×Nat) ns.zipIdx (fun z=>.d (.tuple [.int (z.2:Nat),.int z.1])) (fun _:HB=>[(0,.d (WP xs)),(1,.d d1),(2,.d d2),(3,.d d3)]) (fun x=>cA b q (Option.map (fun p=>A.d (.str p)) x.pc) (some (.own 7))++[hO x.H x.ep]) [] (fun rest x=>HOk x.H∧x.H.length+rest.length≤6∧∀z∈rest,z.2<6) ⟨[],0,none⟩ Zh3 (UF (Yj rfl) rfl rfl) ⟨⟨.nil,fun u h=>nomatch h⟩,?_,fun z hz=>?_⟩ (fun u u=>trivial) ?_ ?_)
 ·rw [List.length_zipIdx];exact Ry (by assumption) _
 ·have:=List.mem_zipIdx hz;omega
 ·rintro ⟨n,k⟩ rest ⟨H,ep,pc⟩ ⟨hH,hl,hz⟩;have hk:k<6:=hz _ (.head _);replace hl:=Rc▸hl;have key:∀p∈pathsAll,wp c (.o (.st (.c 2)) <| .mark [0,1,2,3,4,5] ZkD) ⟨[(5,.d (.int n)),(4,.d (.int (k:Nat))),(0,.d (WP xs)),(1,.d d1),(2,.d d2),(3,.d d3)],cA b q (Option.map (fun p=>A.d (.str p)) pc) (some (.own 7))++[hO H ep],[.d (.str p)]⟩ (lpW (fun st2=>∃b':HB,(HOk b'.H∧b'.H.length+rest.length≤6∧∀z∈rest,z.2<6)∧At [(0,.d (WP xs)),(1,.d d1),(2,.d d2),(3,.d d3)] (cA b q (Option.map (fun p=>A.d (.str p)) b'.pc) (some (.own 7))++[hO b'.H b'.ep]) [] st2) (nxt (fun st2=>wp c (.mark [1,2,3] Zof) st2 fun f st1=>match f with | .next=>opt (ZcY [1,2,3] 7 st1) fun st2=>wp c K st2 P | _=>False) fun f st1=>match f with | .next=>opt (ZcY [1,2,3] 7 st1) fun st2=>wp c K st2 P | _=>False)):=fun p hp=>by
   refine Zpl I hG hF h1 hb hp hk hH (by exact nR (by assumption) (by decide)) fun H' ep' L q1 q2 q3=>?_;exact ⟨⟨H',ep',some p⟩,⟨q1,by lia,fun z h=>hz z (.tail _ h)⟩,q3,rfl,rfl⟩
  refine Za (ZcU (x:=n) (m:=5) (by decide)) fun i hi ei=>?_;refine Zf (a:=⟨[(5,.d (.int n)),(4,.d (.int (k:Nat))),(0,.d (WP xs)),(1,.d d1),(2,.d d2),(3,.d d3)],cA b q (Option.map (fun p=>A.d (.str p)) pc) (some (.own 7))++[hO H ep],[]⟩) rfl ?_;refine Yr (fun z=>?_) (fun z=>?_)
  ·have b5:=(by decide +kernel:∀i<5,((i:Nat):Int)<10 ^ 10) i hi;have e5:n.fmod 5=(i:Int):=ei;exact Stop.mk (ZpN (e5▸Rb i) (e5▸b5) (key _ (e5▸ZqU i hi)))
  ·have b6:=(by decide +kernel:∀k<6,((k:Nat):Int)<10 ^ 10∧((((k:Nat):Int).fmod 2==0)=false→k % 2=1)) k hk;exact Stop.mk (ZoX (Rb k) b6.1 (key _ (Zrj k hk (b6.2 z))))
 ·rintro ⟨H,ep,pc⟩ ⟨hH,hl,u⟩;dsimp only at hH hl ⊢;replace hl:=List.length_nil▸hl;have fr:∀H' ep' e2,HOk H'→H'≠[]→H'.length≤7→opt (ZcY [1,2,3] 7 ⟨[(1,.d d1),(2,.d d2),(3,.d d3)],cA b q (Option.map (fun p=>A.d (.str p)) pc) (some (.own 7))++[hO H' ep',.dict [] e2],[]⟩) fun st2=>wp c K st2 P:=fun H' ep' e2 q1 q2 q3=>by
   refine Zf (Zb3 (o':=cA b q (Option.map (fun p=>A.d (.str p)) pc) (some (.d (.dict (YQ H'))))) (Ko 7 2) rfl (Zk rfl (Zk rfl (Zk rfl rfl))) ?_) (h H' pc q1 q2 q3);refine Zk rfl (Zk rfl (Zk ?_ (Zk rfl (Zk rfl (Zk rfl (Zk ?_ rfl))))))
   ·induction pc using Option.casesOn <;> rfl
   ·exact congrArg (Option.map fun a=>O.cell (some a)) (Zah (es:=YQ H') (Kq 7) (by show some (O.dict _ _)=_;unfold YQ;rw [Q0];rfl))
  refine Stop.mk (ZqV (i:=7) (j:=8) rfl rfl ?_);refine Yr (fun z=>?_) (fun z=>?_)
  ·obtain rfl:H=[]:=by
    induction H using LLc with
    | nil=>rfl
    | cons _ _=>exact Xi z
   refine Stop.mk (WC (i:=7) (es:=[]) (ep:=ep) rfl rfl (by decide) fun e=>?_);exact fr [("f","00000000")] e 0 ZsU (fun e=>nomatch e) (by decide)
  ·exact fr H ep 0 hH (fun e=>by replace z:=e▸z;exact nomatch z) (by exact Nat.le_succ_of_le (by assumption))
end
end
section
variable {w:World}
noncomputable def ZsJ:Qq:=["a"]
noncomputable def Zsx:Qq:=["a","b"]
noncomputable def ZsM:Qq:=["a","b","c"]
def IdsOk (ids:Qq):Prop:=ids=ZsJ∨ids=Zsx∨ids=ZsM
structure PreA (b:Nat) (q:Str) (ids:Qq) (t:Int) (H:List (Str×Str)):Prop where
 b1:1≤b
 b2:b≤32
 q:q.length≤10
 i:IdsOk ids
 t:1≤t
 h:HOk H
 n:H≠[]
 l:H.length≤7
noncomputable def ZrQ:Qq:=["bin","b","","a-b","role/0"]
theorem Zmb:∀j<5,∃q:Str,q.length≤10∧(ZrQ.map D.str)[j]?=some (.str q):=fun j hj=>by
 have:=(by decide:∀j<5,j=0∨j=1∨j=2∨j=3∨j=4) j hj;rcases this with rfl | rfl | rfl | rfl | rfl <;> exact ⟨_,by decide,rfl⟩
noncomputable abbrev ABC:Qi:=[.str "a",.str "b",.str "c"]
theorem ZmN:∀j<3,∃ids:Qq,IdsOk ids∧cut ABC none (some (1+((j:Nat):Int)))=ids.map .str:=fun j hj=>by
 have:=(by decide:∀j<3,j=0∨j=1∨j=2) j hj;rcases this with rfl | rfl | rfl
 ·exact ⟨_,.inl rfl,rfl⟩
 ·exact ⟨_,.inr (.inl rfl),rfl⟩
 ·exact ⟨_,.inr (.inr rfl),rfl⟩
section
variable {P:Qa}
noncomputable abbrev cD (b:Nat) (q:Str) (pc:Option A) (H:List (Str×Str)):Qg:=[.cell (some (.d (.int b))),.cell (some (.d (.str q))),.cell pc,.cell none,.cell none,.cell (some (.own 7)),.cell (some (.d (.dict (YQ H)))),.list []]
theorem Ze7 (I:IsK kk1 G w) (hG:c.G=G) (hF:c.fuel=30){xs:List Int}(hx:xs.length≤63)
 (h:∀b q ids t H pc,PreA b q ids t H→P .next ⟨[(1,.d (.int hd)),(2,.d (Zv ids)),(3,.d (.int t))],cD b q (Option.map (fun p=>A.d (.str p)) pc) H,[]⟩) :
 wp c ZnR ⟨[(0,.d (WP xs)),(1,.d (.int hd))],[.cell none,.cell none,.cell none,.cell none,.cell none,.cell none,.cell none],[]⟩ P:=by
 refine Za (ZcU (x:=hd) (m:=32) (by decide)) fun b0 hb0 eb=>?_;refine Za (ZcU (x:=hd.fdiv 32) (m:=5) (by decide)) fun j hj ej=>?_;refine Za (ZcU (x:=hd.fdiv 160) (m:=3) (by decide)) fun j2 hj2 ej2=>?_;refine Za (Zmb j hj) fun q hq eq=>?_;refine Za (ZmN j2 hj2) fun ids hi ei=>?_;have hb:(1:Int)+hd.fmod 32=((b0+1:Nat):Int):=by rw [show hd.fmod 32=(b0:Int) from eb,Int.add_comm];rfl
 have ht:=Int.fmod_nonneg_of_pos (hd.fdiv 480) (b:=3) (by decide);refine ZrC I hG hF (Zfs I) (by kd_p) (by decide) ?_;refine hb▸(Zf (Zqw (x:=.str q) (ej▸Rb j:(0:Int)≤(hd.fdiv 32).fmod ((5:Nat):Int)) (ej▸Int.ofNat_lt.mpr (Nat.lt_trans hj (by decide)):(hd.fdiv 32).fmod ((5:Nat):Int)<((9223372036854775808:Nat):Int)) (by rw [show (hd.fdiv 32).fmod 5=(j:Int) from ej,Int.toNat_natCast];exact eq)) ?_);refine Zj7 (K:=.mark [1,2,3] Zoh) (b:=b0+1) (q:=q) (d1:=.int hd) (d2:=.list (cut ABC none (some (1+(hd.fdiv 160).fmod 3)))) (d3:=.int (1+(hd.fdiv 480).fmod 3)) I hG hF (by exact Nat.succ_pos _) (by assumption) hx fun H pc q1 q2 q3=>?_;exact (show (hd.fdiv 160).fmod 3=(j2:Int) from ej2)▸ei▸(h (b0+1) q ids _ H pc ⟨Nat.succ_pos _,hb0,hq,hi,Int.le_add_of_nonneg_right ht,q1,q2,q3⟩)
theorem Zmr (I:IsK kk1 G w) (hG:c.G=G) (hF:c.fuel=30){xs:List Int}(hx:xs.length≤63)
 (h:∀hd b q ids t H pc,PreA b q ids t H→P .next ⟨[(1,.d (.int hd)),(2,.d (Zv ids)),(3,.d (.int t))],cD b q (Option.map (fun p=>A.d (.str p)) pc) H,[]⟩) :
 wp c lca ⟨[(0,.d (WP xs))],[.cell none,.cell none,.cell none,.cell none,.cell none,.cell none,.cell none],[]⟩ P:=by
 induction xs using LLc with
 | nil=>exact Ze7 I hG hF hx (h 0)
 | cons x r =>
  refine Zf (Zu (by rw [Qw];lia)) ?_;exact Ze7 I hG hF hx (h x)
end
end
section
theorem ZnD {a:Nat}(ha:a<16) (hb:b<16) (h:cp (Xy (a:Nat))=cp (Xy (b:Nat))):a=b :=
 (by decide +kernel:∀a<16,∀b<16,cp (Xy ((a:Nat):Int))=cp (Xy ((b:Nat):Int))→a=b) a ha b hb h
theorem Zft {n w:Nat}(h:cp (ZC (n:Nat) w)=cp (ZC (m:Nat) w)):n % 16 ^ w=m % 16 ^ w:=by
 induction w with
 | zero=>rw [Nat.pow_zero,Nat.mod_one,Nat.mod_one]
 | succ i ih =>
  rw [Ul,Ul,YL,YL] at h;have e1:((n / 16 ^ i:Nat):Int).fmod 16=((n / 16 ^ i % 16:Nat):Int):=ZeK (by decide);have e2:((m / 16 ^ i:Nat):Int).fmod 16=((m / 16 ^ i % 16:Nat):Int):=ZeK (by decide);rw [e1,e2] at h;have hl:∀k,k<16→(cp (Xy ((k:Nat):Int))).length=1:=by decide +kernel
  have h1:=List.append_inj h (by rw [hl _ (Nat.mod_lt _ (by decide)),hl _ (Nat.mod_lt _ (by decide))]);have h3:=ih h1.2;rw [Nat.mod_pow_succ,Nat.mod_pow_succ,(ZnD (Nat.mod_lt _ (by decide)) (Nat.mod_lt _ (by decide)) h1.1),h3]
theorem Zko {v w:Nat}(hw:w≤8):(cp (ZC (v:Nat) 8)).take w=cp (ZC ((v / 16 ^ (8 - w):Nat):Int) w):=by
 rw [Wv,Wv,←List.map_take,List.take_range,Rz hw];refine List.map_congr_left fun k hk=>?_;have hk:=ZfC hk;rw [Nat.div_div_eq_div_mul,←Nat.pow_add,show 8 - w+(w - 1 - k)=8 - 1 - k from (by decide +kernel:∀w≤8,∀k<w,8 - w+(w - 1 - k)=8 - 1 - k) w hw k hk]
theorem Zih:(x==y)=(cp x==cp y):=by
 rw [Bool.eq_iff_iff,Q7,Q7];exact ⟨fun h=>h▸rfl,Zo6⟩
theorem Zns {w:Nat}(h:w≤(cp x).length):cp (Zae x none (some (w:Int)))=(cp x).take w:=by
 show ((cp x).drop (ZN 0 none (cp x).length)).take (ZN (cp x).length (some (w:Int)) (cp x).length - ZN 0 none (cp x).length)=_;rw [show ZN 0 none (cp x).length=0 from rfl,Zbn,List.drop_zero,Rz h,Nat.sub_zero]
theorem ZfD {v w:Nat}(hw:w≤8) (hm:m<16 ^ w) (hv:v<16 ^ 8):Txt.startswith (ZC (v:Nat) 8++y) (ZC (m:Nat) w)=(m==v / 16 ^ (8 - w)):=by
 have hl:(cp (ZC (v:Nat) 8)).length=8:=by rw [Wv,Qw,Rk]
 have hd:v / 16 ^ (8 - w)<16 ^ w:=by
  rw [Nat.div_lt_iff_lt_mul (Nat.pow_pos (by decide)),←Nat.pow_add,Nat.add_sub_of_le hw];exact hv
 rw [←Zfo,Z4,Zih,Zns (by rw [YL,Qu,hl];exact Kr (by assumption) (Ko _ _)),YL,List.take_append_of_le_length (by rw [hl];exact hw),Zko hw,Bool.eq_iff_iff,Q7,Q7];refine ⟨fun h=>?_,fun h=>h▸rfl⟩
 have:=Zft h;rw [Nat.mod_eq_of_lt hd,Nat.mod_eq_of_lt hm] at this;exact this.symm
theorem Zir {v n:Nat}(hb:b≤32) (hv:v<2 ^ 32) (hn:n<2 ^ b):YU (ZC (v:Nat) 8++y) (Zdg (n:Nat) b)=(n==v / 2 ^ (32 - b)):=by
 refine Yz (Wb hb) fun h1 h2 h3=>?_;have hs:YI b=2 ^ (4*wd b - b):=rfl;have hsp:0<YI b:=(U0 hb).1;have e16:(16:Nat) ^ wd b=2 ^ b*YI b:=by rw [hs,←Nat.pow_add,Nat.add_sub_of_le h2,show (16:Nat)=2 ^ 4 from rfl,←Nat.pow_mul]
 have e8:(2:Nat) ^ (32 - b)=16 ^ (8 - wd b)*YI b:=by rw [hs,show (16:Nat)=2 ^ 4 from rfl,←Nat.pow_mul,←Nat.pow_add,(by decide +kernel:∀b≤32,4*(8 - wd b)+(4*wd b - b)=32 - b) b hb]
 have one:∀k∈List.range (YI b),Txt.startswith (ZC (v:Nat) 8++y) (ZC (((n:Nat):Int)*(YI b:Nat)+((k:Nat):Int)) (wd b))=(n*YI b+k==v / 16 ^ (8 - wd b)):=fun k hk=>by
  have hk:=ZfC hk;refine (show ((n:Nat):Int)*(YI b:Nat)+((k:Nat):Int)=((n*YI b+k:Nat):Int) by push_cast;rfl)▸(ZfD h1 ?_ hv);rw [e16];exact Kt (show n*YI b+k<(n+1)*YI b by rw [Nat.succ_mul];exact Nat.add_lt_add_left hk _) (Nat.mul_le_mul_right _ hn)
 unfold YU Zdg;rw [List.any_map];rw [Bool.eq_iff_iff,List.any_eq_true,Q7,e8,←Nat.div_div_eq_div_mul];constructor
 ·rintro ⟨k,hk,h⟩;have h:n*YI b+k=v / 16 ^ (8 - wd b):=by have:=(one k hk).symm.trans h;exact beq_iff_eq.mp this
  rw [←h,Nat.add_comm,Nat.add_mul_div_right _ _ hsp,Nat.div_eq_of_lt (List.mem_range.mp hk),Nat.zero_add]
 ·intro h;refine ⟨v / 16 ^ (8 - wd b) % YI b,List.mem_range.mpr (Nat.mod_lt _ hsp),?_⟩;refine (one _ (List.mem_range.mpr (Nat.mod_lt _ hsp))).trans (beq_iff_eq.mpr ?_);rw [h];exact Nat.div_add_mod' _ _
end
section
def Zj1 (x:O):Prop:=Zhu x∨(∃a n,x = .ask a n)∨∃xs:Qi,x = .list (xs.map .d)
section
theorem Zi3 {l:Qc}{tail:Qg}{d:D}(ho:∀x∈o,Zj1 x) (hl:∀q∈l,∃d,q.2 = .d d) (hk:∃ds:Qi,k=ds.map .d) (hf:Frz (o++tail) o.length a d):Cv o.length ⟨l,o++tail,a::k⟩ ⟨l,o,.d d::k⟩:=by
 refine ⟨rfl,by simp,fun i x h=>⟨x,?_,?_⟩,fun x a' h=>⟨a',h,?_⟩,hf,?_⟩
 ·exact (Kl (ZB h).1).trans h
 ·rcases ho x (Kj h) with (rfl | ⟨d,rfl⟩) | ⟨a,n,rfl⟩ | ⟨xs,rfl⟩
  ·exact trivial
  ·exact .d d
  ·exact ⟨rfl,rfl⟩
  ·exact AFrs.d xs
 ·refine oze (hl _ (Yy h)) fun d e=>?_;have e:a' = .d d:=e;exact e▸(.d d)
 ·refine oze hk fun ds zo1=>?_;subst zo1;exact AFrs.d ds
theorem Zlq {e:Expr}(h:EJ c e st fun st1=>∃l o tail a k d,st1=⟨l,o++tail,a::k⟩∧o.length=st.own.length∧(∀x∈o,Zj1 x)∧(∀q∈l,∃d,q.2 = .d d)∧(∃ds:Qi,k=ds.map .d)∧Frz (o++tail) o.length a d∧Q ⟨l,o,.d d::k⟩):EJ c e st Q:=fun F vs s R =>
 wpm (h F vs s R) (fun j j z=>by
  refine Ka fun zn=>?_;obtain ⟨st1,R1,l,o,tail,a,k,d,e1,e2,h1,h2,h3,hf,q⟩:=z;refine zn ?_;subst e1;exact ⟨_,R1.conv (Zi3 h1 h2 h3 hf) (e2▸R.bounds.1) (e2▸R.bounds.2),q⟩)
end
section
variable {l:Qc}
theorem ZiD {f:Value}{n:Nat}{args:Qi}{r:D}(ho:o[i]?=some (.ask aL n)) (H:OSpecC c.G f need [.ask aL n] (args.map .d) fun a o=>a = .d r∧∃m,m≤N∧o=[.ask aL m]) (hk:∀h,c.G.lib.B h→ZF c f h) (hn:need≤c.fuel) (hl:args.length=j) (q:∀m,m≤N→Q ⟨l,o.set i (.ask aL m),.d r::k⟩):
 CJ c j ⟨l,o,(args.map A.d).reverse++.d (.val f)::k⟩ Q:=by
 subst hl;have e:∀ι:Nat→Nat,(args.map A.d).map (YN ι)=args.map A.d:=fun ι=>by rw [Q0];rfl
 have:=XX (l:=l) (o:=o) (k:=k) (Q:=Q) [i] (os:=[.ask aL n]) (args:=args.map .d) (OSpecC.toO H) hk hn (Qw _) (by simp) rfl (Zet rfl rfl ho (y:=.dead)) (by
  rintro a os' ⟨rfl,m,hm,rfl⟩
  have:=q m hm;show Q ⟨l,o.set i _++[],_⟩;rw [Rj];exact this)
 rw [e] at this;exact this
end
end
section
noncomputable abbrev Tri:=Str×Nat×Str
noncomputable def hsh (z:Tri):Str:=ZC ((z.2.1:Nat):Int) 8++z.2.2
noncomputable def XI (Z:List Tri):List (Str×Str):=Z.map fun z=>(z.1,hsh z)
structure TriOk (Z:List Tri):Prop where
 n:(Z.map (·.1)).Nodup
 p:∀z∈Z,z.1∈pathsAll∧z.2.1<2 ^ 32∧z.2.2.length≤100
theorem Zel {Z:List Tri}:(XI Z).map (·.1)=Z.map (·.1):=by unfold XI;rw [Q0];rfl
theorem ZpW {H:List (Str×Str)}(h:∀e∈H,e.1∈pathsAll∧∃(v:Nat) (y:Str),v<2 ^ 32∧y.length≤100∧e.2=ZC v 8++y):∃Z:List Tri,H=XI Z∧∀z∈Z,z.1∈pathsAll∧z.2.1<2 ^ 32∧z.2.2.length≤100:=by
 induction H with
 | nil=>exact ⟨[],rfl,fun j h=>nomatch h⟩
 | cons e H ih =>
  refine Za (ih fun e he=>h e (.tail _ he)) fun Z zo1 hZ=>?_;subst zo1;obtain ⟨hp,v,y,hv,hy,e2⟩:=h e (.head _);refine ⟨(e.1,v,y)::Z,?_,fun z hz=>(ZH hz).elim (fun e=>e▸⟨hp,hv,hy⟩) (hZ z)⟩;show e::XI Z=(e.1,ZC v 8++y)::XI Z;exact e2▸rfl
theorem ZpR {H:List (Str×Str)}(h:HOk H):∃Z:List Tri,H=XI Z∧TriOk Z:=by
 refine Za (ZpW h.p) fun Z zo1 hZ=>?_;subst zo1;exact ⟨Z,rfl,by rw [←Zel];exact h.n,hZ⟩
theorem UP {Z:List Tri}(h:(Z.map (·.1)).Nodup){z:Tri}(hz:z∈Z):Yk z.1 (YQ (XI Z))=some (.str (hsh z)):=by
 induction Z with
 | nil=>exact nomatch hz
 | cons x Z ih =>
  have hn:=List.nodup_cons.mp h;show Yk z.1 ((x.1,D.str (hsh x))::YQ (XI Z))=_;unfold Yk;rcases ZH hz with rfl | hz
  ·exact (if_pos rfl)
  ·exact (if_neg fun e:x.1=z.1=>hn.1 (by show x.1∈_;rw [e];exact Ri hz))▸(ih hn.2 hz)
noncomputable def ZbU (q:Str) (b n:Nat):Str:=q++"-"++ZC ((n:Nat):Int) (wd b)
theorem Zhs {v:Nat}:ZY q b v=ZbU q b (v / 2 ^ (32 - b)):=rfl
theorem Ze1 {n:Nat}(hb:b≤32) (hn:n<2 ^ b) (hm:m<2 ^ b) (h:ZbU q b n=ZbU q b m):n=m:=by
 have:=congrArg cp h;unfold ZbU at this;rw [YL,YL _ (ZC (m:Int) _)] at this
 have:=Zft (List.append_cancel_left this);rw [Nat.mod_eq_of_lt (Kt hn (Zgn hb)),Nat.mod_eq_of_lt (Kt hm (Zgn hb))] at this;exact this
theorem ZlH {n:Nat}(hb:b≤32) (hq:q.length≤10):Zcx (ZbU q b n):=by
 have hl:(ZbU q b n).length=q.length+1+wd b:=by
  unfold ZbU;rw [Q5,Q5,Z4];rfl
 have:=(Wb hb).1;refine ⟨hl▸⟨Kr (Nat.le_add_left 1 _) (Ko _ _),ad2 (ad1 hq (Kq _)) this (by decide)⟩,List.any_eq_false.mpr fun y hy e=>?_⟩;have e:y=ZbU q b n:=beq_iff_eq.mp e;have hm:45∈cp (ZbU q b n):=by
  unfold ZbU;rw [YL,YL];exact Kg _ (Kf _ (by decide))
 rw [←e] at hm;exact (by decide:∀y∈(["root","timestamp","snapshot","targets"]:Qq),45∉cp y) y hy hm
theorem Zdr {v:Nat}(hb:b≤32) (hv:v<2 ^ 32):v / 2 ^ (32 - b)<2 ^ b:=by
 rw [Nat.div_lt_iff_lt_mul (Nat.two_pow_pos _),←Nat.pow_add,show b+(32 - b)=32 by exact Nat.add_sub_of_le (by assumption)];exact hv
structure LongOk (q:Str) (b:Nat) (rs:List Rl) (done:List Tri):Prop where
 n:(rs.map (·.1)).Nodup
 r:∀r∈rs,∃n,n<2 ^ b∧r=(ZbU q b n,Zdg ((n:Nat):Int) b)
 d:∀z∈done,ZY q b z.2.1∈rs.map (·.1)
 l:rs.length≤done.length
theorem Zgs {α:Type}{f:α→Str}{rs:List α}(hn:(rs.map f).Nodup) (hx:x∈rs.map f):∃r,r∈rs∧f r=x∧rs.filter (fun r=>f r==x)=[r]:=by
 induction rs with
 | nil=>exact nomatch hx
 | cons r rs ih =>
  have hn:=List.nodup_cons.mp hn;by_cases h:f r=x
  ·refine ⟨r,.head _,h,?_⟩;rw [List.filter_cons_of_pos (p:=fun r=>f r==x) (beq_iff_eq.mpr h),List.filter_eq_nil_iff.mpr fun y hy e=>hn.1 ?_];exact h▸(beq_iff_eq.mp e)▸(Ri hy)
  ·refine Zt (ih hn.2 ((ZH hx).elim (fun e=>absurd e.symm h) id)) fun y h1 h2 h3=>?_;exact ⟨y,.tail _ h1,h2,by rw [Rv (p:=fun r=>f r==x) (by simpa using h)];exact h3⟩
section
variable {done:List Tri}{z:Tri}
theorem LongOk.trust (h:LongOk q b rs done) (hb:b≤32) (hv:z.2.1<2 ^ 32){r:Rl}(hr:r∈rs):YU (hsh z) r.2=(r.1==ZY q b z.2.1):=by
 refine Za (h.r r hr) fun n hn zo1=>?_;subst zo1;refine (Zir hb hv hn).trans ?_;rw [Bool.eq_iff_iff,Q7,Q7,Zhs];exact ⟨fun e=>e▸rfl,fun e=>Ze1 hb hn (Zdr hb hv) e⟩
theorem LongOk.filter (h:LongOk q b rs done) (hb:b≤32) (hv:z.2.1<2 ^ 32) (hz:z∈done):∃r:Rl,r.1=ZY q b z.2.1∧rs.filter (fun r=>YU (hsh z) r.2)=[r]:=by
 refine Zt (Zgs (f:=fun r:Rl=>r.1) h.n (h.d z hz)) fun r h1 h2 h3=>?_;refine ⟨r,h2,?_⟩;exact h3▸(List.filter_congr fun y hy=>h.trust hb hv hy)
theorem LongOk.told (h:LongOk q b rs done) (hb:b≤32) (hv:z.2.1<2 ^ 32) (hz:z∈done):ZbW (hsh z) rs=[(ZY q b z.2.1,true)]:=by
 refine Za (h.filter hb hv hz) fun r h1 h2=>?_;unfold ZbW;rw [h2,←h1];rfl
end
end
variable {Z done:List Tri}
section
variable {w:World}
theorem IsX1.sub {G':Gx}(I:IsX1 G w) (ep:G'.p=G.p) (ew:G'.w=G.w) (er:G'.reg=G.reg) (hs:∀g,G'.lib.B g→G.lib.B g):IsX1 G' w where
 k:=⟨fun h hB=>I.k.B h (hs h hB),ew.trans I.k.w⟩
 p:=ep.trans I.p
 gen:=⟨fun h hB=>I.gen.K h (hs h hB),fun r hr P hP=>I.gen.reg r (er▸hr) P (er▸hP),fun h hB=>I.gen.bm h (hs h hB),fun r hr=>I.gen.nostat r (er▸hr)⟩
 r1:=er▸I.r1
 r2:=er▸I.r2
noncomputable abbrev HLB:Hi:={rw:=[364,366,375,382,384,388],rn:=[379],bk:=[(367,3,[1,2,3,7,9,10,11,12]),(387,2,[1,2,3,7,10,11,13,14,16])],mks:=[(367,[1,2,3,7,9,10,11]),(369,[1,2,3,7,9,10,11,12]),(374,[1,2,3,7,9,10,11,12]),(376,[1,2,3,7,10,11,12,13,14]),(384,[1,2,3,7,10,11,13,14]),(386,[1,2,3,7,10,11,13,14]),(394,[1,2,3,7,10,11,13,14])]}
structure LawB (w:World) (c:Cx) (fD aL:Addr) (Z:List Tri):Prop where
 I:IsX1 c.G w
 F:c.fuel=30
 X:EnvOk c (ZkL (EK (kk1 w.params) 376 0 HLB))
 D:DigX c.G fD aL (XI Z)
 T:ZcK c.G
 fin:∀g,c.G.fin g
 hs:∃a vh,FixC c "hashes" a vh∧∀g,c.G.lib.B g→VR c.p c.w g (.dict (YQ (XI Z))) vh
 as:∃a,FixC c "asked" a (.ref aL)
noncomputable abbrev cE (b:Nat) (q:Str) (pc:Option A) (fD:Addr) (lg:Option A) (aL:Addr) (n:Nat):Qg:=[.cell (some (.d (.int b))),.cell (some (.d (.str q))),.cell pc,.cell (some (.d (.val (.ref fD)))),.cell lg,.ask aL n]
section
theorem Zf9 (I:IsX1 G w):Zw G (.ref 70) 3 [.str x,.str "t",.str "s",.dict [("public",.str ("p"++x))]] fun d=>d=(Zdb x).d :=
 Zd8 I.k (ZkV w) (Zfi I.k)
end
section
theorem Zg3 {l:Qc}(h:ids.length≤100):Xd (.bi .list) ⟨l,o,.d (Zv ids)::r⟩=some ⟨l,o,.d (Zv ids)::r⟩ :=
 Zu (by rw [Qw];lia)
theorem IdsOk.n (h:IdsOk ids):ids.Nodup:=by rcases h with rfl | rfl | rfl <;> decide
theorem IdsOk.l (h:IdsOk ids):ids.length≤3:=by rcases h with rfl | rfl | rfl <;> decide
theorem IdsOk.z (h:IdsOk ids):("z":Str)∉ids:=by rcases h with rfl | rfl | rfl <;> decide
theorem IdsOk.s (h:IdsOk ids):∀x∈ids,x.length≤1:=by rcases h with rfl | rfl | rfl <;> decide
theorem ZrF {l:Qc}{m3 m4:Nat}{p6 p7 p8 p9 q1:Pos}(L0:IsL c' "name" i) (hl:Zs i l=some (.d (.str x))) (hx:x.length≤1) (q:Q ⟨l,o,.d (.dict [("public",.str ("p"++x))])::k⟩):EJ c' (.Dict [some (.Constant (.str "public") m3 p6)] [.BinOp (.Constant (.str "p") m4 p7) .Add (.Name "name" p8) p9] q1) ⟨l,o,k⟩ Q:=by
 refine ZfW (Zg0 (Zg2 (Wx (UD (Ze L0 hl (Zkq (by rw [sizeLine_eq];show 1+x.length≤_;exact Ux (by assumption) (by decide)) (Zk6 ⟨Za2,by decide,[.d (.str ("p"++x))],_,rfl,fun ep=>?_⟩)))))) rfl);refine ⟨[.dict [("public",.d (.str ("p"++x)))] ep],.own o.length,.dict [("public",.str ("p"++x))],?_,.dict (Kq _) Za2 (.cons (.d _) .nil),q⟩;rw [Zf7];rfl
theorem ZhP (L:LawB w c fD aL Z) (hc:c'.G=c.G) (hf:c'.fuel=c.fuel){p2 p5 p6 p7 p8 p9 q1 q2:Pos}{m1 m2 m3 m4:Nat}(L0:IsL c' "name" i) (GK:IsG c' "Key" (.ref 70)){n:Nat}{base:Qg}(hn:base.length=n) (ids:Qq) (hs:∀x∈ids,x.length≤1) (done:Qq) (ep:Nat) (l:Qc) (hnd:(done++ids).Nodup) (hz:done.length+ids.length≤100)
 (q:∀l ep',Q ⟨l,base++[.dict ((ZJ (done++ids)).map fun e=>(e.1,A.d e.2)) ep'],[]⟩) :
 WX c' (.Name "name" px) [] (Zec (.Name "name" p1) (.Call (.Name "Key" p2) [.Name "name" p3,.Constant (.str "t") m1 p4,.Constant (.str "s") m2 p5,.Dict [some (.Constant (.str "public") m3 p6)] [.BinOp (.Constant (.str "p") m4 p7) .Add (.Name "name" p8) p9] q1] [] q2)) (fun j=>True) n (ids.map fun x=>.d (.str x)) ⟨l,base++[.dict ((ZJ done).map fun e=>(e.1,A.d e.2)) ep],[]⟩ Q:=by
 induction ids generalizing done ep l with
 | nil=>exact ⟨trivial,by simpa using q l ep⟩
 | cons x ids ih =>
  refine ⟨trivial,Z7 (ZK L0 (Zbg ⟨fun j=>?_,fun h=>nomatch h⟩))⟩;rw [Rc] at hz;have hlk:Zs i ((i,A.d (.str x))::l)=some (.d (.str x)):=UR;show EmJ c' _ n ⟨(i,.d (.str x))::l,base++[.dict ((ZJ done).map fun e=>(e.1,A.d e.2)) ep],[]⟩ _;generalize hll:(i,A.d (.str x))::l=l2 at hlk;refine Zhq ?_;refine Ze L0 hlk ?_;refine UM ?_ rfl rfl;refine ZQ GK ?_;refine Zq ?_;refine Ze L0 hlk ?_;refine Zq ?_;refine UD ?_;refine Zq ?_;refine UD ?_;refine Zq ?_;refine ZrF L0 hlk (hs x (.head _)) ?_;refine Ym ?_;refine Wr (args:=[.str x,.str "t",.str "s",.dict [("public",.str ("p"++x))]]) (need:=3) (hc▸Zf9 L.I) (Ua L.I.k (by kd_p) hc) (by rw [hf,L.F];decide) rfl ?_;rintro j rfl;have hni:x∉((ZJ done).map fun e=>(e.1,A.d e.2)).map (·.1):=by
   rw [Q0];intro hm;refine Za (Yh hm) fun e h1 h2=>?_;refine Za (Yh h1) fun k h3 h4=>?_;refine Za (Yh h3) fun y h5 h6=>?_;have:y=x:=by rw [←h2,←h4,←h6];rfl
   exact (List.nodup_append.mp hnd).2.2 _ (this▸h5) _ (.head _) rfl
  refine ⟨x,.d (Zdb x).d,(ZJ done).map fun e=>(e.1,A.d e.2),ep,rfl,WA hn,by rw [Qw];unfold ZJ WR;rw [Qw,Qw];exact nR (by assumption) (by decide),fun ep'=>?_⟩;rw [YA hni,←hn,Zf7]
  have:=ih (fun y hy=>hs y (.tail _ hy)) (done++[x]) ep' l2 (by rw [Qy];exact hnd) (by rw [Qu];show _+1+_≤_;exact nS (by assumption)) fun l' e'=>by
   rw [Qy];exact q l' e'
  rw [show ((ZJ (done++[x])).map fun e=>(e.1,A.d e.2))=((ZJ done).map fun e=>(e.1,A.d e.2))++[(x,A.d (Zdb x).d)] by unfold ZJ WR;rw [Q9,Q9,Q9];rfl] at this;subst hn;exact this
end
end
section
variable {w:World}
section
variable {P:Qa}{t:Int}{pc:Option A}
theorem ZlI (L:LawB w c fD aL Z) (hi:IdsOk ids){l:Qc}{Q:Fl→St→Prop}(h2:Zs 2 l=some (.d (Zv ids))) (q:Q .next ⟨(9,.d (.dict (ZJ ids)))::l,o,[]⟩):XJ c [ZZ (fAt pw1 21) [11]] ⟨l,o,[]⟩ Q:=by
 have hl:=hi.l;refine ZO (Zf0 (i:=9) (Zb9 (UK L.X.cel (by kd_p)) (UA (Ze (L.X.l "ids" 2 (by kd_p)) h2 (Zhi (xs:=ids.map .str) (fun c' hc'=>?_) (.inl fun j j=>rfl)))) (Zgt (L.X.l "keys" 9 (by kd_p)) (by kd_p) rfl) (fun j=>rfl)));have GK:IsG c' "Key" (.ref 70):=Zrl hc' (by kd_p) (L.X.gl _ _ (by kd_p));rw [Q0];have e0:∀o:Qg,o++[.dict [] 0]++List.replicate 0 (.cell none)=o++[.dict ((ZJ []).map fun e=>(e.1,A.d e.2)) 0]:=fun o=>Rj _;show WX c' _ _ _ _ o.length _ ⟨[],o++[.dict [] 0]++List.replicate 0 (.cell none),[]⟩ _;rw [e0];refine ZhP L (c':=c') hc'.G hc'.fuel (Zfp hc' (i:=1) (by kd_p)) GK (n:=o.length) (base:=o) rfl ids hi.s [] 0 [] hi.n (by show 0+_≤_;exact Ux (by assumption) (by decide)) fun l' ep'=>?_;refine ZK (L.X.l "keys" 9 (by kd_p)) ⟨rfl,_,_,rfl,.dict (Kq _) Za2 (Frze.d _),ZR q⟩
end
end
section
variable {w:World}
section
variable {P:Qa}{t:Int}{pc:Option A}
theorem Zm5 (L:LawB w c fD aL Z) (h1:1≤b) (hb:b≤32) (hq:q.length≤10) (hi:IdsOk ids) (ht:1≤t) (ho:o=cE b q pc fD none aL 0)
 (h:wp c (.blk [1,2,3,7,9,10,11,12] (.mark [1,2,3,7,9,10,11] ZiU) <| .mark [1,2,3,7,9,10,11,12] ZkU) ⟨[(11,.d (Z1 (ZJ ids) (Zx ids t b q))),(10,.d (Z1 (ZJ ids) (Zx ids t b q))),(9,.d (.dict (ZJ ids))),(7,.d (Zx ids t b q)),(1,.d (.int hd)),(2,.d (Zv ids)),(3,.d (.int t))],o,[]⟩ P) :
 wp c lcb ⟨[(1,.d (.int hd)),(2,.d (Zv ids)),(3,.d (.int t))],o,[]⟩ P:=by
 have hl:=hi.l;subst ho;refine Zf (Zg3 (by lia)) ?_;refine Stop.mk (Wr (args:=[Zv ids,.int t,.int b,.str q]) (need:=7) (ZaM L.I hi.n (by lia) ht h1 hb) (Ua L.I.k (by kd_p) rfl) (by rw [L.F];decide) rfl ?_);rintro j rfl;refine Stop.mk (ZlI L hi rfl ?_);refine Stop.mk (Wr (args:=[.dict (ZJ ids),.none,Zx ids t b q]) (need:=6) (Zcs L.I) (Ua L.I.k (by kd_p) rfl) (by rw [L.F];decide) rfl ?_);rintro j rfl;refine Stop.mk (ZO (XH (ZqW L.I rfl (by rw [L.F];decide) hi.n (by lia) ht h1 hb (L.X.l "short" 10 (by kd_p)) rfl (L.X.g "Delegations" (.ref 324) (by kd_p) (L.X.gl _ _ (by kd_p))) (by kd_p1) (by kd_p1) (ZK (L.X.l "again" 11 (by kd_p)) (ZR ?_))) rfl));exact h
end
end
section
variable {w:World}
noncomputable def WV (q:Str) (b:Nat) (Z:List Tri):Qd:=Z.map fun z=>(z.1,.str (ZY q b z.2.1))
noncomputable abbrev pcA (pc:Option Str):Option A:=Option.map (fun p=>A.d (.str p)) pc
structure LB where
 done:List Tri
 rs:List Rl
 e1:Nat
 e2:Nat
 pc:Option Str
theorem LongOk.nil:LongOk q b [] []:=⟨.nil,fun j h=>(nomatch h),fun j h=>(nomatch h),Kq _⟩
noncomputable abbrev dE (es:Qd) (e:Nat):O:=.dict (es.map fun e=>(e.1,A.d e.2)) e
theorem Zfn:(es.map fun e=>(e.1,A.d e.2)).map (·.1)=es.map (·.1):=by rw [Q0];rfl
theorem LongOk.step (h:LongOk q b rs done) (hb:b≤32){z:Tri}(hv:z.2.1<2 ^ 32) (ids:Qq) (t:Int):∃rs',LongOk q b rs' (done++[z])∧Z6 ((Zn ids t rs).map fun e=>(e.1,A.d e.2)) (ZY q b z.2.1) (.d (Y1 (ZY q b z.2.1) ids t (Zdg ((z.2.1 / 2 ^ (32 - b):Nat):Int) b)))=(Zn ids t rs').map fun e=>(e.1,A.d e.2):=by
 have ld:(done++[z]).length=done.length+1:=by rw [Qu];rfl
 have hnm:((Zn ids t rs).map fun e=>(e.1,A.d e.2)).map (·.1)=rs.map (·.1):=by rw [Zfn];unfold Zn;rw [Q0];rfl
 by_cases hm:ZY q b z.2.1∈rs.map (·.1)
 ·refine ⟨rs,⟨h.n,h.r,fun y hy=>(ZL hy).elim (h.d y) fun hy=>by rw [YY hy];exact hm,by rw [ld];exact Nat.le_succ_of_le h.l⟩,?_⟩;unfold Z6;rw [if_pos]
  ·refine (List.map_congr_left fun e he=>?_).trans (List.map_id _);refine Za (Yh he) fun e1 g1 g2=>?_;refine Za (Yh g1) fun r g3 g4=>?_;refine Za (h.r r g3) fun n hn hr=>?_;subst g2 g4 hr;split
   ·rename_i e
    have:=Ze1 hb hn (Zdr hb hv) e;rw [Zhs,←this];rfl
   ·rfl
  ·refine Za (Yh hm) fun r g1 g2=>?_;refine List.any_eq_true.mpr ⟨(r.1,.d (Y1 r.1 ids t r.2)),?_,decide_eq_true g2⟩;unfold Zn;rw [Q0];exact List.mem_map.mpr ⟨r,g1,rfl⟩
 ·refine ⟨rs++[(ZY q b z.2.1,Zdg ((z.2.1 / 2 ^ (32 - b):Nat):Int) b)],⟨?_,fun r hr=>(ZL hr).elim (h.r r) fun hr=>⟨_,Zdr hb hv,YY hr⟩,fun y hy=>?_,by rw [ld,Qu];exact Nat.succ_le_succ h.l⟩,?_⟩
  ·rw [Q9];exact List.nodup_append.mpr ⟨h.n,by simp,fun x hx y hy e=>hm (by rw [YY hy] at e;have e:x=ZY q b z.2.1:=e;exact e▸hx)⟩
  ·rw [Q9];exact (ZL hy).elim (fun hy=>Kg _ (h.d y hy)) fun hy=>by rw [YY hy];exact Kf _ (.head _)
  ·rw [YA (by rw [hnm];exact hm)];unfold Zn;rw [Q9,Q9];rfl
section
variable {P:Qa}{t:Int}
noncomputable abbrev LL1 (ids:Qq) (t hd:Int) (b:Nat) (q:Str):Qc:=[(1,.d (.int hd)),(2,.d (Zv ids)),(3,.d (.int t)),(7,.d (Zx ids t b q)),(9,.d (.dict (ZJ ids))),(10,.d (Z1 (ZJ ids) (Zx ids t b q))),(11,.d (Z1 (ZJ ids) (Zx ids t b q)))]
theorem Zh9 (L:LawB w c fD aL Z) (h1:1≤b) (hb:b≤32) (hq:q.length≤10) (hi:IdsOk ids) (ht:1≤t) (hZ:TriOk Z) (hzl:Z.length≤7){z:Tri}(hz:z∈Z){e1 e2:Nat}(hL:LongOk q b rs done) (hd2:done.length≤100) (hdn:z.1∉done.map (·.1)){Q:Qa}(ho:o=cE b q (some (.d (.str z.1))) fD (some (.own 6)) aL 0++[dE (Zn ids t rs) e1,dE (WV q b done) e2])
 (h:∀rs' e1 e2 L',LongOk q b rs' (done++[z])→Le (LL1 ids t hd b q++[(12,.own 7)]) L'→Q .next ⟨L',cE b q (some (.d (.str z.1))) fD (some (.own 6)) aL 0++[dE (Zn ids t rs') e1,dE (WV q b (done++[z])) e2],[]⟩) :
 wp c (.o (.lit (.val (.ref 347))) <| .o (.nm "hashes") <| .o (.cell 2) <| .o .sub <| .o (.cell 0) <| .call 2 <| .o (.st (.l 5)) <| .o (.cell 1) <| .o (.lit (.str "-")) <| .o (.bin .Add) <| .o (.lit (.val (.ref 340))) <| .o (.loc 5) <| .o (.lit (.val (.ref 354))) <| .o (.cell 0) <| .call 1 <| .call 2 <| .o (.bin .Add) <| .o (.st (.l 8)) <| .o (.loc 8) <| .o (.loc 12) <| .o (.cell 2) <| .o .set <| .o (.lit (.val (.ref 201))) <| .o (.loc 8) <| .bi .list (.o (.loc 2) .nil) <| .o (.loc 3) <| .o (.lit (.bool true)) <| .o (.lit .none) <| .o (.lit (.val (.ref 359))) <| .o (.loc 5) <| .o (.cell 0) <| .call 2 <| .call 6 <| .o (.cell 4) <| .o (.loc 8) <| .o .set .nil) ⟨LL1 ids t hd b q++[(12,.own 7)],o,[]⟩ Q:=by
 have hl:=hi.l;refine Yz (hZ.p z hz) fun zp zv zy=>?_;refine ZE L.hs fun a6 vh X6 hv6=>?_;have hbl:=Zdr hb zv;have hw:=(Wb hb).1;subst ho;refine Stop.mk fun p=>Zhn X6 hv6 ?_;refine Zf (ZaF (UP hZ.n hz)) ?_;refine WQ L.I.k rfl L.F (ZpY L.I.k hb zv (x:=hsh z) rfl) (by kd_p) (by decide) ?_;refine Zf (Zu (by rw [sizeLine_eq];show q.length+1≤_;exact ad1 (by assumption) (by decide))) ?_;refine Zc0 L.I.k rfl L.F (U4 L.I.k b) (by kd_p) (by decide) ?_;refine WQ L.I.k rfl L.F (ZdT L.I.k _ _ hw) (by kd_p) (by decide) ?_;refine Zf (Zu (by rw [sizeLine_eq,Q5,Z4];show q.length+1+_≤_;exact ad2 (ad1 (by assumption) (Kq _)) (by assumption) (by decide))) ?_;refine Stop.mk (WC (i:=7) (es:=(WV q b done).map fun e=>(e.1,A.d e.2)) (ep:=e2) rfl (YA ?_) ?_ fun e2'=>?_)
 ·rw [Zfn];unfold WV;rw [Q0];exact hdn
 ·rw [Qw];unfold WV;rw [Qw];omega
 refine Zf (Zg3 (by omega)) ?_;refine WQ L.I.k rfl L.F (Zq3 L.I.k _ b hb) (by kd_p) (by decide) ?_;refine Stop.mk (Wr (args:=[.str (ZY q b z.2.1),Zv ids,.int t,.bool true,.none,Zv (Zdg ((z.2.1 / 2 ^ (32 - b):Nat):Int) b)]) (need:=6) (Zdl L.I hi.n (by omega) ht ?_) (Ua L.I.k (by kd_p) rfl) (by rw [L.F];decide) rfl ?_)
 ·have:=(U0 hb).2;unfold Zdg;rw [Qw,Rk];lia
 rintro j rfl;have due:WV q b (done++[z])=WV q b done++[(z.1,.str (ZY q b z.2.1))]:=Q9;obtain ⟨rs',hR,hS⟩:=hL.step hb zv ids t;refine Stop.mk (WC (i:=6) (es:=(Zn ids t rs).map fun e=>(e.1,A.d e.2)) (ep:=e1) rfl hS ?_ fun e1'=>?_)
 ·have:=hL.l;rw [Qw];unfold Zn;rw [Qw];exact Kr (by assumption) (Kr (by assumption) (by decide))
 have:=h rs' e1' e2' [(8,.d (.str (ZY q b z.2.1))),(5,.d (.int ((z.2.1 / 2 ^ (32 - b):Nat):Int))),(1,.d (.int hd)),(2,.d (Zv ids)),(3,.d (.int t)),(7,.d (Zx ids t b q)),(9,.d (.dict (ZJ ids))),(10,.d (Z1 (ZJ ids) (Zx ids t b q))),(11,.d (Z1 (ZJ ids) (Zx ids t b q))),(12,.own 7)] hR (Yj rfl);rw [show dE (WV q b (done++[z])) e2' = .dict ((WV q b done).map (fun e=>(e.1,A.d e.2))++[(z.1,.d (.str (ZY q b z.2.1)))]) e2' by rw [due];exact congrArg (fun y=>O.dict y e2') Q9] at this;exact this
end
end
section
variable {w:World}
theorem Zb5:((YQ (XI Z)).map fun e=>D.str e.1).map A.d=Z.map fun z=>A.d (.str z.1):=by
 unfold YQ XI;rw [Q0,Q0,Q0];rfl
theorem ZjK:Zj2 m own (.cell (pcA pc))=some (.cell (pcA pc)):=by induction pc using Option.casesOn <;> rfl
section
variable {P:Qa}{t:Int}
theorem Zl9 (L:LawB w c fD aL Z) (h1:1≤b) (hb:b≤32) (hq:q.length≤10) (hi:IdsOk ids) (ht:1≤t) (hZ:TriOk Z) (hzl:Z.length≤7){K:C}{l:Qc}(hl:Le (LL1 ids t hd b q) l)
 (h:∀rs pc',LongOk q b rs Z→wp c K ⟨LL1 ids t hd b q++[(12,.d (.dict (WV q b Z)))],cE b q (pcA pc') fD (some (.d (.dict (Zn ids t rs)))) aL 0,[]⟩ P) :
 wp c (.blk [1,2,3,7,9,10,11,12] (.mark [1,2,3,7,9,10,11] ZiU) K) ⟨l,cE b q (pcA pc) fD none aL 0,[]⟩ P:=by
 refine ZE L.hs fun a6 vh X6 hv6=>?_;refine Zf (WD hl rfl) ?_;refine Stop.mk fun p=>Zhn X6 hv6 ?_;refine .mk Z (fun z=>.d (.str z.1)) (fun _:LB=>LL1 ids t hd b q++[(12,.own 7)]) (fun x=>cE b q (pcA x.pc) fD (some (.own 6)) aL 0++[dE (Zn ids t x.rs) x.e1,dE (WV q b x.done) x.e2]) [] (fun rest x=>x.done++rest=Z∧LongOk q b x.rs x.done) ⟨[],[],0,0,pc⟩ Zb5 (UF (Yj rfl) rfl rfl) ⟨rfl,.nil⟩ (fun j j=>trivial) ?_ ?_
 ·rintro z rest ⟨done,rs,e1,e2,pc⟩ ⟨hd,hL⟩;dsimp only at hd hL;have hn:=hZ.n;rw [←hd,Q9] at hn;have hdl:done.length+(rest.length+1)=Z.length:=by have:=congrArg List.length hd;rwa [Qu] at this
  refine Zf (a:=⟨_,cE b q (some (.d (.str z.1))) fD (some (.own 6)) aL 0++[dE (Zn ids t rs) e1,dE (WV q b done) e2],[]⟩) rfl ?_;refine Zh9 L h1 hb hq hi ht hZ hzl (hd▸Kf _ (.head _)) hL (by exact nW (by assumption) (Kr (by assumption) (by decide))) (fun hm=>(List.nodup_append.mp hn).2.2 _ hm _ (.head _) rfl) rfl fun rs' e1' e2' L' hR hLe=>?_;exact ⟨⟨done++[z],rs',e1',e2',some z.1⟩,⟨by rw [Qy];exact hd,hR⟩,hLe,rfl,rfl⟩
 ·rintro ⟨done,rs,e1,e2,pc'⟩ ⟨hd,hL⟩;rw [Rj] at hd;subst hd;refine Zf (Zb3 (o':=cE b q (pcA pc') fD (some (.d (.dict (Zn ids t rs)))) aL 0) (Ko 6 2) rfl (Zk rfl (Zk rfl (Zk rfl (Zk rfl (Zk rfl (Zk rfl (Zk rfl (Zk (congrArg (Option.map fun a=>(12,a)) (Zah (Ko 6 1) rfl)) rfl)))))))) ?_) (h rs pc' hL);exact Zk rfl (Zk rfl (Zk ZjK (Zk rfl (Zk (congrArg (Option.map fun a=>O.cell (some a)) (Zah (Kq 6) rfl)) (Zk rfl rfl)))))
end
end
section
variable {w:World}
theorem ZcL (h:(Z.map (·.1)).Nodup){z:Tri}(hz:z∈Z):Yk z.1 (WV q b Z)=some (.str (ZY q b z.2.1)):=by
 induction Z with
 | nil=>exact nomatch hz
 | cons x Z ih =>
  have hn:=List.nodup_cons.mp h;show Yk z.1 ((x.1,D.str (ZY q b x.2.1))::WV q b Z)=_;unfold Yk;rcases ZH hz with rfl | hz
  ·exact (if_pos rfl)
  ·exact (if_neg fun e:x.1=z.1=>hn.1 (by show x.1∈_;rw [e];exact Ri hz))▸(ih hn.2 hz)
theorem OSpecC.mono {f:Value}{R':A→List O→Prop}(H:OSpecC G f need os args R) (h:∀a o,R a o→R' a o):OSpecC G f need os args R':=fun A F us s g σ h1 h2 h3 h4 h5=>codeAny_mono (H A F us s g σ h1 h2 h3 h4 h5) fun r s' q=>by
 rcases r with e | (v | _ | _ | _) <;> first | exact q.elim | exact q | skip
 obtain ⟨g',σ',a,os',H',hs,hv,hR⟩:=q;exact ⟨g',σ',a,os',H',hs,hv,h _ _ hR⟩
end
section
variable {w:World}
theorem ZdW {t:Int}(h:(rs.map fun r=>r.1).Nodup){r:Rl}(hr:r∈rs):Yk r.1 (Zn ids t rs)=some (Y1 r.1 ids t r.2):=by
 induction rs with
 | nil=>exact nomatch hr
 | cons x rs ih =>
  have hn:=List.nodup_cons.mp h;show Yk r.1 ((x.1,Y1 x.1 ids t x.2)::Zn ids t rs)=_;unfold Yk;rcases ZH hr with rfl | hr
  ·exact (if_pos rfl)
  ·exact (if_neg fun e:x.1=r.1=>hn.1 (by show x.1∈_;rw [e];exact Ri (f:=fun r:Rl=>r.1) hr))▸(ih hn.2 hr)
section
variable {t:Int}
theorem ZfY (L:LawB w c fD aL Z) (hc:c'.G=c.G) (hf:c'.fuel=c.fuel){z:Tri}(hp:z.1∈pathsAll) (hd:Yk z.1 (YQ (XI Z))=some (.str (hsh z))) (hn:(rs.map fun r=>r.1).Nodup){p2 p5 p6 p7 p8:Pos}(L0:IsL c' "name" i) (CL:IsC c' "long" 4) (CP:IsC c' "path" 2) (CD:IsC c' "digest" 3) (hln:(p4.endLine==p7.line)=true)
 (rest:List Rl) (hr:∀r∈rest,r∈rs) (acc:Qq) (n:Nat) (l:Qc) {Q:Qf} (hz:n+rest.length≤100000) (ha:acc.length+rest.length≤1000)
 (hq:∀l m,m≤n+rest.length→Q ⟨l,cE b q (some (.d (.str z.1))) fD (some (.d (.dict (Zn ids t rs)))) aL m++[.list ((acc++(rest.filter fun r=>YU (hsh z) r.2).map fun r=>r.1).map fun x=>.d (.str x))],[]⟩) :
 CompJ c' (.Name "name" px) [.Call (.Attribute (.Subscript (.Name "long" p1) (.Name "name" p2) p3) "is_delegated_path" p4) [.Name "path" p5,.Name "digest" p6] [] p7] (.Name "name" p8) (fun j=>True) 6 (rest.map fun r=>.d (.str r.1)) ⟨l,cE b q (some (.d (.str z.1))) fD (some (.d (.dict (Zn ids t rs)))) aL n++[.list (acc.map fun x=>.d (.str x))],[]⟩ Q:=by
 induction rest generalizing acc n l with
 | nil=>exact ⟨trivial,by simpa using hq l n (Kq _)⟩
 | cons r rest ih =>
  rw [Rc] at hz ha;refine ⟨trivial,Z7 (ZK L0 ?_)⟩;have hlk:Zs i ((i,A.d (.str r.1))::l)=some (.d (.str r.1)):=UR;generalize hll:(i,A.d (.str r.1))::l=l2 at hlk;refine Ze9 (ZeB ?_ (by intro j;rfl));refine XV (Zex (ZaG CL rfl (Ze L0 hlk (ZdO (ZdW hn (hr r (.head _))) ?_)))) rfl rfl rfl hln;refine X8 (f:=198) (kIn L.I.k hc) (Zes w) (by kd_p) ?_;refine Zq (ZaG CP rfl (Zq (ZaG CD rfl (Ym ?_)) rfl)) rfl;refine ZiD (i:=5) (args:=[Y1 r.1 ids t r.2,.str z.1,.val (.ref fD)]) (N:=n+1) rfl (by rw [hc];exact (ZgX L.I L.D hp hd (by exact nR (by assumption) (by decide))).mono fun a o h=>⟨h.1,_,Kq _,h.2⟩) (XW L.I.k (by kd_p) hc) (by rw [hf,L.F];decide) rfl fun m hm=>?_;have hfl:(r::rest).filter (fun r=>YU (hsh z) r.2)=if YU (hsh z) r.2=true then r::rest.filter (fun r=>YU (hsh z) r.2) else rest.filter (fun r=>YU (hsh z) r.2):=List.filter_cons
  replace hq:=hfl▸hq;refine Yg ⟨fun e=>?_,fun e=>?_⟩
  ·replace hq:=(if_pos e)▸hq;refine Zbg ⟨fun j=>?_,fun h=>nomatch h⟩;refine Ze L0 hlk ⟨_,_,rfl,rfl,by rw [Qw];exact nR (by assumption) (by decide),?_⟩
   have:=ih (fun y hy=>hr y (.tail _ hy)) (acc++[r.1]) m l2 (by lia) (by rw [Qu];show _+1+_≤_;exact nS (by assumption)) fun l' m' hm'=>by
    have:=hq l' m' (by rw [Rc];lia);rw [Qy];exact this
   rw [Q9] at this;exact this
  ·rw [if_neg (by rw [e];exact Bool.false_ne_true)] at hq;refine ⟨fun h=>(nomatch h),fun j=>?_⟩;exact ih (fun y hy=>hr y (.tail _ hy)) acc m l2 (by lia) (by exact Nat.le_of_lt (by assumption)) fun l' m' hm'=>hq l' m' (by rw [Rc];lia)
end
end
section
variable {w:World}
section
variable {t:Int}
theorem ZhM {t:Int}:((Zn ids t rs).map fun e=>D.str e.1).map A.d=rs.map fun r=>A.d (.str r.1):=by
 unfold Zn;rw [Q0,Q0];rfl
theorem ZiC (L:LawB w c fD aL Z) (hb:b≤32) (hZ:TriOk Z){z:Tri}(hz:z∈Z) (hL:LongOk q b rs Z) (hrl:rs.length≤100){l:Qc}(hloc:∀x∈l,∃d,x.2 = .d d) (h12:Zs 12 l=some (.d (.dict (WV q b Z)))){n:Nat}(hn:n≤10000){Q:Fl→St→Prop}
 (h:∀m,m≤n+rs.length→Q .next ⟨l,cE b q (some (.d (.str z.1))) fD (some (.d (.dict (Zn ids t rs)))) aL m,[]⟩) :
 XJ c [ZZ (fAt pw1 21) [19,2]] ⟨l,cE b q (some (.d (.str z.1))) fD (some (.d (.dict (Zn ids t rs)))) aL n,[]⟩ Q:=by
 refine Yz (hZ.p z hz) fun zp zv zy=>?_;refine Za (hL.filter hb zv hz) fun r hr1 hr2=>?_;have C4:IsC c "long" 4:=L.X.k _ _ (ZM (by kd_p)) (by kd_p);have C2:IsC c "path" 2:=L.X.k _ _ (ZM (by kd_p)) (by kd_p);refine ZO (Zcy (XO (Zlq ?_) rfl));refine ZdC (UK L.X.cel (by kd_p)) (ZeY (UA (ZaG C4 rfl (ZdE (fun c' hc'=>?_) (fun j j=>rfl))))) (fun j=>rfl);rw [ZhM];have e0:∀o:Qg,o++[.list []]++List.replicate 0 (.cell none)=o++[.list (([]:Qq).map fun x=>.d (.str x))]:=fun o=>Rj _;show CompJ c' _ _ _ _ 6 _ ⟨[],cE b q (some (.d (.str z.1))) fD (some (.d (.dict (Zn ids t rs)))) aL n++[.list []]++List.replicate 0 (.cell none),[]⟩ _;rw [e0];refine ZfY L hc'.G hc'.fuel zp (UP hZ.n hz) hL.n (Zfp hc' (i:=1) (by kd_p)) (Zl7 hc' (ZM (by kd_p)) (by kd_p)) (Zl7 hc' (ZM (by kd_p)) (by kd_p)) (Zl7 hc' (ZM (by kd_p)) (by kd_p)) rfl rs (fun j h=>h) [] n [] (by exact ad2 (by assumption) (by assumption) (by decide)) (by show 0+_≤_;exact Ux (by assumption) (by decide)) fun l' m hm=>?_;rw [hr2];refine ⟨l,cE b q (some (.d (.str z.1))) fD (some (.d (.dict (Zn ids t rs)))) aL m,[.list [.d (.str r.1)]],.own 6,[],.list [.str r.1],rfl,rfl,fun x hx=>?_,hloc,⟨[],rfl⟩,.list (Kq _) rfl (Frzs.d [.str r.1]),?_⟩
 ·simp only [List.mem_cons,List.not_mem_nil,or_false] at hx;rcases hx with rfl | rfl | rfl | rfl | rfl | rfl
  ·exact .inl (.inr ⟨_,rfl⟩)
  ·exact .inl (.inr ⟨_,rfl⟩)
  ·exact .inl (.inr ⟨_,rfl⟩)
  ·exact .inl (.inr ⟨_,rfl⟩)
  ·exact .inl (.inr ⟨_,rfl⟩)
  ·exact .inr (.inl ⟨_,_,rfl⟩)
 ·refine Zaz (by decide) (Zq (Zex (Ze (L.X.l "due" 12 (by kd_p)) h12 (ZaG C2 rfl (ZdO (ZcL hZ.n hz) (Ym ⟨[.str (ZY q b z.2.1)],_,rfl,?_⟩))))) rfl);rw [hr1];refine ZoQ (xs:=[.str (ZY q b z.2.1)]) ⟨trivial,trivial⟩ (Yg ⟨fun e=>?_,fun j=>ZR (ZR (h m hm))⟩);have e:(!((ZY q b z.2.1==ZY q b z.2.1)&&true))=true:=e;rw [Ro] at e;exact Xi e
end
end
section
variable {w:World}
noncomputable def Zsh:A→Bool
 | .d _=>true
 | _=>false
theorem ZoY {l:Qc}(h:l.all (fun x=>Zsh x.2)=true):∀x∈l,∃d,x.2 = .d d:=fun x hx=>by
 have:=Zd4 h x hx;induction hx2:x.2 using A.casesOn with
 | d d=>exact ⟨d,rfl⟩
 | own i=>replace this:=hx2▸this;exact Xi this
 | view k i=>replace this:=hx2▸this;exact Xi this
section
variable {t:Int}
noncomputable abbrev sD (ids:Qq) (t:Int) (b:Nat) (q:Str):D:=Z1 (ZJ ids) (Zx ids t b q)
noncomputable abbrev tD (ids:Qq) (t:Int) (rs:List Rl):D:=Yv (ZJ ids) (Zn ids t rs)
noncomputable abbrev LL2 (ids:Qq) (t hd:Int) (b:Nat) (q:Str) (Z:List Tri) (rs:List Rl):Qc:=[(1,.d (.int hd)),(2,.d (Zv ids)),(3,.d (.int t)),(7,.d (Zx ids t b q)),(10,.d (sD ids t b q)),(11,.d (sD ids t b q)),(12,.d (.dict (WV q b Z))),(13,.d (tD ids t rs)),(14,.d (tD ids t rs))]
noncomputable abbrev cF (b:Nat) (q:Str) (p:Str) (fD:Addr) (ids:Qq) (t:Int) (rs:List Rl) (aL:Addr) (n:Nat):Qg:=cE b q (some (.d (.str p))) fD (some (.d (.dict (Zn ids t rs)))) aL n
theorem Ziz (L:LawB w c fD aL Z) (h1:1≤b) (hb:b≤32) (hq:q.length≤10) (hZ:TriOk Z){z:Tri}(hz:z∈Z) (hL:LongOk q b rs Z) (hrl:rs.length≤7){n:Nat}(hn:n≤5000){Q:Qa}
 (h:∀m L',m≤n+30→Le (LL2 ids t hd b q Z rs) L'→Q .next ⟨L',cF b q z.1 fD ids t rs aL m,[]⟩) :
 wp c (.sel (.o (.loc 7) <| .meth "get_role_for_target" 2 (.o (.cell 2) <| .o (.cell 3) .nil) <| .o (.loc 12) <| .o (.cell 2) <| .o .sub <| .o (.cmp .NotEq) .tru) (.o (.lit (.bool false)) .ret) .nil <| .o (.loc 10) <| .o (.loc 11) <| .o (.loc 13) <| .o (.loc 14) <| .o (.list 4) <| .for_ true .val (.one (.l 15)) (.sel (.o (.lit (.val (.ref 364))) <| .o (.loc 15) <| .o (.cell 2) <| .o (.cell 3) <| .call 3 <| .o (.loc 12) <| .o (.cell 2) <| .o .sub <| .o (.lit (.bool true)) <| .o (.tup 2) <| .o (.list 1) <| .o (.cmp .NotEq) .tru) (.o (.lit (.bool false)) .ret) .nil .nil) <| .raw [ZZ (fAt pw1 21) [19,2]] .nil) ⟨LL2 ids t hd b q Z rs,cF b q z.1 fD ids t rs aL n,[]⟩ Q:=by
 refine Yz (hZ.p z hz) fun zp zv zy=>?_;have hd1:=UP hZ.n hz;have hd2:=ZcL (q:=q) (b:=b) hZ.n hz;have hK:=XW L.I.k (f:=364) (by kd_p) (rfl:c.G=c.G);have nn:(!deqs [D.tuple [.str (ZY q b z.2.1),.bool true]] [.tuple [.str (ZY q b z.2.1),.bool true]])=false:=by
  show (!(((ZY q b z.2.1==ZY q b z.2.1)&&(true&&true))&&true))=false;rw [Ro];rfl
 refine Stop.mk (X8 (f:=258) (kIn L.I.k rfl) (ZcQ w) (by kd_p) ?_);refine ZiD (i:=5) (args:=[Zx ids t b q,.str z.1,.val (.ref fD)]) (N:=n+1) rfl ((Zeh L.I L.D hb (by lia) zp zv hd1 zy (by lia)).mono fun a o h=>⟨h.1,_,Kq _,h.2⟩) (XW L.I.k (by kd_p) rfl) (by rw [L.F];decide) rfl fun m1 hm1=>?_;refine Zf (ZaF hd2) ?_;refine Yr (fun e=>?_) (fun j=>?_)
 ·have e:(ZY q b z.2.1 != ZY q b z.2.1)=true:=e;rw [bne_self_eq_false] at e;exact Xi e
 refine Stop.mk (ZiD (i:=5) (args:=[sD ids t b q,.str z.1,.val (.ref fD)]) (N:=m1+1) rfl ((ZhD L.I L.T L.D hb (by lia) zp zv hd1 zy (Kq _) (by lia)).mono fun a o h=>h) hK (by rw [L.F];decide) rfl fun m2 hm2=>?_);refine Zf (ZaF hd2) ?_;refine Yr (fun e=>absurd (nn.symm.trans e) Bool.false_ne_true) (fun j=>?_);refine Stop.mk (ZiD (i:=5) (args:=[sD ids t b q,.str z.1,.val (.ref fD)]) (N:=m2+1) rfl ((ZhD L.I L.T L.D hb (by lia) zp zv hd1 zy (Kq _) (by lia)).mono fun a o h=>h) hK (by rw [L.F];decide) rfl fun m3 hm3=>?_);refine Zf (ZaF hd2) ?_;refine Yr (fun e=>absurd (nn.symm.trans e) Bool.false_ne_true) (fun j=>?_);have hto:=hL.told hb zv hz;refine Stop.mk (ZiD (i:=5) (args:=[tD ids t rs,.str z.1,.val (.ref fD)]) (r:=.list (([(ZY q b z.2.1,true)]:List (Str×Bool)).map Y0)) (N:=m3+rs.length) rfl (hto▸(ZhE L.I L.T L.D (ks:=ZJ ids) (ids:=ids) (t:=t) (rs:=rs) zp hd1 (by lia) (Kq _) (by lia))) hK (by rw [L.F];decide) rfl fun m4 hm4=>?_);refine Zf (ZaF hd2) ?_;refine Yr (fun e=>absurd (nn.symm.trans e) Bool.false_ne_true) (fun j=>?_);refine Stop.mk (ZiD (i:=5) (args:=[tD ids t rs,.str z.1,.val (.ref fD)]) (r:=.list (([(ZY q b z.2.1,true)]:List (Str×Bool)).map Y0)) (N:=m4+rs.length) rfl (hto▸(ZhE L.I L.T L.D (ks:=ZJ ids) (ids:=ids) (t:=t) (rs:=rs) zp hd1 (by lia) (Kq _) (by lia))) hK (by rw [L.F];decide) rfl fun m5 hm5=>?_);refine Zf (ZaF hd2) ?_;refine Yr (fun e=>absurd (nn.symm.trans e) Bool.false_ne_true) (fun j=>?_);refine Stop.mk (ZiC L hb hZ hz hL (by lia) ?_ rfl (n:=m5) (by lia) fun m6 hm6=>?_)
 ·exact ZoY rfl
 ·exact h m6 _ (by lia) (Yj rfl)
end
end
section
variable {w:World}
section
variable {t:Int}{P:Qa}
structure NP where
 n:Nat
 pc:Option Str
theorem LongOk.nm (h:LongOk q b rs done) (hb:b≤32) (hq:q.length≤10):∀r∈rs,Zcx r.1:=fun r hr=>by
 refine Za (h.r r hr) fun n hn zo1=>?_;subst zo1;exact ZlH hb hq
theorem LongOk.h (h:LongOk q b rs done) (hb:b≤32):∀r∈rs,r.2.length≤1000:=fun r hr=>by
 refine Za (h.r r hr) fun n hn zo1=>?_;subst zo1
 have:=(U0 hb).2;unfold Zdg;rw [Qw,Rk];lia
noncomputable abbrev LL3 (ids:Qq) (t hd:Int) (b:Nat) (q:Str) (rs:List Rl):Qc:=[(1,.d (.int hd)),(2,.d (Zv ids)),(3,.d (.int t)),(7,.d (Zx ids t b q)),(10,.d (sD ids t b q)),(11,.d (sD ids t b q)),(13,.d (tD ids t rs)),(14,.d (tD ids t rs))]
theorem Zmk (L:LawB w c fD aL Z) (h1:1≤b) (hb:b≤32) (hq:q.length≤10) (hi:IdsOk ids) (ht:1≤t) (hZ:TriOk Z) (hzl:Z.length≤7) (hL:LongOk q b rs Z)
 (h:∀n pc',n≤1000→wp c ZiY ⟨LL3 ids t hd b q rs,cE b q (pcA pc') fD (some (.d (.dict (Zn ids t rs)))) aL n,[]⟩ P) :
 wp c (.mark [1,2,3,7,9,10,11,12] ZkU) ⟨LL1 ids t hd b q++[(12,.d (.dict (WV q b Z)))],cE b q (pcA pc) fD (some (.d (.dict (Zn ids t rs)))) aL 0,[]⟩ P:=by
 have hl:=hi.l;have hrl:=hL.l;have hnm:=hL.nm hb hq;refine ZE L.hs fun a6 vh X6 hv6=>?_;refine Stop.mk (Wr (args:=[.dict (ZJ ids),.dict (Zn ids t rs)]) (need:=6) (Zcp L.I fun e he=>?_) (Ua L.I.k (by kd_p) rfl) (by rw [L.F];decide) rfl ?_)
 ·exact Za (Yh he) fun r g1 g2=>g2▸hnm r g1
 rintro j rfl;refine Stop.mk (ZO (XH (Zr4 L.I rfl (by rw [L.F];decide) hi.n (by omega) ht (by exact Kr (by assumption) (Kr (by assumption) (by decide))) hL.n (hL.h hb) hnm (L.X.l "whole" 13 (by kd_p)) rfl (L.X.g "Delegations" (.ref 324) (by kd_p) (L.X.gl _ _ (by kd_p))) (by kd_p1) (by kd_p1) (ZK (L.X.l "anew" 14 (by kd_p)) (ZR ?_))) rfl));refine XF ?_;refine Stop.mk fun p=>Zhn X6 hv6 ?_;refine .mk Z (fun z=>.d (.str z.1)) (fun _:NP=>LL2 ids t hd b q Z rs) (fun x=>cE b q (pcA x.pc) fD (some (.d (.dict (Zn ids t rs)))) aL x.n) [] (fun rest x=>x.n+30*rest.length≤1000∧∀z∈rest,z∈Z) ⟨0,pc⟩ Zb5 (UF (Yj rfl) rfl rfl) ⟨by dsimp only;omega,fun j h=>h⟩ (fun j j=>trivial) ?_ ?_
 ·rintro z rest ⟨n,pc⟩ ⟨hn,hr⟩;replace hn:=Rc▸hn;refine Zf (a:=⟨_,cF b q z.1 fD ids t rs aL n,[]⟩) rfl ?_;refine Ziz L h1 hb hq hZ (hr z (.head _)) hL (by exact Kr (by assumption) (by assumption)) (by exact nR (by assumption) (by decide)) fun m L' hm hLe=>?_;exact ⟨⟨m,some z.1⟩,⟨by dsimp only;lia,fun y hy=>hr y (.tail _ hy)⟩,hLe,rfl,rfl⟩
 ·rintro ⟨n,pc'⟩ ⟨hn,j⟩;exact h n pc' (by dsimp only [List.length_nil] at hn;assumption)
end
end
section
variable {w:World}
section
variable {t:Int}{P:Qa}
noncomputable abbrev cG (b:Nat) (q:Str) (pc:Option A) (fD:Addr) (lg:Option A) (n:Nat):Qg:=[.cell (some (.d (.int b))),.cell (some (.d (.str q))),.cell pc,.cell (some (.d (.val (.ref fD)))),.cell lg,.list (List.replicate n (.d (.str "sha256")))]
theorem ZhW {p2:Pos}(L0:IsL c' "algo" i){ok:Qf}(hok:∀l,ok ⟨l,o,[]⟩) (k:Nat) (l:Qc) (hq:∀l,Q ⟨l,o,[]⟩):
 CompJ c' (.Name "algo" px) [.Compare (.Name "algo" p1) [.NotEq] [.Constant (.str "sha256") m p2] p3] (.Name "algo" p4) ok 6 (List.replicate k (.d (.str "sha256"))) ⟨l,o,[]⟩ Q:=by
 induction k generalizing l with
 | zero=>exact ⟨hok l,hq l⟩
 | succ k ih =>
  refine ⟨hok l,Z7 (ZK L0 (Ze9 (XO (Ze L0 UR (UD (Zsb (Yg ⟨fun e=>?_,fun j=>⟨fun h=>(nomatch h),fun j=>ih _⟩⟩)))) rfl)))⟩;exact absurd e (by decide)
theorem ZmJ (L:LawB w c fD aL Z){l:Qc}(hloc:∀x∈l,∃d,x.2 = .d d){rd:D}{n:Nat}{Q:Fl→St→Prop}
 (h:Q .next ⟨l,cG b q (pcA pc) fD (some (.d rd)) n,[]⟩):XJ c [ZZ (fAt pw1 21) [20]] ⟨l,cE b q (pcA pc) fD (some (.d rd)) aL n,[]⟩ Q:=by
 refine oze L.as fun a5 X5=>?_;refine ZO (Zcy (XO (Zlq ?_) rfl));refine ZdC (UK L.X.cel (by kd_p)) (ZeY (UA (ZiF X5 (i:=5) rfl (Zln (xs:=List.replicate n (.d (.str "sha256"))) rfl (fun c' hc'=>?_) (fun j j=>rfl))))) (fun j=>rfl);refine ZhW (o:=cG b q (pcA pc) fD (some (.d rd)) n++[.list []]) (ok:=fun st=>st.own[5]?=some (.list (List.replicate n (.d (.str "sha256"))))) (Zfp hc' (i:=1) (by kd_p)) (fun j=>rfl) n [] fun l'=>?_;refine ⟨l,cG b q (pcA pc) fD (some (.d rd)) n,[.list []],.own 6,[],.list [],rfl,rfl,fun x hx=>?_,hloc,⟨[],rfl⟩,.list (Kq _) rfl .nil,?_⟩
 ·simp only [List.mem_cons,List.not_mem_nil,or_false] at hx;rcases hx with rfl | rfl | rfl | rfl | rfl | rfl
  ·exact .inl (.inr ⟨_,rfl⟩)
  ·exact .inl (.inr ⟨_,rfl⟩)
  ·induction pc using Option.casesOn with
   | none=>exact .inl (.inl rfl)
   | some p=>exact .inl (.inr ⟨_,rfl⟩)
  ·exact .inl (.inr ⟨_,rfl⟩)
  ·exact .inl (.inr ⟨_,rfl⟩)
  ·exact .inr (.inr ⟨List.replicate n (.str "sha256"),by exact List.map_replicate▸rfl⟩)
 ·exact Zaz (by decide) (Ym ⟨[],_,rfl,ZnC (Yg ⟨fun e=>(nomatch e),fun j=>ZR (ZR h)⟩)⟩)
end
end
section
variable {w:World}
section
variable {t:Int}{P:Qa}
theorem ZmO (w:World):Zas (kk1 w.params) 275 265 "get_roles"=true:=by kd_p
theorem Zsn (L:LawB w c fD aL Z):EnvOk c (ZkL (EK (kk1 w.params) 376 0 {})):=⟨L.X.l,L.X.k,L.X.kd,L.X.g,L.X.gl,L.X.gs,L.X.cel,L.X.ga,L.X.sa⟩
theorem Zqe {l:Qc}{s:Qh}(h:o[i]?=some (.list xs)):Zp2 .append ⟨l,o,.own i::s⟩=true:=by
 show (WU o i).isSome=true;rw [Zbq h];rfl
theorem ZpM {l:Qc}{s:Qh}(h:o[i]?=some (.list xs)) (hz:xs.length≤1000000):Xd (.me .append) ⟨l,o,a::.own i::s⟩=some ⟨l,o.set i (.list (xs++[a])),.d .none::s⟩:=by
 show (WU o i).bind _=_;rw [Zbq h];exact Zu hz
theorem ZhQ (L:LawB w c fD aL Z){L0:Qc}(hL0:∀a,Le (L0++[(16,.own 6)]) ((8,a)::(L0++[(16,.own 6)]))) (h16:Zs 16 (L0++[(16,.own 6)])=some (.own 6)){base:Qg}(hb:base.length=6) (rest:Qq) (acc:Qq) (l:Qc) (hl:Le (L0++[(16,.own 6)]) l) (hz:acc.length+rest.length≤32){Q:Fl→St→Prop}
 (h:∀l,Le (L0++[(16,.own 6)]) l→Q .next ⟨l,base++[.list ((acc++rest).map fun x=>.d (.str x))],[]⟩) :
 Wg c (.Name "name" px) [ZZ (fAt pw1 21) [21,1,0],ZZ (fAt pw1 21) [21,1,1]] (fun j=>True) (rest.map fun x=>.d (.str x)) ⟨l,base++[.list (acc.map fun x=>.d (.str x))],[]⟩ Q:=by
 induction rest generalizing acc l with
 | nil=>exact ⟨trivial,by simpa using h l hl⟩
 | cons x rest ih =>
  rw [Rc] at hz;refine ⟨trivial,Zhe (l:=L0++[(16,.own 6)]) (Z7 (ZK (L.X.l "name" 8 (by kd_p)) ?_)) hl⟩;refine (Xo (Zsn L) (ZrY w) (Q:=nx fun st2=>Wg c (.Name "name" px) [ZZ (fAt pw1 21) [21,1,0],ZZ (fAt pw1 21) [21,1,1]] (fun j=>True) (rest.map fun x=>.d (.str x)) st2 Q) ?_).mono fun f st h=>?_
  ·have h6:∀ys:Qh,(base++[O.list ys])[6]?=some (.list ys):=fun ys=>WA hb;have hs:∀ys zs:Qh,(base++[O.list ys]).set 6 (.list zs)=base++[.list zs]:=fun ys zs=>by rw [←hb];exact Zf7
   have h16':Zs 16 ((8,A.d (.str x))::(L0++[(16,.own 6)]))=some (.own 6):=h16;refine Zf (ZcD h16') ?_;refine Zad (Zqe (h6 _)) ?_;refine Zf (ZpM (h6 _) (by rw [Qw];exact nR (by assumption) (by decide))) ?_;rw [hs];refine Zf (ZcD h16') ?_;refine Zf (Zru (Zbq (h6 _)) (by rw [Qu,Qw];show _+1<_;lia)) ?_;refine Yr (fun e=>?_) (fun j=>?_)
   ·have e:=Kw e;rw [Qu,Qw] at e;have e:(32:Int)<((acc.length+1:Nat):Int):=e;lia
   ·have:=ih (acc++[x]) ((8,.d (.str x))::(L0++[(16,.own 6)])) (hL0 _) (by rw [Qu];show _+1+_≤_;exact nS (by assumption)) fun l' hl'=>by
     rw [Qy];exact h l' hl'
    rw [Q9] at this;exact this
  ·induction f with
   | next=>exact h
   | brk=>exact h.elim
   | cont=>exact h.elim
   | ret=>exact h.elim
end
end
section
variable {w:World}
section
variable {t:Int}{P:Qa}
noncomputable def Wc (q:Str) (b:Nat):Qq:=(List.range (2 ^ b)).map fun (k:Nat)=>q++"-"++ZC (k:Nat) (wd b)
theorem Zny:(Zav q b).map A.d=(Wc q b).map fun x=>A.d (.str x):=by unfold Zav Wc;rw [Q0,Q0];rfl
theorem Zc4 (h5:b≤5):(Wc q b).length≤32:=by
 unfold Wc;rw [Qw,Rk];exact Nat.pow_le_pow_right (by decide) h5
theorem Zp1 (L:LawB w c fD aL Z) (h5:b≤5) (hq:q.length≤10){base:Qg}(hb:base.length=6){Q:Fl→St→Prop}
 (h:∀l,Le (LL3 ids t hd b q rs++[(16,.own 6)]) l→Q .next ⟨l,base++[.list ((Wc q b).map fun x=>.d (.str x))],[]⟩) :
 XJ c [ZZ (fAt pw1 21) [21,1]] ⟨(16,.own 6)::LL3 ids t hd b q rs,base++[.list []],[]⟩ Q:=by
 refine ZO (ZoV (Zif (Ze (L.X.l "roles" 7 (by kd_p)) rfl (X8 (f:=265) (kIn L.I.k rfl) (ZmO w) (by kd_p) ?_)) (fun j j=>rfl)) (fun j=>rfl));refine ⟨.ref 265,10,[Zx ids t b q],Zav q b,⟨(16,.own 6)::LL3 ids t hd b q rs,base++[.list []],[]⟩,Zjp L.I L.fin h5 (by omega),XW L.I.k (by kd_p) rfl,by rw [L.F];decide,rfl,rfl,?_⟩;refine Zny▸(ZhQ L (L0:=LL3 ids t hd b q rs) (fun a=>Yj rfl) rfl hb (Wc q b) [] _ (Yj rfl) (by show 0+_≤_;have:=Zc4 (q:=q) h5;exact Ry (by assumption) _) fun l hl=>?_);exact ZR (h l hl)
theorem Zmd {l:Qc}{xs ys:Qq}:Xd (.cmp .NotEq) ⟨l,o,.d (Zv ys)::.d (Zv xs)::k⟩=some ⟨l,o,.d (.bool (!(xs==ys)))::k⟩:=by
 have h:Zh5 .Eq (.d (Zv xs)) (.d (Zv ys))=some (xs==ys):=by
  have:=Zbh (l:=l) (o:=o) (k:=k) (xs:=xs) (ys:=ys);have:(Zh5 .Eq (.d (Zv xs)) (.d (Zv ys))).map (fun z=>(⟨l,o,.d (.bool z)::k⟩:St))=some ⟨l,o,.d (.bool (xs==ys))::k⟩:=this;induction e:Zh5 .Eq (.d (Zv xs)) (.d (Zv ys)) with
  | none=>replace this:=e▸this;exact Zp this
  | some z=>replace this:=e▸this;injection this with this;injection this with _ _ this;injection this with this;injection this with this;injection this with this;exact congrArg _ this
 have e2:Zh5 .NotEq (.d (Zv xs)) (.d (Zv ys))=some (!(xs==ys)):=by
  show (eqL (xs.map .str) (ys.map .str)).map (!·)=_;rw [show eqL (xs.map .str) (ys.map .str)=some (xs==ys) from ?_]
  ·rfl
  ·exact h
 exact congrArg (Option.map fun z=>(⟨l,o,.d (.bool z)::k⟩:St)) e2
theorem Znt (L:LawB w c fD aL Z) (h1:1≤b) (hb:b≤32) (hq:q.length≤10){n:Nat}
 (h:wp c Zlr ⟨LL3 ids t hd b q rs,cG b q (pcA pc) fD (some (.d (.dict (Zn ids t rs)))) n,[]⟩ P) :
 wp c ZiY ⟨LL3 ids t hd b q rs,cE b q (pcA pc) fD (some (.d (.dict (Zn ids t rs)))) aL n,[]⟩ P:=by
 refine Stop.mk (ZmJ L (ZoY rfl) ?_);refine XF ?_;refine Yr (fun e=>?_) (fun j=>h);have e:(b:Int)<6:=Kw e;have h5:b≤5:=by omega
 refine Stop.mk (Zp1 L h5 hq rfl fun l hl=>?_);refine XF ?_;have er:(cG b q (pcA pc) fD (some (A.d (D.dict (Zn ids t rs)))) n++[O.list ((Wc q b).map fun x=>A.d (D.str x))])[6]?=some (.list (((Wc q b).map D.str).map A.d)):=by rw [Q0];rfl
 refine Zf (Zb3 (l2:=LL3 ids t hd b q rs++[(16,.d (Zv (Wc q b)))]) (o':=cG b q (pcA pc) fD (some (.d (.dict (Zn ids t rs)))) n) (Ko 6 1) (WD hl rfl) ?_ ?_) ?_
 ·exact Zk rfl (Zk rfl (Zk rfl (Zk rfl (Zk rfl (Zk rfl (Zk rfl (Zk rfl (Zk (congrArg (Option.map fun a=>(16,a)) (Zk4 (Kq 6) er)) rfl))))))))
 ·refine Zk rfl (Zk rfl (Zk ZjK (Zk rfl (Zk rfl (Zk ?_ rfl)))));show Option.map O.list (ZI _ (List.replicate n (A.d (D.str "sha256"))))=_;rw [←List.map_replicate (f:=A.d),ZjN];rfl
 refine Zf (Zu ⟨.inl rfl,by exact Rb _,by exact Int.ofNat_le.mpr (Kr (by assumption) (by decide))⟩) ?_;obtain ⟨m,hm⟩:∃m:Nat,m=2 ^ b:=⟨_,rfl⟩;have e2:(2:Int) ^ ((b:Nat):Int).toNat=(m:Int):=by rw [Int.toNat_natCast,hm];norm_cast
 have hp:=Zc4 (q:=q) h5;have eb:Wc q b=(List.range m).map fun (k:Nat)=>q++"-"++ZC (k:Nat) (wd b):=by rw [hm];rfl
 rw [eb,Qw,Rk] at hp;rw [e2];refine Zf (ZgA hp) ?_;have w1:=(Wb hb).1;refine Zgo (List.range m) (fun i=>.d (.int (0+i))) (fun (k:Nat)=>some (.str (q++"-"++ZC (k:Nat) (wd b)))) rfl Q0 (l1r hp (by decide)) (fun c' hG' hF' k hk l ys cl hcl=>?_) ?_
 ·rw [show ((0:Int)+(k:Int))=(k:Int) from Int.zero_add _];refine Zf (Zu (by rw [sizeLine_eq];exact ad1 hq (by decide))) ?_;refine Zc0 L.I.k hG' (hF'.trans L.F) (U4 L.I.k b) (by kd_p) (by decide) ?_;refine WQ L.I.k hG' (hF'.trans L.F) (ZdT L.I.k _ _ w1) (by kd_p) (by decide) ?_;refine Zf (Zu (by rw [sizeLine_eq,Q5,Z4];exact ad2 (ad1 hq (Kq _)) w1 (by decide))) ?_;exact ⟨_,cl,rfl,rfl,rfl,hcl⟩
 ·have ef:(List.range m).filterMap (fun k=>some (D.str (q++"-"++ZC (k:Nat) (wd b))))=(Wc q b).map .str:=by
   rw [List.filterMap_eq_map',eb,Q0];rfl
  rw [ef];refine Zf Zmd ?_;refine Yr (fun e=>?_) (fun j=>h);have e:(!(Wc q b==Wc q b))=true:=e;rw [Ro] at e;exact nomatch e
end
end
section
variable {w:World}
section
variable {t:Int}{P:Qa}
theorem ZnU (I:IsX1 G w):RcZ G 10 (sD ids t b q) (sD ids t b q) true:=WF I.k (C:=324) (f:=299) (by kd_p) (Zql I)
theorem Zn2 (I:IsX1 G w) (hr:rs.length≤100):RcZ G 10 (tD ids t rs) (tD ids t rs) true:=WF I.k (C:=324) (f:=299) (by kd_p) (ZqF I hr)
theorem ZrB (I:IsX1 G w):RcZ G 10 (sD ids t b q) (tD ids t rs) false:=WF I.k (C:=324) (f:=299) (by kd_p) (ZpE I)
theorem Zp3 (I:IsX1 G w):RcZ G 10 (tD ids t rs) (sD ids t b q) false:=WF I.k (C:=324) (f:=299) (by kd_p) (ZpS I)
theorem ZnF (L:LawB w c fD aL Z) (h1:1≤b) (hb:b≤32) (hq:q.length≤10) (hi:IdsOk ids) (ht:1≤t) (hr:rs.length≤7){n:Nat}
 (h:∀l o,P .ret ⟨l,o,[.d (.bool true)]⟩) :
 wp c Zlr ⟨LL3 ids t hd b q rs,cG b q (pcA pc) fD (some (.d (.dict (Zn ids t rs)))) n,[]⟩ P:=by
 have hl:=hi.l;have hf:10≤c.fuel:=by rw [L.F];decide
 refine Za (ZcU (x:=hd.fdiv 7) (m:=4) (by decide)) fun v hv ev=>?_;refine Stop.mk (Yn (ZnU L.I) hf ?_);refine Stop.mk (Yn (ZnU L.I) hf ?_);refine Stop.mk (Yn (r:=true) (Zcz▸Zbi L.I) (by rw [L.F];decide) ?_);refine Stop.mk (Yn (Zn2 L.I (by lia)) hf ?_);refine Stop.mk (Yn (Zn2 L.I (by lia)) hf ?_);refine Stop.mk (Yn (ZrB L.I) hf ?_);refine Stop.mk (Yn (Zp3 L.I) hf ?_);refine Stop.mk (Wr (args:=[Zx ids t b q,Zv ids,.int t,.int b,.str q,.int ((hd.fdiv 7).fmod 4)]) (need:=10) (ZjE L.I ?_ hi.z (by lia) (by lia) hi.n ht h1 hb) (XW L.I.k (by kd_p) rfl) hf rfl ?_)
 ·exact (show (hd.fdiv 7).fmod 4=(v:Int) from ev)▸(by decide:∀v<4,((v:Nat):Int)=0∨((v:Nat):Int)=1∨((v:Nat):Int)=2∨((v:Nat):Int)=3) v hv
 rintro j rfl;exact h _ _
end
end
section
variable {w:World}
noncomputable def ZnX:Stmt→Pos
 | .FunctionDef _ _ _ _ _ _ _ _ _ p=>p
 | _=>default
noncomputable abbrev Zau:Reg:=Uw 373 (ZnX Zfb) "law.<locals>.digest"
structure IsY (G:Gx) (w:World):Prop where
 x:IsX1 G w
 r3:Zau∈G.reg
 uni:∀r∈G.reg,r.at_=373→r=Zau
 th:ZcK G
 fin:∀g,G.fin g
noncomputable abbrev Zoi:Stmt:=.FunctionDef "digest" (Zod Zfb) (Zjf Zfb) [] none [] (ZgK Zfb) none "digest" (ZnX Zfb)
theorem Zil (w:World):XU (kk1 w.params) 376=(XU (kk1 w.params) 376).take 9++(Zoi::(XU (kk1 w.params) 376).drop 10):=by kd_p
noncomputable def ZsQ (s:Scope):Bool:=s.names.all fun x=>x.2 != .free||(x.1=="asked"||x.1=="hashes")
theorem Zrc {s:Scope}(h:ZsQ s=true):∀x,(x,NameKind.free)∈s.names→x="asked"∨x="hashes":=fun x hx=>by
 have:=Zd4 h _ hx;simpa using this
noncomputable abbrev Zj8 (w:World):List (Str×Nat):=((Zi (Zm (kk1 w.params) 376).scope.names).zipIdx).take 5
theorem ZsL (I:IsX1 G w) (hG:c.G=G) (hs:c.env.scope=(Zm (kk1 w.params) 376).scope) (ht:ZpQ (kk1 w.params) 376 c) (hc:c.cel=Zj8 w):EnvOk c (ZkL (EK (kk1 w.params) 376 0 H)) where
 l:=fun x i h=>Zqx hs ht h
 k:=fun x i hm h=>by
  refine Or.elim (Bool.or_eq_true_iff.mp h) (fun h=>?_) fun h=>?_
  ·exact Zsd hs (hc▸hm) h
  ·exact Zrn hs (hc▸hm) h
 kd:=fun x h=>by
  unfold ZaC at h;simp only [Qz,Q7] at h;show c.env.scope.names.lookup x=_;exact hs▸h.1.1
 g:=fun x v h hv=>Zqu hs h hv
 gl:=fun x v h=>by exact hG▸(Zlm I.k h)
 gs:=fun x y h=>by exact hG▸(ZiL I.k h)
 cel:=hc
 ga:=fun x C h=>⟨_,kIn I.k hG,(Zio (List.mem_of_elem_eq_true h)).2⟩
 sa:=fun x C h=>⟨_,kIn I.k hG,(Zio (List.mem_of_elem_eq_true h)).2⟩
noncomputable def HLA:Hi:={mks:=[(346,[0,1]),(350,[0,1,2,3]),(351,[0,1,2,3]),(353,[0,1,2,3,4,5]),(356,[1,2,3]),(358,[1,2,3])],bk:=[(350,3,[1,2,3])]}
theorem Zo9 (L:LawB w c fD aL Z){t:Int}(h1:1≤b) (hb:b≤32) (hq:q.length≤10) (hi:IdsOk ids) (ht:1≤t) (hZ:TriOk Z) (hzl:Z.length≤7):
 wp c lcb ⟨[(1,.d (.int hd)),(2,.d (Zv ids)),(3,.d (.int t))],cE b q (pcA pc) fD none aL 0,[]⟩ (WO fun d=>d = .bool true):=by
 refine Zm5 L h1 hb hq hi ht rfl ?_;refine Zl9 L h1 hb hq hi ht hZ hzl (Yj rfl) fun rs pc1 hL=>?_;refine Zmk L h1 hb hq hi ht hZ hzl hL fun n pc2 hn=>?_;have hrl:=hL.l;exact Znt L h1 hb hq (ZnF L h1 hb hq hi ht (by exact Kr (by assumption) (by assumption)) fun l o=>rfl)
theorem ZoA (Y:IsY G w){xs:List Int}(hx:xs.length≤63):Zw G (.ref 376) 31 [WP xs] (fun d=>d = .bool true):=by
 have I:=Y.x;refine ZfJ (need:=30) (args:=[WP xs]) (own':=List.replicate 7 (.cell none)) (loc':=[(0,.d (WP xs))]) (Z2 (n:=1) (names:=["script"]) I.k (by kd_p) (ln1 fun b0 S=>by kd_p)) (Zr [0] (by kd_p)) (by kd_p) fun c hG he hcel ht hfu=>?_;have E:EntF (kk1 w.params) 376 0 c:=⟨he,ht,hcel⟩;have X:=E.ok I.k HLA hG;subst hG;show XJ c (XU (kk1 w.params) 376) _ _;rw [Zil];refine Zog ?_;refine (Xo X (Zq9 w) (Q:=fun f st1=>match f with | .next=>XJ c (Zoi::(XU (kk1 w.params) 376).drop 10) st1 (Ret fun d=>d = .bool true) | _=>False) (Zmr I.k rfl hfu hx fun hd b q ids t H pc pre=>?_)).mono fun f st1 h=>?_
 ·refine Za (ZpR pre.h) fun Z zo1 hZ=>?_;subst zo1;have hzl:Z.length≤7:=by have:=pre.l;unfold XI at this;rwa [Qw] at this
  refine ZqD (pre:=[.cell (some (.d (.int b))),.cell (some (.d (.str q))),.cell (pcA pc),.cell none,.cell none]) (es:=YQ (XI Z)) (id:=3) (b0:=none) (ca:="asked") (ch:="hashes") (P:=373) (cda:=375) (q:="law.<locals>.digest") (cl2:=Zj8 w) I.gen Y.r3 Y.uni (by rw [he];kd_p) (by kd_p) (by decide) Y.th
   (fun env=>by kd_p) (by rw [he];kd_p) (by kd_p) (Zrc (by kd_p)) (ZM (by kd_p)) (ZM (by kd_p)) (by rw [hcel];exact ZM (by kd_p)) (by rw [hcel];exact ZM (by kd_p)) (X.k _ _ (ZM (by kd_p)) (by kd_p)) (X.kd _ (by kd_p)) ?_ rfl ?_ ?_ ?_
  ·intro x hx;simp only [List.mem_cons,List.not_mem_nil,or_false] at hx;rcases hx with rfl | rfl | rfl | rfl | rfl
   ·exact .inr ⟨_,rfl⟩
   ·exact .inr ⟨_,rfl⟩
   ·induction pc using Option.casesOn with
    | none=>exact .inl rfl
    | some p=>exact .inr ⟨_,rfl⟩
   ·exact .inl rfl
   ·exact .inl rfl
  ·intro q hq;rw [hcel];exact ⟨List.mem_of_mem_take hq,Zd4 (p:=fun q:Str×Nat=>decide (q.2<5)) (by kd_p:(Zj8 w).all (fun q=>decide (q.2<5))=true) _ hq |> Kw⟩
  ·exact ZoY rfl
  ·intro c2 fD a5 a6 aL vh ct cv pm cl e1 e2 e3 e4 e5 e6 e7 e8 hs D c5 c6 l5 l6;have I2:IsX1 c2.G w:=I.sub e5 e6 e7 hs;have kd5:c.env.kindOf "asked"=some .cell:=X.kd _ (by kd_p);have kd6:c.env.kindOf "hashes"=some .cell:=X.kd _ (by kd_p)
   have L:LawB w c2 fD aL Z:={
    I:=I2
    F:=e4.trans hfu
    X:=ZsL I2 rfl (by rw [e1,he];rfl) (e2.trans ht) e3
    D:=⟨a5,a6,vh,ct,cv,pm,cl,D,l5,l6⟩
    T:=fun rg hr=>Y.th rg (e7▸hr)
    fin:=fun g=>by exact e8▸(Y.fin g)
    hs:=⟨a6,vh,⟨.inl (by rw [e1];exact kd6),by rw [e1];exact c6,by decide,by decide,D.k6⟩,D.vr⟩
    as:=⟨a5,⟨.inl (by rw [e1];exact kd5),by rw [e1];exact c5,by decide,by decide,D.k5⟩⟩}
   exact (Xo L.X (ZqN w) (Zo9 L (pc:=pc) pre.b1 pre.b2 pre.q pre.i pre.t hZ hzl)).mono fun f st h=>Zdt h
 ·induction f with
  | next=>exact h
  | brk=>exact h.elim
  | cont=>exact h.elim
  | ret=>exact h.elim
end
section
open PySem.W
def Zor (h:Heap):Prop:=∃m bm o,h.Ns mainGlobals m∧m "__builtins__"=some (.ref bm)∧bm≠builtinsNs∧h.get? bm=some o∧o.cls = .type "module"∧o.dict=some builtinsNs∧o.data = .plain
def B1 (w:World) (h:Heap):Prop:=(kk1 w.params).In h∧(∃q loose mg mb,TopRead q loose mg mb h)∧Zor h
noncomputable def L1 (w:World):Lib where
 B:=B1 w
 mono:=fun g g' x h=>⟨h.1.keeps x,ZdJ h.2.1 fun q loose mg mb h2=>⟨q,loose,mg,mb,h2.keeps x⟩,Ue h.2.2 fun m bm h=>oze h fun o h=>⟨m,bm,o,h.1.keeps x,h.2.1,h.2.2.1,x _ _ h.2.2.2.1,h.2.2.2.2⟩⟩
 nolimit:=fun g h=>ZdJ h.2.1 fun j j j j h2=>h2.nolimit
 low:=fun g h=>ZdJ h.2.1 fun j j j j h2=>ZS h2.g fun o j j e j=>⟨o,e⟩
noncomputable abbrev Zjg:List Reg:=[Yd 152,Yd 287,Zau]
noncomputable def GG1 (w:World):Gx:=⟨pw1,w,L1 w,Zjg,fun j=>True⟩
theorem Wd {P:Reg→Prop}(h1:P (Yd 152)) (h2:P (Yd 287)) (h3:P Zau):∀r∈Zjg,P r:=fun r hr=>by
 rcases ZH hr with rfl | hr
 ·exact h1
 ·rcases ZH hr with rfl | hr
  ·exact h2
  ·exact (YY hr)▸h3
theorem Zsy (w:World):IsX1 (GG1 w) w where
 k:=⟨fun h hB=>⟨hB.1,hB.2.1⟩,rfl⟩
 p:=rfl
 gen:=⟨fun h hB=>hB.1,Wd (P:=fun r=>∀P,Yd P∈Zjg→r.at_=P→r=Yd P) (fun P j e=>by obtain rfl:152=P:=e;rfl) (fun P j e=>by obtain rfl:287=P:=e;rfl) (fun P hP e=>by
  obtain rfl:373=P:=e;rcases ZH hP with e | hP
  ·exact absurd (congrArg Reg.at_ e) (by decide:(373:Nat)≠152)
  ·rcases ZH hP with e | hP
   ·exact absurd (congrArg Reg.at_ e) (by decide:(373:Nat)≠287)
   ·exact (YY hP).symm),fun h hB=>hB.2.2,Wd (by decide) (by decide) (by decide)⟩
 r1:=.head _
 r2:=.tail _ (.head _)
theorem ZsS (w:World):IsY (GG1 w) w where
 x:=Zsy w
 r3:=.tail _ (.tail _ (.head _))
 uni:=Wd (P:=fun r=>r.at_=373→r=Zau) (fun e=>absurd e (by decide:(152:Nat)≠373)) (fun e=>absurd e (by decide:(287:Nat)≠373)) fun j=>rfl
 th:=Wd Zeb Zeb Zin
 fin:=fun j=>trivial
noncomputable abbrev hidL:Qp:=[152,287,373]
noncomputable abbrev Zgj (h:Heap):Heap:=hideAll h hidL
theorem ZbM {P:Addr→Prop}(h1:P 152) (h2:P 287) (h3:P 373):∀a∈hidL,P a:=fun r hr=>by
 rcases ZH hr with rfl | hr
 ·exact h1
 ·rcases ZH hr with rfl | hr
  ·exact h2
  ·exact (YY hr)▸h3
theorem ZbR {h:Heap}{a:Addr}{m:Qk}(x:h.Ns a m) (ha:a∉hidL):(Zgj h).Ns a m :=
 ZS x fun o es ep e r=>⟨o,es,ep,hideAll_get _ e ha,r⟩
theorem Zjr {w:World}{h:Heap}(X:(kk1 w.params).In h):(kk1 w.params).In (Zgj h):=fun a o e=>by
 refine hideAll_get _ (X a o e) fun hm=>?_
 have:=ZbM (P:=fun a=>(kk1 w.params).lookup a=none) (by kd_p) (by kd_p) (by kd_p) a hm;rw [this] at e;exact Zp e
theorem Zck {h:Heap}(x:h.NoLimit):(Zgj h).NoLimit:=by
 refine Za x fun m h1 h2=>?_;exact ⟨m,ZbR h1 (by decide),h2⟩
theorem Zfk {w:World}{h:Heap}(X:(kx1 w.params).In h):(kk1 w.params).In h:=fun a o e=>X a o (by
 unfold kx1;rw [List.lookup_append];rw [e];rfl)
theorem ZgN {w:World}{h:Heap}(X:(kx1 w.params).In h):h.get? 4=some {cls:=.type "module",dict:=some 0}∧∀a∈hidL,h.get? a=some {cls:=.none,data:=.fields #[]} :=
 ⟨X 4 _ (by kd_p),ZbM (X 152 _ (by kd_p)) (X 287 _ (by kd_p)) (X 373 _ (by kd_p))⟩
theorem Zpn {w:World}{s:Shared}{q:Program}{loose:Qq}{mg mb:Qk}(X:(kx1 w.params).In s.heap) (T:TopRead q loose mg mb s.heap) (hg:s.gens=#[]):HS (GG1 w) ⟨Zgj s.heap,[],#[],s.os,[]⟩ s (Zgj s.heap) where
 base:=by
  have x4:=(ZgN X).1;have K:=Zjr (Zfk X);have Tg:=ZbR T.g (by decide);refine ⟨K,⟨q,loose,mg,mb,Tg,ZbR T.b (by decide),Zck T.nolimit,T.builtins,T.free⟩,mg,4,_,Tg,W.mg_of K Tg (by kd_p),by decide,hideAll_get _ x4 (by decide),rfl,rfl,rfl⟩
 g0:=Sub.refl _
 keep:=fun j j e=>of_hideAll _ e
 reg:=by
  have x1:=(ZgN X).2;refine Wd ⟨hideAll_none _ (by decide),_,x1 152 (by decide),#[],rfl,trivial⟩ ⟨hideAll_none _ (by decide),_,x1 287 (by decide),#[],rfl,trivial⟩ ⟨hideAll_none _ (by decide),_,x1 373 (by decide),#[],rfl,trivial,fun cv e=>nomatch e⟩
 hid:=fun j h=>nomatch h
 gens:=fun i y h=>by simp at h
 bare:=by exact hg▸AllBare.empty
 os:=rfl
theorem ZdM {h:Heap}{P:Addr}{o:Obj}(e2:h'.get? P=some o) (e3:o={cls:=.none,data:=.fields ps}) (ht:isCodeTable h P):asItWas h h' P {cls:=.none,data:=.fields #[]} :=
 .inr (.inl ⟨ht,rfl,#[],ps,rfl,by rw [e2,e3];simp⟩)
theorem Zsq {w:World}{s:Shared}(X:(kx1 w.params).In s.heap) (H:HS (GG1 w) F s' g') (hs:Sub (Zgj s.heap) g'):OldK s.heap s'.heap:=by
 have x1:=(ZgN X).2
 have tab:∀a∈hidL,asItWas s.heap s'.heap a {cls:=.none,data:=.fields #[]}∧∃o,s'.heap.get? a=some o:=ZbM
  (by obtain ⟨j,o,e2,ps,e3,j⟩:=H.reg (Yd 152) (.head _);exact ⟨ZdM e2 e3 (Heap.TableAt.isCodeTable (XM (cda:=156) (Zfk X) (by kd_p) (x1 152 (by decide)))),o,e2⟩)
  (by obtain ⟨j,o,e2,ps,e3,j⟩:=H.reg (Yd 287) (.tail _ (.head _));exact ⟨ZdM e2 e3 (Heap.TableAt.isCodeTable (XM (cda:=291) (Zfk X) (by kd_p) (x1 287 (by decide)))),o,e2⟩)
  (by obtain ⟨j,o,e2,ps,e3,j⟩:=H.reg Zau (.tail _ (.tail _ (.head _)));exact ⟨ZdM e2 e3 (Heap.TableAt.isCodeTable (XM (cda:=375) (Zfk X) (by kd_p) (x1 373 (by decide)))),o,e2⟩)
 have there:∀b o,s.heap.get? b=some o→b∉hidL→s'.heap.get? b=some o:=fun b o e hb=>H.keep _ _ (hs _ _ (hideAll_get _ e hb));refine ⟨fun b o e=>?_,fun b o e=>?_⟩
 ·by_cases hb:b∈hidL
  ·replace e:=(x1 b hb)▸e;obtain rfl:=Kc e;exact (tab b hb).1
  ·exact .inl (there b o e hb)
 ·by_cases hb:b∈hidL
  ·exact (tab b hb).2
  ·exact ⟨o,there b o e hb⟩
theorem ZjH {p:Program}{w:World}{xs:List Int}(h:IntsAre vs xs):VRs p w g (xs.map .int) vs:=by
 induction h with
 | nil=>rfl
 | cons n t h ih=>exact ⟨_,_,rfl,⟨t,rfl⟩,ih⟩
theorem Zp8:WalkO WJ ZaD (XL WJ []) UX.says row1.row.toRowW Zn3 [] fun f vs=>PySem.call f vs:=by
 intro w s₀ s₁ mg mb Gd Y fa o pm cd doc dV kV ho hd hcd hD hmg hgens args vals as hpre hlay hrd hwl hlo;have X:(kx1 w.params).In s₁.heap:=Y;have TR:=topRead_of Gd.T;have hfa:mg "law"=some (.ref 376):=W.mg_of (Zfk X) TR.g (by kd_p);have e376:fa=376:=by
  have:mg "law"=some (.ref fa):=hmg;replace this:=hfa▸this;cases this;rfl
 subst e376
 wrow_args hpre hlay hrd hwl hlo
 rename_i xs0 _ _ _ _ _ _ _ a0 vs0 _ hL _ _ _ hI _ hc _;have hlen:xs0.length≤63:=by lia
 have ha0:a0∉hidL:=fun hm=>by
  refine Zt hL fun ol e1 e2 _=>?_;replace e1:=(((ZgN X).2 a0 hm))▸e1;obtain rfl:=Kc e1;exact nomatch e2
 have hv:VRs (GG1 w).p (GG1 w).w (Zgj s₁.heap) [WP xs0] [.ref a0]:=by
  refine Za hL fun ol e1 e2=>?_;exact ⟨_,_,rfl,⟨a0,vs0,rfl,⟨ol,hideAll_get _ e1 ha0,e2⟩,ZjH hI⟩,rfl⟩
 refine Kb (ZoA (ZsS w) hlen callerA _ [.ref a0] s₁ _ rfl (by decide) (by decide) (Zpn X TR hgens) hv) (fun v s' zq0=>?_) fun _ _ x=>x.elim;obtain ⟨g',d,H',hs,hvr,hd⟩:=zq0;subst hd;subst hvr;refine ⟨.inl ⟨_,.bool true,[],rfl,?_,ReadsW.bool true,?_,fun _=>⟨List.nodup_nil,fun _ hm=>nomatch hm⟩⟩,Zsq X H' hs,H'.os,H'.bare⟩
 ·intro cls;rfl
 ·wrow_post
theorem law1_holds:row1.Holds:=Zro Zp8
end
end MP
theorem PySem.Challenge.cw_jk0046_01_holds : PySem.Challenge.rw_jk0046_01.Holds :=
  MP.law1_holds
