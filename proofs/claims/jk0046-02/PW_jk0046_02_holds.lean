import PyProof.Rows.All
import Wide.All
import OpenK.AllK
import Wide.FinOn
import Lean
import PySem.Challenge.RW_jk0046_02
set_option maxRecDepth 100000
set_option Elab.async false
set_option linter.unusedVariables false
set_option linter.unusedSimpArgs false
set_option genInjectivity false
set_option genSizeOf false
set_option compiler.extract_closed false
set_option bootstrap.genMatcherCode false
namespace MP
local macro_rules | `(tactic| kd_p) => `(tactic| kernel_rfl)
local macro_rules | `(tactic| kd_p1) => `(tactic| with_unfolding_all rfl)
open PySem PySem.Calls PyProof.Rows
theorem Ka:type_of% @Classical.byContradiction:=@Classical.byContradiction
theorem Kb:type_of% @wpAny_mono:=@wpAny_mono
theorem Kc:type_of% @Option.some.inj:=@Option.some.inj
theorem Kd:type_of% @wpAny_bind:=@wpAny_bind
theorem Ke:type_of% @List.getElem?_eq_getElem:=@List.getElem?_eq_getElem
theorem Kf:type_of% @List.mem_append_right:=@List.mem_append_right
theorem Kg:type_of% @List.mem_append_left:=@List.mem_append_left
theorem Kh:type_of% @Heap.get?_push_size:=@Heap.get?_push_size
theorem Ki:type_of% @wpAny_pure:=@wpAny_pure
theorem Kj:type_of% @List.mem_of_getElem?:=@List.mem_of_getElem?
theorem Kk:type_of% @Heap.lt_size:=@Heap.lt_size
theorem Kl:type_of% @List.getElem?_append_left:=@List.getElem?_append_left
theorem Km:type_of% @List.getElem?_append_right:=@List.getElem?_append_right
theorem Kn:type_of% @Heap.get?_push_of_some:=@Heap.get?_push_of_some
theorem Ko:type_of% @Nat.le_add_right:=@Nat.le_add_right
theorem Kq:type_of% @Nat.le_refl:=@Nat.le_refl
theorem Kr:type_of% @Nat.le_trans:=@Nat.le_trans
theorem Kv:type_of% @ne_true_of_eq_false:=@ne_true_of_eq_false
theorem Kw:type_of% @of_decide_eq_true:=@of_decide_eq_true
theorem LLc {α:Type _}{motive:List α→Prop}(t:List α)(nil:motive []) (cons:∀h t,motive (h::t)):motive t:=by cases t;exact nil;exact cons _ _
section
theorem oza  {Q:Prop}{P0:Prop}{P1:Prop}(h:P0∧P1) (k:P0→P1→Q):Q:=by obtain ⟨y0,y1⟩:=h;exact k y0 y1
theorem oze  {α0:Sort _}{Q:Prop}{P1:α0→Prop}(h:∃x0:α0,P1 x0) (k:∀x0:α0,P1 x0→Q):Q:=by obtain ⟨y0,y1⟩:=h;exact k y0 y1
theorem Zb  {α0:Sort _}{Q:Prop}{P1:α0→Prop}{P2:α0→Prop}(h:∃x0:α0,P1 x0∧P2 x0) (k:∀x0:α0,P1 x0→P2 x0→Q):Q:=by obtain ⟨y0,y1,y2⟩:=h;exact k y0 y1 y2
theorem Yq  {Q:Prop}{P0:Prop}{P1:Prop}{P2:Prop}(h:P0∧P1∧P2) (k:P0→P1→P2→Q):Q:=by obtain ⟨y0,y1,y2⟩:=h;exact k y0 y1 y2
theorem XN  {α0:Sort _}{α1:Sort _}{Q:Prop}{P2:α0→α1→Prop}(h:∃x0:α0,∃x1:α1,P2 x0 x1) (k:∀x0:α0,∀x1:α1,P2 x0 x1→Q):Q:=by obtain ⟨y0,y1,y2⟩:=h;exact k y0 y1 y2
theorem ZqO  {α1:Sort _}{Q:Prop}{P0:Prop}{P2:α1→Prop}(h:P0∧∃x1:α1,P2 x1) (k:P0→∀x1:α1,P2 x1→Q):Q:=by obtain ⟨y0,y1,y2⟩:=h;exact k y0 y1 y2
theorem Zx  {α0:Sort _}{Q:Prop}{P1:α0→Prop}{P2:α0→Prop}{P3:α0→Prop}(h:∃x0:α0,P1 x0∧P2 x0∧P3 x0) (k:∀x0:α0,P1 x0→P2 x0→P3 x0→Q):Q:=by obtain ⟨y0,y1,y2,y3⟩:=h;exact k y0 y1 y2 y3
theorem U7  {Q:Prop}{P0:Prop}{P1:Prop}{P2:Prop}{P3:Prop}(h:P0∧P1∧P2∧P3) (k:P0→P1→P2→P3→Q):Q:=by obtain ⟨y0,y1,y2,y3⟩:=h;exact k y0 y1 y2 y3
theorem Zz  {α0:Sort _}{α1:Sort _}{Q:Prop}{P2:α0→α1→Prop}{P3:α0→α1→Prop}(h:∃x0:α0,∃x1:α1,P2 x0 x1∧P3 x0 x1) (k:∀x0:α0,∀x1:α1,P2 x0 x1→P3 x0 x1→Q):Q:=by obtain ⟨y0,y1,y2,y3⟩:=h;exact k y0 y1 y2 y3
theorem ZdE  {α0:Sort _}{α1:Sort _}{α2:Sort _}{Q:Prop}{P3:α0→α1→α2→Prop}(h:∃x0:α0,∃x1:α1,∃x2:α2,P3 x0 x1 x2) (k:∀x0:α0,∀x1:α1,∀x2:α2,P3 x0 x1 x2→Q):Q:=by obtain ⟨y0,y1,y2,y3⟩:=h;exact k y0 y1 y2 y3
theorem YM  {α1:Sort _}{Q:Prop}{P0:Prop}{P2:α1→Prop}{P3:α1→Prop}(h:P0∧∃x1:α1,P2 x1∧P3 x1) (k:P0→∀x1:α1,P2 x1→P3 x1→Q):Q:=by obtain ⟨y0,y1,y2,y3⟩:=h;exact k y0 y1 y2 y3
theorem ZhD  {α0:Sort _}{α2:Sort _}{Q:Prop}{P1:α0→Prop}{P3:α0→α2→Prop}(h:∃x0:α0,P1 x0∧∃x2:α2,P3 x0 x2) (k:∀x0:α0,P1 x0→∀x2:α2,P3 x0 x2→Q):Q:=by obtain ⟨y0,y1,y2,y3⟩:=h;exact k y0 y1 y2 y3
theorem Wt  {α0:Sort _}{Q:Prop}{P1:α0→Prop}{P2:α0→Prop}{P3:α0→Prop}{P4:α0→Prop}(h:∃x0:α0,P1 x0∧P2 x0∧P3 x0∧P4 x0) (k:∀x0:α0,P1 x0→P2 x0→P3 x0→P4 x0→Q):Q:=by obtain ⟨y0,y1,y2,y3,y4⟩:=h;exact k y0 y1 y2 y3 y4
theorem ZoQ  {Q:Prop}{P0:Prop}{P1:Prop}{P2:Prop}{P3:Prop}{P4:Prop}(h:P0∧P1∧P2∧P3∧P4) (k:P0→P1→P2→P3→P4→Q):Q:=by obtain ⟨y0,y1,y2,y3,y4⟩:=h;exact k y0 y1 y2 y3 y4
theorem Zc  {α0:Sort _}{α1:Sort _}{Q:Prop}{P2:α0→α1→Prop}{P3:α0→α1→Prop}{P4:α0→α1→Prop}(h:∃x0:α0,∃x1:α1,P2 x0 x1∧P3 x0 x1∧P4 x0 x1) (k:∀x0:α0,∀x1:α1,P2 x0 x1→P3 x0 x1→P4 x0 x1→Q):Q:=by obtain ⟨y0,y1,y2,y3,y4⟩:=h;exact k y0 y1 y2 y3 y4
theorem ZZ  {α0:Sort _}{α1:Sort _}{α2:Sort _}{Q:Prop}{P3:α0→α1→α2→Prop}{P4:α0→α1→α2→Prop}(h:∃x0:α0,∃x1:α1,∃x2:α2,P3 x0 x1 x2∧P4 x0 x1 x2) (k:∀x0:α0,∀x1:α1,∀x2:α2,P3 x0 x1 x2→P4 x0 x1 x2→Q):Q:=by obtain ⟨y0,y1,y2,y3,y4⟩:=h;exact k y0 y1 y2 y3 y4
theorem Zc5  {α0:Sort _}{α1:Sort _}{α2:Sort _}{α3:Sort _}{Q:Prop}{P4:α0→α1→α2→α3→Prop}(h:∃x0:α0,∃x1:α1,∃x2:α2,∃x3:α3,P4 x0 x1 x2 x3) (k:∀x0:α0,∀x1:α1,∀x2:α2,∀x3:α3,P4 x0 x1 x2 x3→Q):Q:=by obtain ⟨y0,y1,y2,y3,y4⟩:=h;exact k y0 y1 y2 y3 y4
theorem ZiW  {α0:Sort _}{α2:Sort _}{Q:Prop}{P1:α0→Prop}{P3:α0→α2→Prop}{P4:α0→α2→Prop}(h:∃x0:α0,P1 x0∧∃x2:α2,P3 x0 x2∧P4 x0 x2) (k:∀x0:α0,P1 x0→∀x2:α2,P3 x0 x2→P4 x0 x2→Q):Q:=by obtain ⟨y0,y1,y2,y3,y4⟩:=h;exact k y0 y1 y2 y3 y4
theorem Y4  {α0:Sort _}{α3:Sort _}{Q:Prop}{P1:α0→Prop}{P2:α0→Prop}{P4:α0→α3→Prop}(h:∃x0:α0,P1 x0∧P2 x0∧∃x3:α3,P4 x0 x3) (k:∀x0:α0,P1 x0→P2 x0→∀x3:α3,P4 x0 x3→Q):Q:=by obtain ⟨y0,y1,y2,y3,y4⟩:=h;exact k y0 y1 y2 y3 y4
theorem ZcQ  {α0:Sort _}{Q:Prop}{P1:α0→Prop}{P2:α0→Prop}{P3:α0→Prop}{P4:α0→Prop}{P5:α0→Prop}(h:∃x0:α0,P1 x0∧P2 x0∧P3 x0∧P4 x0∧P5 x0) (k:∀x0:α0,P1 x0→P2 x0→P3 x0→P4 x0→P5 x0→Q):Q:=by obtain ⟨y0,y1,y2,y3,y4,y5⟩:=h;exact k y0 y1 y2 y3 y4 y5
theorem Yk  {α0:Sort _}{α1:Sort _}{Q:Prop}{P2:α0→α1→Prop}{P3:α0→α1→Prop}{P4:α0→α1→Prop}{P5:α0→α1→Prop}(h:∃x0:α0,∃x1:α1,P2 x0 x1∧P3 x0 x1∧P4 x0 x1∧P5 x0 x1) (k:∀x0:α0,∀x1:α1,P2 x0 x1→P3 x0 x1→P4 x0 x1→P5 x0 x1→Q):Q:=by obtain ⟨y0,y1,y2,y3,y4,y5⟩:=h;exact k y0 y1 y2 y3 y4 y5
theorem Zdj  {α0:Sort _}{α1:Sort _}{α2:Sort _}{Q:Prop}{P3:α0→α1→α2→Prop}{P4:α0→α1→α2→Prop}{P5:α0→α1→α2→Prop}(h:∃x0:α0,∃x1:α1,∃x2:α2,P3 x0 x1 x2∧P4 x0 x1 x2∧P5 x0 x1 x2) (k:∀x0:α0,∀x1:α1,∀x2:α2,P3 x0 x1 x2→P4 x0 x1 x2→P5 x0 x1 x2→Q):Q:=by obtain ⟨y0,y1,y2,y3,y4,y5⟩:=h;exact k y0 y1 y2 y3 y4 y5
theorem Xf  {α0:Sort _}{α1:Sort _}{α2:Sort _}{α3:Sort _}{Q:Prop}{P4:α0→α1→α2→α3→Prop}{P5:α0→α1→α2→α3→Prop}(h:∃x0:α0,∃x1:α1,∃x2:α2,∃x3:α3,P4 x0 x1 x2 x3∧P5 x0 x1 x2 x3) (k:∀x0:α0,∀x1:α1,∀x2:α2,∀x3:α3,P4 x0 x1 x2 x3→P5 x0 x1 x2 x3→Q):Q:=by obtain ⟨y0,y1,y2,y3,y4,y5⟩:=h;exact k y0 y1 y2 y3 y4 y5
theorem Zlm  {Q:Prop}{P0:Prop}{P1:Prop}{P2:Prop}{P3:Prop}{P4:Prop}{P5:Prop}(h:P0∧P1∧P2∧P3∧P4∧P5) (k:P0→P1→P2→P3→P4→P5→Q):Q:=by obtain ⟨y0,y1,y2,y3,y4,y5⟩:=h;exact k y0 y1 y2 y3 y4 y5
theorem ZlE  {α0:Sort _}{α1:Sort _}{α2:Sort _}{α3:Sort _}{α4:Sort _}{Q:Prop}{P5:α0→α1→α2→α3→α4→Prop}(h:∃x0:α0,∃x1:α1,∃x2:α2,∃x3:α3,∃x4:α4,P5 x0 x1 x2 x3 x4) (k:∀x0:α0,∀x1:α1,∀x2:α2,∀x3:α3,∀x4:α4,P5 x0 x1 x2 x3 x4→Q):Q:=by obtain ⟨y0,y1,y2,y3,y4,y5⟩:=h;exact k y0 y1 y2 y3 y4 y5
theorem Zju  {α0:Sort _}{Q:Prop}{P1:α0→Prop}{P2:α0→Prop}{P3:α0→Prop}{P4:α0→Prop}{P5:α0→Prop}{P6:α0→Prop}(h:∃x0:α0,P1 x0∧P2 x0∧P3 x0∧P4 x0∧P5 x0∧P6 x0) (k:∀x0:α0,P1 x0→P2 x0→P3 x0→P4 x0→P5 x0→P6 x0→Q):Q:=by obtain ⟨y0,y1,y2,y3,y4,y5,y6⟩:=h;exact k y0 y1 y2 y3 y4 y5 y6
theorem Zjv  {α0:Sort _}{α1:Sort _}{α2:Sort _}{Q:Prop}{P3:α0→α1→α2→Prop}{P4:α0→α1→α2→Prop}{P5:α0→α1→α2→Prop}{P6:α0→α1→α2→Prop}(h:∃x0:α0,∃x1:α1,∃x2:α2,P3 x0 x1 x2∧P4 x0 x1 x2∧P5 x0 x1 x2∧P6 x0 x1 x2) (k:∀x0:α0,∀x1:α1,∀x2:α2,P3 x0 x1 x2→P4 x0 x1 x2→P5 x0 x1 x2→P6 x0 x1 x2→Q):Q:=by obtain ⟨y0,y1,y2,y3,y4,y5,y6⟩:=h;exact k y0 y1 y2 y3 y4 y5 y6
theorem ZhY  {α0:Sort _}{α1:Sort _}{α2:Sort _}{α3:Sort _}{Q:Prop}{P4:α0→α1→α2→α3→Prop}{P5:α0→α1→α2→α3→Prop}{P6:α0→α1→α2→α3→Prop}(h:∃x0:α0,∃x1:α1,∃x2:α2,∃x3:α3,P4 x0 x1 x2 x3∧P5 x0 x1 x2 x3∧P6 x0 x1 x2 x3) (k:∀x0:α0,∀x1:α1,∀x2:α2,∀x3:α3,P4 x0 x1 x2 x3→P5 x0 x1 x2 x3→P6 x0 x1 x2 x3→Q):Q:=by obtain ⟨y0,y1,y2,y3,y4,y5,y6⟩:=h;exact k y0 y1 y2 y3 y4 y5 y6
theorem UM  {α0:Sort _}{α1:Sort _}{α2:Sort _}{Q:Prop}{P3:α0→α1→α2→Prop}{P4:α0→α1→α2→Prop}{P5:α0→α1→α2→Prop}{P6:α0→α1→α2→Prop}{P7:α0→α1→α2→Prop}(h:∃x0:α0,∃x1:α1,∃x2:α2,P3 x0 x1 x2∧P4 x0 x1 x2∧P5 x0 x1 x2∧P6 x0 x1 x2∧P7 x0 x1 x2) (k:∀x0:α0,∀x1:α1,∀x2:α2,P3 x0 x1 x2→P4 x0 x1 x2→P5 x0 x1 x2→P6 x0 x1 x2→P7 x0 x1 x2→Q):Q:=by obtain ⟨y0,y1,y2,y3,y4,y5,y6,y7⟩:=h;exact k y0 y1 y2 y3 y4 y5 y6 y7
theorem ZI {α:Type _}{l:List α}{i:Nat}{a:α}(h:l[i]?=some a):∃h:i<l.length,l[i]=a:=List.getElem?_eq_some_iff.mp h
theorem ZQ {α:Type _}{a b:α}{l:List α}(h:a∈b::l):a=b∨a∈l:=List.mem_cons.mp h
theorem Z8 {α:Type _}{a:α}{l r:List α}(h:a∈l++r):a∈l∨a∈r:=List.mem_append.mp h
theorem Z9 {α β:Type _}{f:α→β}{x:Option α}{b:β}(h:x.map f=some b):∃a,x=some a∧f a=b:=Option.map_eq_some_iff.mp h
theorem Xb {α β:Type _}{f:α→β}{l:List α}{b:β}(h:b∈l.map f):∃a,a∈l∧f a=b:=List.mem_map.mp h
theorem ZaI {α:Type _}{a b:α}(h:a∈[b]):a=b:=List.mem_singleton.mp h
theorem Zda {α:Type _}{a b:α}(h:a=b):a∈[b]:=List.mem_singleton.mpr h
theorem Yp {x y:Bool}(h:(x&&y)=true):x=true∧y=true:=Bool.and_eq_true_iff.mp h
theorem Zbn {α:Type _} [BEq α] [LawfulBEq α] {a b:α}(h:a≠b):(a==b)=false:=beq_eq_false_iff_ne.mpr h
theorem Zaq {a b:Nat}(h:b≤a):¬a<b:=Nat.not_lt.mpr h
theorem ZgT {a n:Nat}(h:a∈List.range n):a<n:=List.mem_range.mp h
theorem ZeK {a n:Nat}(h:a<n):a∈List.range n:=List.mem_range.mpr h
theorem Zc0 {α β:Type _}{f:α→Option β}{x:Option α}{b:β}(h:x.bind f=some b):∃a,x=some a∧f a=some b:=Option.bind_eq_some_iff.mp h
theorem ZbI {α:Type _}{p:α→Bool}{l:List α}(h:l.all p=true):∀x,x∈l→p x=true:=List.all_eq_true.mp h
theorem Zi4 {α:Type _}{p:α→Bool}{l:List α}{a:α}(h:a∈l.filter p):a∈l∧p a=true:=List.mem_filter.mp h
theorem Zin {α:Type _}{l:List α}{a:α}(h:a∈l):∃i:Nat,l[i]?=some a:=List.mem_iff_getElem?.mp h
theorem wpm {α:Type}{M:Model}{A:Around}{E:Value→Shared→Prop}{s:Shared}{t:Sem α}{Q Q':α→Shared→Prop}(h:wpAny M A t Q E s) (k:∀a s,Q a s→Q' a s):wpAny M A t Q' E s:=Kb h k fun j j x=>x
theorem wpq {α:Type}{M:Model}{A:Around}{E:Value→Shared→Prop}{s:Shared}{m m':Sem α}{Q:α→Shared→Prop}(h:m=m') (k:wpAny M A m' Q E s):wpAny M A m Q E s:=h▸k
theorem YU {P:Prop}(h:false=true):P:=Bool.noConfusion h
theorem Ze2 {P:Prop}(h:true=false):P:=Bool.noConfusion h
theorem Zo {α:Type}{a:α}{P:Prop}(h:none=some a):P:=by cases h
theorem Zmk {α:Type}{a:α}{P:Prop}(h:some a=none):P:=by cases h
theorem Zeq {α:Type}{a:α}{l:List α}{P:Prop}(h:a::l=[]):P:=by cases h
theorem Zj2 {α:Type}{a:α}{l:List α}{P:Prop}(h:[]=a::l):P:=by cases h
theorem Zgb {α:Type}{l:List α}{a:α}(h:l.head?=some a):∃r,l=a::r:=by
 induction l using LLc with
 | nil=>exact Zo h
 | cons x r=>exact ⟨r,Kc h▸rfl⟩
inductive VKind where | values | items
noncomputable def Zbp (h:Heap):VKind→Addr→Addr→Prop
 | .values,a,d=>h.IsValuesView a d
 | .items,a,d=>h.IsItemsView a d
set_option genCtorIdx false in
inductive D where
 | none
 | bool (b:Bool)
 | int (i:Int)
 | str (s:Str)
 | bytes (b:Array UInt8)
 | list (xs:List D)
 | tuple (xs:List D)
 | dict (es:List (Str×D))
 | range (a b:Int)
 | slice (lo hi st:Option Int)
 | view (k:VKind) (es:List (Str×D))
 | inst (c:Addr) (fs:List (Str×D))
 | val (v:Value)
def Sub (g h:Heap):Prop:=∀b o,g.get? b=some o→h.get? b=some o
theorem Sub.refl (h:Heap):Sub h h:=fun j j e=>e
theorem Sub.trans {a b c:Heap}(x:Sub a b) (y:Sub b c):Sub a c:=fun j j e=>y _ _ (x _ _ e)
theorem Sub.push (h:Heap) (o:Obj):Sub h (h.push o):=fun j j e=>Kn _ e
section
variable (p:Program) (w:World)
def IsLst (h:Heap) (a:Addr) (vs:List Value):Prop:=∃n,h.get? a=some {cls:=.type "list",data:=.seq vs.toArray n}
def IsTpl (h:Heap) (a:Addr) (vs:List Value):Prop:=IsTup h a vs.toArray
def IsFl (h:Heap) (a:Addr) (vs:List Value):Prop:=h.IsList a vs.toArray
theorem IsFl.isList {h:Heap}{a:Addr}{vs:List Value}(x:IsFl h a vs):h.IsList a vs.toArray:=x
theorem IsFl.sub {g h:Heap}(x:Sub g h) {a vs}(H:IsFl g a vs):IsFl h a vs:=by refine Zb H fun o e r=>?_;exact ⟨o,x _ _ e,r⟩
theorem IsLst.fl {h:Heap}{a:Addr}{vs:List Value}(x:IsLst h a vs):IsFl h a vs:=by refine oze x fun n e=>?_;exact ⟨_,e,rfl,n,rfl⟩
theorem IsFl.lt {h:Heap}{a:Addr}{vs:List Value}(x:IsFl h a vs):a<h.objs.size:=by refine Zb x fun o e j=>?_;exact Kk e
theorem IsLst.isList {h:Heap}{a:Addr}{vs:List Value}(x:IsLst h a vs):h.IsList a vs.toArray:=by refine oze x fun n e=>?_;exact ⟨_,e,rfl,n,rfl⟩
theorem IsTpl.isTup {h:Heap}{a:Addr}{vs:List Value}(x:IsTpl h a vs):IsTup h a vs.toArray:=x
theorem IsTpl.sub {g h:Heap}(x:Sub g h) {a vs}(H:IsTpl g a vs):IsTpl h a vs:=by refine Zb H fun o e r=>?_;exact ⟨o,x _ _ e,r⟩
def Zfe (h:Heap) (a c:Addr) (kvs:List (Str×Value)):Prop :=
 ∃dx,h.get? a=some {cls:=.ref c,dict:=some dx,data:=.plain}∧h.DictOf (strKind p w) dx kvs
mutual
noncomputable def VR (h:Heap):D→Value→Prop
 | .none,v=>v = .none
 | .bool b,v=>v = .bool b
 | .int i,v=>∃t,v = .int i t
 | .str s,v=>∃t,v = .str s t
 | .bytes b,v=>∃t,v = .bytes b t
 | .list xs,v=>∃a vs,v = .ref a∧IsFl h a vs∧VRs h xs vs
 | .tuple xs,v=>∃a vs,v = .ref a∧IsTpl h a vs∧VRs h xs vs
 | .dict es,v=>∃a kvs,v = .ref a∧a≠sysModules∧h.DictOf (strKind p w) a kvs∧VRe h es kvs
 | .range a b,v=>∃r t u z,v = .ref r∧IsRange h r a b 1 t u z
 | .slice lo hi st,v=>∃a l u z,v = .ref a∧h.get? a=some {cls:=.type "slice",data:=.fields #[l,u,z]}∧IsPart l lo∧IsPart u hi∧IsPart z st
 | .view k es,v=>∃a d kvs,v = .ref a∧d≠sysModules∧Zbp h k a d∧h.DictOf (strKind p w) d kvs∧VRe h es kvs
 | .inst c fs,v=>∃a kvs,v = .ref a∧Zfe p w h a c kvs∧VRe h fs kvs
 | .val u,v=>v=u
noncomputable def VRs (h:Heap):List D→List Value→Prop
 | [],vs=>vs=[]
 | x::xs,vs=>∃v r,vs=v::r∧VR h x v∧VRs h xs r
noncomputable def VRe (h:Heap):List (Str×D)→List (Str×Value)→Prop
 | [],vs=>vs=[]
 | x::xs,vs=>∃v r,vs=(x.1,v)::r∧VR h x.2 v∧VRe h xs r
end
theorem isList_sub {g h:Heap}(x:Sub g h) {a vs}(H:g.IsList a vs):h.IsList a vs:=by refine Zb H fun o e r=>?_;exact ⟨o,x _ _ e,r⟩
theorem ZA {g h:Heap}(x:Sub g h) {a kvs}(H:g.DictOf (strKind p w) a kvs):h.DictOf (strKind p w) a kvs:=by refine ZZ H fun o es ep e r=>?_;exact ⟨o,es,ep,x _ _ e,r⟩
theorem YY {g h:Heap}(x:Sub g h) {a d}:∀k,Zbp g k a d→Zbp h k a d
 | .values,H=>by refine Zb H fun o e r=>?_;exact ⟨o,x _ _ e,r⟩
 | .items,H=>by refine Zb H fun o e r=>?_;exact ⟨o,x _ _ e,r⟩
theorem Zfg {g h:Heap}(x:Sub g h) {a c kvs}(H:Zfe p w g a c kvs):Zfe p w h a c kvs:=by refine Zb H fun dx e r=>?_;exact ⟨dx,x _ _ e,ZA p w x r⟩
mutual
theorem VR.sub {g h:Heap}(x:Sub g h):∀d v,VR p w g d v→VR p w h d v
 | .none,_,H=>H
 | .bool _,_,H=>H
 | .int _,_,H=>H
 | .str _,_,H=>H
 | .bytes _,_,H=>H
 | .list xs,_,H=>by refine Zc H fun a vs e l r=>?_;exact ⟨a,vs,e,l.sub x,VRs.sub x xs vs r⟩
 | .tuple xs,_,H=>by refine Zc H fun a vs e l r=>?_;exact ⟨a,vs,e,l.sub x,VRs.sub x xs vs r⟩
 | .dict es,_,H=>by refine Yk H fun a vs e n l r=>?_;exact ⟨a,vs,e,n,ZA p w x l,VRe.sub x es vs r⟩
 | .range _ _,_,H=>by refine Xf H fun a t u z e r=>?_;exact ⟨a,t,u,z,e,x _ _ r⟩
 | .slice _ _ _,_,H=>by refine ZhY H fun a l u z e q r=>?_;exact ⟨a,l,u,z,e,x _ _ q,r⟩
 | .view k es,_,H=>by refine UM H fun a d vs e n i l r=>?_;exact ⟨a,d,vs,e,n,YY x k i,ZA p w x l,VRe.sub x es vs r⟩
 | .inst _ fs,_,H=>by refine Zc H fun a vs e l r=>?_;exact ⟨a,vs,e,Zfg p w x l,VRe.sub x fs vs r⟩
 | .val _,_,H=>H
theorem VRs.sub {g h:Heap}(x:Sub g h):∀d v,VRs p w g d v→VRs p w h d v
 | [],_,H=>H
 | d::ds,_,H=>by refine Zc H fun v r e a b=>?_;exact ⟨v,r,e,VR.sub x d v a,VRs.sub x ds r b⟩
theorem VRe.sub {g h:Heap}(x:Sub g h):∀d v,VRe p w g d v→VRe p w h d v
 | [],_,H=>H
 | d::ds,_,H=>by refine Zc H fun v r e a b=>?_;exact ⟨v,r,e,VR.sub x d.2 v a,VRe.sub x ds r b⟩
end
end
set_option genCtorIdx false in
inductive A where
 | d (x:D)
 | own (i:Nat)
 | view (k:VKind) (i:Nat)
inductive O where
 | list (xs:List A)
 | dict (es:List (Str×A)) (ep:Nat)
 | inst (c:Addr) (dx:Nat)
 | cell (x:Option A)
 | iter
 | dead
noncomputable def ZD {α:Type} [DecidableEq α] (x:α):List (α×A)→Option A
 | []=>none
 | q::r=>if q.1=x then some q.2 else ZD x r
structure St where
 loc:List (Nat×A)
 own:List O
 stk:List A
section
variable (p:Program) (w:World)
noncomputable def AR (g:Heap) (ρ:List Addr):A→Value→Prop
 | .d x,v=>VR p w g x v
 | .own i,v=>∃a,ρ[i]?=some a∧v = .ref a
 | .view k i,v=>∃d a,ρ[i]?=some d∧v = .ref a∧Zbp g k a d
noncomputable def ARs (g:Heap) (ρ:List Addr):List A→List Value→Prop
 | [],vs=>vs=[]
 | x::xs,vs=>∃v r,vs=v::r∧AR p w g ρ x v∧ARs g ρ xs r
noncomputable def ARe (g:Heap) (ρ:List Addr):List (Str×A)→List (Str×Value)→Prop
 | [],vs=>vs=[]
 | x::xs,vs=>∃v r,vs=(x.1,v)::r∧AR p w g ρ x.2 v∧ARe g ρ xs r
noncomputable def ARo (g:Heap) (ρ:List Addr):Option A→Option Value→Prop
 | none,v=>v=none
 | some x,v=>∃u,v=some u∧AR p w g ρ x u
noncomputable def OAt (g:Heap) (ρ:List Addr) (h:Heap):O→Addr→Prop
 | .list xs,a=>∃vs,IsLst h a vs∧ARs p w g ρ xs vs
 | .dict es ep,a=>∃kvs,a≠sysModules∧h.DictAt (strKind p w) a kvs ep∧ARe p w g ρ es kvs
 | .inst c j,a=>∃dx,ρ[j]?=some dx∧h.get? a=some {cls:=.ref c,dict:=some dx,data:=.plain}
 | .cell x,a=>∃v o,h.get? a=some o∧o.data = .cell v∧ARo p w g ρ x v
 | .iter,a=>∃o,h.get? a=some o
 | .dead,a=>∃o,h.get? a=some o
def Ext (ρ ρ':List Addr):Prop:=∀(i:Nat) (a:Addr),ρ[i]?=some a→ρ'[i]?=some a
theorem Ext.refl (ρ:List Addr):Ext ρ ρ:=fun j j e=>e
theorem AR.sub {g g':Heap}(x:Sub g g') {ρ ρ':List Addr}(hρ:Ext ρ ρ'):∀a v,AR p w g ρ a v→AR p w g' ρ' a v
 | .d d,v,H=>VR.sub p w x d v H
 | .own _,_,H=>by refine Zb H fun a e r=>?_;exact ⟨a,hρ _ _ e,r⟩
 | .view k _,_,H=>by refine Zc H fun d a e r i=>?_;exact ⟨d,a,hρ _ _ e,r,YY x k i⟩
theorem ARs.sub {g g':Heap}(x:Sub g g') {ρ ρ':List Addr}(hρ:Ext ρ ρ'):∀a v,ARs p w g ρ a v→ARs p w g' ρ' a v
 | [],_,H=>H
 | a::as,_,H=>by refine Zc H fun v r e i j=>?_;exact ⟨v,r,e,AR.sub p w x hρ a v i,ARs.sub x hρ as r j⟩
theorem ARe.sub {g g':Heap}(x:Sub g g') {ρ ρ':List Addr}(hρ:Ext ρ ρ'):∀a v,ARe p w g ρ a v→ARe p w g' ρ' a v
 | [],_,H=>H
 | a::as,_,H=>by refine Zc H fun v r e i j=>?_;exact ⟨v,r,e,AR.sub p w x hρ a.2 v i,ARe.sub x hρ as r j⟩
theorem ARo.sub {g g':Heap}(x:Sub g g') {ρ ρ':List Addr}(hρ:Ext ρ ρ'):∀a v,ARo p w g ρ a v→ARo p w g' ρ' a v
 | none,_,H=>H
 | some a,_,H=>by refine Zb H fun v e r=>?_;exact ⟨v,e,AR.sub p w x hρ a v r⟩
theorem OAt.sub {g g' h h':Heap}(x:Sub g g') {ρ ρ':List Addr}(hρ:Ext ρ ρ') {a:Addr}(k:∀o,h.get? a=some o→h'.get? a=some o):∀o,OAt p w g ρ h o a→OAt p w g' ρ' h' o a
 | .list xs,H=>by refine Zb H fun vs zo2 r=>?_;refine oze zo2 fun n e=>?_;exact ⟨vs,⟨n,k _ e⟩,ARs.sub p w x hρ xs vs r⟩
 | .dict es _,H=>by refine Zx H fun vs n zo3 r=>?_;refine Zz zo3 fun o es' e l=>?_;exact ⟨vs,n,⟨o,es',k _ e,l⟩,ARe.sub p w x hρ es vs r⟩
 | .inst _ _,H=>by refine Zb H fun dx e r=>?_;exact ⟨dx,hρ _ _ e,k _ r⟩
 | .cell c,H=>by refine Zc H fun v o e l r=>?_;exact ⟨v,o,k _ e,l,ARo.sub p w x hρ c v r⟩
 | .iter,H=>by refine oze H fun o e=>?_;exact ⟨o,k _ e⟩
 | .dead,H=>by refine oze H fun o e=>?_;exact ⟨o,k _ e⟩
theorem OAt.there {g h:Heap}{ρ:List Addr}{a:Addr}:∀o,OAt p w g ρ h o a→∃ob,h.get? a=some ob
 | .list _,H=>by refine Zb H fun j zo2 j=>?_;refine oze zo2 fun j e=>?_;exact ⟨_,e⟩
 | .dict _ _,H=>by refine Zx H fun j j zo3 j=>?_;refine Zz zo3 fun o j e j=>?_;exact ⟨o,e⟩
 | .inst _ _,H=>by refine Zb H fun j j r=>?_;exact ⟨_,r⟩
 | .cell _,H=>by refine Zz H fun j o e j=>?_;exact ⟨o,e⟩
 | .iter,H=>H
 | .dead,H=>H
end
structure Reg where
 at_:Addr
 ok:Heap→Obj→Prop
 mono:∀g g' o,Sub g g'→ok g o→ok g' o
structure Lib where
 B:Heap→Prop
 mono:∀g g',Sub g g'→B g→B g'
 nolimit:∀g,B g→g.NoLimit
 low:∀g,B g→∃o,g.get? mainGlobals=some o
structure Gx where
 p:Program
 w:World
 lib:Lib
 reg:List Reg
structure Cx where
 G:Gx
 A:Around
 env:Env
 tab:List Str
 cel:List (Str×Nat)
 fuel:Nat
 tnd:tab.Nodup
 hk:env.scope.kind = .function
 hg:env.globals=mainGlobals
 hb:env.builtins=builtinsNs
 hh:A.handled=none
 hd:A.depth+fuel<recursionLimit
 hu:A.units+8*fuel+40≤cLine
noncomputable abbrev Cx.p (c:Cx):Program:=c.G.p
noncomputable abbrev Cx.w (c:Cx):World:=c.G.w
structure Fz where
 g₀:Heap
 hid:List (Addr×Obj)
 gens:Array GenState
 os:OsState
 pin:List (Nat×Addr)
structure HS (G:Gx) (F:Fz) (s:Shared) (g:Heap):Prop where
 base:G.lib.B g
 g0:Sub F.g₀ g
 keep:Sub g s.heap
 reg:∀r∈G.reg,g.get? r.at_=none∧∃o,s.heap.get? r.at_=some o∧r.ok g o
 hid:∀q∈F.hid,s.heap.get? q.1=some q.2∧g.get? q.1=none∧∀r∈G.reg,q.1≠r.at_
 gens:∀(i:Nat) x,F.gens[i]?=some x→s.gens[i]?=some x
 bare:AllBare s.gens
 os:s.os=F.os
structure RSW (c:Cx) (F:Fz) (st:St) (vs:List Value) (s:Shared) (g:Heap) (ρ:List Addr) (m:Str→Option Value):Prop extends HS c.G F s g where
 ns:s.heap.Ns c.env.locals m
 nl:g.get? c.env.locals=none
 loc:∀(i:Nat) a,ZD i st.loc=some a→∃x v,c.tab[i]?=some x∧m x=some v∧AR c.p c.w g ρ a v
 len:ρ.length=st.own.length
 nd:ρ.Nodup
 fr:∀b∈ρ,g.get? b=none∧b≠c.env.locals
 own:∀(i:Nat) o a,st.own[i]?=some o→ρ[i]?=some a→OAt c.p c.w g ρ s.heap o a
 stk:ARs c.p c.w g ρ st.stk vs
 cel:∀x (i:Nat),(x,i)∈c.cel→∃a,ρ[i]?=some a∧c.env.cells.lookup x=some a
 apart:∀b∈c.env.locals::ρ,(∀r∈c.G.reg,b≠r.at_)∧∀q∈F.hid,b≠q.1
 pin:∀q∈F.pin,ρ[q.1]?=some q.2
inductive RS (c:Cx) (F:Fz) (st:St) (vs:List Value) (s:Shared):Prop
 | mk (g:Heap) (ρ:List Addr) (m:Str→Option Value) (W:RSW c F st vs s g ρ m)
inductive Got (c:Cx) (F:Fz) (vs:List Value) (Q:St→Prop) (s:Shared):Prop
 | mk (st:St) (R:RS c F st vs s) (h:Q st)
theorem ozr {c:Cx}{F:Fz}{st:St}{vs:List Value}{s:Shared}{Q:Prop}(R:RS c F st vs s) (k:∀g ρ m,RSW c F st vs s g ρ m→Q):Q:=by obtain ⟨g,ρ,m,W⟩:=R;exact k g ρ m W
theorem ozg {c:Cx}{F:Fz}{vs:List Value}{P:St→Prop}{s:Shared}{Q:Prop}(R:Got c F vs P s) (k:∀st,RS c F st vs s→P st→Q):Q:=by obtain ⟨st,R,h⟩:=R;exact k st R h
noncomputable def Z0 (G:Gx) (F:Fz) (bs:List Addr):List Addr:=bs++(G.reg.map (·.at_)++F.hid.map (·.1))
theorem ZT {G:Gx}{F:Fz}{ρ:List Addr}{b:Addr}(h:b∈ρ):b∈Z0 G F ρ:=Kg _ h
theorem Ui {G:Gx}{F:Fz}{ρ:List Addr}{r:Reg}(h:r∈G.reg):r.at_∈Z0 G F ρ:=Kf _ (Kg _ (List.mem_map_of_mem h))
theorem XS {G:Gx}{F:Fz}{ρ:List Addr}{q:Addr×Obj}(h:q∈F.hid):q.1∈Z0 G F ρ:=Kf _ (Kf _ (List.mem_map_of_mem h))
section
variable {G:Gx}{F:Fz}{s:Shared}{g:Heap}
theorem HS.nomut (R:HS G F s g):∀b∈Z0 G F [],g.get? b=none:=by
 intro b hb;refine Or.elim (Z8 (show b∈G.reg.map (·.at_)++F.hid.map (·.1) from hb)) (fun hb=>?_) fun hb=>?_
 ·refine Zb (Xb hb) fun r hr zo1=>?_;subst zo1;exact (R.reg r hr).1
 ·refine Zb (Xb hb) fun q hq zo2=>?_;subst zo2;exact (R.hid q hq).2.1
theorem HS.regrow (R:HS G F s g) {g':Heap}(x:Sub g g') (k:Sub g' s.heap) (n:∀b∈Z0 G F [],g'.get? b=none):HS G F s g' where
 base:=G.lib.mono _ _ x R.base
 g0:=R.g0.trans x
 keep:=k
 reg:=fun r hr=>by refine YM (R.reg r hr) fun j o h4 h5=>?_;exact ⟨n _ (Ui hr),o,h4,r.mono _ _ _ x h5⟩
 hid:=fun q hq=>by refine Yq (R.hid q hq) fun h1 j h3=>?_;exact ⟨h1,n _ (XS hq),h3⟩
 gens:=R.gens
 bare:=R.bare
 os:=R.os
theorem HS.grow (R:HS G F s g) {s':Shared}(x:Sub s.heap s'.heap) (hg:∀(i:Nat) y,F.gens[i]?=some y→s'.gens[i]?=some y) (hb:AllBare s'.gens) (ho:s'.os=s.os):HS G F s' g where
 base:=R.base
 g0:=R.g0
 keep:=R.keep.trans x
 reg:=fun r hr=>by refine YM (R.reg r hr) fun h1 o h4 h5=>?_;exact ⟨h1,o,x _ _ h4,h5⟩
 hid:=fun q hq=>by refine oza (R.hid q hq) fun h1 h3=>?_;exact ⟨x _ _ h1,h3⟩
 gens:=hg
 bare:=hb
 os:=ho.trans R.os
theorem HS.at_ (R:HS G F s g) {a:Addr}{h':Heap}{t:Nat}(hs:∀b o,b≠a→s.heap.get? b=some o→h'.get? b=some o) (hg:g.get? a=none) (ha:(∀r∈G.reg,a≠r.at_)∧∀q∈F.hid,a≠q.1):HS G F {s with heap:=h',toks:=t} g where
 base:=R.base
 g0:=R.g0
 keep:=fun b o e=>hs b o (fun q=>by rw [q,hg] at e;exact Zo e) (R.keep b o e)
 reg:=fun r hr=>by refine YM (R.reg r hr) fun h1 o h4 h5=>?_;exact ⟨h1,o,hs _ _ (fun q=>ha.1 r hr q.symm) h4,h5⟩
 hid:=fun q hq=>by refine oza (R.hid q hq) fun h1 h3=>?_;exact ⟨hs _ _ (fun z=>ha.2 q hq z.symm) h1,h3⟩
 gens:=R.gens
 bare:=R.bare
 os:=R.os
end
section
variable {c:Cx}{F:Fz}{st:St}{vs:List Value}{s:Shared}{g:Heap}{ρ:List Addr}{m:Str→Option Value}
theorem RSW.nomut (R:RSW c F st vs s g ρ m):∀b∈Z0 c.G F (c.env.locals::ρ),g.get? b=none:=by
 intro b hb;refine Or.elim (Z8 hb) (fun hb=>?_) fun hb=>?_
 ·rcases ZQ hb with rfl | hb
  ·exact R.nl
  ·exact (R.fr b hb).1
 ·exact R.toHS.nomut b hb
theorem RSW.there (R:RSW c F st vs s g ρ m):∀b∈c.env.locals::ρ,∃o,s.heap.get? b=some o:=by
 intro b hb;rcases ZQ hb with rfl | hb
 ·refine ZZ R.ns fun o j j h j=>?_;exact ⟨o,h⟩
 ·obtain ⟨i,hi,rfl⟩:=List.getElem_of_mem hb;have hl:i<st.own.length:=R.len▸hi;exact OAt.there _ _ _ (R.own i st.own[i] ρ[i] (Ke hl) (Ke hi))
theorem RSW.thereM (R:RSW c F st vs s g ρ m):∀b∈Z0 c.G F (c.env.locals::ρ),∃o,s.heap.get? b=some o:=by
 intro b hb;refine Or.elim (Z8 hb) (fun hb=>?_) fun hb=>?_
 ·exact R.there b hb
 refine Or.elim (Z8 hb) (fun hb=>?_) fun hb=>?_
 ·refine Zb (Xb hb) fun r hr zo1=>?_;subst zo1;refine YM (R.reg r hr) fun j o h j=>?_;exact ⟨o,h⟩
 ·refine Zb (Xb hb) fun q hq zo2=>?_;subst zo2;exact ⟨_,(R.hid q hq).1⟩
theorem RSW.regrow (R:RSW c F st vs s g ρ m) {g':Heap}(x:Sub g g') (k:Sub g' s.heap) (n:∀b∈Z0 c.G F (c.env.locals::ρ),g'.get? b=none):RSW c F st vs s g' ρ m where
 toHS:=R.toHS.regrow x k fun b hb=>n b (Kf _ hb)
 ns:=R.ns
 nl:=n _ (ZT (.head _))
 loc:=fun y a h=>by refine Zc (R.loc y a h) fun z v e0 e r=>?_;exact ⟨z,v,e0,e,AR.sub _ _ x (Ext.refl _) a v r⟩
 len:=R.len
 nd:=R.nd
 fr:=fun b hb=>⟨n b (ZT (.tail _ hb)),(R.fr b hb).2⟩
 own:=fun i o a h1 h2=>OAt.sub _ _ x (Ext.refl _) (fun j e=>e) o (R.own i o a h1 h2)
 stk:=ARs.sub _ _ x (Ext.refl _) _ _ R.stk
 cel:=R.cel
 apart:=R.apart
 pin:=R.pin
theorem RSW.onto (R:RSW c F st vs s g ρ m) {s':Shared}{g':Heap}(H:HS c.G F s' g') (x:Sub g g') (n:∀b∈c.env.locals::ρ,g'.get? b=none) (k:∀b∈c.env.locals::ρ,∀o,s.heap.get? b=some o→s'.heap.get? b=some o):RSW c F st vs s' g' ρ m where
 toHS:=H
 ns:=by refine ZZ R.ns fun o es ep h r=>?_;exact ⟨o,es,ep,k _ (.head _) _ h,r⟩
 nl:=n _ (.head _)
 loc:=fun y a h=>by refine Zc (R.loc y a h) fun z v e0 e r=>?_;exact ⟨z,v,e0,e,AR.sub _ _ x (Ext.refl _) a v r⟩
 len:=R.len
 nd:=R.nd
 fr:=fun b hb=>⟨n b (.tail _ hb),(R.fr b hb).2⟩
 own:=fun i o a h1 h2=>OAt.sub _ _ x (Ext.refl _) (k a (.tail _ (Kj h2))) o (R.own i o a h1 h2)
 stk:=ARs.sub _ _ x (Ext.refl _) _ _ R.stk
 cel:=R.cel
 apart:=R.apart
 pin:=R.pin
theorem RSW.grow (R:RSW c F st vs s g ρ m) {s':Shared}(x:Sub s.heap s'.heap) (hg:∀(i:Nat) y,F.gens[i]?=some y→s'.gens[i]?=some y) (hb:AllBare s'.gens) (ho:s'.os=s.os):RSW c F st vs s' g ρ m :=
 R.onto (R.toHS.grow x hg hb ho) (Sub.refl _) (fun b hb=>R.nomut b (ZT hb)) fun b j o e=>x b o e
theorem RSW.canon (R:RSW c F st vs s g ρ m):RSW c F st vs s (W.hideAll s.heap (Z0 c.G F (c.env.locals::ρ))) ρ m :=
 R.regrow (fun b o e=>W.hideAll_get _ (R.keep b o e) fun hb=>by rw [R.nomut b hb] at e;exact Zo e) (fun j j e=>W.of_hideAll _ e) fun j hb=>W.hideAll_none _ hb
theorem RSW.tok (R:RSW c F st vs s g ρ m) (t:Nat):RSW c F st vs {s with toks:=t} g ρ m:=R.grow (Sub.refl _) R.gens R.bare rfl
theorem RSW.alloc (R:RSW c F st vs s g ρ m) (o:Obj) (t:Nat):RSW c F st vs {s with heap:=s.heap.push o,toks:=t} g ρ m:=R.grow (Sub.push _ _) R.gens R.bare rfl
theorem RSW.stack (R:RSW c F st vs s g ρ m) {k:List A}{us:List Value}(h:ARs c.p c.w g ρ k us):RSW c F ⟨st.loc,st.own,k⟩ us s g ρ m :=
 {toHS:=R.toHS,ns:=R.ns,nl:=R.nl,loc:=R.loc,len:=R.len,nd:=R.nd,fr:=R.fr,own:=R.own,stk:=h,cel:=R.cel,apart:=R.apart,pin:=R.pin}
theorem RSW.push (R:RSW c F st vs s g ρ m) {a:A}{v:Value}(h:AR c.p c.w g ρ a v):RSW c F ⟨st.loc,st.own,a::st.stk⟩ (v::vs) s g ρ m:=R.stack ⟨v,vs,rfl,h,R.stk⟩
theorem RSW.locs (R:RSW c F st vs s g ρ m) {l:List (Nat×A)}(h:∀x a,ZD x l=some a→ZD x st.loc=some a):RSW c F ⟨l,st.own,st.stk⟩ vs s g ρ m :=
 {toHS:=R.toHS,ns:=R.ns,nl:=R.nl,loc:=fun x a q=>R.loc x a (h _ _ q),len:=R.len,nd:=R.nd,fr:=R.fr,own:=R.own,stk:=R.stk,cel:=R.cel,apart:=R.apart,pin:=R.pin}
theorem Y0 {α:Type}{l:List α}(h:l.Nodup) {i j:Nat}(hi:i<l.length) (hj:j<l.length) (e:l[i]=l[j]):i=j:=by
 have P:=List.pairwise_iff_getElem.mp h;rcases Nat.lt_trichotomy i j with q | q | q
 ·exact absurd e (P i j hi hj q)
 ·exact q
 ·exact absurd e.symm (P j i hj hi q)
theorem RSW.setLocal (R:RSW c F st vs s g ρ m) {x:Str}{i:Nat}{a:A}{v:Value}{h':Heap}(hi:c.tab[i]?=some x) (hv:AR c.p c.w g ρ a v) (hn:h'.Ns c.env.locals (fun y=>if y=x then some v else m y)) (hs:Heap.SameBut c.env.locals s.heap h') :
 RSW c F ⟨(i,a)::st.loc,st.own,st.stk⟩ vs {s with heap:=h',toks:=s.toks+1} g ρ (fun y=>if y=x then some v else m y) where
 toHS:=R.toHS.at_ (fun b o hb e=>(hs.2 b hb).trans e) R.nl (R.apart _ (.head _))
 ns:=hn
 nl:=R.nl
 loc:=fun y b q=>by
  unfold ZD at q;by_cases hy:i=y
  ·simp only [hy,if_true] at q;obtain rfl:=Kc q;exact ⟨x,v,hy▸hi,if_pos rfl,hv⟩
  ·simp only [hy,if_false] at q;refine Zc (R.loc y b q) fun z u e0 e1 e2=>?_;refine ⟨z,u,e0,?_,e2⟩;have:z≠x:=fun e=>by
    subst e;obtain ⟨l1,w1⟩:=ZI hi;obtain ⟨l2,w2⟩:=ZI e0;exact hy (Y0 c.tnd l1 l2 (w1.trans w2.symm))
   rw [if_neg this];exact e1
 len:=R.len
 nd:=R.nd
 fr:=R.fr
 own:=fun i o b h1 h2=>OAt.sub _ _ (Sub.refl _) (Ext.refl _) (fun j e=>(hs.2 b (R.fr b (Kj h2)).2).trans e) o (R.own i o b h1 h2)
 stk:=R.stk
 cel:=R.cel
 apart:=R.apart
 pin:=R.pin
theorem RSW.setOwn (R:RSW c F st vs s g ρ m) {i:Nat}{a:Addr}{o':O}{h':Heap}{t:Nat}(hi:i<st.own.length) (ha:ρ[i]?=some a) (hs:∀b o,b≠a→s.heap.get? b=some o→h'.get? b=some o) (ho:OAt c.p c.w g ρ h' o' a) :
 RSW c F ⟨st.loc,st.own.set i o',st.stk⟩ vs {s with heap:=h',toks:=t} g ρ m where
 toHS:=R.toHS.at_ hs (R.fr a (Kj ha)).1 (R.apart _ (.tail _ (Kj ha)))
 ns:=by refine ZZ R.ns fun o es ep h r=>?_;exact ⟨o,es,ep,hs _ _ (Ne.symm (R.fr a (Kj ha)).2) h,r⟩
 nl:=R.nl
 loc:=R.loc
 len:=by rw [List.length_set];exact R.len
 nd:=R.nd
 fr:=R.fr
 own:=fun j o b h1 h2=>by
  by_cases hj:i=j
  ·subst hj;have:b=a:=Kc (h2.symm.trans ha);subst this;rw [List.getElem?_set_self hi] at h1;obtain rfl:=Kc h1;exact ho
  ·rw [List.getElem?_set_ne hj] at h1;refine OAt.sub _ _ (Sub.refl _) (Ext.refl _) (fun ob e=>hs b ob (fun q=>?_) e) o (R.own j o b h1 h2);subst q;obtain ⟨l1,e1⟩:=ZI ha;obtain ⟨l2,e2⟩:=ZI h2;exact hj (Y0 R.nd l1 l2 (e1.trans e2.symm))
 stk:=R.stk
 cel:=R.cel
 apart:=R.apart
 pin:=R.pin
theorem RSW.newOwn (R:RSW c F st vs s g ρ m) {a:Addr}{o':O}(hg:g.get? a=none) (hn:a∉Z0 c.G F (c.env.locals::ρ)) (ho:OAt c.p c.w g (ρ++[a]) s.heap o' a) :
 RSW c F ⟨st.loc,st.own++[o'],st.stk⟩ vs s g (ρ++[a]) m:=by
 have ex:Ext ρ (ρ++[a]):=fun i b e=>by
  obtain ⟨l,j⟩:=ZI e;rw [Kl l];exact e
 have aL:a≠c.env.locals:=fun q=>hn (ZT (q▸.head _));have aρ:a∉ρ:=fun q=>hn (ZT (.tail _ q))
 exact {
  toHS:=R.toHS
  ns:=R.ns
  nl:=R.nl
  loc:=fun y b h=>by refine Zc (R.loc y b h) fun z v e0 e r=>?_;exact ⟨z,v,e0,e,AR.sub _ _ (Sub.refl _) ex b v r⟩
  len:=by simp [R.len]
  nd:=List.nodup_append.mpr ⟨R.nd,by simp,fun x hx y hy=>by simp at hy;subst hy;exact fun q=>aρ (q▸hx)⟩
  fr:=fun b hb=>by
   refine Or.elim (Z8 hb) (fun hb=>?_) fun hb=>?_
   ·exact R.fr b hb
   ·simp at hb;subst hb;exact ⟨hg,aL⟩
  own:=fun i o b h1 h2=>by
   by_cases hi:i<st.own.length
   ·rw [Kl hi] at h1;rw [Kl (R.len▸hi)] at h2;exact OAt.sub _ _ (Sub.refl _) ex (fun j e=>e) o (R.own i o b h1 h2)
   ·have hi':st.own.length≤i:=Nat.le_of_not_lt hi;rw [Km hi'] at h1;rw [Km (R.len▸hi'),R.len] at h2;have z:i - st.own.length=0:=by
     induction hz:i - st.own.length using Nat.casesOn with
     | zero=>rfl
     | succ k=>rw [hz] at h1;simp at h1
    rw [z] at h1 h2;simp at h1 h2;subst h1 h2;exact ho
  stk:=ARs.sub _ _ (Sub.refl _) ex _ _ R.stk
  cel:=fun x i h=>by refine Zb (R.cel x i h) fun b e r=>?_;exact ⟨b,ex _ _ e,r⟩
  apart:=fun b hb=>by
   rcases ZQ hb with rfl | hb
   ·exact R.apart _ (.head _)
   refine Or.elim (Z8 hb) (fun hb=>?_) fun hb=>?_
   ·exact R.apart _ (.tail _ hb)
   ·simp at hb;subst hb;exact ⟨fun r hr q=>hn (q▸Ui hr),fun z hz q=>hn (q▸XS hz)⟩
  pin:=fun q hq=>ex _ _ (R.pin q hq)}
end
end
section
open PySem.W
noncomputable abbrev stepF:=@PySem.W.Fast.tw10156331382660048174
noncomputable abbrev denF:=@PySem.W.Fast.tw11892475500146522536
noncomputable abbrev tabF:=PySem.W.Fast.tw14364793385576792824
noncomputable abbrev okF:=@PySem.W.Fast.tw6613529449190102663
noncomputable abbrev seenF:=@PySem.W.Fast.tw4187177175401517315
noncomputable abbrev modsF:=@PySem.W.Fast.tw5923862056798008813
theorem ZjF:@stepT=@stepF:=PySem.W.Fast.te10156331382660048174
theorem Zmo:@denote=@denF:=PySem.W.Fast.te11892475500146522536
theorem ZkG:treeTable=tabF:=PySem.W.Fast.te14364793385576792824
theorem ZiF:@stepOk=@okF:=PySem.W.Fast.te6613529449190102663
theorem Zjr:@openSeen=@seenF:=PySem.W.Fast.te4187177175401517315
theorem Zix:@importedModules=@modsF:=PySem.W.Fast.te5923862056798008813
noncomputable def Ue (p:Program) (w:World) (n₀:Nat) (ann:Option Value):Nat→SharedT→Thread→Option SharedT
 | 0,_,_=>none
 | n+1,s,t=>match through t with
  | true=>some s
  | false=>match okF n₀ ann t with
   | false=>none
   | true=>match stepF (denF tabF) p w s t with
    | some (s',t')=>Ue p w n₀ ann n s' t'
    | none=>none
theorem ZcK {p:Program}{w:World}{n₀:Nat}{ann:Option Value}{n:Nat}{s s':SharedT}{t:Thread}(h:Ue p w n₀ ann n s t=some s'):topRun treeTable p w n₀ ann n s.abs t=some s'.abs:=by
 induction n generalizing s t with
 | zero=>exact Zo h
 | succ n ih =>
  unfold Ue at h;unfold topRun;induction ht:through t with
  | true=>rw [ht] at h;exact Kc h▸rfl
  | false =>
   rw [ht] at h;induction hk:stepOk n₀ ann t with
   | false=>rw [←ZiF,hk] at h;exact Zo h
   | true =>
    rw [←ZiF,hk,←ZjF,←Zmo,←ZkG] at h;induction hs:stepT (denote treeTable) p w s t with
    | none=>rw [hs] at h;exact Zo h
    | some r=>obtain ⟨s₂,t₂⟩:=r;rw [hs] at h;rw [stepT_spec hs];exact ih h
noncomputable def ZqD (P:Params):BT:=(.node (boot_o_0 P) (.node (boot_o_1 P) (.node (boot_o_3 P) (.node (boot_o_7 P) .nil .nil) .nil) (.node (boot_o_5 P) (.node (boot_o_9 P) .nil .nil) .nil)) (.node (boot_o_2 P) (.node (boot_o_4 P) (.node (boot_o_8 P) .nil .nil) .nil) (.node (boot_o_6 P) (.node (boot_o_10 P) .nil .nil) .nil)))
noncomputable def ZhJ (w:World) (os:OsState):SharedT:=⟨ZqD w.params,11,(boot_heap w.params).life,#[],boot_drawn,boot_toks,os⟩
theorem Zhk (w:World) (os:OsState):(ZhJ w os).abs=⟨boot_heap w.params,#[],boot_drawn,boot_toks,os⟩:=by kd_p
noncomputable def Zez (p q:Program) (loose:List Str) (Xt:Shared→Bool) (w:World) (s:Shared) :=
 (staticsOk (modsF p.main.body) (boot_heap w.params) s.heap&&namesBound p s.heap&&gensDone s&&laidKept (boot_heap w.params) s.heap,seenF q loose (modsF p.main.body) Xt true s)
theorem Zdo {p q:Program}{loose:List Str}{Xt:Shared→Bool}{α:Type}{Yf:Shared→α}{Ya:World→α}{N M:Nat}{ann:Option Value}
 (e:opening p=plainProg p.main.scope.names) (hN:Nat.ble 600 N=true) (hM:Nat.ble M N=true) (f:∀s,fenceModules? p s=some s)
 (size:∀w:World,((boot_heap w.params).isNs mainGlobals,(boot_heap w.params).objs.size,(boot_heap w.params).nsMap mainGlobals "__annotations__")=(true,11,ann))
 (shot:∀(w:World) (os:OsState),(Ue p w 11 ann M (ZhJ w os) (topStub p)).map (fun s=>(Zez p q loose Xt w s.abs,Yf s.abs))=some ((true,openGood q loose),Ya w)):LeftO p q loose Xt Yf Ya N true:=fun w=>by
 refine Ka fun zn0=>?_;refine Zb (Z9 (boot_open e hN f w)) fun zo2 e1 e2=>?_;obtain ⟨h,gs,d,k,os⟩:=zo2;obtain ⟨rfl,rfl,rfl,rfl⟩:h=boot_heap w.params∧gs=#[]∧d=boot_drawn∧k=boot_toks:=by simpa using e2
 obtain ⟨z1,z2,z3⟩:_∧_∧_:=by simpa only [Prod.mk.injEq] using size w
 refine Zb (Z9 (shot w os)) fun s r l=>?_;refine zn0 ?_;have r:=topRun_mono (N - M) _ _ _ _ (ZcK r);rw [show M+(N - M)=N by have:=Nat.le_of_ble_eq_true hM;lia,Zhk] at r;unfold Zez at l;rw [←Zix,←Zjr] at l;simp only [Prod.mk.injEq] at l;refine oza l fun zo3 l3=>?_;refine oza zo3 fun l1 l2=>?_;unfold openEnds topFrom;rw [e1];show Option.map _ (match (boot_heap w.params).isNs mainGlobals&&(#[]:Array GenState).size==0 with | true=>_ | false=>_)=_;rw [z1,z2,z3,r];show Option.map _ (match staticsOk (importedModules p.main.body) (boot_heap w.params) s.abs.heap&&namesBound p s.abs.heap&&gensDone s.abs&&laidKept (boot_heap w.params) s.abs.heap with | true=>some s.abs | false=>none)=_;rw [l1];show some (openSeen q loose (importedModules p.main.body) Xt true s.abs,Yf s.abs)=_;rw [l2,l3]
end
section
open PySem.W
noncomputable def fAt (p:Program) (i:Nat):Stmt:=match p.main.body[i]? with | some s=>s | none=>.Pass default
noncomputable def mAt (p:Program) (i j:Nat):Stmt:=match fAt p i with
 | .ClassDef _ _ _ b _ _ _ _ _ _ _=>(match b[j]? with | some s=>s | none=>.Pass default)
 | _=>.Pass default
noncomputable def ZoL:Arguments:=⟨[],[],none,[],[],none,[]⟩
noncomputable def Zf9:Stmt→Arguments | .FunctionDef _ a _ _ _ _ _ _ _ _=>a | _=>ZoL
noncomputable def Zfq:Stmt→List Stmt | .FunctionDef _ _ b _ _ _ _ _ _ _=>b | _=>[]
noncomputable def Zcy:Stmt→Scope | .FunctionDef _ _ _ _ _ _ s _ _ _=>s | _=>{kind:=.function,names:=[],isGenerator:=false,isCoroutine:=false,more:=[]}
noncomputable def vS (x:String) (t:Nat):Value:=.str (.ofString x) t
noncomputable def vI (i:Int):Value:=.int i 0
noncomputable def vR (a:Addr):Value:=.ref a
noncomputable def vN:Value:=.none
noncomputable def eK (P:Params) (x:String) (t:Nat) (v:Value):DictEntry:={hash:=PyData.keyHash P (.ofString x),key:=.str (.ofString x) t,val:=v}
noncomputable def oC (vs:Array Value):Obj:={cls:=.type "code",data:=.fields vs}
noncomputable def oD (es:Array DictEntry) (n:Nat):Obj:={cls:=.type "dict",data:=.dict es n}
noncomputable def oF (s:Stmt) (n q:String) (cl:List (Str×Addr)) (d:Value) (m:String) (t:Nat) (an:Option Addr) (c:Addr):Obj :=
 {cls:=.type "function",data:=.func {name:=.ofString n,qualname:=.ofString q,params:=Zf9 s,body:=.stmts (Zfq s),scope:=Zcy s,globals:=3,closure:=cl,defaults:=d,kwdefaults:=.none,pyModule:=.str (.ofString m) t,annotations:=an,code:=.ref c}}
noncomputable def K02 (p:Program) (P:Params):W.Frag:=[
 (2,{cls:=vN,data:=Data.dict #[]}),
 (3,oD #[eK P "__name__" 165 (vS "law_jk0046_02" 715),eK P "__doc__" 166 vN,eK P "__package__" 167 vN,eK P "__loader__" 168 (Value.builtin "__main__.__loader__#opaque"),eK P "__spec__" 169 vN,eK P "__annotations__" 170 (vR 6),eK P "__builtins__" 171 (vR 4),eK P "__file__" 173 (vS "/claim/cut.py" 172),eK P "__cached__" 174 vN,eK P "_wall" 193 (vR 21),eK P "Key" 282 (vR 70),eK P "TOP_LEVEL_ROLE_NAMES" 287 (vR 75),eK P "_fnmatch_chunks" 299 (vR 82),eK P "_fnmatch_class" 305 (vR 87),eK P "_fnmatchcase" 321 (vR 94),eK P "Role" 393 (vR 136),eK P "DelegatedRole" 510 (vR 201),eK P "_hex" 519 (vR 210),eK P "SuccinctRoles" 622 (vR 275),eK P "Delegations" 714 (vR 324),eK P "_law_hex" 718 (vS "0123456789abcdef" 717),eK P "_law_signs" 724 (vR 335),eK P "_law_classes" 730 (vR 342),eK P "_law_other_case" 736 (vR 349),eK P "_law_digest" 746 (vR 356),eK P "_law_pattern" 752 (vR 361),eK P "_law_wording" 758 (vR 366),eK P "_law_filled" 769 (vR 373),eK P "_law_path" 779 (vR 380),eK P "_law_one" 787 (vR 387),eK P "_law_meets" 793 (vR 392),eK P "_law_fits" 799 (vR 397),eK P "law" 805 (vR 402)] 33),
 (20,oC #[vS "_wall" 187,vS "_wall" 188,vS "/claim/cut.py" 189,vI 1,vI 1,vI 0,vI 0,vI 3,vR 15,Value.bool true,vI 181,vR 16,vN,vR 17,vR 18,vR 19,vI 191,vI 1,vS "/claim/cut.py" 192]),
 (21,oF (fAt p 0) "_wall" "_wall" [] (vN) "__main__" 164 none 20),
 (29,{cls:=Value.type "tuple",data:=Data.seq #[vN]}),
 (35,oC #[vS "__init__" 208,vS "Key.__init__" 209,vS "/claim/cut.py" 210,vI 7,vI 6,vI 0,vI 0,vI 3,vR 30,Value.bool true,vI 181,vR 31,vN,vR 32,vR 33,vR 34,vI 217,vI 7,vS "/claim/cut.py" 218]),
 (36,oF (mAt p 2 0) "__init__" "Key.__init__" [] (vR 29) "tuf.api._payload" 194 none 35),
 (42,oC #[vS "__eq__" 220,vS "Key.__eq__" 221,vS "/claim/cut.py" 222,vI 16,vI 2,vI 0,vI 0,vI 3,vR 37,Value.bool true,vI 181,vR 38,vN,vR 39,vR 40,vR 41,vI 225,vI 16,vS "/claim/cut.py" 226]),
 (43,oF (mAt p 2 1) "__eq__" "Key.__eq__" [] (vN) "tuf.api._payload" 194 none 42),
 (49,oC #[vS "from_dict" 228,vS "Key.from_dict" 229,vS "/claim/cut.py" 230,vI 21,vI 3,vI 0,vI 0,vI 3,vR 44,Value.bool true,vI 181,vR 45,vN,vR 46,vR 47,vR 48,vI 237,vI 21,vS "/claim/cut.py" 238]),
 (50,oF (mAt p 2 2) "from_dict" "Key.from_dict" [] (vN) "tuf.api._payload" 194 (some 53) 49),
 (51,oD #[eK P "__module__" 240 (vS "tuf.api._payload" 194),eK P "__name__" 243 (vS "from_dict" 242),eK P "__qualname__" 246 (vS "Key.from_dict" 245),eK P "__doc__" 248 vN,eK P "__annotations__" 250 (vR 53)] 5),
 (52,{cls:=Value.type "classmethod",dict:=some 51,data:=Data.fields #[vR 50,Value.bool false]}),
 (53,{cls:=Value.type "dict",data:=Data.dict #[]}),
 (59,oC #[vS "to_dict" 252,vS "Key.to_dict" 253,vS "/claim/cut.py" 254,vI 28,vI 1,vI 0,vI 0,vI 3,vR 54,Value.bool true,vI 181,vR 55,vN,vR 56,vR 57,vR 58,vI 257,vI 28,vS "/claim/cut.py" 258]),
 (60,oF (mAt p 2 3) "to_dict" "Key.to_dict" [] (vN) "tuf.api._payload" 194 none 59),
 (66,oC #[vS "verify_signature" 260,vS "Key.verify_signature" 261,vS "/claim/cut.py" 262,vI 33,vI 3,vI 0,vI 0,vI 3,vR 61,Value.bool true,vI 181,vR 62,vN,vR 63,vR 64,vR 65,vI 266,vI 33,vS "/claim/cut.py" 267]),
 (67,oF (mAt p 2 4) "verify_signature" "Key.verify_signature" [] (vN) "tuf.api._payload" 194 none 66),
 (69,oD #[eK P "__module__" 203 (vS "tuf.api._payload" 194),eK P "__firstlineno__" 207 (Value.int 5 206),eK P "__init__" 219 (vR 36),eK P "__eq__" 227 (vR 43),eK P "from_dict" 251 (vR 52),eK P "to_dict" 259 (vR 60),eK P "verify_signature" 268 (vR 67),eK P "__static_attributes__" 274 (vR 68),eK P "__dict__" 276 (vR 71),eK P "__weakref__" 278 (vR 72),eK P "__doc__" 279 vN,eK P "__hash__" 280 vN] 5),
 (70,{cls:=Value.type "type",data:=Data.cls {name:=Str.ofString "Key",bases:=[Value.type "object"],mro:=[vR 70,Value.type "object"],ns:=69,qualname:=Str.ofString "Key"},slots:=#[none,none,some (vS "Key" 196),some (vS "Key" 204),some (Value.builtin "object.__new__"),some (Value.bool true)]}),
 (75,{cls:=Value.type "tuple",data:=Data.seq #[vS "root" 283,vS "timestamp" 284,vS "snapshot" 285,vS "targets" 286]}),
 (81,oC #[vS "_fnmatch_chunks" 288,vS "_fnmatch_chunks" 289,vS "/claim/cut.py" 290,vI 36,vI 1,vI 0,vI 0,vI 3,vR 76,Value.bool true,vI 181,vR 77,vN,vR 78,vR 79,vR 80,vI 297,vI 36,vS "/claim/cut.py" 298]),
 (82,oF (fAt p 4) "_fnmatch_chunks" "_fnmatch_chunks" [] (vN) "tuf.api._payload" 194 none 81),
 (86,oC #[vS "_fnmatch_class" 300,vS "_fnmatch_class" 301,vS "/claim/cut.py" 302,vI 58,vI 2,vI 0,vI 0,vI 3,vR 83,Value.bool true,vI 181,vR 84,vN,vN,vN,vR 85,vI 303,vI 58,vS "/claim/cut.py" 304]),
 (87,oF (fAt p 5) "_fnmatch_class" "_fnmatch_class" [] (vN) "tuf.api._payload" 194 none 86),
 (93,oC #[vS "_fnmatchcase" 306,vS "_fnmatchcase" 307,vS "/claim/cut.py" 308,vI 80,vI 2,vI 0,vI 0,vI 3,vR 88,Value.bool true,vI 181,vR 89,vN,vR 90,vR 91,vR 92,vI 319,vI 80,vS "/claim/cut.py" 320]),
 (94,oF (fAt p 6) "_fnmatchcase" "_fnmatchcase" [] (vN) "tuf.api._payload" 194 none 93),
 (102,{cls:=Value.type "tuple",data:=Data.seq #[vN]}),
 (108,oC #[vS "__init__" 334,vS "Role.__init__" 335,vS "/claim/cut.py" 336,vI 120,vI 4,vI 0,vI 0,vI 3,vR 103,Value.bool true,vI 181,vR 104,vN,vR 105,vR 106,vR 107,vI 341,vI 120,vS "/claim/cut.py" 342]),
 (109,oF (mAt p 7 0) "__init__" "Role.__init__" [] (vR 102) "tuf.api._payload" 194 none 108),
 (115,oC #[vS "__eq__" 344,vS "Role.__eq__" 345,vS "/claim/cut.py" 346,vI 131,vI 2,vI 0,vI 0,vI 3,vR 110,Value.bool true,vI 181,vR 111,vN,vR 112,vR 113,vR 114,vI 349,vI 131,vS "/claim/cut.py" 350]),
 (116,oF (mAt p 7 1) "__eq__" "Role.__eq__" [] (vN) "tuf.api._payload" 194 none 115),
 (122,oC #[vS "from_dict" 352,vS "Role.from_dict" 353,vS "/claim/cut.py" 354,vI 136,vI 2,vI 0,vI 0,vI 3,vR 117,Value.bool true,vI 181,vR 118,vN,vR 119,vR 120,vR 121,vI 359,vI 136,vS "/claim/cut.py" 360]),
 (123,oF (mAt p 7 2) "from_dict" "Role.from_dict" [] (vN) "tuf.api._payload" 194 (some 126) 122),
 (124,oD #[eK P "__module__" 362 (vS "tuf.api._payload" 194),eK P "__name__" 365 (vS "from_dict" 364),eK P "__qualname__" 368 (vS "Role.from_dict" 367),eK P "__doc__" 370 vN,eK P "__annotations__" 372 (vR 126)] 5),
 (125,{cls:=Value.type "classmethod",dict:=some 124,data:=Data.fields #[vR 123,Value.bool false]}),
 (126,{cls:=Value.type "dict",data:=Data.dict #[]}),
 (132,oC #[vS "to_dict" 374,vS "Role.to_dict" 375,vS "/claim/cut.py" 376,vI 142,vI 1,vI 0,vI 0,vI 3,vR 127,Value.bool true,vI 181,vR 128,vN,vR 129,vR 130,vR 131,vI 379,vI 142,vS "/claim/cut.py" 380]),
 (133,oF (mAt p 7 3) "to_dict" "Role.to_dict" [] (vN) "tuf.api._payload" 194 none 132),
 (135,oD #[eK P "__module__" 329 (vS "tuf.api._payload" 194),eK P "__firstlineno__" 333 (Value.int 118 332),eK P "__init__" 343 (vR 109),eK P "__eq__" 351 (vR 116),eK P "from_dict" 373 (vR 125),eK P "to_dict" 381 (vR 133),eK P "__static_attributes__" 385 (vR 134),eK P "__dict__" 387 (vR 137),eK P "__weakref__" 389 (vR 138),eK P "__doc__" 390 vN,eK P "__hash__" 391 vN] 5),
 (136,{cls:=Value.type "type",data:=Data.cls {name:=Str.ofString "Role",bases:=[Value.type "object"],mro:=[vR 136,Value.type "object"],ns:=135,qualname:=Str.ofString "Role",subclasses:=[vR 201,vR 275]},slots:=#[none,none,some (vS "Role" 322),some (vS "Role" 330),some (Value.builtin "object.__new__"),some (Value.bool true)]}),
 (144,{cls:=Value.type "cell",data:=Data.cell (some (vR 201))}),
 (149,{cls:=Value.type "tuple",data:=Data.seq #[vN,vN,vN]}),
 (156,oC #[vS "__init__" 406,vS "DelegatedRole.__init__" 407,vS "/claim/cut.py" 408,vI 148,vI 8,vI 0,vI 0,vI 3,vR 151,Value.bool true,vI 181,vR 152,vN,vR 153,vR 154,vR 155,vI 419,vI 148,vS "/claim/cut.py" 420]),
 (157,{cls:=Value.type "function",data:=Data.func {name:=Str.ofString "__init__",qualname:=Str.ofString "DelegatedRole.__init__",params:=Zf9 (mAt p 8 0),body:=FuncBody.stmts (Zfq (mAt p 8 0)),scope:=Zcy (mAt p 8 0),globals:=3,closure:=[(Str.ofString "__class__",144)],defaults:=vR 149,kwdefaults:=vN,pyModule:=vS "tuf.api._payload" 194,code:=vR 156,closureTuple:=vR 150}}),
 (163,oC #[vS "__eq__" 422,vS "DelegatedRole.__eq__" 423,vS "/claim/cut.py" 424,vI 162,vI 2,vI 0,vI 0,vI 3,vR 158,Value.bool true,vI 181,vR 159,vN,vR 160,vR 161,vR 162,vI 427,vI 162,vS "/claim/cut.py" 428]),
 (164,oF (mAt p 8 1) "__eq__" "DelegatedRole.__eq__" [] (vN) "tuf.api._payload" 194 none 163),
 (170,oC #[vS "from_dict" 430,vS "DelegatedRole.from_dict" 431,vS "/claim/cut.py" 432,vI 167,vI 2,vI 0,vI 0,vI 3,vR 165,Value.bool true,vI 181,vR 166,vN,vR 167,vR 168,vR 169,vI 441,vI 167,vS "/claim/cut.py" 442]),
 (171,oF (mAt p 8 2) "from_dict" "DelegatedRole.from_dict" [] (vN) "tuf.api._payload" 194 (some 174) 170),
 (172,oD #[eK P "__module__" 444 (vS "tuf.api._payload" 194),eK P "__name__" 447 (vS "from_dict" 446),eK P "__qualname__" 450 (vS "DelegatedRole.from_dict" 449),eK P "__doc__" 452 vN,eK P "__annotations__" 454 (vR 174)] 5),
 (173,{cls:=Value.type "classmethod",dict:=some 172,data:=Data.fields #[vR 171,Value.bool false]}),
 (174,{cls:=Value.type "dict",data:=Data.dict #[]}),
 (180,oC #[vS "to_dict" 456,vS "DelegatedRole.to_dict" 457,vS "/claim/cut.py" 458,vI 177,vI 1,vI 0,vI 0,vI 3,vR 175,Value.bool true,vI 181,vR 176,vN,vR 177,vR 178,vR 179,vI 462,vI 177,vS "/claim/cut.py" 463]),
 (181,oF (mAt p 8 3) "to_dict" "DelegatedRole.to_dict" [] (vN) "tuf.api._payload" 194 none 180),
 (187,oC #[vS "_is_target_in_pathpattern" 465,vS "DelegatedRole._is_target_in_pathpattern" 466,vS "/claim/cut.py" 467,vI 187,vI 2,vI 0,vI 0,vI 3,vR 182,Value.bool true,vI 181,vR 183,vN,vR 184,vR 185,vR 186,vI 474,vI 187,vS "/claim/cut.py" 475]),
 (188,oF (mAt p 8 4) "_is_target_in_pathpattern" "DelegatedRole._is_target_in_pathpattern" [] (vN) "tuf.api._payload" 194 (some 191) 187),
 (189,oD #[eK P "__module__" 477 (vS "tuf.api._payload" 194),eK P "__name__" 480 (vS "_is_target_in_pathpattern" 479),eK P "__qualname__" 483 (vS "DelegatedRole._is_target_in_pathpattern" 482),eK P "__doc__" 485 vN,eK P "__annotations__" 487 (vR 191)] 5),
 (190,{cls:=Value.type "staticmethod",dict:=some 189,data:=Data.fields #[vR 188,Value.bool false]}),
 (191,{cls:=Value.type "dict",data:=Data.dict #[]}),
 (197,oC #[vS "is_delegated_path" 489,vS "DelegatedRole.is_delegated_path" 490,vS "/claim/cut.py" 491,vI 198,vI 3,vI 0,vI 0,vI 3,vR 192,Value.bool true,vI 181,vR 193,vN,vR 194,vR 195,vR 196,vI 498,vI 198,vS "/claim/cut.py" 499]),
 (198,oF (mAt p 8 5) "is_delegated_path" "DelegatedRole.is_delegated_path" [] (vN) "tuf.api._payload" 194 none 197),
 (200,oD #[eK P "__module__" 401 (vS "tuf.api._payload" 194),eK P "__firstlineno__" 405 (Value.int 146 404),eK P "__init__" 421 (vR 157),eK P "__eq__" 429 (vR 164),eK P "from_dict" 455 (vR 173),eK P "to_dict" 464 (vR 181),eK P "_is_target_in_pathpattern" 488 (vR 190),eK P "is_delegated_path" 500 (vR 198),eK P "__static_attributes__" 505 (vR 199),eK P "__doc__" 507 vN,eK P "__hash__" 508 vN] 4),
 (201,{cls:=Value.type "type",data:=Data.cls {name:=Str.ofString "DelegatedRole",bases:=[vR 136],mro:=[vR 201,vR 136,Value.type "object"],ns:=200,qualname:=Str.ofString "DelegatedRole"},slots:=#[some (vR 141),none,some (vS "DelegatedRole" 394),some (vS "DelegatedRole" 402),some (Value.builtin "object.__new__"),some (Value.bool true)]}),
 (209,oC #[vS "_hex" 511,vS "_hex" 512,vS "/claim/cut.py" 513,vI 209,vI 2,vI 0,vI 0,vI 3,vR 204,Value.bool true,vI 181,vR 205,vN,vR 206,vR 207,vR 208,vI 517,vI 209,vS "/claim/cut.py" 518]),
 (210,oF (fAt p 9) "_hex" "_hex" [] (vN) "tuf.api._payload" 194 none 209),
 (214,{cls:=Value.type "cell",data:=Data.cell (some (vR 275))}),
 (219,{cls:=Value.type "tuple",data:=Data.seq #[vN]}),
 (226,oC #[vS "__init__" 532,vS "SuccinctRoles.__init__" 533,vS "/claim/cut.py" 534,vI 217,vI 6,vI 0,vI 0,vI 3,vR 221,Value.bool true,vI 181,vR 222,vN,vR 223,vR 224,vR 225,vI 542,vI 217,vS "/claim/cut.py" 543]),
 (227,{cls:=Value.type "function",data:=Data.func {name:=Str.ofString "__init__",qualname:=Str.ofString "SuccinctRoles.__init__",params:=Zf9 (mAt p 10 0),body:=FuncBody.stmts (Zfq (mAt p 10 0)),scope:=Zcy (mAt p 10 0),globals:=3,closure:=[(Str.ofString "__class__",214)],defaults:=vR 219,kwdefaults:=vN,pyModule:=vS "tuf.api._payload" 194,code:=vR 226,closureTuple:=vR 220}}),
 (233,oC #[vS "__eq__" 545,vS "SuccinctRoles.__eq__" 546,vS "/claim/cut.py" 547,vI 228,vI 2,vI 0,vI 0,vI 3,vR 228,Value.bool true,vI 181,vR 229,vN,vR 230,vR 231,vR 232,vI 550,vI 228,vS "/claim/cut.py" 551]),
 (234,oF (mAt p 10 1) "__eq__" "SuccinctRoles.__eq__" [] (vN) "tuf.api._payload" 194 none 233),
 (240,oC #[vS "from_dict" 553,vS "SuccinctRoles.from_dict" 554,vS "/claim/cut.py" 555,vI 233,vI 2,vI 0,vI 0,vI 3,vR 235,Value.bool true,vI 181,vR 236,vN,vR 237,vR 238,vR 239,vI 562,vI 233,vS "/claim/cut.py" 563]),
 (241,oF (mAt p 10 2) "from_dict" "SuccinctRoles.from_dict" [] (vN) "tuf.api._payload" 194 (some 244) 240),
 (242,oD #[eK P "__module__" 565 (vS "tuf.api._payload" 194),eK P "__name__" 568 (vS "from_dict" 567),eK P "__qualname__" 571 (vS "SuccinctRoles.from_dict" 570),eK P "__doc__" 573 vN,eK P "__annotations__" 575 (vR 244)] 5),
 (243,{cls:=Value.type "classmethod",dict:=some 242,data:=Data.fields #[vR 241,Value.bool false]}),
 (244,{cls:=Value.type "dict",data:=Data.dict #[]}),
 (250,oC #[vS "to_dict" 577,vS "SuccinctRoles.to_dict" 578,vS "/claim/cut.py" 579,vI 241,vI 1,vI 0,vI 0,vI 3,vR 245,Value.bool true,vI 181,vR 246,vN,vR 247,vR 248,vR 249,vI 582,vI 241,vS "/claim/cut.py" 583]),
 (251,oF (mAt p 10 3) "to_dict" "SuccinctRoles.to_dict" [] (vN) "tuf.api._payload" 194 none 250),
 (257,oC #[vS "get_role_for_target" 585,vS "SuccinctRoles.get_role_for_target" 586,vS "/claim/cut.py" 587,vI 246,vI 3,vI 0,vI 0,vI 3,vR 252,Value.bool true,vI 181,vR 253,vN,vR 254,vR 255,vR 256,vI 595,vI 246,vS "/claim/cut.py" 596]),
 (258,oF (mAt p 10 4) "get_role_for_target" "SuccinctRoles.get_role_for_target" [] (vN) "tuf.api._payload" 194 none 257),
 (264,oC #[vS "get_roles" 598,vS "SuccinctRoles.get_roles" 599,vS "/claim/cut.py" 600,vI 253,vI 1,vI 0,vI 0,vI 3,vR 259,Value.bool true,vI 181,vR 260,vN,vR 261,vR 262,vR 263,vI 602,vI 253,vS "/claim/cut.py" 603]),
 (265,oF (mAt p 10 5) "get_roles" "SuccinctRoles.get_roles" [] (vN) "tuf.api._payload" 194 none 264),
 (271,oC #[vS "is_delegated_role" 605,vS "SuccinctRoles.is_delegated_role" 606,vS "/claim/cut.py" 607,vI 256,vI 2,vI 0,vI 0,vI 3,vR 266,Value.bool true,vI 181,vR 267,vN,vR 268,vR 269,vR 270,vI 610,vI 256,vS "/claim/cut.py" 611]),
 (272,oF (mAt p 10 6) "is_delegated_role" "SuccinctRoles.is_delegated_role" [] (vN) "tuf.api._payload" 194 none 271),
 (274,oD #[eK P "__module__" 527 (vS "tuf.api._payload" 194),eK P "__firstlineno__" 531 (Value.int 215 530),eK P "__init__" 544 (vR 227),eK P "__eq__" 552 (vR 234),eK P "from_dict" 576 (vR 243),eK P "to_dict" 584 (vR 251),eK P "get_role_for_target" 597 (vR 258),eK P "get_roles" 604 (vR 265),eK P "is_delegated_role" 612 (vR 272),eK P "__static_attributes__" 617 (vR 273),eK P "__doc__" 619 vN,eK P "__hash__" 620 vN] 4),
 (275,{cls:=Value.type "type",data:=Data.cls {name:=Str.ofString "SuccinctRoles",bases:=[vR 136],mro:=[vR 275,vR 136,Value.type "object"],ns:=274,qualname:=Str.ofString "SuccinctRoles"},slots:=#[some (vR 211),none,some (vS "SuccinctRoles" 520),some (vS "SuccinctRoles" 528),some (Value.builtin "object.__new__"),some (Value.bool true)]}),
 (285,{cls:=Value.type "tuple",data:=Data.seq #[vN,vN,vN]}),
 (291,oC #[vS "__init__" 635,vS "Delegations.__init__" 636,vS "/claim/cut.py" 637,vI 260,vI 5,vI 0,vI 0,vI 3,vR 286,Value.bool true,vI 181,vR 287,vN,vR 288,vR 289,vR 290,vI 644,vI 260,vS "/claim/cut.py" 645]),
 (292,oF (mAt p 11 0) "__init__" "Delegations.__init__" [] (vR 285) "tuf.api._payload" 194 none 291),
 (298,oC #[vS "__eq__" 647,vS "Delegations.__eq__" 648,vS "/claim/cut.py" 649,vI 274,vI 2,vI 0,vI 0,vI 3,vR 293,Value.bool true,vI 181,vR 294,vN,vR 295,vR 296,vR 297,vI 653,vI 274,vS "/claim/cut.py" 654]),
 (299,oF (mAt p 11 1) "__eq__" "Delegations.__eq__" [] (vN) "tuf.api._payload" 194 none 298),
 (305,oC #[vS "from_dict" 656,vS "Delegations.from_dict" 657,vS "/claim/cut.py" 658,vI 282,vI 2,vI 0,vI 0,vI 3,vR 300,Value.bool true,vI 181,vR 301,vN,vR 302,vR 303,vR 304,vI 671,vI 282,vS "/claim/cut.py" 672]),
 (306,oF (mAt p 11 2) "from_dict" "Delegations.from_dict" [] (vN) "tuf.api._payload" 194 (some 309) 305),
 (307,oD #[eK P "__module__" 674 (vS "tuf.api._payload" 194),eK P "__name__" 677 (vS "from_dict" 676),eK P "__qualname__" 680 (vS "Delegations.from_dict" 679),eK P "__doc__" 682 vN,eK P "__annotations__" 684 (vR 309)] 5),
 (308,{cls:=Value.type "classmethod",dict:=some 307,data:=Data.fields #[vR 306,Value.bool false]}),
 (309,{cls:=Value.type "dict",data:=Data.dict #[]}),
 (313,oC #[vS "to_dict" 686,vS "Delegations.to_dict" 687,vS "/claim/cut.py" 688,vI 303,vI 1,vI 0,vI 0,vI 3,vR 310,Value.bool true,vI 181,vR 311,vN,vN,vN,vR 312,vI 689,vI 303,vS "/claim/cut.py" 690]),
 (314,oF (mAt p 11 3) "to_dict" "Delegations.to_dict" [] (vN) "tuf.api._payload" 194 none 313),
 (320,oC #[vS "get_roles_for_target" 692,vS "Delegations.get_roles_for_target" 693,vS "/claim/cut.py" 694,vI 314,vI 3,vI 0,vI 0,vI 35,vR 315,Value.bool true,vI 181,vR 316,vN,vR 317,vR 318,vR 319,vI 699,vI 314,vS "/claim/cut.py" 700]),
 (321,oF (mAt p 11 4) "get_roles_for_target" "Delegations.get_roles_for_target" [] (vN) "tuf.api._payload" 194 none 320),
 (323,oD #[eK P "__module__" 630 (vS "tuf.api._payload" 194),eK P "__firstlineno__" 634 (Value.int 258 633),eK P "__init__" 646 (vR 292),eK P "__eq__" 655 (vR 299),eK P "from_dict" 685 (vR 308),eK P "to_dict" 691 (vR 314),eK P "get_roles_for_target" 701 (vR 321),eK P "__static_attributes__" 706 (vR 322),eK P "__dict__" 708 (vR 325),eK P "__weakref__" 710 (vR 326),eK P "__doc__" 711 vN,eK P "__hash__" 712 vN] 5),
 (324,{cls:=Value.type "type",data:=Data.cls {name:=Str.ofString "Delegations",bases:=[Value.type "object"],mro:=[vR 324,Value.type "object"],ns:=323,qualname:=Str.ofString "Delegations"},slots:=#[none,none,some (vS "Delegations" 623),some (vS "Delegations" 631),some (Value.builtin "object.__new__"),some (Value.bool true)]}),
 (334,oC #[vS "_law_signs" 719,vS "_law_signs" 720,vS "/claim/cut.py" 721,vI 323,vI 0,vI 0,vI 0,vI 3,vR 329,Value.bool true,vI 181,vR 330,vN,vR 331,vR 332,vR 333,vI 722,vI 323,vS "/claim/cut.py" 723]),
 (335,oF (fAt p 14) "_law_signs" "_law_signs" [] (vN) "law_jk0046_02" 715 none 334),
 (341,oC #[vS "_law_classes" 725,vS "_law_classes" 726,vS "/claim/cut.py" 727,vI 325,vI 0,vI 0,vI 0,vI 3,vR 336,Value.bool true,vI 181,vR 337,vN,vR 338,vR 339,vR 340,vI 728,vI 325,vS "/claim/cut.py" 729]),
 (342,oF (fAt p 15) "_law_classes" "_law_classes" [] (vN) "law_jk0046_02" 715 none 341),
 (348,oC #[vS "_law_other_case" 731,vS "_law_other_case" 732,vS "/claim/cut.py" 733,vI 327,vI 0,vI 0,vI 0,vI 3,vR 343,Value.bool true,vI 181,vR 344,vN,vR 345,vR 346,vR 347,vI 734,vI 327,vS "/claim/cut.py" 735]),
 (349,oF (fAt p 16) "_law_other_case" "_law_other_case" [] (vN) "law_jk0046_02" 715 none 348),
 (355,oC #[vS "_law_digest" 737,vS "_law_digest" 738,vS "/claim/cut.py" 739,vI 329,vI 2,vI 0,vI 0,vI 3,vR 350,Value.bool true,vI 181,vR 351,vN,vR 352,vR 353,vR 354,vI 744,vI 329,vS "/claim/cut.py" 745]),
 (356,oF (fAt p 17) "_law_digest" "_law_digest" [] (vN) "law_jk0046_02" 715 none 355),
 (360,oC #[vS "_law_pattern" 747,vS "_law_pattern" 748,vS "/claim/cut.py" 749,vI 336,vI 1,vI 0,vI 0,vI 3,vR 357,Value.bool true,vI 181,vR 358,vN,vN,vN,vR 359,vI 750,vI 336,vS "/claim/cut.py" 751]),
 (361,oF (fAt p 18) "_law_pattern" "_law_pattern" [] (vN) "law_jk0046_02" 715 none 360),
 (365,oC #[vS "_law_wording" 753,vS "_law_wording" 754,vS "/claim/cut.py" 755,vI 349,vI 1,vI 0,vI 0,vI 3,vR 362,Value.bool true,vI 181,vR 363,vN,vN,vN,vR 364,vI 756,vI 349,vS "/claim/cut.py" 757]),
 (366,oF (fAt p 19) "_law_wording" "_law_wording" [] (vN) "law_jk0046_02" 715 none 365),
 (372,oC #[vS "_law_filled" 759,vS "_law_filled" 760,vS "/claim/cut.py" 761,vI 351,vI 2,vI 0,vI 0,vI 3,vR 367,Value.bool true,vI 181,vR 368,vN,vR 369,vR 370,vR 371,vI 767,vI 351,vS "/claim/cut.py" 768]),
 (373,oF (fAt p 20) "_law_filled" "_law_filled" [] (vN) "law_jk0046_02" 715 none 372),
 (379,oC #[vS "_law_path" 770,vS "_law_path" 771,vS "/claim/cut.py" 772,vI 365,vI 2,vI 0,vI 0,vI 3,vR 374,Value.bool true,vI 181,vR 375,vN,vR 376,vR 377,vR 378,vI 777,vI 365,vS "/claim/cut.py" 778]),
 (380,oF (fAt p 21) "_law_path" "_law_path" [] (vN) "law_jk0046_02" 715 none 379),
 (386,oC #[vS "_law_one" 780,vS "_law_one" 781,vS "/claim/cut.py" 782,vI 375,vI 2,vI 0,vI 0,vI 3,vR 381,Value.bool true,vI 181,vR 382,vN,vR 383,vR 384,vR 385,vI 785,vI 375,vS "/claim/cut.py" 786]),
 (387,oF (fAt p 22) "_law_one" "_law_one" [] (vN) "law_jk0046_02" 715 none 386),
 (391,oC #[vS "_law_meets" 788,vS "_law_meets" 789,vS "/claim/cut.py" 790,vI 379,vI 2,vI 0,vI 0,vI 3,vR 388,Value.bool true,vI 181,vR 389,vN,vN,vN,vR 390,vI 791,vI 379,vS "/claim/cut.py" 792]),
 (392,oF (fAt p 23) "_law_meets" "_law_meets" [] (vN) "law_jk0046_02" 715 none 391),
 (396,oC #[vS "_law_fits" 794,vS "_law_fits" 795,vS "/claim/cut.py" 796,vI 385,vI 2,vI 0,vI 0,vI 3,vR 393,Value.bool true,vI 181,vR 394,vN,vN,vN,vR 395,vI 797,vI 385,vS "/claim/cut.py" 798]),
 (397,oF (fAt p 24) "_law_fits" "_law_fits" [] (vN) "law_jk0046_02" 715 none 396),
 (401,oC #[vS "law" 800,vS "law" 801,vS "/claim/cut.py" 802,vI 388,vI 1,vI 0,vI 0,vI 3,vR 398,Value.bool true,vI 181,vR 399,vN,vN,vN,vR 400,vI 803,vI 388,vS "/claim/cut.py" 804]),
 (402,oF (fAt p 25) "law" "law" [] (vN) "law_jk0046_02" 715 none 401)
]
noncomputable abbrev pw2:Program:=PySem.Challenge.pw_jk0046_02
noncomputable abbrev kk2:Params→W.Frag:=K02 pw2
end
section
open PySem.W
noncomputable def Wg:Program:={pw2 with main:={pw2.main with body:=[fAt pw2 25]}}
noncomputable def UX:List Str:=["_wall","Key","TOP_LEVEL_ROLE_NAMES","_fnmatch_chunks","_fnmatch_class","_fnmatchcase","Role","DelegatedRole","_hex","SuccinctRoles","Delegations","_law_hex","_law_signs","_law_classes","_law_other_case","_law_digest","_law_pattern","_law_wording","_law_filled","_law_path","_law_one","_law_meets","_law_fits","__name__"]
noncomputable def X02:W.Frag:=[(4,{cls:=.type "module",dict:=some 0}),(152,{cls:=.none,data:=.fields #[]}),(287,{cls:=.none,data:=.fields #[]})]
noncomputable def kx2 (P:Params):W.Frag:=K02 pw2 P++X02
noncomputable def ZmP:List Addr:=[2,3,20,21,29,35,36,42,43,49,50,51,52,53,59,60,66,67,69,70,75,81,82,86,87,93,94,102,108,109,115,116,122,123,124,125,126,132,133,135,136,144,149,156,157,163,164,170,171,172,173,174,180,181,187,188,189,190,191,197,198,200,201,209,210,214,219,226,227,233,234,240,241,242,243,244,250,251,257,258,264,265,271,272,274,275,285,291,292,298,299,305,306,307,308,309,313,314,320,321,323,324,334,335,341,342,348,349,355,356,360,361,365,366,372,373,379,380,386,387,391,392,396,397,401,402,4,152,287]
set_option maxHeartbeats 0
theorem ZpX:∀(w:World) (os:OsState),(Ue pw2 w 11 (some (.ref 6)) 3400 (ZhJ w os) (topStub pw2)).map (fun s=>(Zez pw2 Wg UX (fun s=>xlAt Wg [] s&&recOk [] s) w s.abs,ZmP.map s.abs.heap.get?))=some ((true,openGood Wg UX),(kx2 w.params).map fun p=>some p.2):=by
 intro w os;kd_p
end
section
open PySem.W
set_option maxHeartbeats 0
noncomputable abbrev UB:Hook:=kHook kx2 ZmP (fun j=>by kd_p)
theorem Zo7:LeftO pw2 Wg UX (fun s=>xlAt Wg [] s&&recOk [] s) UB.obs UB.val 7000 true :=
 Zdo (M:=3400) (ann:=some (.ref 6)) (by kd_p) (by decide) (by decide) (fun s=>by kd_p) (fun w=>by kd_p) ZpX
noncomputable def ZmL:DefRec:=⟨"law",Zf9 (fAt pw2 25),Zfq (fAt pw2 25),Zcy (fAt pw2 25),match fAt pw2 25 with | .FunctionDef _ _ _ _ _ _ _ _ _ p=>p | _=>default⟩
abbrev row2:=PySem.Challenge.rw_jk0046_02
theorem Zo8:row2.wellSaid=true:=by kd_p
theorem ZpF (walk:WalkO Wg UX (XL Wg []) UB.says row2.row.toRowW ZmL [] fun f vs=>PySem.call f vs):row2.Holds:=by
 refine holds_law Zo8 fun said=>?_;refine holds_open (q:=Wg) (loose:=UX) (Xt:=fun s=>xlAt Wg [] s&&recOk [] s) (XP:=XL Wg []) (Yf:=UB.obs) (Ya:=UB.val) (YP:=UB.says) (N:=7000) Zo7 UB.of UB.keeps (fun s e=>xl_of s (Bool.and_eq_true_iff.mp e).1) XL.keeps (by kd_p) (by kd_p) (by kd_p) (fun s e=>recFacts_of (Bool.and_eq_true_iff.mp e).2) (by rfl) said (by kd_p) ⟨rfl,rfl,rfl,rfl,rfl,by decide +kernel⟩ ?_ walk
 w_witness2
end
section
noncomputable abbrev EQ (c:Cx) (F:Fz) (vs:List Value) (Q:St→Prop):Value→Shared→Prop:=fun v s'=>Got c F (v::vs) Q s'
noncomputable abbrev NoE:Value→Shared→Prop:=fun j j=>False
def EJ (c:Cx) (e:Expr) (st:St) (Q:St→Prop):Prop :=
 ∀F vs s,RS c F st vs s→wpAny (model c.p c.w) c.A (eval e c.env) (EQ c F vs Q) NoE s
def OJ1 (c:Cx) (f:Value→Sem Value) (st:St) (Q:St→Prop):Prop :=
 ∀F v vs s,RS c F st (v::vs) s→wpAny (model c.p c.w) c.A (f v) (EQ c F vs Q) NoE s
def OJ2 (c:Cx) (f:Value→Value→Sem Value) (st:St) (Q:St→Prop):Prop :=
 ∀F a b vs s,RS c F st (b::a::vs) s→wpAny (model c.p c.w) c.A (f a b) (EQ c F vs Q) NoE s
def BJ (c:Cx) (st:St) (Q:Bool→St→Prop):Prop :=
 ∀F v vs s,RS c F st (v::vs) s→wpAny (model c.p c.w) c.A (truthy v) (fun b s'=>Got c F vs (Q b) s') NoE s
def TJ (c:Cx) (e:Expr) (st:St) (Q:Bool→St→Prop):Prop :=
 ∀F vs s,RS c F st vs s→wpAny (model c.p c.w) c.A (isTrue e c.env (eval e c.env)) (fun b s'=>Got c F vs (Q b) s') NoE s
def AJ (c:Cx) (op:BoolOp) (es:List Expr) (st:St) (Q:Bool→St→Prop):Prop :=
 ∀F vs s,RS c F st vs s→wpAny (model c.p c.w) c.A (allTrue op es c.env) (fun b s'=>Got c F vs (Q b) s') NoE s
def NJ (c:Cx) (x:Str) (st:St) (Q:St→Prop):Prop :=
 ∀F v vs s,RS c F st (v::vs) s→wpAny (model c.p c.w) c.A (storeName c.env x v) (fun j s'=>Got c F vs Q s') NoE s
def LJ (c:Cx) (x:Str) (st:St) (Q:St→Prop):Prop :=
 ∀F vs s,RS c F st vs s→wpAny (model c.p c.w) c.A (loadName c.env x) (EQ c F vs Q) NoE s
inductive Fl where | next | brk | cont | ret
noncomputable abbrev lpQ (I:St→Prop) (QF:Fl→St→Prop) (fl:Fl) (st2:St):Prop:=match fl with
 | .next=>I st2
 | .cont=>I st2
 | .brk=>QF .next st2
 | .ret=>QF .ret st2
noncomputable abbrev FQ (c:Cx) (F:Fz) (vs:List Value) (Q:Fl→St→Prop):Flow→Shared→Prop:=fun f s'=>match f with
 | .next=>Got c F vs (Q .next) s'
 | .brk=>Got c F vs (Q .brk) s'
 | .cont=>Got c F vs (Q .cont) s'
 | .ret v=>Got c F (v::vs) (Q .ret) s'
def SJ (c:Cx) (t:Stmt) (st:St) (Q:Fl→St→Prop):Prop :=
 ∀F vs s,RS c F st vs s→wpAny (model c.p c.w) c.A (exec t c.env) (FQ c F vs Q) NoE s
def XJ (c:Cx) (ts:List Stmt) (st:St) (Q:Fl→St→Prop):Prop :=
 ∀F vs s,RS c F st vs s→wpAny (model c.p c.w) c.A (execs ts c.env) (FQ c F vs Q) NoE s
noncomputable abbrev ZrA (c:Cx) (ts:List Stmt) (QF:Fl→St→Prop) (f:Fl) (st1:St):Prop:=match f with
 | .next=>XJ c ts st1 QF
 | .brk=>QF .brk st1
 | .cont=>QF .cont st1
 | .ret=>QF .ret st1
section
variable {p:Program}{w:World}{g:Heap}{ρ:List Addr}
theorem YE {i:Int}{t:Tok}:AR p w g ρ (.d (.int i)) (.int i t):=⟨t,rfl⟩
theorem X9 {i:Str}{t:Tok}:AR p w g ρ (.d (.str i)) (.str i t):=⟨t,rfl⟩
theorem ZhX {i}{t:Tok}:AR p w g ρ (.d (.bytes i)) (.bytes i t):=⟨t,rfl⟩
theorem ZJ {b:Bool}:AR p w g ρ (.d (.bool b)) (.bool b):=rfl
theorem Zco:AR p w g ρ (.d .none) .none:=rfl
theorem X8 {v:Value}:AR p w g ρ (.d (.val v)) v:=rfl
theorem Zg {a:A}{k:List A}{v:Value}{vs:List Value}(h:AR p w g ρ a v) (r:ARs p w g ρ k vs):ARs p w g ρ (a::k) (v::vs):=⟨v,vs,rfl,h,r⟩
theorem Za {a:A}{k:List A}{v:Value}{vs:List Value}(h:ARs p w g ρ (a::k) (v::vs)):ARs p w g ρ k vs:=by refine Zc h fun j j e j r=>?_;cases e;exact r
theorem Zd {a:A}{k:List A}{v:Value}{vs:List Value}(h:ARs p w g ρ (a::k) (v::vs)):AR p w g ρ a v:=by refine Zc h fun j j e r j=>?_;injection e with zi;subst zi;exact r
end
section
variable {c:Cx}{st:St}{l:List (Nat×A)}{o:List O}{k:List A}{Q:St→Prop}{QB:Bool→St→Prop}{QF:Fl→St→Prop}
theorem EJ.mono {e:Expr}{Q':St→Prop}(h:EJ c e st Q) (q:∀st,Q st→Q' st):EJ c e st Q':=fun F vs s R =>
 wpm (h F vs s R) (fun j j zq0=>by refine ozg zq0 fun st' R' h'=>?_;exact ⟨st',R',q _ h'⟩)
theorem OJ2.mono {f}{Q':St→Prop}(h:OJ2 c f st Q) (q:∀st,Q st→Q' st):OJ2 c f st Q':=fun F a b vs s R =>
 wpm (h F a b vs s R) (fun j j zq2=>by refine ozg zq2 fun st' R' h'=>?_;exact ⟨st',R',q _ h'⟩)
theorem TJ.mono {e}{Q':Bool→St→Prop}(h:TJ c e st QB) (q:∀b st,QB b st→Q' b st):TJ c e st Q':=fun F vs s R =>
 wpm (h F vs s R) (fun j j zq3=>by refine ozg zq3 fun st' R' h'=>?_;exact ⟨st',R',q _ _ h'⟩)
theorem FQ.mono {F:Fz}{vs:List Value}{Q':Fl→St→Prop}(q:∀f st,QF f st→Q' f st):∀f s,FQ c F vs QF f s→FQ c F vs Q' f s:=fun f j h=>by
 induction f <;> (refine ozg h fun st' R x=>?_;exact ⟨st',R,q _ _ x⟩)
theorem XJ.mono {ts}{Q':Fl→St→Prop}(h:XJ c ts st QF) (q:∀f st,QF f st→Q' f st):XJ c ts st Q':=fun F vs s R =>
 wpm (h F vs s R) (FQ.mono q)
theorem SJ.mono {t}{Q':Fl→St→Prop}(h:SJ c t st QF) (q:∀f st,QF f st→Q' f st):SJ c t st Q':=fun F vs s R =>
 wpm (h F vs s R) (FQ.mono q)
theorem RS.same {F:Fz}{vs:List Value}{s:Shared}(R:RS c F st vs s) (t:Nat):RS c F st vs {s with toks:=t}:=by refine ozr R fun g ρ m W=>?_;exact ⟨g,ρ,m,W.tok t⟩
theorem ZfG {i:Int}{n pos}(h:Q ⟨l,o,.d (.int i)::k⟩):EJ c (.Constant (.int i) n pos) ⟨l,o,k⟩ Q:=fun j j j zw=>ozr zw fun g ρ m W =>
 wpAny_Constant_int ⟨_,⟨g,ρ,m,(W.tok _).push YE⟩,h⟩
theorem Zcl {n pos}(h:Q ⟨l,o,.d .none::k⟩):EJ c (.Constant .none n pos) ⟨l,o,k⟩ Q:=fun j j j zw=>ozr zw fun g ρ m W =>
 wpAny_Constant_none ⟨_,⟨g,ρ,m,W.push Zco⟩,h⟩
theorem ZoS {b:Bool}{n pos}(h:Q ⟨l,o,.d (.bool b)::k⟩):EJ c (.Constant (.bool b) n pos) ⟨l,o,k⟩ Q:=fun j j j zw=>ozr zw fun g ρ m W =>
 wpAny_Constant_bool ⟨_,⟨g,ρ,m,W.push ZJ⟩,h⟩
theorem Zpk {x:Str}{n pos}(h:Q ⟨l,o,.d (.str x)::k⟩):EJ c (.Constant (.str x) n pos) ⟨l,o,k⟩ Q:=fun j j j zw=>ozr zw fun g ρ m W =>
 wpAny_Constant_str ⟨_,⟨g,ρ,m,(W.tok _).push X9⟩,h⟩
def IsL (c:Cx) (x:Str) (i:Nat):Prop:=c.env.kindOf x=some .local∧c.tab[i]?=some x∧(x==("__debug__":Str))=false
def IsC (c:Cx) (x:Str) (i:Nat):Prop:=(c.env.kindOf x=some .cell∨c.env.kindOf x=some .free)∧(x,i)∈c.cel∧(x==("__debug__":Str))=false∧(x==("__classdict__":Str))=false
theorem Zbj {x:Str}{i:Nat}{a:A}{F:Fz}{vs:List Value}{s:Shared}(R:RS c F st vs s) (hl:IsL c x i) (ha:ZD i st.loc=some a) (h:Q ⟨st.loc,st.own,a::st.stk⟩) :
 wpAny (model c.p c.w) c.A (loadName c.env x) (EQ c F vs Q) NoE s:=by
 refine Ka fun zn0=>?_;refine ozr R fun g ρ m W=>?_;refine Zc (W.loc i a ha) fun y v e0 e r=>?_;refine Yq hl fun hl hi j=>?_;refine zn0 ?_;rw [hi] at e0;obtain rfl:=Kc e0;exact wpAny_loadName_local c.hk hl W.ns e ⟨_,⟨g,ρ,m,W.push r⟩,h⟩
theorem ZbZ {x:Str}{i:Nat}{a:A}{F:Fz}{vs:List Value}{s:Shared}(R:RS c F st vs s) (hl:IsC c x i) (ha:st.own[i]?=some (.cell (some a)))
 (h:Q ⟨st.loc,st.own,a::st.stk⟩):wpAny (model c.p c.w) c.A (loadName c.env x) (EQ c F vs Q) NoE s:=by
 refine Ka fun zn1=>?_;refine ozr R fun g ρ m W=>?_;refine U7 hl fun hl hi j hn=>?_;refine Zb (W.cel x i hi) fun b e1 e2=>?_;obtain ⟨v,ob,e3,e4,u,e5,r⟩:=W.own i _ b ha e1;refine zn1 ?_;subst e5;rcases hl with hl | hl
 ·exact wpAny_loadName_cell c.hk hl e2 ⟨ob,e3,e4⟩ ⟨_,⟨g,ρ,m,W.push r⟩,h⟩
 ·exact wpAny_loadName_free c.hk hl e2 ⟨ob,e3,e4⟩ ⟨_,⟨g,ρ,m,W.push r⟩,h⟩ hn
theorem Zk1 {x:Str}{i:Nat}{a:A}(hl:IsL c x i) (ha:ZD i l=some a) (h:Q ⟨l,o,a::k⟩):LJ c x ⟨l,o,k⟩ Q:=fun j j j R=>Zbj R hl ha h
theorem Zne {x:Str}{i:Nat}{a:A}(hl:IsC c x i) (ha:o[i]?=some (.cell (some a))) (h:Q ⟨l,o,a::k⟩):LJ c x ⟨l,o,k⟩ Q:=fun j j j R=>ZbZ R hl ha h
theorem Zm {x:Str}{i:Nat}{a:A}{pos}(hl:IsL c x i) (ha:ZD i l=some a) (h:Q ⟨l,o,a::k⟩):EJ c (.Name x pos) ⟨l,o,k⟩ Q :=
 fun j j j R=>wpAny_Name (Zbj R hl ha h) hl.2.2
theorem Zjd {x:Str}{i:Nat}{a:A}{pos}(hl:IsC c x i) (ha:o[i]?=some (.cell (some a))) (h:Q ⟨l,o,a::k⟩):EJ c (.Name x pos) ⟨l,o,k⟩ Q :=
 fun j j j R=>wpAny_Name (ZbZ R hl ha h) hl.2.2.1
def Xe (G:Gx) (x:Str) (v:Value):Prop:=∀g,G.lib.B g→∃mg,g.Ns mainGlobals mg∧mg x=some v
def Y5 (G:Gx) (x:Str) (v:Value):Prop:=∀g,G.lib.B g→(∃mg,g.Ns mainGlobals mg∧mg x=none)∧∃mb,g.Ns builtinsNs mb∧mb x=some v
def IsG (c:Cx) (x:Str) (v:Value):Prop:=c.env.kindOf x=some .globalImplicit∧(x==("__debug__":Str))=false∧(Xe c.G x v∨Y5 c.G x v)
theorem Z2 {x:Str}{v:Value}{pos}(hg:IsG c x v) (h:Q ⟨l,o,.d (.val v)::k⟩):EJ c (.Name x pos) ⟨l,o,k⟩ Q :=
 fun j j j zq10=>by
  refine ozr zq10 fun g ρ m W=>?_;obtain ⟨hl,hd,hv | hv⟩:=hg
  ·refine Zb (hv g W.base) fun mg h1 h2=>?_;exact Name_function_global c.hk hl (loadGlobal_global (by rw [c.hg];exact h1.keeps W.keep) h2 ⟨_,⟨g,ρ,m,W.push X8⟩,h⟩) hd
  ·refine YM (hv g W.base) fun zo2 mb h3 h4=>?_;refine Zb zo2 fun mg h1 h2=>?_;exact Name_function_global c.hk hl (loadGlobal_builtin (by rw [c.hg];exact h1.keeps W.keep) h2 (by rw [c.hb];exact h3.keeps W.keep) h4 ⟨_,⟨g,ρ,m,W.push X8⟩,h⟩) hd
theorem Z1 {x:Str}{i:Nat}{a:A}(hl:IsL c x i) (h:Q ⟨(i,a)::l,o,k⟩):NJ c x ⟨l,o,a::k⟩ Q:=fun j j j j zq11=>by
 refine Ka fun zn5=>?_;refine ozr zq11 fun g ρ m W=>?_;refine Zc W.stk fun v r e h1 h2=>?_;refine zn5 ?_;cases e;refine wpAny_storeName_local hl.1 W.ns (fun h' hn hs=>⟨_,⟨g,ρ,_,((W.stack h2).setLocal hl.2.1 h1 hn hs)⟩,h⟩) ?_;rw [c.hk];rfl
theorem Zn7 {x:Str}{a:A}{i:Nat}{b:Option A}(hl:c.env.kindOf x=some .cell) (hc:IsC c x i) (ho:o[i]?=some (.cell b)) (h:Q ⟨l,o.set i (.cell (some a)),k⟩):NJ c x ⟨l,o,a::k⟩ Q:=fun j j j j zq12=>by
 refine Ka fun zn6=>?_;refine ozr zq12 fun g ρ m W=>?_;refine Zc W.stk fun v r e h1 h2=>?_;refine zn6 ?_;cases e;refine Ka fun zn7=>?_;refine Zb (W.cel x i hc.2.1) fun ad e1 e2=>?_;refine Zc (W.own i _ ad ho e1) fun u ob e3 e4 j=>?_;refine zn7 ?_;refine wpAny_storeName_cell c.hk hl e2 ⟨ob,e3,e4⟩ fun h' hv hs=>⟨_,⟨g,ρ,m,((W.stack h2).setOwn (t:=_) (ZI ho).1 e1 (fun b o hb e=>(hs.2 b hb).trans e) ?_)⟩,h⟩;refine Zb hv fun o' e5 e6=>?_;exact ⟨_,o',e5,e6,_,rfl,h1⟩
theorem Zmi {l' r op pos}(h:EJ c l' st fun st1=>EJ c r st1 fun st2=>OJ2 c (binaryOp op) st2 Q):EJ c (.BinOp l' op r pos) st Q:=fun F vs s R =>
 wpAny_BinOp (wpm (h F vs s R) (fun a j zq13=>by obtain ⟨j,R1,h1⟩:=zq13;exact Kb (h1 F (a::vs) _ R1) (fun b j zq14=>by refine ozg zq14 fun j R2 h2=>?_;exact h2 F a b vs _ R2) fun j j x=>x))
theorem ZpW {l' r op pos}(h:EJ c l' st fun st1=>EJ c r st1 fun st2=>OJ2 c (compareOp op) st2 Q) (hm:behindInMarks op r=false:=by kd_p1):EJ c (.Compare l' [op] [r] pos) st Q:=fun F vs s R =>
 wpAny_Compare1 (wpm (h F vs s R) (fun a j zq15=>by obtain ⟨j,R1,h1⟩:=zq15;exact Kb (h1 F (a::vs) _ R1) (fun b j zq16=>by refine ozg zq16 fun j R2 h2=>?_;exact h2 F a b vs _ R2) fun j j x=>x)) hm
theorem ZkD {x op pos}(h:EJ c x st fun st1=>OJ1 c (unaryOp op) st1 Q):EJ c (.UnaryOp op x pos) st Q:=fun F vs s R =>
 wpAny_UnaryOp (wpm (h F vs s R) (fun a j zq17=>by refine ozg zq17 fun j R1 h1=>?_;exact h1 F a vs _ R1))
theorem ZkO {t b e pos}(h:TJ c t st fun z st1=>(z=true→EJ c b st1 Q)∧(z=false→EJ c e st1 Q)):EJ c (.IfExp t b e pos) st Q:=fun F vs s R =>
 wpAny_IfExp (wpm (h F vs s R) (fun z j zq18=>by obtain ⟨j,R1,h1⟩:=zq18;induction z using Bool.casesOn;exact h1.2 rfl F vs _ R1;exact h1.1 rfl F vs _ R1))
def KJ (c:Cx) (st:St) (Q:Bool→St→Prop):Prop :=
 ∀F v vs s,RS c F st (v::vs) s→wpAny (model c.p c.w) c.A (truthy v) (fun b s'=>Got c F (v::vs) (Q b) s') NoE s
def VJ (c:Cx) (pos:Pos) (op:BoolOp) (es:List Expr) (st:St) (Q:St→Prop):Prop :=
 ∀F vs s,RS c F st vs s→wpAny (model c.p c.w) c.A (boolOp pos op (evalEach es c.env)) (EQ c F vs Q) NoE s
theorem ZhI {op es pos}(h:VJ c pos op es st Q):EJ c (.BoolOp op es pos) st Q:=fun F vs s R=>h F vs s R
theorem Zoz {op e pos}(h:EJ c e st Q):VJ c pos op [e] st Q:=fun F vs s R=>h F vs s R
noncomputable def pop1:St→St | ⟨l,o,k⟩=>⟨l,o,k.tail⟩
theorem RS.pop1 {F:Fz}{v:Value}{vs:List Value}{s:Shared}(R:RS c F st (v::vs) s):RS c F (pop1 st) vs s:=by
 refine ozr R fun g ρ m W=>?_;obtain ⟨l,o,k⟩:=st;induction k using LLc with
 | nil=>have:=W.stk;exact Zeq this
 | cons a k=>exact ⟨g,ρ,m,W.stack (Za W.stk)⟩
theorem ZpS {e e' es pos}(h:EJ c e st fun st1=>KJ c st1 fun z st2=>(z=true→VJ c pos .And (e'::es) (pop1 st2) Q)∧(z=false→Q st2)):VJ c pos .And (e::e'::es) st Q:=fun F vs s R=>by
 refine Kd (wpm (h F vs s R) (fun v s1 zw=>ozg zw fun st1 R1 h1=>Kd (wpAny_standAt (Kd (wpAny_holding (Kb (h1 F v vs s1 R1) (fun z s2 zq21=>?_) fun j j x=>x))))));refine ozg zq21 fun st2 R2 h2=>?_;induction z with
 | false=>exact Ki ⟨st2,R2,h2.2 rfl⟩
 | true=>exact h2.1 rfl F vs s2 R2.pop1
theorem Zrs {e e' es pos}(h:EJ c e st fun st1=>KJ c st1 fun z st2=>(z=false→VJ c pos .Or (e'::es) (pop1 st2) Q)∧(z=true→Q st2)):VJ c pos .Or (e::e'::es) st Q:=fun F vs s R=>by
 refine Kd (wpm (h F vs s R) (fun v s1 zw=>ozg zw fun st1 R1 h1=>Kd (wpAny_standAt (Kd (wpAny_holding (Kb (h1 F v vs s1 R1) (fun z s2 zq23=>?_) fun j j x=>x))))));obtain ⟨st2,R2,h2⟩:=zq23;induction z with
 | true=>exact Ki ⟨st2,R2,h2.2 rfl⟩
 | false=>exact h2.1 rfl F vs s2 R2.pop1
theorem Zjm {b:Bool}(h:QB b ⟨l,o,.d (.bool b)::k⟩):KJ c ⟨l,o,.d (.bool b)::k⟩ QB:=fun j j j j R=>by
 refine ozr R fun g ρ m W=>?_;have e':_=Value.bool b:=(Zd W.stk);subst e';exact wpAny_truthy_bool ⟨_,⟨g,ρ,m,W⟩,h⟩
theorem Uh {l' r op pos}(h:EJ c l' st fun st1=>EJ c r st1 fun st2=>OJ2 c (compareOp op) st2 fun st3=>BJ c st3 QB) (hm:behindInMarks op r=false:=by kd_p1):TJ c (.Compare l' [op] [r] pos) st QB:=fun F vs s R =>
 wpAny_isTrue_Compare1 (wpm (h F vs s R) (fun a j zq24=>by obtain ⟨j,R1,h1⟩:=zq24;exact Kb (h1 F (a::vs) _ R1) (fun b j zq25=>by refine ozg zq25 fun j R2 h2=>?_;exact Kb (h2 F a b vs _ R2) (fun v j zq26=>by refine ozg zq26 fun j R3 h3=>?_;exact h3 F v vs _ R3) fun j j x=>x) fun j j x=>x)) hm
theorem ZmT {x pos}(h:TJ c x st fun b st1=>QB (!b) st1):TJ c (.UnaryOp .Not x pos) st QB:=fun F vs s R =>
 wpAny_isTrue_Not (h F vs s R)
theorem Zfl {op es pos}(h:AJ c op es st QB):TJ c (.BoolOp op es pos) st QB:=fun F vs s R=>wpAny_isTrue_BoolOp (h F vs s R)
theorem Zg2 (h:QB true st):AJ c .And [] st QB:=fun j j j R=>wpAny_allTrue_And_nil ⟨st,R,h⟩
theorem Zen (h:QB false st):AJ c .Or [] st QB:=fun j j j R=>wpAny_allTrue_Or_nil ⟨st,R,h⟩
theorem Zgk {x xs}(h:TJ c x st fun b st1=>(b=true→AJ c .And xs st1 QB)∧(b=false→QB false st1)):AJ c .And (x::xs) st QB:=fun F vs s R =>
 wpAny_allTrue_And_cons (wpm (h F vs s R) (fun b s1 zq27=>by obtain ⟨st1,R1,h1⟩:=zq27;induction b using Bool.casesOn;exact ⟨st1,R1,h1.2 rfl⟩;exact h1.1 rfl F vs s1 R1))
theorem ZlG {x xs}(h:TJ c x st fun b st1=>(b=false→AJ c .Or xs st1 QB)∧(b=true→QB true st1)):AJ c .Or (x::xs) st QB:=fun F vs s R =>
 wpAny_allTrue_Or_cons (wpm (h F vs s R) (fun b s1 zq28=>by obtain ⟨st1,R1,h1⟩:=zq28;induction b using Bool.casesOn;exact h1.1 rfl F vs s1 R1;exact ⟨st1,R1,h1.2 rfl⟩))
theorem ZfF {e}(h:EJ c e st fun st1=>BJ c st1 QB) (he:∀whole,isTrue e c.env whole=(do let v ←whole;standAt e.pos;holding [v] (truthy v)):=by intro j;rfl):TJ c e st QB:=fun F vs s R =>
 wpAny_isTrue_value (wpm (h F vs s R) (fun v j zq29=>by refine ozg zq29 fun j R1 h1=>?_;exact h1 F v vs _ R1)) (he _)
theorem YT {b:Bool}(h:QB b ⟨l,o,k⟩):BJ c ⟨l,o,.d (.bool b)::k⟩ QB:=fun j j j j R=>by
 obtain ⟨g,ρ,m,W⟩:=R;have e':_=Value.bool b:=Zd W.stk;subst e';exact wpAny_truthy_bool ⟨_,⟨g,ρ,m,W.stack (Za W.stk)⟩,h⟩
theorem Zps {i:Int}(h:QB (i != 0) ⟨l,o,k⟩):BJ c ⟨l,o,.d (.int i)::k⟩ QB:=fun j j j j R=>by
 obtain ⟨g,ρ,m,W⟩:=R;refine oze ((Zd W.stk:∃t,_=Value.int i t)) fun t e'=>?_;subst e';exact truthy_int ⟨_,⟨g,ρ,m,W.stack (Za W.stk)⟩,h⟩
theorem ZoA (h:QB false ⟨l,o,k⟩):BJ c ⟨l,o,.d .none::k⟩ QB:=fun j j j j R=>by
 obtain ⟨g,ρ,m,W⟩:=R;have e':_=Value.none:=Zd W.stk;subst e';exact truthy_none ⟨_,⟨g,ρ,m,W.stack (Za W.stk)⟩,h⟩
theorem Z5 (h:QF .next st):XJ c [] st QF:=fun j j j R=>wpAny_execs_nil ⟨st,R,h⟩
theorem Yg {t ts}(h:SJ c t st (ZrA c ts QF)):XJ c (t::ts) st QF:=fun F vs s R =>
 wpAny_execs_cons (wpm (h F vs s R) (fun f s1 h1=>by
  induction f with
  | next=>refine ozg h1 fun st1 R1 h1=>?_;exact h1 F vs s1 R1
  | brk=>exact h1
  | cont=>exact h1
  | ret v=>exact h1))
theorem ZbB {x pos' e pos}(h:EJ c e st fun st1=>NJ c x st1 (QF .next)) (hs:swapsWith e (some (.Name x pos')) pos.line c.env=pure false:=by rfl):SJ c (.Assign [.Name x pos'] e pos) st QF:=fun F vs s R =>
 wpAny_Assign_Name (wpm (h F vs s R) (fun v j zq30=>by refine ozg zq30 fun j R1 h1=>?_;exact h1 F v vs _ R1)) hs
theorem ZdK {t b e pos}(h:TJ c t st fun z st1=>(z=true→XJ c b st1 QF)∧(z=false→XJ c e st1 QF)):SJ c (.If t b e pos) st QF:=fun F vs s R =>
 wpAny_If (wpm (h F vs s R) (fun z s1 zq31=>by obtain ⟨st1,R1,h1⟩:=zq31;induction z using Bool.casesOn;exact h1.2 rfl F vs s1 R1;exact h1.1 rfl F vs s1 R1))
theorem Zh2 {e pos}(h:EJ c e st (QF .ret)):SJ c (.Return (some e) pos) st QF:=fun F vs s R=>wpAny_Return_some (h F vs s R)
theorem Zor {pos}(h:QF .next st):SJ c (.Pass pos) st QF:=fun j j j R=>wpAny_Pass ⟨st,R,h⟩
theorem Zks {pos}(h:QF .brk st):SJ c (.Break pos) st QF:=fun j j j R=>wpAny_Break ⟨st,R,h⟩
theorem ZeD {pos}(h:QF .cont st):SJ c (.Continue pos) st QF:=fun j j j R=>wpAny_Continue ⟨st,R,h⟩
theorem Zok {e pos}(h:EJ c e st fun st1=>QF .next (pop1 st1)) (hi:interactive c.env=false) (hs:swapsWith e none pos.line c.env=pure false:=by rfl):SJ c (.Expr e pos) st QF:=fun F vs s R =>
 wpAny_Expr_any (wpm (h F vs s R) (fun j j zq32=>by refine ozg zq32 fun j R1 h1=>?_;exact ⟨_,R1.pop1,h1⟩)) hi hs
theorem Zp1 {x pos' op e pos}(h:LJ c x st fun st1=>EJ c e st1 fun st2=>OJ2 c (inplaceOp op) st2 fun st3=>NJ c x st3 (QF .next)):SJ c (.AugAssign (.Name x pos') op e pos) st QF:=fun F vs s R =>
 wpAny_AugAssign_Name (wpm (h F vs s R) (fun a j zq33=>by obtain ⟨j,R1,h1⟩:=zq33;exact Kb (h1 F (a::vs) _ R1) (fun b j zq34=>by refine ozg zq34 fun j R2 h2=>?_;exact Kb (h2 F a b vs _ R2) (fun v j zq35=>by refine ozg zq35 fun j R3 h3=>?_;exact h3 F v vs _ R3) fun j j x=>x) fun j j x=>x))
theorem Zf2 {t b pos}(I:Nat→St→Prop) (n:Nat) (h0:I n st)
 (turn:∀n st,I n st→TJ c t st fun z st1=>(z=true→XJ c b st1 (lpQ (fun st2=>∃m,m<n∧I m st2) QF))∧(z=false→QF .next st1)) :
 SJ c (.While t b [] pos) st QF:=fun F vs s R=>by
 refine wpAny_While (codeAny_whileLoop (fun n s'=>Got c F vs (I n) s') ?_ n ⟨st,R,h0⟩);rintro n s1 ⟨st1,R1,h1⟩;refine Kb (turn n st1 h1 F vs s1 R1) (fun z s2 zq36=>?_) fun j j x=>x.elim;obtain ⟨st2,R2,h2⟩:=zq36;induction z with
 | false=>exact wpAny_execs_nil ⟨st2,R2,h2.2 rfl⟩
 | true =>
  refine Kb (h2.1 rfl F vs s2 R2) (fun f s3 h3=>?_) fun j j x=>x.elim;induction f with
  | next=>obtain ⟨st3,R3,m,hm,h3⟩:=h3;exact ⟨m,hm,st3,R3,h3⟩
  | cont=>obtain ⟨st3,R3,m,hm,h3⟩:=h3;exact ⟨m,hm,st3,R3,h3⟩
  | brk=>exact h3
  | ret v=>exact h3
end
end
section
section
variable {c:Cx}{st:St}{l:List (Nat×A)}{o:List O}{k:List A}{Q:St→Prop}{QB:Bool→St→Prop}
theorem o2 {f:Value→Value→Sem Value}{a b r:A}
 (h:∀(F:Fz) (st:St) (vs:List Value) (s:Shared) (g:Heap) (ρ:List Addr) (m) (u v:Value),RSW c F st vs s g ρ m→AR c.p c.w g ρ a u→AR c.p c.w g ρ b v→∀(Q':Value→Shared→Prop),(∀x t,AR c.p c.w g ρ r x→Q' x {s with toks:=t})→wpAny (model c.p c.w) c.A (f u v) Q' NoE s)
 (q:Q ⟨l,o,r::k⟩):OJ2 c f ⟨l,o,b::a::k⟩ Q:=fun F u v vs s zq0=>by
 refine ozr zq0 fun g ρ m W=>?_;have e2:=Za W.stk;exact h F _ _ s g ρ m u v W (Zd e2) (Zd W.stk) _ fun x t hx=>⟨_,⟨g,ρ,m,(W.tok t).stack (Zg hx (Za e2))⟩,q⟩
theorem o1 {f:Value→Sem Value}{a r:A}
 (h:∀(F:Fz) (st:St) (vs:List Value) (s:Shared) (g:Heap) (ρ:List Addr) (m) (u:Value),RSW c F st vs s g ρ m→AR c.p c.w g ρ a u→∀(Q':Value→Shared→Prop),(∀x t,AR c.p c.w g ρ r x→Q' x {s with toks:=t})→wpAny (model c.p c.w) c.A (f u) Q' NoE s)
 (q:Q ⟨l,o,r::k⟩):OJ1 c f ⟨l,o,a::k⟩ Q:=fun F u vs s zq1=>by
 refine ozr zq1 fun g ρ m W=>?_;exact h F _ _ s g ρ m u W (Zd W.stk) _ fun x t hx=>⟨_,⟨g,ρ,m,(W.tok t).stack (Zg hx (Za W.stk))⟩,q⟩
section
variable {x y:Int}
theorem Zqc (q:Q ⟨l,o,.d (.int (x+y))::k⟩):OJ2 c (binaryOp .Add) ⟨l,o,.d (.int y)::.d (.int x)::k⟩ Q:=o2 (fun j j j j j j j j j j zq2_0 zq2_1 j h=>by obtain ⟨j,e1⟩:=zq2_0;obtain ⟨j,e2⟩:=zq2_1;subst e1 e2;exact add_int (h _ _ YE)) q
theorem ZpV (q:Q ⟨l,o,.d (.int (x - y))::k⟩):OJ2 c (binaryOp .Sub) ⟨l,o,.d (.int y)::.d (.int x)::k⟩ Q:=o2 (fun j j j j j j j j j j zq3_0 zq3_1 j h=>by obtain ⟨j,e1⟩:=zq3_0;obtain ⟨j,e2⟩:=zq3_1;subst e1 e2;exact sub_int (h _ _ YE)) q
theorem Zpm (hm:IntMulOk x y) (q:Q ⟨l,o,.d (.int (x*y))::k⟩):OJ2 c (binaryOp .Mult) ⟨l,o,.d (.int y)::.d (.int x)::k⟩ Q:=o2 (fun j j j j j j j j j j zq4_0 zq4_1 j h=>by obtain ⟨j,e1⟩:=zq4_0;obtain ⟨j,e2⟩:=zq4_1;subst e1 e2;exact mul_int (h _ _ YE) hm) q
theorem ZpD (hy:y≠0) (q:Q ⟨l,o,.d (.int (x.fmod y))::k⟩):OJ2 c (binaryOp .Mod) ⟨l,o,.d (.int y)::.d (.int x)::k⟩ Q:=o2 (fun j j j j j j j j j j zq5_0 zq5_1 j h=>by obtain ⟨j,e1⟩:=zq5_0;obtain ⟨j,e2⟩:=zq5_1;subst e1 e2;exact mod_int hy (h _ _ YE)) q
theorem ZpC (hy:y≠0) (hs:y.natAbs<1073741824) (q:Q ⟨l,o,.d (.int (x.fdiv y))::k⟩):OJ2 c (binaryOp .FloorDiv) ⟨l,o,.d (.int y)::.d (.int x)::k⟩ Q:=o2 (fun j j j j j j j j j j zq6_0 zq6_1 j h=>by
 obtain ⟨j,e1⟩:=zq6_0;obtain ⟨j,e2⟩:=zq6_1;subst e1 e2;exact floordiv_int hy (h _ _ YE) (Or.inl (PyProof.noPylong_small hs))) q
theorem Zqu (hy:0≤y) (hs:(Builtin.Int.intBits x:Int)*y≤2 ^ 27) (q:Q ⟨l,o,.d (.int (x ^ y.toNat))::k⟩):OJ2 c (binaryOp .Pow) ⟨l,o,.d (.int y)::.d (.int x)::k⟩ Q:=o2 (fun j j j j j j j j j j zq7_0 zq7_1 j h=>by obtain ⟨j,e1⟩:=zq7_0;obtain ⟨j,e2⟩:=zq7_1;subst e1 e2;exact pow_int hy hs (h _ _ YE)) q
theorem ZqP (q:Q ⟨l,o,.d (.bool (x==y))::k⟩):OJ2 c (compareOp .Eq) ⟨l,o,.d (.int y)::.d (.int x)::k⟩ Q:=o2 (fun j j j j j j j j j j zq9_0 zq9_1 j h=>by obtain ⟨j,e1⟩:=zq9_0;obtain ⟨j,e2⟩:=zq9_1;subst e1 e2;exact eq_int (h _ _ ZJ)) q
theorem Zib (q:Q ⟨l,o,.d (.bool (x != y))::k⟩):OJ2 c (compareOp .NotEq) ⟨l,o,.d (.int y)::.d (.int x)::k⟩ Q:=o2 (fun j j j j j j j j j j zq10_0 zq10_1 j h=>by obtain ⟨j,e1⟩:=zq10_0;obtain ⟨j,e2⟩:=zq10_1;subst e1 e2;exact ne_int (h _ _ ZJ)) q
theorem ZrG (q:Q ⟨l,o,.d (.bool (decide (x<y)))::k⟩):OJ2 c (compareOp .Lt) ⟨l,o,.d (.int y)::.d (.int x)::k⟩ Q:=o2 (fun j j j j j j j j j j zq11_0 zq11_1 j h=>by obtain ⟨j,e1⟩:=zq11_0;obtain ⟨j,e2⟩:=zq11_1;subst e1 e2;exact lt_int (h _ _ ZJ)) q
theorem ZqK (q:Q ⟨l,o,.d (.bool (decide (x≤y)))::k⟩):OJ2 c (compareOp .LtE) ⟨l,o,.d (.int y)::.d (.int x)::k⟩ Q:=o2 (fun j j j j j j j j j j zq12_0 zq12_1 j h=>by obtain ⟨j,e1⟩:=zq12_0;obtain ⟨j,e2⟩:=zq12_1;subst e1 e2;exact le_int (h _ _ ZJ)) q
theorem ZrO (q:Q ⟨l,o,.d (.bool (decide (y<x)))::k⟩):OJ2 c (compareOp .Gt) ⟨l,o,.d (.int y)::.d (.int x)::k⟩ Q:=o2 (fun j j j j j j j j j j zq13_0 zq13_1 j h=>by obtain ⟨j,e1⟩:=zq13_0;obtain ⟨j,e2⟩:=zq13_1;subst e1 e2;exact gt_int (h _ _ ZJ)) q
theorem Zrj (q:Q ⟨l,o,.d (.bool (decide (y≤x)))::k⟩):OJ2 c (compareOp .GtE) ⟨l,o,.d (.int y)::.d (.int x)::k⟩ Q:=o2 (fun j j j j j j j j j j zq14_0 zq14_1 j h=>by obtain ⟨j,e1⟩:=zq14_0;obtain ⟨j,e2⟩:=zq14_1;subst e1 e2;exact ge_int (h _ _ ZJ)) q
theorem Znj (q:Q ⟨l,o,.d (.int (x+y))::k⟩):OJ2 c (inplaceOp .Add) ⟨l,o,.d (.int y)::.d (.int x)::k⟩ Q:=o2 (fun j j j j j j j j j j zq15_0 zq15_1 j h=>by obtain ⟨j,e1⟩:=zq15_0;obtain ⟨j,e2⟩:=zq15_1;subst e1 e2;exact iadd_int (h _ _ YE)) q
theorem Zpl (q:Q ⟨l,o,.d (.int (-x))::k⟩):OJ1 c (unaryOp .USub) ⟨l,o,.d (.int x)::k⟩ Q:=o1 (fun j j j j j j j j j zq16 j h=>by obtain ⟨j,e1⟩:=zq16;subst e1;exact neg_int (h _ _ YE)) q
end
section
variable {x y:Str}
theorem ZpP (hs:x.length+y.length≤sizeLine) (q:Q ⟨l,o,.d (.str (x++y))::k⟩):OJ2 c (binaryOp .Add) ⟨l,o,.d (.str y)::.d (.str x)::k⟩ Q:=o2 (fun j j j j j j j j j j zq17_0 zq17_1 j h=>by obtain ⟨j,e1⟩:=zq17_0;obtain ⟨j,e2⟩:=zq17_1;subst e1 e2;exact add_str (fun j j=>h _ _ X9) hs) q
theorem ZrE (q:Q ⟨l,o,.d (.bool (x==y))::k⟩):OJ2 c (compareOp .Eq) ⟨l,o,.d (.str y)::.d (.str x)::k⟩ Q:=o2 (fun j j j j j j j j j j zq18_0 zq18_1 j h=>by obtain ⟨j,e1⟩:=zq18_0;obtain ⟨j,e2⟩:=zq18_1;subst e1 e2;exact eq_str (h _ _ ZJ)) q
theorem ZqT (q:Q ⟨l,o,.d (.bool (x != y))::k⟩):OJ2 c (compareOp .NotEq) ⟨l,o,.d (.str y)::.d (.str x)::k⟩ Q:=o2 (fun j j j j j j j j j j zq19_0 zq19_1 j h=>by obtain ⟨j,e1⟩:=zq19_0;obtain ⟨j,e2⟩:=zq19_1;subst e1 e2;exact ne_str (h _ _ ZJ)) q
theorem Zq0 (q:Q ⟨l,o,.d (.bool (decide (x.cps.toList<y.cps.toList)))::k⟩):OJ2 c (compareOp .Lt) ⟨l,o,.d (.str y)::.d (.str x)::k⟩ Q:=o2 (fun j j j j j j j j j j zq20_0 zq20_1 j h=>by obtain ⟨j,e1⟩:=zq20_0;obtain ⟨j,e2⟩:=zq20_1;subst e1 e2;exact lt_str (h _ _ ZJ)) q
theorem ZrH (q:Q ⟨l,o,.d (.bool (!(decide (y.cps.toList<x.cps.toList))))::k⟩):OJ2 c (compareOp .LtE) ⟨l,o,.d (.str y)::.d (.str x)::k⟩ Q:=o2 (fun j j j j j j j j j j zq21_0 zq21_1 j h=>by obtain ⟨j,e1⟩:=zq21_0;obtain ⟨j,e2⟩:=zq21_1;subst e1 e2;exact PySem.P.le_str (h _ _ ZJ)) q
theorem Zri (q:Q ⟨l,o,.d (.bool (decide (y.cps.toList<x.cps.toList)))::k⟩):OJ2 c (compareOp .Gt) ⟨l,o,.d (.str y)::.d (.str x)::k⟩ Q:=o2 (fun j j j j j j j j j j zq22_0 zq22_1 j h=>by obtain ⟨j,e1⟩:=zq22_0;obtain ⟨j,e2⟩:=zq22_1;subst e1 e2;exact PySem.P.gt_str (h _ _ ZJ)) q
end
section
variable {x y:Bool}
theorem Zrd (q:Q ⟨l,o,.d (.bool (x != y))::k⟩):OJ2 c (compareOp .NotEq) ⟨l,o,.d (.bool y)::.d (.bool x)::k⟩ Q:=o2 (fun j j j j j j j j j j e1 e2 j h=>by subst e1;subst e2;exact ne_bool (h _ _ ZJ)) q
theorem Zmn (q:Q ⟨l,o,.d (.bool (x != y))::k⟩):OJ2 c (compareOp .IsNot) ⟨l,o,.d (.bool y)::.d (.bool x)::k⟩ Q:=o2 (fun j j j j j j j j j j e1 e2 j h=>by
 subst e1;subst e2;refine wpAny_isNot_plain rfl ?_;rw [show (!(Value.bool x==Value.bool y))=(x != y) from by induction x using Bool.casesOn <;> induction y using Bool.casesOn <;> rfl];exact h (.bool (x != y)) _ ZJ) q
theorem ZpR (q:Q ⟨l,o,.d (.bool (!x))::k⟩):OJ1 c (unaryOp .Not) ⟨l,o,.d (.bool x)::k⟩ Q:=o1 (fun j j j j j j j j j e1 j h=>by subst e1;exact not_of (wpAny_truthy_bool (h _ _ ZJ))) q
end
end
end
section
inductive R2 {α β:Type}(R:α→β→Prop):List α→List β→Prop
 | nil:R2 R [] []
 | cons {x v xs vs} (h:R x v) (t:R2 R xs vs):R2 R (x::xs) (v::vs)
def PR {α β:Type}(R:α→β→Prop) (x:Str×α) (v:Str×β):Prop:=v.1=x.1∧R x.2 v.2
section
variable {α β:Type}{R:α→β→Prop}{xs:List α}{vs:List β}
theorem R2.len (h:R2 R xs vs):vs.length=xs.length:=by
 induction h with
 | nil=>rfl
 | cons _ _ ih=>exact congrArg Nat.succ ih
theorem R2.get (h:R2 R xs vs) {i:Nat}{x:α}(e:xs[i]?=some x):∃v,vs[i]?=some v∧R x v:=by
 induction h generalizing i with
 | nil=>exact Zo e
 | cons h t ih =>
  induction i using Nat.casesOn with
  | zero=>exact ⟨_,rfl,Kc e▸h⟩
  | succ i=>exact ih e
theorem R2.flip (h:R2 R xs vs):R2 (fun v x=>R x v) vs xs:=by
 induction h with
 | nil=>exact .nil
 | cons h _ ih=>exact .cons h ih
theorem R2.getR (h:R2 R xs vs) {i:Nat}{v:β}(e:vs[i]?=some v):∃x,xs[i]?=some x∧R x v:=h.flip.get e
theorem R2.app (h:R2 R xs vs) {ys:List α}{us:List β}(h2:R2 R ys us):R2 R (xs++ys) (vs++us):=by
 induction h with
 | nil=>exact h2
 | cons h _ ih=>exact .cons h ih
theorem R2.drop (h:R2 R xs vs) (n:Nat):R2 R (xs.drop n) (vs.drop n):=by
 induction h generalizing n with
 | nil=>rw [List.drop_nil,List.drop_nil];exact .nil
 | cons h t ih=>induction n using Nat.casesOn with
  | zero=>exact .cons h t
  | succ n=>exact ih n
theorem R2.take (h:R2 R xs vs) (n:Nat):R2 R (xs.take n) (vs.take n):=by
 induction h generalizing n with
 | nil=>rw [List.take_nil,List.take_nil];exact .nil
 | cons h t ih=>induction n using Nat.casesOn with
  | zero=>exact .nil
  | succ n=>exact .cons h (ih n)
theorem R2.set (h:R2 R xs vs) {a:α}{v:β}(ha:R a v) (i:Nat):R2 R (xs.set i a) (vs.set i v):=by
 induction h generalizing i with
 | nil=>exact .nil
 | cons h t ih=>induction i using Nat.casesOn with
  | zero=>exact .cons ha t
  | succ i=>exact .cons h (ih i)
theorem R2.rev (h:R2 R xs vs):R2 R xs.reverse vs.reverse:=by
 induction h with
 | nil=>exact .nil
 | cons h _ ih=>rw [List.reverse_cons,List.reverse_cons];exact ih.app (.cons h .nil)
theorem R2.any (h:R2 R xs vs) {f:α→Bool}{k:β→Bool}(e:∀x v,R x v→k v=f x):vs.any k=xs.any f:=by
 induction h with
 | nil=>rfl
 | cons h _ ih=>rw [List.any_cons,List.any_cons,ih,e _ _ h]
theorem R2.filter (h:R2 R xs vs) {f:α→Bool}{k:β→Bool}(e:∀x v,R x v→k v=f x):R2 R (xs.filter f) (vs.filter k):=by
 induction h with
 | nil=>exact .nil
 | @cons x v _ _ h _ ih =>
  induction e1:f x with
  | true=>rw [List.filter_cons_of_pos e1,List.filter_cons_of_pos ((e _ _ h).trans e1)];exact .cons h ih
  | false=>rw [List.filter_cons_of_neg (Kv e1),List.filter_cons_of_neg (Kv ((e _ _ h).trans e1))];exact ih
theorem R2.map {S:α→β→Prop}(h:R2 R xs vs) {f:α→α}{k:β→β}(e:∀x v,R x v→S (f x) (k v)):R2 S (xs.map f) (vs.map k):=by
 induction h with
 | nil=>exact .nil
 | cons h _ ih=>exact .cons (e _ _ h) ih
theorem R2.maps {γ:Type}(h:R2 R xs vs) {f:α→γ}{k:β→γ}(e:∀x v,R x v→k v=f x):vs.map k=xs.map f:=by
 induction h with
 | nil=>rfl
 | cons h _ ih=>rw [List.map_cons,List.map_cons,ih,e _ _ h]
end
section
variable {p:Program}{w:World}{g:Heap}{ρ:List Addr}
theorem YX {xs:List D}{vs:List Value}:VRs p w g xs vs↔R2 (VR p w g) xs vs:=by
 refine ⟨fun h=>?_,fun h=>?_⟩
 ·induction xs generalizing vs with
  | nil=>exact h▸.nil
  | cons x xs ih=>refine Zc h fun v r e h1 h2=>?_;exact e▸.cons h1 (ih h2)
 ·induction h with
  | nil=>rfl
  | cons h _ ih=>exact ⟨_,_,rfl,h,ih⟩
theorem Xo {xs:List A}{vs:List Value}:ARs p w g ρ xs vs↔R2 (AR p w g ρ) xs vs:=by
 refine ⟨fun h=>?_,fun h=>?_⟩
 ·induction xs generalizing vs with
  | nil=>exact h▸.nil
  | cons x xs ih=>refine Zc h fun v r e h1 h2=>?_;exact e▸.cons h1 (ih h2)
 ·induction h with
  | nil=>rfl
  | cons h _ ih=>exact ⟨_,_,rfl,h,ih⟩
theorem Zfa {xs:List (Str×D)}{vs:List (Str×Value)}:VRe p w g xs vs↔R2 (PR (VR p w g)) xs vs:=by
 refine ⟨fun h=>?_,fun h=>?_⟩
 ·induction xs generalizing vs with
  | nil=>exact h▸.nil
  | cons x xs ih=>refine Zc h fun v r e h1 h2=>?_;exact e▸.cons ⟨rfl,h1⟩ (ih h2)
 ·induction h with
  | nil=>rfl
  | @cons x v _ _ h _ ih=>exact ⟨v.2,_,h.1▸rfl,h.2,ih⟩
theorem Y1 {xs:List (Str×A)}{vs:List (Str×Value)}:ARe p w g ρ xs vs↔R2 (PR (AR p w g ρ)) xs vs:=by
 refine ⟨fun h=>?_,fun h=>?_⟩
 ·induction xs generalizing vs with
  | nil=>exact h▸.nil
  | cons x xs ih=>refine Zc h fun v r e h1 h2=>?_;exact e▸.cons ⟨rfl,h1⟩ (ih h2)
 ·induction h with
  | nil=>rfl
  | @cons x v _ _ h _ ih=>exact ⟨v.2,_,h.1▸rfl,h.2,ih⟩
end
end
section
section
variable {p:Program}{w:World}{g:Heap}
theorem Zu {xs:List D}{vs:List Value}(h:VRs p w g xs vs):vs.length=xs.length:=(YX.mp h).len
theorem Zc7 {xs:List D}{vs:List Value}{i:Nat}{x:D}(h:VRs p w g xs vs) (e:xs[i]?=some x):∃v,vs[i]?=some v∧VR p w g x v:=(YX.mp h).get e
theorem YO {xs:List D}{vs:List Value}{i:Nat}{v:Value}(h:VRs p w g xs vs) (e:vs[i]?=some v):∃x,xs[i]?=some x∧VR p w g x v:=(YX.mp h).getR e
theorem ZhG {xs:List D}{vs:List Value}(n:Nat) (h:VRs p w g xs vs):VRs p w g (xs.drop n) (vs.drop n):=YX.mpr ((YX.mp h).drop n)
theorem ZhP {xs:List D}{vs:List Value}(n:Nat) (h:VRs p w g xs vs):VRs p w g (xs.take n) (vs.take n):=YX.mpr ((YX.mp h).take n)
theorem Zec {xs:List D}{vs:List Value}(h:VRs p w g xs vs):VRs p w g xs.reverse vs.reverse:=YX.mpr (YX.mp h).rev
variable {ρ:List Addr}
theorem Z6 {xs:List A}{vs:List Value}(h:ARs p w g ρ xs vs):vs.length=xs.length:=(Xo.mp h).len
theorem Zar {xs:List A}{vs:List Value}{i:Nat}{x:A}(h:ARs p w g ρ xs vs) (e:xs[i]?=some x):∃v,vs[i]?=some v∧AR p w g ρ x v:=(Xo.mp h).get e
theorem YB {xs ys:List A}{vs us:List Value}(h:ARs p w g ρ xs vs) (h2:ARs p w g ρ ys us):ARs p w g ρ (xs++ys) (vs++us):=Xo.mpr ((Xo.mp h).app (Xo.mp h2))
theorem Zdr {xs:List A}{vs:List Value}{x:A}{v:Value}(h:ARs p w g ρ xs vs) (h':AR p w g ρ x v):ARs p w g ρ (xs++[x]) (vs++[v]):=YB h ⟨v,[],rfl,h',rfl⟩
theorem U1 {xs:List A}{vs:List Value}(h:ARs p w g ρ xs vs):ARs p w g ρ xs.reverse vs.reverse:=Xo.mpr (Xo.mp h).rev
theorem UF {xs ys:List A}{us:List Value}(h:ARs p w g ρ (xs++ys) us):∃a b,us=a++b∧ARs p w g ρ xs a∧ARs p w g ρ ys b:=by
 induction xs generalizing us with
 | nil=>exact ⟨[],us,rfl,rfl,h⟩
 | cons x xs ih =>
  refine Zc h fun v r e h1 h2=>?_;refine Zc (ih h2) fun a b e2 h3 h4=>?_;exact ⟨v::a,b,by rw [e,e2];rfl,⟨v,a,rfl,h1,h3⟩,h4⟩
theorem Zai {xs:List D}{vs:List Value}:ARs p w g ρ (xs.map .d) vs↔VRs p w g xs vs:=by
 induction xs generalizing vs with
 | nil=>exact Iff.rfl
 | cons x xs ih=>exact exists_congr fun v=>exists_congr fun r=>and_congr_right fun j=>and_congr_right fun j=>ih
end
theorem WY {α:Type}(l:List α) (a n:Nat):(List.range n).filterMap (fun k=>l[a+k]?)=(l.drop a).take n:=by
 induction n with
 | zero=>simp
 | succ n ih =>
  rw [List.range_succ,List.filterMap_append,ih,List.take_add_one];congr 1;rw [List.getElem?_drop];induction h:l[a+n]? <;> simp [h]
noncomputable def Ye (d:Nat) (x:Option Int) (n:Nat):Nat:=match x with
 | none=>d
 | some i=>(max 0 (min (if i<0 then i+n else i) n)).toNat
noncomputable def cut {α:Type}(l:List α) (lo hi:Option Int):List α:=(l.drop (Ye 0 lo l.length)).take (Ye l.length hi l.length - Ye 0 lo l.length)
theorem Zgo (d:Nat) (x:Option Int) (n:Nat) (h:d≤n):Ye d x n≤n:=by
 unfold Ye;split
 ·exact h
 ·split <;> lia
theorem ZaW {α:Type}(l:List α) (a b:Nat):(sliceRange (a:Int) (b:Int) 1).filterMap (l[·]?)=(l.drop a).take (b - a):=by
 unfold sliceRange;simp only [show (1:Int) > 0 from by decide,if_true,List.filterMap_map];have e:((if (a:Int)<b then ((b:Int) - a+1 - 1) / 1 else 0):Int).toNat=b - a:=by split <;> lia
 rw [e,←WY];congr 1;funext k;simp only [Function.comp];congr 1;lia
theorem ZjI (vs:List Value) (lo hi:Option Int):(PySem.slicePick vs.toArray lo hi none).toList=cut vs lo hi:=by
 unfold PySem.slicePick cut;have key:∀(x:Option Int) (d:Nat),(match x with
  | none=>(d:Int)
  | some i=>(let i:=if i<0 then i+(vs.toArray.size:Int) else i;if (1:Int) > 0 then max 0 (min i vs.toArray.size) else max (-1) (min i ((vs.toArray.size:Int) - 1))))=(Ye d x vs.length:Int):=by
  intro x d;induction x with
  | none=>rfl
  | some i =>
   simp only [show (1:Int) > 0 from by decide,if_true,Ye,List.size_toArray];split <;> lia
 have hb:PySem.sliceBounds lo hi none vs.toArray.size=((Ye 0 lo vs.length:Int),(Ye vs.length hi vs.length:Int),1):=by
  unfold PySem.sliceBounds;dsimp only [Option.getD_none,show (1:Int) > 0 from by decide,if_true];rw [←(key lo 0),←(key hi vs.length)];induction lo using Option.casesOn <;> induction hi using Option.casesOn <;> rfl
 rw [hb];dsimp only;rw [←ZaW];simp
noncomputable def Wv (x:Str) (lo hi:Option Int):Str:=⟨(cut x.cps.toList lo hi).toArray⟩
theorem WL (i:Int) (n:Nat):max 0 (min (if i<0 then i+(n:Int) else i) n)=(((max 0 (min (if i<0 then i+(n:Int) else i) n)).toNat:Nat):Int):=by split <;> lia
theorem Zgh (n:Nat) (lo hi:Option Int):Builtin.Str.strSliceIndices lo hi 1 n=sliceRange (Ye 0 lo n:Nat) (Ye n hi n:Nat) 1:=by
 unfold Builtin.Str.strSliceIndices;simp only [show (1:Int) > 0 from by decide,if_true];induction lo with
 | none=>induction hi with
  | none=>rfl
  | some j=>simp only [Ye];rw [←WL];rfl
 | some i=>induction hi with
  | none=>simp only [Ye];rw [←WL]
  | some j=>simp only [Ye];rw [←WL,←WL]
theorem Zlt (x:Str) (lo hi:Option Int):(((Builtin.Str.strSliceIndices lo hi 1 x.length).filterMap (x.cps[·]?)).toArray:Array Nat)=(cut x.cps.toList lo hi).toArray:=by
 rw [Zgh];congr 1;have e:x.length=x.cps.toList.length:=by rfl
 unfold cut;rw [←e,←ZaW];simp
theorem Zf5 {α:Type}(l:List α) (lo hi:Option Int):(cut l lo hi).length≤l.length:=by
 unfold cut;rw [List.length_take,List.length_drop];lia
theorem Zbm (x:Str) (lo hi:Option Int):(Wv x lo hi).length≤x.length:=by
 have:=Zf5 x.cps.toList lo hi;exact this
end
section
section
variable {c:Cx}{F:Fz}{st:St}{vs:List Value}{s:Shared}{g:Heap}{ρ:List Addr}{m:Str→Option Value}
theorem RSW.size_nomut (R:RSW c F st vs s g ρ m):s.heap.objs.size∉Z0 c.G F (c.env.locals::ρ):=fun h=>by
 refine oze (R.thereM _ h) fun o e=>?_;exact Nat.lt_irrefl _ (Kk e)
theorem Sub.none {g h:Heap}(x:Sub g h) {a:Addr}(e:h.get? a = .none):g.get? a = .none:=by
 induction q:g.get? a with
 | none=>rfl
 | some o=>rw [x _ _ q] at e;exact Zmk e
theorem Zbl (h:Heap):h.get? h.objs.size = .none:=by
 induction q:h.get? h.objs.size with
 | none=>rfl
 | some o=>exact absurd (Kk q) (Nat.lt_irrefl _)
theorem RSW.allocD (R:RSW c F st vs s g ρ m) (ob:Obj) (t:Nat) (hf:ob.isFreed=false):∃g',RSW c F st vs {s with heap:=s.heap.push ob,toks:=t} g' ρ m∧Sub g g'∧g'.get? s.heap.objs.size=some ob:=by
 have R1:=R.alloc ob t;refine ⟨_,R1.canon,fun b o e=>?_,?_⟩
 ·exact W.hideAll_get _ (R1.keep b o e) fun hb=>by rw [R1.nomut b hb] at e;exact Zo e
 ·exact W.hideAll_get _ (Kh _ hf) R.size_nomut
theorem RSW.allocO (R:RSW c F st vs s g ρ m) (ob:Obj) (t:Nat) {o':O}(ho:OAt c.p c.w g (ρ++[s.heap.objs.size]) (s.heap.push ob) o' s.heap.objs.size) :
 RSW c F ⟨st.loc,st.own++[o'],st.stk⟩ vs {s with heap:=s.heap.push ob,toks:=t} g (ρ++[s.heap.objs.size]) m :=
 (R.alloc ob t).newOwn (R.keep.none (Zbl _)) R.size_nomut ho
end
def GJ (c:Cx) (es:List Expr) (st:St) (Q:St→Prop):Prop :=
 ∀F vs s pos,RS c F st vs s→wpAny (model c.p c.w) c.A (spliced (backTo pos (starEach es c.env))) (fun us s'=>us.length=es.length∧Got c F (us.reverse++vs) Q s') NoE s
noncomputable def Zhl:Nat→List A→Option (List D×List A)
 | 0,k=>some ([],k)
 | n+1,.d x::k=>(Zhl n k).map fun q=>(q.1++[x],q.2)
 | _+1,_=>none
noncomputable def Zhr:Nat→List A→Option (List A×List A)
 | 0,k=>some ([],k)
 | n+1,x::k=>(Zhr n k).map fun q=>(q.1++[x],q.2)
 | _+1,[]=>none
section
variable {c:Cx}{st:St}{l:List (Nat×A)}{o:List O}{k:List A}{Q:St→Prop}{QB:Bool→St→Prop}{QF:Fl→St→Prop}
theorem XQ (h:Q st):GJ c [] st Q:=fun j j j j R=>spliced_none ⟨rfl,st,R,h⟩
noncomputable def Yn (e:Expr):Bool:=e.ctorIdx==22
theorem ZP {e:Expr}(r:List Expr) (env:Env) (h:Yn e=false):starEach (e::r) env=(false,eval e env)::starEach r env:=by
 induction e using Expr.casesOn <;> first | rfl | exact Ze2 h
theorem ZY {e es}(h:EJ c e st fun st1=>GJ c es st1 Q) (he:Yn e=false:=by rfl):GJ c (e::es) st Q:=fun F vs s pos R =>
 spliced_more (wpm (h F vs s R) (fun v j zq0=>by refine ozg zq0 fun j R1 h1=>?_;exact Kb (h1 F (v::vs) _ pos R1) (fun us j zq1=>by obtain ⟨hl,st2,R2,h2⟩:=zq1;exact ⟨by simp [hl],st2,by simpa using R2,h2⟩) fun j j x=>x)) (ZP _ _ he)
theorem ZfR {n:Nat}{k r:List A}{xs:List D}(h:Zhl n k=some (xs,r)):k=(xs.map A.d).reverse++r∧xs.length=n:=by
 induction n generalizing k xs r with
 | zero=>refine oza (Prod.mk.inj (Kc h)) fun h1 h2=>?_;rw [←h1,←h2];exact ⟨rfl,rfl⟩
 | succ n ih=>induction k using LLc with
  | nil=>exact Zo h
  | cons a k=>induction a using A.casesOn with
   | d x =>
    refine Zb (Z9 h) fun zo2 h1 h2=>?_;obtain ⟨ys,r'⟩:=zo2;refine oza (Prod.mk.inj h2) fun h3 h4=>?_;refine oza (ih h1) fun e hl=>?_;rw [←h3,←h4,e];exact ⟨by rw [List.map_append,List.reverse_append];rfl,by rw [List.length_append,hl];rfl⟩
   | own _=>exact Zo h
   | view _ _=>exact Zo h
theorem Zfm {n:Nat}{k r:List A}{xs:List A}(h:Zhr n k=some (xs,r)):k=xs.reverse++r∧xs.length=n:=by
 induction n generalizing k xs r with
 | zero=>refine oza (Prod.mk.inj (Kc h)) fun h1 h2=>?_;rw [←h1,←h2];exact ⟨rfl,rfl⟩
 | succ n ih=>induction k using LLc with
  | nil=>exact Zo h
  | cons x k =>
   refine Zb (Z9 h) fun zo2 h1 h2=>?_;obtain ⟨ys,r'⟩:=zo2;refine oza (Prod.mk.inj h2) fun h3 h4=>?_;refine oza (ih h1) fun e hl=>?_;rw [←h3,←h4,e];exact ⟨by rw [List.reverse_append];rfl,by rw [List.length_append,hl];rfl⟩
theorem ZfY {a b a' b':List Value}(h:a++b=a'++b') (hl:a.length=a'.length):a=a'∧b=b':=List.append_inj h hl
theorem Zy {G:Gx}{g:Heap}{ρ:List Addr}{xs r:List A}{us vs:List Value}(h:ARs G.p G.w g ρ (xs.reverse++r) (us.reverse++vs)) (hl:us.length=xs.length):ARs G.p G.w g ρ xs us∧ARs G.p G.w g ρ r vs:=by
 refine Zc (UF h) fun a b e h1 h2=>?_;refine oza (ZfY e (by rw [Z6 h1];simp [hl])) fun e1 e2=>?_;subst e2;have h3:=U1 h1;rw [←e1] at h3;simp at h3;exact ⟨h3,h2⟩
theorem ZcO {es pos}(hn:es.length≤1000) (h:GJ c es st fun st1=>∃xs r,Zhl es.length st1.stk=some (xs,r)∧Q ⟨st1.loc,st1.own,.d (.list xs)::r⟩):EJ c (.List es pos) st Q:=fun F vs s R =>
 List_ (wpm (h F vs s pos R) (fun us s1 zq2=>by
  refine Ka fun zn6=>?_;obtain ⟨hl,st1,⟨g,ρ,m,W⟩,xs,r,hp,h1⟩:=zq2;refine oza (ZfR hp) fun e hx=>?_;refine zn6 ?_;have q:=W.stk;rw [e] at q;refine Ka fun zn7=>?_;refine oza (Zy q (by simp [hl,hx])) fun q1 q2=>?_;refine Zx (W.allocD {cls:=.type "list",data:=.seq us.toArray} s1.toks rfl) fun g' W' sb hg=>?_;refine zn7 ?_;refine wpAny_newList ⟨_,⟨g',ρ,m,W'.stack (Zg ?_ (ARs.sub _ _ sb (Ext.refl _) _ _ q2))⟩,h1⟩ (by rw [sizeLine_eq];lia);exact ⟨_,us,rfl,⟨_,hg,rfl,0,rfl⟩,VRs.sub _ _ sb _ _ (Zai.mp q1)⟩))
theorem Zkq {es pos}(hn:es.length≤1000) (h:GJ c es st fun st1=>∃xs r,Zhr es.length st1.stk=some (xs,r)∧Q ⟨st1.loc,st1.own++[.list xs],.own st1.own.length::r⟩):EJ c (.List es pos) st Q:=fun F vs s R =>
 List_ (wpm (h F vs s pos R) (fun us s1 zq3=>by
  refine Ka fun zn8=>?_;obtain ⟨hl,st1,⟨g,ρ,m,W⟩,xs,r,hp,h1⟩:=zq3;refine oza (Zfm hp) fun e hx=>?_;refine zn8 ?_;have q:=W.stk;rw [e] at q;refine oza (Zy q (by simp [hl,hx])) fun q1 q2=>?_;have ex:Ext ρ (ρ++[s1.heap.objs.size]):=fun i b e=>by
   obtain ⟨l,j⟩:=ZI e;rw [Kl l];exact e
  have W':=W.allocO {cls:=.type "list",data:=.seq us.toArray} s1.toks (o':=.list xs) ⟨us,⟨0,Kh _ rfl⟩,ARs.sub _ _ (Sub.refl _) ex _ _ q1⟩;refine wpAny_newList ⟨_,⟨g,_,m,W'.stack (Zg ?_ (ARs.sub _ _ (Sub.refl _) ex _ _ q2))⟩,h1⟩ (by rw [sizeLine_eq];lia);exact ⟨_,by rw [←W.len];simp,rfl⟩))
theorem Zgu {es n pos}(hn:es.length≤1000) (h:GJ c es st fun st1=>∃xs r,Zhl es.length st1.stk=some (xs,r)∧Q ⟨st1.loc,st1.own,.d (.tuple xs)::r⟩):EJ c (.Tuple es n pos) st Q:=fun F vs s R =>
 Tuple_ (wpm (h F vs s pos R) (fun us s1 zq4=>by
  refine Ka fun zn11=>?_;obtain ⟨hl,st1,⟨g,ρ,m,W⟩,xs,r,hp,h1⟩:=zq4;refine oza (ZfR hp) fun e hx=>?_;refine zn11 ?_;have q:=W.stk;rw [e] at q;refine Ka fun zn12=>?_;refine oza (Zy q (by simp [hl,hx])) fun q1 q2=>?_;refine Zx (W.allocD {cls:=.type "tuple",data:=.seq us.toArray} s1.toks rfl) fun g' W' sb hg=>?_;refine zn12 ?_;refine wpAny_newTuple ⟨_,⟨g',ρ,m,W'.stack (Zg ?_ (ARs.sub _ _ sb (Ext.refl _) _ _ q2))⟩,h1⟩ (by rw [sizeLine_eq];lia);exact ⟨_,us,rfl,⟨_,hg,rfl,0,rfl⟩,VRs.sub _ _ sb _ _ (Zai.mp q1)⟩))
theorem Zqq {v sl pos}(h:EJ c v st fun st1=>EJ c sl st1 fun st2=>OJ2 c (subscriptTail v sl) st2 Q):EJ c (.Subscript v sl pos) st Q:=fun F vs s R =>
 Subscript_ (wpm (h F vs s R) (fun a j zq5=>by obtain ⟨j,R1,h1⟩:=zq5;exact Kb (h1 F (a::vs) _ R1) (fun b j zq6=>by refine ozg zq6 fun j R2 h2=>?_;exact h2 F a b vs _ R2) fun j j x=>x))
theorem Zn5 {v sl}{xs:List D}{i:Int}{x:D}(h0:0≤i) (h1:i<2 ^ 63) (hx:xs[i.toNat]?=some x) (q:Q ⟨l,o,.d x::k⟩) (hs:∀a b,subscripted sl false a b=operate [a,b] (getItem a b):=by intro j j;rfl):OJ2 c (subscriptTail v sl) ⟨l,o,.d (.int i)::.d (.list xs)::k⟩ Q :=
 o2 (fun j j j s g ρ m j j W zq7_0 zq7_1 j h=>by
  refine Zc zq7_0 fun a us e1 hl hv=>?_;refine oze zq7_1 fun j e2=>?_;subst e1 e2;have hl':=(hl.sub W.keep).isList;refine Zb (Zc7 hv hx) fun u hu hr=>?_;exact tail_any hl'.typeIs slot_list_getitem.lookup (wpAny_getItem_list hl' h0 h1 (by simpa using hu) (h u s.toks hr)) (hs _ _)) q
theorem Zmp {v sl}{xs:List D}{i:Int}{x:D}(h0:i<0) (h1 : -(xs.length:Int)≤i) (h2 : -(2 ^ 63)≤i) (hx:xs[(i+xs.length).toNat]?=some x) (q:Q ⟨l,o,.d x::k⟩) (hs:∀a b,subscripted sl false a b=operate [a,b] (getItem a b):=by intro j j;rfl):OJ2 c (subscriptTail v sl) ⟨l,o,.d (.int i)::.d (.list xs)::k⟩ Q :=
 o2 (fun j j j s g ρ m j j W zq8_0 zq8_1 j h=>by
  refine Zc zq8_0 fun a us e1 hl hv=>?_;refine oze zq8_1 fun j e2=>?_;subst e1 e2;have hl':=(hl.sub W.keep).isList;refine Zb (Zc7 hv hx) fun u hu hr=>?_;have hn:=Zu hv;exact tail_any hl'.typeIs slot_list_getitem.lookup (wpAny_getItem_list_neg hl' h0 (by simpa [hn] using h1) h2 (by simpa [hn] using hu) (h u s.toks hr)) (hs _ _)) q
theorem Zpc {v sl}{xs:List D}{i:Int}{x:D}(h0:0≤i) (h1:i<2 ^ 63) (hx:xs[i.toNat]?=some x) (q:Q ⟨l,o,.d x::k⟩) (hs:∀a b,subscripted sl false a b=operate [a,b] (getItem a b):=by intro j j;rfl):OJ2 c (subscriptTail v sl) ⟨l,o,.d (.int i)::.d (.tuple xs)::k⟩ Q :=
 o2 (fun j j j s g ρ m j j W zq9_0 zq9_1 j h=>by
  refine Zc zq9_0 fun a us e1 hl hv=>?_;refine oze zq9_1 fun j e2=>?_;subst e1 e2;refine Zb (Zc7 hv hx) fun u hu hr=>?_;have hlt:i.toNat<us.length:=(ZI hu).1;exact item_tupleT ((hl.sub W.keep).isTup) (by lia) h1 (PyProof.Rows.seqIndex_at h0 (by lia)) hu (h u s.toks hr) (hs _ _)) q
theorem ZpN {v sl}{x:Str}{i:Int}{ch:Nat}(h0:0≤i) (h1:i<2 ^ 63) (hx:x.cps[i.toNat]?=some ch) (q:Q ⟨l,o,.d (.str ⟨#[ch]⟩)::k⟩) (hs:∀a b,subscripted sl false a b=operate [a,b] (getItem a b):=by intro j j;rfl):OJ2 c (subscriptTail v sl) ⟨l,o,.d (.int i)::.d (.str x)::k⟩ Q :=
 o2 (fun j j j s g ρ m j j W zq10_0 zq10_1 j h=>by
  obtain ⟨j,e1⟩:=zq10_0;obtain ⟨j,e2⟩:=zq10_1;subst e1 e2;have hlt:i.toNat<x.cps.size:=(Array.getElem?_eq_some_iff.mp hx).1;have hx':(seqIndex? i x.length).bind (x.cps[·]?)=some ch:=by rw [PyProof.Rows.seqIndex_at h0 (by unfold Str.length;lia)];exact hx
  refine tail_any (T:="str") (by rfl) slot_str_getitem.lookup (getItem_str ?_ hx' (h _ _ X9)) (hs _ _);simp only [Bool.or_eq_false_iff,decide_eq_false_iff_not];lia) q
theorem Znu {v sl}{x:Str}{i:Int}{ch:Nat}(h0:i<0) (h1 : -(x.cps.size:Int)≤i) (h2 : -(2 ^ 63)≤i) (hx:x.cps[(i+x.cps.size).toNat]?=some ch) (q:Q ⟨l,o,.d (.str ⟨#[ch]⟩)::k⟩) (hs:∀a b,subscripted sl false a b=operate [a,b] (getItem a b):=by intro j j;rfl):OJ2 c (subscriptTail v sl) ⟨l,o,.d (.int i)::.d (.str x)::k⟩ Q :=
 o2 (fun j j j s g ρ m j j W zq11_0 zq11_1 j h=>by
  obtain ⟨j,e1⟩:=zq11_0;obtain ⟨j,e2⟩:=zq11_1;subst e1 e2;have hx':(seqIndex? i x.length).bind (x.cps[·]?)=some ch:=by rw [PyProof.Rows.seqIndex_back h0 (by unfold Str.length;lia)];exact hx
  refine tail_any (T:="str") (by rfl) slot_str_getitem.lookup (getItem_str ?_ hx' (h _ _ X9)) (hs _ _);simp only [Bool.or_eq_false_iff,decide_eq_false_iff_not];lia) q
noncomputable def Yb (x:Str):List (Str×D)→Option D
 | []=>none
 | q::r=>if q.1=x then some q.2 else Yb x r
theorem ZcF {p:Program}{w:World}{g:Heap}{x:Str}{d:D}:∀{es:List (Str×D)}{kvs:List (Str×Value)},VRe p w g es kvs→Yb x es=some d→∃v,PySem.valueAt kvs x=some v∧VR p w g d v:=by
 intro es;induction es with
 | nil=>intro kvs j h;exact Zo h
 | cons e es ih =>
  intro kvs ⟨v,r,e1,h1,h2⟩ h;subst e1;unfold Yb at h;unfold PySem.valueAt;by_cases hk:e.1=x
  ·rw [if_pos hk] at h;obtain rfl:=Kc h;exact ⟨v,by simp [hk],h1⟩
  ·rw [if_neg hk] at h;refine Zb (ih h2 h) fun u hu hr=>?_;exact ⟨u,by unfold PySem.valueAt at hu;simpa [hk] using hu,hr⟩
theorem Zex {p:Program}{w:World}{g:Heap}{x:Str}:∀{es:List (Str×D)}{kvs:List (Str×Value)},VRe p w g es kvs→Yb x es=none→PySem.valueAt kvs x=none:=by
 intro es;induction es with
 | nil=>intro kvs h j;subst h;rfl
 | cons e es ih =>
  intro kvs ⟨v,r,e1,h1,h2⟩ h;subst e1;unfold Yb at h;unfold PySem.valueAt;by_cases hk:e.1=x
  ·rw [if_pos hk] at h;exact Zmk h
  ·rw [if_neg hk] at h
   have:=ih h2 h;unfold PySem.valueAt at this;simpa [hk] using this
theorem Zoj {v sl}{es:List (Str×D)}{x:Str}{d:D}(hx:Yb x es=some d) (q:Q ⟨l,o,.d d::k⟩) (hs:∀a b,subscripted sl false a b=operate [a,b] (getItem a b):=by intro j j;rfl):OJ2 c (subscriptTail v sl) ⟨l,o,.d (.str x)::.d (.dict es)::k⟩ Q :=
 o2 (fun j j j s g ρ m j j W zq12_0 zq12_1 j h=>by
  refine Yk zq12_0 fun a kvs e1 hn hl hv=>?_;refine oze zq12_1 fun t e2=>?_;subst e1 e2;have hl':=ZA _ _ W.keep hl;refine Zb (ZcF hv hx) fun u hu hr=>?_;exact tail_any hl'.typeIs slot_dict_getitem.lookup (wpAny_getItem_of (strKind_is _ _ x t) hl'.mapOf hu (h u _ hr)) (hs _ _)) q
end
end
section
def ZF (c:Cx) (f:Value) (h:Heap):Prop:=∃k,(k=Keeper.frame∨k=Keeper.machine∨k=Keeper.boundFrame)∧W.Looks (model c.p c.w) h (keeperOf f) k
theorem Zj {c:Cx}{id:String}{h:Heap}:ZF c (.builtin id) h:=⟨.machine,.inr (.inl rfl),W.Looks.of_pure rfl⟩
theorem Xm {c:Cx}{id:String}{h:Heap}:ZF c (.type id) h:=⟨.machine,.inr (.inl rfl),W.Looks.of_pure rfl⟩
theorem ZkA {c:Cx}{a:Addr}{ob:Obj}{fd:FuncData}{h:Heap}(e:h.get? a=some ob) (hd:ob.data = .func fd):ZF c (.ref a) h :=
 ⟨.frame,.inl rfl,(W.Looks.ld (part:=none) e).andThen (by rw [hd];exact .now)⟩
def CJ (c:Cx) (n:Nat) (st:St) (Q:St→Prop):Prop :=
 ∀F f us vs s,us.length=n→RS c F st (us.reverse++f::vs) s→ZF c f s.heap∧wpAny (model c.p c.w) c.A (call f us) (EQ c F vs Q) NoE s
def MJ (c:Cx) (name:Str) (st:St) (Q:Nat→St→Prop):Prop :=
 ∀F ov vs s pl,RS c F st (ov::vs) s→wpAny (model c.p c.w) c.A (getMethod ov name pl) (fun fx s'=>Got c F (fx.2.reverse++fx.1::vs) (Q fx.2.length) s') NoE s
section
variable {c:Cx}{st:St}{l:List (Nat×A)}{o:List O}{k:List A}{Q:St→Prop}{QB:Bool→St→Prop}{QF:Fl→St→Prop}
noncomputable def Xd (e:Expr):Bool:=e.ctorIdx==20
noncomputable def Xw:Expr→Bool
 | .Name .. => false
 | .Attribute .. => false
 | .Subscript .. => false
 | .Constant .. => false
 | .Call (.Attribute ..) _ _ _=>false
 | .Call (.Name id _) _ _ _=>id==("super":Str)
 | _=>true
noncomputable def Zt (es:List Expr):Bool:=es.all (!Yn ·)
theorem Y2 {fe:Expr}(es:List Expr) (pos:Pos) (env:Env) (h:Xd fe=false):eval (.Call fe es [] pos) env=(do callWith pos (←eval fe env) [] (backTo pos (starEach es env)) (backToKw pos (keywordEach [] env))):=by
 induction fe using Expr.casesOn <;> first | rfl | exact Ze2 h
theorem UO {e:Expr}{r:List Expr}(h:Zt (e::r)=true):Yn e=false∧Zt r=true:=by
 unfold Zt at h;rw [List.all_cons] at h;refine oza (Yp h) fun h1 h2=>?_;induction e1:Yn e with
 | true=>rw [e1] at h1;exact YU h1
 | false=>exact ⟨rfl,h2⟩
theorem Xn {env:Env}{pos:Pos}{es:List Expr}(h:Zt es=true):(backTo pos (starEach es env)).any (·.1)=false∧(backTo pos (starEach es env)).all (!·.1)=true:=by
 induction es with
 | nil=>exact ⟨rfl,rfl⟩
 | cons e r ih=>rw [ZP r env (UO h).1];exact ih (UO h).2
theorem ZbP {M:Model}{A:Around}{E:Value→Shared→Prop}{Q:Value→Shared→Prop}{s:Shared}{oe:Expr}{name:Str}{env:Env}{whole:Sem Value}(h:Xw oe=false) (hq:wpAny M A whole Q E s):wpAny M A (attributeBase oe name env whole) Q E s:=by
 induction oe using Expr.casesOn <;> first | exact hq | exact Ze2 h | skip
 rename_i f as ks p;induction f using Expr.casesOn <;> first | exact hq | exact Ze2 h | skip
 rename_i id q;induction as using LLc with
 | cons=>exact hq
 | nil =>
  induction ks using LLc with
  | cons=>exact hq
  | nil =>
   have e:(id != ("super":Str))=true:=by show (!(id==("super":Str)))=true;rw [show (id==("super":Str))=false from h];rfl
   unfold attributeBase;dsimp only;rw [e];exact hq
theorem Uf {F:Fz}{oe:Expr}{name:Str}{apos pos:Pos}{es:List Expr}{vs:List Value}{s:Shared}{Qv:Value→Shared→Prop}{E:Value→Shared→Prop}(hb:Xw oe=false) (hs:Zt es=true) (hn:decide (es.length<30)=true) (hl:(apos.endLine==pos.line)=true)
 (h:wpAny (model c.p c.w) c.A (eval oe c.env) (fun ov s1=>∀pl:Sem Bool,wpAny (model c.p c.w) c.A (getMethod ov name pl) (fun fx s2=>wpAny (model c.p c.w) c.A (callWith pos fx.1 fx.2 (backTo pos (starEach es c.env)) []) Qv E s2) E s1) E s) :
 wpAny (model c.p c.w) c.A (eval (.Call (.Attribute oe name apos) es [] pos) c.env) Qv E s:=by
 have e:eval (.Call (.Attribute oe name apos) es [] pos) c.env=(do
  let ov ←attributeBase oe name c.env (eval oe c.env)
  standAt apos.atName
  methodCall oe name apos pos c.env ov (es.length+0) (backTo pos (starEach es c.env)) (backToKw pos (keywordEach [] c.env))):=rfl
 rw [e];refine Kd (wpm (ZbP hb h) (fun ov s1 h1=>Kd (wpAny_standAt ?_)));have hf:methodCallForm (es.length+0) (backTo pos (starEach es c.env)) (backToKw pos (keywordEach [] c.env))=true:=by
  unfold methodCallForm;rw [(Xn (pos:=pos) (env:=c.env) hs).2]
  have:=Kw hn;simp [backToKw,show keywordEach [] c.env=[] from rfl];assumption
 unfold methodCall;rw [hf];refine Kd (wpAny_holding ?_);dsimp only [if_true];refine wpm (h1 _) (fun fx s2 h2=>?_);unfold methodCallPos;simp only [hl,Bool.not_true,Bool.false_or,if_true];exact Kd (Ki h2)
theorem ZaQ {F:Fz}{pos:Pos}{f:Value}{first:List Value}{e:Expr}{r:List Expr}{st:St}{vs:List Value}{s:Shared}(R:RS c F st (first.reverse++f::vs) s) (h:GJ c (e::r) st fun st1=>CJ c (first.length+(e::r).length) st1 Q)
 (he:Zt (e::r)=true) :
 wpAny (model c.p c.w) c.A (callWith pos f first (backTo pos (starEach (e::r) c.env)) []) (EQ c F vs Q) NoE s:=by
 refine W.callWith_of (P:=fun h=>ZF c f h) (by rw [(Xn (pos:=pos) (env:=c.env) he).1];rfl) (fun h hk=>hk) ?_;have key:=h F (first.reverse++f::vs) s pos R
 have h':Yn e=false:=by have:Yn e=false∧Zt r=true:=by simpa [Zt] using he
                        exact this.1
 rw [ZP r _ h'] at key ⊢;refine evalArgs_plain (wpm key (fun us s1 zq0=>?_));refine Ka fun zn1=>?_;obtain ⟨hl,st1,R1,h1⟩:=zq0;refine zn1 ?_;have R2:RS c F st1 ((first++us).reverse++f::vs) s1:=by simpa using R1
 exact h1 F f (first++us) vs s1 (by simp [hl]) R2
theorem Zag {F:Fz}{pos:Pos}{f:Value}{first:List Value}{st:St}{vs:List Value}{s:Shared}(R:RS c F st (first.reverse++f::vs) s) (h:CJ c first.length st Q) :
 wpAny (model c.p c.w) c.A (callWith pos f first (backTo pos (starEach [] c.env)) []) (EQ c F vs Q) NoE s:=by
 refine W.callWith_of (P:=fun h=>ZF c f h) rfl (fun h hk=>hk) (evalArgs_nil3 ?_);refine oza (h F f first vs s rfl R) fun h1 h2=>?_;exact ⟨h1,by simpa using h2⟩
theorem Zff {fe:Expr}{e:Expr}{r:List Expr}{pos:Pos}(h:EJ c fe st fun st1=>GJ c (e::r) st1 fun st2=>CJ c (e::r).length st2 Q) (ha:Xd fe=false:=by rfl) (hs:Zt (e::r)=true:=by rfl):EJ c (.Call fe (e::r) [] pos) st Q:=fun F vs s R=>by
 rw [Y2 _ _ _ ha];refine Kd (wpm (h F vs s R) (fun f s1 zq1=>?_));refine ozg zq1 fun st1 R1 h1=>?_;exact ZaQ (first:=[]) R1 (by simpa using h1) hs
theorem Zmj {fe:Expr}{pos:Pos}(h:EJ c fe st fun st1=>CJ c 0 st1 Q) (ha:Xd fe=false:=by rfl):EJ c (.Call fe [] [] pos) st Q:=fun F vs s R=>by
 rw [Y2 _ _ _ ha];refine Kd (wpm (h F vs s R) (fun f s1 zq2=>?_));refine ozg zq2 fun st1 R1 h1=>?_;exact Zag (first:=[]) R1 h1
theorem Zax {oe:Expr}{name:Str}{apos pos:Pos}{e:Expr}{r:List Expr}(h:EJ c oe st fun st1=>MJ c name st1 fun n st2=>GJ c (e::r) st2 fun st3=>CJ c (n+(e::r).length) st3 Q)
 (hb:Xw oe=false:=by rfl) (hs:Zt (e::r)=true:=by rfl) (hn:decide ((e::r).length<30)=true:=by rfl) (hl:(apos.endLine==pos.line)=true:=by rfl):EJ c (.Call (.Attribute oe name apos) (e::r) [] pos) st Q:=fun F vs s R =>
 Uf (F:=F) (vs:=vs) hb hs hn hl (wpm (h F vs s R) (fun ov s1 zq3 pl=>by obtain ⟨st1,R1,h1⟩:=zq3;exact Kb (h1 F ov vs s1 pl R1) (fun fx s2 zq4=>by obtain ⟨st2,R2,h2⟩:=zq4;exact ZaQ R2 h2 hs) fun j j x=>x))
theorem Y6 {oe:Expr}{name:Str}{apos pos:Pos}(h:EJ c oe st fun st1=>MJ c name st1 fun n st2=>CJ c n st2 Q)
 (hb:Xw oe=false:=by rfl) (hl:(apos.endLine==pos.line)=true:=by rfl):EJ c (.Call (.Attribute oe name apos) [] [] pos) st Q:=fun F vs s R =>
 Uf (F:=F) (vs:=vs) hb rfl rfl hl (wpm (h F vs s R) (fun ov s1 zq5 pl=>by obtain ⟨st1,R1,h1⟩:=zq5;exact Kb (h1 F ov vs s1 pl R1) (fun fx s2 zq6=>by obtain ⟨st2,R2,h2⟩:=zq6;exact Zag R2 h2) fun j j x=>x))
theorem W9 {n:Nat}{f:Value}{as:List A}{r:A}(hn:as.length=n) (hk:∀h,ZF c f h)
 (h:∀(F:Fz) (st:St) (vs:List Value) (s:Shared) (g:Heap) (ρ:List Addr) (m) (us:List Value),RSW c F st vs s g ρ m→ARs c.p c.w g ρ as us→∀(Q':Value→Shared→Prop),(∀x t,AR c.p c.w g ρ r x→Q' x {s with toks:=t})→wpAny (model c.p c.w) c.A (call f us) Q' NoE s)
 (q:Q ⟨l,o,r::k⟩):CJ c n ⟨l,o,as.reverse++.d (.val f)::k⟩ Q:=fun F f' us vs s hl zq7=>by
 refine Ka fun zn5=>?_;obtain ⟨g,ρ,m,W⟩:=zq7;refine oza (Zy W.stk (by rw [hl,hn])) fun q1 q2=>?_;refine zn5 ?_;have ef:f'=f:=Zd q2;subst ef;exact ⟨hk _,h F _ _ s g ρ m us W q1 _ fun x t hx=>⟨_,⟨g,ρ,m,(W.tok t).stack (Zg hx (Za q2))⟩,q⟩⟩
theorem Yh {p:Program}{w:World}{g:Heap}{ρ:List Addr}{a:A}{us:List Value}(h:ARs p w g ρ [a] us):∃u,us=[u]∧AR p w g ρ a u:=by
 refine Zc h fun u r e h1 h2=>?_;subst h2;exact ⟨u,e,h1⟩
theorem Yz {p:Program}{w:World}{g:Heap}{ρ:List Addr}{a b:A}{us:List Value}(h:ARs p w g ρ [a,b] us):∃u v,us=[u,v]∧AR p w g ρ a u∧AR p w g ρ b v:=by
 refine Zc h fun u r e h1 h2=>?_;refine Zb (Yh h2) fun v e2 h3=>?_;subst e2;exact ⟨u,v,e,h1,h3⟩
theorem ZeF {xs:List D}(hf:xs.length<2 ^ 62) (q:Q ⟨l,o,.d (.int xs.length)::k⟩):CJ c 1 ⟨l,o,.d (.list xs)::.d (.val (.builtin "len"))::k⟩ Q :=
 W9 (as:=[.d (.list xs)]) rfl (fun j=>Zj) (fun F st vs s g ρ m us W h Q' hq=>by
  obtain ⟨u,rfl,a,ws,e1,hl,hv⟩:=Yh h;subst e1;have hn:=Zu hv
  have:=hq (.int xs.length (s.toks+1)) (s.toks+1+1) YE;exact len_list (hl.sub W.keep).isList (by simp [hn];lia) (by simpa [hn] using this)) q
theorem Zhd {xs:List D}(hf:xs.length<2 ^ 62) (q:Q ⟨l,o,.d (.int xs.length)::k⟩):CJ c 1 ⟨l,o,.d (.tuple xs)::.d (.val (.builtin "len"))::k⟩ Q :=
 W9 (as:=[.d (.tuple xs)]) rfl (fun j=>Zj) (fun F st vs s g ρ m us W h Q' hq=>by
  obtain ⟨u,rfl,a,ws,e1,hl,hv⟩:=Yh h;subst e1;have hn:=Zu hv
  have:=hq (.int xs.length (s.toks+1)) (s.toks+1+1) YE;exact len_tuple (hl.sub W.keep).isTup (by simp [hn];lia) (by simpa [hn] using this)) q
theorem Zhb {x:Str}(hf:x.length<2 ^ 62) (q:Q ⟨l,o,.d (.int x.length)::k⟩):CJ c 1 ⟨l,o,.d (.str x)::.d (.val (.builtin "len"))::k⟩ Q :=
 W9 (as:=[.d (.str x)]) rfl (fun j=>Zj) (fun F st vs s g ρ m us W h Q' hq=>by
  refine ZhD (Yh h) fun u zo1 t e1=>?_;subst zo1;subst e1;exact len_str (by lia) (hq _ _ YE)) q
theorem XZ {a:D}{T:String}{name:Str}{id:String}{QM:Nat→St→Prop}(pa:PlainAttrs T) (slot:Slot T name id) (hty:typeOf (.builtin id)=pure (.type "method_descriptor"))
 (ht:∀p w g (s:Shared) u,Sub g s.heap→VR p w g a u→s.TypeIs u T∧∀b,u = .ref b→∃ob,s.heap.get? b=some ob∧ob.dict=none)
 (q:QM 1 ⟨l,o,.d a::.d (.val (.builtin id))::k⟩):MJ c name ⟨l,o,.d a::k⟩ QM:=fun F ov vs s pl zq9=>by
 refine Ka fun zn14=>?_;refine ozr zq9 fun g ρ m W=>?_;have h1:=Zd W.stk;refine oza (ht _ _ g s ov W.keep h1) fun h2 h3=>?_;refine zn14 ?_;exact getMethod_builtin h2 pa slot hty h3 ⟨_,⟨g,ρ,m,W.stack (Zg h1 (Zg X8 (Za W.stk)))⟩,q⟩
theorem Uk {x:Str}:∀p w g (s:Shared) u,Sub g s.heap→VR p w g (.str x) u→s.TypeIs u "str"∧∀b,u = .ref b→∃ob,s.heap.get? b=some ob∧ob.dict=none:=fun j j j j j j zq10=>by refine oze zq10 fun j e=>?_;subst e;exact ⟨rfl,fun j h=>by cases h⟩
theorem UY {es}:∀p w g (s:Shared) u,Sub g s.heap→VR p w g (.dict es) u→s.TypeIs u "dict"∧∀b,u = .ref b→∃ob,s.heap.get? b=some ob∧ob.dict=none:=fun p w j s j hs zq11=>by
 refine Yk zq11 fun a kvs e j hl j=>?_;subst e;have hl':=ZA p w hs hl;exact ⟨hl'.typeIs,fun j h=>by injection h with zi;subst zi;refine Zdj hl' fun ob j j h1 h2 j=>?_;exact ⟨ob,h1,h2.2.1⟩⟩
theorem Zp8 {i:Nat}{xs:List A}{name:Str}{id:String}{QM:Nat→St→Prop}(ho:o[i]?=some (.list xs)) (slot:Slot "list" name id) (hty:typeOf (.builtin id)=pure (.type "method_descriptor"))
 (q:QM 1 ⟨l,o,.own i::.d (.val (.builtin id))::k⟩):MJ c name ⟨l,o,.own i::k⟩ QM:=fun F ov vs s pl zq13=>by
 obtain ⟨g,ρ,m,W⟩:=zq13;have h1:=Zd W.stk;have h0:∃a,ρ[i]?=some a∧ov = .ref a:=h1;refine Zb h0 fun a ea e1=>?_;subst e1;refine Zb (W.own i _ a ho ea) fun ws zo2 hx=>?_;refine oze zo2 fun n hw=>?_;exact getMethod_builtin (T:="list") ⟨_,hw,rfl⟩ PySem.F.plainAttrs_list slot hty (fun b e=>by injection e with zi;subst zi;exact ⟨_,hw,rfl⟩) ⟨_,⟨g,ρ,m,W.stack (Zg h1 (Zg X8 (Za W.stk)))⟩,q⟩
theorem Zab {p:Program}{w:World}{A:Around}{s:Shared}{a:Addr}{us:List Value}{v:Value}{Q':Value→Shared→Prop}{E:Value→Shared→Prop}(h:IsLst s.heap a us) (hn:us.length≤1000000)
 (q:∀h',IsLst h' a (us++[v])→Heap.SameBut a s.heap h'→Q' .none {s with heap:=h'}):wpAny (model p w) A (call (.builtin "list.append") [.ref a,v]) Q' E s:=by
 refine oze h fun n e=>?_;refine wpAny_call_entry slot_list_append (T:="list") ⟨_,e,rfl⟩ entry_list_append ?_ (args_list_append _ _);show wpAny _ _ (updateSeq a (·.push v) >>= fun j=>ret .none) _ _ s;refine Kd (wpAny_updateSeq e rfl (Ki ⟨.none,rfl,q _ ?_ (Heap.SameBut.update ..)⟩) (by rw [sizeLine_eq,List.size_toArray];lia) (by rw [sizeLine_eq];simp;lia));refine ⟨n+1,?_⟩;rw [Heap.get?_update_self _ e (by rfl)];simp [Obj.mapSeq]
theorem ZjA {i:Nat}{xs:List A}{a:A}(ho:o[i]?=some (.list xs)) (hn:xs.length≤1000000) (q:Q ⟨l,o.set i (.list (xs++[a])),.d .none::k⟩):CJ c 2 ⟨l,o,a::.own i::.d (.val (.builtin "list.append"))::k⟩ Q:=fun F f us vs s hl zq14=>by
 obtain ⟨g,ρ,m,W⟩:=zq14;refine oza (Zy (xs:=[.own i,a]) W.stk (by rw [hl];rfl)) fun q1 q2=>?_;have ef:f=_:=Zd q2;subst ef;refine Zc (Yz q1) fun u v zo3 zo4 hv=>?_;subst zo3;refine Zb zo4 fun ad ea e1=>?_;subst e1;refine Zb (W.own i _ ad ho ea) fun ws hw hx=>?_;refine ⟨Zj,Zab hw (by rw [Z6 hx];exact hn) fun h' h1 h2=>?_⟩;refine ⟨_,⟨g,ρ,m,((W.stack (Za q2)).setOwn (t:=s.toks) (ZI ho).1 ea (fun b ob hb e=>(h2.2 b hb).trans e) (o':=.list (xs++[a])) ⟨_,h1,Zdr hx hv⟩).push Zco⟩,q⟩
end
end
section
inductive FPost (G:Gx) (F:Fz) (g:Heap) (R:D→Prop) (v:Value) (s':Shared):Prop
 | mk (g':Heap) (d:D) (H:HS G F s' g') (hs:Sub g g') (hv:VR G.p G.w g' d v) (h:R d)
def Zr (G:Gx) (f:Value) (need:Nat) (args:List D) (R:D→Prop):Prop :=
 ∀(A:Around) (F:Fz) (us:List Value) (s:Shared) (g:Heap),A.handled=none→A.depth+need<recursionLimit→A.units+8*need+40≤cLine→HS G F s g→VRs G.p G.w g args us →
  wpAny (model G.p G.w) A (call f us) (FPost G F g R) NoE s
section
variable {c:Cx}{F:Fz}{st:St}{vs:List Value}{s:Shared}{g:Heap}{ρ:List Addr}{m:Str→Option Value}
noncomputable def Zn (h:Heap) (bs:List Addr):List (Addr×Obj):=bs.filterMap fun b=>(h.get? b).map fun o=>(b,o)
theorem Zi {h:Heap}{bs:List Addr}{q:Addr×Obj}(x:q∈Zn h bs):q.1∈bs∧h.get? q.1=some q.2:=by
 refine Zb (List.mem_filterMap.mp x) fun b hb e=>?_;refine Zb (Z9 e) fun ob e1 e2=>?_;subst e2;exact ⟨hb,e1⟩
theorem ZU {h:Heap}{bs:List Addr}{b:Addr}{ob:Obj}(hb:b∈bs) (e:h.get? b=some ob):(b,ob)∈Zn h bs :=
 List.mem_filterMap.mpr ⟨b,hb,by rw [e];rfl⟩
noncomputable def Fz.call (F:Fz) (g h:Heap) (bs:List Addr):Fz:={g₀:=g,hid:=F.hid++Zn h bs,gens:=F.gens,os:=F.os,pin:=[]}
theorem RSW.toCall (R:RSW c F st vs s g ρ m):HS c.G (F.call g s.heap (c.env.locals::ρ)) s g where
 base:=R.base
 g0:=Sub.refl _
 keep:=R.keep
 reg:=R.reg
 hid:=fun q hq=>by
  rcases Z8 hq with hq | hq
  ·exact R.hid q hq
  ·refine oza (Zi hq) fun h1 h2=>?_;exact ⟨h2,R.nomut _ (ZT h1),(R.apart _ h1).1⟩
 gens:=R.gens
 bare:=R.bare
 os:=R.os
theorem RSW.back (R:RSW c F st vs s g ρ m) {s':Shared}{g':Heap}(H:HS c.G (F.call g s.heap (c.env.locals::ρ)) s' g'):RSW c F st vs s' g' ρ m:=by
 have hh:∀b∈c.env.locals::ρ,∃ob,s.heap.get? b=some ob∧s'.heap.get? b=some ob∧g'.get? b=none:=fun b hb=>by
  refine oze (R.there b hb) fun ob e=>?_;refine Yq (H.hid (b,ob) (Kf _ (ZU hb e))) fun h1 h2 j=>?_;exact ⟨ob,e,h1,h2⟩
 refine R.onto (g':=g') {base:=H.base,g0:=R.g0.trans H.g0,keep:=H.keep,reg:=H.reg,hid:=fun q hq=>H.hid q (Kg _ hq),gens:=H.gens,bare:=H.bare,os:=H.os} H.g0 (fun b hb=>?_) fun b hb ob e=>?_
 ·refine Zx (hh b hb) fun j j j h=>?_;exact h
 ·refine Zx (hh b hb) fun ob' e1 e2 j=>?_;rw [e] at e1;obtain rfl:=Kc e1;exact e2
end
section
variable {c:Cx}{l:List (Nat×A)}{o:List O}{k:List A}{Q:St→Prop}
theorem Zfc {n:Nat}{f:Value}{need:Nat}{args:List D}{R:D→Prop}(H:Zr c.G f need args R) (hk:∀h,c.G.lib.B h→ZF c f h) (hn:need≤c.fuel) (hl:args.length=n) (q:∀d,R d→Q ⟨l,o,.d d::k⟩) :
 CJ c n ⟨l,o,(args.map A.d).reverse++.d (.val f)::k⟩ Q:=fun F f' us vs s hu zq0=>by
 refine Ka fun zn5=>?_;obtain ⟨g,ρ,m,W⟩:=zq0;refine oza (Zy (xs:=args.map A.d) W.stk (by simp [hu,hl])) fun q1 q2=>?_;refine zn5 ?_;have ef:f'=f:=Zd q2;subst ef;have hd:=c.hd;have hun:=c.hu;refine ⟨?_,?_⟩
 ·exact hk _ (c.G.lib.mono _ _ W.keep W.base)
 ·refine wpm (H c.A _ us s g c.hh (by (first | lia | omega)) (by lia) W.toCall (Zai.mp q1)) (fun v s' zq1=>?_);obtain ⟨g',d,H',hs,hv,hR⟩:=zq1;exact ⟨_,⟨g',ρ,m,(W.back H').stack (Zg (a:=.d d) hv (ARs.sub _ _ hs (Ext.refl _) _ _ (Za q2)))⟩,q d hR⟩
end
theorem Zdb {α:Type}{cs:List (Str×α)}{n:Str}{c:α}(hnd:(cs.map (·.1)).Nodup) (hm:(n,c)∈cs):cs.lookup n=some c:=by
 induction cs with
 | nil=>exact nomatch hm
 | cons q cs ih =>
  have hnd:=List.nodup_cons.mp hnd;rw [List.lookup_cons];refine Or.elim (ZQ hm) (fun e=>?_) fun hm=>?_
  ·rw [←e,beq_self_eq_true]
  ·rw [Zbn fun e:n=q.1=>hnd.1 (show q.1∈cs.map (·.1) from e▸List.mem_map_of_mem (f:=(·.1)) hm)];exact ih hnd.2 hm
theorem HS.fresh {G:Gx}{F:Fz}{s:Shared}{g:Heap}(H:HS G F s g) {a:Addr}(h:s.heap.objs.size≤a):(∀r∈G.reg,a≠r.at_)∧∀q∈F.hid,a≠q.1:=⟨fun r hr q=>by
 refine YM (H.reg r hr) fun j ob e j=>?_;exact absurd (Kk e) (by rw [←q];exact Zaq h),fun q hq z=>by
 exact absurd (Kk (H.hid q hq).1) (by rw [←z];exact Zaq h)⟩
theorem HS.at_g {G:Gx}{F:Fz}{s:Shared}{g:Heap}(H:HS G F s g):HS G {F with g₀:=g,pin:=[]} s g :=
 {base:=H.base,g0:=Sub.refl _,keep:=H.keep,reg:=H.reg,hid:=H.hid,gens:=H.gens,bare:=H.bare,os:=H.os}
end
section
def AsJ (c:Cx) (tgt:Expr) (st:St) (Q:St→Prop):Prop :=
 ∀F v vs s,RS c F st (v::vs) s→wpAny (model c.p c.w) c.A (assign tgt c.env v) (fun j s'=>Got c F vs Q s') NoE s
section
variable {c:Cx}{F:Fz}{st:St}{vs:List Value}{s:Shared}{g:Heap}{ρ:List Addr}{m:Str→Option Value}
theorem RSW.hide (R:RSW c F st vs s g ρ m) {hs:List (Addr×Obj)}(h:∀q∈hs,s.heap.get? q.1=some q.2∧g.get? q.1=none∧q.1∉Z0 c.G F (c.env.locals::ρ)):RSW c {F with g₀:=g,hid:=hs++F.hid} st vs s g ρ m :=
 {base:=R.base,g0:=Sub.refl _,keep:=R.keep,reg:=R.reg
  hid:=fun q hq=>by
   rcases Z8 hq with hq | hq
   ·refine Yq (h q hq) fun h1 h2 h3=>?_;exact ⟨h1,h2,fun r hr z=>h3 (z▸Ui hr)⟩
   ·exact R.hid q hq
  gens:=R.gens,bare:=R.bare,os:=R.os,ns:=R.ns,nl:=R.nl,loc:=R.loc,len:=R.len,nd:=R.nd,fr:=R.fr,own:=R.own,stk:=R.stk,cel:=R.cel,pin:=R.pin
  apart:=fun b hb=>⟨(R.apart b hb).1,fun q hq z=>by
   rcases List.mem_append.mp hq with hq | hq
   ·exact (h q hq).2.2 (z▸ZT hb)
   ·exact (R.apart b hb).2 q hq z⟩}
theorem RSW.rehide {g₁:Heap}{hs hs':List (Addr×Obj)}(R:RSW c {F with g₀:=g₁,hid:=hs++F.hid} st vs s g ρ m) (hd:∀q∈F.hid,q.1∉hs.map (·.1)) {h':Heap}{t:Nat}(hk:∀b o,b∉hs.map (·.1)→s.heap.get? b=some o→h'.get? b=some o)
 (hh:∀q∈hs',q.1∈hs.map (·.1)∧h'.get? q.1=some q.2):RSW c {F with g₀:=g₁,hid:=hs'++F.hid} st vs {s with heap:=h',toks:=t} g ρ m:=by
 have key:∀b∈hs.map (·.1),g.get? b=none∧b∉c.env.locals::ρ∧∀r∈c.G.reg,b≠r.at_:=fun b hb=>by
  refine Zb (Xb hb) fun q hq zo1=>?_;subst zo1;refine Yq (R.hid q (Kg _ hq)) fun j h2 h3=>?_;exact ⟨h2,fun z=>(R.apart _ z).2 q (Kg _ hq) rfl,h3⟩
 have out:∀b∈c.env.locals::ρ,b∉hs.map (·.1):=fun b hb z=>(key b z).2.1 hb
 exact {
  base:=R.base
  g0:=R.g0
  keep:=fun b o e=>hk b o (fun z=>by rw [(key b z).1] at e;exact Zo e) (R.keep b o e)
  reg:=fun r hr=>by refine YM (R.reg r hr) fun h1 o h2 h3=>?_;exact ⟨h1,o,hk _ _ (fun z=>(key _ z).2.2 r hr rfl) h2,h3⟩
  hid:=fun q hq=>by
   refine Or.elim (Z8 hq) (fun hq=>?_) fun hq=>?_
   ·refine oza (hh q hq) fun h1 h2=>?_;exact ⟨h2,(key _ h1).1,(key _ h1).2.2⟩
   ·refine oza (R.hid q (Kf _ hq)) fun h1 h2=>?_;exact ⟨hk _ _ (hd q hq) h1,h2⟩
  gens:=R.gens,bare:=R.bare,os:=R.os
  ns:=by refine ZZ R.ns fun o es ep h r=>?_;exact ⟨o,es,ep,hk _ _ (out _ (.head _)) h,r⟩
  nl:=R.nl,loc:=R.loc,len:=R.len,nd:=R.nd,fr:=R.fr
  own:=fun i o a h1 h2=>OAt.sub _ _ (Sub.refl _) (Ext.refl _) (fun ob e=>hk _ _ (out _ (.tail _ (Kj h2))) e) o (R.own i o a h1 h2)
  stk:=R.stk,cel:=R.cel,pin:=R.pin
  apart:=fun b hb=>⟨(R.apart b hb).1,fun q hq z=>by
   refine Or.elim (Z8 hq) (fun hq=>?_) fun hq=>?_
   ·exact out b hb (z▸(hh q hq).1)
   ·exact (R.apart b hb).2 q (Kf _ hq) z⟩}
theorem Z4 {h:Heap}{bs:List Addr}(x:∀b∈bs,∃o,h.get? b=some o):∀b,b∈(Zn h bs).map (·.1)↔b∈bs:=fun b=>⟨fun hb=>by
 refine Zb (Xb hb) fun q hq zo1=>?_;subst zo1;exact (Zi hq).1,fun hb=>by
 refine oze (x b hb) fun o e=>?_;exact List.mem_map.mpr ⟨_,ZU hb e,rfl⟩⟩
theorem RSW.pinned (R:RSW c F st vs s g ρ m) {pn:List (Nat×Addr)}(h:∀q∈pn,ρ[q.1]?=some q.2):RSW c {F with pin:=pn++F.pin} st vs s g ρ m :=
 {toHS:=⟨R.base,R.g0,R.keep,R.reg,R.hid,R.gens,R.bare,R.os⟩,ns:=R.ns,nl:=R.nl,loc:=R.loc,len:=R.len,nd:=R.nd,fr:=R.fr,own:=R.own,stk:=R.stk,cel:=R.cel,apart:=R.apart
  pin:=fun q hq=>(Z8 hq).elim (h q) (R.pin q)}
theorem RSW.unpin {pn:List (Nat×Addr)}(R:RSW c {F with pin:=pn++F.pin} st vs s g ρ m):RSW c F st vs s g ρ m :=
 {toHS:=⟨R.base,R.g0,R.keep,R.reg,R.hid,R.gens,R.bare,R.os⟩,ns:=R.ns,nl:=R.nl,loc:=R.loc,len:=R.len,nd:=R.nd,fr:=R.fr,own:=R.own,stk:=R.stk,cel:=R.cel,apart:=R.apart
  pin:=fun q hq=>R.pin q (Kf _ hq)}
end
structure Feed (G:Gx) (need:Nat) (tgt:Expr) (it:Addr) (wr fp:List Addr) (g₁:Heap) (pn:List (Nat×Addr)) (xs:List A) (ok:St→Prop) (Si:Nat→Heap→Prop):Prop where
 th:∀i h,Si i h→∀b∈wr,∃o,h.get? b=some o
 fpx:∀b∈fp,b∈wr∨∃o,g₁.get? b=some o
 frame:∀i h h',Si i h→(∀b∈fp,∀o,h.get? b=some o→h'.get? b=some o)→Si i h'
 item:∀(c:Cx) (F:Fz) hs i a st vs s,c.G=G→need≤c.fuel→xs[i]?=some a→Si i s.heap→ok st→Sub g₁ F.g₀→(∀q∈pn,q∈F.pin)→(∀q∈hs,q.1∉wr)→RS c {F with hid:=Zn s.heap wr++hs} st vs s →
  wpAny (model c.p c.w) c.A (pyNext (.ref it)) (fun r s1=>∃v,r=some v∧wpAny (model c.p c.w) c.A (letOwnedTupleGo tgt (.ref it) v) (fun _ s2=>Si (i+1) s2.heap∧RS c {F with hid:=Zn s2.heap wr++hs} ⟨st.loc,st.own,a::st.stk⟩ (v::vs) s2) NoE s1) NoE s
 self:∀(A:Around) i (s:Shared) (Q:Value→Shared→Prop) (E:Value→Shared→Prop),A.handled=none→Si i s.heap→Q (.ref it) s→wpAny (model G.p G.w) A (pyIter (.ref it)) Q E s
 done:∀(c:Cx) (F:Fz) hs st vs s,c.G=G→need≤c.fuel→Si xs.length s.heap→ok st→Sub g₁ F.g₀→(∀q∈pn,q∈F.pin)→(∀q∈hs,q.1∉wr)→RS c {F with hid:=Zn s.heap wr++hs} st vs s →
  wpAny (model c.p c.w) c.A (pyNext (.ref it)) (fun r s1=>r=none∧RS c {F with hid:=hs} st vs s1) NoE s
theorem Feed.ofK {G:Gx}{tgt:Expr}{it:Addr}{wr fp:List Addr}{g₁:Heap}{n:Nat}{P Md:Nat→Value→Heap→Prop}{Si:Nat→Heap→Prop}(K:∀A:Around,A.handled=none→W.KTurns G.p G.w A tgt it fp wr n P Md Si) (hself:∀(A:Around) i (s:Shared) (Q:Value→Shared→Prop) (E:Value→Shared→Prop),A.handled=none→Si i s.heap→Q (.ref it) s→wpAny (model G.p G.w) A (pyIter (.ref it)) Q E s) (hth:∀i h,Si i h→∀b∈wr,∃o,h.get? b=some o)
 (hfp:∀b∈fp,b∈wr∨∃o,g₁.get? b=some o) (xs:List D) (hn:n=xs.length) (hP:∀i v h,i<n→P i v h→∃x,xs[i]?=some x∧VR G.p G.w g₁ x v):Feed G 0 tgt it wr fp g₁ [] (xs.map .d) (fun j=>True) Si where
 th:=hth
 fpx:=hfp
 frame:=(K callerA rfl).frame
 self:=hself
 item:=fun c F hs i a st vs s e j ha hSi j hg j hd zq2=>by
  refine ozr zq2 fun g ρ m W=>?_;subst e;have hi:i<n:=by have:=(ZI ha).1;simpa [hn] using this
  refine (K c.A c.hh).item i s _ _ hi hSi fun v h' tk hMd hk=>⟨v,rfl,(K c.A c.hh).go i v _ _ _ hMd fun h2 hPv hSi2 hk2=>⟨hSi2,?_⟩⟩;refine Zb (hP i v h2 hi hPv) fun x hx hv=>?_;have keys:=Z4 (hth _ _ hSi);have W2:=RSW.rehide (F:={F with hid:=hs}) (g₁:=F.g₀) W (hs':=Zn h2 wr) (fun q hq z=>hd q hq ((keys _).mp z)) (h':=h2) (t:=tk) (fun b o hb e=>hk2 b o (fun z=>hb ((keys b).mpr z)) (hk b o (fun z=>hb ((keys b).mpr z)) e)) fun q hq=>⟨(keys _).mpr (Zi hq).1,(Zi hq).2⟩;have ea:a = .d x:=by rw [List.getElem?_map,hx] at ha;exact (Kc ha).symm
  subst ea;exact ⟨g,ρ,m,W2.push (a:=.d x) (v:=v) (VR.sub _ _ (hg.trans W2.g0) _ _ hv)⟩
 done:=fun c F hs st vs s e j hSi j j j hd zq3=>by
  refine ozr zq3 fun g ρ m W=>?_;subst e;have hl:(xs.map A.d).length=n:=by simp [hn]
  rw [hl] at hSi;refine (K c.A c.hh).done s _ _ hSi fun h' tk hk=>⟨rfl,g,ρ,m,?_⟩;have keys:=Z4 (hth _ _ hSi);exact RSW.rehide (F:={F with hid:=hs}) (g₁:=F.g₀) W (hs':=[]) (fun q hq z=>hd q hq ((keys _).mp z)) (h':=h') (t:=tk) (fun b o hb e=>hk b o (fun z=>hb ((keys b).mpr z)) e) (fun j h=>nomatch h)
theorem Feed.ofT {G:Gx}{elts:List Expr}{k:Nat}{pos:Pos}{it:Addr}{wr fp:List Addr}{g₁:Heap}{n:Nat}{Pt:Nat→Array Value→Prop}{Mid:Nat→Addr→Heap→Prop}{Si:Nat→Heap→Prop}(K:∀A:Around,A.handled=none→WalksT G.p G.w A it fp wr n Pt Si Mid) (hth:∀i h,Si i h→∀b∈wr,∃o,h.get? b=some o)
 (hfp:∀b∈fp,b∈wr∨∃o,g₁.get? b=some o) (xs:List (List D)) (hn:n=xs.length) (hP:∀i vals,i<n→Pt i vals→∃x,xs[i]?=some x∧VRs G.p G.w g₁ x vals.toList):Feed G 0 (.Tuple elts k pos) it wr fp g₁ [] (xs.map fun x=>.d (.tuple x)) (fun j=>True) Si where
 th:=hth
 fpx:=hfp
 frame:=(K callerA rfl).frame
 self:=fun A i s Q E hA hSi hq=>(K A hA).self i s Q E hSi hq
 item:=fun c F hs i a st vs s e j ha hSi j hg j hd zq4=>by
  refine ozr zq4 fun g ρ m W=>?_;subst e;have hi:i<n:=by have:=(ZI ha).1;simpa [hn] using this
  refine (K c.A c.hh).item i s _ _ hi hSi fun T vals h' tk hPt hfresh hT hMd hk=>⟨.ref T,rfl,(K c.A c.hh).go elts k pos i T _ _ _ hMd fun h2 hSi2 hk2=>⟨hSi2,?_⟩⟩;refine Zb (hP i vals hi hPt) fun x hx hv=>?_;have keys:=Z4 (hth _ _ hSi);have ea:a = .d (.tuple x):=by rw [List.getElem?_map,hx] at ha;exact (Kc ha).symm
  subst ea;have hTn:T∉wr:=(K c.A c.hh).apart _ _ _ hMd;have hm:T∉Z0 c.G {F with hid:=Zn h2 wr++hs} (c.env.locals::ρ):=fun hmem=>by
   have:T∈Z0 c.G {F with hid:=Zn s.heap wr++hs} (c.env.locals::ρ):=by
    refine Or.elim (List.mem_append.mp hmem) (fun z=>?_) fun z=>?_
    ·exact Kg _ z
    ·refine Or.elim (List.mem_append.mp z) (fun z=>?_) fun z=>?_
     ·exact Kf _ (Kg _ z)
     ·refine Zb (Xb z) fun q hq e=>?_;refine Or.elim (List.mem_append.mp hq) (fun hq=>?_) fun hq=>?_
      ·exact absurd (e▸(Zi hq).1) hTn
      ·exact Kf _ (Kf _ (List.mem_map.mpr ⟨q,Kf _ hq,e⟩))
   refine oze (W.thereM _ this) fun o e=>?_;exact absurd (Kk e) (Zaq hfresh)
  have W3:=(RSW.rehide (F:={F with hid:=hs}) (g₁:=F.g₀) W (hs':=Zn h2 wr) (fun q hq z=>hd q hq ((keys _).mp z)) (h':=h2) (t:=tk) (fun b o hb e=>hk2 b o (fun z=>hb ((keys b).mpr z)) (hk b o (fun z=>hb ((keys b).mpr z)) e)) fun q hq=>⟨(keys _).mpr (Zi hq).1,(Zi hq).2⟩).canon;refine Zb (hT.at (h':=h2) fun o e=>hk2 T o hTn e) fun o e1 e2=>?_;refine ⟨_,ρ,m,W3.push (a:=.d (.tuple x)) (v:=.ref T) ⟨T,vals.toList,rfl,⟨o,PySem.W.hideAll_get _ e1 hm,e2⟩,VRs.sub _ _ (hg.trans W3.g0) _ _ hv⟩⟩
 done:=fun c F hs st vs s e j hSi j j j hd zq5=>by
  refine ozr zq5 fun g ρ m W=>?_;subst e;have hl:(xs.map fun x=>A.d (.tuple x)).length=n:=by simp [hn]
  rw [hl] at hSi;refine (K c.A c.hh).done s _ _ hSi fun h' tk hk=>⟨rfl,g,ρ,m,?_⟩;have keys:=Z4 (hth _ _ hSi);exact RSW.rehide (F:={F with hid:=hs}) (g₁:=F.g₀) W (hs':=[]) (fun q hq z=>hd q hq ((keys _).mp z)) (h':=h') (t:=tk) (fun b o hb e=>hk b o (fun z=>hb ((keys b).mpr z)) e) (fun j h=>nomatch h)
inductive FeedGot (c:Cx) (F:Fz) (tgt:Expr) (vs:List Value) (Q:(St→Prop)→List A→St→Prop) (itv:Value) (s':Shared):Prop
 | mk (it:Addr) (need:Nat) (wr fp:List Addr) (g₁:Heap) (pn:List (Nat×Addr)) (xs:List A) (ok:St→Prop) (Si:Nat→Heap→Prop) (st':St) (e:itv = .ref it) (hn:need≤c.fuel) (K:Feed c.G need tgt it wr fp g₁ pn xs ok Si) (h0:Si 0 s'.heap) (hs:Sub F.g₀ g₁) (hd:∀q∈F.hid,q.1∉wr)
  (R:RS c {F with g₀:=g₁,hid:=Zn s'.heap wr++F.hid,pin:=pn++F.pin} st' vs s') (h:Q ok xs st')
def ItJ (c:Cx) (tgt:Expr) (st:St) (Q:(St→Prop)→List A→St→Prop):Prop :=
 ∀F v vs s,RS c F st (v::vs) s→wpAny (model c.p c.w) c.A (pyIter v) (FeedGot c F tgt vs Q) NoE s
def IEJ (c:Cx) (tgt e:Expr) (st:St) (Q:(St→Prop)→List A→St→Prop):Prop :=
 ∀F vs s,RS c F st vs s→wpAny (model c.p c.w) c.A (eval e c.env) (fun v s1=>wpAny (model c.p c.w) c.A (pyIter v) (FeedGot c F tgt vs Q) NoE s1) NoE s
theorem Zcf {c:Cx}{tgt e:Expr}{st:St}{Q:(St→Prop)→List A→St→Prop}(h:EJ c e st fun st1=>ItJ c tgt st1 Q):IEJ c tgt e st Q:=fun F vs s R =>
 wpm (h F vs s R) (fun v s1 zq6=>by refine ozg zq6 fun j R1 h1=>?_;exact h1 F v vs s1 R1)
noncomputable def Zak (c:Cx) (tgt:Expr) (body:List Stmt) (ok:St→Prop):List A→St→(Fl→St→Prop)→Prop
 | [],st,Q=>ok st∧Q .next st
 | x::xs,st,Q=>ok st∧AsJ c tgt ⟨st.loc,st.own,x::st.stk⟩ fun st1=>XJ c body st1 (lpQ (fun st2=>Zak c tgt body ok xs st2 Q) Q)
section
variable {c:Cx}{F:Fz}{st:St}{vs:List Value}{s:Shared}{g:Heap}{ρ:List Addr}{m:Str→Option Value}
theorem HS.unhide {G:Gx}{g₁:Heap}{hs:List (Addr×Obj)}{pn:List (Nat×Addr)}(H:HS G {F with g₀:=g₁,hid:=hs++F.hid,pin:=pn} s g) (x:Sub F.g₀ g₁):HS G F s g :=
 ⟨H.base,x.trans H.g0,H.keep,H.reg,fun q hq=>H.hid q (Kf _ hq),H.gens,H.bare,H.os⟩
theorem RS.unhide {g₁:Heap}{hs:List (Addr×Obj)}{pn:List (Nat×Addr)}(R:RS c {F with g₀:=g₁,hid:=hs++F.hid,pin:=pn++F.pin} st vs s) (x:Sub F.g₀ g₁):RS c F st vs s:=by
 refine ozr R fun g ρ m W=>?_;refine ⟨g,ρ,m,{toHS:=W.toHS.unhide x,ns:=W.ns,nl:=W.nl,loc:=W.loc,len:=W.len,nd:=W.nd,fr:=W.fr,own:=W.own,stk:=W.stk,cel:=W.cel,apart:=fun b hb=>⟨(W.apart b hb).1,fun q hq=>(W.apart b hb).2 q (Kf _ hq)⟩,pin:=fun q hq=>W.pin q (Kf _ hq)}⟩
theorem Feed.stay {G:Gx}{need:Nat}{tgt:Expr}{it:Addr}{wr fp:List Addr}{g₁:Heap}{pn:List (Nat×Addr)}{xs:List A}{ok:St→Prop}{Si:Nat→Heap→Prop}(K:Feed G need tgt it wr fp g₁ pn xs ok Si) {i:Nat}{h':Heap}(hSi:Si i h') {hs:List (Addr×Obj)}{F':Fz}
 (hF:F'.hid=Zn h' wr++hs) {st3:St} {us:List Value} {s3:Shared} {c':Cx} (hb:Sub g₁ h') (hg:Sub g₁ F'.g₀) (hd:∀q∈hs,q.1∉wr) (R:RS c' F' st3 us s3):Si i s3.heap∧RS c' {F' with hid:=Zn s3.heap wr++hs} st3 us s3:=by
 refine ozr R fun g3 ρ3 m3 W4=>?_;have hSi3:Si i s3.heap:=K.frame _ _ _ hSi fun b hb' o e=>by
  rcases K.fpx b hb' with hb' | ⟨o',e'⟩
  ·exact (W4.hid (b,o) (hF▸Kg _ (ZU hb' e))).1
  ·rw [hb _ _ e'] at e;obtain rfl:=Kc e;exact (W4.keep _ _ (W4.g0 _ _ (hg _ _ e')))
 refine ⟨hSi3,g3,ρ3,m3,?_⟩;have keys:=Z4 (K.th _ _ hSi);obtain ⟨g0',hid',gens',os',pin'⟩:=F';dsimp only at hF;subst hF;exact RSW.rehide (F:=⟨g0',hs,gens',os',pin'⟩) (g₁:=g0') (hs:=Zn h' wr) (hs':=Zn s3.heap wr) W4 (fun q hq z=>hd q hq ((keys _).mp z)) (h':=s3.heap) (t:=s3.toks) (fun j j j e=>e) fun q hq=>⟨(keys _).mpr (Zi hq).1,(Zi hq).2⟩
def Stp (Z:Flow→Shared→Prop) (I:Nat→Shared→Prop) (n:Nat) (f:Flow) (s:Shared):Prop:=match f with
 | .next=>∃m,m<n∧I m s
 | .cont=>∃m,m<n∧I m s
 | .brk=>Z .next s
 | .ret v=>Z (.ret v) s
def Zge (c:Cx) (tgt:Expr) (body:List Stmt) (it:Value) (Z:Flow→Shared→Prop) (I:Nat→Shared→Prop) (n:Nat) (s:Shared):Prop :=
 wpAny (model c.p c.w) c.A (pyNext it) (fun r s₁=>match r with
  | none=>Z .next s₁
  | some v=>wpAny (model c.p c.w) c.A (letOwnedTupleGo tgt it v) (fun j s₂=>wpAny (model c.p c.w) c.A (assign tgt c.env v) (fun j s₃=>wpAny (model c.p c.w) c.A (execs body c.env) (Stp Z I n) NoE s₃) NoE s₂) NoE s₁) NoE s
theorem ZmR {Z:Flow→Shared→Prop}{tgt iter:Expr}{body:List Stmt}{pos:Pos}(h:wpAny (model c.p c.w) c.A (eval iter c.env) (fun v s1=>wpAny (model c.p c.w) c.A (pyIter v) (fun it s2=>∃(I:Nat→Shared→Prop) (n:Nat),I n s2∧∀n s,I n s→Zge c tgt body it Z I n s) NoE s1) NoE s)
 (hs:∀x,foldedSetIterable iter c.env x=pure x):wpAny (model c.p c.w) c.A (exec (.For tgt iter body [] pos) c.env) Z NoE s:=by
 refine wpAny_For (Kb h (fun v s1 h1=>Kb h1 (fun it s2 h2=>?_) fun j j x=>x.elim) fun j j x=>x.elim) hs;refine Zz h2 fun I n h0 turn=>?_;refine codeAny_forLoop_any I (fun n s hI=>Kb (turn n s hI) (fun r s1 h=>?_) fun j j x=>False.elim x) n h0;induction r with
 | none=>exact wpAny_execs_nil h
 | some v =>
  refine Kb h (fun j s2 h=>Kb h (fun j s3 h=>Kb h (fun f s4 h=>?_) fun j j x=>False.elim x) fun j j x=>False.elim x) fun j j x=>False.elim x;induction f <;> exact h
inductive FInv (c:Cx) (F:Fz) (g₁:Heap) (pn:List (Nat×Addr)) (wr:List Addr) (tgt:Expr) (body:List Stmt) (ok:St→Prop) (Si:Nat→Heap→Prop) (xs:List A) (QF:Fl→St→Prop) (vs:List Value) (k:Nat) (s':Shared):Prop
 | mk (i:Nat) (st':St) (hi:i≤xs.length) (hk:k=xs.length+1 - i) (hS:Si i s'.heap) (R:RS c {F with g₀:=g₁,hid:=Zn s'.heap wr++F.hid,pin:=pn++F.pin} st' vs s') (hL:Zak c tgt body ok (xs.drop i) st' QF)
theorem ZcT {i n:Nat}(h:i<n):n+1 - (i+1)<n+1 - i:=Nat.sub_lt_sub_left (Nat.lt_succ_of_lt h) (Nat.lt_succ_self i)
theorem Zgc {tgt iter:Expr}{body:List Stmt}{pos:Pos}{QF:Fl→St→Prop}(h:IEJ c tgt iter st fun ok xs st2=>Zak c tgt body ok xs st2 QF)
 (hs:∀x,foldedSetIterable iter c.env x=pure x:=by intro j;rfl):SJ c (.For tgt iter body [] pos) st QF:=fun F vs s R=>by
 refine ZmR (wpm (h F vs s R) (fun v s1 h1=>Kb h1 (fun itv s2 h2=>?_) fun j j x=>x)) hs;obtain ⟨it,need,wr,fp,g₁,pn,xs,ok,Si,st2,rfl,hneed,K,hS0,hg,hd,R2,hL⟩:=h2;refine ⟨FInv c F g₁ pn wr tgt body ok Si xs QF vs,xs.length+1,⟨0,st2,Nat.zero_le _,rfl,hS0,R2,hL⟩,fun k s1 I=>?_⟩;obtain ⟨i,st1,hi,rfl,hSi,R1,hL1⟩:=I;rcases Nat.lt_or_ge i xs.length with hlt | hge
 ·rw [List.drop_eq_getElem_cons hlt] at hL1;refine oza hL1 fun hok hL1=>?_;refine wpm (K.item c {F with g₀:=g₁,pin:=pn++F.pin} F.hid i _ st1 vs s1 rfl hneed (Ke hlt) hSi hok (Sub.refl _) (fun q hq=>Kg _ hq) hd R1) (fun r s2 zq7=>?_);refine Zb zq7 fun v zo3 h2=>?_;subst zo3;refine wpm h2 (fun j s3 zq8=>?_);obtain ⟨hSi3,R3⟩:=zq8;refine wpm (hL1 _ v vs _ R3) (fun j s4 z=>?_);refine ozg z fun st4 R4 h4=>?_;refine wpm (h4 _ vs s4 R4) (fun f s5 h5=>?_);have hg3:Sub g₁ s3.heap:=by refine ozr R3 fun j j j W=>?_;exact W.g0.trans W.keep
  have stay:∀{st':St} {us:List Value},RS c {F with g₀:=g₁,hid:=Zn s3.heap wr++F.hid,pin:=pn++F.pin} st' us s5→_:=fun R5=>K.stay hSi3 rfl hg3 (Sub.refl _) hd R5;have go:∀{st':St},RS c {F with g₀:=g₁,hid:=Zn s3.heap wr++F.hid,pin:=pn++F.pin} st' vs s5→Zak c tgt body ok (xs.drop (i+1)) st' QF→∃m,m<xs.length+1 - i∧FInv c F g₁ pn wr tgt body ok Si xs QF vs m s5:=fun R5 h6=>⟨_,ZcT hlt,i+1,_,hlt,rfl,(stay R5).1,(stay R5).2,h6⟩;induction f with
  | next=>refine ozg h5 fun st5 R5 h6=>?_;exact go R5 h6
  | cont=>refine ozg h5 fun st5 R5 h6=>?_;exact go R5 h6
  | brk=>refine ozg h5 fun st5 R5 h6=>?_;exact ⟨st5,(stay R5).2.unhide hg,h6⟩
  | ret v=>obtain ⟨st5,R5,h6⟩:=h5;exact ⟨st5,(stay R5).2.unhide hg,h6⟩
 ·obtain rfl:=Nat.le_antisymm hi hge;rw [List.drop_length] at hL1;obtain ⟨hok,hL1⟩:=hL1;refine wpm (K.done c {F with g₀:=g₁,pin:=pn++F.pin} F.hid st1 vs s1 rfl hneed hSi hok (Sub.refl _) (fun q hq=>Kg _ hq) hd R1) (fun r s2 zq10=>?_);obtain ⟨rfl,R2⟩:=zq10;exact ⟨st1,RS.unhide (hs:=[]) (pn:=pn) R2 hg,hL1⟩
end
end
section
noncomputable def Zfi (c:Cx):List Expr→List D→St→(St→Prop)→Prop
 | [],[],st,Q=>Q st
 | e::es,d::ds,st,Q=>AsJ c e ⟨st.loc,st.own,.d d::st.stk⟩ fun st1=>Zfi c es ds st1 Q
 | _,_,_,_=>False
section
variable {c:Cx}{F:Fz}{st:St}{vs:List Value}{s:Shared}{g:Heap}{ρ:List Addr}{m:Str→Option Value}{Q:St→Prop}{l:List (Nat×A)}{o:List O}{k:List A}
theorem Yi {x:Str}{pos:Pos}(h:NJ c x st Q):AsJ c (.Name x pos) st Q:=fun F v vs s R=>PyProof.Rows.assign_Name (h F v vs s R)
theorem RSW.at_g (R:RSW c F st vs s g ρ m):RSW c {F with g₀:=g} st vs s g ρ m :=
 {toHS:=⟨R.base,Sub.refl _,R.keep,R.reg,R.hid,R.gens,R.bare,R.os⟩,ns:=R.ns,nl:=R.nl,loc:=R.loc,len:=R.len,nd:=R.nd,fr:=R.fr,own:=R.own,stk:=R.stk,cel:=R.cel,apart:=R.apart,pin:=R.pin}
theorem RS.of_g {g₁:Heap}(x:Sub F.g₀ g₁) (R:RS c {F with g₀:=g₁} st vs s):RS c F st vs s:=by
 refine ozr R fun g ρ m W=>?_;exact ⟨g,ρ,m,{toHS:=⟨W.base,x.trans W.g0,W.keep,W.reg,W.hid,W.gens,W.bare,W.os⟩,ns:=W.ns,nl:=W.nl,loc:=W.loc,len:=W.len,nd:=W.nd,fr:=W.fr,own:=W.own,stk:=W.stk,cel:=W.cel,apart:=W.apart,pin:=W.pin}⟩
theorem ZkV {es:List Expr}{ds:List D}{us:List Value}{st:St}{F:Fz}{vs:List Value}{s:Shared}(h:VRs c.p c.w F.g₀ ds us) (hq:Zfi c es ds st Q) (R:RS c F st vs s) :
 wpAny (model c.p c.w) c.A (assignInOrder (es.map fun e=>assign e c.env) us) (fun j s'=>Got c F vs Q s') NoE s:=by
 replace h:=YX.mp h;induction h generalizing es st s with
 | nil=>induction es using LLc with
  | nil=>exact assignInOrder_nil ⟨st,R,hq⟩
  | cons _ _=>exact hq.elim
 | cons h1 _ ih=>induction es using LLc with
  | nil=>exact hq.elim
  | cons e es =>
   obtain ⟨g,ρ,m,W⟩:=R;refine assignInOrder_cons (wpm (hq F _ vs s ⟨g,ρ,m,W.push (VR.sub _ _ W.g0 _ _ h1)⟩) (fun j s1 z=>?_));refine ozg z fun st1 R1 hq1=>?_;exact ih hq1 R1
theorem Zdv {elts:List Expr}{n:Nat}{pos:Pos}{ds:List D}(hn:elts.length=ds.length) (h:Zfi c elts ds ⟨l,o,k⟩ Q) (he:assignEach elts c.env=elts.map fun e=>(false,assign e c.env):=by rfl):AsJ c (.Tuple elts n pos) ⟨l,o,.d (.tuple ds)::k⟩ Q:=fun F v vs s zq1=>by
 refine ozr zq1 fun g ρ m W=>?_;refine Zc ((Zd W.stk:VR c.p c.w g (.tuple ds) v)) fun a us e1 ht hv=>?_;subst e1;have hs:(assignEach elts c.env).findIdx? (·.1)=none:=by rw [he];simp [List.findIdx?_map,Function.comp]
 refine assign_Tuple_tuple c.hh (items:=us.toArray) (ht.sub W.keep).isTup (by rw [he];simp [(Zu hv),hn]) hs fun h' hx=>?_;have hSub:Sub s.heap h':=fun b ob e=>hx b ob (Nat.ne_of_lt (Kk e)) e
 have:=ZkV (us:=us) hv h ⟨g,ρ,m,(((W.grow (s':={s with heap:=h'}) hSub W.gens W.bare rfl).stack (Za W.stk)).at_g)⟩;have e2:(assignEach elts c.env).map (·.2)=elts.map fun e=>assign e c.env:=by rw [he,List.map_map];rfl
 rw [e2];exact wpm this (fun j s' zq2=>by refine ozg zq2 fun st' R' hq=>?_;exact ⟨st',RS.of_g W.g0 R',hq⟩)
theorem Wp {tgt:Expr}{need:Nat}{xs:List A}{ok:St→Prop}{Si:Nat→Heap→Prop}{fp:List Addr}{pn:List (Nat×Addr)}{ob:Obj}{QI:(St→Prop)→List A→St→Prop}(W:RSW c F st vs s g ρ m) (hneed:need≤c.fuel)
 (K:Feed c.G need tgt s.heap.objs.size [s.heap.objs.size] fp g pn xs ok Si) (h0:Si 0 (s.heap.push ob)) (hp:∀q∈pn,ρ[q.1]?=some q.2) (q:QI ok xs st) :
 FeedGot c F tgt vs QI (.ref s.heap.objs.size) {s with heap:=s.heap.push ob}:=by
 have hsz:=W.size_nomut;refine ⟨_,need,_,fp,g,pn,xs,ok,Si,st,rfl,hneed,K,h0,W.g0,fun q hq z=>?_,⟨g,ρ,m,?_⟩,q⟩
 ·rw [List.mem_singleton] at z;exact hsz (z▸XS hq)
 ·have W1:=(W.alloc ob s.toks).hide (hs:=Zn (s.heap.push ob) [s.heap.objs.size]) fun q hq=>by
   obtain ⟨h1,h2⟩:=Zi hq;rw [List.mem_singleton] at h1;refine ⟨h2,?_,?_⟩
   ·rw [h1];exact W.keep.none (Zbl _)
   ·rw [h1];exact hsz
  exact W1.pinned hp
theorem XT {I:Addr}{Si:Nat→Heap→Prop}(h:∀i h,Si i h→∃o,h.get? I=some o):∀i h,Si i h→∀b∈[I],∃o,h.get? b=some o:=fun i h' x b hb=>by
 rw [List.mem_singleton] at hb;subst hb;exact h i h' x
theorem ZR {h:Heap}{I l:Addr}{i:Nat}(x:h.IsListIter I l i):∃o,h.get? I=some o:=by refine Zb x fun o e j=>?_;exact ⟨o,e⟩
theorem ZfX {tgt:Expr}{xs:List D}{QI:(St→Prop)→List A→St→Prop}(q:QI (fun j=>True) (xs.map .d) ⟨l,o,k⟩)
 (ht:(∀it v,letOwnedTupleGo tgt it v=pure ())∨∃a b c,tgt = .Tuple a b c∧∀x∈xs,∃y,x = .tuple y):ItJ c tgt ⟨l,o,.d (.list xs)::k⟩ QI:=fun F v vs s zq4=>by
 obtain ⟨g,ρ,m,W⟩:=zq4;refine Zc ((Zd W.stk:VR c.p c.w g (.list xs) v)) fun a us e1 hl hv=>?_;subst e1;have hl':=(hl.sub W.keep).isList;have hne:a≠s.heap.objs.size:=fun z=>absurd (hl.sub W.keep).lt (by rw [z];exact Nat.lt_irrefl _);refine wpAny_pyIter_list hl' (Wp (W.stack (Za W.stk)) (need:=0) (Nat.zero_le _) (fp:=[s.heap.objs.size,a]) (pn:=[]) (Si:=fun i h=>h.IsListIter s.heap.objs.size a i∧h.IsList a us.toArray) ?_ ⟨⟨_,Kh _ rfl,rfl,rfl⟩,isList_sub (Sub.push _ _) hl'⟩ (fun j h=>nomatch h) q);refine Feed.ofK (n:=us.toArray.size) (P:=fun i v h=>us.toArray[i]?=some v) (Md:=fun i v h=>us.toArray[i]?=some v∧(h.IsListIter s.heap.objs.size a (i+1)∧h.IsList a us.toArray)) (fun A hA=>?_) (fun A i s Q E hA hSi hq=>wpAny_pyIter_listiter hSi.1 hq) (XT fun i h x=>ZR x.1) (fun b hb=>?_) xs (by simp [(Zu hv)]) fun i v h hi hP=>?_
 ·rcases ht with ht | ⟨x1,x2,x3,rfl,hx⟩
  ·exact PySem.W.KTurns.ofWalks (Walks.list hA _ a hne us.toArray) fun i v s Q E j hq=>wpAny_of_eq (ht _ _) hq
  ·have W0:=Walks.list (prog:=c.G.p) (w:=c.G.w) hA s.heap.objs.size a hne us.toArray
   exact {sub:=W0.sub,frame:=W0.frame,item:=fun i s Q E hi st hQ=>W0.item i s Q E hi st fun v h' tk hP st' hk=>hQ v h' tk ⟨hP,st'⟩ hk,done:=W0.done
          go:=fun i v s Q E hm hQ=>by
           refine Zb (YO hv (i:=i) (v:=v) (by simpa using hm.1)) fun x e2 e3=>?_;refine oze (hx x (Kj e2)) fun y zo1=>?_;subst zo1;refine Zz e3 fun T j zo2 j=>?_;subst zo2;exact wpAny_letOwnedTupleGo_listiter hm.2.1 (hQ s.heap hm.1 hm.2 fun j j j e=>e)}
 ·rcases ZQ hb with rfl | hb
  ·exact .inl (Zda rfl)
  ·rw [List.mem_singleton] at hb;subst hb;refine Zb hl fun j e j=>?_;exact .inr ⟨_,e⟩
 ·exact YO hv (by simpa using hP)
theorem WV {tgt:Expr}{ob:Obj}{n:Nat}{fp:List Addr}{P:Nat→Value→Prop}{Si:Nat→Heap→Prop}{QI:(St→Prop)→List A→St→Prop}(W:RSW c F st vs s g ρ m)
 (K:∀A:Around,A.handled=none→Walks c.p c.w A s.heap.objs.size fp [s.heap.objs.size] n P Si) (hth:∀i h,Si i h→∃o,h.get? s.heap.objs.size=some o) (h0:Si 0 (s.heap.push ob)) (hfp:∀b∈fp,b=s.heap.objs.size∨∃o,g.get? b=some o) (xs:List D) (hn:n=xs.length)
 (hP:∀i v,i<n→P i v→∃x,xs[i]?=some x∧VR c.p c.w g x v) (q:QI (fun j=>True) (xs.map .d) st) (ht:∀it v,letOwnedTupleGo tgt it v=pure ()) :
 FeedGot c F tgt vs QI (.ref s.heap.objs.size) {s with heap:=s.heap.push ob} :=
 Wp W (need:=0) (Nat.zero_le _) (pn:=[]) (Feed.ofK (fun A hA=>PySem.W.KTurns.ofWalks (K A hA) fun i v s Q E j hq=>wpAny_of_eq (ht _ _) hq) (fun A i s Q E hA hSi hq=>(K A hA).self i s Q E hSi hq) (XT hth) (fun b hb=>(hfp b hb).imp (fun e=>Zda e) id) xs hn fun i v j hi hPv=>hP i v hi hPv) h0 (fun j h=>nomatch h) q
theorem ZjR {tgt:Expr}{a b:Int}{QI:(St→Prop)→List A→St→Prop}(hs:Builtin.Range.small a b 1=true) (q:QI (fun j=>True) (((List.range (b - a).toNat).map fun (i:Nat)=>D.int (a+i)).map .d) ⟨l,o,k⟩)
 (ht:∀it v,letOwnedTupleGo tgt it v=pure ():=by intro j j;rfl):ItJ c tgt ⟨l,o,.d (.range a b)::k⟩ QI:=fun F v vs s zq5=>by
 obtain ⟨g,ρ,m,W⟩:=zq5;refine Xf ((Zd W.stk:VR c.p c.w g (.range a b) v)) fun r t u z e1 hr=>?_;subst e1;have en:Builtin.Range.rangeSize a b 1=((b - a).toNat:Int):=by unfold Builtin.Range.rangeSize;simp;lia
 refine wpAny_pyIter_range (W.keep _ _ hr) hs (WV (W.stack (Za W.stk)) (fun A hA=>Walks.range hA _ a 1 (b - a).toNat) (fun i h x=>⟨_,x⟩) ?_ (fun b hb=>.inl (ZaI hb)) _ (by simp) (fun i v hi hP=>?_) q ht)
 ·rw [en]
  have:=Kh s.heap (o:={cls:=.type "range_iterator",data:=.fields #[rawInt a,rawInt ((b - a).toNat:Int),rawInt 1]}) rfl;simpa [IsRangeIter] using this
 ·refine oze hP fun t zo1=>?_;subst zo1;exact ⟨.int (a+(i:Nat)),by simp [hi],t,by rw [Int.mul_one]⟩
noncomputable def ZbQ (x:Str):List D:=x.cps.toList.map fun n=>.str ⟨#[n]⟩
theorem Zol {tgt:Expr}{x:Str}{QI:(St→Prop)→List A→St→Prop}(q:QI (fun j=>True) ((ZbQ x).map .d) ⟨l,o,k⟩)
 (ht:∀it v,letOwnedTupleGo tgt it v=pure ():=by intro j j;rfl):ItJ c tgt ⟨l,o,.d (.str x)::k⟩ QI:=fun F v vs s zq6=>by
 obtain ⟨g,ρ,m,W⟩:=zq6;refine oze ((Zd W.stk:VR c.p c.w g (.str x) v)) fun t e1=>?_;subst e1;have hP:∀i v,i<x.cps.size→SignAt x i v→∃d,(ZbQ x)[i]?=some d∧VR c.p c.w g d v:=fun i v hi hP=>by
  refine Zz hP fun ch u hc zo1=>?_;subst zo1;exact ⟨.str ⟨#[ch]⟩,by rw [ZbQ,List.getElem?_map,Array.getElem?_toList,hc];rfl,u,rfl⟩
 induction ha:x.cps.all (· < 128)
 ·exact wpAny_pyIter_wide ha (WV (W.stack (Za W.stk)) (fun A hA=>Walks.strWide hA _ x t) (fun i h x=>by refine Zb x fun o e j=>?_;exact ⟨o,e⟩) ⟨_,Kh _ rfl,rfl,rfl⟩ (fun b hb=>.inl (ZaI hb)) _ (by simp [ZbQ]) hP q ht)
 ·exact wpAny_pyIter_ascii ha (WV (W.stack (Za W.stk)) (fun A hA=>Walks.strAscii hA _ x t) (fun i h x=>by refine Zb x fun o e j=>?_;exact ⟨o,e⟩) ⟨_,Kh _ rfl,rfl,rfl⟩ (fun b hb=>.inl (ZaI hb)) _ (by simp [ZbQ]) hP q ht)
noncomputable def Zjo (b:Array UInt8):List D:=b.toList.map fun n=>.int (n.toNat:Int)
theorem Zjj {tgt:Expr}{x:Array UInt8}{QI:(St→Prop)→List A→St→Prop}(q:QI (fun j=>True) ((Zjo x).map .d) ⟨l,o,k⟩)
 (ht:∀it v,letOwnedTupleGo tgt it v=pure ():=by intro j j;rfl):ItJ c tgt ⟨l,o,.d (.bytes x)::k⟩ QI:=fun F v vs s zq9=>by
 obtain ⟨g,ρ,m,W⟩:=zq9;refine oze ((Zd W.stk:VR c.p c.w g (.bytes x) v)) fun t e1=>?_;subst e1;refine PySem.W.KBw.pyIter_bytes (WV (W.stack (Za W.stk)) (fun A hA=>PySem.W.KBw.walks hA _ x t) (fun i h x=>by refine Zb x fun o e j=>?_;exact ⟨o,e⟩) ⟨_,Kh _ rfl,rfl,rfl⟩ (fun b hb=>.inl (ZaI hb)) _ (by simp [Zjo]) (fun i v hi hP=>?_) q ht);refine Zz hP fun ch u hc zo1=>?_;subst zo1;exact ⟨.int (ch.toNat:Int),by simp [Zjo,hc],u,rfl⟩
theorem ZoF {tgt:Expr}{xs:List D}{QI:(St→Prop)→List A→St→Prop}(q:QI (fun j=>True) (xs.map .d) ⟨l,o,k⟩)
 (ht:∀it v,letOwnedTupleGo tgt it v=pure ():=by intro j j;rfl):ItJ c tgt ⟨l,o,.d (.tuple xs)::k⟩ QI:=fun F v vs s zq11=>by
 obtain ⟨g,ρ,m,W⟩:=zq11;refine Zc ((Zd W.stk:VR c.p c.w g (.tuple xs) v)) fun a us e1 hl hv=>?_;subst e1;have hl':s.heap.IsTuple a us.toArray:=(hl.sub W.keep).isTup;have hne:a≠s.heap.objs.size:=fun z=>by
  refine Zb hl' fun ob e j=>?_;exact absurd (Kk e) (by rw [z];exact Nat.lt_irrefl _)
 refine wpAny_pyIter_tuple hl' (WV (W.stack (Za W.stk)) (fun A hA=>Walks.tuple hA _ a hne us.toArray) (fun i h x=>by refine Zb x.1 fun o e j=>?_;exact ⟨o,e⟩) ⟨⟨_,Kh _ rfl,rfl,rfl⟩,?_⟩ (fun b hb=>?_) xs (by simp [(Zu hv)]) (fun i v hi hP=>YO hv (by simpa using hP)) q ht)
 ·refine Zb hl' fun ob e r=>?_;exact ⟨ob,Sub.push _ _ _ _ e,r⟩
 ·rcases ZQ hb with rfl | hb
  ·exact .inl rfl
  ·rw [List.mem_singleton] at hb;subst hb;refine Zb hl fun ob e j=>?_;exact .inr ⟨_,e⟩
theorem UJ {h:Heap}{a:Addr}{kvs:List (Str×Value)}(x:h.DictOf (strKind c.p c.w) a kvs):∃ep,h.DictAt (strKind c.p c.w) a kvs ep:=by refine ZdE x fun o es ep r=>?_;exact ⟨ep,o,es,r⟩
theorem YW {h h':Heap}(x:Sub h h') {a:Addr}{kvs:List (Str×Value)}{ep:Nat}(H:h.DictAt (strKind c.p c.w) a kvs ep):h'.DictAt (strKind c.p c.w) a kvs ep:=by refine Zz H fun o es e r=>?_;exact ⟨o,es,x _ _ e,r⟩
theorem Zc8 {p:Program}{w:World}{g:Heap}{es:List (Str×D)}{kvs:List (Str×Value)}{i:Nat}{x:Str×Value}(h:VRe p w g es kvs) (e:kvs[i]?=some x):∃d,es[i]?=some (x.1,d)∧VR p w g d x.2:=by
 refine Zb ((Zfa.mp h).getR e) fun v h1 h2=>?_;exact ⟨v.2,h2.1.symm▸h1,h2.2⟩
theorem Zct {p:Program}{w:World}{g:Heap}{es:List (Str×D)}{kvs:List (Str×Value)}(h:VRe p w g es kvs):kvs.length=es.length:=(Zfa.mp h).len
theorem Zdi {p:Program}{w:World}{x:Str}{v:Value}(h:(strKind p w).is x v=true):∃t,v = .str x t:=by
 induction v <;> simp [PySem.strKind,Value.isStrOf] at h;exact ⟨_,by rw [h]⟩
theorem ZfD {tgt:Expr}{es:List (Str×D)}{QI:(St→Prop)→List A→St→Prop}(q:QI (fun j=>True) ((es.map fun e=>D.str e.1).map .d) ⟨l,o,k⟩)
 (ht:∀it v,letOwnedTupleGo tgt it v=pure ():=by intro j j;rfl):ItJ c tgt ⟨l,o,.d (.dict es)::k⟩ QI:=fun F v vs s zq15=>by
 obtain ⟨g,ρ,m,W⟩:=zq15;refine Yk ((Zd W.stk:VR c.p c.w g (.dict es) v)) fun a kvs e1 hns hl hv=>?_;subst e1;refine oze (UJ hl) fun ep hl1=>?_;have hl':=YW W.keep hl1;have hne:a≠s.heap.objs.size:=fun z=>by
  refine Zz hl' fun ob j e j=>?_;exact absurd (Kk e) (by rw [z];exact Nat.lt_irrefl _)
 refine wpAny_pyIter_dict (Zbn hns) hl' (WV (W.stack (Za W.stk)) (fun A hA=>Walks.dictKeys (knd:=strKind c.p c.w) hA _ a hne kvs ep) (fun i h x=>by refine Zb x.1 fun o e j=>?_;exact ⟨o,e⟩) ⟨⟨_,Kh _ rfl,rfl,rfl⟩,YW (Sub.push _ _) hl'⟩ (fun b hb=>?_) _ (by simp [(Zct hv)]) (fun i v hi hP=>?_) q ht)
 ·rcases ZQ hb with rfl | hb
  ·exact .inl rfl
  ·rw [List.mem_singleton] at hb;subst hb;refine Zz hl1 fun ob j e j=>?_;exact .inr ⟨_,e⟩
 ·refine Zz hP fun y z h1 h2=>?_;refine Zb (Zc8 hv h1) fun d h3 j=>?_;exact ⟨.str y,by simp [h3],Zdi h2⟩
theorem UG {tgt:Expr}{es:List (Str×D)}{QI:(St→Prop)→List A→St→Prop}(q:QI (fun j=>True) ((es.map fun e=>e.2).map .d) ⟨l,o,k⟩)
 (ht:∀it v,letOwnedTupleGo tgt it v=pure ():=by intro j j;rfl):ItJ c tgt ⟨l,o,.d (.view .values es)::k⟩ QI:=fun F v vs s zq17=>by
 obtain ⟨g,ρ,m,W⟩:=zq17;refine UM ((Zd W.stk:VR c.p c.w g (.view .values es) v)) fun a d kvs e1 hns hw hl hv=>?_;subst e1;refine oze (UJ hl) fun ep hl1=>?_;have hl':=YW W.keep hl1;have hne:d≠s.heap.objs.size:=fun z=>by
  refine Zz hl' fun ob j e j=>?_;exact absurd (Kk e) (by rw [z];exact Nat.lt_irrefl _)
 refine wpAny_pyIter_values (YY W.keep .values hw) hl' (WV (W.stack (Za W.stk)) (fun A hA=>Walks.dictValues (knd:=strKind c.p c.w) hA _ d hne kvs ep) (fun i h x=>by refine Zb x.1 fun o e j=>?_;exact ⟨o,e⟩) ⟨⟨_,Kh _ rfl,rfl,rfl⟩,YW (Sub.push _ _) hl'⟩ (fun b hb=>?_) _ (by simp [(Zct hv)]) (fun i v hi hP=>?_) q ht)
 ·rcases ZQ hb with rfl | hb
  ·exact .inl rfl
  ·rw [List.mem_singleton] at hb;subst hb;refine Zz hl1 fun ob j e j=>?_;exact .inr ⟨_,e⟩
 ·refine oze hP fun y h1=>?_;refine Zb (Zc8 hv h1) fun z h3 h4=>?_;exact ⟨z,by simp [h3],h4⟩
end
end
section
section
variable {c:Cx}{F:Fz}{st:St}{vs:List Value}{s:Shared}{g:Heap}{ρ:List Addr}{m:Str→Option Value}{Q:St→Prop}{l:List (Nat×A)}{o:List O}{k:List A}
theorem Zn6 {p:Program}{w:World}{g:Heap}{ρ:List Addr}{es:List (Str×A)}{kvs:List (Str×Value)}{i:Nat}{x:Str×A}(h:ARe p w g ρ es kvs) (e:es[i]?=some x):∃v,kvs[i]?=some (x.1,v)∧AR p w g ρ x.2 v:=by
 refine Zb ((Y1.mp h).get e) fun v h1 h2=>?_;exact ⟨v.2,h2.1▸h1,h2.2⟩
theorem Yy {p:Program}{w:World}{g:Heap}{ρ:List Addr}{es:List (Str×A)}{kvs:List (Str×Value)}(h:ARe p w g ρ es kvs):kvs.length=es.length:=(Y1.mp h).len
theorem Zcb {I:Addr}{hs:List (Addr×Obj)}(W:RSW c {F with hid:=Zn s.heap [I]++hs} st vs s g ρ m) (hI:∃o,s.heap.get? I=some o) (hd:∀q∈hs,q.1∉[I]) {h':Heap}{t:Nat}(hk:∀b o,b≠I→s.heap.get? b=some o→h'.get? b=some o) :
 RSW c {F with hid:=Zn h' [I]++hs} st vs {s with heap:=h',toks:=t} g ρ m:=by
 have keys:=Z4 (h:=s.heap) (bs:=[I]) fun b hb=>by rw [List.mem_singleton] at hb;subst hb;exact hI
 exact RSW.rehide (F:={F with hid:=hs}) (g₁:=F.g₀) W (hs':=Zn h' [I]) (fun q hq z=>hd q hq ((keys _).mp z)) (h':=h') (t:=t) (fun b o hb e=>hk b o (fun z=>hb ((keys b).mpr (Zda z))) e) fun q hq=>⟨(keys _).mpr (Zi hq).1,(Zi hq).2⟩
theorem ZdX {I:Addr}{hs:List (Addr×Obj)}(W:RSW c {F with hid:=Zn s.heap [I]++hs} st vs s g ρ m) (hI:∃o,s.heap.get? I=some o) (hd:∀q∈hs,q.1∉[I]) {h':Heap}{t:Nat}(hk:∀b o,b≠I→s.heap.get? b=some o→h'.get? b=some o) :
 RSW c {F with hid:=hs} st vs {s with heap:=h',toks:=t} g ρ m:=by
 have keys:=Z4 (h:=s.heap) (bs:=[I]) fun b hb=>by rw [List.mem_singleton] at hb;subst hb;exact hI
 exact RSW.rehide (F:={F with hid:=hs}) (g₁:=F.g₀) W (hs':=[]) (fun q hq z=>hd q hq ((keys _).mp z)) (h':=h') (t:=t) (fun b o hb e=>hk b o (fun z=>hb ((keys b).mpr (Zda z))) e) (fun j h=>nomatch h)
theorem ZoP {tgt:Expr}{j:Nat}{xs:List A}{QI:(St→Prop)→List A→St→Prop}(ho:o[j]?=some (.list xs)) (q:QI (fun st=>st.own[j]?=some (.list xs)) xs ⟨l,o,k⟩)
 (ht:∀it v,letOwnedTupleGo tgt it v=pure ():=by intro r r;rfl):ItJ c tgt ⟨l,o,.own j::k⟩ QI:=fun F v vs s zq0=>by
 refine ozr zq0 fun g ρ m W=>?_;obtain ⟨a,ea,e1⟩:∃a,ρ[j]?=some a∧v = .ref a:=Zd W.stk;subst e1;refine Zb (W.own j _ a ho ea) fun us hl hv=>?_;have hne:a≠s.heap.objs.size:=fun z=>by
  refine oze hl fun n e=>?_;exact absurd (Kk e) (by rw [z];exact Nat.lt_irrefl _)
 refine wpAny_pyIter_list hl.isList (Wp (W.stack (Za W.stk)) (need:=0) (Nat.zero_le _) (fp:=[s.heap.objs.size]) (pn:=[(j,a)]) (Si:=fun i h=>h.IsListIter s.heap.objs.size a i) ?_ ⟨_,Kh _ rfl,rfl,rfl⟩ (fun q hq=>by rw [List.mem_singleton] at hq;subst hq;exact ea) q);refine {th:=XT fun i h x=>ZR x,fpx:=fun b hb=>.inl hb,frame:=fun i h h' x hk=>x.at fun o e=>hk _ (Zda rfl) o e,self:=fun A i s Q E hA hSi hq=>wpAny_pyIter_listiter hSi hq,item:=?_,done:=?_}
 ·rintro c' F' hs i x st' vs' s' hc r hx hSi hok r hp hd ⟨g',ρ',m',W'⟩;refine Ka fun zn3=>?_;refine Zb (W'.own j _ a hok (W'.pin _ (hp _ (List.mem_singleton.mpr rfl)))) fun us' hl' hv'=>?_;refine Zb (Zar hv' hx) fun u hu hr=>?_;refine zn3 ?_;refine wpAny_pyNext_list_item hSi hl'.isList (x:=u) (by simpa using hu) fun h2 hit hs2=>⟨u,rfl,wpAny_of_eq (ht _ _) ⟨hit,g',ρ',m',?_⟩⟩;exact (Zcb W' (ZR hSi) hd (h':=h2) (t:=s'.toks) fun b o hb e=>(hs2.2 b hb).trans e).push hr
 ·rintro c' F' hs st' vs' s' hc r hSi hok r hp hd ⟨g',ρ',m',W'⟩;refine Zb (W'.own j _ a hok (W'.pin _ (hp _ (Zda rfl)))) fun us' hl' hv'=>?_;refine wpAny_pyNext_list_end c'.hh hSi hl'.isList (by simp [Z6 hv']) fun h2 he=>⟨rfl,g',ρ',m',?_⟩;exact ZdX W' (ZR hSi) hd (h':=h2) (t:=s'.toks) fun b o hb e=>he b o hb e
theorem Zb7 (W:RSW c F st vs s g ρ m) {h':Heap}(hs:Sub s.heap h') {wr:List Addr}(hw:∀b∈wr,s.heap.objs.size≤b) {pn:List (Nat×Addr)}(hp:∀q∈pn,ρ[q.1]?=some q.2) :
 ∃g',Sub g g'∧(∀b o,s.heap.objs.size≤b→b∉wr→h'.get? b=some o→g'.get? b=some o)∧Sub F.g₀ g'∧(∀q∈F.hid,q.1∉wr)∧RS c {F with g₀:=g',hid:=Zn h' wr++F.hid,pin:=pn++F.pin} st vs {s with heap:=h'}:=by
 have nm:∀b,s.heap.objs.size≤b→b∉Z0 c.G F (c.env.locals::ρ):=fun b hb z=>by
  refine oze (W.thereM _ z) fun ob e=>?_;exact absurd (Kk e) (Zaq hb)
 have W0:=((W.grow (s':={s with heap:=h'}) hs W.gens W.bare rfl).hide (hs:=Zn h' wr) fun q hq=>by
  refine oza (Zi hq) fun h1 h2=>?_;refine ⟨h2,?_,nm _ (hw _ h1)⟩;induction e:g.get? q.1 with
  | none=>rfl
  | some ob=>exact absurd (Kk (W.keep _ _ e)) (Zaq (hw _ h1))).pinned hp
 have sub:Sub g _:=fun b o e=>PySem.W.hideAll_get (Z0 c.G _ (c.env.locals::ρ)) (W0.keep b o e) fun hb=>by rw [W0.nomut b hb] at e;exact Zo e
 refine ⟨_,sub,fun b o hb hn e=>PySem.W.hideAll_get _ e fun z=>?_,W.g0.trans sub,fun q hq z=>nm _ (hw _ z) (XS hq),_,ρ,m,W0.canon.at_g⟩;have:b∈Z0 c.G F (c.env.locals::ρ):=by
  refine Or.elim (Z8 z) (fun z=>?_) fun z=>?_
  ·exact Kg _ z
  ·refine Or.elim (Z8 z) (fun z=>?_) fun z=>?_
   ·exact Kf _ (Kg _ z)
   ·refine Zb (Xb z) fun q hq e=>?_;refine Or.elim (Z8 hq) (fun hq=>?_) fun hq=>?_
    ·exact absurd (e▸(Zi hq).1) hn
    ·exact Kf _ (Kf _ (List.mem_map.mpr ⟨q,hq,e⟩))
 exact nm _ hb this
theorem Zmg {e:Expr}{r:List Expr}(h:Zt (e::r)=true):Yn e=false:=by
 unfold Zt at h;rw [List.all_cons] at h;induction hb:Yn e with
 | false=>rfl
 | true=>rw [hb] at h;exact YU h
theorem IsFl.isList_sub {h h':Heap}{a:Addr}{ws:List Value}(x:IsFl h a ws) (hk:Sub h h'):h'.IsList a ws.toArray:=(x.sub hk).isList
theorem UL {α:Type}{P:α→Prop}:∀b∈([]:List α),P b:=fun j h=>nomatch h
theorem ZE {α:Type}{P:α→Prop}{a:α}{l:List α}(h:P a) (t:∀b∈l,P b):∀b∈a::l,P b:=fun b hb=>by
 cases hb with
 | head=>exact h
 | tail _ hb=>exact t b hb
theorem Uq {α:Type}{a:α}:a∉([]:List α):=fun h=>nomatch h
theorem XO {α:Type}{a b:α}{l:List α}(h:a≠b) (t:a∉l):a∉b::l:=fun hb=>by
 cases hb with
 | head=>exact h rfl
 | tail _ hb=>exact t hb
theorem Zbo {fe ea:Expr}{er:List Expr}{pos:Pos}{Q2:St→Prop}{P:Value→Shared→Prop}(h:EJ c fe st fun st1=>GJ c (ea::er) st1 Q2) (hc:Xd fe=false) (hs:Zt (ea::er)=true) {F:Fz}{vs:List Value}{s:Shared}(R:RS c F st vs s)
 (k:∀f us s2 st2,us.length=(ea::er).length→RS c F st2 (us.reverse++f::vs) s2→Q2 st2→ZF c f s2.heap∧wpAny (model c.p c.w) c.A (call f us) P NoE s2):wpAny (model c.p c.w) c.A (eval (.Call fe (ea::er) [] pos) c.env) P NoE s:=by
 rw [Y2 _ _ _ hc];refine Kd (wpm (h F vs s R) (fun f s1 zq2=>?_));refine ozg zq2 fun st1 R1 h1=>?_;refine W.callWith_of (P:=fun h=>ZF c f h) (by rw [(Xn (pos:=pos) (env:=c.env) hs).1];rfl) (fun h hk=>hk) ?_;have key:=h1 F (f::vs) s1 pos R1;rw [ZP _ _ (Zmg hs)] at key ⊢;refine evalArgs_plain (wpm key (fun us s2 zq3=>?_));refine Ka fun zn9=>?_;obtain ⟨hl,st2,R2,q⟩:=zq3;refine zn9 ?_;exact k f us s2 st2 hl R2 q
theorem ZlS {G:Gx}{g:Heap}{ρ:List Addr}{st:St}{us vs:List Value}{f f0:Value}{xs:List D}{r:List A}{P:Prop}(h:ARs G.p G.w g ρ st.stk (us.reverse++f::vs)) (e:st.stk = .d (.list xs)::.d (.val f0)::r) (hl:us.length=1)
 (k:∀a ws,IsFl g a ws→VRs G.p G.w g xs ws→ARs G.p G.w g ρ r vs→us=[.ref a]→f=f0→P):P:=by
 rw [e] at h;refine oza (Zy (xs:=[.d (.list xs)]) (us:=us) (r:=.d (.val f0)::r) h hl) fun q1 q2=>?_;obtain ⟨u,e1,a,ws,e2,hla,hva⟩:=Yh q1;exact k a ws hla hva (Za q2) (by rw [e1,e2]) (Zd q2)
theorem Zkx {G:Gx}{g:Heap}{ρ:List Addr}{st:St}{us vs:List Value}{f f0:Value}{xs ys:List D}{r:List A}{P:Prop}(h:ARs G.p G.w g ρ st.stk (us.reverse++f::vs)) (e:st.stk = .d (.list ys)::.d (.list xs)::.d (.val f0)::r) (hl:us.length=2)
 (k:∀a ws b ts,IsFl g a ws→VRs G.p G.w g xs ws→IsFl g b ts→VRs G.p G.w g ys ts→ARs G.p G.w g ρ r vs→us=[.ref a,.ref b]→f=f0→P):P:=by
 rw [e] at h;refine oza (Zy (xs:=[.d (.list xs),.d (.list ys)]) (us:=us) (r:=.d (.val f0)::r) h hl) fun q1 q2=>?_;obtain ⟨u,v,e1,⟨a,ws,e2,hla,hva⟩,b,ts,e3,hlb,hvb⟩:=Yz q1;exact k a ws b ts hla hva hlb hvb (Za q2) (by rw [e1,e2,e3]) (Zd q2)
def Zql (z TI TO i1 i2 a b:Addr) (xs ys:Array Value) (i:Nat) (h:Heap):Prop :=
 IsZip h z TI TO .none∧IsPair h TI (.ref i1) (.ref i2)∧(∃a b,IsPair h TO a b)∧h.IsListIter i1 a i∧h.IsListIter i2 b i∧h.IsList a xs∧h.IsList b ys
theorem ZjV {G:Gx}{elts:List Expr}{n:Nat}{tp:Pos}{z TI TO i1 i2 a b:Addr}(Dz:ZipApart z TI TO i1 i2 a b) {ws ts:List Value}{xs ys:List D}{g':Heap}(hT:∃o,g'.get? TI=some o) (ha:IsFl g' a ws) (hb:IsFl g' b ts) (hva:VRs G.p G.w g' xs ws) (hvb:VRs G.p G.w g' ys ts) :
 Feed G 0 (.Tuple elts n tp) z [z,TO,i1,i2] [z,TI,TO,i1,i2,a,b] g' [] (((xs.zip ys).map fun q=>[q.1,q.2]).map fun x=>.d (.tuple x)) (fun j=>True) (Zql z TI TO i1 i2 a b ws.toArray ts.toArray):=by
 refine Ka fun zn12=>?_;refine Zb ha fun j xa j=>?_;refine Zb hb fun j xb j=>?_;refine zn12 ?_
 refine Feed.ofT (n:=min ws.toArray.size ts.toArray.size) (Pt:=fun i vals=>∃x y,ws.toArray[i]?=some x∧ts.toArray[i]?=some y∧vals=#[x,y]) (fun A hA=>WalksT.zip2 hA _ _ _ _ _ _ _ Dz ws.toArray ts.toArray) (fun i h S=>?_)
  (ZE (.inl (.head _)) (ZE (.inr hT) (ZE (.inl (.tail _ (.head _))) (ZE (.inl (.tail _ (.tail _ (.head _)))) (ZE (.inl (.tail _ (.tail _ (.tail _ (.head _))))) (ZE (.inr ⟨_,xa⟩) (ZE (.inr ⟨_,xb⟩) UL))))))) ((xs.zip ys).map fun q=>[q.1,q.2]) (by simp [(Zu hva),(Zu hvb)]) fun i vals hi S=>?_
 ·refine Ka fun zn13=>?_;refine Zlm S fun a1 a2 zo2 a4 a5 j=>?_;refine XN zo2 fun j j a3=>?_;refine zn13 ?_;exact ZE ⟨_,a1⟩ (ZE ⟨_,a3⟩ (ZE (ZR a4) (ZE (ZR a5) UL)))
 ·refine Ka fun zn14=>?_;refine Zc S fun x y e1 e2 zo2=>?_;subst zo2;refine Zb (YO hva (i:=i) (v:=x) (by simpa using e1)) fun d1 f1 f2=>?_;refine Zb (YO hvb (i:=i) (v:=y) (by simpa using e2)) fun d2 f3 f4=>?_;refine zn14 ?_;exact ⟨[d1,d2],by rw [List.getElem?_map,show (xs.zip ys)[i]?=some (d1,d2) from List.getElem?_zip_eq_some.mpr ⟨f1,f3⟩];rfl,x,[y],rfl,f2,y,[],rfl,f4,rfl⟩
theorem Zm3 {elts:List Expr}{n:Nat}{tp:Pos}{fe ea eb:Expr}{pos:Pos}{QI:(St→Prop)→List A→St→Prop}(h:EJ c fe st fun st1=>GJ c [ea,eb] st1 fun st2=>∃xs ys r,st2.stk = .d (.list ys)::.d (.list xs)::.d (.val (.type "zip"))::r ∧
 QI (fun j=>True) (((xs.zip ys).map fun q=>[q.1,q.2]).map fun x=>.d (.tuple x)) ⟨st2.loc,st2.own,r⟩)
 (hc:Xd fe=false:=by rfl) (hs:Zt [ea,eb]=true:=by rfl):IEJ c (.Tuple elts n tp) (.Call fe [ea,eb] [] pos) st QI:=fun F vs s R=>by
 refine Zbo h hc hs R fun f us s2 st2 hl R2 q=>?_;obtain ⟨g,ρ,m,W⟩:=R2;refine ZZ q fun xs ys r hstk hq=>?_;refine Zkx W.stk hstk hl fun a ws b ts hla hva hlb hvb q2 e1 e2=>?_;subst e1 e2;have ha:=hla.sub W.keep;have hb:=hlb.sub W.keep;refine ⟨Xm,call_zip_2 ha.isList hb.isList fun h' hz hTI hTO h1 h2 hsz hk=>wpAny_pyIter_zip hz ?_⟩;refine ZcQ (Zb7 (W.stack q2) (h':=h') hk (wr:=[s2.heap.objs.size+4,s2.heap.objs.size+3,s2.heap.objs.size,s2.heap.objs.size+1]) (ZE (Ko _ _) (ZE (Ko _ _) (ZE (Kq _) (ZE (Ko _ _) UL)))) (pn:=[]) (fun j h=>nomatch h)) fun g' sub new x1 x2 x3=>?_;exact .mk _ 0 _ _ g' [] _ _ _ _ rfl (Nat.zero_le _) (ZjV (PySem.W.ktu_apart _ a b ha.lt hb.lt) ⟨_,new _ _ (Ko _ _) (by simp) hTI⟩ (hla.sub sub) (hlb.sub sub) (VRs.sub _ _ sub _ _ hva) (VRs.sub _ _ sub _ _ hvb)) ⟨hz,hTI,⟨_,_,hTO⟩,h1,h2,ha.isList_sub hk,hb.isList_sub hk⟩ x1 x2 x3 hq
theorem UZ {p:Program}{w:World}{A:Around}(hh:A.handled=none) (I d:Addr) (hne:d≠I) (kvs:List (Str×Value)) (ep:Nat) :
 WalksT p w A I [I,d] [I] kvs.length (fun i vals=>∃x t y,kvs[i]?=some (x,y)∧vals=#[.str x t,y])
  (fun i h=>(∃ok ov,IsItemIter h I d i kvs.length ep ok ov)∧h.DictAt (strKind p w) d kvs ep)
  (fun i T h=>(∃ok ov,IsItemIterOut h I d (i+1) kvs.length ep ok ov T)∧h.DictAt (strKind p w) d kvs ep∧T≠I) where
 sub:=fun b hb=>by simp at hb;simp [hb]
 frame:=fun i h h' hst hk=>by
  refine Ka fun zn15=>?_;obtain ⟨⟨ok,ov,he⟩,o,es,e,r⟩:=hst;refine zn15 ?_;exact ⟨⟨ok,ov,hk I (by simp) _ he⟩,o,es,hk d (by simp) _ e,r⟩
 item:=fun i s Q E hi hst hQ=>by
  refine oza hst fun zo3 hd=>?_;refine XN zo3 fun ok ov he=>?_;obtain ⟨⟨x,y⟩,hx⟩:∃p,kvs[i]?=some p:=⟨kvs[i],by simp [hi]⟩;refine wpAny_pyNext_items_item he hd hx fun key h' hkey ho hT hsz hk=>?_;refine oze (Zdi hkey) fun t zo3=>?_;subst zo3;have hIlt:I<s.heap.objs.size:=Kk he;refine Zz hd fun o es e r=>?_;exact hQ _ #[.str x t,y] h' s.toks ⟨x,t,y,hx,rfl⟩ (Kq _) ⟨_,hT,rfl,_,rfl⟩ ⟨⟨_,_,ho⟩,⟨o,es,hk d o hne e,r⟩,Nat.ne_of_gt hIlt⟩ fun b o hb e=>hk b o (fun z=>hb (by simp [z])) e
 go:=fun elts k pos i T s Q E hm hQ=>by
  refine Ka fun zn18=>?_;refine Yq hm fun zo6 zo7 hT=>?_;refine XN zo6 fun ok ov ho=>?_;refine Zz zo7 fun o es e r=>?_;refine zn18 ?_;refine wpAny_letOwnedTupleGo_items ho fun h' he' hs'=>hQ h' ⟨⟨ok,ov,he'⟩,o,es,(hs'.2 d hne).trans e,r⟩ fun b o hb e=>(hs'.2 b fun z=>hb (by simp [z])).trans e
 apart:=fun i T h hm hT=>by
  refine Yq hm fun j j hn=>?_;exact hn (ZaI hT)
 done:=fun s Q E hst hQ=>by
  refine Ka fun zn20=>?_;refine oza hst fun zo7 hd=>?_;refine XN zo7 fun ok ov he=>?_;refine zn20 ?_;exact wpAny_pyNext_items_end hh he hd (by simp) fun h' he'=>hQ h' s.toks fun b o hb e=>he' b o (fun z=>hb (by simp [z])) e
 self:=fun i s Q E hst hQ=>by
  refine Ka fun zn21=>?_;refine oza hst fun zo8 j=>?_;refine XN zo8 fun ok ov he=>?_;refine zn21 ?_;exact PySem.W.kcp_self he hQ
theorem Zev {elts:List Expr}{n:Nat}{tp:Pos}{es:List (Str×D)}{QI:(St→Prop)→List A→St→Prop}(q:QI (fun j=>True) ((es.map fun e=>[D.str e.1,e.2]).map fun x=>.d (.tuple x)) ⟨l,o,k⟩):ItJ c (.Tuple elts n tp) ⟨l,o,.d (.view .items es)::k⟩ QI:=fun F v vs s zq4=>by
 obtain ⟨g,ρ,m,W⟩:=zq4;refine UM ((Zd W.stk:VR c.p c.w g (.view .items es) v)) fun a d kvs e1 hns hw hl hv=>?_;subst e1;refine oze (UJ hl) fun ep hl1=>?_;have hl':=YW W.keep hl1;have hne:d≠s.heap.objs.size:=fun z=>by
  refine Zz hl' fun ob j e j=>?_;exact absurd (Kk e) (by rw [z];exact Nat.lt_irrefl _)
 refine wpAny_pyIter_items (YY W.keep .items hw) hl' (Wp (W.stack (Za W.stk)) (need:=0) (Nat.zero_le _) (pn:=[]) (Feed.ofT (fun A hA=>UZ hA _ d hne kvs ep) (XT fun i h x=>by refine XN x.1 fun j j e=>?_;exact ⟨_,e⟩) (fun b hb=>?_) (es.map fun e=>[D.str e.1,e.2]) (by simp [(Zct hv)]) fun i vals hi hP=>?_)
  ⟨⟨.none,.none,Kh _ rfl⟩,YW (Sub.push _ _) hl'⟩ (fun j h=>nomatch h) q)
 ·rcases ZQ hb with rfl | hb
  ·exact .inl (Zda rfl)
  ·rw [List.mem_singleton] at hb;subst hb;refine Zz hl1 fun ob j e j=>?_;exact .inr ⟨_,e⟩
 ·refine ZZ hP fun x t y h1 zo1=>?_;subst zo1;refine Zb (Zc8 hv h1) fun z h2 h3=>?_;exact ⟨[.str x,z],by simp [h2],_,_,rfl,⟨t,rfl⟩,_,_,rfl,h3,rfl⟩
def Zoh (e it a:Addr) (xs:Array Value) (i:Nat) (h:Heap):Prop:=(∃old,IsEnum h e it i old)∧h.IsListIter it a i∧h.IsList a xs
theorem ZgX {G:Gx}{elts:List Expr}{n:Nat}{tp:Pos}{e it a:Addr}(h1:e≠it) (h2:a≠e) (h3:a≠it) {ws:List Value}{xs:List D}{g':Heap}(ha:IsFl g' a ws) (hva:VRs G.p G.w g' xs ws) :
 Feed G 0 (.Tuple elts n tp) e [e,it] [e,it,a] g' [] ((xs.zipIdx.map fun q=>[D.int (q.2:Int),q.1]).map fun x=>.d (.tuple x)) (fun j=>True) (Zoh e it a ws.toArray):=by
 refine Zb ha fun j xa j=>?_;refine Feed.ofT (n:=ws.toArray.size) (Pt:=fun i vals=>∃t x,ws.toArray[i]?=some x∧vals=#[.int i t,x]) (fun A hA=>WalksT.enumerate hA _ _ a h1 h2 h3 ws.toArray) (fun i h S=>?_) (ZE (.inl (.head _)) (ZE (.inl (.tail _ (.head _))) (ZE (.inr ⟨_,xa⟩) UL))) (xs.zipIdx.map fun q=>[D.int (q.2:Int),q.1]) (by simp [(Zu hva)]) fun i vals hi S=>?_
 ·refine Yq S fun zo2 a4 j=>?_;refine oze zo2 fun j a1=>?_;exact ZE ⟨_,a1⟩ (ZE (ZR a4) UL)
 ·refine Zz S fun t x e1 zo2=>?_;subst zo2;refine Zb (YO hva (i:=i) (v:=x) (by simpa using e1)) fun d1 f1 f2=>?_;refine ⟨[.int (i:Nat),d1],?_,_,_,rfl,⟨t,rfl⟩,x,[],rfl,f2,rfl⟩;rw [List.getElem?_map,List.getElem?_zipIdx,f1];simp
theorem Zlz {elts:List Expr}{n:Nat}{tp:Pos}{fe ea:Expr}{pos:Pos}{QI:(St→Prop)→List A→St→Prop}(h:EJ c fe st fun st1=>GJ c [ea] st1 fun st2=>∃xs r,st2.stk = .d (.list xs)::.d (.val (.type "enumerate"))::r ∧
 QI (fun j=>True) ((xs.zipIdx.map fun q=>[D.int (q.2:Int),q.1]).map fun x=>.d (.tuple x)) ⟨st2.loc,st2.own,r⟩)
 (hc:Xd fe=false:=by rfl) (hs:Zt [ea]=true:=by rfl):IEJ c (.Tuple elts n tp) (.Call fe [ea] [] pos) st QI:=fun F vs s R=>by
 refine Zbo h hc hs R fun f us s2 st2 hl R2 q=>?_;obtain ⟨g,ρ,m,W⟩:=R2;refine Zz q fun xs r hstk hq=>?_;refine ZlS W.stk hstk hl fun a ws hla hva q2 e1 e2=>?_;subst e1 e2;have ha:=hla.sub W.keep;have hlt:=ha.lt;refine ⟨Xm,call_enumerate_list ha.isList fun h' hz h1 hsz hk=>wpAny_pyIter_enum hz ?_⟩;refine ZcQ (Zb7 (W.stack q2) (h':=h') hk (wr:=[s2.heap.objs.size+1,s2.heap.objs.size]) (ZE (Ko _ _) (ZE (Kq _) UL)) (pn:=[]) (fun j h=>nomatch h)) fun g' sub new x1 x2 x3=>?_;exact .mk _ 0 _ _ g' [] _ _ _ _ rfl (Nat.zero_le _) (ZgX (Nat.succ_ne_self _) (Nat.ne_of_lt (Nat.lt_succ_of_lt hlt)) (Nat.ne_of_lt hlt) (hla.sub sub) (VRs.sub _ _ sub _ _ hva)) ⟨⟨_,hz⟩,h1,ha.isList_sub hk⟩ x1 x2 x3 hq
end
end
section
noncomputable def idx (ρ:List Addr):List (Nat×Addr):=ρ.zipIdx.map fun q=>(q.2,q.1)
theorem UA {ρ:List Addr}{i:Nat}{a:Addr}(h:ρ[i]?=some a):(i,a)∈idx ρ:=List.mem_map.mpr ⟨(a,i),List.mem_zipIdx_iff_getElem?.mpr h,rfl⟩
theorem ZfT {ρ:List Addr}{q:Nat×Addr}(h:q∈idx ρ):ρ[q.1]?=some q.2:=by
 refine Zb (Xb h) fun x hx zo1=>?_;subst zo1;exact List.mem_zipIdx_iff_getElem?.mp hx
noncomputable def Fz.within (F:Fz) (g:Heap) (L:Addr) (lo:Obj) (ρ:List Addr):Fz:=⟨g,(L,lo)::F.hid,F.gens,F.os,idx ρ⟩
section
variable {c c':Cx}{F:Fz}{st:St}{vs:List Value}{s:Shared}{g:Heap}{ρ:List Addr}{m:Str→Option Value}
theorem RSW.enter (W:RSW c F st vs s g ρ m) (hG:c'.G=c.G) {h':Heap}{tk:Nat}{m':Str→Option Value}{l:List (Nat×A)}(hk:Sub s.heap h') (hns:h'.Ns c'.env.locals m') (hC:c'.env.locals∉Z0 c.G F (c.env.locals::ρ)) (hCg:g.get? c'.env.locals=none)
 (hl:∀(i:Nat) a,ZD i l=some a→∃x v,c'.tab[i]?=some x∧m' x=some v∧AR c.p c.w g ρ a v) (hcel:∀x (i:Nat),(x,i)∈c'.cel→∃a,ρ[i]?=some a∧c'.env.cells.lookup x=some a) :
 ∃lo,s.heap.get? c.env.locals=some lo∧RSW c' (F.within g c.env.locals lo ρ) ⟨l,st.own,[]⟩ [] {s with heap:=h',toks:=tk} g ρ m':=by
 refine ZZ (id W.ns) fun lo es ep hlo hns0=>?_;have nm:∀b∈Z0 c.G F (c.env.locals::ρ),c'.env.locals≠b:=fun b hb z=>hC (z▸hb);refine ⟨lo,hlo,{base:=?_,g0:=Sub.refl _,keep:=W.keep.trans hk,reg:=?_,hid:=?_,gens:=W.gens,bare:=W.bare,os:=W.os,ns:=hns,nl:=hCg,loc:=?_,len:=W.len,nd:=W.nd,fr:=?_,own:=?_,stk:=rfl,cel:=hcel,apart:=?_,pin:=?_}⟩
 ·rw [hG];exact W.base
 ·rw [hG];exact fun r hr=>by refine YM (W.reg r hr) fun h1 ob h2 h3=>?_;exact ⟨h1,ob,hk _ _ h2,h3⟩
 ·rw [hG];intro q hq;rcases ZQ hq with rfl | hq
  ·exact ⟨hk _ _ hlo,W.nl,fun r hr=>(W.apart _ (.head _)).1 r hr⟩
  ·refine oza (W.hid q hq) fun h1 h2=>?_;exact ⟨hk _ _ h1,h2⟩
 ·intro x a h
  have:=hl x a h;unfold Cx.p Cx.w;rw [hG];exact this
 ·exact fun b hb=>⟨(W.fr b hb).1,(nm b (ZT (.tail _ hb))).symm⟩
 ·intro i ob a h1 h2
  have:=OAt.sub _ _ (Sub.refl _) (Ext.refl _) (fun j e=>hk _ _ e) ob (W.own i ob a h1 h2);unfold Cx.p Cx.w;rw [hG];exact this
 ·intro b hb;rw [hG];rcases ZQ hb with rfl | hb
  ·refine ⟨fun r hr=>nm _ (Ui hr),fun q hq=>?_⟩;rcases ZQ hq with rfl | hq
   ·exact nm _ (ZT (.head _))
   ·exact nm _ (XS hq)
  ·refine ⟨(W.apart b (.tail _ hb)).1,fun q hq=>?_⟩;rcases ZQ hq with rfl | hq
   ·exact (W.fr b hb).2
   ·exact (W.apart b (.tail _ hb)).2 q hq
 ·exact fun q hq=>ZfT hq
theorem RSW.leave (W:RSW c F st vs s g ρ m) (hG:c'.G=c.G) {lo:Obj}(hlo:s.heap.get? c.env.locals=some lo) {st5:St}{vs5:List Value}{s5:Shared}{g5:Heap}{ρ5:List Addr}{m5:Str→Option Value}
 (W5:RSW c' (F.within g c.env.locals lo ρ) st5 vs5 s5 g5 ρ5 m5) {h':Heap} {tk:Nat} (hk:∀b o,b≠c'.env.locals→s5.heap.get? b=some o→h'.get? b=some o) :
 RSW c F ⟨st.loc,st5.own,st.stk⟩ vs {s5 with heap:=h',toks:=tk} g5 ρ5 m∧Sub g g5∧Ext ρ ρ5:=by
 have ex:Ext ρ ρ5:=fun i a e=>W5.pin (i,a) (UA e);have hid:=W5.hid;have H0:=W5.reg;have ap:=W5.apart;have hb5:=W5.base;have hl:=W5.loc;have ho:=W5.own;unfold Cx.p Cx.w at ho;rw [hG] at hid H0 ap hb5 ho;have hL:s5.heap.get? c.env.locals=some lo:=(hid _ (.head _)).1;have hLC:c.env.locals≠c'.env.locals:=fun z=>((ap _ (.head _)).2 _ (.head _)) z.symm;refine ⟨{base:=hb5,g0:=W.g0.trans W5.g0,keep:=fun b o e=>hk b o (fun z=>by rw [z,W5.nl] at e;exact Zo e) (W5.keep b o e),reg:=?_,hid:=?_,gens:=W5.gens,bare:=W5.bare,os:=W5.os,ns:=?_,nl:=(hid _ (.head _)).2.1,loc:=?_,len:=W5.len,nd:=W5.nd,fr:=?_,own:=?_,stk:=ARs.sub _ _ W5.g0 ex _ _ W.stk,cel:=?_,apart:=?_,pin:=fun q hq=>ex _ _ (W.pin q hq)},W5.g0,ex⟩
 ·exact fun r hr=>by refine YM (H0 r hr) fun h1 ob h2 h3=>?_;exact ⟨h1,ob,hk _ _ (fun z=>(ap _ (.head _)).1 r hr z.symm) h2,h3⟩
 ·exact fun q hq=>by refine oza (hid q (.tail _ hq)) fun h1 h2=>?_;exact ⟨hk _ _ (fun z=>(ap _ (.head _)).2 q (.tail _ hq) z.symm) h1,h2⟩
 ·refine ZZ W.ns fun o es ep e r=>?_;rw [hlo] at e;obtain rfl:=Kc e;exact ⟨_,es,ep,hk _ _ hLC hL,r⟩
 ·exact fun i a h=>by refine Zc (W.loc i a h) fun x v e0 e r=>?_;exact ⟨x,v,e0,e,AR.sub _ _ W5.g0 ex a v r⟩
 ·exact fun b hb=>⟨(W5.fr b hb).1,fun z=>(ap b (.tail _ hb)).2 _ (.head _) z⟩
 ·exact fun i ob a h1 h2=>OAt.sub _ _ (Sub.refl _) (Ext.refl _) (fun o e=>hk _ _ (W5.fr a (Kj h2)).2 e) ob (ho i ob a h1 h2)
 ·exact fun x i h=>by refine Zb (W.cel x i h) fun a e r=>?_;exact ⟨a,ex _ _ e,r⟩
 ·intro b hb;rcases ZQ hb with rfl | hb
  ·exact W.apart _ (.head _)
  ·exact ⟨(ap b (.tail _ hb)).1,fun q hq=>(ap b (.tail _ hb)).2 q (.tail _ hq)⟩
theorem RSW.hids (W:RSW c F st vs s g ρ m) {hs:List (Addr×Obj)}(h:∀q∈hs,q∈F.hid):RSW c {F with hid:=hs} st vs s g ρ m :=
 {base:=W.base,g0:=W.g0,keep:=W.keep,reg:=W.reg,hid:=fun q hq=>W.hid q (h q hq),gens:=W.gens,bare:=W.bare,os:=W.os,ns:=W.ns,nl:=W.nl,loc:=W.loc,len:=W.len,nd:=W.nd,fr:=W.fr,own:=W.own,stk:=W.stk,cel:=W.cel,apart:=fun b hb=>⟨(W.apart b hb).1,fun q hq=>(W.apart b hb).2 q (h q hq)⟩,pin:=W.pin}
theorem RSW.pins (W:RSW c F st vs s g ρ m) {pn:List (Nat×Addr)}(h:∀q∈pn,ρ[q.1]?=some q.2):RSW c {F with pin:=pn} st vs s g ρ m :=
 {base:=W.base,g0:=W.g0,keep:=W.keep,reg:=W.reg,hid:=W.hid,gens:=W.gens,bare:=W.bare,os:=W.os,ns:=W.ns,nl:=W.nl,loc:=W.loc,len:=W.len,nd:=W.nd,fr:=W.fr,own:=W.own,stk:=W.stk,cel:=W.cel,apart:=W.apart,pin:=h}
noncomputable def ZK (names:List (Str×NameKind)):Nat:=(names.filter fun x=>x.2 == .cell).length
theorem RSW.cells {l:List (Nat×A)}{k:List A}(names:List (Str×NameKind)) {own:List O}{s:Shared}{ρ:List Addr}(W:RSW c F ⟨l,own,k⟩ vs s g ρ m) :
 RSW c F ⟨l,own++List.replicate (ZK names) (.cell none),k⟩ vs {s with heap:=pushCells s.heap names} g (ρ++List.range' s.heap.objs.size (ZK names)) m:=by
 induction names generalizing own s ρ with
 | nil=>rw [show ZK []=0 from rfl,List.replicate_zero,List.append_nil,List.range'_zero,List.append_nil];exact W
 | cons q r ih =>
  induction hk:q.2==NameKind.cell with
  | false =>
   rw [show ZK (q::r)=ZK r from congrArg List.length (List.filter_cons_of_neg (p:=fun x:Str×NameKind=>x.2 == .cell) (Kv hk)),show pushCells s.heap (q::r)=pushCells s.heap r from if_neg (Kv hk)];exact ih W
  | true =>
   have:=ih (W.allocO {cls:=.type "cell",data:=.cell none} s.toks (o':=.cell none) ⟨none,_,Kh _ rfl,rfl,rfl⟩);rw [Heap.size_push ..,List.append_assoc,List.append_assoc] at this;rw [show ZK (q::r)=ZK r+1 from congrArg List.length (List.filter_cons_of_pos (p:=fun x:Str×NameKind=>x.2 == .cell) hk),show pushCells s.heap (q::r)=pushCells (s.heap.push {cls:=.type "cell",data:=.cell none}) r from if_pos hk];exact this
end
end
section
noncomputable def Zf (scope:Scope):List Str:=(scope.names.filter fun x=>x.2 == .local).map (·.1)
noncomputable abbrev Zop (c:Cx) (scope:Scope) (hk:scope.kind = .function) (ht:(Zf scope).Nodup) (C:Addr) (cells:List (Str×Addr)) (cel:List (Str×Nat)):Cx:=⟨c.G,c.A,compEnvC scope cells C c.env,Zf scope,cel,c.fuel,ht,hk,c.hg,c.hb,c.hh,c.hd,c.hu⟩
structure CompFr (c c':Cx) (scope:Scope) (cel:List (Str×Nat)):Prop where
 G:c'.G=c.G
 fuel:c'.fuel=c.fuel
 tab:c'.tab=Zf scope
 kd:∀x,c'.env.kindOf x=(relabel scope c.env).names.lookup x
 cel:c'.cel=cel
noncomputable def Zh (names:List (Str×NameKind)):List Str:=(names.filter fun x=>x.2 == .cell).map (·.1)
theorem Zb6 (names:List (Str×NameKind)):ZK names=(Zh names).length:=by simp [ZK,Zh]
theorem Zah {q:Str×NameKind}{r:List (Str×NameKind)}(h:(q.2==NameKind.cell)=true):Zh (q::r)=q.1::Zh r:=congrArg (List.map fun x:Str×NameKind=>x.1) (List.filter_cons_of_pos (p:=fun x:Str×NameKind=>x.2 == .cell) h)
theorem Zac {q:Str×NameKind}{r:List (Str×NameKind)}(h:(q.2==NameKind.cell)=false):Zh (q::r)=Zh r:=congrArg (List.map fun x:Str×NameKind=>x.1) (List.filter_cons_of_neg (p:=fun x:Str×NameKind=>x.2 == .cell) (Kv h))
theorem Zaa {n:Nat}{acc:List (Str×Addr)}{q:Str×NameKind}{r:List (Str×NameKind)}(h:(q.2==NameKind.cell)=true):cellsFrom n (q::r) acc=cellsFrom (n+1) r ((q.1,n)::acc):=if_pos h
theorem U2 {n:Nat}{acc:List (Str×Addr)}{q:Str×NameKind}{r:List (Str×NameKind)}(h:(q.2==NameKind.cell)=false):cellsFrom n (q::r) acc=cellsFrom n r acc:=if_neg (Kv h)
theorem Wk {y:Str}{names:List (Str×NameKind)}{n:Nat}{acc:List (Str×Addr)}(h:y∉Zh names):(cellsFrom n names acc).lookup y=acc.lookup y:=by
 induction names generalizing n acc with
 | nil=>rfl
 | cons q r ih =>
  induction hk:q.2==NameKind.cell with
  | false =>
   rw [Zac hk] at h;rw [U2 hk];exact ih h
  | true =>
   rw [Zah hk] at h;rw [Zaa hk,ih fun z=>h (.tail _ z),List.lookup_cons,Zbn fun e:y=q.1=>h (e▸.head _)]
theorem X6 {names:List (Str×NameKind)}{n:Nat}{acc:List (Str×Addr)}{j:Nat}{x:Str}(hnd:(Zh names).Nodup) (h:(Zh names)[j]?=some x):(cellsFrom n names acc).lookup x=some (n+j):=by
 induction names generalizing n acc j with
 | nil=>exact Zo h
 | cons q r ih =>
  induction hk:q.2==NameKind.cell with
  | false =>
   rw [Zac hk] at hnd h;rw [U2 hk];exact ih hnd h
  | true =>
   rw [Zah hk] at hnd h;rw [Zaa hk];have hnd:=List.nodup_cons.mp hnd;induction j using Nat.casesOn with
   | zero=>rw [←Kc h,Wk hnd.1,List.lookup_cons,beq_self_eq_true];rfl
   | succ j=>rw [ih hnd.2 h,Nat.add_assoc,Nat.add_comm 1]
theorem Ze5 (scope:Scope) (env:Env) (h:∀x,(x,NameKind.free)∈scope.names→∃a,env.cells.lookup x=some a):∃cl,closureFor scope env=pure cl∧∀x,(x,NameKind.free)∈scope.names→cl.lookup x=env.cells.lookup x:=by
 have key:∀(names:List (Str×NameKind)) (acc:List (Str×Addr)),(∀x,(x,NameKind.free)∈names→∃a,env.cells.lookup x=some a)→(∀x a,(x,a)∈acc→env.cells.lookup x=some a) →
  ∃cl,(forIn names acc fun (x:Str×NameKind) cs=>if x.2==NameKind.free then (do let a ←cellOf env x.1;pure (ForInStep.yield ((x.1,a)::cs))) else pure (ForInStep.yield cs):Sem (List (Str×Addr)))=pure cl∧(∀q∈acc,q∈cl)∧(∀x a,(x,a)∈cl→env.cells.lookup x=some a)∧∀x,(x,NameKind.free)∈names→∃a,(x,a)∈cl:=by
  intro names;induction names with
  | nil=>intro acc j h2;exact ⟨acc,by rw [List.forIn_nil],fun j h=>h,h2,fun j h=>nomatch h⟩
  | cons y r ih =>
   intro acc h1 h2;obtain ⟨n,k⟩:=y;induction hk:k==NameKind.free with
   | false =>
    refine Wt (ih acc (fun x hx=>h1 x (.tail _ hx)) h2) fun cl e1 e2 e3 e4=>?_;refine ⟨cl,?_,e2,e3,fun x hx=>?_⟩
    ·rw [List.forIn_cons];simp only [hk,Bool.false_eq_true,if_false];exact e1
    ·refine Or.elim (ZQ hx) (fun hx=>?_) fun hx=>?_
     ·cases hx;simp at hk
     ·exact e4 x hx
   | true =>
    have ek:k = .free:=by simpa using hk
    subst ek;refine oze (h1 n (.head _)) fun a ha=>?_;obtain ⟨cl,e1,e2,e3,e4⟩:=ih ((n,a)::acc) (fun x hx=>h1 x (.tail _ hx)) fun x b hb=>by
     refine Or.elim (ZQ hb) (fun hb=>?_) fun hb=>?_
     ·cases hb;exact ha
     ·exact h2 x b hb
    refine ⟨cl,?_,fun q hq=>e2 q (.tail _ hq),e3,fun x hx=>?_⟩
    ·rw [List.forIn_cons];unfold cellOf;rw [ha];exact e1
    ·refine Or.elim (ZQ hx) (fun hx=>?_) fun hx=>?_
     ·cases hx;exact ⟨a,e2 _ (.head _)⟩
     ·exact e4 x hx
 refine Wt (key scope.names [] h (fun j j h=>nomatch h)) fun cl e1 j e3 e4=>?_;refine ⟨cl,?_,fun x hx=>?_⟩
 ·have e5:closureFor scope env=(forIn scope.names ([]:List (Str×Addr)) fun (x:Str×NameKind) cs=>if x.2==NameKind.free then (do let a ←cellOf env x.1;pure (ForInStep.yield ((x.1,a)::cs))) else pure (ForInStep.yield cs)) >>= fun r=>pure r:=rfl;rw [e5,e1];rfl
 ·refine oze (e4 x hx) fun a ha=>?_;rw [e3 x a ha];have:∀l:List (Str×Addr),(x,a)∈l→(∀y b,(y,b)∈l→env.cells.lookup y=some b)→l.lookup x=some a:=by
   intro l;induction l with
   | nil=>intro h;cases h
   | cons q r ih =>
    intro h hl;rw [List.lookup_cons];by_cases hq:x=q.1
    ·have:(x==q.1)=true:=by simp [hq]
     rw [this];have e6:=hl x a h;rw [hq,(hl q.1 q.2 (.head _))] at e6;exact e6
    ·rw [Zbn hq];refine Or.elim (ZQ h) (fun h=>?_) fun h=>?_
     ·exact absurd (by rw [←h]) hq
     ·exact ih h fun y b hb=>hl y b (.tail _ hb)
  exact this cl ha e3
noncomputable def Za9 (c:Cx):List Expr→St→(Bool→St→Prop)→Prop
 | [],st,Q=>Q true st
 | e::es,st,Q=>TJ c e st fun b st1=>(b=true→Za9 c es st1 Q)∧(b=false→Q false st1)
noncomputable def CompJ (c:Cx) (tgt:Expr) (ifs:List Expr) (elt:Expr) (ok:St→Prop) (n:Nat):List A→St→(St→Prop)→Prop
 | [],st,Q=>ok st∧Q st
 | x::xs,st,Q=>ok st∧AsJ c tgt ⟨st.loc,st.own,x::st.stk⟩ fun st1=>Za9 c ifs st1 fun b st2 =>
  (b=true→EJ c elt st2 fun st3=>∃a ys,st3.stk=[a]∧st3.own[n]?=some (.list ys)∧ys.length≤1000000∧CompJ c tgt ifs elt ok n xs ⟨st3.loc,st3.own.set n (.list (ys++[a])),[]⟩ Q) ∧
  (b=false→CompJ c tgt ifs elt ok n xs st2 Q)
section
variable {c:Cx}{F:Fz}{st:St}{vs:List Value}{s:Shared}{g:Heap}{ρ:List Addr}{m:Str→Option Value}
theorem Zaf (f:Expr→Bool→Sem (ForInStep Bool)) (hf:∀e,f e false=pure (.yield false)):∀es:List Expr,forIn es false f=pure false
 | []=>rfl
 | e::es=>by rw [List.forIn_cons,hf];exact Zaf f hf es
theorem Uj {c:Cx}{es:List Expr}{st:St}{P P':Bool→St→Prop}(h:Za9 c es st P) (hp:∀b st,P b st→P' b st):Za9 c es st P':=by
 induction es generalizing st with
 | nil=>exact hp _ _ h
 | cons e es ih=>exact TJ.mono h fun b st1 hb=>⟨fun e=>ih (hb.1 e),fun e=>hp _ _ (hb.2 e)⟩
theorem ZkR {es:List Expr}{st:St}{Q:Bool→St→Prop}{F:Fz}{vs:List Value}{s:Shared}(h:Za9 c es st Q) (R:RS c F st vs s) :
 wpAny (model c.p c.w) c.A (forIn es true fun e r=>if r=true then do let ok ←isTrue e c.env (eval e c.env);pure (ForInStep.yield ok) else pure (ForInStep.yield r)) (fun b s'=>Got c F vs (Q b) s') NoE s:=by
 induction es generalizing st s with
 | nil=>exact Ki ⟨st,R,h⟩
 | cons e es ih =>
  rw [List.forIn_cons];refine Kd (m:=if true=true then _ else _) (Kd (m:=isTrue e c.env (eval e c.env)) (wpm (h F vs s R) (fun b s1 z=>Ki ?_)));obtain ⟨st1,R1,h1⟩:=z;induction b with
  | true=>exact ih (h1.1 rfl) R1
  | false =>
   show wpAny _ _ (forIn es false _) _ _ _;rw [Zaf _ (fun e=>if_neg Bool.noConfusion) es];exact Ki ⟨st1,R1,h1.2 rfl⟩
theorem Zd2 {M:Model}{A:Around}{E:Value→Shared→Prop}{s:Shared}{scope:Scope}{globals:Addr}{cl:List (Str×Addr)}{qual:Str}{outer:Env}{Q:Env→Shared→Prop}
 (h:Q {scope,locals:=s.heap.objs.size,globals,cells:=cellsFrom (s.heap.objs.size+1) scope.names cl,qual,func:=none,code:=outer.code,frame:=outer.frame,builtins:=outer.builtins} {s with heap:=pushCells (s.heap.push {cls:=.type "dict",data:=.dict #[]}) scope.names}) :
 wpAny M A (newFunctionEnv scope globals cl [] qual none .none (some outer)) Q E s:=by
 dsimp only [newFunctionEnv,Option.isSome_some,if_true];refine Kd (wpAny_alloc (Kd (wpAny_layCells _ (fun name kind cells=>by induction hkc:kind==NameKind.cell <;> rfl) _ _ _ _ ?_)));rw [Heap.size_push ..];refine Kd ?_;rw [List.forIn_nil];exact Ki (Ki h)
structure CompOK (c:Cx) (scope:Scope) (celA:List (Str×Nat)):Prop where
 kind:scope.kind = .function
 tnd:(Zf scope).Nodup
 names:∀x∈scope.names,x.2 = .local→scope.names.lookup x.1=some .local
 free:∀x,(x,NameKind.free)∈scope.names→∃i,(x,i)∈celA
 celA:∀q∈celA,q∈c.cel∧(q.1,NameKind.free)∈scope.names∧q.1∉Zh scope.names
 nd:(Zh scope.names).Nodup
noncomputable abbrev Yr (scope:Scope) (celA:List (Str×Nat)) (n:Nat):List (Str×Nat):=celA++(Zh scope.names).zipIdx.map fun q=>(q.1,n+1+q.2)
end
end
section
mutual
inductive Frz (own:List O) (n:Nat):A→D→Prop
 | d (x:D):Frz own n (.d x) x
 | list {i:Nat} {xs:List A} {ds:List D}:n≤i→own[i]?=some (.list xs)→Frzs own n xs ds→Frz own n (.own i) (.list ds)
 | dict {i:Nat} {es:List (Str×A)} {ep:Nat} {ds:List (Str×D)}:n≤i→own[i]?=some (.dict es ep)→Frze own n es ds→Frz own n (.own i) (.dict ds)
 | inst {i j:Nat} {c:Addr} {es:List (Str×A)} {ep:Nat} {ds:List (Str×D)}:n≤i→own[i]?=some (.inst c j)→n≤j→own[j]?=some (.dict es ep)→Frze own n es ds→Frz own n (.own i) (.inst c ds)
inductive Frzs (own:List O) (n:Nat):List A→List D→Prop
 | nil:Frzs own n [] []
 | cons {a:A} {d:D} {xs:List A} {ds:List D}:Frz own n a d→Frzs own n xs ds→Frzs own n (a::xs) (d::ds)
inductive Frze (own:List O) (n:Nat):List (Str×A)→List (Str×D)→Prop
 | nil:Frze own n [] []
 | cons {k:Str} {a:A} {d:D} {xs:List (Str×A)} {ds:List (Str×D)}:Frz own n a d→Frze own n xs ds→Frze own n ((k,a)::xs) ((k,d)::ds)
end
theorem Frzs.d {own:List O}{n:Nat}:∀ds:List D,Frzs own n (ds.map .d) ds
 | []=>.nil
 | x::ds=>.cons (.d x) (Frzs.d ds)
theorem Frze.d {own:List O}{n:Nat}:∀ds:List (Str×D),Frze own n (ds.map fun e=>(e.1,A.d e.2)) ds
 | []=>.nil
 | (k,x)::ds=>.cons (.d x) (Frze.d ds)
section
variable {p:Program}{w:World}{own:List O}{n:Nat}{g g' h:Heap}{ρ:List Addr}
theorem ZhZ (hs:Sub g g') (hn:∀(i:Nat) a ob,n≤i→ρ[i]?=some a→h.get? a=some ob→g'.get? a=some ob) (ho:∀(i:Nat) o a,own[i]?=some o→ρ[i]?=some a→OAt p w g ρ h o a) {a:A}{d:D}{v:Value}(f:Frz own n a d) (H:AR p w g ρ a v):VR p w g' d v :=
 Frz.rec (motive_1:=fun a d j=>∀v,AR p w g ρ a v→VR p w g' d v) (motive_2:=fun as ds j=>∀vs,ARs p w g ρ as vs→VRs p w g' ds vs) (motive_3:=fun as ds j=>∀vs,ARe p w g ρ as vs→VRe p w g' ds vs)
  (fun x v H=>VR.sub p w hs x v H)
  (fun hi e j ih v H=>by
   refine Ka fun zn0=>?_;refine Zb H fun a ea ev=>?_;refine Zb (ho _ _ a e ea) fun us zo2 hv=>?_;refine oze zo2 fun k hu=>?_;refine zn0 ?_;exact ⟨a,us,ev,IsLst.fl ⟨k,hn _ a _ hi ea hu⟩,ih _ hv⟩)
  (fun hi e j ih v H=>by
   refine Ka fun zn1=>?_;refine Zb H fun a ea ev=>?_;refine Zx (ho _ _ a e ea) fun kvs h1 zo3 hv=>?_;refine Zz zo3 fun o es h2 h3=>?_;refine zn1 ?_;exact ⟨a,kvs,ev,h1,⟨o,es,_,hn _ a _ hi ea h2,h3⟩,ih _ hv⟩)
  (fun hi e hj e2 j ih v H=>by
   refine Ka fun zn2=>?_;refine Zb H fun a ea ev=>?_;refine Zb (ho _ _ a e ea) fun dx ex h1=>?_;refine Zx (ho _ _ dx e2 ex) fun kvs h2 zo4 hv=>?_;refine Zz zo4 fun o es h3 h4=>?_;refine zn2 ?_;exact ⟨a,kvs,ev,⟨dx,hn _ a _ hi ea h1,⟨o,es,_,hn _ dx _ hj ex h3,h4⟩⟩,ih _ hv⟩)
  (fun j H=>H) (fun j j i1 i2 vs H=>by refine Zc H fun v vs e h1 h2=>?_;exact ⟨v,vs,e,i1 _ h1,i2 _ h2⟩)
  (fun j H=>H) (fun j j i1 i2 vs H=>by refine Zc H fun v vs e h1 h2=>?_;exact ⟨v,vs,e,i1 _ h1,i2 _ h2⟩) f v H
end
def AFr (own:List O) (n:Nat) (a a':A):Prop:=match a' with
 | .d d=>Frz own n a d
 | .own i=>a = .own i∧i<n
 | .view k i=>a = .view k i∧i<n
noncomputable def ZgP (own:List O) (n:Nat):List A→List A→Prop
 | [],[]=>True
 | a::as,b::bs=>AFr own n a b∧ZgP own n as bs
 | _,_=>False
noncomputable def ZhS (own:List O) (n:Nat):List (Str×A)→List (Str×A)→Prop
 | [],[]=>True
 | a::as,b::bs=>a.1=b.1∧AFr own n a.2 b.2∧ZhS own n as bs
 | _,_=>False
noncomputable def OFr (own:List O) (n:Nat):O→O→Prop
 | .list xs,.list ys=>ZgP own n xs ys
 | .dict es ep,.dict fs ep'=>ep=ep'∧ZhS own n es fs
 | .inst c j,.inst c' j'=>c=c'∧j=j'∧j<n
 | .cell none,.cell none=>True
 | .cell (some a),.cell (some b)=>AFr own n a b
 | .iter,.iter=>True
 | .dead,.dead=>True
 | _,_=>False
structure Cv (n:Nat) (st st':St):Prop where
 len:st'.own.length=n
 le:n≤st.own.length
 own:∀(i:Nat) o',st'.own[i]?=some o'→∃o,st.own[i]?=some o∧OFr st.own n o o'
 loc:∀x a',ZD x st'.loc=some a'→∃a,ZD x st.loc=some a∧AFr st.own n a a'
 stk:ZgP st.own n st.stk st'.stk
section
variable {c:Cx}{F:Fz}{st st':St}{vs:List Value}{s:Shared}{g:Heap}{ρ:List Addr}{m:Str→Option Value}{n:Nat}
theorem Wy {ρ:List Addr}{n i:Nat}{a:Addr}(h:ρ[i]?=some a) (hi:i<n):(ρ.take n)[i]?=some a:=by rw [List.getElem?_take_of_lt hi];exact h
theorem RSW.conv (W:RSW c F st vs s g ρ m) (C:Cv n st st') (hc:∀q∈c.cel,q.2<n) (hp:∀q∈F.pin,q.1<n):∃g',RSW c F st' vs s g' (ρ.take n) m:=by
 have hsub:∀b∈Z0 c.G F (c.env.locals::ρ.take n),b∈Z0 c.G F (c.env.locals::ρ):=fun b hb=>by
  refine Or.elim (Z8 hb) (fun hb=>?_) fun hb=>?_
  ·refine Kg _ ?_;refine Or.elim (ZQ hb) (fun hb=>?_) fun hb=>?_
   ·exact hb▸.head _
   ·exact .tail _ (List.mem_of_mem_take hb)
  ·exact Kf _ hb
 have hs:Sub g (PySem.W.hideAll s.heap (Z0 c.G F (c.env.locals::ρ.take n))):=fun b o e=>PySem.W.hideAll_get _ (W.keep b o e) fun hb=>by rw [W.nomut b (hsub b hb)] at e;exact Zo e
 have hnew:∀(i:Nat) a ob,n≤i→ρ[i]?=some a→s.heap.get? a=some ob→(PySem.W.hideAll s.heap (Z0 c.G F (c.env.locals::ρ.take n))).get? a=some ob:=fun i a ob hi ha e=>PySem.W.hideAll_get _ e fun hb=>by
  have hm:=Kj ha;refine Or.elim (Z8 hb) (fun hb=>?_) fun hb=>?_
  ·refine Or.elim (ZQ hb) (fun hb=>?_) fun hb=>?_
   ·exact (W.fr a hm).2 hb
   ·obtain ⟨j,hj,ej⟩:=List.getElem_of_mem hb;have hj':j<n∧j<ρ.length:=by rw [List.length_take] at hj;omega
    rw [List.getElem_take] at ej;obtain ⟨hi',ei⟩:=ZI ha
    have:=Y0 W.nd hj'.2 hi' (ej.trans ei.symm);lia
  ·refine Or.elim (Z8 hb) (fun hb=>?_) fun hb=>?_
   ·refine Zb (Xb hb) fun r hr e=>?_;exact (W.apart a (.tail _ hm)).1 r hr e.symm
   ·refine Zb (List.mem_map.mp hb) fun q hq e=>?_;exact (W.apart a (.tail _ hm)).2 q hq e.symm
 have one:∀{a a' v},AFr st.own n a a'→AR c.p c.w g ρ a v→AR c.p c.w (PySem.W.hideAll s.heap (Z0 c.G F (c.env.locals::ρ.take n))) (ρ.take n) a' v:=fun {a a' v} h H=>by
  induction a' using A.casesOn with
  | d d=>exact ZhZ hs hnew W.own h H
  | own i=>refine oza h fun zo1 hi=>?_;subst zo1;refine Zb H fun x e r=>?_;exact ⟨x,Wy e hi,r⟩
  | view k i=>refine oza h fun zo2 hi=>?_;subst zo2;refine Zc H fun x y e r q=>?_;exact ⟨x,y,Wy e hi,r,YY hs k q⟩
 have many:∀{as as' vs},ZgP st.own n as as'→ARs c.p c.w g ρ as vs→ARs c.p c.w (PySem.W.hideAll s.heap (Z0 c.G F (c.env.locals::ρ.take n))) (ρ.take n) as' vs:=by
  intro as;induction as with
  | nil=>intro as' vs h H;induction as' using LLc with
   | nil=>exact H
   | cons _ _=>exact h.elim
  | cons a as ih=>intro as' vs h H;induction as' using LLc with
   | nil=>exact h.elim
   | cons b bs=>refine Zc H fun v r e h1 h2=>?_;exact ⟨v,r,e,one h.1 h1,ih h.2 h2⟩
 have ents:∀{as as' vs},ZhS st.own n as as'→ARe c.p c.w g ρ as vs→ARe c.p c.w (PySem.W.hideAll s.heap (Z0 c.G F (c.env.locals::ρ.take n))) (ρ.take n) as' vs:=by
  intro as;induction as with
  | nil=>intro as' vs h H;induction as' using LLc with
   | nil=>exact H
   | cons _ _=>exact h.elim
  | cons a as ih=>intro as' vs h H;induction as' using LLc with
   | nil=>exact h.elim
   | cons b bs=>refine Zc H fun v r e h1 h2=>?_;exact ⟨v,r,by rw [e,h.1],one h.2.1 h1,ih h.2.2 h2⟩
 refine ⟨PySem.W.hideAll s.heap (Z0 c.G F (c.env.locals::ρ.take n)),{toHS:=W.toHS.regrow hs (fun z z e=>PySem.W.of_hideAll _ e) fun b hb=>PySem.W.hideAll_none _ (Kf _ hb),ns:=W.ns,nl:=PySem.W.hideAll_none _ (ZT (.head _)),loc:=?_,len:=?_,nd:=W.nd.sublist (List.take_sublist _ _),fr:=?_,own:=?_,stk:=many C.stk W.stk,cel:=?_,apart:=?_,pin:=fun q hq=>Wy (W.pin q hq) (hp q hq)}⟩
 ·exact fun i a' h=>by refine Zb (C.loc i a' h) fun a e r=>?_;refine Zc (W.loc i a e) fun x v e0 e1 r1=>?_;exact ⟨x,v,e0,e1,one r r1⟩
 ·rw [List.length_take,W.len,C.len];have:=C.le;lia
 ·exact fun b hb=>⟨PySem.W.hideAll_none _ (ZT (.tail _ hb)),(W.fr b (List.mem_of_mem_take hb)).2⟩
 ·intro i o' a h1 h2;have hi:i<n:=by have:=(List.getElem?_eq_some_iff.mp h1).1;rw [C.len] at this;exact this
  rw [List.getElem?_take_of_lt hi] at h2;refine Zb (C.own i o' h1) fun o e r=>?_;have H:=W.own i o a e h2;induction o using O.casesOn with
  | list xs=>cases o' with
   | list ys=>refine Zb H fun us e1 e2=>?_;exact ⟨us,e1,many r e2⟩
   | _=>exact r.elim
  | dict es ep=>cases o' with
   | dict fs ep'=>refine Zx H fun us e0 e1 e2=>?_;refine oza r fun r1 r2=>?_;subst r1;exact ⟨us,e0,e1,ents r2 e2⟩
   | _=>exact r.elim
  | inst c0 j=>cases o' with
   | inst c1 j'=>refine Yq r fun r1 r2 r3=>?_;subst r1 r2;refine Zb H fun dx e1 e2=>?_;exact ⟨dx,Wy e1 r3,e2⟩
   | _=>exact r.elim
  | cell x=>cases o' with
   | cell y =>
    refine Zc H fun v ob e1 e2 e3=>?_;cases x with
    | none=>cases y with
     | none=>exact ⟨v,ob,e1,e2,e3⟩
     | some y=>exact r.elim
    | some x=>cases y with
     | none=>exact r.elim
     | some y=>refine Zb e3 fun u e4 e5=>?_;exact ⟨v,ob,e1,e2,u,e4,one r e5⟩
   | _=>cases x <;> exact r.elim
  | iter=>cases o' with
   | iter=>exact H
   | _=>exact r.elim
  | dead=>cases o' with
   | dead=>exact H
   | _=>exact r.elim
 ·exact fun x i h=>by refine Zb (W.cel x i h) fun a e r=>?_;exact ⟨a,Wy e (hc (x,i) h),r⟩
 ·intro b hb;rcases List.mem_cons.mp hb with rfl | hb
  ·exact W.apart _ (.head _)
  ·exact W.apart b (.tail _ (List.mem_of_mem_take hb))
theorem RS.conv (R:RS c F st vs s) (C:Cv n st st') (hc:∀q∈c.cel,q.2<n) (hp:∀q∈F.pin,q.1<n):RS c F st' vs s:=by refine ozr R fun g ρ m W=>?_;refine oze (W.conv C hc hp) fun g' W'=>?_;exact ⟨g',_,m,W'⟩
theorem RS.bounds (R:RS c F st vs s):(∀q∈c.cel,q.2<st.own.length)∧∀q∈F.pin,q.1<st.own.length:=by
 refine ozr R fun g ρ m W=>?_;refine ⟨fun q hq=>?_,fun q hq=>?_⟩
 ·refine Zb (W.cel q.1 q.2 hq) fun a e j=>?_;rw [←W.len];exact (ZI e).1
 ·rw [←W.len];exact (ZI (W.pin q hq)).1
theorem Zpn {ts:List Stmt}{Q:Fl→St→Prop}(h:XJ c ts st fun f st1=>∃st2,Cv st.own.length st1 st2∧Q f st2):XJ c ts st Q:=fun F vs s R =>
 wpm (h F vs s R) (fun f j h1=>by
  induction f <;> (obtain ⟨st1,R1,st2,C,q⟩:=h1;exact ⟨st2,R1.conv C R.bounds.1 R.bounds.2,q⟩))
theorem RS.forget {l:List (Nat×A)}(R:RS c F st vs s) (h:∀x a,ZD x l=some a→ZD x st.loc=some a):RS c F ⟨l,st.own,st.stk⟩ vs s:=by refine ozr R fun g ρ m W=>?_;exact ⟨g,ρ,m,W.locs h⟩
def Le (l l':List (Nat×A)):Prop:=∀q∈l,ZD q.1 l'=some q.2
theorem Y8 {α:Type} [DecidableEq α] {l:List (α×A)}{x:α}{a:A}(h:ZD x l=some a):(x,a)∈l:=by
 induction l with
 | nil=>exact Zo h
 | cons q r ih =>
  unfold ZD at h;by_cases e:q.1=x
  ·rw [if_pos e] at h;rw [←e,←Kc h];exact .head _
  ·rw [if_neg e] at h;exact .tail _ (ih h)
theorem ZqS {ts:List Stmt}{l:List (Nat×A)}{Q:Fl→St→Prop}(h:XJ c ts ⟨l,st.own,st.stk⟩ Q) (hl:Le l st.loc):XJ c ts st Q:=fun F vs s R=>h F vs s (R.forget fun x a e=>hl _ (Y8 e))
end
end
section
theorem ZdP {kd:Str→Option NameKind}{x:Str}(hx:kd x=some .local):∀{binds:List (Str×Value)}{m:Str→Option Value}{v:Value},(binds.map (·.1)).Nodup→(x,v)∈binds→bindL kd binds m x=some v:=by
 have keep:∀{binds:List (Str×Value)} {m:Str→Option Value},x∉binds.map (·.1)→bindL kd binds m x=m x:=by
  intro binds;induction binds with
  | nil=>intros;rfl
  | cons b r ih =>
   intro m h;simp only [List.map_cons,List.mem_cons,not_or] at h;unfold bindL;rw [ih h.2];split
   ·simp only;rw [if_neg h.1]
   ·rfl
 intro binds;induction binds with
 | nil=>intro m v j h;cases h
 | cons b r ih =>
  intro m v hnd h;rw [List.map_cons,List.nodup_cons] at hnd;unfold bindL;rcases ZQ h with rfl | h
  ·rw [keep hnd.1,if_pos hx];simp
  ·exact ih hnd.2 h
theorem Zjx {kd:Str→Option NameKind}{x:Str}(hx:kd x≠some .local):∀{binds:List (Str×Value)}{m:Str→Option Value},(binds.map (·.1)).Nodup→bindC kd binds m x=match binds.lookup x with | some v=>some v | none=>m x:=by
 have keep:∀{binds:List (Str×Value)} {m:Str→Option Value},x∉binds.map (·.1)→bindC kd binds m x=m x:=by
  intro binds;induction binds with
  | nil=>intros;rfl
  | cons b r ih =>
   intro m h;simp only [List.map_cons,List.mem_cons,not_or] at h;unfold bindC;rw [ih h.2];split
   ·rfl
   ·simp only;rw [if_neg h.1]
 intro binds;induction binds with
 | nil=>intro m j;rfl
 | cons b r ih =>
  intro m hnd;rw [List.map_cons,List.nodup_cons] at hnd;unfold bindC;rw [List.lookup_cons];by_cases hb:x=b.1
  ·have e:(x==b.1)=true:=by simp [hb]
   rw [e,keep (by rw [hb];exact hnd.1),if_neg (by rw [←hb];exact hx)];simp [hb]
  ·have e:(x==b.1)=false:=beq_eq_false_iff_ne.mpr hb;rw [e,ih hnd.2];have:(if kd b.1=some .local then m else fun y=>if y=b.1 then some b.2 else m y) x=m x:=by
    split
    ·rfl
    ·simp only;rw [if_neg hb]
   rw [this]
theorem ZeU {G:Gx}{g:Heap}{ρ:List Addr}{x:Str}{names:List Str}{args:List A}{us:List Value}(h:ARs G.p G.w g ρ args us):ARo G.p G.w g ρ (ZD x (names.zip args)) ((names.zip us).lookup x):=by
 replace h:=Xo.mp h;induction h generalizing names with
 | nil=>rw [List.zip_nil_right,List.zip_nil_right];rfl
 | cons h _ ih=>induction names using LLc with
  | nil=>rfl
  | cons n ns =>
   rw [List.zip_cons_cons,List.zip_cons_cons,List.lookup_cons];unfold ZD;by_cases hx:n=x
   ·rw [if_pos hx,beq_iff_eq.mpr hx.symm];exact ⟨_,rfl,h⟩
   ·rw [if_neg hx,Zbn (Ne.symm hx)];exact ih
theorem Wd {G:Gx}{g:Heap}{ρ:List Addr}{x:Str}{names:List Str}{args:List A}{us:List Value}{a:A}(h:ARs G.p G.w g ρ args us) (hm:(x,a)∈names.zip args):∃v,(x,v)∈names.zip us∧AR G.p G.w g ρ a v:=by
 obtain ⟨i,hi⟩:=List.getElem?_of_mem hm;obtain ⟨e1,e2⟩:=List.getElem?_zip_eq_some.mp hi;refine Zb (Zar h e2) fun v h1 h2=>?_;exact ⟨v,Kj (List.getElem?_zip_eq_some.mpr ⟨e1,h1⟩),h2⟩
inductive DefGot (B:Heap→Prop) (h:Heap) (f:Addr) (scope:Scope) (qual:Str) (cd:Value) (body:List Stmt) (n:Nat) (names:List Str):Prop
 | mk (ob:Obj) (fd:FuncData) (e1:h.get? f=some ob) (e2:ob.data = .func fd) (e3:h.CodeRec fd.code fd.qualname) (hb:fd.body = .stmts body) (hs:fd.scope=scope) (hg:fd.globals=mainGlobals) (hbu:fd.builtins=builtinsNs) (hcl:fd.closure=[]) (hq:fd.qualname++".<locals>."=qual) (hc:fd.code=cd)
  (bi:∀us:List Value,us.length=n→∀s:Shared,B s.heap→BindsTo s fd ⟨us,[]⟩ (names.zip (us++List.replicate (names.length - n) Value.none)))
structure DefAt (G:Gx) (f:Addr) (scope:Scope) (qual:Str) (cd:Value) (body:List Stmt) (n:Nat) (names:List Str):Prop where
 kind:scope.kind = .function
 co:scope.isCoroutine=false
 gen:scope.isGenerator=false
 nd:(Zh scope.names).Nodup
 tnd:(Zf scope).Nodup
 ndn:names.Nodup
 par:∀x∈names,scope.names.lookup x=some .local∨(scope.names.lookup x=some .cell∧x∈Zh scope.names)
 cell:∀x∈Zh scope.names,scope.names.lookup x=some .cell
 at_:∀h,G.lib.B h→DefGot G.lib.B h f scope qual cd body n names
 le:n≤names.length
noncomputable def ZX (f:Addr) (scope:Scope) (qual:Str) (cd:Value) (L:Addr):Env:=newEnv scope L mainGlobals (cellsFrom (L+1) scope.names []) qual (some f) cd none builtinsNs
def Ret (R:D→Prop) (fl:Fl) (st:St):Prop:=match fl with
 | .ret=>∃a d,st.stk=[a]∧Frz st.own 0 a d∧R d
 | .next=>R .none
 | _=>False
noncomputable def XM (names:List Str) (args:List A):List (Str×A):=names.zip (args++List.replicate (names.length - args.length) (.d .none))
theorem WN {G:Gx}{g:Heap}{ρ:List Addr}:∀n,ARs G.p G.w g ρ (List.replicate n (.d .none)) (List.replicate n Value.none)
 | 0=>rfl
 | n+1=>⟨.none,_,rfl,rfl,WN n⟩
theorem HS.retire {G:Gx}{F:Fz}{s:Shared}{g:Heap}{own:List O}{ρ:List Addr}(H:HS G F s g) {L:Addr}(hfr:∀b∈ρ,∀r∈G.reg,b≠r.at_) (hh:∀b∈ρ,∀q∈F.hid,b≠q.1) (ho:∀(i:Nat) o a,own[i]?=some o→ρ[i]?=some a→OAt G.p G.w g ρ s.heap o a) {a:A}{d:D}{v:Value}(hf:Frz own 0 a d) (hv:AR G.p G.w g ρ a v) :
 ∃g',HS G F s g'∧Sub g g'∧VR G.p G.w g' d v:=by
 have hs:Sub g (PySem.W.hideAll s.heap (Z0 G F [])):=fun b o e=>PySem.W.hideAll_get _ (H.keep b o e) fun hb=>by rw [H.nomut b hb] at e;exact Zo e
 refine ⟨_,H.regrow hs (fun j j e=>PySem.W.of_hideAll _ e) fun b hb=>PySem.W.hideAll_none _ hb,hs,ZhZ hs (fun i a ob hi ha e=>PySem.W.hideAll_get _ e fun hb=>?_) ho hf hv⟩;have hm:=Kj ha;refine Or.elim (Z8 (show a∈G.reg.map (·.at_)++F.hid.map (·.1) from hb)) (fun hb=>?_) fun hb=>?_
 ·refine Zb (Xb hb) fun r hr e=>?_;exact hfr a hm r hr e.symm
 ·refine Zb (Xb hb) fun q hq e=>?_;exact hh a hm q hq e.symm
end
section
noncomputable def Zog:Data→FuncData
 | .func fd=>fd
 | _=>default
noncomputable def Zk (K:W.Frag) (a:Addr):FuncData:=match K.lookup a with
 | some o=>Zog o.data
 | none=>default
noncomputable def Zal (K:W.Frag) (a:Addr):Bool:=(K.lookup a).any fun o=>o.data.ctorIdx==7
noncomputable def stm:FuncBody→List Stmt
 | .stmts b=>b
 | _=>[]
theorem ZdR {K:W.Frag}{a:Addr}{h:Heap}(X:K.In h) (e:Zal K a=true):∃ob,h.get? a=some ob∧ob.data = .func (Zk K a):=by
 refine Zb (W.any_some e) fun o q e=>?_;have z:Zk K a=Zog o.data:=by unfold Zk;rw [q]
 exact ⟨o,X _ _ q,z▸Data.func.elim (motive:=fun d=>d = .func (Zog d)) o.data (eq_of_beq e) fun j=>rfl⟩
structure IsK (K:Params→W.Frag) (G:Gx) (w:World):Prop where
 B:∀h,G.lib.B h→(K w.params).In h∧∃q loose mg mb,W.TopRead q loose mg mb h
 w:G.w=w
theorem ZmN {K:Params→W.Frag}{G:Gx}{w:World}(I:IsK K G w) {x:Str}{v:Value}(e:W.nsIn (K w.params) mainGlobals x=some (some v)):Xe G x v:=fun g hg=>by
 refine Ka fun zn0=>?_;obtain ⟨X,j,j,mg,mb,T⟩:=I.B g hg;refine zn0 ?_;exact ⟨mg,T.g,W.mg_of X T.g e⟩
theorem Zjg {K:Params→W.Frag}{G:Gx}{w:World}(I:IsK K G w) {x:Str}{v:Value}(e:W.nsIn (K w.params) mainGlobals x=some none) (hb:bootBuiltins x=some v) (hn:x≠"__name__"):Y5 G x v:=fun g hg=>by
 refine Ka fun zn1=>?_;obtain ⟨X,j,j,mg,mb,T⟩:=I.B g hg;refine zn1 ?_;exact ⟨⟨mg,T.g,W.mg_none_of X T.g e⟩,mb,T.b,(T.builtins x hn).trans hb⟩
noncomputable def Un (sc:Scope) (names:List Str):Bool :=
 decide (Zh sc.names).Nodup&&decide (Zf sc).Nodup&&decide names.Nodup&&names.all (fun x=>sc.names.lookup x==some .local||(sc.names.lookup x==some .cell&&(Zh sc.names).contains x))&&(Zh sc.names).all (fun x=>sc.names.lookup x==some .cell)
theorem Zry {K:Params→W.Frag}{G:Gx}{w:World}(I:IsK K G w) {f:Addr}{n:Nat}{names:List Str}(hf:Zal (K w.params) f=true) (hb:(Zk (K w.params) f).body = .stmts (stm (Zk (K w.params) f).body)) (hcode:W.codeIn (K w.params) (Zk (K w.params) f).code (Zk (K w.params) f).qualname=true)
 (hk:(Zk (K w.params) f).scope.kind = .function) (hco:(Zk (K w.params) f).scope.isCoroutine=false) (hgen:(Zk (K w.params) f).scope.isGenerator=false) (hs:Un (Zk (K w.params) f).scope names=true)
 (hgl:(Zk (K w.params) f).globals=mainGlobals) (hbu:(Zk (K w.params) f).builtins=builtinsNs) (hclo:(Zk (K w.params) f).closure=[]) (le:n≤names.length)
 (hbind:∀us:List Value,us.length=n→∀S,W.peek (K w.params) S (bindArgs (Zk (K w.params) f) ⟨us,[]⟩)=some (names.zip (us++List.replicate (names.length - n) Value.none))) :
 DefAt G f (Zk (K w.params) f).scope ((Zk (K w.params) f).qualname++".<locals>.") (Zk (K w.params) f).code (stm (Zk (K w.params) f).body) n names:=by
 unfold Un at hs;simp only [Bool.and_eq_true,decide_eq_true_eq,List.all_eq_true,Bool.or_eq_true,beq_iff_eq,List.contains_iff_mem] at hs;refine Ka fun zn2=>?_;refine oza hs fun zo4 s5=>?_;refine oza zo4 fun zo3 s4=>?_;refine oza zo3 fun zo2 s3=>?_;obtain ⟨s1,s2⟩:=zo2;refine zn2 ?_
 exact {kind:=hk,co:=hco,gen:=hgen,nd:=s1,tnd:=s2,ndn:=s3,par:=s4,cell:=s5,le:=le
        at_:=fun h hB=>by
         refine Ka fun zn3=>?_;obtain ⟨X,j,j,mg,mb,T⟩:=I.B h hB;refine Zb (ZdR X hf) fun ob h1 h2=>?_;refine zn3 ?_;exact ⟨ob,_,h1,h2,W.codeRec_of X hcode,hb,rfl,hgl,hbu,hclo,rfl,rfl,fun us hu s hs=>W.kp_binds (I.B _ hs).1 (hbind us hu)⟩}
theorem ZaS {K:Params→W.Frag}{G:Gx}{w:World}(I:IsK K G w) {f:Addr}(hf:Zal (K w.params) f=true) {c:Cx}(hG:c.G=G):∀h,c.G.lib.B h→ZF c (.ref f) h:=fun h hB=>by
 subst hG;refine oza (I.B h hB) fun X j=>?_;refine Zb (ZdR X hf) fun ob h1 h2=>?_;exact ZkA h1 h2
end
section
def ZaL (o:List O) (a:A) (xs:List A):Prop:=match a with
 | .d (.list ds)=>xs=ds.map .d
 | .own i=>o[i]?=some (.list xs)
 | _=>False
section
variable {c:Cx}{F:Fz}{st:St}{vs:List Value}{s:Shared}{g:Heap}{ρ:List Addr}{m:Str→Option Value}{Q:St→Prop}{QB:Bool→St→Prop}{l:List (Nat×A)}{o:List O}{k:List A}
theorem RSW.lst (W:RSW c F st vs s g ρ m) {a:A}{xs:List A}(h:ZaL st.own a xs) {v:Value}(hv:AR c.p c.w g ρ a v):∃ad us,v = .ref ad∧s.heap.IsList ad us.toArray∧ARs c.p c.w g ρ xs us:=by
 induction a using A.casesOn with
 | d x=>induction x using D.casesOn with
  | list ds =>
   refine Zc hv fun ad us e hl hr=>?_;have h':xs=ds.map .d:=h;subst h';exact ⟨ad,us,e,(hl.sub W.keep).isList,Zai.mpr hr⟩
  | _=>exact h.elim
 | own i =>
  refine Zb hv fun ad e ev=>?_;refine Zb (W.own i _ ad h e) fun us hu hr=>?_;exact ⟨ad,us,ev,hu.isList,hr⟩
 | view _ _=>exact h.elim
def PJ (c:Cx) (x:Option Expr) (st:St) (Q:Option Int→St→Prop):Prop :=
 ∀F vs s,RS c F st vs s→wpAny (model c.p c.w) c.A (evalPart x c.env) (fun v s'=>∃i st',IsPart v i∧RS c F st' vs s'∧Q i st') NoE s
theorem Zjn {Q:Option Int→St→Prop}(h:Q none st):PJ c none st Q:=fun j j j R=>Ki ⟨none,st,.none,R,h⟩
theorem ZoC {e:Expr}{Q:Option Int→St→Prop}(h:EJ c e st fun st1=>∃i r,st1.stk = .d (.int i)::r∧Q (some i) ⟨st1.loc,st1.own,r⟩) (he:evalPart (some e) c.env=eval e c.env:=by rfl):PJ c (some e) st Q:=fun F vs s R=>by
 rw [he];refine wpm (h F vs s R) (fun v s1 zq0=>?_);refine Ka fun zn2=>?_;obtain ⟨st1,⟨g,ρ,m,W⟩,i,r,hs,hq⟩:=zq0;refine zn2 ?_;have hst:=W.stk;rw [hs] at hst;refine oze ((Zd hst:∃t,v = .int i t)) fun t e1=>?_;subst e1;exact ⟨some i,_,.int i t,⟨g,ρ,m,W.stack (Za hst)⟩,hq⟩
theorem Zma {lo hi stp:Option Expr}{p:Pos}(h:PJ c lo st fun i st1=>PJ c hi st1 fun j st2=>PJ c stp st2 fun z st3=>Q ⟨st3.loc,st3.own,.d (.slice i j z)::st3.stk⟩):EJ c (.Slice lo hi stp p) st Q:=fun F vs s R =>
 wpAny_Slice (wpm (h F vs s R) (fun a s1 zw=>Zc zw fun i st1 hi R1 h1=>Kb (h1 F vs s1 R1) (fun b s2 zw=>Zc zw fun j st2 hj R2 h2=>Kb (h2 F vs s2 R2) (fun z s3 zq3=>by
  refine Ka fun zn4=>?_;refine Zc zq3 fun y st3 hz zo2 h3=>?_;refine ozr zo2 fun g ρ m W=>?_;refine Zx (W.allocD {cls:=.type "slice",data:=.fields #[a,b,z]} s3.toks rfl) fun g' W' sb hg=>?_;refine zn4 ?_;exact ⟨_,⟨g',ρ,m,W'.push (a:=.d (.slice i j y)) ⟨_,a,b,z,rfl,hg,hi,hj,hz⟩⟩,h3⟩) fun u u x=>x) fun u u x=>x))
theorem Zgx {v:Expr}{lo hi stp:Option Expr}{p:Pos}:∀a b:Value,∃ops,subscripted (.Slice lo hi stp p) false a b=operate ops (getItem a b):=fun a b=>by
 induction stp using Option.casesOn <;> exact ⟨_,rfl⟩
theorem Za8 {p:Program}{w:World}{xs:List D}{us:List Value}(h:ARs p w g ρ (xs.map .d) us):VRs p w g xs us:=Zai.mp h
theorem Zms {p:Program}{w:World}{xs:List D}{us:List Value}(h:VRs p w g xs us) (lo hi:Option Int):VRs p w g (cut xs lo hi) (cut us lo hi):=by
 unfold cut;rw [Zu h];exact ZhP _ (ZhG _ h)
theorem ZmZ {v sl:Expr}{a:A}{xs:List D}{lo hi:Option Int}(hl:ZaL o a (xs.map .d)) (hsz:xs.length≤1000000) (q:Q ⟨l,o,.d (.list (cut xs lo hi))::k⟩)
 (hs:∀a b,∃ops,subscripted sl false a b=operate ops (getItem a b)):OJ2 c (subscriptTail v sl) ⟨l,o,.d (.slice lo hi none)::a::k⟩ Q:=fun F u1 u2 vs s zq4=>by
 obtain ⟨g,ρ,m,W⟩:=zq4;obtain ⟨ad,b1,b2,b3,e2,h2,p1,p2,p3⟩:=(Zd W.stk:VR c.p c.w g (.slice lo hi none) u2);subst e2;refine Zc (W.lst hl (Zd (Za W.stk))) fun la us e1 hla hx=>?_;subst e1;have hv:=Za8 hx;refine oze (hs (.ref la) (.ref ad)) fun ops hops=>?_;refine tail_any hla.typeIs slot_list_getitem.lookup (wpAny_getItem_list_slice hla ⟨_,W.keep _ _ h2,rfl,rfl⟩ p1 p2 p3 (by simp) ?_ (by rw [sizeLine_eq];simp [Zu hv];lia)) hops;refine Zx (W.allocD {cls:=.type "list",data:=.seq (slicePick us.toArray lo hi none)} s.toks rfl) fun g' W' sb hg=>?_;exact ⟨_,⟨g',ρ,m,W'.stack (Zg (a:=.d (.list (cut xs lo hi))) ⟨_,cut us lo hi,rfl,⟨_,hg,rfl,0,by rw [←(ZjI us lo hi)]⟩,VRs.sub _ _ sb _ _ (Zms hv lo hi)⟩ (ARs.sub _ _ sb (Ext.refl _) _ _ (Za (Za W.stk))))⟩,q⟩
theorem ZgF (n:Nat):(PySem.sliceBounds none none (some (-1)) n)=((n:Int) - 1,-1,-1):=by
 rfl
theorem Zih (us:List Value):(PySem.slicePick us.toArray none none (some (-1))).toList=us.reverse:=by
 unfold PySem.slicePick;rw [ZgF];have e:sliceRange (((us.toArray.size:Nat):Int) - 1) (-1) (-1)=(List.range us.length).reverse:=by
  unfold sliceRange;simp only [show ¬((-1:Int) > 0) from by decide,if_false,List.size_toArray];have hn:((if ((us.length:Int) - 1 > -1) then ((us.length:Int) - 1 - -1 - -1 - 1) / - -1 else 0:Int)).toNat=us.length:=by
   rw [show - (-1:Int)=1 from rfl,Int.ediv_one];split <;> lia
  rw [hn];apply List.ext_getElem
  ·simp
  ·intro i h1 h2;simp at h1;simp;lia
 simp only [e];simp only [List.toList_toArray,List.filterMap_reverse];congr 1
 have:=WY us 0 us.length;simpa using this
theorem Zpb {v sl:Expr}{xs:List D}(hsz:xs.length≤1000000) (q:Q ⟨l,o,.d (.list xs.reverse)::k⟩)
 (hs:∀a b,∃ops,subscripted sl false a b=operate ops (getItem a b)):OJ2 c (subscriptTail v sl) ⟨l,o,.d (.slice none none (some (-1)))::.d (.list xs)::k⟩ Q:=fun F u1 u2 vs s zq5=>by
 obtain ⟨g,ρ,m,W⟩:=zq5;obtain ⟨ad,b1,b2,b3,e2,h2,p1,p2,p3⟩:=(Zd W.stk:VR c.p c.w g (.slice none none (some (-1))) u2);subst e2;refine Zc (W.lst (a:=.d (.list xs)) rfl (Zd (Za W.stk))) fun la us e1 hla hx=>?_;subst e1;have hv:=Za8 hx;refine oze (hs (.ref la) (.ref ad)) fun ops hops=>?_;refine tail_any hla.typeIs slot_list_getitem.lookup (wpAny_getItem_list_slice hla ⟨_,W.keep _ _ h2,rfl,rfl⟩ p1 p2 p3 (by simp) ?_ (by rw [sizeLine_eq];simp [Zu hv];lia)) hops;refine Zx (W.allocD {cls:=.type "list",data:=.seq (slicePick us.toArray none none (some (-1)))} s.toks rfl) fun g' W' sb hg=>?_;exact ⟨_,⟨g',ρ,m,W'.stack (Zg (a:=.d (.list xs.reverse)) ⟨_,us.reverse,rfl,⟨_,hg,rfl,0,by rw [←(Zih us)]⟩,VRs.sub _ _ sb _ _ (Zec hv)⟩ (ARs.sub _ _ sb (Ext.refl _) _ _ (Za (Za W.stk))))⟩,q⟩
theorem Znl {v sl:Expr}{x:Str}{lo hi:Option Int}(hsz:x.length≤1000000) (q:Q ⟨l,o,.d (.str (Wv x lo hi))::k⟩)
 (hs:∀a b,∃ops,subscripted sl false a b=operate ops (getItem a b)):OJ2 c (subscriptTail v sl) ⟨l,o,.d (.slice lo hi none)::.d (.str x)::k⟩ Q:=fun F u1 u2 vs s zq6=>by
 refine Ka fun zn13=>?_;obtain ⟨g,ρ,m,W⟩:=zq6;obtain ⟨ad,b1,b2,b3,e2,h2,p1,p2,p3⟩:=(Zd W.stk:VR c.p c.w g (.slice lo hi none) u2);refine zn13 ?_;subst e2;refine oze ((Zd (Za W.stk):VR c.p c.w g (.str x) u1)) fun t e1=>?_;subst e1;refine Ka fun zn15=>?_;refine oze (hs (.str x t) (.ref ad)) fun ops hops=>?_;have part:∀{b i},IsPart b i→∃y:Option (Int×Tok),b=partValue y∧y.map (·.1)=i:=fun h=>by
  cases h with
  | none=>exact ⟨none,rfl,rfl⟩
  | int i t=>exact ⟨some (i,t),rfl,rfl⟩
 refine Zb (part p1) fun y1 zo1 f1=>?_;subst zo1;refine Zb (part p2) fun y2 zo2 f2=>?_;subst zo2;refine Zb (part p3) fun y3 zo3 f3=>?_;subst zo3;refine zn15 ?_;have en:y3=none:=by induction y3 with
  | none=>rfl
  | some _=>simp at f3
 subst en;refine tail_any (T:="str") (by rfl) slot_str_getitem.lookup (wpAny_getItem_str_slice ⟨_,W.keep _ _ h2,rfl,rfl⟩ (by rfl) ?_) hops;have fin:∀t' tk,Got c F (Value.str (Wv x lo hi) t'::vs) Q {s with toks:=tk}:=fun t' tk=>⟨_,⟨g,ρ,m,(W.tok tk).stack (Zg X9 (Za (Za W.stk)))⟩,q⟩;unfold sliceMade;split
 ·rename_i h;simp only [Bool.and_eq_true,beq_iff_eq] at h;have hx:Wv x lo hi=x:=by
   have h1:slicePicked x y1 y2 none=sliceRange (Ye 0 lo x.length:Nat) (Ye x.length hi x.length:Nat) 1:=by
    unfold slicePicked;rw [f1,f2];exact Zgh _ _ _
   have hl:=h.2;rw [h1] at hl;have a1:=Zgo 0 lo x.length (Nat.zero_le _);have a2:=Zgo x.length hi x.length (Kq _);have hlen:(sliceRange (Ye 0 lo x.length:Nat) (Ye x.length hi x.length:Nat) 1).length=Ye x.length hi x.length - Ye 0 lo x.length:=by
    unfold sliceRange;simp only [show (1:Int) > 0 from by decide,if_true,List.length_map,List.length_range];split <;> lia
   rw [hlen] at hl;unfold Wv cut;have e:x.cps.toList.length=x.length:=by simp [Str.length]
   rw [e];have z1:Ye 0 lo x.length=0:=by lia
   have z2:Ye x.length hi x.length - Ye 0 lo x.length=x.length:=by lia
   rw [z2,z1,List.drop_zero,←e,List.take_length]
  have:=fin t s.toks;rw [hx] at this;exact this
 ·have e:(⟨((slicePicked x y1 y2 none).filterMap (x.cps[·]?)).toArray⟩:Str)=Wv x lo hi:=by
   unfold slicePicked;rw [f1,f2];unfold Wv;rw [←(Zlt x lo hi)];rfl
  rw [e];exact ⟨by have:=Zbm x lo hi;rw [sizeLine_eq];lia,fin s.toks (s.toks+1)⟩
theorem ZpQ {v sl:Expr}{a x:A}{xs:List A}{i:Int}(hl:ZaL o a xs) (h0:0≤i) (h1:i<2 ^ 63) (hx:xs[i.toNat]?=some x) (q:Q ⟨l,o,x::k⟩) (hs:∀a b,subscripted sl false a b=operate [a,b] (getItem a b):=by intro j j;rfl):OJ2 c (subscriptTail v sl) ⟨l,o,.d (.int i)::a::k⟩ Q:=fun F u1 u2 vs s zq7=>by
 obtain ⟨g,ρ,m,W⟩:=zq7;refine oze ((Zd W.stk:VR c.p c.w g (.int i) u2)) fun t e2=>?_;refine Zc (W.lst hl (Zd (Za W.stk))) fun la us e1 hla hv=>?_;subst e1 e2;refine Zb (Zar hv hx) fun u hu hr=>?_;exact tail_any hla.typeIs slot_list_getitem.lookup (wpAny_getItem_list hla h0 h1 (by simpa using hu) ⟨_,⟨g,ρ,m,W.stack (Zg hr (Za (Za W.stk)))⟩,q⟩) (hs _ _)
theorem ZoO {v sl:Expr}{a x:A}{xs:List A}{i:Int}(hl:ZaL o a xs) (h0:i<0) (h1 : -(xs.length:Int)≤i) (h2 : -(2 ^ 63)≤i) (hx:xs[(i+xs.length).toNat]?=some x) (q:Q ⟨l,o,x::k⟩) (hs:∀a b,subscripted sl false a b=operate [a,b] (getItem a b):=by intro j j;rfl):OJ2 c (subscriptTail v sl) ⟨l,o,.d (.int i)::a::k⟩ Q:=fun F u1 u2 vs s zq8=>by
 obtain ⟨g,ρ,m,W⟩:=zq8;refine oze ((Zd W.stk:VR c.p c.w g (.int i) u2)) fun t e2=>?_;refine Zc (W.lst hl (Zd (Za W.stk))) fun la us e1 hla hv=>?_;subst e1 e2;refine Zb (Zar hv hx) fun u hu hr=>?_;have hn:=Z6 hv;exact tail_any hla.typeIs slot_list_getitem.lookup (wpAny_getItem_list_neg hla h0 (by simpa [hn] using h1) h2 (by simpa [hn] using hu) ⟨_,⟨g,ρ,m,W.stack (Zg hr (Za (Za W.stk)))⟩,q⟩) (hs _ _)
theorem ZmX {a:A}{xs:List A}(hl:ZaL o a xs) (hsz:xs.length≤1000000) (q:QB (!xs.isEmpty) ⟨l,o,k⟩):BJ c ⟨l,o,a::k⟩ QB:=fun F v vs s zq10=>by
 obtain ⟨g,ρ,m,W⟩:=zq10;refine Zc (W.lst hl (Zd W.stk)) fun la us e1 hla hv=>?_;subst e1;have hn:=Z6 hv;refine wpAny_truthy_list hla (by simp [hn];lia) ?_;have e:(!us.toArray.isEmpty) = !xs.isEmpty:=by
  induction us using LLc <;> induction xs using LLc <;> simp_all
 rw [e];exact ⟨_,⟨g,ρ,m,(W.stack (Za W.stk)).tok _⟩,q⟩
theorem Zmx {x:Str}(hsz:x.length≤1000000) (q:QB ((x.length:Int) != 0) ⟨l,o,k⟩):BJ c ⟨l,o,.d (.str x)::k⟩ QB:=fun F v vs s zq11=>by
 obtain ⟨g,ρ,m,W⟩:=zq11;refine oze ((Zd W.stk:VR c.p c.w g (.str x) v)) fun t e1=>?_;subst e1;exact PySem.P.truthy_str (by lia) ⟨_,⟨g,ρ,m,(W.stack (Za W.stk)).tok _⟩,q⟩
theorem Zqw {a:A}{xs:List A}(hl:ZaL o a xs) (hf:xs.length<2 ^ 62) (q:Q ⟨l,o,.d (.int xs.length)::k⟩):CJ c 1 ⟨l,o,a::.d (.val (.builtin "len"))::k⟩ Q:=fun F f us vs s hlen zq12=>by
 obtain ⟨g,ρ,m,W⟩:=zq12;refine oza (Zy (xs:=[a]) W.stk (by rw [hlen];rfl)) fun q1 q2=>?_;have ef:f=_:=Zd q2;subst ef;refine Zb (Yh q1) fun u zo1 hu=>?_;subst zo1;refine Zc (W.lst hl hu) fun la ws e1 hla hv=>?_;subst e1;have hn:=Z6 hv;refine ⟨Zj,len_list hla (by simp [hn];lia) ⟨_,⟨g,ρ,m,(W.tok _).stack (Zg ?_ (Za q2))⟩,q⟩⟩;simp only [List.size_toArray,hn];exact YE
end
end
section
open PySem.SeqAt
mutual
noncomputable def deq:D→D→Bool
 | .none,.none=>true
 | .bool a,.bool b=>a==b
 | .int a,.int b=>a==b
 | .str a,.str b=>a==b
 | .list xs,.list ys=>deqs xs ys
 | .tuple xs,.tuple ys=>deqs xs ys
 | _,_=>false
noncomputable def deqs:List D→List D→Bool
 | [],[]=>true
 | x::xs,y::ys=>deq x y&&deqs xs ys
 | _,_=>false
end
mutual
noncomputable def Fit:Nat→D→D→Prop
 | _,.none,.none=>True
 | _,.bool _,.bool _=>True
 | _,.int _,.int _=>True
 | _,.str _,.str _=>True
 | n+1,.list xs,.list ys=>Fits n xs ys
 | n+1,.tuple xs,.tuple ys=>Fits n xs ys
 | _,_,_=>False
noncomputable def Fits:Nat→List D→List D→Prop
 | n,x::xs,y::ys=>Fit n x y∧Fits n xs ys
 | _,_,_=>True
end
theorem Zca {p:Program}{w:World}{g:Heap}{n:Nat}(ih:∀{a b:D}{v:Value},Fit n a b→VR p w g a v→VR p w g b v→deq a b=true) {as bs:List D}{vs:List Value}(hf:Fits n as bs) (h1:VRs p w g as vs) (h2:VRs p w g bs vs):deqs as bs=true:=by
 replace h1:=YX.mp h1;induction h1 generalizing bs with
 | nil=>induction bs using LLc with
  | nil=>rfl
  | cons _ _=>refine Zz h2 fun j j e j=>?_;exact Zj2 e
 | cons h1 t ih2=>induction bs using LLc with
  | nil=>exact Zeq h2
  | cons y ys =>
   refine Zc h2 fun v' r' e2 h3 h4=>?_;refine oza (List.cons.inj e2) fun e3 e4=>?_;exact Bool.and_eq_true_iff.mpr ⟨ih hf.1 h1 (e3▸h3),ih2 hf.2 (e4▸h4)⟩
theorem Zgd {g:Heap}{a:Addr}{us ws:List Value}{o1 o2:Obj}{n1 n2:Nat}(q1:g.get? a=some o1) (q2:o1.data = .seq us.toArray n1) (q3:g.get? a=some o2) (q4:o2.data = .seq ws.toArray n2):us=ws:=by
 rw [q1] at q3;obtain rfl:=Kc q3;rw [q2] at q4;simpa using (Data.seq.inj q4).1
inductive FitI:Nat→D→D→Prop
 | none {n}:FitI n .none .none
 | bool {n x y}:FitI n (.bool x) (.bool y)
 | int {n x y}:FitI n (.int x) (.int y)
 | str {n x y}:FitI n (.str x) (.str y)
 | list {n xs ys} (h:Fits n xs ys):FitI (n+1) (.list xs) (.list ys)
 | tuple {n xs ys} (h:Fits n xs ys):FitI (n+1) (.tuple xs) (.tuple ys)
theorem Zf8 {n:Nat}{a b:D}(h:Fit n a b):FitI n a b:=by
 induction n using Nat.casesOn with
 | zero=>induction a using D.casesOn <;> first | exact False.elim h | (induction b using D.casesOn <;> first | exact .none | exact .bool | exact .int | exact .str | exact False.elim h)
 | succ n=>induction a using D.casesOn <;> first | exact False.elim h | (induction b using D.casesOn <;> first | exact .none | exact .bool | exact .int | exact .str | exact .list h | exact .tuple h | exact False.elim h)
theorem Zdp {p:Program}{w:World}{g:Heap}:∀(n:Nat) {a b:D}{v:Value},Fit n a b→VR p w g a v→VR p w g b v→deq a b=true:=by
 intro n;induction n with
 | zero =>
  intro a b v hf h1 h2;cases Zf8 hf with
  | none=>rfl
  | bool=>subst h1;injection h2 with zi;subst zi;exact beq_self_eq_true _
  | int=>refine oze h1 fun j zo1=>?_;subst zo1;refine oze h2 fun j h2=>?_;cases h2;exact beq_self_eq_true _
  | str=>refine oze h1 fun j zo2=>?_;subst zo2;refine oze h2 fun j h2=>?_;cases h2;exact beq_self_eq_true _
 | succ n ih =>
  intro a b v hf h1 h2;cases Zf8 hf with
  | none=>rfl
  | bool=>subst h1;cases h2;exact beq_self_eq_true _
  | int=>refine oze h1 fun j zo3=>?_;subst zo3;refine oze h2 fun j h2=>?_;cases h2;exact beq_self_eq_true _
  | str=>refine oze h1 fun j zo4=>?_;subst zo4;refine oze h2 fun j h2=>?_;cases h2;exact beq_self_eq_true _
  | list h =>
   refine Ka fun zn1=>?_;refine Zc h1 fun a us zo7 zo8 r1=>?_;subst zo7;refine Y4 zo8 fun o1 q1 j n1 q2=>?_;refine Zc h2 fun b ws e2 zo8 r2=>?_;refine Y4 zo8 fun o2 q3 j n2 q4=>?_;obtain rfl:=Value.ref.inj e2;obtain rfl:=Zgd q1 q2 q3 q4;refine zn1 ?_;exact Zca ih h r1 r2
  | tuple h =>
   refine Ka fun zn2=>?_;refine Zc h1 fun a us zo10 zo11 r1=>?_;subst zo10;refine Y4 zo11 fun o1 q1 j n1 q2=>?_;refine Zc h2 fun b ws e2 zo11 r2=>?_;refine Y4 zo11 fun o2 q3 j n2 q4=>?_;obtain rfl:=Value.ref.inj e2;obtain rfl:=Zgd q1 q2 q3 q4;refine zn2 ?_;exact Zca ih h r1 r2
theorem ZaT {xs ys:List D}(h:xs.length≠ys.length):deqs xs ys=false:=by
 induction xs generalizing ys with
 | nil=>induction ys using LLc with
  | nil=>exact absurd rfl h
  | cons _ _=>rfl
 | cons x xs ih=>induction ys using LLc with
  | nil=>rfl
  | cons y ys =>
   show (deq x y&&deqs xs ys)=false;rw [ih fun z=>h (congrArg Nat.succ z),Bool.and_false]
noncomputable def WU (xs ys:List D) (j:Nat):Bool:=deq (xs.getD j .none) (ys.getD j .none)
theorem Zei (xs ys:List D):((List.range (min xs.length ys.length)).all (WU xs ys)&&xs.length==ys.length)=deqs xs ys:=by
 induction xs generalizing ys with
 | nil=>induction ys using LLc with
  | nil=>rfl
  | cons y ys=>rw [List.length_nil,Nat.zero_min];rfl
 | cons x xs ih=>induction ys using LLc with
  | nil=>rw [List.length_nil,Nat.min_zero];rfl
  | cons y ys =>
   rw [List.length_cons,List.length_cons,Nat.succ_min_succ,List.range_succ_eq_map,List.all_cons,List.all_map,show (xs.length+1==ys.length+1)=(xs.length==ys.length) from Bool.eq_iff_iff.mpr (by rw [beq_iff_eq,beq_iff_eq];exact Nat.succ_inj),show (WU (x::xs) (y::ys)∘Nat.succ)=WU xs ys from rfl];exact (Bool.and_assoc ..).trans (congrArg (deq x y&&·) (ih ys))
theorem Za2 {xs ys:List D}(h:xs.length=ys.length):(List.range xs.length).all (WU xs ys)=deqs xs ys:=by
 rw [←Zei,←h];simp
theorem UR {p:Program}{w:World}{n:Nat}(ih:∀{a b:D}{A:Around}{s:Shared}{u v:Value},Fit n a b→VR p w s.heap a u→VR p w s.heap b v→A.units+n<cLine→EqAt A s u v (deq a b)) {as bs:List D}{A:Around}{s:Shared}{us vs:List Value}(hf:Fits n as bs) (h1:VRs p w s.heap as us) (h2:VRs p w s.heap bs vs) (hu:A.units+n<cLine) (j:Nat) (j1:j<us.length) (j2:j<vs.length):EqAt A s us[j] vs[j] (WU as bs j):=by
 replace h1:=YX.mp h1;replace h2:=YX.mp h2;induction h1 generalizing bs vs j with
 | nil=>exact absurd j1 (Nat.not_lt_zero _)
 | cons a1 t1 ih2=>cases h2 with
  | nil=>exact absurd j2 (Nat.not_lt_zero _)
  | cons a2 t2=>induction j using Nat.casesOn with
   | zero=>exact ih hf.1 a1 a2 hu
   | succ j=>exact ih2 hf.2 j _ _ t2
theorem ZeQ {p:Program}{w:World}:∀(n:Nat) {a b:D}{A:Around}{s:Shared}{u v:Value},Fit n a b→VR p w s.heap a u→VR p w s.heap b v→A.units+n<cLine→EqAt A s u v (deq a b):=by
 intro n;induction n with
 | zero =>
  intro a b A s u v hf h1 h2 hu;cases Zf8 hf with
  | none=>subst h1;subst h2;exact EqAt.same _
  | bool=>subst h1;subst h2;exact EqAt.bool_bool _ _
  | int=>refine oze h1 fun k zo1=>?_;subst zo1;refine oze h2 fun k zo2=>?_;subst zo2;exact EqAt.int_int _ _ _ _
  | str=>refine oze h1 fun k zo3=>?_;subst zo3;refine oze h2 fun k zo4=>?_;subst zo4;exact EqAt.str_str _ _ _ _
 | succ n ih =>
  intro a b A s u v hf h1 h2 hu;cases Zf8 hf with
  | none=>subst h1;subst h2;exact EqAt.same _
  | bool=>subst h1;subst h2;exact EqAt.bool_bool _ _
  | int=>refine oze h1 fun k zo5=>?_;subst zo5;refine oze h2 fun k zo6=>?_;subst zo6;exact EqAt.int_int _ _ _ _
  | str=>refine oze h1 fun k zo7=>?_;subst zo7;refine oze h2 fun k zo8=>?_;subst zo8;exact EqAt.str_str _ _ _ _
  | @list _ xs ys h =>
   by_cases huv:u=v
   ·subst huv;rw [Zdp _ hf h1 h2];exact EqAt.same u
   ·refine Zc h1 fun a us e1 l1 r1=>?_;refine Zc h2 fun b ws e2 l2 r2=>?_;subst e1 e2;refine EqAt.of_refs (fun z=>huv (by rw [z])) ?_;have n1:=Zu r1;have n2:=Zu r2;show RcAt A s (.ref a) (.ref b) (deqs xs ys);by_cases hs:us.toArray.size=ws.toArray.size
    ·have hn:xs.length=ys.length:=by simp at hs;lia
     rw [←Za2 hn,←n1]
     have:=RcAt.lists (A:=A) (e:=WU xs ys) l1 l2 hs (by lia) fun j j1 j2=>by
      have:=UR (n:=n) (A:=A.in1) ih h r1 r2 (by show A.units+1+n<_;lia) j (by simpa using j1) (by simpa using j2);exact this
     exact this
    ·rw [ZaT (by intro z;apply hs;simp;lia)];exact RcAt.lists_lengths l1 l2 (by simpa using hs) (by lia)
  | @tuple _ xs ys h =>
   by_cases huv:u=v
   ·subst huv;rw [Zdp _ hf h1 h2];exact EqAt.same u
   ·refine Zc h1 fun a us e1 l1 r1=>?_;refine Zc h2 fun b ws e2 l2 r2=>?_;subst e1 e2;refine EqAt.of_refs (fun z=>huv (by rw [z])) ?_;have n2:=Zu r2;show RcAt A s (.ref a) (.ref b) (deqs xs ys);rw [←Zei,←(Zu r1),←n2]
    have:=RcAt.tuples (A:=A) (e:=WU xs ys) l1 l2 (by lia) fun j j1 j2=>by
     have:=UR (n:=n) (A:=A.in1) ih h r1 r2 (by show A.units+1+n<_;lia) j (by simpa using j1) (by simpa using j2);exact this
    exact this
theorem Zgq {p:Program}{w:World}{n:Nat}{as bs:List D}{A:Around}{s:Shared}{us vs:List Value}(hf:Fits n as bs) (h1:VRs p w s.heap as us) (h2:VRs p w s.heap bs vs) (hu:A.units+n<cLine):∀j (h1:j<us.length) (h2:j<vs.length),EqAt A s us[j] vs[j] (WU as bs j) :=
 UR (ZeQ n) hf h1 h2 hu
theorem Zg1 {n:Nat}{xs ys:List Str}:Fits n (xs.map .str) (ys.map .str):=by
 induction xs generalizing ys with
 | nil=>exact trivial
 | cons x xs ih=>induction ys using LLc with
  | nil=>exact trivial
  | cons y ys=>exact ⟨trivial,ih⟩
theorem ZgD {xs ys:List Str}:deqs (xs.map .str) (ys.map .str)=(xs==ys):=by
 induction xs generalizing ys with
 | nil=>induction ys using LLc <;> rfl
 | cons x xs ih=>induction ys using LLc with
  | nil=>rfl
  | cons y ys=>exact congrArg (_&&·) ih
theorem ZiV {n:Nat}{xs:List D}:Fits n xs []:=by induction xs using LLc <;> exact trivial
theorem ZhE:∀{xs:List D},deqs xs []=xs.isEmpty
 | []=>rfl
 | _::_=>rfl
section
variable {c:Cx}{F:Fz}{st:St}{vs:List Value}{s:Shared}{g:Heap}{ρ:List Addr}{m:Str→Option Value}{Q:St→Prop}{QB:Bool→St→Prop}{l:List (Nat×A)}{o:List O}{k:List A}
theorem Zrq {xs ys:List D}(hf:Fits 20 xs ys) (q:Q ⟨l,o,.d (.bool (deqs xs ys))::k⟩):OJ2 c (compareOp .Eq) ⟨l,o,.d (.list ys)::.d (.list xs)::k⟩ Q:=o2 (fun F st vs s g ρ m u v W h1 h2 Q' hq=>by
 refine Zc (VR.sub _ _ W.keep _ _ h1) fun a us e1 l1 r1=>?_;refine Zc (VR.sub _ _ W.keep _ _ h2) fun b ws e2 l2 r2=>?_;subst e1 e2;have n1:=Zu r1;have n2:=Zu r2;have hu:c.A.units+21<cLine:=by have:=c.hu;lia
 by_cases hs:us.toArray.size=ws.toArray.size
 ·have hn:xs.length=ys.length:=by simp at hs;lia
  refine eq_listAt (e:=WU xs ys) l1 l2 hs (by lia) (fun j j1 j2=>?_) ?_
  ·have:=Zgq (n:=20) (A:=c.A.in1) hf r1 r2 (by show c.A.units+1+20<_;assumption) j (by simpa using j1) (by simpa using j2);exact this
  ·have:=hq (.bool (deqs xs ys)) s.toks rfl;rw [←Za2 hn,←n1] at this;exact this
 ·refine eq_list_lengthsAt l1 l2 (by simpa using hs) (by exact Nat.lt_of_le_of_lt (Ko _ _) (by assumption)) ?_
  have:=hq (.bool (deqs xs ys)) s.toks rfl;rw [ZaT (by intro z;apply hs;simp;lia)] at this;exact this) q
theorem Zrm {xs ys:List D}(hf:Fits 20 xs ys) (q:Q ⟨l,o,.d (.bool (!deqs xs ys))::k⟩):OJ2 c (compareOp .NotEq) ⟨l,o,.d (.list ys)::.d (.list xs)::k⟩ Q:=o2 (fun F st vs s g ρ m u v W h1 h2 Q' hq=>by
 refine Zc (VR.sub _ _ W.keep _ _ h1) fun a us e1 l1 r1=>?_;refine Zc (VR.sub _ _ W.keep _ _ h2) fun b ws e2 l2 r2=>?_;subst e1 e2;have n1:=Zu r1;have n2:=Zu r2;have hu:c.A.units+21<cLine:=by have:=c.hu;lia
 by_cases hs:us.toArray.size=ws.toArray.size
 ·have hn:xs.length=ys.length:=by simp at hs;lia
  refine RcNeAt.lists (A:=c.A) (s:=s) (e:=WU xs ys) l1 l2 hs (by lia) (fun j j1 j2=>?_) _ _ _ _ ?_
  ·have:=Zgq (n:=20) (A:=c.A.in1) hf r1 r2 (by show c.A.units+1+20<_;lia) j (by simpa using j1) (by simpa using j2);exact this
  ·have:=hq (.bool (!deqs xs ys)) s.toks rfl;rw [←Za2 hn,←n1] at this;exact this
 ·refine RcNeAt.lists_lengths (A:=c.A) (s:=s) l1 l2 (by simpa using hs) (by lia) _ _ _ _ ?_
  have:=hq (.bool (!deqs xs ys)) s.toks rfl;rw [ZaT (by intro z;apply hs;simp;lia)] at this;exact this) q
theorem Zdw {p:Program}{w:World}{g:Heap}{xs:List Str}{vs:List Value}(h:VRs p w g (xs.map .str) vs):StrsAre vs xs:=by
 induction xs generalizing vs with
 | nil=>exact h▸.nil
 | cons x xs ih=>refine Zc h fun v r e zo2 h2=>?_;refine oze zo2 fun t h1=>?_;rw [e,h1];exact .cons x t (ih h2)
theorem Zig {p:Program}{w:World}{g:Heap}{xs:List Int}{vs:List Value}(h:VRs p w g (xs.map .int) vs):IntsAre vs xs:=by
 induction xs generalizing vs with
 | nil=>exact h▸.nil
 | cons x xs ih=>refine Zc h fun v r e zo2 h2=>?_;refine oze zo2 fun t h1=>?_;rw [e,h1];exact .cons x t (ih h2)
theorem Zky {xs:List Str}{x:Str}(q:Q ⟨l,o,.d (.bool (xs.any (· == x)))::k⟩):OJ2 c (compareOp .In) ⟨l,o,.d (.list (xs.map .str))::.d (.str x)::k⟩ Q:=o2 (fun F st vs s g ρ m u v W zq0 h2 Q' hq=>by
 refine oze zq0 fun t h1=>?_;refine Zc (VR.sub _ _ W.keep _ _ h2) fun b ws e2 l2 r2=>?_;subst h1 e2;exact in_list_strs l2 (Zdw r2) (hq _ s.toks ZJ)) q
theorem ZkU {xs:List Int}{x:Int}(q:Q ⟨l,o,.d (.bool (xs.any (· == x)))::k⟩):OJ2 c (compareOp .In) ⟨l,o,.d (.list (xs.map .int))::.d (.int x)::k⟩ Q:=o2 (fun F st vs s g ρ m u v W zq1 h2 Q' hq=>by
 refine oze zq1 fun t h1=>?_;refine Zc (VR.sub _ _ W.keep _ _ h2) fun b ws e2 l2 r2=>?_;subst h1 e2;exact in_list_ints l2 (Zig r2) (hq _ s.toks ZJ)) q
theorem Zln {es:List (Str×D)}{x:Str}(q:Q ⟨l,o,.d (.bool (Yb x es).isSome)::k⟩):OJ2 c (compareOp .In) ⟨l,o,.d (.dict es)::.d (.str x)::k⟩ Q:=o2 (fun F st vs s g ρ m u v W zq2 h2 Q' hq=>by
 refine oze zq2 fun t h1=>?_;refine Yk (VR.sub _ _ W.keep _ _ h2) fun b kvs e2 hn l2 r2=>?_;subst h1 e2;refine wpAny_in_of (strKind_is _ _ x t) (Zbn hn) l2.mapOf ?_
 have:=hq (.bool (Yb x es).isSome) (s.toks+1) rfl;induction hx:Yb x es with
 | none=>rw [hx] at this;rw [Zex r2 hx];exact this
 | some d =>
  rw [hx] at this;refine Zb (ZcF r2 hx) fun v e j=>?_;rw [e];exact this) q
theorem ZrD {x y:Str}(q:Q ⟨l,o,.d (.bool !(Builtin.Str.occurrences x y 0 x.length 1).isEmpty)::k⟩):OJ2 c (compareOp .In) ⟨l,o,.d (.str x)::.d (.str y)::k⟩ Q:=o2 (fun F st vs s g ρ m u v W zq3_0 zq3_1 Q' hq=>by
 obtain ⟨t,h1⟩:=zq3_0;obtain ⟨t',h2⟩:=zq3_1;subst h1 h2;exact PyProof.Rows.in_str (hq _ s.toks ZJ)) q
noncomputable def Xk:D→Bool
 | .none=>true
 | _=>false
noncomputable def ZbT:D→Prop
 | .val _=>False
 | _=>True
theorem ZcJ {p:Program}{w:World}{g:Heap}{d:D}{v:Value}(hd:ZbT d) (h:VR p w g d v):(v==Value.none)=Xk d:=by
 induction d using D.casesOn with
 | none=>subst h;rfl
 | bool b=>subst h;rfl
 | int i=>refine oze h fun t e=>?_;subst e;rfl
 | str i=>refine oze h fun t e=>?_;subst e;rfl
 | bytes i=>refine oze h fun t e=>?_;subst e;rfl
 | list xs=>refine Zz h fun a j e j=>?_;subst e;rfl
 | tuple xs=>refine Zz h fun a j e j=>?_;subst e;rfl
 | dict xs=>refine Zz h fun a j e j=>?_;subst e;rfl
 | range a b=>refine Xf h fun r j j j e j=>?_;subst e;rfl
 | slice a b z=>refine Xf h fun r j j j e j=>?_;subst e;rfl
 | view k es=>refine ZZ h fun a j j e j=>?_;subst e;rfl
 | inst c fs=>refine Zz h fun a j e j=>?_;subst e;rfl
 | val v=>exact hd.elim
theorem ZhW {d:D}(hd:ZbT d) (q:Q ⟨l,o,.d (.bool (Xk d))::k⟩):OJ2 c (compareOp .Is) ⟨l,o,.d .none::.d d::k⟩ Q:=o2 (fun F st vs s g ρ m u v W h1 h2 Q' hq=>by
 subst h2;refine is_none_gen ?_;rw [ZcJ hd h1];exact hq _ s.toks rfl) q
theorem Y9 {d:D}(hd:ZbT d) (q:Q ⟨l,o,.d (.bool (!Xk d))::k⟩):OJ2 c (compareOp .IsNot) ⟨l,o,.d .none::.d d::k⟩ Q:=o2 (fun F st vs s g ρ m u v W h1 h2 Q' hq=>by
 subst h2;refine isNot_none ?_;rw [ZcJ hd h1];exact hq _ s.toks rfl) q
theorem U5 {i:Nat}(q:Q ⟨l,o,.d (.bool true)::k⟩):OJ2 c (compareOp .IsNot) ⟨l,o,.d .none::.own i::k⟩ Q:=o2 (fun F st vs s g ρ m u v W zq4 h2 Q' hq=>by
 refine Zb zq4 fun a j h1=>?_;subst h2;subst h1;exact isNot_none (hq (.bool true) s.toks rfl)) q
theorem ZiH {i:Nat}(q:Q ⟨l,o,.d (.bool false)::k⟩):OJ2 c (compareOp .Is) ⟨l,o,.d .none::.own i::k⟩ Q:=o2 (fun F st vs s g ρ m u v W zq5 h2 Q' hq=>by
 refine Zb zq5 fun a j h1=>?_;subst h2;subst h1;exact is_none_gen (hq (.bool false) s.toks rfl)) q
end
end
section
section
variable {c:Cx}{F:Fz}{st:St}{vs:List Value}{s:Shared}{g:Heap}{ρ:List Addr}{m:Str→Option Value}{Q:St→Prop}{QB:Bool→St→Prop}{l:List (Nat×A)}{o:List O}{k:List A}{QM:Nat→St→Prop}
theorem ZoU {x:Str}(q:QM 1 ⟨l,o,.d (.str x)::.d (.val (.builtin "str.join"))::k⟩):MJ c "join" ⟨l,o,.d (.str x)::k⟩ QM:=XZ PySem.F.plainAttrs_str PySem.F.slot_str_join PySem.F.type_str_join Uk q
theorem Zkm {x:Str}(q:QM 1 ⟨l,o,.d (.str x)::.d (.val (.builtin "str.split"))::k⟩):MJ c "split" ⟨l,o,.d (.str x)::k⟩ QM:=XZ PySem.F.plainAttrs_str PySem.F.slot_str_split PySem.F.type_str_split Uk q
theorem ZcC {x:Str}(q:QM 1 ⟨l,o,.d (.str x)::.d (.val (.builtin "str.startswith"))::k⟩):MJ c "startswith" ⟨l,o,.d (.str x)::k⟩ QM:=XZ PySem.F.plainAttrs_str PySem.F.slot_str_startswith PySem.F.type_str_startswith Uk q
theorem Zid {x:Str}(q:QM 1 ⟨l,o,.d (.str x)::.d (.val (.builtin "str.encode"))::k⟩):MJ c "encode" ⟨l,o,.d (.str x)::k⟩ QM:=XZ PySem.F.plainAttrs_str PySem.F.slot_str_encode PySem.F.type_str_encode Uk q
theorem ZnH {x:Str}{xs:List Str}(hx:x.length≤16) (hw:(xs.map (·.length)).sum+xs.length≤1048576) (q:Q ⟨l,o,.d (.str (Txt.join x xs))::k⟩):CJ c 2 ⟨l,o,.d (.list (xs.map .str))::.d (.str x)::.d (.val (.builtin "str.join"))::k⟩ Q :=
 W9 (as:=[.d (.str x),.d (.list (xs.map .str))]) rfl (fun j=>Zj) (fun F st vs s g ρ m us W h Q' hq=>by
  refine Zc (Yz h) fun u v zo3 zo4 h2=>?_;subst zo3;obtain ⟨t,e1⟩:=zo4;refine Zc (VR.sub _ _ W.keep _ _ h2) fun b ws e2 l2 r2=>?_;subst e1 e2;exact join_listW l2 (by simpa using Zdw r2) hx hw fun t' k=>hq _ _ X9) q
theorem Zc1 {x y:Str}(q:Q ⟨l,o,.d (.bool (Txt.startswith x y))::k⟩):CJ c 2 ⟨l,o,.d (.str y)::.d (.str x)::.d (.val (.builtin "str.startswith"))::k⟩ Q :=
 W9 (as:=[.d (.str x),.d (.str y)]) rfl (fun j=>Zj) (fun F st vs s g ρ m us W h Q' hq=>by
  refine Zc (Yz h) fun u v zo4 zo5 zo6=>?_;subst zo4;obtain ⟨t,e1⟩:=zo5;obtain ⟨t',e2⟩:=zo6;subst e1 e2;exact SC.startswith (hq _ s.toks ZJ)) q
theorem ZfO {n:Nat}{f:Value}{as:List A}{d:D}(hn:as.length=n) (hk:∀h,ZF c f h)
 (h:∀(F:Fz) (st:St) (vs:List Value) (s:Shared) (g:Heap) (ρ:List Addr) (m) (us:List Value),RSW c F st vs s g ρ m→ARs c.p c.w g ρ as us→∀(Q':Value→Shared→Prop),(∀x h' t,Sub s.heap h'→(∀g',Sub g g'→(∀b ob,s.heap.objs.size≤b→h'.get? b=some ob→g'.get? b=some ob)→VR c.p c.w g' d x)→Q' x {s with heap:=h',toks:=t})→wpAny (model c.p c.w) c.A (call f us) Q' NoE s)
 (q:Q ⟨l,o,.d d::k⟩):CJ c n ⟨l,o,as.reverse++.d (.val f)::k⟩ Q:=fun F f' us vs s hl zq0=>by
 refine Ka fun zn2=>?_;refine ozr zq0 fun g ρ m W=>?_;refine oza (Zy W.stk (by rw [hl,hn])) fun q1 q2=>?_;refine zn2 ?_;have ef:f'=f:=Zd q2;subst ef;refine ⟨hk _,h F _ _ s g ρ m us W q1 _ fun x h' t hs hx=>?_⟩;have W1:=W.grow (s':={s with heap:=h',toks:=t}) hs W.gens W.bare rfl;have sub:Sub g _:=fun b ob e=>PySem.W.hideAll_get (Z0 c.G F (c.env.locals::ρ)) (W1.keep b ob e) fun hb=>by rw [W1.nomut b hb] at e;exact Zo e
 refine ⟨_,⟨_,ρ,m,W1.canon.stack (Zg (a:=.d d) (hx _ sub fun b ob hb e=>PySem.W.hideAll_get _ e fun hm=>?_) (ARs.sub _ _ sub (Ext.refl _) _ _ (Za q2)))⟩,q⟩;refine oze (W.thereM _ hm) fun o' e'=>?_;exact absurd (Kk e') (Zaq hb)
theorem Zfj {p:Program}{w:World}{g:Heap}{lv:List (Str×Tok)}:VRs p w g ((lv.map (·.1)).map .str) (strValues lv):=by
 induction lv with
 | nil=>rfl
 | cons q r ih=>exact ⟨.str q.1 q.2,_,rfl,⟨q.2,rfl⟩,ih⟩
theorem Zlj {x y:Str}(hy:(y.length==0)=false) (hsz:x.length≤1000000) (hsz2:(Builtin.Str.partsBetween x (Builtin.Str.occurrences x y 0 x.length (x.length+1)) y.length).length≤1000000) (q:Q ⟨l,o,.d (.list ((Txt.split x y).map .str))::k⟩) :
 CJ c 2 ⟨l,o,.d (.str y)::.d (.str x)::.d (.val (.builtin "str.split"))::k⟩ Q :=
 ZfO (as:=[.d (.str x),.d (.str y)]) rfl (fun j=>Zj) (fun F st vs s g ρ m us W h Q' hq=>by
  refine Zc (Yz h) fun u v zo4 zo5 zo6=>?_;subst zo4;obtain ⟨t,e1⟩:=zo5;obtain ⟨t',e2⟩:=zo6;subst e1 e2;have fin:∀(lv:List (Str×Tok)) (n tk:Nat),lv.map (·.1)=Txt.split x y→Q' (.ref s.heap.objs.size) {s with heap:=s.heap.push {cls:=.type "list",data:=.seq (strValues lv).toArray n},toks:=tk}:=fun lv n tk hl =>
   hq _ _ _ (Sub.push _ _) fun g' j hg=>⟨_,strValues lv,rfl,⟨_,hg _ _ (Kq _) (Kh _ rfl),rfl,n,rfl⟩,hl▸Zfj⟩
  have z1:x.length≤sizeLine:=by rw [sizeLine_eq];lia
  have z2:(Builtin.Str.partsBetween x (Builtin.Str.occurrences x y 0 x.length (x.length+1)) y.length).length≤sizeLine:=by rw [sizeLine_eq];lia
  induction h1:(decide (x.length<y.length)||decide (Builtin.Str.strKind x<Builtin.Str.strKind y))
  ·induction hf:(Builtin.Str.occurrences x y 0 x.length (x.length+1)).isEmpty
   ·refine call_meets PySem.F.slot_str_split (typeIs_str _ _ _) PySem.F.entry_str_split (PySem.F.args_str_split_2 _ _) (meets_str_split_sep x y t t' h1 hy hf z1 z2) ?_;rw [strsFrom_eq];exact fin (numbered s.toks _) 0 _ ((numbered_texts _ _).trans ((if_neg (Kv h1)).trans (if_neg (Kv hf))).symm)
   ·exact call_meets PySem.F.slot_str_split (typeIs_str _ _ _) PySem.F.entry_str_split (PySem.F.args_str_split_2 _ _) (meets_str_split_not_found x y t t' h1 hy hf)
     (fin [(x,t)] 0 s.toks ((if_neg (Kv h1)).trans (if_pos hf)).symm)
  ·exact call_meets PySem.F.slot_str_split (typeIs_str _ _ _) PySem.F.entry_str_split (PySem.F.args_str_split_2 _ _) (meets_str_split_cannot_occur x y t t' h1)
    (fin [(x,t)] 0 s.toks (if_pos h1).symm)) q
theorem Zi2 {n:Int}(q:Q ⟨l,o,.d (.range 0 n)::k⟩):CJ c 1 ⟨l,o,.d (.int n)::.d (.val (.type "range"))::k⟩ Q :=
 ZfO (as:=[.d (.int n)]) rfl (fun j=>Xm) (fun F st vs s g ρ m us W h Q' hq=>by
  refine ZhD (Yh h) fun u zo1 t e1=>?_;subst zo1;subst e1;exact call_range_1 (hq _ _ _ (Sub.push _ _) fun g' j hg=>⟨_,_,_,_,rfl,hg _ _ (Kq _) (Kh _ rfl)⟩)) q
theorem Zj4 {a b:Int}(q:Q ⟨l,o,.d (.range a b)::k⟩):CJ c 2 ⟨l,o,.d (.int b)::.d (.int a)::.d (.val (.type "range"))::k⟩ Q :=
 ZfO (as:=[.d (.int a),.d (.int b)]) rfl (fun j=>Xm) (fun F st vs s g ρ m us W h Q' hq=>by
  refine Zc (Yz h) fun u v zo4 zo5 zo6=>?_;subst zo4;obtain ⟨t,e1⟩:=zo5;obtain ⟨t',e2⟩:=zo6;subst e1 e2;exact call_range_2 (hq _ _ _ (Sub.push _ _) fun g' j hg=>⟨_,_,_,_,rfl,hg _ _ (Kq _) (Kh _ rfl)⟩)) q
theorem Zjy {p:Program}{w:World}{g:Heap}(f:Nat→Int):∀(n:Nat) (vs:List Value),vs.length=n→(∀(j:Nat) v,vs[j]?=some v→∃t,v = .int (f j) t)→VRs p w g ((List.range n).map fun i=>.int (f i)) vs:=by
 intro n;induction n generalizing f with
 | zero=>intro vs h k;induction vs using LLc with
  | nil=>rfl
  | cons _ _=>simp at h
 | succ n ih=>intro vs h hv;induction vs using LLc with
  | nil=>simp at h
  | cons v r =>
   rw [List.range_succ_eq_map,List.map_cons,List.map_map];refine oze (hv 0 v rfl) fun t e=>?_;exact ⟨v,r,rfl,⟨t,e⟩,ih (fun i=>f (i+1)) r (by simpa using h) fun j u hu=>hv (j+1) u (by simpa using hu)⟩
theorem ZcR {a b:Int}(hs:Builtin.Range.small a b 1=true) (hsz:(b - a).toNat≤1000000) (q:Q ⟨l,o,.d (.list ((List.range (b - a).toNat).map fun (i:Nat)=>.int (a+i)))::k⟩):CJ c 1 ⟨l,o,.d (.range a b)::.d (.val (.type "list"))::k⟩ Q :=
 ZfO (as:=[.d (.range a b)]) rfl (fun y=>Xm) (fun F st vs s g ρ m us W h Q' hq=>by
  refine Zb (Yh h) fun u zo1 h1=>?_;subst zo1;refine Xf (VR.sub _ _ W.keep _ _ h1) fun r t u z e1 hr=>?_;subst e1;have en:Builtin.Range.rangeSize a b 1=((b - a).toNat:Int):=by unfold Builtin.Range.rangeSize;simp;lia
  refine call_list_range c.hh hr hs en (by lia) fun h' tk acc' c' hk hl hi=>hq _ _ _ hk fun g' y hg=>⟨_,acc'.toList,rfl,⟨_,hg _ _ (Kq _) hl,rfl,c',by rfl⟩,?_⟩;refine Zjy (fun i=>a+i) _ acc'.toList (by simp [hi.1]) fun j v hv=>?_;refine oze (hi.2 j v (by simpa using hv)) fun t e=>?_;exact ⟨t,by rw [e,Int.mul_one]⟩) q
theorem Zod {es:List (Str×D)}(q:QM 1 ⟨l,o,.d (.dict es)::.d (.val (.builtin "dict.get"))::k⟩):MJ c "get" ⟨l,o,.d (.dict es)::k⟩ QM:=XZ PySem.F.plainAttrs_dict PySem.F.slot_dict_get PySem.F.type_dict_get UY q
theorem Zmc {es:List (Str×D)}{x:Str}{d:D}(q:Q ⟨l,o,.d ((Yb x es).getD d)::k⟩):CJ c 3 ⟨l,o,.d d::.d (.str x)::.d (.dict es)::.d (.val (.builtin "dict.get"))::k⟩ Q :=
 W9 (as:=[.d (.dict es),.d (.str x),.d d]) rfl (fun j=>Zj) (fun F st vs s g ρ m us W h Q' hq=>by
  refine Zc h fun u r zo1 h1 h2=>?_;subst zo1;refine Zc (Yz h2) fun v y zo4 zo5 h3=>?_;subst zo4;obtain ⟨t,e2⟩:=zo5;refine Yk h1 fun b kvs e1 hn l2 r2=>?_;subst e1 e2;have l3:=ZA _ _ W.keep l2;refine call_meetsIn PySem.F.slot_dict_get l3.typeIs PySem.F.entry_dict_get (PySem.F.args_dict_get_3 _ _ _) (meets_dict_get_default (PySem.strKind c.p c.w) b (strKind_is _ _ x t) (Zbn hn) y) ⟨_,l3.mapOf,?_⟩;induction hx:Yb x es with
  | none=>rw [Zex r2 hx];exact hq _ _ (by rw [hx];exact h3)
  | some d' =>
   refine Zb (ZcF r2 hx) fun v2 z1 z2=>?_;rw [z1];exact hq _ _ (by rw [hx];exact z2)) q
end
end
section
theorem ZcD {l:List (Nat×A)}:Le [] l:=fun j h=>nomatch h
theorem XY {i:Nat}{a:A}{r l:List (Nat×A)}(h:ZD i l=some a) (hr:Le r l):Le ((i,a)::r) l:=fun q hq=>by
 rcases ZQ hq with rfl | hq
 ·exact h
 ·exact hr q hq
section
variable {c:Cx}{st:St}{QF:Fl→St→Prop}{tgt:Expr}{body:List Stmt}{ok:St→Prop}
theorem Zmw {l:List (Nat×A)}{Q:St→Prop}(h:AsJ c tgt ⟨l,st.own,st.stk⟩ Q) (hl:Le l st.loc):AsJ c tgt st Q:=fun F v vs s R=>h F v vs s (R.forget fun x a e=>hl _ (Y8 e))
theorem Zq2 {e:Expr}{l:List (Nat×A)}{Q:Bool→St→Prop}(h:TJ c e ⟨l,st.own,st.stk⟩ Q) (hl:Le l st.loc):TJ c e st Q:=fun F vs s R=>h F vs s (R.forget fun x a e=>hl _ (Y8 e))
def At (L:List (Nat×A)) (ow:List O) (k:List A) (st:St):Prop:=Le L st.loc∧st.own=ow∧st.stk=k
theorem ZjG {α:Type}{enc:α→A}{I:List α→St→Prop}(xs:List α) (st:St)
 (hok:∀xs st,I xs st→ok st) (step:∀x xs st,I (x::xs) st→AsJ c tgt ⟨st.loc,st.own,enc x::st.stk⟩ fun st1=>XJ c body st1 (lpQ (I xs) QF)) (fin:∀st,I [] st→QF .next st) (h:I xs st):Zak c tgt body ok (xs.map enc) st QF:=by
 induction xs generalizing st with
 | nil=>exact ⟨hok _ _ h,fin st h⟩
 | cons x xs ih =>
  refine ⟨hok _ _ h,fun F v vs s R=>wpm (step x xs st h F v vs s R) (fun j s1 z=>?_)⟩;refine ozg z fun st1 R1 h=>?_;refine ⟨st1,R1,h.mono fun fl st2 hf=>?_⟩;induction fl with
  | next=>exact ih st2 hf
  | cont=>exact ih st2 hf
  | brk=>exact hf
  | ret=>exact hf
theorem Zhw {k:List A}{β:Type}{t:Expr}{pos:Pos}{L:β→List (Nat×A)}{ow:β→List O}(Inv:β→Prop) (μ:β→Nat) (b0:β) (h0:Inv b0) (hst:At (L b0) (ow b0) k st)
 (turn:∀b,Inv b→TJ c t ⟨L b,ow b,k⟩ fun z st1=>(z=true→XJ c body st1 (lpQ (fun st2=>∃b',Inv b'∧μ b'<μ b∧At (L b') (ow b') k st2) QF))∧(z=false→QF .next st1)):SJ c (.While t body [] pos) st QF:=by
 refine Zf2 (fun n st=>∃b,Inv b∧μ b=n∧At (L b) (ow b) k st) (μ b0) ⟨b0,h0,rfl,hst⟩ ?_;rintro n ⟨l,o',k'⟩ ⟨b,hb,rfl,h1,h2,h3⟩;rw [show o'=ow b from h2,show k'=k from h3];refine Zq2 (st:=⟨l,ow b,k⟩) ((turn b hb).mono fun z st1 hz=>⟨fun e=>(hz.1 e).mono fun fl st2 hf=>?_,hz.2⟩) h1;induction fl with
 | next=>refine Zx hf fun b' q1 q2 q3=>?_;exact ⟨_,q2,b',q1,rfl,q3⟩
 | cont=>refine Zx hf fun b' q1 q2 q3=>?_;exact ⟨_,q2,b',q1,rfl,q3⟩
 | brk=>exact hf
 | ret=>exact hf
end
end
section
section
variable {prog:Program}{w:World}{A:Around}{E:Value→Shared→Prop}{s:Shared}
theorem ZfU {l:Addr}{us:List Value}{j:Nat}{v:Value}(h:IsLst s.heap l us):IsLst (s.heap.update l (Obj.mapSeq (·.setIfInBounds j v))) l (us.set j v):=by
 refine oze h fun n e=>?_
 have:=Heap.get?_update_self (Obj.mapSeq (·.setIfInBounds j v)) e (by rfl);exact ⟨_,by rw [this];simp only [Obj.mapSeq,List.setIfInBounds_toArray];rfl⟩
theorem Zeo {l:Addr}{us:List Value}{k:Int}{t:Tok}{v:Value}{Q:Unit→Shared→Prop}(hl:IsLst s.heap l us)
 (h0:0≤k) (hfit:k<2 ^ 63) (hn:k<us.length) (hQ:∀h',IsLst h' l (us.set k.toNat v)→Heap.SameBut l s.heap h'→Q () {s with heap:=h'}):wpAny (model prog w) A (setItem (.ref l) (.int k t) v) Q E s:=by
 have hl':=hl.isList;refine oze (id hl) fun n ho=>?_;unfold setItem
 try with_reducible refine wpAny_holding ?_
 first | refine Kd (Ki ?_) | skip
 refine Kd (wpAny_sequenceKey hl'.typeIs (by decide) ?_)
 refine Kd (wpAny_callSpecial?_slot (name:=Str.ofString "__setitem__") hl'.typeIs slot_list_setitem
  (wpAny_call_entry slot_list_setitem hl'.typeIs entry_list_setitem ?_ (args_list_setitem _ _ _)))
 show wpAny _ _ (Builtin.List.listSubscript? (.int k t) >>= _) _ _ s;refine Kd (wpAny_listSubscript_int (fitsIndex_of h0 hfit) ?_);clear hfit;obtain ⟨j,rfl⟩:=Int.eq_ofNat_of_zero_le h0;have hj:j<us.toArray.size:=by simp;lia
 have hx':us.toArray[j]?=some us.toArray[j]:=Array.getElem?_eq_getElem hj;refine Kd (Kd (wpAny_seqItemAt ho rfl (Ki ?_)));rw [hx'];have hfin:IsLst (s.heap.update l (Obj.mapSeq (·.setIfInBounds j v))) l (us.set j v):=ZfU hl;refine Kd (wpAny_setSeqItemAt ho rfl ?_)
 first
  | exact Kd (Ki (Ki ⟨.none,rfl,Ki (hQ _ hfin (Heap.SameBut.update ..))⟩))
  | exact Ki ⟨.none,rfl,Ki (hQ _ hfin (Heap.SameBut.update ..))⟩
theorem Zdl {l:Addr}{us:List Value}{k:Int}{t:Tok}{v:Value}{Q:Unit→Shared→Prop}(hl:IsLst s.heap l us)
 (h0:k<0) (h1 : -(us.length:Int)≤k) (hfit : -(2 ^ 63)≤k) (hQ:∀h',IsLst h' l (us.set (k+us.length).toNat v)→Heap.SameBut l s.heap h'→Q () {s with heap:=h'}):wpAny (model prog w) A (setItem (.ref l) (.int k t) v) Q E s:=by
 have hl':=hl.isList;refine oze (id hl) fun n ho=>?_;unfold setItem
 try with_reducible refine wpAny_holding ?_
 first | refine Kd (Ki ?_) | skip
 refine Kd (wpAny_sequenceKey hl'.typeIs (by decide) ?_)
 refine Kd (wpAny_callSpecial?_slot (name:=Str.ofString "__setitem__") hl'.typeIs slot_list_setitem
  (wpAny_call_entry slot_list_setitem hl'.typeIs entry_list_setitem ?_ (args_list_setitem _ _ _)))
 show wpAny _ _ (Builtin.List.listSubscript? (.int k t) >>= _) _ _ s;refine Kd (wpAny_listSubscript_int (fitsIndex_neg h0 hfit) ?_);clear hfit;have hlt:(k+us.length).toNat<us.toArray.size:=by simp;lia
 have hx:us.toArray[(k+us.length).toNat]?=some us.toArray[(k+us.length).toNat]:=Array.getElem?_eq_getElem hlt;obtain ⟨j,rfl⟩:∃j:Nat,k=Int.negSucc j:=by
  cases k with
  | ofNat n=>exact absurd h0 (Int.not_lt.mpr (Int.ofNat_nonneg n))
  | negSucc n=>exact ⟨n,rfl⟩
 refine Kd (Kd ?_);refine Kd (wpAny_seqItems ho rfl (Ki (Ki ?_)));rw [(seqIndex_neg (n:=us.toArray.size) h0 (by simpa using h1))];have e:((Int.negSucc j:Int)+(us.toArray.size:Nat)).toNat=(Int.negSucc j+(us.length:Int)).toNat:=by rfl
 simp only [Option.bind_some,e,hx,Option.map_some];have hfin:IsLst (s.heap.update l (Obj.mapSeq (·.setIfInBounds (Int.negSucc j+(us.length:Int)).toNat v))) l (us.set (Int.negSucc j+(us.length:Int)).toNat v):=ZfU hl;refine Kd (wpAny_setSeqItemAt ho rfl ?_)
 first
  | exact Kd (Ki (Ki ⟨.none,rfl,Ki (hQ _ hfin (Heap.SameBut.update ..))⟩))
  | exact Ki ⟨.none,rfl,Ki (hQ _ hfin (Heap.SameBut.update ..))⟩
end
def TIJ (c:Cx) (st:St) (Q:St→Prop):Prop :=
 ∀F iv ov v vs s,RS c F st (iv::ov::v::vs) s→wpAny (model c.p c.w) c.A (setItem ov iv v) (fun j s'=>Got c F vs Q s') NoE s
section
variable {c:Cx}{st:St}{l:List (Nat×A)}{o:List O}{k:List A}{Q:St→Prop}{QF:Fl→St→Prop}
theorem Zcj {oe ie ve:Expr}{p1 pos:Pos}(h:EJ c ve st fun st1=>EJ c oe st1 fun st2=>EJ c ie st2 fun st3=>TIJ c st3 (QF .next)) (hs:swapsWith ve (some (.Subscript oe ie p1)) pos.line c.env=pure false:=by rfl):SJ c (.Assign [.Subscript oe ie p1] ve pos) st QF:=fun F vs s R =>
 wpAny_Assign_Subscript (wpm (h F vs s R) (fun v s1 zq0=>by obtain ⟨st1,R1,h1⟩:=zq0;exact Kb (h1 F (v::vs) s1 R1) (fun ov s2 zq1=>by refine ozg zq1 fun st2 R2 h2=>?_;exact Kb (h2 F (ov::v::vs) s2 R2) (fun iv s3 zq2=>by refine ozg zq2 fun st3 R3 h3=>?_;exact h3 F iv ov v vs s3 R3) fun j j x=>x) fun j j x=>x)) hs
theorem Zf4 {p:Program}{w:World}{g:Heap}{ρ:List Addr}{a:A}{v:Value}(h:AR p w g ρ a v) {xs:List A}{vs:List Value}(i:Nat) (e:ARs p w g ρ xs vs):ARs p w g ρ (xs.set i a) (vs.set i v):=Xo.mpr ((Xo.mp e).set h i)
theorem ZkT {i:Nat}{xs:List A}{n:Int}{a:A}(ho:o[i]?=some (.list xs)) (h0:0≤n) (h1:n<2 ^ 63) (h2:n<xs.length) (q:Q ⟨l,o.set i (.list (xs.set n.toNat a)),k⟩):TIJ c ⟨l,o,.d (.int n)::.own i::a::k⟩ Q:=fun F iv ov v vs s zq3=>by
 obtain ⟨g,ρ,m,W⟩:=zq3;refine oze ((Zd W.stk:VR c.p c.w g (.int n) iv)) fun t e1=>?_;refine Zb ((Zd (Za W.stk):AR c.p c.w g ρ (.own i) ov)) fun ad ea e2=>?_;subst e1 e2;refine Zb (W.own i _ ad ho ea) fun us hu hr=>?_;refine Zeo hu h0 h1 (by rw [Z6 hr];exact h2) fun h' e1 e2=>⟨_,⟨g,ρ,m,(W.stack (Za (Za (Za W.stk)))).setOwn (t:=s.toks) (ZI ho).1 ea (fun b ob hb e=>(e2.2 b hb).trans e) (o':=.list (xs.set n.toNat a)) ⟨_,e1,Zf4 (Zd (Za (Za W.stk))) _ hr⟩⟩,q⟩
theorem ZiI {i:Nat}{xs:List A}{n:Int}{a:A}(ho:o[i]?=some (.list xs)) (h0:n<0) (h1 : -(xs.length:Int)≤n) (h2 : -(2 ^ 63)≤n) (q:Q ⟨l,o.set i (.list (xs.set (n+xs.length).toNat a)),k⟩):TIJ c ⟨l,o,.d (.int n)::.own i::a::k⟩ Q:=fun F iv ov v vs s zq4=>by
 obtain ⟨g,ρ,m,W⟩:=zq4;refine oze ((Zd W.stk:VR c.p c.w g (.int n) iv)) fun t e1=>?_;refine Zb ((Zd (Za W.stk):AR c.p c.w g ρ (.own i) ov)) fun ad ea e2=>?_;subst e1 e2;refine Zb (W.own i _ ad ho ea) fun us hu hr=>?_;have hl:=Z6 hr;refine Zdl hu h0 (by rw [hl];exact h1) h2 fun h' e1 e2=>⟨_,⟨g,ρ,m,(W.stack (Za (Za (Za W.stk)))).setOwn (t:=s.toks) (ZI ho).1 ea (fun b ob hb e=>(e2.2 b hb).trans e) (o':=.list (xs.set (n+xs.length).toNat a)) ⟨_,e1,by rw [hl];exact Zf4 (Zd (Za (Za W.stk))) _ hr⟩⟩,q⟩
noncomputable def WhJ (c:Cx) (t:Expr) (body:List Stmt) (QF:Fl→St→Prop):Nat→St→Prop
 | 0,_=>False
 | n+1,st=>TJ c t st fun z st1=>(z=true→XJ c body st1 (lpQ (WhJ c t body QF n) QF))∧(z=false→QF .next st1)
theorem Zg9 {t:Expr}{body:List Stmt}{pos:Pos}(n:Nat) (h:WhJ c t body QF n st):SJ c (.While t body [] pos) st QF:=by
 refine Zf2 (fun n st=>WhJ c t body QF n st) n h ?_;intro n st h;induction n using Nat.casesOn with
 | zero=>exact h.elim
 | succ n =>
  refine TJ.mono h fun z st1 hz=>⟨fun e=>(hz.1 e).mono fun fl st2 hf=>?_,hz.2⟩;induction fl with
  | next=>exact ⟨n,Nat.lt_succ_self n,hf⟩
  | cont=>exact ⟨n,Nat.lt_succ_self n,hf⟩
  | brk=>exact hf
  | ret=>exact hf
noncomputable def Zhf:List A→Option (List D)
 | []=>some []
 | .d x::r=>(Zhf r).map (x::·)
 | _::_=>none
theorem Zkr {as:List A}{ds:List D}(h:Zhf as=some ds):as=ds.map .d:=by
 induction as generalizing ds with
 | nil=>exact Kc h▸rfl
 | cons a r ih=>induction a using A.casesOn with
  | d x =>
   refine Zb (Z9 h) fun es h1 h2=>?_;rw [ih h1,←h2];rfl
  | own _=>exact Zo h
  | view _ _=>exact Zo h
theorem Zm9 {v sl:Expr}{a:A}{as:List A}{xs:List D}{lo hi:Option Int}(hl:ZaL o a as) (hd:Zhf as=some xs) (hsz:xs.length≤1000000) (q:Q ⟨l,o,.d (.list (cut xs lo hi))::k⟩)
 (hs:∀a b,∃ops,subscripted sl false a b=operate ops (getItem a b)):OJ2 c (subscriptTail v sl) ⟨l,o,.d (.slice lo hi none)::a::k⟩ Q:=ZmZ (Zkr hd▸hl) hsz q hs
end
end
section
theorem Zkg {α:Type}{c:Cx}{tgt:Expr}{ifs:List Expr}{elt:Expr}{ok:St→Prop}{n:Nat}{enc:α→A}{f:α→Option D}{own:List O}(hn:n<own.length) (xs:List α) (acc:List D) (l:List (Nat×A)) {Q:St→Prop}
 (hl:acc.length+xs.length≤1000000) (hok:∀l acc,ok ⟨l,own.set n (.list acc),[]⟩) (step:∀x acc l,x∈xs→AsJ c tgt ⟨l,own.set n (.list acc),[enc x]⟩ fun st1=>Za9 c ifs st1 fun b st2 =>
  (b=true→EJ c elt st2 fun st3=>∃y,f x=some y∧st3.stk=[.d y]∧st3.own=own.set n (.list acc))∧(b=false→f x=none∧st2.stk=[]∧st2.own=own.set n (.list acc)))
 (q:∀l,Q ⟨l,own.set n (.list ((acc++xs.filterMap f).map .d)),[]⟩):CompJ c tgt ifs elt ok n (xs.map enc) ⟨l,own.set n (.list (acc.map .d)),[]⟩ Q:=by
 induction xs generalizing acc l with
 | nil =>
  have:=q l;rw [List.filterMap_nil,List.append_nil] at this;exact ⟨hok _ _,this⟩
 | cons x xs ih =>
  have ih:=fun acc l h q=>ih acc l h (fun y a l hy=>step y a l (.tail _ hy)) q;refine ⟨hok _ _,fun F v vs s R=>wpm (step x _ l (.head _) F v vs s R) (fun j s1 z=>?_)⟩;clear step;refine ozg z fun st1 R1 h1=>?_;refine ⟨st1,R1,Uj h1 fun b st2 hb=>⟨fun e=>(hb.1 e).mono fun st3 z=>?_,fun e=>?_⟩⟩
  ·refine Zx z fun y hy hs ho=>?_;rw [List.length_cons] at hl;refine ⟨.d y,acc.map .d,hs,by rw [ho,List.getElem?_set_self hn],by rw [List.length_map];exact Kr (Ko _ _) hl,?_⟩;rw [ho,List.set_set]
   have:=ih (acc++[y]) st3.loc (by rw [List.length_append,Nat.add_assoc,Nat.add_comm [y].length];exact hl) fun l=>by
    have:=q l;rw [List.filterMap_cons,hy] at this;rw [List.append_assoc];exact this
   rw [List.map_append] at this;exact this
  ·refine Yq (hb.2 e) fun hy hs ho=>?_;obtain ⟨l2,o2,k2⟩:=st2;obtain rfl:k2=_:=hs;obtain rfl:o2=_:=ho;refine ih acc l2 (Nat.le_of_succ_le hl) fun l=>?_
   have:=q l;rw [List.filterMap_cons,hy] at this;exact this
section
variable {p:Program}{w:World}{g:Heap}{ρ:List Addr}{own:List O}
theorem ZcL {a:A}{v:Value}(h:AR p w g ρ a v):AFr own ρ.length a a:=by
 induction a using A.casesOn with
 | d x=>exact .d x
 | own i=>refine Zb h fun b e j=>?_;exact ⟨rfl,(ZI e).1⟩
 | view k i=>refine Zz h fun b j e j=>?_;exact ⟨rfl,(ZI e).1⟩
theorem Zdc:∀{as:List A}{vs:List Value},ARs p w g ρ as vs→ZgP own ρ.length as as
 | [],_,_=>trivial
 | a::as,_,⟨v,r,_,h1,h2⟩=>⟨ZcL h1,Zdc h2⟩
theorem Zfv:∀{as:List (Str×A)}{vs:List (Str×Value)},ARe p w g ρ as vs→ZhS own ρ.length as as
 | [],_,_=>trivial
 | a::as,_,⟨v,r,_,h1,h2⟩=>⟨rfl,ZcL h1,Zfv h2⟩
theorem Znx {h:Heap}{ob:O}{a:Addr}(H:OAt p w g ρ h ob a):OFr own ρ.length ob ob:=by
 induction ob using O.casesOn with
 | list xs=>refine Zb H fun us k r=>?_;exact Zdc r
 | dict es ep=>refine Zx H fun us k k r=>?_;exact ⟨rfl,Zfv r⟩
 | inst c j=>refine Zb H fun dx e k=>?_;exact ⟨rfl,rfl,(ZI e).1⟩
 | cell x=>induction x with
  | none=>trivial
  | some x=>obtain ⟨v,o,k,k,u,k,r⟩:=H;exact ZcL r
 | iter=>trivial
 | dead=>trivial
end
section
variable {c:Cx}{F:Fz}{st:St}{vs:List Value}{s:Shared}
theorem ZiD (R:RS c F st vs s) {tail:List O}{a:A}{d:D}(hf:Frz (st.own++tail) st.own.length a d):Cv st.own.length ⟨st.loc,st.own++tail,a::st.stk⟩ ⟨st.loc,st.own,.d d::st.stk⟩:=by
 refine ozr R fun g ρ m W=>?_;have hl:=W.len;refine ⟨rfl,by simp,fun i o' h=>⟨o',?_,?_⟩,fun x a' h=>⟨a',h,?_⟩,hf,?_⟩
 ·have hi:=(List.getElem?_eq_some_iff.mp h).1;rw [Kl hi];exact h
 ·have hi:=(List.getElem?_eq_some_iff.mp h).1;have hi':i<st.own.length:=hi
  have:=Znx (own:=st.own++tail) (W.own i o' ρ[i] h (Ke (by lia)))
  rwa [hl] at this
 ·refine Zc (W.loc x a' h) fun j v j j r=>?_
  have:=ZcL (own:=st.own++tail) r
  rwa [hl] at this
 ·have:=Zdc (own:=st.own++tail) W.stk
  rwa [hl] at this
theorem Ze6 {e:Expr}{Q:St→Prop}(h:EJ c e st fun st1=>∃tail a d,st1=⟨st.loc,st.own++tail,a::st.stk⟩∧Frz (st.own++tail) st.own.length a d∧Q ⟨st.loc,st.own,.d d::st.stk⟩):EJ c e st Q:=fun F vs s R =>
 wpm (h F vs s R) (fun j j zq2=>by
  refine Ka fun zn3=>?_;obtain ⟨st1,R1,tail,a,d,e1,hf,q⟩:=zq2;refine zn3 ?_;subst e1;exact ⟨_,R1.conv (ZiD R hf) R.bounds.1 R.bounds.2,q⟩)
theorem Zfz {g:Heap}{ρ:List Addr}{m:Str→Option Value}(W:RSW c F st vs s g ρ m) {a:A}{xs:List A}(h:ZaL st.own a xs) {v:Value}(hv:AR c.p c.w g ρ a v):∃ad us o n,v = .ref ad∧s.heap.get? ad=some o∧o.cls = .type "list"∧o.data = .seq us.toArray n∧ARs c.p c.w g ρ xs us:=by
 refine Ka fun zn8=>?_;refine Zc (W.lst h hv) fun ad us e zo2 hr=>?_;refine Y4 zo2 fun o h1 h2 n h3=>?_;refine zn8 ?_;exact ⟨ad,us,o,n,e,h1,h2,h3,hr⟩
theorem Zns {l:List (Nat×A)}{o:List O}{k:List A}{Q:St→Prop}{a b:A}{xs ys:List A}(hl:ZaL o a xs) (hr:ZaL o b ys) (hsz:xs.length+ys.length≤1000000) (q:Q ⟨l,o++[.list (xs++ys)],.own o.length::k⟩):OJ2 c (binaryOp .Add) ⟨l,o,b::a::k⟩ Q:=fun F u1 u2 vs s zq3=>by
 refine Ka fun zn9=>?_;obtain ⟨g,ρ,m,W⟩:=zq3;obtain ⟨la,us,⟨ca,da,ta,sa⟩,n1,e1,q1,q2,q3,hv⟩:=Zfz W hl (Zd (Za W.stk));obtain ⟨lb,ws,⟨cb,db,tb,sb'⟩,n2,e2,r1,r2,r3,hw⟩:=Zfz W hr (Zd W.stk);refine zn9 ?_;subst e1 e2;dsimp only at q2 q3 r2 r3;subst q2 q3 r2 r3;refine concat_meets ⟨_,q1,rfl⟩ ⟨_,r1,rfl⟩ noFill_list_add seq_list_add PySem.F.slot_list_add PySem.F.entry_list_add (PySem.F.args_list_add_2 _ _) (list_addW la lb us.toArray ws.toArray n1 n2 da db sa sb' (by rw [sizeLine_eq];simp [Z6 hv,Z6 hw];lia)) ⟨q1,r1,?_⟩;have ex:Ext ρ (ρ++[s.heap.objs.size]):=fun i b e=>by
  obtain ⟨l,j⟩:=ZI e;rw [Kl l];exact e
 have W':=W.allocO {cls:=.type "list",data:=.seq (us.toArray++ws.toArray)} s.toks (o':=.list (xs++ys)) ⟨us++ws,⟨0,by rw [←List.append_toArray];exact Kh _ rfl⟩,YB (ARs.sub _ _ (Sub.refl _) ex _ _ hv) (ARs.sub _ _ (Sub.refl _) ex _ _ hw)⟩;exact ⟨_,⟨g,_,m,W'.stack (Zg (a:=.own o.length) (⟨_,by rw [←W.len];simp,rfl⟩) (ARs.sub _ _ (Sub.refl _) ex _ _ (Za (Za W.stk))))⟩,q⟩
end
end
section
noncomputable def ZbM (sc:Scope) (x:Str) (i:Nat):Bool:=sc.names.lookup x==some .local&&(Zf sc)[i]?==some x&&!(x==("__debug__":Str))
noncomputable def ZdT (sc:Scope) (x:Str):Bool:=sc.names.lookup x==some .globalImplicit&&!(x==("__debug__":Str))
noncomputable def Zao (sc:Scope) (x:Str):Bool:=sc.names.lookup x==some .cell&&!(x==("__debug__":Str))&&!(x==("__classdict__":Str))
noncomputable def Zho (sc:Scope) (x:Str):Bool:=sc.names.lookup x==some .free&&!(x==("__debug__":Str))&&!(x==("__classdict__":Str))
section
variable {c c':Cx}{f:Addr}{sc:Scope}{qual:Str}{cd:Value}{x:Str}{i:Nat}{v:Value}{cel:List (Str×Nat)}
theorem isL (he:c.env=ZX f sc qual cd c.env.locals) (ht:c.tab=Zf sc) (h:ZbM sc x i=true):IsL c x i:=by
 unfold ZbM at h;simp only [Bool.and_eq_true,beq_iff_eq,Bool.not_eq_true'] at h;refine ⟨?_,by rw [ht];exact h.1.2,h.2⟩;rw [he];exact h.1.1
noncomputable def Zdn (env:Env) (p:Str×NameKind):Str×NameKind:=if (p.2==NameKind.free&&env.scope.kind == .function&&env.kindOf p.1==some .cell) then (p.1,NameKind.cell) else (p.1,p.2)
theorem ZjX {env:Env}{q:Str×NameKind}:(Zdn env q).1=q.1:=by unfold Zdn;split <;> rfl
theorem Zbu {env:Env}{names:List (Str×NameKind)}{k:NameKind}(h:names.lookup x=some k):∃q:Str×NameKind,q.2=k∧(names.map (Zdn env)).lookup x=some (Zdn env q).2:=by
 induction names with
 | nil=>exact Zo h
 | cons q r ih =>
  rw [List.map_cons,List.lookup_cons,ZjX];rw [List.lookup_cons] at h;cases hb:x==q.1 with
  | true=>rw [hb] at h;exact ⟨q,Kc h,rfl⟩
  | false=>rw [hb] at h;exact ih h
theorem Ut {env:Env}{k:NameKind}(hk:k≠.free) {names:List (Str×NameKind)}(h:names.lookup x=some k):(names.map (Zdn env)).lookup x=some k:=by
 refine Zb (Zbu (env:=env) h) fun q e h1=>?_;rw [h1];unfold Zdn;rw [e,Zbn hk];exact congrArg (fun q:Str×NameKind=>some q.2) (if_neg fun h:(false&&_&&_)=true=>YU h)
theorem Zia {env:Env}{names:List (Str×NameKind)}(h:names.lookup x=some .free):(names.map (Zdn env)).lookup x=some .cell∨(names.map (Zdn env)).lookup x=some .free:=by
 refine Zb (Zbu (env:=env) h) fun q e h1=>?_;rw [h1];unfold Zdn;split
 ·exact .inl rfl
 ·exact .inr (congrArg some e)
theorem ZjH (H:CompFr c c' sc cel) (h:ZbM sc x i=true):IsL c' x i:=by
 unfold ZbM at h;simp only [Bool.and_eq_true,beq_iff_eq,Bool.not_eq_true'] at h;refine ⟨?_,by rw [H.tab];exact h.1.2,h.2⟩;rw [H.kd];exact Ut (by simp) h.1.1
theorem Zq3 (H:CompFr c c' sc cel) (h:ZdT sc x=true) (hv:Xe c.G x v∨Y5 c.G x v):IsG c' x v:=by
 unfold ZdT at h;simp only [Bool.and_eq_true,beq_iff_eq,Bool.not_eq_true'] at h;refine ⟨?_,h.2,by rw [H.G];exact hv⟩;rw [H.kd];exact Ut (by simp) h.1
theorem Zrr (H:CompFr c c' sc cel) (hc:(x,i)∈cel) (h:Zho sc x=true):IsC c' x i:=by
 unfold Zho at h;simp only [Bool.and_eq_true,beq_iff_eq,Bool.not_eq_true'] at h;refine ⟨?_,by rw [H.cel];exact hc,h.1.2,h.2⟩;rw [H.kd];exact Zia h.1.1
theorem ZrL (H:CompFr c c' sc cel) (hc:(x,i)∈cel) (h:Zao sc x=true):IsC c' x i:=by
 unfold Zao at h;simp only [Bool.and_eq_true,beq_iff_eq,Bool.not_eq_true'] at h;refine ⟨.inl ?_,by rw [H.cel];exact hc,h.1.2,h.2⟩;rw [H.kd];exact Ut (by simp) h.1.1
theorem ZiG (H:CompFr c c' sc cel) (h:Zao sc x=true):c'.env.kindOf x=some .cell:=by
 unfold Zao at h;simp only [Bool.and_eq_true,beq_iff_eq,Bool.not_eq_true'] at h;rw [H.kd];exact Ut (by simp) h.1.1
end
theorem Zk8 {c:Cx}{l:List (Nat×A)}{o:List O}{k:List A}{Q:St→Prop}{x y:Str}{t:Tok}{pos:Pos}(hg:IsG c x (.str y t)) (h:Q ⟨l,o,.d (.str y)::k⟩):EJ c (.Name x pos) ⟨l,o,k⟩ Q:=fun F vs s R =>
 wpm (Z2 (Q:=fun st=>st=⟨l,o,.d (.val (.str y t))::k⟩) hg rfl F vs s R) (fun v s' zq0=>by
  obtain ⟨st,⟨g,ρ,m,W⟩,e⟩:=zq0;subst e;have h1:v = .str y t:=Zd W.stk;subst h1;exact ⟨_,⟨g,ρ,m,W.stack (Zg X9 (Za W.stk))⟩,h⟩)
theorem ZbX (c:Cx):interactive c.env=false:=by unfold interactive;rw [c.hk];rfl
theorem ZgM {sl:Expr}(h:(sl.ctorIdx==26)=false):∀a b,subscripted sl false a b=operate [a,b] (getItem a b):=by
 intro a b;induction sl using Expr.casesOn <;> first | rfl | exact Ze2 h
theorem Zs {sc:Scope}{names:List Str}{args:List A}{loc':List (Nat×A)}(ids:List Nat) (hc:(ids.length==names.length&&(ids.zip names).all fun q=>(Zf sc)[q.1]?==some q.2&&sc.names.lookup q.2==some .local)=true)
 (e:loc'=ids.zip (args++List.replicate (names.length - args.length) (.d .none)):=by rfl):∀q∈loc',∃x,(Zf sc)[q.1]?=some x∧sc.names.lookup x=some .local∧(x,q.2)∈XM names args:=by
 subst e;unfold XM;generalize args++List.replicate (names.length - args.length) (A.d .none)=vals;simp only [Bool.and_eq_true,beq_iff_eq,List.all_eq_true] at hc;obtain ⟨hl,hc⟩:=hc;intro q hq;obtain ⟨i,hi,rfl⟩:=List.getElem_of_mem hq;rw [List.length_zip] at hi;have h1:i<names.length:=by lia
 have h2:=hc (ids[i],names[i]) (by
  have h3:i<(ids.zip names).length:=by rw [List.length_zip];lia
  rw [←List.getElem_zip (h:=h3)];exact List.getElem_mem h3)
 rw [List.getElem_zip];refine ⟨names[i],h2.1,h2.2,?_⟩;have h3:i<(names.zip vals).length:=by rw [List.length_zip];lia
 rw [←List.getElem_zip (h:=h3)];exact List.getElem_mem h3
theorem ln0 {P:List Value→Prop}(h:P []):∀us,us.length=0→P us:=fun us hu=>by
 induction us using LLc with
 | nil=>exact h
 | cons a us=>cases hu
theorem lnS {P:List Value→Prop}{n:Nat}(h:∀a us,us.length=n→P (a::us)):∀us,us.length=n+1→P us:=fun us hu=>by
 induction us using LLc with
 | nil=>cases hu
 | cons a us=>exact h a us (Nat.succ.inj hu)
theorem ln1 {P:List Value→Prop}(h:∀a0,P [a0]):∀us,us.length=1→P us:=lnS fun a=>ln0 (h a)
theorem ln2 {P:List Value→Prop}(h:∀a0 a1,P [a0,a1]):∀us,us.length=2→P us:=lnS fun a=>ln1 fun a1=>h a a1
theorem ln3 {P:List Value→Prop}(h:∀a0 a1 a2,P [a0,a1,a2]):∀us,us.length=3→P us:=lnS fun a=>ln2 fun a1 a2=>h a a1 a2
theorem ln4 {P:List Value→Prop}(h:∀a0 a1 a2 a3,P [a0,a1,a2,a3]):∀us,us.length=4→P us:=lnS fun a=>ln3 fun a1 a2 a3=>h a a1 a2 a3
theorem ln5 {P:List Value→Prop}(h:∀a0 a1 a2 a3 a4,P [a0,a1,a2,a3,a4]):∀us,us.length=5→P us:=lnS fun a=>ln4 fun a1 a2 a3 a4=>h a a1 a2 a3 a4
theorem ln6 {P:List Value→Prop}(h:∀a0 a1 a2 a3 a4 a5,P [a0,a1,a2,a3,a4,a5]):∀us,us.length=6→P us:=lnS fun a=>ln5 fun a1 a2 a3 a4 a5=>h a a1 a2 a3 a4 a5
theorem ln7 {P:List Value→Prop}(h:∀a0 a1 a2 a3 a4 a5 a6,P [a0,a1,a2,a3,a4,a5,a6]):∀us,us.length=7→P us:=lnS fun a=>ln6 fun a1 a2 a3 a4 a5 a6=>h a a1 a2 a3 a4 a5 a6
theorem ln8 {P:List Value→Prop}(h:∀a0 a1 a2 a3 a4 a5 a6 a7,P [a0,a1,a2,a3,a4,a5,a6,a7]):∀us,us.length=8→P us:=lnS fun a=>ln7 fun a1 a2 a3 a4 a5 a6 a7=>h a a1 a2 a3 a4 a5 a6 a7
noncomputable def ZmW:FuncBody→Bool
 | .stmts _=>true
 | _=>false
theorem Zjs {b:FuncBody}(h:ZmW b=true):b = .stmts (stm b):=by induction b <;> first | rfl | exact YU h
noncomputable def ZmY (K:W.Frag) (f:Addr) (names:List Str) (n:Nat):Bool:=Zal K f&&ZmW (Zk K f).body&&W.codeIn K (Zk K f).code (Zk K f).qualname&&(Zk K f).scope.kind == .function&&!(Zk K f).scope.isCoroutine&&!(Zk K f).scope.isGenerator &&
 Un (Zk K f).scope names&&(Zk K f).globals==mainGlobals&&(Zk K f).builtins==builtinsNs&&(Zk K f).closure.isEmpty&&decide (n≤names.length)
noncomputable abbrev Zmb (K:W.Frag) (G:Gx) (f n:Nat) (names:List Str):Prop:=DefAt G f (Zk K f).scope ((Zk K f).qualname++".<locals>.") (Zk K f).code (stm (Zk K f).body) n names
theorem Z3 {K:Params→W.Frag}{G:Gx}{w:World}(I:IsK K G w) {f:Addr}{n:Nat}{names:List Str}(h:ZmY (K w.params) f names n=true)
 (hbind:∀us:List Value,us.length=n→∀S,W.peek (K w.params) S (bindArgs (Zk (K w.params) f) ⟨us,[]⟩)=some (names.zip (us++List.replicate (names.length - n) Value.none))):Zmb (K w.params) G f n names:=by
 unfold ZmY at h;simp only [Bool.and_eq_true,Bool.not_eq_true',beq_iff_eq,decide_eq_true_eq,List.isEmpty_iff] at h;refine Ka fun zn3=>?_;obtain ⟨⟨⟨⟨⟨⟨⟨⟨⟨⟨h1,h2⟩,h3⟩,h4⟩,h5⟩,h6⟩,h7⟩,h8⟩,h9⟩,h10⟩,h11⟩:=h;refine zn3 ?_;exact Zry I h1 (Zjs h2) h3 h4 h5 h6 h7 h8 h9 h10 h11 hbind
noncomputable abbrev Zpx (K:W.Frag) (f:Addr) (c:Cx):Prop:=c.env=ZX f (Zk K f).scope ((Zk K f).qualname++".<locals>.") (Zk K f).code c.env.locals
noncomputable abbrev ZnY (K:W.Frag) (f:Addr) (c:Cx):Prop:=c.tab=Zf (Zk K f).scope
noncomputable abbrev Zfr (K:W.Frag) (f:Addr):List Stmt:=stm (Zk K f).body
theorem Zl8 {x y:Int}(h1 : -(2 ^ 64)<y) (h2:y<2 ^ 64):IntMulOk x y:=IntMulOk.of_right (intBits_le_64 h1 h2)
theorem ZiE {α β:Type}(P:β→Prop) (f:β→α→β) (xs:List α) (b:β) (h:P b) (hs:∀b x,x∈xs→P b→P (f b x)):P (xs.foldl f b):=by
 induction xs generalizing b with
 | nil=>exact h
 | cons x xs ih=>exact ih (f b x) (hs b x (.head _) h) fun b y hy=>hs b y (.tail _ hy)
theorem WH (d n m:Nat):Ye d (some (n:Int)) m=min n m:=by
 unfold Ye;simp only [show ¬((n:Int)<0) from by lia,if_false];omega
theorem ZbE {α:Type}(l:List α) (n:Nat):cut l none (some (n:Int))=l.take n:=by
 unfold cut;rw [WH];show (l.drop 0).take (min n l.length - 0)=_;rw [List.drop_zero,Nat.sub_zero];refine Or.elim (Nat.le_total n l.length) (fun h=>?_) fun h=>?_
 ·rw [Nat.min_eq_left h]
 ·rw [Nat.min_eq_right h,List.take_length,List.take_of_length_le h]
theorem Zee {α:Type}(l:List α) (n:Nat):cut l (some (n:Int)) none=l.drop n:=by
 unfold cut;rw [WH];show (l.drop (min n l.length)).take (l.length - min n l.length)=_;rcases Nat.le_total n l.length with h | h
 ·rw [Nat.min_eq_left h,List.take_of_length_le (by simp)]
 ·rw [Nat.min_eq_right h,Nat.sub_self,List.take_zero,List.drop_of_length_le h]
theorem Zmm {α:Type}(l:List α) (a b:Nat):cut l (some (a:Int)) (some (b:Int))=(l.drop a).take (b - a):=by
 unfold cut;rw [WH,WH];refine Or.elim (Nat.le_total a l.length) (fun h=>?_) fun h=>?_
 ·rw [Nat.min_eq_left h];refine Or.elim (Nat.le_total b l.length) (fun h2=>?_) fun h2=>?_
  ·rw [Nat.min_eq_left h2]
  ·rw [Nat.min_eq_right h2,List.take_of_length_le (by simp),List.take_of_length_le (by simp;lia)]
 ·rw [Nat.min_eq_right h,List.drop_of_length_le h,List.drop_of_length_le (Kq _)];simp
theorem ZjJ (ds:List D):Zhf (ds.map .d)=some ds:=by
 induction ds with
 | nil=>rfl
 | cons x ds ih=>exact congrArg (Option.map (x::·)) ih
theorem ZH {L:List (Nat×A)}{ow:List O}{k:List A}{st:St}(h:Le L st.loc) (h1:st.own=ow) (h2:st.stk=k):At L ow k st:=⟨h,h1,h2⟩
theorem ZeR {lo hi stp:Option Expr}{p:Pos}:∀a b:Value,∃ops,subscripted (.Slice lo hi stp p) false a b=operate ops (getItem a b):=Zgx (v:=.Constant .none 0 ⟨0,0,0,0⟩)
end
section
structure Fr36 (c:Cx):Prop where
 t:True
 l0:IsL c "self" 0
 l1:IsL c "keyid" 1
 l2:IsL c "keytype" 2
 l3:IsL c "scheme" 3
 l4:IsL c "keyval" 4
 l5:IsL c "unrecognized_fields" 5
structure Fr50 (c:Cx):Prop where
 t:True
 l0:IsL c "cls" 0
 l1:IsL c "keyid" 1
 l2:IsL c "key_dict" 2
 l3:IsL c "keytype" 3
 l4:IsL c "scheme" 4
 l5:IsL c "keyval" 5
structure Fr60 (c:Cx):Prop where
 t:True
 l0:IsL c "self" 0
 l1:IsL c "res" 1
structure Fr82 (c:Cx):Prop where
 t:True
 l0:IsL c "inner" 0
 l1:IsL c "chunks" 1
 l2:IsL c "begin" 2
 l3:IsL c "at" 3
 l4:IsL c "kept" 4
 l5:IsL c "chunk" 5
 g0:IsG c "len" (.builtin "len")
structure Fr87 (c:Cx):Prop where
 t:True
 l0:IsL c "sign" 0
 l1:IsL c "inner" 1
 l2:IsL c "members" 2
 l3:IsL c "chunk" 3
 l4:IsL c "negated" 4
 l5:IsL c "found" 5
 l6:IsL c "at" 6
 l7:IsL c "low" 7
 g0:IsG c "_fnmatch_chunks" (.ref 82)
 g1:IsG c "len" (.builtin "len")
structure Fr94 (c:Cx):Prop where
 t:True
 l0:IsL c "name" 0
 l1:IsL c "pattern" 1
 l2:IsL c "places" 2
 l3:IsL c "at" 3
 l4:IsL c "sign" 4
 l5:IsL c "behind" 5
 l6:IsL c "close" 6
 l7:IsL c "met" 7
 l8:IsL c "place" 8
 l9:IsL c "fits" 9
 g0:IsG c "len" (.builtin "len")
 g1:IsG c "list" (.type "list")
 g2:IsG c "range" (.type "range")
 g3:IsG c "_fnmatch_class" (.ref 87)
structure Fr109 (c:Cx):Prop where
 t:True
 l0:IsL c "self" 0
 l1:IsL c "keyids" 1
 l2:IsL c "threshold" 2
 l3:IsL c "unrecognized_fields" 3
 g0:IsG c "len" (.builtin "len")
 g1:IsG c "set" (.type "set")
 g2:IsG c "ValueError" (.type "ValueError")
structure Fr133 (c:Cx):Prop where
 t:True
 l0:IsL c "self" 0
 l1:IsL c "res_dict" 1
structure Fr171 (c:Cx):Prop where
 t:True
 l0:IsL c "cls" 0
 l1:IsL c "role_dict" 1
 l2:IsL c "name" 2
 l3:IsL c "keyids" 3
 l4:IsL c "threshold" 4
 l5:IsL c "terminating" 5
 l6:IsL c "paths" 6
 l7:IsL c "path_hash_prefixes" 7
structure Fr181 (c:Cx):Prop where
 t:True
 l0:IsL c "self" 0
 l1:IsL c "base_role_dict" 1
 l2:IsL c "res_dict" 2
 g0:IsG c "Role" (.ref 136)
structure Fr188 (c:Cx):Prop where
 t:True
 l0:IsL c "targetpath" 0
 l1:IsL c "pathpattern" 1
 l2:IsL c "target_parts" 2
 l3:IsL c "pattern_parts" 3
 l4:IsL c "target" 4
 l5:IsL c "pattern" 5
 g0:IsG c "len" (.builtin "len")
 g1:IsG c "zip" (.type "zip")
 g2:IsG c "_fnmatchcase" (.ref 94)
structure Fr198 (c:Cx):Prop where
 t:True
 l0:IsL c "self" 0
 l1:IsL c "target_filepath" 1
 l2:IsL c "digest" 2
 l3:IsL c "target_filepath_hash" 3
 l4:IsL c "path_hash_prefix" 4
 l5:IsL c "pathpattern" 5
structure Fr292 (c:Cx):Prop where
 t:True
 l0:IsL c "self" 0
 l1:IsL c "keys" 1
 l2:IsL c "roles" 2
 l3:IsL c "succinct_roles" 3
 l4:IsL c "unrecognized_fields" 4
 l5:IsL c "role" 5
 g0:IsG c "sum" (.builtin "sum")
 g1:IsG c "ValueError" (.type "ValueError")
 g2:IsG c "TOP_LEVEL_ROLE_NAMES" (.ref 75)
structure Fr306 (c:Cx):Prop where
 t:True
 l0:IsL c "cls" 0
 l1:IsL c "delegations_dict" 1
 l2:IsL c "keys" 2
 l3:IsL c "keys_res" 3
 l4:IsL c "keyid" 4
 l5:IsL c "key_dict" 5
 l6:IsL c "roles" 6
 l7:IsL c "roles_res" 7
 l8:IsL c "role_dict" 8
 l9:IsL c "new_role" 9
 l10:IsL c "succinct_roles_dict" 10
 l11:IsL c "succinct_roles_info" 11
 g0:IsG c "Key" (.ref 70)
 g1:IsG c "DelegatedRole" (.ref 201)
 g2:IsG c "ValueError" (.type "ValueError")
 g3:IsG c "SuccinctRoles" (.ref 275)
structure Fr314 (c:Cx):Prop where
 t:True
 l0:IsL c "self" 0
 l1:IsL c "keys" 1
 l2:IsL c "res_dict" 2
 l3:IsL c "roles" 3
structure Fr335 (c:Cx):Prop where
 t:True
structure Fr342 (c:Cx):Prop where
 t:True
structure Fr349 (c:Cx):Prop where
 t:True
structure Fr356 (c:Cx):Prop where
 t:True
 l0:IsL c "data" 0
 l1:IsL c "algo" 1
 l2:IsL c "number" 2
 l3:IsL c "octet" 3
 g0:IsG c "ValueError" (.type "ValueError")
 g1:IsG c "_law_hex" (.str "0123456789abcdef" 717)
structure Fr361 (c:Cx):Prop where
 t:True
 l0:IsL c "drawn" 0
 l1:IsL c "parts" 1
 l2:IsL c "rest" 2
 l3:IsL c "k" 3
 l4:IsL c "part" 4
 l5:IsL c "j" 5
 l6:IsL c "sign" 6
 l7:IsL c "stars" 7
 l8:IsL c "classes" 8
 g0:IsG c "range" (.type "range")
 g1:IsG c "_law_signs" (.ref 335)
 g2:IsG c "len" (.builtin "len")
 g3:IsG c "_law_classes" (.ref 342)
structure Fr366 (c:Cx):Prop where
 t:True
 l0:IsL c "pattern" 0
structure Fr373 (c:Cx):Prop where
 t:True
 l0:IsL c "part" 0
 l1:IsL c "drawn" 1
 l2:IsL c "text" 2
 l3:IsL c "sign" 3
 l4:IsL c "k" 4
 g0:IsG c "_law_classes" (.ref 342)
 g1:IsG c "_law_other_case" (.ref 349)
structure Fr380 (c:Cx):Prop where
 t:True
 l0:IsL c "pattern" 0
 l1:IsL c "drawn" 1
 l2:IsL c "parts" 2
 l3:IsL c "part" 3
 g0:IsG c "_law_filled" (.ref 373)
 g1:IsG c "len" (.builtin "len")
structure Fr387 (c:Cx):Prop where
 t:True
 l0:IsL c "sign" 0
 l1:IsL c "found" 1
 g0:IsG c "_law_classes" (.ref 342)
structure Fr392 (c:Cx):Prop where
 t:True
 c0:IsC c "part" 0
 k0:c.env.kindOf "part"=some .cell
 c1:IsC c "text" 1
 k1:c.env.kindOf "text"=some .cell
 g0:IsG c "range" (.type "range")
 g1:IsG c "len" (.builtin "len")
 g2:IsG c "_law_one" (.ref 387)
 g3:IsG c "_law_meets" (.ref 392)
structure Fr397 (c:Cx):Prop where
 t:True
 l0:IsL c "path" 0
 c0:IsC c "pattern" 0
 k0:c.env.kindOf "pattern"=some .cell
 c1:IsC c "parts" 1
 k1:c.env.kindOf "parts"=some .cell
 g0:IsG c "len" (.builtin "len")
 g1:IsG c "range" (.type "range")
structure Fr402 (c:Cx):Prop where
 t:True
 l0:IsL c "numbers" 0
 l1:IsL c "first" 1
 l2:IsL c "drawn" 2
 l3:IsL c "paths" 3
 l4:IsL c "choice" 4
 l5:IsL c "trusted" 5
 l6:IsL c "name" 6
 l7:IsL c "ending" 7
 l8:IsL c "rest" 8
 l9:IsL c "delegations" 9
 l10:IsL c "again" 10
 l11:IsL c "fitting" 11
 l12:IsL c "told" 12
 l13:IsL c "pairs" 13
 c0:IsC c "script" 0
 k0:c.env.kindOf "script"=some .cell
 c1:IsC c "k" 1
 k1:c.env.kindOf "k"=some .cell
 c2:IsC c "patterns" 2
 k2:c.env.kindOf "patterns"=some .cell
 c3:IsC c "roles" 3
 k3:c.env.kindOf "roles"=some .cell
 c4:IsC c "texts" 4
 k4:c.env.kindOf "texts"=some .cell
 c5:IsC c "path" 5
 k5:c.env.kindOf "path"=some .cell
 g0:IsG c "range" (.type "range")
 g1:IsG c "_law_path" (.ref 380)
 g2:IsG c "len" (.builtin "len")
 g3:IsG c "enumerate" (.type "enumerate")
 g4:IsG c "_law_digest" (.ref 356)
 g5:IsG c "_law_hex" (.str "0123456789abcdef" 717)
 g6:IsG c "DelegatedRole" (.ref 201)
 g7:IsG c "Delegations" (.ref 324)
 g8:IsG c "Key" (.ref 70)
end
section
section
variable {c:Cx}{F:Fz}{st:St}{vs:List Value}{s:Shared}{g:Heap}{ρ:List Addr}{m:Str→Option Value}{l:List (Nat×A)}{o:List O}{k:List A}{Q:St→Prop}{QB:Bool→St→Prop}{QF:Fl→St→Prop}{QM:Nat→St→Prop}
theorem RSW.big (W:RSW c F st vs s g ρ m):s.heap.objs.size≠sysModules:=by
 refine oze (c.G.lib.low _ W.base) fun o e=>?_;have h2:(3:Nat)<s.heap.objs.size:=(Kk (W.keep _ _ e));exact fun e=>by rw [e] at h2;exact absurd h2 (by decide)
theorem Xi {p:Program}{w:World}{h:Heap}{a:Addr}(e:h.get? a=some {cls:=.type "dict",data:=.dict #[]}):h.DictAt (strKind p w) a [] 0 :=
 ⟨_,#[],e,⟨rfl,rfl,rfl⟩,rfl,fun e he=>absurd he (by simp),by constructor,List.nodup_nil⟩
noncomputable def ZaE:List Str→List (Value×Value)→Prop
 | [],[]=>True
 | x::xs,p::ps=>(∃t,p.1 = .str x t)∧ZaE xs ps
 | _,_=>False
def DJ (c:Cx) (ks:List (Option Expr)) (es:List Expr) (st:St) (Q:List Str→St→Prop):Prop :=
 ∀F vs s pos,RS c F st vs s→wpAny (model c.p c.w) c.A (evalPairs (pairTrees ks es c.env pos)) (fun ps s'=>∃xs st',ZaE xs ps∧RS c F st' ((ps.map (·.2)).reverse++vs) s'∧Q xs st') NoE s
theorem ZnS {Q:List Str→St→Prop}(h:Q [] st):DJ c [] [] st Q:=fun j j j j R=>pairTrees_nil_walk ⟨[],st,trivial,R,h⟩
theorem Zmf {Q:List Str→St→Prop}{x:Str}{n:Nat}{p:Pos}{ks:List (Option Expr)}{e:Expr}{es:List Expr}(h:EJ c e st fun st1=>DJ c ks es st1 fun xs st2=>Q (x::xs) st2):DJ c (some (.Constant (.str x) n p)::ks) (e::es) st Q:=fun F vs s pos R =>
 pairTrees_cons_walk (wpAny_Constant_str (wpm (h F vs _ (R.same _)) (fun v s1 zq0=>by obtain ⟨st1,R1,h1⟩:=zq0;exact Kb (h1 F (v::vs) s1 pos R1) (fun ps s2 zq1=>by refine Zc zq1 fun xs st2 hk R2 h2=>?_;exact ⟨x::xs,st2,⟨⟨_,rfl⟩,hk⟩,by simpa using R2,h2⟩) fun j j x=>x)))
theorem ZdN {xs:List Str}:∀{ps:List (Value×Value)},ZaE xs ps→ps.length=xs.length:=by
 induction xs with
 | nil=>intro ps h;induction ps using LLc with
  | nil=>rfl
  | cons _ _=>exact False.elim h
 | cons x xs ih=>intro ps h;induction ps using LLc with
  | nil=>exact False.elim h
  | cons p ps=>exact congrArg Nat.succ (ih h.2)
theorem Zan {p:Program}{w:World}{xs:List Str}:∀{ps:List (Value×Value)},ZaE xs ps→Carries (strKind p w) ps (xs.zip (ps.map (·.2))):=by
 induction xs with
 | nil=>intro ps h;induction ps using LLc with
  | nil=>trivial
  | cons _ _=>exact False.elim h
 | cons x xs ih=>intro ps h;induction ps using LLc with
  | nil=>exact False.elim h
  | cons q ps =>
   obtain ⟨kv,v⟩:=q;obtain ⟨⟨t,e⟩,h⟩:=h;exact ⟨by subst e;exact strKind_is _ _ x t,rfl,ih h⟩
theorem ZlH {p:Program}{w:World}{xs:List Str}{as:List A}{us:List Value}(h:ARs p w g ρ as us) (hl:as.length=xs.length):ARe p w g ρ (xs.zip as) (xs.zip us):=by
 replace h:=Xo.mp h;induction h generalizing xs with
 | nil=>induction xs using LLc with
  | nil=>rfl
  | cons _ _=>cases hl
 | cons h _ ih=>induction xs using LLc with
  | nil=>cases hl
  | cons x xs=>exact ⟨_,_,rfl,h,ih (Nat.succ.inj hl)⟩
theorem ZkS {α β:Type}{xs:List α}{ys:List β}(h:xs.length=ys.length):(xs.zip ys).map (·.1)=xs:=by
 induction xs generalizing ys with
 | nil=>rfl
 | cons x xs ih=>induction ys using LLc with
  | nil=>cases h
  | cons y ys=>exact congrArg (x::·) (ih (Nat.succ.inj h))
noncomputable def Zbk (ks:List (Option Expr)) (es:List Expr):Bool:=ks.all (·.isSome)&&ks.length==es.length&&!ks.isEmpty&&decide (ks.length≤15)
theorem ZkM {ks:List (Option Expr)}{es:List Expr}{pos:Pos}(h:DJ c ks es ⟨l,o++[.dict [] 0],k⟩ fun xs st1=>st1.own[o.length]?=some (.dict [] 0)∧xs.Nodup∧∃as r,Zhr xs.length st1.stk=some (as,r)∧∀ep,Q ⟨st1.loc,st1.own.set o.length (.dict (xs.zip as) ep),.own o.length::r⟩)
 (hok:Zbk ks es=true):EJ c (.Dict ks es pos) ⟨l,o,k⟩ Q:=fun F vs s zq2=>by
 refine ozr zq2 fun g ρ m W=>?_;unfold Zbk at hok;simp only [Bool.and_eq_true,beq_iff_eq,Bool.not_eq_true',decide_eq_true_eq] at hok;obtain ⟨⟨⟨h1,h2⟩,h3⟩,h4⟩:=hok;have W1:=(W.allocO {cls:=.type "dict",data:=.dict #[]} s.toks (o':=.dict [] 0) ⟨[],W.big,Xi (Kh _ rfl),rfl⟩).pinned (pn:=[(o.length,s.heap.objs.size)]) fun q hq=>by
  rw [List.mem_singleton] at hq;subst hq;rw [show o.length=ρ.length from W.len.symm];simp
 refine wpAny_Dict_walk (knd:=strKind c.p c.w) h1 h2 (by rintro rfl;simp at h3) h4 (wpm (h _ vs _ pos ⟨g,_,m,W1⟩) (fun ps s1 zq3=>?_));refine Ka fun zn4=>?_;obtain ⟨xs,st1,hk,⟨g1,ρ1,m1,W2⟩,hown,hnd,as,r,hp,q⟩:=zq3;have ea:=W2.pin _ (Kg _ (.head _));refine Zx (W2.own _ _ _ hown ea) fun kv0 n0 d0 r0=>?_;refine zn4 ?_;subst r0;obtain ⟨e,hx⟩:=Zfm hp;have hq:=W2.stk;rw [e] at hq;have hl:=ZdN hk;obtain ⟨q1,q2⟩:=Zy hq (by simp [hl,hx]);refine ⟨_,Zan hk,d0.dictOf,fun h' hd hs=>?_⟩;have hz:(xs.zip (ps.map (·.2))).map (·.1)=xs:=ZkS (by simp [hl]);rw [merged_nil_of_nodup _ (by rw [hz];exact hnd)] at hd;obtain ⟨ep,hd⟩:=hd.dictAt;refine ⟨_,⟨g1,ρ1,m1,(((W2.stack q2).setOwn (t:=s1.toks+ps.length) (List.getElem?_eq_some_iff.mp hown).1 ea (fun b ob hb eb=>(hs.2 b hb).trans eb) (o':=.dict (xs.zip as) ep) ⟨_,n0,hd,ZlH q1 hx⟩).unpin).push (a:=.own o.length) ⟨_,ea,rfl⟩⟩,q ep⟩
end
end
section
noncomputable def cp (x:Str):List Nat:=x.cps.toList
theorem Za7 {x y:Str}(h:cp x=cp y):x=y:=by
 induction x;induction y;simp only [cp] at h;simp only [Str.mk.injEq];exact Array.toList_inj.mp h
theorem ZeB (x y:Str):cp (x++y)=cp x++cp y:=by
 show (x.cps++y.cps).toList=_;simp [cp]
theorem ZG (x:Str):(cp x).length=x.length:=by rfl
noncomputable def jn (sep:List Nat):List (List Nat)→List Nat
 | []=>[]
 | [x]=>x
 | x::r=>x++sep++jn sep r
theorem ZaV (sep:Str):∀l:List Str,cp (Str.join sep l)=jn (cp sep) (l.map cp)
 | []=>rfl
 | [x]=>rfl
 | x::y::r=>by
  show cp (x++sep++Str.join sep (y::r))=_;rw [ZeB,ZeB,ZaV sep (y::r)];rfl
theorem WF (sep:Str) (l:List Str):cp (Txt.join sep l)=jn (cp sep) (l.map cp):=by
 rw [←ZaV];exact congrArg cp (PySem.StrLaws.glued_eq_join sep l)
theorem ZeS:∀l:List (List Nat),jn [] l=l.flatten
 | []=>rfl
 | [x]=>by simp [jn]
 | x::y::r=>by simp only [jn,List.append_nil,List.flatten_cons];rw [ZeS (y::r)];rfl
theorem Zij (l:List Str):(Txt.join "" l).length=(l.map fun x=>x.length).sum:=by
 rw [←ZG,WF,show cp ""=[] by kd_p,ZeS,List.length_flatten,List.map_map];exact congrArg List.sum (List.map_congr_left fun x j=>ZG x)
end
section
theorem ZlR {own:List O}{n:Nat}{as:List (Str×A)}{ds:List (Str×D)}(h:as=ds.map fun e=>(e.1,.d e.2)):Frze own n as ds:=h▸Frze.d ds
noncomputable def ZaK (sc:Scope) (cel:List (Str×Nat)):List (Str×Nat):=cel.filter fun q=>sc.names.contains (q.1,.free)&&!(Zh sc.names).contains q.1
noncomputable def XB (sc:Scope) (cel:List (Str×Nat)):Bool :=
 sc.kind == .function&&decide (Zf sc).Nodup&&sc.names.all (fun x=>x.2 != .local||sc.names.lookup x.1==some .local) &&
 sc.names.all (fun x=>x.2 != .free||(ZaK sc cel).any fun q=>q.1==x.1)&&decide (Zh sc.names).Nodup
theorem Zby {c:Cx}{sc:Scope}{cel:List (Str×Nat)}(hc:c.cel=cel) (h:XB sc cel=true):CompOK c sc (ZaK sc cel):=by
 unfold XB at h;simp only [Bool.and_eq_true,beq_iff_eq,decide_eq_true_eq,List.all_eq_true,Bool.or_eq_true,bne_iff_ne,ne_eq,List.any_eq_true] at h;refine Ka fun zn0=>?_;refine oza h fun zo4 h5=>?_;refine oza zo4 fun zo3 h4=>?_;refine oza zo3 fun zo2 h3=>?_;obtain ⟨h1,h2⟩:=zo2;refine zn0 ?_;refine ⟨h1,h2,fun x hx he=>(h3 x hx).elim (fun q=>absurd he q) id,fun x hx=>?_,fun q hq=>?_,h5⟩
 ·rcases h4 _ hx with q | ⟨q,hq,e⟩
  ·exact absurd rfl q
  ·have e':q.1=x:=e;subst e';exact ⟨q.2,hq⟩
 ·unfold ZaK at hq;refine oza (Zi4 hq) fun a b=>?_;simp only [Bool.and_eq_true,List.contains_iff_mem,Bool.not_eq_true',List.contains_eq_mem,decide_eq_true_eq,decide_eq_false_iff_not] at b;exact ⟨hc▸a,b.1,b.2⟩
theorem Zdm {α:Type}(f:α→Nat) (b:Nat) (l:List α) (h:∀x∈l,f x≤b):(l.map f).sum≤b*l.length:=by
 induction l with
 | nil=>exact Nat.zero_le _
 | cons x l ih =>
  rw [List.map_cons,List.sum_cons,List.length_cons,Nat.mul_succ,Nat.add_comm];exact Nat.add_le_add (ih fun y hy=>h y (.tail _ hy)) (h x (.head _))
theorem ZlT {c:Cx}{l:List (Nat×A)}{o:List O}{k:List A}{Q:St→Prop}{x:Str}{ch:Nat}(q:Q ⟨l,o,.d (.bool ((cp x).contains ch))::k⟩):OJ2 c (compareOp .In) ⟨l,o,.d (.str x)::.d (.str ⟨#[ch]⟩)::k⟩ Q:=ZrD (by
 rw [show (!(Builtin.Str.occurrences x ⟨#[ch]⟩ 0 x.length 1).isEmpty)=(cp x).contains ch from ?_]
 ·exact q
 ·rw [PySem.StrLaws.found_one];simp [cp])
theorem ZbR {α:Type}(f:α→D) (x:Str):∀l:List (Str×α),Yb x (l.map fun e=>(e.1,f e.2))=(l.lookup x).map f:=by
 intro l;induction l with
 | nil=>rfl
 | cons e l ih =>
  obtain ⟨y,a⟩:=e;rw [List.map_cons,List.lookup_cons];unfold Yb;by_cases h:y=x
  ·subst h;simp
  ·simp only [h,if_false];rw [ih];have:(x==y)=false:=Zbn (Ne.symm h);rw [this]
section
variable {c:Cx}{st:St}{l:List (Nat×A)}{o:List O}{k:List A}{Q:St→Prop}{QB:Bool→St→Prop}
theorem Zgn (h:QB true st):Za9 c [] st QB:=h
theorem Zoi {v sl:Expr}{xs:List D}{lo hi:Option Int}(hsz:xs.length≤1000000) (q:Q ⟨l,o,.d (.list (cut xs lo hi))::k⟩) (hs:∀a b,∃ops,subscripted sl false a b=operate ops (getItem a b)):OJ2 c (subscriptTail v sl) ⟨l,o,.d (.slice lo hi none)::.d (.list xs)::k⟩ Q:=ZmZ (a:=.d (.list xs)) (by rfl) hsz q hs
theorem ZkK (xs:List D):cut xs (some 1) none=xs.drop 1:=Zee xs 1
end
theorem Za4 {p:List Str}{s:Str}:cut ((s::p).map D.str) (some 1) none=p.map .str:=by rw [ZkK];rfl
theorem Zcc (t:Str) (n:Nat):cp (Wv t (some (n:Int)) none)=(cp t).drop n:=by
 exact Zee _ n
theorem Zcd (t:Str) (n:Nat):(Wv t (some (n:Int)) none).length≤t.length:=Zbm _ _ _
theorem Uc {α:Type}(f:α→Bool) (g:α→D) (l:List α):(!(l.filterMap fun i=>if f i=true then some (g i) else none).isEmpty)=l.any f:=by
 induction l with
 | nil=>rfl
 | cons x l ih =>
  rw [List.any_cons];induction h:f x with
  | false=>rw [List.filterMap_cons_none (f:=fun i=>if f i=true then some (g i) else none) (if_neg (Kv h)),ih];rfl
  | true=>rw [List.filterMap_cons_some (f:=fun i=>if f i=true then some (g i) else none) (if_pos h)];rfl
theorem Zd4 (x y:Str):jn (cp y) ((Txt.split x y).map cp)=cp x:=by
 rw [←ZaV];exact congrArg cp (PySem.StrLaws.join_split x y)
theorem Zhm (sep:List Nat) (l:List (List Nat)) (t:List Nat) (h:t∈l):t.length≤(jn sep l).length:=by
 induction l with
 | nil=>exact nomatch h
 | cons x r ih=>induction r using LLc with
  | nil=>rw [ZaI h];exact Kq _
  | cons y r =>
   show _≤(x++sep++jn sep (y::r)).length;rw [List.length_append,List.length_append];refine Or.elim (ZQ h) (fun e=>?_) fun h=>?_
   ·rw [e,Nat.add_assoc];exact Ko _ _
   ·exact Kr (ih h) (Nat.le_add_left _ _)
theorem Uy {x y p:Str}(h:p∈Txt.split x y):p.length≤x.length:=by
 have:=Zhm (cp y) _ (cp p) (List.mem_map_of_mem h);rw [Zd4,ZG,ZG] at this;exact this
theorem Zej (x y:Str):(Builtin.Str.partsBetween x (Builtin.Str.occurrences x y 0 x.length (x.length+1)) y.length).length≤x.length+2:=by
 rw [length_partsBetween]
 have:=PySem.StrLaws.occ_length_le x y 0 x.length (x.length+1);exact Nat.succ_le_succ (by assumption)
theorem Up (x y:Str):(Txt.split x y).length≤x.length+2:=by
 unfold Txt.split;split
 ·simp
 ·split
  ·simp
  ·exact Zej x y
theorem Zgi {α:Type}{l:List α}{k:Nat}(h:k<l.length) (d:α) (f:α→D):(l.map f)[k]?=some (f (l.getD k d)):=by simp [h,List.getD]
end
section
noncomputable def signsL:List Str:=["a","b","*","?","[ab]","[!a]",".","c","[a-c]","*","[!b-d]","[c-]","[]a]","[!]]","B","-","[a-bd]","[-a]","[!-a]","[a-ac-d]"]
noncomputable def YR:List (Str×Str×Bool):=[("[ab]","ab",false),("[!a]","a",true),("[a-c]","abc",false),("[!b-d]","bcd",true),("[c-]","c-",false),("[]a]","]a",false),("[!]]","]",true),("[a-bd]","abd",false),("[-a]","-a",false),("[!-a]","-a",true),("[a-ac-d]","acd",false)]
noncomputable def Ws:List (Str×D):=YR.map fun e=>(e.1,.tuple [.str e.2.1,.bool e.2.2])
noncomputable def Zcn:List (Str×Str):=[("a","A"),("b","B"),("c","C"),("B","b")]
noncomputable def Ze7:List (Str×D):=Zcn.map fun e=>(e.1,.str e.2)
variable {G:Gx}{w:World}
end
section
variable {G:Gx}{w:World}
noncomputable def Zbq:Str:="0123456789abcdef"
noncomputable def YG (b:Array UInt8):Int:=(b.toList.map fun n=>(n.toNat:Int)).foldl (fun n o=>(n*31+o).fmod 65536) 7
noncomputable def ZiB (i:Int):Str:=⟨#[(Zbq.cps[i.toNat]?).getD 0]⟩
noncomputable def ZbK (b:Array UInt8):Str:=Txt.join "" [ZiB ((YG b).fdiv 4096),ZiB (((YG b).fdiv 256).fmod 16),ZiB (((YG b).fdiv 16).fmod 16),ZiB ((YG b).fmod 16)]
theorem Zcs (b:Array UInt8):0≤YG b∧YG b<65536:=by
 unfold YG;refine ZiE (fun n=>0≤n∧n<65536) _ _ _ (by decide) fun n x j j=>⟨Int.fmod_nonneg_of_pos _ (by decide),Int.fmod_lt_of_pos _ (by decide)⟩
theorem ZlO {i:Int}(h0:0≤i) (h1:i<16):Zbq.cps[i.toNat]?=some ((Zbq.cps[i.toNat]?).getD 0):=by
 have e:Zbq.cps.size=16:=by kd_p
 have:i.toNat<Zbq.cps.size:=by (first | lia | omega)
 rw [Array.getElem?_eq_getElem this];rfl
structure PatOk (pat:List (List Str)):Prop where
 len:pat.length≤2
 part:∀p∈pat,p.length≤4∧∀s∈p,s∈signsL
noncomputable abbrev Wz (p:List Str):D:=.list (p.map .str)
noncomputable abbrev UT (pat:List (List Str)):D:=.list (pat.map Wz)
noncomputable def wordP (p:List Str):Str:=Txt.join "" p
noncomputable def YL (pat:List (List Str)):Str:=Txt.join "/" (pat.map wordP)
theorem Um:∀s∈signsL,s.length≤8:=by decide +kernel
theorem XR {p:List Str}(h:p.length≤4∧∀s∈p,s∈signsL):(wordP p).length≤40:=by
 have h2:=Zdm (fun x:Str=>x.length) 8 p fun s hs=>Um s (h.2 s hs);unfold wordP;rw [Zij];(first | lia | omega)
end
section
variable {G:Gx}{w:World}
noncomputable def Y3 (s:Str) (ch:Nat):Bool:=match YR.lookup s with
 | some (cls,neg)=>(cp cls).contains ch != neg
 | none=>s=="?"||s==⟨#[ch]⟩
end
section
variable {G:Gx}{w:World}
noncomputable def ZL:List Str→List Nat→Bool
 | [],t=>t.isEmpty
 | s::p,t=>if s="*" then (List.range (t.length+1)).any fun k=>ZL p (t.drop k) else match t with
  | []=>false
  | ch::r=>Y3 s ch&&ZL p r
theorem XD (s:Str) (p:List Str) (t:List Nat):ZL (s::p) t=if s="*" then (List.range (t.length+1)).any fun k=>ZL p (t.drop k) else match t with
 | []=>false
 | ch::r=>Y3 s ch&&ZL p r:=by rfl
end
section
noncomputable def Zp (x:Str):List Str:=Txt.split x "/"
variable {G:Gx}{w:World}
noncomputable def Us (pat:List (List Str)) (path:Str):Bool:=((Zp path).length==pat.length)&&((List.range (Zp path).length).filterMap fun k=>if ZL (pat.getD k []) (cp ((Zp path).getD k "")) then none else some (D.int k)).isEmpty
end
section
variable {G:Gx}{w:World}
noncomputable def classTab:List (Str×List Str):=[("ab",["ab"]),("!a",["!a"]),("a-c",["a","c"]),("!b-d",["!b","d"]),("c-",["c-"]),("]a",["]a"]),("!]",["!]"]),("a-bd",["a","bd"]),("-a",["-a"]),("!-a",["!-a"]),("a-ac-d",["a","ac","d"])]
end
section
variable {G:Gx}{w:World}
noncomputable def leS (a b:Str):Bool:=!(decide (b.cps.toList<a.cps.toList))
noncomputable def UQ (x:Str):Str:=if (x != "")=true then x else "-"
noncomputable def YD (sg:Str) (ms:List Str):Nat→Nat→Bool→Bool
 | 0,_,found=>found
 | f+1,i,found =>
  if i<ms.length then
   if i+2<ms.length∧ms.getD (i+1) ""="" then YD sg ms f (i+3) (if leS (UQ (ms.getD i "")) sg&&leS sg (ms.getD (i+2) "") then true else found)
   else YD sg ms f (i+1) (if UQ (ms.getD i "")==sg then true else found)
  else found
end
section
variable {G:Gx}{w:World}
noncomputable abbrev sgn (n:Nat):Str:=⟨#[n]⟩
structure Cl where
 sign:Str
 inner:Str
 chunks:List Str
 ms:List Str
 neg:Bool
noncomputable def WA:List Cl:=[
 ⟨"[ab]","ab",["ab"],[sgn 97,sgn 98],false⟩,
 ⟨"[!a]","!a",["!a"],[sgn 97],true⟩,
 ⟨"[a-c]","a-c",["a","c"],[sgn 97,"",sgn 99],false⟩,
 ⟨"[!b-d]","!b-d",["!b","d"],[sgn 98,"",sgn 100],true⟩,
 ⟨"[c-]","c-",["c-"],[sgn 99,sgn 45],false⟩,
 ⟨"[]a]","]a",["]a"],[sgn 93,sgn 97],false⟩,
 ⟨"[!]]","!]",["!]"],[sgn 93],true⟩,
 ⟨"[a-bd]","a-bd",["a","bd"],[sgn 97,"",sgn 98,sgn 100],false⟩,
 ⟨"[-a]","-a",["-a"],[sgn 45,sgn 97],false⟩,
 ⟨"[!-a]","!-a",["!-a"],[sgn 45,sgn 97],true⟩,
 ⟨"[a-ac-d]","a-ac-d",["a","ac","d"],[sgn 97,"",sgn 97,sgn 99,"",sgn 100],false⟩]
theorem Zga (a b:Nat):leS (sgn a) (sgn b)=decide (a≤b):=by
 unfold leS;rw [Bool.eq_iff_iff];simp [List.cons_lt_cons_iff]
theorem Yx (a b:Nat):(sgn a==sgn b)=(a==b):=by
 rw [Bool.eq_iff_iff];simp [sgn]
theorem Zh3 (a:Nat):UQ (sgn a)=sgn a:=by
 unfold UQ;rw [if_pos];simp only [bne_iff_ne,ne_eq];intro h
 have:=congrArg cp h;rw [show cp ""=[] by kd_p] at this;exact Zeq this
theorem ZdH:∀e∈WA,∀ch<129,(YD (sgn ch) e.ms e.ms.length 0 false != e.neg)=Y3 e.sign ch:=by decide +kernel
def ZoI (s s' m:Str):Prop:=leS (UQ m) s=leS (UQ m) s'∧leS s m=leS s' m∧(UQ m==s)=(UQ m==s')
theorem Zlv {s s':Str}{ms:List Str}(h:∀i,ZoI s s' (ms.getD i "")):∀(f i:Nat) (b:Bool),YD s ms f i b=YD s' ms f i b:=by
 intro f;induction f with
 | zero=>intro i b;rfl
 | succ f ih =>
  intro i b;unfold YD;rw [(h i).1,(h (i+2)).2.1,(h i).2.2,ih,ih]
theorem Zea {m:Str}(hm:m=""∨∃a<128,m=sgn a) {ch:Nat}(hc:128≤ch):ZoI (sgn ch) (sgn 128) m:=by
 have one:∀a,a<128→∀k,128≤k→leS (sgn a) (sgn k)=true∧leS (sgn k) (sgn a)=false∧(sgn a==sgn k)=false:=fun a ha k hk=>by
  rw [Zga,Zga,Yx];exact ⟨decide_eq_true (by lia),decide_eq_false (by lia),beq_false_of_ne (by lia)⟩
 rcases hm with rfl | ⟨a,ha,rfl⟩
 ·have h1:=one 45 (by decide) ch hc;have h2:=one 45 (by decide) 128 (Kq _);exact ⟨h1.1.trans h2.1.symm,rfl,h1.2.2.trans h2.2.2.symm⟩
 ·have h1:=one a ha ch hc;have h2:=one a ha 128 (Kq _);unfold ZoI;rw [Zh3];exact ⟨h1.1.trans h2.1.symm,h1.2.1.trans h2.2.1.symm,h1.2.2.trans h2.2.2.symm⟩
theorem Zqz:∀e∈WA,(e.ms.all fun m=>m==""||(m.cps.size==1&&decide (m.cps.getD 0 200<128)))=true∧((YR.lookup e.sign).any fun q=>(cp q.1).all fun x=>decide (x<128))=true:=by decide +kernel
theorem ZlU {ms:List Str}{P:Str→Prop}(h0:P "") (h:∀m∈ms,P m) (i:Nat):P (ms.getD i ""):=by
 rw [List.getD_eq_getElem?_getD];induction e:ms[i]? with
 | none=>exact h0
 | some m=>exact h m (Kj e)
theorem Zny:∀e∈WA,∀ch,(YD (sgn ch) e.ms e.ms.length 0 false != e.neg)=Y3 e.sign ch:=by
 intro e he ch;refine Or.elim (Nat.lt_or_ge ch 129) (fun h=>?_) fun h=>?_
 ·exact ZdH e he ch h
 ·have hb:128≤ch:=Nat.le_of_succ_le h;refine oza (Zqz e he) fun h1 h2=>?_;rw [Zlv (s':=sgn 128) (ZlU (Zea (.inl rfl) hb) fun m hm=>Zea (by
   refine Or.elim (Bool.or_eq_true_iff.mp (ZbI h1 m hm)) (fun h=>?_) fun h=>?_
   ·exact .inl (eq_of_beq h)
   ·refine oza (Yp h) fun q1 q2=>?_;obtain ⟨⟨l⟩⟩:=m
    match l,eq_of_beq q1 with
    | [a],_=>exact .inr ⟨a,Kw q2,rfl⟩) hb),ZdH e he 128 (by decide)]
  unfold Y3;induction hs:YR.lookup e.sign with
  | none=>rw [hs] at h2;exact YU h2
  | some q =>
   rw [hs] at h2;have big:∀k,128≤k→(cp q.1).contains k=false:=fun k hk=>by
    rw [List.contains_eq_any_beq,List.any_eq_false];intro x hx hxk
    have:=Kw ((ZbI h2) x hx)
    have:=eq_of_beq hxk;lia
   show ((cp q.1).contains 128 != q.2)=((cp q.1).contains ch != q.2);rw [big _ (Kq _),big _ hb]
end
section
variable {G:Gx}{w:World}
theorem ZlY {α β:Type}(f:α→β) (l:List α) (lo hi:Option Int):cut (l.map f) lo hi=(cut l lo hi).map f:=by
 unfold cut;simp [List.map_drop,List.map_take]
theorem ZqG:∀e∈WA,(e.inner,e.chunks)∈classTab:=by decide +kernel
end
section
noncomputable def Ym (nm:List Nat) (s:Str) (S:List Nat):List Nat :=
 if s="*" then (match S with
  | []=>[]
  | i::_=>(List.range (nm.length+1 - i)).map (i+·))
 else S.filterMap fun i=>match nm[i]? with
  | some ch=>if Y3 s ch then some (i+1) else none
  | none=>none
structure PlOk (n:Nat) (S:List Nat):Prop where
 le:∀i∈S,i≤n
 lt:S.Pairwise (· < ·)
theorem Zem {nm:List Nat}{s:Str}{S:List Nat}(h:PlOk nm.length S):PlOk nm.length (Ym nm s S):=by
 unfold Ym;split
 ·induction S using LLc with
  | nil=>exact h
  | cons i r =>
   have hi:=h.le i (.head _);refine ⟨fun j hj=>?_,?_⟩
   ·refine Zb (Xb hj) fun k hk zo1=>?_;subst zo1
    have:=List.mem_range.mp hk;lia
   ·rw [List.pairwise_map];exact List.Pairwise.imp (fun h=>by exact Nat.add_le_add_left (by assumption) _) List.pairwise_lt_range
 ·refine ⟨fun j hj=>?_,?_⟩
  ·refine Zb (List.mem_filterMap.mp hj) fun i hi e=>?_;split at e
   ·rename_i ch hc;split at e
    ·obtain rfl:=Kc e
     have:=(List.getElem?_eq_some_iff.mp hc).1;assumption
    ·exact Zo e
   ·exact Zo e
  ·refine List.Pairwise.filterMap _ (fun a b hab x hx y hy=>?_) h.lt;have key:∀(i z:Nat),(match nm[i]? with | some ch=>if Y3 s ch=true then some (i+1) else none | none=>none)=some z→z=i+1:=by
    intro i z e;split at e
    ·split at e
     ·obtain rfl:=Kc e;rfl
     ·exact Zo e
    ·exact Zo e
   have h1:=key a x hx;have h2:=key b y hy;lia
theorem ZcU {nm:List Nat}{i:Nat}(h:i≤nm.length):(nm.drop i).isEmpty=decide (i=nm.length):=by
 rw [Bool.eq_iff_iff];simp;lia
theorem Uv {α:Type}{l:List α}{p q:α→Bool}(h:∀x,x∈l→p x=q x):l.any p=l.any q:=by
 induction l with
 | nil=>rfl
 | cons a r ih=>rw [List.any_cons,List.any_cons,h a (.head _),ih fun x hx=>h x (.tail _ hx)]
theorem ZoG {a b:Bool}(h:b=true→a=true):(a||b)=a:=by
 induction a with
 | true=>rfl
 | false=>induction b with
  | true=>exact YU (h rfl)
  | false=>rfl
theorem ZgG {f:Nat→Bool}{i j n:Nat}(hij:i≤j) (h:((List.range (n+1 - j)).any fun k=>f (j+k))=true):((List.range (n+1 - i)).any fun k=>f (i+k))=true:=by
 refine Zb (List.any_eq_true.mp h) fun k hk e=>?_;have hij:=Kr hij (Ko j k);exact List.any_eq_true.mpr ⟨j+k - i,ZeK (Nat.sub_lt_sub_right hij (Nat.add_lt_of_lt_sub' (ZgT hk))),by rw [Nat.add_sub_of_le hij];exact e⟩
theorem Zfk (nm:List Nat) (p:List Str):∀(S:List Nat),PlOk nm.length S→(p.foldl (fun S s=>Ym nm s S) S).any (fun i=>decide (i=nm.length))=S.any fun i=>ZL p (nm.drop i):=by
 induction p with
 | nil=>exact fun S h=>Uv fun i hi=>(ZcU (h.le i hi)).symm
 | cons s p ih =>
  intro S h;rw [List.foldl_cons,ih _ (Zem h)];clear ih;by_cases hs:s="*"
  ·have e:∀i,i≤nm.length→ZL (s::p) (nm.drop i)=(List.range (nm.length+1 - i)).any fun k=>ZL p (nm.drop (i+k)):=fun i hi=>by
    rw [XD,if_pos hs,List.length_drop,Nat.succ_sub hi];exact Uv fun k u=>by rw [List.drop_drop]
   unfold Ym;rw [if_pos hs,Uv (q:=fun i=>(List.range (nm.length+1 - i)).any fun k=>ZL p (nm.drop (i+k))) fun i hi=>e i (h.le i hi)];induction S using LLc with
   | nil=>rfl
   | cons i r =>
    rw [List.any_cons];refine List.any_map.trans (ZoG fun hr=>?_).symm;refine Zb (List.any_eq_true.mp hr) fun j hj e=>?_;exact ZgG (f:=fun k=>ZL p (nm.drop k)) (Nat.le_of_lt (List.rel_of_pairwise_cons h.lt hj)) e
  ·unfold Ym;rw [if_neg hs,List.any_filterMap];refine Uv fun i hi=>?_;rw [XD,if_neg hs];induction e:nm[i]? with
   | none=>rw [List.drop_eq_nil_of_le (List.getElem?_eq_none_iff.mp e)]
   | some ch =>
    refine oze (ZI e) fun hl e=>?_;rw [List.drop_eq_getElem_cons hl,e];dsimp only;induction Y3 s ch with
    | true=>rfl
    | false=>rfl
theorem ZeH (nm:List Nat) (p:List Str):(p.foldl (fun S s=>Ym nm s S) [0]).any (fun i=>decide (i=nm.length))=ZL p nm:=by
 rw [Zfk nm p [0] ⟨fun i hi=>by simp at hi;lia,by trivial⟩];simp
end
section
variable {G:Gx}{w:World}
structure SignAt (x:Str) (a:Nat) (s:Str):Prop where
 at_:∀j ch,(cp s)[j]?=some ch→(cp x)[a+j]?=some ch
 le:a+s.length≤x.length
end
section
variable {G:Gx}{w:World}
noncomputable abbrev Yc (S:List Nat):List D:=S.map fun i:Nat=>D.int (i:Int)
theorem ZlL (n:Nat) (S:List Nat) (m:Nat) (hp:S.Pairwise (· < ·)) (hb:∀i∈S,m≤i∧i≤n) (h:m≤n+1):S.length+m≤n+1:=by
 induction S generalizing m with
 | nil=>rw [List.length_nil,Nat.zero_add];exact h
 | cons i r ih =>
  have hi:=hb i (.head _)
  have:=ih (i+1) (List.Pairwise.of_cons hp) (fun j hj=>⟨List.rel_of_pairwise_cons hp hj,(hb j (.tail _ hj)).2⟩) (Nat.succ_le_succ hi.2);rw [List.length_cons,Nat.add_assoc,Nat.add_comm 1];exact Kr (Nat.add_le_add_left (Nat.succ_le_succ hi.1) _) this
theorem PlOk.len {n:Nat}{S:List Nat}(h:PlOk n S):S.length≤n+1:=ZlL n S 0 h.lt (fun i hi=>⟨Nat.zero_le _,h.le i hi⟩) (Nat.zero_le _)
inductive FitM (s:Str) (pat:Str) (k0:Nat) (close:Int) (a:Nat):Prop
 | any (h:k0=63) (q:∀ch,Y3 s ch=true)
 | cls (e:Cl) (he:e∈WA) (h0:k0=91) (hs:s=e.sign) (hc:0≤close) (hi:Wv pat (some ((a:Int)+1)) (some close)=e.inner)
 | one (h1:k0≠63) (hc:close = -1) (q:∀ch,Y3 s ch=(ch==k0))
noncomputable def Uu (nm:List Nat) (s:Str) (acc:List Nat) (i:Nat):List Nat:=match nm[i]? with
 | some ch=>if Y3 s ch then acc++[i+1] else acc
 | none=>acc
theorem ZgN (nm:List Nat) {s:Str}(hs:s≠"*") (S acc:List Nat):S.foldl (Uu nm s) acc=acc++Ym nm s S:=by
 unfold Ym;rw [if_neg hs];induction S generalizing acc with
 | nil=>exact (List.append_nil _).symm
 | cons i S ih =>
  rw [List.foldl_cons,ih,List.filterMap_cons];unfold Uu;cases nm[i]? with
  | none=>rfl
  | some ch =>
   dsimp only;cases h:Y3 s ch with
   | false=>rfl
   | true=>exact List.append_assoc ..
end
section
variable {G:Gx}{w:World}
noncomputable def Zh4 (s:Str):Bool:=WA.any (fun e=>e.sign==s)||(s.length==1&&(YR.lookup s).isNone&&(cp s != [91]))
theorem Zpp:∀s∈signsL,Zh4 s=true:=by decide +kernel
theorem Zgg:∀e∈WA,(YR.lookup e.sign).isSome=true∧3≤e.sign.length∧(cp e.sign).headD 0=91∧cp e.inner=((cp e.sign).drop 1).take (e.sign.length - 2):=by decide +kernel
theorem SignAt.sub {x s:Str}{a:Nat}(h:SignAt x a s):((cp x).drop a).take s.length=cp s:=by
 refine List.ext_getElem? fun j=>?_;rw [List.getElem?_take,List.getElem?_drop];have hl:=ZG s;split
 ·rename_i hj;have hj':j<(cp s).length:=by assumption
  rw [Ke hj'];exact h.at_ j _ (Ke hj')
 ·rw [List.getElem?_eq_none (by exact Nat.not_lt.mp (by assumption))]
theorem ZgV {x s:Str}{pre post:List Nat}(h:cp x=pre++cp s++post):SignAt x pre.length s where
 at_:=fun j ch hc=>by
  rw [h,List.append_assoc,Km (by exact Ko _ _),Nat.add_sub_cancel_left];obtain ⟨hl,u⟩:=ZI hc;rw [Kl hl];exact hc
 le:=by
  have:=congrArg List.length h;rw [ZG] at this;simp only [List.length_append,ZG] at this;lia
theorem Zcx (p:List Str):cp (wordP p)=(p.map cp).flatten:=by
 unfold wordP;rw [WF,show cp ""=[] by kd_p,ZeS]
end
section
noncomputable def WC (c:Nat):List (List Nat)→List Nat
 | []=>[]
 | r=>c::jn [c] r
theorem Zcp (c:Nat) (x:List Nat):∀r,jn [c] (x::r)=x++WC c r
 | []=>by simp [jn,WC]
 | y::r=>by simp [jn,WC]
theorem ZbW {c:Nat}(x t:List Nat) (h:c∉x) (ht:t=[]∨∃u,t=c::u):(x++t).takeWhile (fun n=>n != c)=x∧(x++t).dropWhile (fun n=>n != c)=t:=by
 induction x with
 | nil =>
  rcases ht with e | ⟨u,e⟩
  ·rw [e];exact ⟨rfl,rfl⟩
  ·have h1:¬(c != c)=true:=by rw [bne_self_eq_false];decide
   rw [e];exact ⟨List.takeWhile_cons_of_neg h1,List.dropWhile_cons_of_neg h1⟩
 | cons a x ih =>
  have h1:(a != c)=true:=bne_iff_ne.mpr fun e=>h (e▸.head _);have h2:=ih fun q=>h (.tail _ q);exact ⟨(List.takeWhile_cons_of_pos (p:=fun n=>n != c) h1).trans (congrArg _ h2.1),(List.dropWhile_cons_of_pos (p:=fun n=>n != c) h1).trans h2.2⟩
theorem Zef (c:Nat):∀r,WC c r=[]∨∃u,WC c r=c::u
 | []=>.inl rfl
 | _::_=>.inr ⟨_,rfl⟩
theorem Zoe {c:Nat}{l m:List (List Nat)}(hl0:l≠[]) (hm0:m≠[]) (hl:∀x∈l,c∉x) (hm:∀x∈m,c∉x) (e:jn [c] l=jn [c] m):l=m:=by
 induction l generalizing m with
 | nil=>exact absurd rfl hl0
 | cons x r ih=>induction m using LLc with
  | nil=>exact absurd rfl hm0
  | cons y q =>
   rw [Zcp,Zcp] at e;have h1:=ZbW x (WC c r) (hl x (.head _)) (Zef c r);have h2:=ZbW y (WC c q) (hm y (.head _)) (Zef c q);have et:WC c r=WC c q:=h1.2.symm.trans ((congrArg _ e).trans h2.2);rw [h1.1.symm.trans ((congrArg _ e).trans h2.1)];refine congrArg _ ?_;induction r using LLc with
   | nil=>induction q using LLc with
    | nil=>rfl
    | cons _ _=>exact Zj2 et
   | cons a r=>induction q using LLc with
    | nil=>exact Zeq et
    | cons b q=>exact ih (fun z=>Zeq z) (fun z=>Zeq z) (fun z hz=>hl z (.tail _ hz)) (fun z hz=>hm z (.tail _ hz)) (List.cons.inj et).2
theorem ZiL (x y:Str):Txt.split x y≠[]:=by
 unfold Txt.split;split
 ·simp
 ·split
  ·simp
  ·rw [PySem.StrLaws.partsBetween_eq];refine XN (PySem.StrLaws.partsFrom_ne x y.length 0 (Builtin.Str.occurrences x y 0 x.length (x.length+1))) fun p r e=>?_;rw [e];simp
theorem Ze9 {l m:List Str}(h:l.map cp=m.map cp):l=m:=by
 induction l generalizing m with
 | nil=>induction m using LLc with
  | nil=>rfl
  | cons _ _=>exact Zj2 h
 | cons x l ih=>induction m using LLc with
  | nil=>exact Zeq h
  | cons y m =>
   refine oza (List.cons.inj h) fun h1 h2=>?_;rw [Za7 h1,ih h2]
theorem Zd9 {ts:List Str}(hn:ts≠[]) (hf:∀t∈ts,47∉cp t):Zp (Txt.join "/" ts)=ts:=by
 apply Ze9;refine Zoe (c:=47) (by simpa [Zp] using ZiL _ _) (by simpa using hn) ?_ ?_ ?_
 ·intro x hx;refine Zb (Xb hx) fun t ht zo1=>?_;subst zo1;rw [Zp,show (Str.ofString "/":Str)=⟨#[47]⟩ by kd_p] at ht;exact PySem.StrLaws.split_free _ 47 t ht
 ·intro x hx;refine Zb (Xb hx) fun t ht zo2=>?_;subst zo2;exact hf t ht
 ·have h1:=Zd4 (Txt.join "/" ts) "/";rw [show cp "/"=[47] by kd_p] at h1;rw [Zp,h1,WF,show cp "/"=[47] by kd_p]
theorem ZgQ:∀s∈signsL,(cp s).contains 47=false:=by decide +kernel
theorem Zhp {p:List Str}(h:∀s∈p,s∈signsL):47∉cp (wordP p):=by
 rw [Zcx];intro hm;refine Zb (List.mem_flatten.mp hm) fun l hl hx=>?_;refine Zb (Xb hl) fun s hs zo1=>?_;subst zo1
 have:=ZgQ s (h s hs);simp at this;exact this hx
theorem Zfd {pat:List (List Str)}(hp:PatOk pat) (hn:pat≠[]):Zp (YL pat)=pat.map wordP :=
 Zd9 (by simpa using hn) fun t ht=>by
  refine Zb (Xb ht) fun p hp' zo1=>?_;subst zo1;exact Zhp (hp.part p hp').2
theorem ZgW {pat:List (List Str)}(hp:PatOk pat):(YL pat).length≤1000:=by
 rw [←ZG,YL,WF];have h1:=hp.len
 match pat,hp with
 | [],_=>trivial
 | [p],hp =>
  have:=XR (hp.part p (.head _));simp only [List.map_cons,List.map_nil,jn,ZG];lia
 | [p,q],hp =>
  have h2:=XR (hp.part p (.head _));have h3:=XR (hp.part q (.tail _ (.head _)));simp only [List.map_cons,List.map_nil,jn,List.length_append,ZG];rw [show ("/":Str).length=1 by kd_p];lia
end
section
variable {G:Gx}{w:World}
theorem ZkW (pat:List (List Str)) (path:Str):Us pat path=((Zp path).length==pat.length&&((Zp path).zip pat).all fun q=>ZL q.2 (cp q.1)):=by
 unfold Us;induction h:(Zp path).length==pat.length with
 | false=>rfl
 | true =>
  simp only [Bool.true_and];have hl:=eq_of_beq h;generalize Zp path=ps at hl;rw [Bool.eq_iff_iff,List.isEmpty_iff,List.filterMap_eq_nil_iff,List.all_eq_true];constructor
  ·rintro hk ⟨t,p⟩ hq;obtain ⟨k,hk1,hk2⟩:=List.getElem_of_mem hq;have h1:k<ps.length:=by rw [List.length_zip] at hk1;lia
   have h2:k<pat.length:=by lia
   have:=hk k (ZeK h1);rw [List.getElem_zip] at hk2;cases hk2;simp only [List.getD,Ke h1,Ke h2,Option.getD_some] at this;split at this
   ·assumption
   ·exact Zmk this
  ·intro hq k hk;have h1:=List.mem_range.mp hk;have h2:k<pat.length:=by lia
   have:=hq (ps[k],pat[k]) (by
    have h3:k<(ps.zip pat).length:=by rw [List.length_zip];lia
    rw [←List.getElem_zip (h:=h3)];exact List.getElem_mem h3)
   simp only [List.getD,Ke h1,Ke h2,Option.getD_some];rw [if_pos this]
section
variable {c:Cx}{l:List (Nat×A)}{o:List O}{k:List A}{Q:St→Prop}{st:St}
theorem Zes {e:Expr}{es:List Expr}{d:D}{ds:List D}(h:AsJ c e ⟨st.loc,st.own,.d d::st.stk⟩ fun st1=>Zfi c es ds st1 Q):Zfi c (e::es) (d::ds) st Q:=h
theorem ZlW (h:Q st):Zfi c [] [] st Q:=h
end
end
section
variable {G:Gx}{w:World}
theorem Zo5 (x:Int):∃n:Nat,n<4∧x.fmod 4=n:=⟨(x.fmod 4).toNat,by
 have h1:=Int.fmod_nonneg_of_pos x (b:=4) (by decide);have h2:=Int.fmod_lt_of_pos x (b:=4) (by decide);exact ⟨by (first | lia | omega),by (first | lia | omega)⟩⟩
end
section
variable {G:Gx}{w:World}
section
variable {c:Cx}{l:List (Nat×A)}{o:List O}{k:List A}{Q:St→Prop}{x y:Str}
theorem ZoV (hs:x.length+y.length≤1000000) (q:Q ⟨l,o,.d (.str (x++y))::k⟩):OJ2 c (inplaceOp .Add) ⟨l,o,.d (.str y)::.d (.str x)::k⟩ Q:=o2 (fun j j j j j j j j j j zq0_0 zq0_1 j h=>by obtain ⟨j,e1⟩:=zq0_0;obtain ⟨j,e2⟩:=zq0_1;subst e1 e2;exact PyProof.Rows.iadd_str (fun j j=>h _ _ X9) (by rw [sizeLine_eq];(first | lia | omega))) q
end
noncomputable def Y7 (x:Str):Bool:=(cp x).all (· < 128)
theorem ZgJ {x y:Str}(hx:Y7 x=true) (hy:Y7 y=true):Y7 (x++y)=true:=by
 unfold Y7 at *;rw [ZeB,List.all_append,hx,hy];rfl
noncomputable def ZdW:List Str:=["","a","b","ca","",".","d","A","B-"]
noncomputable def ZdA:Str:="abcd.-]AB"
theorem Zdx:∀u∈ZdW,Y7 u=true∧u.length≤2:=by decide +kernel
theorem Ziu:Y7 ZdA=true:=by decide +kernel
theorem Zae:∀s∈signsL,Y7 s=true:=by decide +kernel
theorem Zds:∀e∈Zcn,Y7 e.2=true∧e.2.length≤2:=by decide +kernel
structure TxtOk (n:Nat) (t:Str):Prop where
 len:t.length≤n
 asc:Y7 t=true
end
section
variable {G:Gx}{w:World}
theorem ZnC {xs:List Str}(hl:xs.length≤3) (h:∀t∈xs,TxtOk 40 t):TxtOk 200 (Txt.join "/" xs):=by
 have key:∀l:List Str,(∀t∈l,TxtOk 40 t)→(jn (cp "/") (l.map cp)).length≤41*l.length∧(jn (cp "/") (l.map cp)).all (· < 128)=true:=by
  intro l;induction l with
  | nil=>intro j;exact ⟨by simp [jn],rfl⟩
  | cons x r ih =>
   intro h;have hx:=h x (by simp);have h1:=hx.len;have h2:=hx.asc;have h3:=ih fun t ht=>h t (by simp [ht]);unfold Y7 at h2;rw [←ZG] at h1;rw [show cp "/"=[47] by kd_p] at h3 ⊢;rw [List.map_cons,Zcp];cases r with
   | nil=>simp only [List.map_nil,WC,List.append_nil,List.length_cons,List.length_nil];exact ⟨by (first | lia | omega),h2⟩
   | cons y r =>
    simp only [List.map_cons,WC,List.length_append,List.length_cons,List.all_append,List.all_cons,Bool.and_eq_true] at h3 ⊢;exact ⟨by (first | lia | omega),h2,by decide,h3.2⟩
 obtain ⟨h1,h2⟩:=key xs h;refine ⟨?_,?_⟩
 ·rw [←ZG,WF];(first | lia | omega)
 ·unfold Y7;rw [WF];exact h2
theorem ZnX {xs:List Str}(hl:xs.length≤3) (h:∀t∈xs,TxtOk 40 t):(xs.map fun x=>x.length).sum+xs.length≤1048576:=by
 have:=Zdm (fun x:Str=>x.length) 40 xs fun s hs=>(h s hs).len
 (first | lia | omega)
theorem Zkt {α:Type}(l:List α) (lo hi:Option Int):∀x∈cut l lo hi,x∈l:=fun x hx=>List.mem_of_mem_drop (List.mem_of_mem_take hx)
end
section
noncomputable def Xr (ι:Nat→Nat):A→A
 | .d x=>.d x
 | .own i=>.own (ι i)
 | .view k i=>.view k (ι i)
noncomputable def Zdd (ι:Nat→Nat):List (Str×A)→List (Str×A):=List.map fun e=>(e.1,Xr ι e.2)
noncomputable def Xy (ι:Nat→Nat):O→O
 | .list xs=>.list (xs.map (Xr ι))
 | .dict es ep=>.dict (Zdd ι es) ep
 | .inst c j=>.inst c (ι j)
 | .cell x=>.cell (x.map (Xr ι))
 | .iter=>.iter
 | .dead=>.dead
section
variable {p:Program}{w:World}{g h:Heap}{ρ σ:List Addr}{ι:Nat→Nat}
theorem Za6 (hι:∀j:Nat,ρ[ι j]?=σ[j]?):∀{a:A}{v:Value},AR p w g ρ (Xr ι a) v↔AR p w g σ a v
 | .d _,_=>Iff.rfl
 | .own i,v=>by show (∃a,ρ[ι i]?=some a∧_)↔(∃a,σ[i]?=some a∧_);rw [hι]
 | .view k i,v=>by show (∃d a,ρ[ι i]?=some d∧_)↔(∃d a,σ[i]?=some d∧_);rw [hι]
theorem ZaF (hι:∀j:Nat,ρ[ι j]?=σ[j]?) {as:List A}{vs:List Value}:ARs p w g ρ (as.map (Xr ι)) vs↔ARs p w g σ as vs:=by
 induction as generalizing vs with
 | nil=>exact Iff.rfl
 | cons a as ih=>exact exists_congr fun v=>exists_congr fun r=>and_congr_right fun u=>and_congr (Za6 hι) ih
theorem Zk3 (hι:∀j:Nat,ρ[ι j]?=σ[j]?) {as:List (Str×A)}{vs:List (Str×Value)}:ARe p w g ρ (Zdd ι as) vs↔ARe p w g σ as vs:=by
 induction as generalizing vs with
 | nil=>exact Iff.rfl
 | cons a as ih=>exact exists_congr fun v=>exists_congr fun r=>and_congr_right fun u=>and_congr (Za6 hι) ih
theorem ZcY (hι:∀j:Nat,ρ[ι j]?=σ[j]?):∀{o:O}{a:Addr},OAt p w g ρ h (Xy ι o) a↔OAt p w g σ h o a
 | .list xs,a=>by show (∃vs,IsLst h a vs∧ARs p w g ρ (xs.map (Xr ι)) vs)↔(∃vs,IsLst h a vs∧ARs p w g σ xs vs);simp only [ZaF hι]
 | .dict es ep,a=>by
  show (∃kvs,a≠sysModules∧h.DictAt (strKind p w) a kvs ep∧ARe p w g ρ (Zdd ι es) kvs)↔(∃kvs,a≠sysModules∧h.DictAt (strKind p w) a kvs ep∧ARe p w g σ es kvs);simp only [Zk3 hι]
 | .inst c j,a=>by show (∃dx,ρ[ι j]?=some dx∧_)↔(∃dx,σ[j]?=some dx∧_);rw [hι]
 | .cell none,a=>Iff.rfl
 | .cell (some x),a=>by
  show (∃v o,h.get? a=some o∧o.data = .cell v∧∃u,v=some u∧AR p w g ρ (Xr ι x) u)↔(∃v o,h.get? a=some o∧o.data = .cell v∧∃u,v=some u∧AR p w g σ x u);simp only [Za6 hι]
 | .iter,a=>Iff.rfl
 | .dead,a=>Iff.rfl
end
noncomputable def iot (is:List Nat) (n j:Nat):Nat:=match is[j]? with
 | some i=>i
 | none=>n+(j - is.length)
noncomputable def Zdk (ι:Nat→Nat):List Nat→List O→List O→List O
 | i::is,x::xs,o=>Zdk ι is xs (o.set i (Xy ι x))
 | _,_,o=>o
noncomputable def Wq (is:List Nat) (o os:List O):List O:=Zdk (iot is o.length) is os o++(os.drop is.length).map (Xy (iot is o.length))
theorem YS {ι:Nat→Nat}{is:List Nat}{os o:List O}:(Zdk ι is os o).length=o.length:=by
 induction is generalizing os o with
 | nil=>induction os using LLc <;> rfl
 | cons i is ih=>induction os using LLc with
  | nil=>rfl
  | cons x xs=>exact ih.trans List.length_set
theorem ZdY {ι:Nat→Nat}{is:List Nat}{os o:List O}{i:Nat}{x:O}(hn:is.Nodup) (hl:is.length≤os.length) (h:(Zdk ι is os o)[i]?=some x):(∃(j:Nat) (y:O),is[j]?=some i∧os[j]?=some y∧x=Xy ι y)∨(i∉is∧o[i]?=some x):=by
 induction is generalizing os o with
 | nil=>exact .inr ⟨List.not_mem_nil,by induction os using LLc <;> exact h⟩
 | cons i0 is ih=>induction os using LLc with
  | nil=>exact absurd hl (Nat.not_succ_le_zero _)
  | cons x0 xs =>
   rcases ih (List.nodup_cons.mp hn).2 (Nat.le_of_succ_le_succ hl) h with ⟨j,y,h1,h2,h3⟩ | ⟨h1,h2⟩
   ·exact .inl ⟨j+1,y,h1,h2,h3⟩
   ·by_cases e:i0=i
    ·rw [e] at h2;have hlt:i<o.length:=List.length_set (as:=o)▸(ZI h2).1;rw [List.getElem?_set_self hlt] at h2;exact .inl ⟨0,x0,congrArg some e,rfl,(Kc h2).symm⟩
    ·rw [List.getElem?_set_ne e] at h2;exact .inr ⟨fun z=>(ZQ z).elim (fun z=>e z.symm) h1,h2⟩
structure OW (G:Gx) (F:Fz) (ob:List O) (s:Shared) (g:Heap) (σ:List Addr):Prop extends HS G F s g where
 len:σ.length=ob.length
 nd:σ.Nodup
 fr:∀b∈σ,g.get? b=none
 own:∀(i:Nat) o a,ob[i]?=some o→σ[i]?=some a→OAt G.p G.w g σ s.heap o a
 apart:∀b∈σ,(∀r∈G.reg,b≠r.at_)∧∀q∈F.hid,b≠q.1
 pin:∀q∈F.pin,σ[q.1]?=some q.2
inductive OPost (G:Gx) (F:Fz) (g:Heap) (R:A→List O→Prop) (v:Value) (s':Shared):Prop
 | mk (g':Heap) (σ':List Addr) (a:A) (os':List O) (H:OW G F os' s' g' σ') (hs:Sub g g') (hv:AR G.p G.w g' σ' a v) (h:R a os')
def ZmG (G:Gx) (f:Value) (need:Nat) (os:List O) (args:List A) (R:A→List O→Prop):Prop :=
 ∀(A:Around) (F:Fz) (us:List Value) (s:Shared) (g:Heap) (σ:List Addr),A.handled=none→A.depth+need<recursionLimit→A.units+8*need+40≤cLine→OW G F os s g σ→ARs G.p G.w g σ args us →
  wpAny (model G.p G.w) A (call f us) (OPost G F g R) NoE s
section
variable {c:Cx}{F:Fz}{st:St}{vs:List Value}{s:Shared}{g:Heap}{ρ:List Addr}{m:Str→Option Value}
noncomputable def Fz.lend (F:Fz) (g h:Heap) (L:Addr) (ρ σ:List Addr):Fz:={g₀:=g,hid:=F.hid++Zn h (L::ρ.filter fun b=>decide (b∉σ)),gens:=F.gens,os:=F.os,pin:=idx σ}
theorem RSW.lend (W:RSW c F st vs s g ρ m) {is:List Nat}{os:List O}(hnd:is.Nodup) (hos:os.length=is.length) (ho:∀(j i:Nat),is[j]?=some i→∃x,os[j]?=some x∧st.own[i]?=some (Xy (iot is st.own.length) x)) :
 ∃σ:List Addr,(∀j:Nat,ρ[iot is st.own.length j]?=σ[j]?)∧σ.length=is.length∧(∀b∈σ,b∈ρ)∧OW c.G (F.lend g s.heap c.env.locals ρ σ) os s g σ:=by
 have hlt:∀i∈is,i<ρ.length:=fun i hi=>by
  refine oze (Zin hi) fun j e=>?_;refine Zb (ho j i e) fun x u h2=>?_;rw [W.len];exact (ZI h2).1
 have hσ:∀j:Nat,ρ[iot is st.own.length j]?=(is.map fun i=>(ρ[i]?).getD 0)[j]?:=fun j=>by
  rw [List.getElem?_map];unfold iot;induction e:is[j]? with
  | none =>
   dsimp only [Option.map_none];rw [List.getElem?_eq_none];rw [W.len];exact Ko _ _
  | some i =>
   have:=hlt i (Kj e);simp only [Option.map_some,Ke this,Option.getD_some]
 have hin:∀b∈is.map (fun i=>(ρ[i]?).getD 0),b∈ρ:=fun b hb=>by
  refine Zb (List.mem_map.mp hb) fun i hi zo1=>?_;subst zo1;rw [Ke (hlt i hi)];exact List.getElem_mem _
 refine ⟨is.map fun i=>(ρ[i]?).getD 0,hσ,by simp,hin,?_⟩;have hstand:∀q∈Zn s.heap (c.env.locals::ρ.filter fun b=>decide (b∉is.map fun i=>(ρ[i]?).getD 0)),q.1∈c.env.locals::ρ∧s.heap.get? q.1=some q.2∧q.1∉is.map fun i=>(ρ[i]?).getD 0:=fun q hq=>by
  refine oza (Zi hq) fun h1 h2=>?_;rcases List.mem_cons.mp h1 with h1 | h1
  ·rw [h1] at h2 ⊢;exact ⟨.head _,h2,fun hb=>(W.fr _ (hin _ hb)).2 rfl⟩
  ·refine oza (List.mem_filter.mp h1) fun h3 h4=>?_;exact ⟨.tail _ h3,h2,Kw h4⟩
 exact {
  base:=W.base,g0:=Sub.refl _,keep:=W.keep,reg:=W.reg,gens:=W.gens,bare:=W.bare,os:=W.os
  hid:=fun q hq=>by
   rcases List.mem_append.mp hq with hq | hq
   ·exact W.hid q hq
   ·refine Yq (hstand q hq) fun h1 h2 u=>?_;exact ⟨h2,W.nomut _ (ZT h1),(W.apart _ h1).1⟩
  len:=by simp [hos]
  nd:=by
   refine List.pairwise_map.mpr (List.Pairwise.imp_of_mem ?_ hnd);intro a b ha hb hab e;rw [Ke (hlt a ha),Ke (hlt b hb)] at e;exact hab (Y0 W.nd (hlt a ha) (hlt b hb) e)
  fr:=fun b hb=>(W.fr b (hin b hb)).1
  own:=fun j o a h1 h2=>by
   have hj:j<is.length:=by rw [←hos];exact (List.getElem?_eq_some_iff.mp h1).1
   obtain ⟨x,e1,e2⟩:=ho j is[j] (Ke hj);rw [h1] at e1;obtain rfl:=Kc e1;refine (ZcY hσ).mp (W.own _ _ a e2 ?_)
   have:=hσ j;unfold iot at this;rw [Ke hj] at this;exact this.trans h2
  apart:=fun b hb=>⟨(W.apart b (.tail _ (hin b hb))).1,fun q hq=>by
   rcases List.mem_append.mp hq with hq | hq
   ·exact (W.apart b (.tail _ (hin b hb))).2 q hq
   ·refine Yq (hstand q hq) fun u u h3=>?_;exact fun e=>h3 (e▸hb)⟩
  pin:=fun q hq=>ZfT hq}
theorem RSW.got (W:RSW c F st vs s g ρ m) {is:List Nat}{σ:List Addr}(hσ:∀j:Nat,ρ[iot is st.own.length j]?=σ[j]?) (hl:σ.length=is.length) (hin:∀b∈σ,b∈ρ) (hnd:is.Nodup) {s':Shared}{g':Heap}{σ':List Addr}{os':List O}(H:OW c.G (F.lend g s.heap c.env.locals ρ σ) os' s' g' σ') (hs:Sub g g') :
 ∃ρ',(∀j:Nat,ρ'[iot is st.own.length j]?=σ'[j]?)∧Ext ρ ρ'∧RSW c F ⟨st.loc,Wq is st.own os',st.stk⟩ vs s' g' ρ' m:=by
 have hpin:∀(j:Nat) a,σ[j]?=some a→σ'[j]?=some a:=fun j a e=>H.pin (j,a) (UA e);have hlen:is.length≤σ'.length:=by
  rw [←hl];induction hz:σ.length using Nat.casesOn with
  | zero=>exact Nat.zero_le _
  | succ k =>
   have:=hpin k _ (Ke (by omega))
   have:=(ZI this).1;assumption
 have ext:Ext ρ (ρ++σ'.drop is.length):=fun i a e=>by
  rw [Kl (ZI e).1];exact e
 have hι:∀j:Nat,(ρ++σ'.drop is.length)[iot is st.own.length j]?=σ'[j]?:=fun j=>by
  by_cases hj:j<is.length
  ·have h1:=hσ j;have h2:σ[j]?=some σ[j]:=Ke (by omega);rw [h2] at h1;rw [ext _ _ h1,hpin _ _ h2]
  ·have:iot is st.own.length j=st.own.length+(j - is.length):=by unfold iot;rw [List.getElem?_eq_none (by exact Nat.not_lt.mp (by assumption))]
   rw [this,←W.len,Km (by exact Ko _ _),List.getElem?_drop];congr 1;omega
 have hid:∀b∈c.env.locals::ρ,b∉σ→∃ob,s.heap.get? b=some ob∧s'.heap.get? b=some ob∧g'.get? b=none∧∀d∈σ',d≠b:=fun b hb hn=>by
  refine oze (W.there b hb) fun ob e=>?_;have hm:(b,ob)∈F.hid++Zn s.heap (c.env.locals::ρ.filter fun b=>decide (b∉σ)):=by
   refine Kf _ (ZU ?_ e);refine Or.elim (ZQ hb) (fun hb=>?_) fun hb=>?_
   ·exact hb▸.head _
   ·exact .tail _ (List.mem_filter.mpr ⟨hb,decide_eq_true hn⟩)
  refine Yq (H.hid (b,ob) hm) fun h1 h2 u=>?_;exact ⟨ob,e,h1,h2,fun d hd=>(H.apart d hd).2 _ hm⟩
 have hL:c.env.locals∉σ:=fun hb=>(W.fr _ (hin _ hb)).2 rfl;refine Wt (hid _ (.head _) hL) fun lo l1 l2 l3 l4=>?_;have hσσ:∀b∈σ,∃j:Nat,j<is.length∧σ'[j]?=some b:=fun b hb=>by
  refine oze (Zin hb) fun j e=>?_;exact ⟨j,by rw [←hl];exact (ZI e).1,hpin _ _ e⟩
 have hnew:∀b∈σ'.drop is.length,b∈σ'∧b∉ρ:=fun b hb=>by
  refine ⟨List.mem_of_mem_drop hb,fun hr=>?_⟩;by_cases hn:b∈σ
  ·refine Zb (hσσ b hn) fun j h1 h2=>?_;refine oze (Zin hb) fun i h3=>?_;rw [List.getElem?_drop] at h3;obtain ⟨a1,a2⟩:=ZI h2;obtain ⟨b1,b2⟩:=ZI h3
   have:=Y0 H.nd a1 b1 (a2.trans b2.symm);omega
  ·refine Wt (hid b (.tail _ hr) hn) fun u u u u h=>?_;exact h b (List.mem_of_mem_drop hb) rfl
 have hg0:∀b∈ρ,g'.get? b=none:=fun b hb=>by
  by_cases hn:b∈σ
  ·refine Zb (hσσ b hn) fun j u h2=>?_;exact H.fr b (Kj h2)
  ·refine Wt (hid b (.tail _ hb) hn) fun u u u h u=>?_;exact h
 refine ⟨_,hι,ext,{
  base:=H.base,g0:=W.g0.trans hs,keep:=H.keep,reg:=H.reg,hid:=fun q hq=>H.hid q (Kg _ hq),gens:=H.gens,bare:=H.bare,os:=H.os
  ns:=by refine ZZ W.ns fun o es ep h r=>?_;exact ⟨o,es,ep,by rw [l1] at h;obtain rfl:=Kc h;exact l2,r⟩
  nl:=l3
  loc:=fun y a h=>by refine Zc (W.loc y a h) fun z v e0 e r=>?_;exact ⟨z,v,e0,e,AR.sub _ _ hs ext a v r⟩
  len:=by
   have:=H.len;simp only [Wq,List.length_append,YS,List.length_map,List.length_drop,W.len];lia
  nd:=List.nodup_append.mpr ⟨W.nd,H.nd.sublist (List.drop_sublist _ _),fun x hx y hy e=>(hnew y hy).2 (e▸hx)⟩
  fr:=fun b hb=>by
   rcases List.mem_append.mp hb with hb | hb
   ·exact ⟨hg0 b hb,(W.fr b hb).2⟩
   ·exact ⟨H.fr b (hnew b hb).1,l4 b (hnew b hb).1⟩
  own:=fun i o a h1 h2=>?_
  stk:=ARs.sub _ _ hs ext _ _ W.stk
  cel:=fun x i h=>by refine Zb (W.cel x i h) fun b e r=>?_;exact ⟨b,ext _ _ e,r⟩
  apart:=fun b hb=>by
   rcases List.mem_cons.mp hb with rfl | hb
   ·exact W.apart _ (.head _)
   refine Or.elim (List.mem_append.mp hb) (fun hb=>?_) fun hb=>?_
   ·exact W.apart _ (.tail _ hb)
   ·have:=H.apart b (hnew b hb).1;exact ⟨this.1,fun q hq=>this.2 q (Kg _ hq)⟩
  pin:=fun q hq=>ext _ _ (W.pin q hq)}⟩
 have hlo:is.length≤os'.length:=by rw [←H.len];exact hlen
 by_cases hi:i<st.own.length
 ·unfold Wq at h1;rw [Kl (by rw [YS];exact hi)] at h1;rw [Kl (by rw [W.len];exact hi)] at h2;rcases ZdY hnd hlo h1 with ⟨j,y,e1,e2,rfl⟩ | ⟨e1,e2⟩
  ·have hij:iot is st.own.length j=i:=by unfold iot;rw [e1]
   have h3:σ'[j]?=some a:=by rw [←hι j,hij];exact ext _ _ h2
   exact (ZcY hι).mpr (H.own _ _ _ e2 h3)
  ·refine OAt.sub _ _ hs ext (fun ob e=>?_) o (W.own i o a e2 h2);have ha:a∉σ:=fun hm=>by
    refine oze (List.mem_iff_getElem?.mp hm) fun j hj=>?_;have h3:=hσ j;have hjl:j<is.length:=by rw [←hl];exact (List.getElem?_eq_some_iff.mp hj).1
    unfold iot at h3;rw [Ke hjl,hj] at h3;obtain ⟨a1,a2⟩:=List.getElem?_eq_some_iff.mp h3;obtain ⟨b1,b2⟩:=List.getElem?_eq_some_iff.mp h2
    have:=Y0 W.nd a1 b1 (a2.trans b2.symm);exact e1 (this▸List.getElem_mem _)
   refine Wt (hid a (.tail _ (Kj h2)) ha) fun ob' r1 r2 u u=>?_;rw [r1] at e;obtain rfl:=Kc e;exact r2
 ·have hi':st.own.length≤i:=by exact Nat.not_lt.mp (by assumption)
  unfold Wq at h1;rw [Km (by rw [YS];exact hi'),YS,List.getElem?_map] at h1;refine Zb (Option.map_eq_some_iff.mp h1) fun y e1 zo1=>?_;subst zo1;rw [List.getElem?_drop] at e1;rw [Km (by rw [W.len];exact hi'),W.len,List.getElem?_drop] at h2;exact (ZcY hι).mpr (H.own _ _ _ e1 h2)
end
section
variable {c:Cx}{l:List (Nat×A)}{o:List O}{k:List A}{Q:St→Prop}
theorem ZaC {n:Nat}{f:Value}{need:Nat}(is:List Nat) {os:List O}{args:List A}{R:A→List O→Prop}(H:ZmG c.G f need os args R) (hk:∀h,c.G.lib.B h→ZF c f h) (hn:need≤c.fuel) (hl:args.length=n)
 (hnd:is.Nodup) (hos:os.length=is.length) (ho:∀(j i:Nat),is[j]?=some i→∃x,os[j]?=some x∧o[i]?=some (Xy (iot is o.length) x))
 (q:∀a os',R a os'→Q ⟨l,Wq is o os',Xr (iot is o.length) a::k⟩) :
 CJ c n ⟨l,o,(args.map (Xr (iot is o.length))).reverse++.d (.val f)::k⟩ Q:=fun F f' us vs s hu zq3=>by
 refine Ka fun zn19=>?_;obtain ⟨g,ρ,m,W⟩:=zq3;refine oza (Zy (xs:=args.map (Xr (iot is o.length))) W.stk (by simp [hu,hl])) fun q1 q2=>?_;refine zn19 ?_;have ef:f'=f:=Zd q2;subst ef;have hd:=c.hd;have hun:=c.hu;refine Wt (W.lend hnd hos ho) fun σ h1 h2 h3 h4=>?_;refine ⟨?_,?_⟩
 ·exact hk _ (c.G.lib.mono _ _ W.keep W.base)
 ·refine wpm (H c.A _ us s g σ c.hh (by lia) (by lia) h4 ((ZaF h1).mp q1)) (fun v s' zq4=>?_);obtain ⟨g',σ',a,os',H',hs,hv,hR⟩:=zq4;refine Zx (W.got h1 h2 h3 hnd H' hs) fun ρ' e1 e2 W'=>?_;exact ⟨_,⟨g',ρ',m,W'.stack (Zg (a:=Xr (iot is o.length) a) ((Za6 e1).mpr hv) (ARs.sub c.p c.w hs e2 _ _ (Za q2)))⟩,q a os' hR⟩
end
end
section
def Zo0 (R:A→List O→Prop) (fl:Fl) (st:St):Prop:=match fl with
 | .ret=>∃a,st.stk=[a]∧R a st.own
 | .next=>R (.d .none) st.own
 | _=>False
theorem RSW.toOW {c:Cx}{F:Fz}{st:St}{vs:List Value}{s:Shared}{g:Heap}{ρ:List Addr}{m:Str→Option Value}(W:RSW c F st vs s g ρ m):OW c.G F st.own s g ρ :=
 {toHS:=W.toHS,len:=W.len,nd:=W.nd,fr:=fun b hb=>(W.fr b hb).1,own:=W.own,apart:=fun b hb=>W.apart b (.tail _ hb),pin:=W.pin}
theorem OW.of_g {G:Gx}{F:Fz}{os:List O}{s:Shared}{g g':Heap}{σ:List Addr}(x:Sub F.g₀ g) (H:OW G {F with g₀:=g} os s g' σ):OW G F os s g' σ :=
 {base:=H.base,g0:=x.trans H.g0,keep:=H.keep,reg:=H.reg,hid:=H.hid,gens:=H.gens,bare:=H.bare,os:=H.os,len:=H.len,nd:=H.nd,fr:=H.fr,own:=H.own,apart:=H.apart,pin:=H.pin}
def OSpecC (G:Gx) (f:Value) (need:Nat) (os:List O) (args:List A) (R:A→List O→Prop):Prop :=
 ∀(A:Around) (F:Fz) (us:List Value) (s:Shared) (g:Heap) (σ:List Addr),A.handled=none→A.depth+need<recursionLimit→A.units+8*need+40≤cLine→OW G F os s g σ→ARs G.p G.w g σ args us →
  codeAny (model G.p G.w) A (.call f ⟨us,[]⟩) (fun r s'=>match r with | .ok (.ret v)=>OPost G F g R v s' | .ok _=>False | .error e=>NoE e s') s
theorem OSpecC.toO {G:Gx}{f:Value}{need:Nat}{os:List O}{args:List A}{R:A→List O→Prop}(h:OSpecC G f need os args R):ZmG G f need os args R:=fun A F us s g σ h1 h2 h3 h4 h5=>wpAny_call (h A F us s g σ h1 h2 h3 h4 h5)
end
section
section
variable {p:Program}{w:World}
theorem WR (v:Value) (n:Str):v.isStr n=(strKind p w).is n v:=by induction v <;> rfl
theorem ZaN {es:Array DictEntry}(hk:KeysOf (strKind p w) es):es.toList.any (·.refKey)=false:=by
 rw [List.any_eq_false];intro e he;refine Zb (hk e (by simpa using he)) fun k h1 j=>?_;refine oze (Value.isStrOf_shape h1) fun t ht=>?_;unfold DictEntry.refKey;rw [ht];simp
theorem We {o:Obj}{es:Array DictEntry}{ep:Nat}{kvs:List (Str×Value)}(hd:o.data = .dict es ep) (hk:KeysOf (strKind p w) es) (hp:Pairs (strKind p w) es.toList kvs) (n:Str):W.lookIn n o=some (valueAt kvs n):=by
 unfold W.lookIn;rw [hd]
 try dsimp only
 have e:(fun e:DictEntry=>e.key.isStr n)=fun e=>(strKind p w).is n e.key:=funext fun e=>WR _ _;have hf:=hp.find n;simp only [e];cases hq:es.toList.find? (fun e=>(strKind p w).is n e.key) with
 | some en=>rw [hq] at hf;simpa using hf
 | none=>rw [hq] at hf;simp only [ZaN hk,Bool.false_eq_true,if_false];simpa using hf
theorem ZbH {h:Heap}{d:Addr}{o:Obj}{es:Array DictEntry}{ep:Nat}{kvs:List (Str×Value)}(ho:h.get? d=some o) (hc:o.ExactDict) (hd:o.data = .dict es ep) (hk:KeysOf (strKind p w) es) (hp:Pairs (strKind p w) es.toList kvs) (hn:(kvs.map (·.1)).Nodup)
 (n:Str) (t:Tok) (v:Value):∃es' ep',(Obj.putName n (PyData.keyHash w.params n) (.str n t) v o).data = .dict es' ep'∧es'.size≤es.size+1∧(h.update d (Obj.putName n (PyData.keyHash w.params n) (.str n t) v)).DictOf (strKind p w) d (stored kvs n v):=by
 obtain ⟨oc,od,oda,osl⟩:=o;obtain ⟨c1,c2,c3⟩:=hc;dsimp only at c1 c2 c3 hd;subst c1 c2 c3 hd;have e:(fun e:DictEntry=>e.key.isStr n)=fun e=>(strKind p w).is n e.key:=funext fun e=>WR _ _;have hidx:(es.findIdx? fun e=>(strKind p w).is n e.key)=kvs.findIdx? fun kv=>decide (kv.1=n):=by
  rw [←hp.findIdx n];obtain ⟨l⟩:=es;simp
 have hkey:(strKind p w).is n (.str n t)=true:=strKind_is _ _ n t;cases hi:es.findIdx? fun e=>(strKind p w).is n e.key with
 | some i =>
  have hput:Obj.putName n (PyData.keyHash w.params n) (.str n t) v ⟨.type "dict",none,.dict es ep,#[]⟩=⟨.type "dict",none,.dict (es.modify i fun e=>{e with val:=v}) ep,#[]⟩:=by
   rw [Obj.putName_eq];unfold Obj.putNameByArray;simp only [e,hi]
  refine ⟨_,_,by rw [hput],by simp,?_⟩;refine ⟨_,_,ep,(Heap.get?_update_self _ ho (by rw [hput];rfl)).trans (by rw [hput]),⟨rfl,rfl,rfl⟩,rfl,hk.modify _ _,?_,?_⟩
  ·rw [stored,if_pos (any_of_findIdx_some (hidx▸hi))];have hl:(es.toList.findIdx? fun e=>(strKind p w).is n e.key)=some i:=by rw [←hi];obtain ⟨l⟩:=es;simp
   have:=hp.modify hn hl v;obtain ⟨l⟩:=es;simpa using this
  ·rw [stored,if_pos (any_of_findIdx_some (hidx▸hi)),keys_map_store];exact hn
 | none =>
  have hput:Obj.putName n (PyData.keyHash w.params n) (.str n t) v ⟨.type "dict",none,.dict es ep,#[]⟩=⟨.type "dict",none,.dict (es.push ⟨PyData.keyHash w.params n,.str n t,v⟩) (ep+1),#[]⟩:=by
   rw [Obj.putName_eq];unfold Obj.putNameByArray;simp only [e,hi]
  have hnot:n∉kvs.map (·.1):=not_mem_of_findIdx_none (hidx▸hi);have hany:¬(kvs.any fun kv=>decide (kv.1=n))=true:=by
   rw [List.any_eq_true];rintro ⟨kv,hkv,he⟩;exact hnot (List.mem_map.mpr ⟨kv,hkv,Kw he⟩)
  refine ⟨_,_,by rw [hput],by simp,?_⟩;refine ⟨_,_,ep+1,(Heap.get?_update_self _ ho (by rw [hput];rfl)).trans (by rw [hput]),⟨rfl,rfl,rfl⟩,rfl,hk.push hkey _,?_,?_⟩
  ·rw [stored,if_neg hany]
   have:=hp.append hkey ((strKind p w).hash n) v;obtain ⟨l⟩:=es;simpa using this
  ·rw [stored,if_neg hany,List.map_append,List.nodup_append];refine ⟨hn,by simp,?_⟩;intro a ha b hb;simp only [List.map_cons,List.map_nil,List.mem_singleton] at hb;subst hb;exact fun e=>hnot (e▸ha)
noncomputable def Zek (K:W.Frag) (C:Addr) (name:Str):Bool:=W.findIn K (.ref C) "__setattr__"==some (some (.builtin "object.__setattr__"))&&W.plainOver K C&&W.takerIn K C name==some none&&W.hasDictIn K C
noncomputable def Zb8 (K:W.Frag) (C:Addr) (name:Str):Bool:=W.plainGet K C name&&W.hasDictIn K C&&(W.findIn K (.ref C) name).any fun attr=>W.noGet K attr
section
variable {A:Around}{E:Value→Shared→Prop}{s:Shared}{K:W.Frag}{x C dx:Addr}{kvs:List (Str×Value)}{name:Str}
theorem WE {o:Obj}{h:Heap}(hx:h.get? x=some {cls:=.ref C,dict:=some dx,data:=.plain}) (ho:h.get? dx=some o):W.InstAt h x {cls:=.ref C,dict:=some dx,data:=.plain} C (some o):=⟨hx,rfl,rfl,ho⟩
theorem Zkd {v:Value}{Q:Unit→Shared→Prop}(X:K.In s.heap) (hx:s.heap.get? x=some {cls:=.ref C,dict:=some dx,data:=.plain}) (hD:s.heap.DictOf (strKind p w) dx kvs) (hok:Zek K C name=true) (hz:kvs.length≤1000)
 (q:∀h',h'.DictOf (strKind p w) dx (stored kvs name v)→Heap.SameBut dx s.heap h'→Q () {s with heap:=h',toks:=s.toks+2}):wpAny (model p w) A (setAttr (.ref x) name v) Q E s:=by
 unfold Zek at hok;simp only [Bool.and_eq_true,beq_iff_eq] at hok;refine Ka fun zn4=>?_;refine oza hok fun zo3 h4=>?_;refine oza zo3 fun zo2 h3=>?_;refine oza zo2 fun h1 h2=>?_;obtain ⟨od,es,ep,ho,hc,hd,hk,hp,hn⟩:=hD;refine zn4 ?_;have I:=WE hx ho;refine W.set_plain X I h1 (W.osa_open (s:={s with toks:=s.toks+1}) X I h2 h3 fun b=>?_);refine Ka fun zn5=>?_;refine Zb (W.any_some h4) fun cd hc' hd'=>?_;refine Zc (ZbH ho hc hd hk hp hn name (s.toks+1) v) fun es' ep' e1 e2 e3=>?_;refine zn5 ?_;refine Kd (Ki (Kd (Kd (wpAny_loadPart hx (Kd (W.Looks.here (s:={s with toks:=s.toks+1}) (W.looks_clsIn X hc') ?_))))));rw [hd'];refine Ki (a:=some dx) (Kd (Ki (Kd ?_)));unfold nsSet;refine Kd (Kd (wpAny_askSetting (Ki (Kd (wpAny_mkText (Kd (wpAny_loadPart ho ?_)))))));rw [hd]
 try dsimp only
 have c:(!es.any (·.key.isStr name)&&es.any (·.refKey))=false:=by
  have:=ZaN hk;rw [Array.any_toList] at this;rw [this,Bool.and_false]
 rw [aRefKeyMayBeTheName_at,c];refine wpAny_updatePart ho ?_;have D':(s.heap.update dx (Obj.putName name (PyData.keyHash w.params name) (.str name (s.toks+1)) v)).get? dx=some (Obj.putName name (PyData.keyHash w.params name) (.str name (s.toks+1)) v od):=Heap.get?_update_self _ ho (Obj.isFreed_of_dict e1)
 have hes:es.size=kvs.length:=by have e1:=hp.length;have e2:es.toList.length=es.size:=by rfl
                                 assumption
 refine Kd (wpAny_lookBehind D' (by rw [e1];exact pastItsLine_dict (by rw [sizeLine_eq];lia)) ?_);exact Ki (q _ e3 (Heap.SameBut.update ..))
theorem Zd3 {v:Value}{Q:Value→Shared→Prop}{expr:Bool}(X:K.In s.heap) (hx:s.heap.get? x=some {cls:=.ref C,dict:=some dx,data:=.plain}) (hD:s.heap.DictOf (strKind p w) dx kvs) (hok:Zb8 K C name=true) (hv:valueAt kvs name=some v) (hh:W.handedIn v=true)
 (q:Q v {s with toks:=s.toks+1}):wpAny (model p w) A (getAttr (.ref x) name expr) Q E s:=by
 unfold Zb8 at hok;simp only [Bool.and_eq_true] at hok;refine Ka fun zn6=>?_;refine oza hok fun zo2 h3=>?_;refine oza zo2 fun h1 h2=>?_;refine Zb (W.any_some h3) fun attr h4 h5=>?_;obtain ⟨od,es,ep,ho,hc,hd,hk,hp,hn⟩:=hD;refine zn6 ?_;exact W.get_value X (WE hx ho) (W.plainGet_of h1).1 (W.findObj_own h2 h4 h5 ((We hd hk hp name).trans (by rw [hv]))) hh q
end
end
end
section
noncomputable def Yj {α:Type}(es:List (Str×α)) (k:Str) (a:α):List (Str×α) :=
 if es.any (fun e=>e.1=k) then es.map (fun e=>if e.1=k then (e.1,a) else e) else es++[(k,a)]
noncomputable def YH {α:Type}(es:List (Str×α)) (k:Str):Option α:=(es.find? fun e=>e.1=k).map (·.2)
section
variable {p:Program}{w:World}{g:Heap}{ρ:List Addr}
theorem ZkI {k:Str}{es:List (Str×A)}{kvs:List (Str×Value)}(h:ARe p w g ρ es kvs):(kvs.any fun e=>e.1=k)=es.any fun e=>e.1=k:=(Y1.mp h).any fun j j h=>by rw [h.1]
theorem ZlA {k:Str}{a:A}{v:Value}(hv:AR p w g ρ a v) {es:List (Str×A)}{kvs:List (Str×Value)}(h:ARe p w g ρ es kvs):ARe p w g ρ (es.map fun e=>if e.1=k then (e.1,a) else e) (kvs.map fun e=>if e.1=k then (e.1,v) else e) :=
 Y1.mpr ((Y1.mp h).map fun x u h=>by
  by_cases e:x.1=k
  ·rw [if_pos e,if_pos (h.1.trans e)];exact ⟨h.1,hv⟩
  ·rw [if_neg e,if_neg fun z=>e (h.1.symm.trans z)];exact h)
theorem ZeN {es fs:List (Str×A)}{kvs us:List (Str×Value)}(h:ARe p w g ρ es kvs) (h2:ARe p w g ρ fs us):ARe p w g ρ (es++fs) (kvs++us):=Y1.mpr ((Y1.mp h).app (Y1.mp h2))
theorem XW {k:Str}{a:A}{v:Value}{es:List (Str×A)}{kvs:List (Str×Value)}(h:ARe p w g ρ es kvs) (hv:AR p w g ρ a v):ARe p w g ρ (Yj es k a) (stored kvs k v):=by
 unfold Yj stored;rw [ZkI h];split
 ·exact ZlA hv h
 ·exact ZeN h ⟨v,[],rfl,hv,rfl⟩
theorem Zg0 {α:Type}{x:Str×α}{es:List (Str×α)}{k:Str}:YH (x::es) k=if x.1=k then some x.2 else YH es k:=by
 unfold YH;rw [List.find?_cons];by_cases e:x.1=k
 ·rw [if_pos e,decide_eq_true e];rfl
 ·rw [if_neg e,decide_eq_false e]
theorem Zdf {x:Str×Value}{es:List (Str×Value)}{k:Str}:valueAt (x::es) k=if x.1=k then some x.2 else valueAt es k:=by
 unfold valueAt;rw [List.find?_cons];by_cases e:x.1=k
 ·rw [if_pos e,decide_eq_true e];rfl
 ·rw [if_neg e,decide_eq_false e]
theorem ZdU {k:Str}{es:List (Str×A)}{kvs:List (Str×Value)}(h:ARe p w g ρ es kvs):ARo p w g ρ (YH es k) (valueAt kvs k):=by
 replace h:=Y1.mp h;induction h with
 | nil=>rfl
 | @cons x v _ _ h _ ih =>
  rw [Zg0,Zdf,h.1];by_cases e:x.1=k
  ·rw [if_pos e,if_pos e];exact ⟨_,rfl,h.2⟩
  ·rw [if_neg e,if_neg e];exact ih
theorem Ux {k:Str}{a:A}{es:List (Str×A)}{kvs:List (Str×Value)}(h:ARe p w g ρ es kvs) (hk:YH es k=some a):∃v,valueAt kvs k=some v∧AR p w g ρ a v:=by
 have:=ZdU (k:=k) h;rw [hk] at this;exact this
theorem Xg {k:Str}{es:List (Str×A)}{kvs:List (Str×Value)}(h:ARe p w g ρ es kvs) (hk:YH es k=none):valueAt kvs k=none:=by
 have:=ZdU (k:=k) h;rw [hk] at this;exact this
theorem Zav {es:List (Str×D)}{kvs:List (Str×Value)}(h:VRe p w g es kvs):ARe p w g ρ (es.map fun e=>(e.1,A.d e.2)) kvs:=by
 induction es generalizing kvs with
 | nil=>exact h
 | cons e es ih=>exact h.imp fun v h=>h.imp fun r h=>⟨h.1,h.2.1,ih h.2.2⟩
theorem Zj7 {es:List (Str×D)}{k:Str}{d:D}(h:YH es k=some d):YH (es.map fun e=>(e.1,A.d e.2)) k=some (.d d):=by
 unfold YH at h ⊢;refine Zb (Z9 h) fun e h1 h2=>?_;rw [List.find?_map];have:(fun e:Str×A=>decide (e.1=k))∘(fun e:Str×D=>(e.1,A.d e.2))=fun e=>decide (e.1=k):=rfl;rw [this,h1,←h2];rfl
noncomputable def Zbw:A→Bool
 | .d (.val _)=>false
 | _=>true
theorem ZbY {a:A}{v:Value}(h:AR p w g ρ a v) (hp:Zbw a=true):W.handedIn v=true:=by
 induction a using A.casesOn with
 | d x =>
  induction x using D.casesOn with
  | none=>subst h;rfl
  | bool b=>subst h;rfl
  | int i=>refine oze h fun t zo1=>?_;subst zo1;rfl
  | str i=>refine oze h fun t zo2=>?_;subst zo2;rfl
  | bytes i=>refine oze h fun t zo3=>?_;subst zo3;rfl
  | list xs=>refine Zz h fun j j zo4 j=>?_;subst zo4;rfl
  | tuple xs=>refine Zz h fun j j zo5 j=>?_;subst zo5;rfl
  | dict xs=>refine Zz h fun j j zo6 j=>?_;subst zo6;rfl
  | range a b=>refine Xf h fun j j j j zo7 j=>?_;subst zo7;rfl
  | slice a b c=>refine Xf h fun j j j j zo8 j=>?_;subst zo8;rfl
  | view k es=>refine ZZ h fun j j j zo9 j=>?_;subst zo9;rfl
  | inst c fs=>refine Zz h fun j j zo10 j=>?_;subst zo10;rfl
  | val u=>exact YU hp
 | own i=>refine Zb h fun j j zo11=>?_;subst zo11;rfl
 | view k i=>refine Zc h fun j j j zo12 j=>?_;subst zo12;rfl
end
def KIn (c:Cx) (K:W.Frag):Prop:=∀h,c.G.lib.B h→K.In h
theorem kIn {K:Params→W.Frag}{G:Gx}{w:World}(I:IsK K G w) {c:Cx}(hG:c.G=G):KIn c (K w.params):=fun h hB=>by subst hG;exact (I.B h hB).1
def AtJ (c:Cx) (name:Str) (st:St) (Q:St→Prop):Prop :=
 ∀F ov v vs s,RS c F st (ov::v::vs) s→wpAny (model c.p c.w) c.A (setAttr ov name v) (fun j s'=>Got c F vs Q s') NoE s
def GaJ (c:Cx) (name:Str) (st:St) (Q:St→Prop):Prop :=
 ∀F ov vs s expr,RS c F st (ov::vs) s→wpAny (model c.p c.w) c.A (getAttr ov name expr) (EQ c F vs Q) NoE s
section
variable {c:Cx}{st:St}{l:List (Nat×A)}{o:List O}{k:List A}{Q:St→Prop}{QF:Fl→St→Prop}{K:W.Frag}
theorem RSW.kIn {F:Fz}{vs:List Value}{s:Shared}{g:Heap}{ρ:List Addr}{m:Str→Option Value}(W:RSW c F st vs s g ρ m) (hK:KIn c K):K.In s.heap:=hK _ (c.G.lib.mono _ _ W.keep W.base)
theorem ZoT {oe:Expr}{attr:Str}{pos' pos:Pos}{value:Expr}(h:EJ c value st fun st1=>EJ c oe st1 fun st2=>AtJ c attr st2 (QF .next)) (hs:swapsWith value (some (.Attribute oe attr pos')) pos.line c.env=pure false:=by rfl) :
 SJ c (.Assign [.Attribute oe attr pos'] value pos) st QF:=fun F vs s R =>
 plainObj_wpAny_Assign_Attribute (wpm (h F vs s R) (fun v s1 zq0=>by refine ozg zq0 fun st1 R1 h1=>?_;exact Kb (h1 F (v::vs) s1 R1) (fun ov s2 zq1=>by refine ozg zq1 fun st2 R2 h2=>?_;exact h2 F ov v vs s2 R2) fun j j x=>x)) hs
theorem Zob {C:Addr}{i j:Nat}{es:List (Str×A)}{ep:Nat}{a:A}{name:Str}(hK:KIn c K) (hok:Zek K C name=true) (ho:o[i]?=some (.inst C j)) (hd:o[j]?=some (.dict es ep)) (hz:es.length≤1000) (q:∀ep',Q ⟨l,o.set j (.dict (Yj es name a) ep'),k⟩) :
 AtJ c name ⟨l,o,.own i::a::k⟩ Q:=fun F ov v vs s zq2=>by
 refine ozr zq2 fun g ρ m W=>?_;refine Zb (Zd W.stk) fun ai ea e1=>?_;subst e1;refine Zb (W.own i _ ai ho ea) fun dx e2 e3=>?_;refine Zx (W.own j _ dx hd e2) fun kvs n0 d0 r0=>?_;refine Zkd (W.kIn hK) e3 d0.dictOf hok (by rw [Yy r0];exact hz) fun h' hd' hs=>?_;refine oze hd'.dictAt fun ep' hd'=>?_;exact ⟨_,⟨g,ρ,m,(W.stack (Za (Za W.stk))).setOwn (t:=s.toks+2) (List.getElem?_eq_some_iff.mp hd).1 e2 (fun b ob hb eb=>(hs.2 b hb).trans eb) (o':=.dict (Yj es name a) ep') ⟨_,n0,hd',XW r0 (Zd (Za W.stk))⟩⟩,q ep'⟩
theorem Wx {oe:Expr}{attr:Str}{pos:Pos}(h:EJ c oe st fun st1=>GaJ c attr st1 Q) (hb:Xw oe=false:=by rfl):EJ c (.Attribute oe attr pos) st Q:=fun F vs s R=>by
 rw [arm_eval_Attribute];refine Kd (ZbP hb (wpm (h F vs s R) (fun ov s1 zw=>ozg zw fun st1 R1 h1=>Kd (wpAny_standAt (Kd (wpAny_holding (Kb (h1 F ov vs s1 true R1) (fun v s2 h2=>?_) fun j j x=>x)))))));exact Kd (wpAny_letTemporaryGo (Ki h2))
theorem ZiY {C:Addr}{i j:Nat}{es:List (Str×A)}{ep:Nat}{a:A}{name:Str}(hK:KIn c K) (hok:Zb8 K C name=true) (ho:o[i]?=some (.inst C j)) (hd:o[j]?=some (.dict es ep)) (hv:YH es name=some a) (hp:Zbw a=true) (q:Q ⟨l,o,a::k⟩) :
 GaJ c name ⟨l,o,.own i::k⟩ Q:=fun F ov vs s expr zq4=>by
 obtain ⟨g,ρ,m,W⟩:=zq4;refine Zb (Zd W.stk) fun ai ea e1=>?_;subst e1;refine Zb (W.own i _ ai ho ea) fun dx e2 e3=>?_;refine Zx (W.own j _ dx hd e2) fun kvs n0 d0 r0=>?_;refine Zb (Ux r0 hv) fun v e4 e5=>?_;exact Zd3 (W.kIn hK) e3 d0.dictOf hok e4 (ZbY e5 hp) ⟨_,⟨g,ρ,m,(W.tok _).stack (Zg e5 (Za W.stk))⟩,q⟩
theorem X5 {C:Addr}{es:List (Str×D)}{d:D}{name:Str}(hK:KIn c K) (hok:Zb8 K C name=true) (hv:YH es name=some d) (hp:Zbw (.d d)=true) (q:Q ⟨l,o,.d d::k⟩) :
 GaJ c name ⟨l,o,.d (.inst C es)::k⟩ Q:=fun F ov vs s expr zq5=>by
 obtain ⟨g,ρ,m,W⟩:=zq5;refine Zc (Zd W.stk) fun ai kvs e1 zo2 r0=>?_;refine Zb zo2 fun dx e3 d0=>?_;subst e1;refine Zb (Ux (Zav (ρ:=ρ) r0) (Zj7 hv)) fun v e4 e5=>?_;exact Zd3 (W.kIn hK) (W.keep _ _ e3) (ZA _ _ W.keep d0) hok e4 (ZbY e5 hp) ⟨_,⟨g,ρ,m,(W.tok _).stack (Zg e5 (Za W.stk))⟩,q⟩
noncomputable def ZcP (K:W.Frag) (C f:Addr) (name:Str):Bool:=W.plainGet K C name&&W.findIn K (.ref C) name==some (some (.ref f))&&W.typeIn K (.ref f)==some (.type "function")
theorem WX {C f:Addr}{es:List (Str×D)}{name:Str}{QM:Nat→St→Prop}(hK:KIn c K) (hok:ZcP K C f name=true) (hv:YH es name=none) (q:QM 1 ⟨l,o,.d (.inst C es)::.d (.val (.ref f))::k⟩) :
 MJ c name ⟨l,o,.d (.inst C es)::k⟩ QM:=fun F ov vs s pl zq6=>by
 refine ozr zq6 fun g ρ m Y=>?_;refine Zc (Zd Y.stk) fun ai kvs e1 zo2 r0=>?_;refine Zb zo2 fun dx e3 d0=>?_;subst e1;unfold ZcP at hok;simp only [Bool.and_eq_true,beq_iff_eq] at hok;refine Ka fun zn9=>?_;refine oza hok fun zo3 h3=>?_;refine oza zo3 fun h1 h2=>?_;obtain ⟨od,es',ep,ho,hc,hd,hk,hp,hn⟩:=ZA _ _ Y.keep d0;refine zn9 ?_;have I:=WE (Y.keep _ _ e3) ho;have hn0:YH (es.map fun e=>(e.1,A.d e.2)) name=none:=by
  unfold YH at hv ⊢;rw [Option.map_eq_none_iff] at hv ⊢;rw [List.find?_map];have:(fun e:Str×A=>decide (e.1=name))∘(fun e:Str×D=>(e.1,A.d e.2))=fun e=>decide (e.1=name):=rfl;rw [this,hv];rfl
 have hv':=Xg (Zav (ρ:=ρ) r0) hn0;refine W.method_fn (Y.kIn hK) I (W.plainGet_of h1).1 (W.plainGet_of h1).2 h2 h3 ?_ ⟨_,⟨g,ρ,m,Y.stack (Zg (Zd Y.stk) (Zg X8 (Za Y.stk)))⟩,q⟩;unfold W.shadowIn
 try dsimp only
 rw [We hd hk hp name,hv'];rfl
end
end
section
noncomputable def UP (K:W.Frag) (C fI:Addr):Bool:=W.makesIn K C&&W.findIn K (.ref C) "__init__"==some (some (.ref fI))&&W.typeIn K (.ref fI)==some (.type "function")
theorem ZfA {K:Params→W.Frag}{G:Gx}{w:World}(I:IsK K G w) {v:Value}(hf:W.keepIn (K w.params) v=true) {c:Cx}(hG:c.G=G):∀h,c.G.lib.B h→ZF c v h:=fun h hB=>by
 subst hG;refine oza (I.B h hB) fun X j=>?_;exact W.keeps_K hf h X
end
section
theorem Zp5 (w:World):UP (kk2 w.params) 70 36=true:=by kd_p
theorem Ziw (w:World):UP (kk2 w.params) 201 157=true:=by kd_p
theorem ZmK (w:World):UP (kk2 w.params) 324 292=true:=by kd_p
end
section
theorem ZbL {a b:List Char}(h:a.map Char.toNat=b.map Char.toNat):a=b:=by
 induction a generalizing b with
 | nil=>induction b using LLc with
  | nil=>rfl
  | cons _ _=>exact Zj2 h
 | cons x a ih=>induction b using LLc with
  | nil=>exact Zeq h
  | cons y b =>
   refine oza (List.cons.inj h) fun h1 h2=>?_;rw [ih h2,Char.toNat_inj.mp h1]
theorem ZdD (a b:String):(Str.ofString a=Str.ofString b)=(a=b):=propext ⟨fun h=>by
 rw [Str.ofString_eq_toList,Str.ofString_eq_toList] at h;have h1:a.toList.map Char.toNat=b.toList.map Char.toNat:=by
  injection h with h
  exact congrArg Array.toList h
 exact String.toList_inj.mp (ZbL h1),fun h=>h▸rfl⟩
section
variable {c:Cx}{st:St}{l:List (Nat×A)}{o:List O}{k:List A}{Q:St→Prop}{K:W.Frag}
theorem Zl6 {pos:Pos}(q:Q ⟨l,o++[.dict [] 0],.own o.length::k⟩):EJ c (.Dict [] [] pos) ⟨l,o,k⟩ Q:=fun F vs s zq0=>by
 refine ozr zq0 fun g ρ m W=>?_;refine wpAny_Dict_empty ?_;have W1:=W.allocO {cls:=.type "dict",data:=.dict #[]} s.toks (o':=.dict [] 0) ⟨[],W.big,Xi (Kh _ rfl),rfl⟩;refine ⟨_,⟨g,_,m,W1.push (a:=.own o.length) ⟨s.heap.objs.size,?_,rfl⟩⟩,q⟩;rw [W.len.symm];simp
noncomputable def ZmD:D→Bool
 | .none=>false
 | .val _=>false
 | _=>true
theorem ZdZ {d:D}(h:ZmD d=true):ZbT d∧Xk d=false:=by induction d using D.casesOn <;> first | exact ⟨trivial,rfl⟩ | exact YU h
theorem Zeg {d:D}(hd:ZmD d=true) (q:Q ⟨l,o,.d (.bool true)::k⟩):OJ2 c (compareOp .IsNot) ⟨l,o,.d .none::.d d::k⟩ Q:=Y9 (ZdZ hd).1 (by rw [(ZdZ hd).2];exact q)
end
end
section
theorem Zrg {c:Cx}{sc:Scope}{x:Str}{i:Nat}(he:c.env.scope=sc) (ht:c.tab=Zf sc) (h:ZbM sc x i=true):IsL c x i:=by
 unfold ZbM at h;simp only [Bool.and_eq_true,beq_iff_eq,Bool.not_eq_true'] at h;exact ⟨by show c.env.scope.names.lookup x=_;rw [he];exact h.1.1,by rw [ht];exact h.1.2,h.2⟩
theorem ZqN {c:Cx}{sc:Scope}{x:Str}{v:Value}(he:c.env.scope=sc) (h:ZdT sc x=true) (hv:Xe c.G x v∨Y5 c.G x v):IsG c x v:=by
 unfold ZdT at h;simp only [Bool.and_eq_true,beq_iff_eq,Bool.not_eq_true'] at h;exact ⟨by show c.env.scope.names.lookup x=_;rw [he];exact h.1,h.2,hv⟩
structure SupFacts (K:W.Frag) (main:Module) (f fB C cc cda:Addr) (names:List Str) (ar:Arg) (vs:Array Value) (file:Str) (tf:Tok) (cls ccl cel:Value) (cdd ced:Option Addr) (ccs ces:Array (Option Value)) (cd:ClassData):Prop where
 fn:Zal K f=true
 codeIn:W.codeIn K (Zk K f).code (Zk K f).qualname=true
 code:(Zk K f).code = .ref cda
 kind:(Zk K f).scope.kind = .function
 co:(Zk K f).scope.isCoroutine=false
 gen:(Zk K f).scope.isGenerator=false
 tnd:(Zf (Zk K f).scope).Nodup
 ndn:names.Nodup
 par:names.all (fun x=>(Zk K f).scope.names.lookup x==some .local)=true
 ncell:(Zk K f).scope.names.all (fun x=>x.2 != .cell)=true
 gl:(Zk K f).globals=mainGlobals
 bu:(Zk K f).builtins=builtinsNs
 clo:(Zk K f).closure=[(("__class__":Str),cc)]
 head:((Zk K f).params.posonlyargs++(Zk K f).params.args).head?=some ar
 arg:(Zk K f).scope.names.lookup ar.arg=some .local
 arg0:(Zf (Zk K f).scope)[0]?=some ar.arg
 codeAt:K.lookup cda=some ⟨ccl,cdd,.fields vs,ccs⟩
 vs2:vs[2]?=some (.str file tf)
 file:((main.file:Str)==file)=true
 top:(main.scope.names.lookup ("super":Str)).isSome=false
 cell:K.lookup cc=some ⟨cel,ced,.cell (some (.ref C)),ces⟩
 clsC:W.clsIn K C=some cd
 mro:W.mroIn K C (.ref C)=some true
 sup:W.nsIn K mainGlobals "super"=some none
 meth:W.ks_superIn K C C "__init__"=some (some (.ref fB))
 methT:W.typeIn K (.ref fB)=some (.type "function")
 methF:W.fnIn K fB=true
 stat:W.nsIn K cStatics "thirdparty.any"=some none
 kS:(Zk K f).scope.names.lookup ("super":Str)=some .globalImplicit
 kC:(Zk K f).scope.names.lookup ("__class__":Str)=some .free
theorem Zqh (w:World):∃ar vs file tf cls ccl cel cdd ced ccs ces cd,SupFacts (kk2 w.params) pw2.main 157 109 201 144 156 ["self","name","keyids","threshold","terminating","paths","path_hash_prefixes","unrecognized_fields"] ar vs file tf cls ccl cel cdd ced ccs ces cd :=
 ⟨_,_,_,_,.none,_,_,_,_,_,_,_,{
  fn:=by kd_p,codeIn:=by kd_p,code:=by kd_p,kind:=by kd_p,co:=by kd_p,gen:=by kd_p,tnd:=Kw (by kd_p),ndn:=Kw (by kd_p),par:=by kd_p,ncell:=by kd_p
  gl:=by kd_p,bu:=by kd_p,clo:=by kd_p,head:=by kd_p1,arg:=by kd_p,arg0:=by kd_p,codeAt:=by kd_p1,vs2:=by kd_p1,file:=by kd_p,top:=by kd_p
  cell:=by kd_p1,clsC:=by kd_p1,mro:=by kd_p,sup:=by kd_p,meth:=by kd_p,methT:=by kd_p,methF:=by kd_p,stat:=by kd_p,kS:=by kd_p,kC:=by kd_p}⟩
theorem US {n:Nat}:iot (List.range n) n=id:=by
 funext j;unfold iot;by_cases hj:j<n
 ·rw [List.getElem?_range hj];rfl
 ·rw [List.getElem?_eq_none (by simp;exact Nat.not_lt.mp (by assumption))];simp;lia
theorem WG:Xr id=id:=funext fun a=>by induction a using A.casesOn <;> rfl
theorem Zau:Xy id=id:=funext fun x=>by
 induction x using O.casesOn with
 | list xs=>simp [Xy,WG]
 | dict es ep=>simp only [Xy,Zdd,WG];show O.dict (es.map id) ep=_;rw [List.map_id];rfl
 | inst c j=>rfl
 | cell x=>induction x using Option.casesOn <;> simp [Xy,WG]
 | iter=>rfl
 | dead=>rfl
theorem ZdQ {is:List Nat}{o os:List O}(h:is=List.range o.length) (hl:o.length≤os.length):Wq is o os=os:=by
 have hr:∀x:O,Xy id x=x:=fun x=>by rw [Zau];rfl
 subst h;unfold Wq;rw [US,Zau,List.map_id];simp only [List.length_range];refine List.ext_getElem? fun i=>?_;by_cases hi:i<o.length
 ·rw [Kl (by rw [YS];exact hi)];have hs:(Zdk id (List.range o.length) os o)[i]?=some ((Zdk id (List.range o.length) os o)[i]'(by rw [YS];exact hi)):=Ke (by rw [YS];exact hi);rcases ZdY List.nodup_range (by simpa using hl) hs with ⟨j,y,e1,e2,e3⟩ | ⟨e1,_⟩
  ·have:j=i:=by
    obtain ⟨a,b⟩:=ZI e1;simpa using b
   subst this;rw [hs,e2,e3,hr]
  ·exact absurd (ZeK hi) e1
 ·rw [Km (by rw [YS];exact Nat.not_lt.mp (by assumption)),YS,List.getElem?_drop];congr 1;lia
end
section
noncomputable def Yu (P:Addr):Reg:=⟨P,fun j o=>∃ps,o={cls:=.none,data:=.fields ps}∧TriplesOk ps.toList,fun j j j j h=>h⟩
noncomputable def U6:Data→Array Value
 | .fields vs=>vs
 | _=>#[]
theorem ZfN {d:Data}(h:(d.ctorIdx==9)=true):d = .fields (U6 d):=Data.fields.elim (motive:=fun d=>d = .fields (U6 d)) d (eq_of_beq h) fun j=>rfl
theorem Zfn {v:Value}(h:(v.ctorIdx==6)=true):∃x t,v = .str x t:=Value.str.elim (motive:=fun v=>∃x t,v = .str x t) v (eq_of_beq h) fun x t=>⟨x,t,rfl⟩
theorem Zft {v:Value}(h:(v.ctorIdx==4)=true):∃x t,v = .int x t:=Value.int.elim (motive:=fun v=>∃x t,v = .int x t) v (eq_of_beq h) fun x t=>⟨x,t,rfl⟩
theorem Zkk {v:Value}(h:(v.ctorIdx==3)=true):∃x,v = .bool x:=Value.bool.elim (motive:=fun v=>∃x,v = .bool x) v (eq_of_beq h) fun x=>⟨x,rfl⟩
noncomputable def WK (K:W.Frag) (cda P:Addr):Bool:=(K.lookup cda).any fun o=>o.data.ctorIdx==9&&(o.cls == .type "code"&&((U6 o.data).getD 11 .none == .ref P&&(((U6 o.data).getD 18 .none).ctorIdx==6&&(((U6 o.data).getD 7 .none).ctorIdx==4&&(((U6 o.data).getD 9 .none).ctorIdx==3&&((U6 o.data).getD 10 .none).ctorIdx==4)))))
theorem Zg4 {K:W.Frag}{h:Heap}{cda P:Addr}{op:Obj}{ps:Array Value}(X:K.In h) (e:WK K cda P=true) (hP:h.get? P=some op) (hd:op.data = .fields ps) (ht:TriplesOk ps.toList) (hne:cda≠P):h.IsCode cda P ps:=by
 refine Zb (W.any_some e) fun o hl e=>?_;refine oza (Yp e) fun e0 e=>?_;refine oza (Yp e) fun j e=>?_;refine oza (Yp e) fun a1 e=>?_;refine oza (Yp e) fun a2 e=>?_;refine oza (Yp e) fun a3 e=>?_;refine oza (Yp e) fun a4 a5=>?_;refine XN (Zfn a2) fun x1 t1 y1=>?_;refine XN (Zft a3) fun x2 t2 y2=>?_;refine oze (Zkk a4) fun x3 y3=>?_;refine XN (Zft a5) fun x4 t4 y4=>?_;exact ⟨o,_,x1,t1,x2,t2,x3,x4,t4,op,X _ _ hl,ZfN e0,eq_of_beq a1,y1,y2,y3,y4,hP,hd,ht,hne⟩
theorem WW {K:W.Frag}{h:Heap}{cda P:Addr}{ps:Array Value}(X:K.In h) (e:WK K cda P=true) (hP:h.get? P=some {cls:=.none,data:=.fields ps}):h.TableAt cda P ps:=by
 refine Zb (W.any_some e) fun o hl e=>?_;refine oza (Yp e) fun e0 e=>?_;refine oza (Yp e) fun a0 e=>?_;refine oza (Yp e) fun a1 j=>?_;refine ⟨⟨o,_,X _ _ hl,eq_of_beq a0,ZfN e0,?_⟩,hP⟩;have a1:=eq_of_beq a1;rw [Array.getD_eq_getD_getElem?] at a1;induction hv:(U6 o.data)[11]? with
 | none=>rw [hv] at a1;cases a1
 | some v=>rw [hv] at a1;exact congrArg some a1
theorem ZcE {M:Model}{A:Around}{E:Value→Shared→Prop}{s:Shared}{env:Env}{c P:Addr}{ps:Array Value}{pos:Pos}{qualname:Str}{scope:Scope}{Q:Value→Shared→Prop}(hc:env.code = .ref c) (hok:s.heap.IsCode c P ps) (ht:s.heap.TableAt c P ps)
 (hQ:∀code h' tk ps',Heap.ExtBut P s.heap h'→h'.IsCode c P ps'→h'.TableAt c P ps'→Q code {s with heap:=h',toks:=tk}):wpAny M A (genexprCode env pos qualname scope) Q E s:=by
 induction hnf:codeAmong pos ps.toList with
 | some cv=>exact wpAny_genexprCode_hit hc hok hnf (hQ cv s.heap s.toks ps (Heap.ExtBut.refl _ _) hok ht)
 | none=>exact wpAny_genexprCodeX hc hok ht hnf fun c' h' tk x1 j j x2 j x3 j=>hQ _ h' tk _ x1 x2 x3
theorem HS.turnTo {G:Gx}{F:Fz}{s s':Shared}{g:Heap}(H:HS G F s g) (hk:∀b o,s.heap.get? b=some o→(∀r∈G.reg,b≠r.at_)→s'.heap.get? b=some o) (hr:∀r∈G.reg,∃o,s'.heap.get? r.at_=some o∧r.ok g o)
 (hg:∀(i:Nat) y,F.gens[i]?=some y→s'.gens[i]?=some y) (hb:AllBare s'.gens) (ho:s'.os=s.os):HS G F s' g where
 base:=H.base
 g0:=H.g0
 keep:=fun b o e=>hk b o (H.keep b o e) fun r hr q=>by have:=(H.reg r hr).1;rw [←q,e] at this;exact Zmk this
 reg:=fun r h=>⟨(H.reg r h).1,hr r h⟩
 hid:=fun q hq=>by refine Yq (H.hid q hq) fun h1 h2 h3=>?_;exact ⟨hk _ _ h1 h3,h2,h3⟩
 gens:=hg
 bare:=hb
 os:=ho.trans H.os
structure GenOk (G:Gx) (K:W.Frag):Prop where
 K:∀h,G.lib.B h→K.In h
 reg:∀r∈G.reg,∃P,r=Yu P
 bm:∀h,G.lib.B h→∃m bm o,h.Ns mainGlobals m∧m "__builtins__"=some (.ref bm)∧bm≠builtinsNs∧h.get? bm=some o∧o.cls = .type "module"∧o.dict=some builtinsNs∧o.data = .plain
 nostat:∀r∈G.reg,r.at_≠cStatics
noncomputable def Xs (scope:Scope) (x:Str):Bool:=!scope.isCoroutine&&scope.names.all (fun y=>y.2 != .cell&&y.2 != .free)&&scope.names.lookup (".0":Str)==some .local&&scope.names.lookup x==some .local&&scope.kind == .function
structure GenFr (G:Gx) (scope:Scope) (cenv:Env):Prop where
 scope:cenv.scope=scope
 gl:cenv.globals=mainGlobals
 bu:cenv.builtins=builtinsNs
theorem Zap {scope:Scope}{env:Env}(h:scope.names.all (fun y=>y.2 != .cell&&y.2 != .free)=true):closureFor scope env=pure []:=by
 have:∀(l:List (Str×NameKind)) (cs:List (Str×Addr)),l.all (fun y=>y.2 != .cell&&y.2 != .free)=true→(forIn l cs fun x r=>(do
  let name:=x.1
  if (x.2==NameKind.free)=true then do
   let a ←cellOf env name
   pure (ForInStep.yield ((name,a)::r))
  else pure (ForInStep.yield r):Sem _))=pure cs:=by
  intro l;induction l with
  | nil=>intro cs j;rfl
  | cons y l ih =>
   intro cs hl;rw [List.all_cons,Bool.and_eq_true,Bool.and_eq_true] at hl;have hf:(y.2==NameKind.free)=false:=by simpa using hl.1.2
   rw [List.forIn_cons];simp only [hf,Bool.false_eq_true,if_false];exact ih cs hl.2
 have:=this scope.names [] h;exact (congrArg (fun t=>t >>= fun cs=>pure cs) this).trans rfl
theorem Znm {α β:Type}{f:α→Option β}{l:List α}(ha:∀i∈l,∃d,f i=some d) {j:Nat}{i:α}(h:l[j]?=some i):∃d,f i=some d∧(l.filterMap f)[j]?=some d:=by
 induction l generalizing j with
 | nil=>exact Zo h
 | cons a l ih =>
  obtain ⟨d,e⟩:=ha a (.head _);rw [List.filterMap_cons_some e];induction j using Nat.casesOn with
  | zero=>exact ⟨d,Kc h▸e,rfl⟩
  | succ j=>exact ih (fun i hi=>ha i (.tail _ hi)) h
theorem ZgO {α β:Type}{f:α→Option β}{tz:β→Bool}(l:List α):(l.filterMap f).filter tz=(l.filter fun i=>(f i).any tz).filterMap f:=by
 induction l with
 | nil=>rfl
 | cons a l ih =>
  induction e:f a with
  | none=>rw [List.filterMap_cons_none e,List.filter_cons_of_neg (by rw [e];exact Bool.noConfusion),ih]
  | some d =>
   rw [List.filterMap_cons_some e];induction h:tz d with
   | false=>rw [List.filter_cons_of_neg (Kv h),List.filter_cons_of_neg (by rw [e];exact Kv h),ih]
   | true=>rw [List.filter_cons_of_pos h,List.filter_cons_of_pos (by rw [e];exact h),List.filterMap_cons_some e,ih]
theorem Zbd (xs:List D) (tz:D→Bool):(PySem.passing (fun i=>(xs[i]?).any tz) xs.length 0).length=(xs.filter tz).length ∧
 ∀(j i:Nat),(PySem.passing (fun i=>(xs[i]?).any tz) xs.length 0)[j]?=some i→∃d,xs[i]?=some d∧(xs.filter tz)[j]?=some d:=by
 have hx:(List.range xs.length).filterMap (fun i=>xs[i]?)=xs:=by
  have:=WY xs 0 xs.length;simpa using this
 have hf:xs.filter tz=((List.range xs.length).filter fun i=>(xs[i]?).any tz).filterMap fun i=>xs[i]?:=by
  rw [←ZgO,hx]
 have hall:∀i∈(List.range xs.length).filter (fun i=>(xs[i]?).any tz),∃d,xs[i]?=some d:=fun i hi=>by
  have:=ZgT (Zi4 hi).1;exact ⟨_,Ke this⟩
 have e:PySem.passing (fun i=>(xs[i]?).any tz) xs.length 0=(List.range xs.length).filter fun i=>(xs[i]?).any tz:=by unfold PySem.passing;rw [List.drop_zero]
 rw [e];constructor
 ·rw [hf];generalize (List.range xs.length).filter (fun i=>(xs[i]?).any tz)=r at hall;induction r with
  | nil=>rfl
  | cons a r ih =>
   refine oze (hall a (.head _)) fun d ed=>?_;rw [List.filterMap_cons,ed];dsimp only [List.length_cons];rw [ih fun i hi=>hall i (.tail _ hi)]
 ·intro j i h;refine Zb (Znm (f:=fun i=>xs[i]?) hall h) fun d e1 e2=>?_;exact ⟨d,e1,by rw [hf];exact e2⟩
theorem Zer {prog:Program}{w:World}{A:Around}{I:Addr}{fp wr:List Addr}{G:Array GenState→Array GenState→Prop}{n n':Nat}{P P':Nat→Value→Prop}{St:Nat→Shared→Prop}(W:WalksS prog w A I fp wr G n P St) (hn:n=n') (h:∀i v,P i v→P' i v):WalksS prog w A I fp wr G n' P' St:=by
 subst hn;exact {sub:=W.sub,grefl:=W.grefl,gtrans:=W.gtrans,frame:=W.frame,item:=fun i s Q E hi st hQ=>W.item i s Q E hi st fun v s' hP=>hQ v s' (h i v hP),done:=W.done,self:=W.self}
section
variable {c:Cx}{l:List (Nat×A)}{o:List O}{k:List A}{Q:St→Prop}{K:W.Frag}
def Xx (c:Cx) (scope:Scope) (x:Str) (ifs:List Expr) (elt:Expr) (tz:D→Bool) (Fd:D→Value→Prop) (d:D):Prop :=
 ∀(A':Around) (E':Value→Shared→Prop) (cenv:Env) (s₂:Shared) m₂ g v,GenFr c.G scope cenv→A'.handled=none→A'.units≤cLine - 10→s₂.heap.Ns cenv.locals m₂→m₂ x=some v→c.G.lib.B g→Sub g s₂.heap→VR c.p c.w g d v →
  wpAny (model c.p c.w) A' (forIn ifs true fun e r=>if r=true then do let ok ←isTrue e cenv (eval e cenv);pure (ForInStep.yield ok) else pure (ForInStep.yield r)) (fun ok s₃=>ok=tz d∧Keeps s₂ s₃) E' s₂ ∧
  (tz d=true→wpAny (model c.p c.w) A' (eval elt cenv) (fun y s₃=>Fd d y∧Keeps s₂ s₃) E' s₂)
end
end
section
section
variable {c:Cx}{l:List (Nat×A)}{o:List O}{k:List A}{Q:St→Prop}{K:W.Frag}
theorem XE {scope:Scope}{x:Str}{n1 n2:Nat}{p1 p2 p3 p4:Pos}{d:D}(hx:scope.names.lookup x=some .local) (hk:scope.kind = .function) (hd:ZbT d) (hnd:(x==("__debug__":Str))=false) :
 Xx c scope x [.Compare (.Name x p1) [.IsNot] [.Constant .none n1 p2] p3] (.Constant (.int 1) n2 p4) (fun d=>!Xk d) (fun j y=>∃t,y = .int 1 t) d:=fun A' E' cenv s₂ m₂ g v gf hh hu hns hm hB hs hv=>by
 have hkf:cenv.scope.kind = .function:=by rw [gf.scope];exact hk
 have hl:cenv.kindOf x=some .local:=by show cenv.scope.names.lookup x=_;rw [gf.scope];exact hx
 refine ⟨?_,fun j=>?_⟩
 ·rw [List.forIn_cons];dsimp only [if_true,List.forIn_nil];refine Kd (Kd (wpAny_isTrue_Compare1 (wpAny_Name (wpAny_loadName_local hkf hl hns hm (wpAny_Constant_none (isNot_none (wpAny_truthy_bool (Ki (Ki ?_)))))) hnd)));rw [ZcJ hd hv];exact ⟨rfl,_,_,rfl,fun j j e=>e⟩
 ·exact wpAny_Constant_int ⟨⟨_,rfl⟩,_,_,rfl,fun j j e=>e⟩
theorem Zck {scope:Scope}{x:Str}{p1 p2 p3 p4 p5:Pos}{d:D}(GI:Xe c.G "isinstance" (.builtin "isinstance")∨Y5 c.G "isinstance" (.builtin "isinstance")) (GS:Xe c.G "str" (.type "str")∨Y5 c.G "str" (.type "str"))
 (hx:scope.names.lookup x=some .local) (hki:scope.names.lookup ("isinstance":Str)=some .globalImplicit) (hks:scope.names.lookup ("str":Str)=some .globalImplicit) (hk:scope.kind = .function) (hd:∃t,d = .str t) (hnd:(x==("__debug__":Str))=false) :
 Xx c scope x [] (.UnaryOp .Not (.Call (.Name "isinstance" p1) [.Name x p2,.Name "str" p3] [] p4) p5) (fun j=>true) (fun j y=>y = .bool false) d:=fun A' E' cenv s₂ m₂ g v gf hh hu hns hm hB hs hv=>by
 refine oze hd fun t zo1=>?_;subst zo1;refine oze hv fun tk zo2=>?_;subst zo2;have hkf:cenv.scope.kind = .function:=by rw [gf.scope];exact hk
 have kd:∀y,cenv.kindOf y=scope.names.lookup y:=fun y=>by show cenv.scope.names.lookup y=_;rw [gf.scope]
 have gl:∀{y:Str} {u:Value} {Q':Value→Shared→Prop} {s:Shared},Xe c.G y u∨Y5 c.G y u→scope.names.lookup y=some .globalImplicit→(y==("__debug__":Str))=false→Sub g s.heap→Q' u s→∀p,wpAny (model c.p c.w) A' (eval (.Name y p) cenv) Q' E' s:=by
  intro y u Q' s hv hy hd' hs' q p;refine Or.elim hv (fun hv=>?_) fun hv=>?_
  ·refine Zb (hv g hB) fun mg h1 h2=>?_;exact Name_function_global hkf (by rw [kd];exact hy) (loadGlobal_global (by rw [gf.gl];exact h1.keeps hs') h2 q) hd'
  ·refine YM (hv g hB) fun zo4 mb h3 h4=>?_;refine Zb zo4 fun mg h1 h2=>?_;exact Name_function_global hkf (by rw [kd];exact hy) (loadGlobal_builtin (by rw [gf.gl];exact h1.keeps hs') h2 (by rw [gf.bu];exact h3.keeps hs') h4 q) hd'
 refine ⟨Ki ⟨rfl,_,_,rfl,fun j j e=>e⟩,fun j=>?_⟩;refine wpAny_UnaryOp ?_;rw [Y2 _ _ _ rfl];refine Kd (gl GI hki (by decide) hs ?_ _);refine W.callWith_of (P:=fun h=>ZF c (.builtin "isinstance") h) rfl (fun h hk=>hk) ?_;rw [ZP _ _ rfl];refine evalArgs_plain (Calls.spliced_cons (wpAny_Name (wpAny_loadName_local hkf (by rw [kd];exact hx) hns hm ?_) hnd));rw [ZP _ _ rfl];refine Calls.spliced_cons (gl GS hks (by decide) hs ?_ _);refine Calls.spliced_nil ⟨Zj,?_⟩;exact IsiPair.str_str (not_of (wpAny_truthy_bool ⟨rfl,_,_,rfl,fun j j e=>e⟩))
theorem Zbs:∀n:Nat,preSum (fun j=>1) n=n
 | 0=>rfl
 | n+1=>by unfold preSum;rw [Zbs n];rfl
end
end
section
structure IsX (G:Gx) (w:World):Prop where
 k:IsK kk2 G w
 p:G.p=pw2
 gen:GenOk G (kk2 w.params)
 r1:Yu 152∈G.reg
 r2:Yu 287∈G.reg
noncomputable def Xa:Option (List Str)→D
 | none=>.none
 | some xs=>.list (xs.map .str)
theorem Zhe {sc:Scope}{names:List Str}{args:List A}{loc':List (Nat×A)}(ids:List Nat) (hc:(ids.length==names.length&&(ids.zip names).all fun q=>(Zf sc)[q.1]?==some q.2&&sc.names.lookup q.2==some .local)=true)
 (e:loc'=ids.zip (args++List.replicate (names.length - args.length) (.d .none)):=by rfl):∀q∈loc',∃x,(Zf sc)[q.1]?=some x∧(x,q.2)∈XM names args:=fun q hq=>by refine Zx (Zs ids hc e q hq) fun x a j b=>?_;exact ⟨x,a,b⟩
theorem ZmF {G:Gx}{f:Value}{n m:Nat}{os:List O}{args:List A}{R:A→List O→Prop}(h:OSpecC G f n os args R) (hn:n≤m:=by decide):OSpecC G f m os args R:=fun A F us s g σ h1 h2 h3=>h A F us s g σ h1 (by lia) (by lia)
end
section
theorem Ze8 {β:Type}{n:Nat}{init r1:β}{body:Nat→β→Sem (ForInStep β)}(h0:n≠0→body 0 init=pure (.yield r1)) (h1:∀j,body j r1=pure (.done r1)):forIn (m:=Sem) ([0:n]:Std.Legacy.Range) init body=pure (if n=0 then init else r1):=by
 rw [Std.Legacy.Range.forIn_eq_forIn_range'];have hs:([0:n]:Std.Legacy.Range).size=n:=by simp [Std.Legacy.Range.size]
 rw [hs];induction n using Nat.casesOn with
 | zero=>rfl
 | succ k =>
  rw [List.range'_succ,List.forIn_cons];rw [h0 (by lia)];show (forIn (List.range' (0+1) k 1) r1 body)=_;induction k using Nat.casesOn with
  | zero=>rfl
  | succ k =>
   rw [List.range'_succ,List.forIn_cons,h1];rfl
noncomputable def Xz (x:Str):Array UInt8:=x.cps.foldl (fun acc y=>acc++(Str.utf8Of y).toArray) #[]
open Builtin._codecs in
theorem Zcr {id:String}{self:Value}{s:Str}(h:∀y∈s.cps.toList,Str.isSurrogate y=false) (hsz:(Xz s).size≤sizeLine):encodeNarrow id utf8Codec none self s=pure (Xz s):=by
 unfold encodeNarrow
 try dsimp only
 have hfind:∀a:Array Nat,(∀y∈a,utf8Codec.bad y=false)→Array.findIdx? utf8Codec.bad a=none:=fun a ha=>by
  rw [Array.findIdx?_eq_none_iff];exact ha
 have hmem:∀y∈s.cps,utf8Codec.bad y=false:=fun y hy=>h y (by simpa using hy);have hb:utf8Codec.bytesOf=Str.utf8Of:=rfl;rw [Ze8 (r1:=(s.length,Xz s,{})) ?_ ?_]
 ·by_cases hn:s.length=0
  ·have:s.cps=#[]:=Array.eq_empty_of_size_eq_zero hn;simp only [hn,if_true];unfold Xz;rw [this];rfl
  ·simp only [hn,if_false];rfl
 ·intro hn;have hlt:0<s.cps.size:=Nat.pos_of_ne_zero hn;have hx:s.cps[0]?=some s.cps[0]:=Array.getElem?_eq_getElem hlt;have hbad:utf8Codec.bad s.cps[0]=false:=hmem _ (Array.getElem_mem hlt);have hz:¬(0 > sizeLine):=Nat.not_lt_zero _;have he:s.cps.extract 0=s.cps:=by simp
  have he2:s.cps.extract 0 s.cps.size=s.cps:=by trivial
  simp only [List.size_toArray,List.length_nil,hz,if_false,hx,hbad,Bool.not_false,if_true,he,hfind _ hmem,Option.getD_none,he2,hb,Nat.zero_add];rfl
 ·intro j;have hz:¬((Xz s).size > sizeLine):=Zaq hsz;have hx:s.cps[s.length]?=none:=Array.getElem?_eq_none (Kq _);simp only [hz,if_false,hx]
theorem Zeu {prog:Program}{w:World}{A:Around}{E:Value→Shared→Prop}{s:Shared}{x:Str}{t u:Tok}{Q:Value→Shared→Prop}(h:∀y∈x.cps.toList,Str.isSurrogate y=false) (hsz:(Xz x).size≤sizeLine) (hq:∀t',Q (.bytes (Xz x) t') {s with toks:=s.toks+1}) :
 wpAny (model prog w) A (call (.builtin "str.encode") [.str x t,.str "utf-8" u]) Q E s:=by
 refine wpAny_call_entry PySem.F.slot_str_encode (T:="str") rfl PySem.F.entry_str_encode ?_ (PySem.F.args_str_encode_2 _ _);have e:Builtin.«str.encode» ⟨[.str x t,.str "utf-8" u],[]⟩=(do ret (←Builtin._codecs.encodeRoad "str.encode" (.str x t) x (Str.ofString "utf-8") none)):=by kd_p
 rw [e,encodeRoad_utf8,Zcr h hsz];refine Kd (Kd (Ki (wpAny_mkBytes ?_ hsz)));exact Ki ⟨_,rfl,hq _⟩
section
variable {c:Cx}{l:List (Nat×A)}{o:List O}{k:List A}{Q:St→Prop}
theorem Zj9 {x:Str}(h:∀y∈x.cps.toList,Str.isSurrogate y=false) (hsz:(Xz x).size≤sizeLine) (q:Q ⟨l,o,.d (.bytes (Xz x))::k⟩):CJ c 2 ⟨l,o,.d (.str "utf-8")::.d (.str x)::.d (.val (.builtin "str.encode"))::k⟩ Q :=
 W9 (as:=[.d (.str x),.d (.str "utf-8")]) (r:=.d (.bytes (Xz x))) rfl (fun j=>Zj) (fun F st vs s g ρ m us W h2 Q' hq=>by
  refine Zc (Yz h2) fun u v zo6 zo7 zo8=>?_;subst zo6;obtain ⟨t,rfl⟩:=zo7;obtain ⟨t',rfl⟩:=zo8;exact Zeu h hsz fun t=>hq _ _ ZhX) q
end
end
section
section
variable {c:Cx}{st:St}{l:List (Nat×A)}{o:List O}{k:List A}{Q:St→Prop}{QF:Fl→St→Prop}{K:W.Frag}
noncomputable def stP (K:W.Frag) (C:Addr) (name:Str):Addr:=match W.findIn K (.ref C) name with
 | some (some (.ref p))=>p
 | _=>0
noncomputable def Zi1 (K:W.Frag) (C f:Addr) (name:Str):Bool:=W.plainGet K C name&&(W.findIn K (.ref C) name==some (some (.ref (stP K C name)))&&((W.recIn K (stP K C name) "staticmethod").any (fun l=>l.head?==some (.ref f))&&(W.typeIn K (.ref (stP K C name))==some (.type "staticmethod")&&(W.specialIn K (.ref (stP K C name)) "__get__"==some (some (.builtin "staticmethod.__get__"))&&(W.takesIn K (.ref (stP K C name))==some false&&(W.hasDictIn K C&&!W.copiedNames.contains name))))))
theorem ZiO {C f:Addr}{es:List (Str×D)}{name:Str}{QM:Nat→St→Prop}(hK:KIn c K) (hok:Zi1 K C f name=true) (hv:YH es name=none) (q:QM 0 ⟨l,o,.d (.val (.ref f))::k⟩) :
 MJ c name ⟨l,o,.d (.inst C es)::k⟩ QM:=fun F ov vs s pl zq0=>by
 refine ozr zq0 fun g ρ m Y=>?_;have X:=Y.kIn hK;refine Zc (Zd Y.stk) fun ai kvs e1 zo2 r0=>?_;refine Zb zo2 fun dx e3 d0=>?_;subst e1;refine oza (Yp hok) fun h1 hok=>?_;refine oza (Yp hok) fun hp hok=>?_;refine oza (Yp hok) fun a1 hok=>?_;refine oza (Yp hok) fun a2 hok=>?_;refine oza (Yp hok) fun a3 hok=>?_;refine oza (Yp hok) fun a4 hok=>?_;refine oza (Yp hok) fun h3 h4=>?_;have hp:=eq_of_beq hp;have a2:=eq_of_beq a2;have a3:=eq_of_beq a3;have a4:=eq_of_beq a4;have h4:=(Bool.not_eq_true' _).mp h4;refine Zb (W.any_some a1) fun lst b1 b2=>?_;refine oze (Zgb (eq_of_beq b2)) fun rest zr=>?_;subst zr;obtain ⟨od,es',ep,ho,hc,hd,hk,hpr,hn⟩:=ZA _ _ Y.keep d0;have I:=WE (Y.keep _ _ e3) ho;have hn0:YH (es.map fun e=>(e.1,A.d e.2)) name=none:=by
  unfold YH at hv ⊢;rw [Option.map_eq_none_iff] at hv ⊢;rw [List.find?_map];have:(fun e:Str×A=>decide (e.1=name))∘(fun e:Str×D=>(e.1,A.d e.2))=fun e=>decide (e.1=name):=rfl;rw [this,hv];rfl
 refine Zb (W.any_some h3) fun cd c1 c2=>?_;have hfo:W.findObj K C (some od) name=some (.bind (.builtin "staticmethod.__get__") (.ref (stP K C name))):=by
  unfold W.findObj;rw [c1,Option.bind_some,hp,Option.bind_some];simp only [a3,Option.bind_some,a4];have:W.ownOf cd (some od) name=some none:=by
   unfold W.ownOf;rw [if_pos c2]
   try dsimp only
   rw [We hd hk hpr name,(Xg (Zav (ρ:=ρ) r0) hn0)]
  rw [this,Option.bind_some];simp only [h4,Bool.false_and,Bool.false_eq_true,if_false]
 refine W.method_usual X I (W.plainGet_of h1).1 (W.plainGet_of h1).2 hp (by simp only [Option.all_some,a2,Option.any_some];decide +kernel) ?_;refine W.get_bind X I (W.plainGet_of h1).1 hfo (W.plainGet_of h1).2 ?_;refine wpAny_call (W.sm_get X b1 ?_);refine Ki ⟨_,⟨g,ρ,m,(Y.tok _).stack (Zg X8 (Za Y.stk))⟩,q⟩
end
theorem st1 (w:World):Zi1 (kk2 w.params) 201 188 "_is_target_in_pathpattern"=true:=by kd_p
noncomputable def UD (nm:Str) (tm:Bool) (ids:List Str) (p h:Option (List Str)) (es:List (Str×D)):D:=.inst 201 ([("keyids",.list (ids.map .str)),("threshold",.int 1),("unrecognized_fields",.dict es),("name",.str nm),("terminating",.bool tm),("paths",Xa p),("path_hash_prefixes",Xa h)]:List (Str×D))
end
section
noncomputable def YC (path:Str) (pats:Option (List (List (List Str)))) (texts:Option (List Str)):Bool:=match texts with
 | some ts=>ts.any fun t=>Txt.startswith (ZbK (Xz path)) t
 | none=>match pats with
  | some ps=>ps.any fun pt=>Us pt path
  | none=>false
structure PathOk (path:Str):Prop where
 len:path.length≤800000
 clean:∀y∈path.cps.toList,Str.isSurrogate y=false
 enc:(Xz path).size≤sizeLine
end
section
theorem call_meets {prog:Program}{w:World}{A:Around}{E:Value→Shared→Prop}{s:Shared}{T:String}{name:Str}{id:String}{b:Builtin}{self:Value}{rest:List Value}{Q:Value→Shared→Prop}{S:PySem.Spec}(h:Slot T name id) (hT:s.TypeIs self T)
 (hb:entryFor table id=some b) (ha:argsOk id ⟨self::rest,[]⟩) (g:MeetsIn prog w (b ⟨self::rest,[]⟩) S) (hs:S A (fun r s'=>match r with | .ok (.ret v)=>Q v s' | .ok _=>False | .error e=>E e s') s) :
 wpAny (model prog w) A (call (.builtin id) (self::rest)) Q E s :=
 wpAny_call (codeAny_call_builtin h.plain hb (h.check _ _ _ _ _ _ _ _ hT ha (g A _ s hs)))
noncomputable def Xq {α:Type}(es:List (Str×α)) (k:Str):List (Str×α):=es.filter fun e=>decide (e.1≠k)
noncomputable def Zcv {α:Type}(es more:List (Str×α)):List (Str×α):=more.foldl (fun acc e=>Yj acc e.1 e.2) es
section
variable {p:Program}{w:World}{g:Heap}{ρ:List Addr}
theorem U4 {k:Str}{es:List (Str×A)}{kvs:List (Str×Value)}(h:ARe p w g ρ es kvs):ARe p w g ρ (Xq es k) (without kvs k):=Y1.mpr ((Y1.mp h).filter fun j j h=>by rw [h.1])
theorem ZeO {more:List (Str×A)}{us:List (Str×Value)}{es:List (Str×A)}{kvs:List (Str×Value)}(h:ARe p w g ρ more us) (h2:ARe p w g ρ es kvs):ARe p w g ρ (Zcv es more) (merged kvs us):=by
 replace h:=Y1.mp h;induction h generalizing es kvs with
 | nil=>exact h2
 | @cons x v _ _ h _ ih=>exact ih (show ARe p w g ρ (Yj es x.1 x.2) (stored kvs v.1 v.2) from by rw [h.1];exact XW h2 h.2)
end
section
variable {c:Cx}{st:St}{l:List (Nat×A)}{o:List O}{k:List A}{Q:St→Prop}{QF:Fl→St→Prop}
theorem Ze1 {i:Nat}{es:List (Str×A)}{ep:Nat}{name:Str}{id:String}{QM:Nat→St→Prop}(ho:o[i]?=some (.dict es ep)) (slot:Slot "dict" name id) (hty:typeOf (.builtin id)=pure (.type "method_descriptor"))
 (q:QM 1 ⟨l,o,.own i::.d (.val (.builtin id))::k⟩):MJ c name ⟨l,o,.own i::k⟩ QM:=fun F ov vs s pl zq0=>by
 obtain ⟨g,ρ,m,W⟩:=zq0;have h1:=Zd W.stk;have h0:∃a,ρ[i]?=some a∧ov = .ref a:=h1;refine Zb h0 fun a ea e1=>?_;subst e1;refine Zx (W.own i _ a ho ea) fun kvs n0 hd hx=>?_;refine Zc hd fun ob es' b1 b2 b3=>?_;exact getMethod_builtin (T:="dict") ⟨_,b1,b2.1⟩ PySem.F.plainAttrs_dict slot hty (fun b e=>by injection e with zi;subst zi;exact ⟨_,b1,b2.2.1⟩) ⟨_,⟨g,ρ,m,W.stack (Zg h1 (Zg X8 (Za W.stk)))⟩,q⟩
theorem Zqy {i:Nat}{es es':List (Str×A)}{ep:Nat}{x:Str}{a:A}(ho:o[i]?=some (.dict es ep)) (hv:YH es x=some a) (he:Xq es x=es') (hz:es.length≤1000) (q:∀ep',Q ⟨l,o.set i (.dict es' ep'),a::k⟩) :
 CJ c 2 ⟨l,o,.d (.str x)::.own i::.d (.val (.builtin "dict.pop"))::k⟩ Q:=fun F f us vs s hl zq1=>by
 obtain ⟨g,ρ,m,W⟩:=zq1;refine oza (Zy (xs:=[.own i,.d (.str x)]) W.stk (by rw [hl];rfl)) fun q1 q2=>?_;have ef:f=_:=Zd q2;subst ef;obtain ⟨u,v,rfl,⟨ad,ea,e1⟩,t,rfl⟩:=Yz q1;subst e1;refine Zx (W.own i _ ad ho ea) fun kvs n0 hd hx=>?_;refine Zb (Ux hx hv) fun y y1 y2=>?_;refine ⟨Zj,call_meets PySem.F.slot_dict_pop hd.dictOf.typeIs PySem.F.entry_dict_pop (PySem.F.args_dict_pop_2 _ _) (meets_dict_pop_there (strKind c.p c.w) ad (strKind_is _ _ x t) [] (.inl rfl) rfl) ⟨kvs,y,hd.dictOf,by rw [Yy hx,sizeLine_eq];lia,y1,fun h' hd' hs=>?_⟩⟩;refine oze hd'.dictAt fun ep' hd'=>?_;subst he;exact ⟨_,⟨g,ρ,m,((W.stack (Za q2)).setOwn (t:=s.toks+1) (ZI ho).1 ea (fun b ob hb eb=>(hs.2 b hb).trans eb) (o':=.dict (Xq es x) ep') ⟨_,n0,hd',U4 hx⟩).push y2⟩,q ep'⟩
theorem ZnK {i:Nat}{es es':List (Str×A)}{ep:Nat}{x:Str}{a d:A}(ho:o[i]?=some (.dict es ep)) (hv:YH es x=some a) (he:Xq es x=es') (hz:es.length≤1000) (q:∀ep',Q ⟨l,o.set i (.dict es' ep'),a::k⟩) :
 CJ c 3 ⟨l,o,d::.d (.str x)::.own i::.d (.val (.builtin "dict.pop"))::k⟩ Q:=fun F f us vs s hl zq2=>by
 obtain ⟨g,ρ,m,W⟩:=zq2;refine oza (Zy (xs:=[.own i,.d (.str x),d]) W.stk (by rw [hl];rfl)) fun q1 q2=>?_;have ef:f=_:=Zd q2;subst ef;refine Zc q1 fun u r zo3 zo4 q3=>?_;subst zo3;refine Zb zo4 fun ad ea e1=>?_;refine Zc (Yz q3) fun v w' zo6 zo7 hw=>?_;subst zo6;refine oze zo7 fun t zo1=>?_;subst zo1;subst e1;refine Zx (W.own i _ ad ho ea) fun kvs n0 hd hx=>?_;refine Zb (Ux hx hv) fun y y1 y2=>?_;refine ⟨Zj,call_meets PySem.F.slot_dict_pop hd.dictOf.typeIs PySem.F.entry_dict_pop (PySem.F.args_dict_pop_3 _ _ _) (meets_dict_pop_there (strKind c.p c.w) ad (strKind_is _ _ x t) [w'] (.inr ⟨_,rfl⟩) rfl) ⟨kvs,y,hd.dictOf,by rw [Yy hx,sizeLine_eq];lia,y1,fun h' hd' hs=>?_⟩⟩;refine oze hd'.dictAt fun ep' hd'=>?_;subst he;exact ⟨_,⟨g,ρ,m,((W.stack (Za q2)).setOwn (t:=s.toks+1) (ZI ho).1 ea (fun b ob hb eb=>(hs.2 b hb).trans eb) (o':=.dict (Xq es x) ep') ⟨_,n0,hd',U4 hx⟩).push y2⟩,q ep'⟩
theorem Znw {i:Nat}{es:List (Str×A)}{ep:Nat}{x:Str}{d:A}(ho:o[i]?=some (.dict es ep)) (hv:YH es x=none) (q:Q ⟨l,o,d::k⟩) :
 CJ c 3 ⟨l,o,d::.d (.str x)::.own i::.d (.val (.builtin "dict.pop"))::k⟩ Q:=fun F f us vs s hl zq3=>by
 obtain ⟨g,ρ,m,W⟩:=zq3;refine oza (Zy (xs:=[.own i,.d (.str x),d]) W.stk (by rw [hl];rfl)) fun q1 q2=>?_;have ef:f=_:=Zd q2;subst ef;refine Zc q1 fun u r zo3 zo4 q3=>?_;subst zo3;refine Zb zo4 fun ad ea e1=>?_;refine Zc (Yz q3) fun v w' zo6 zo7 hw=>?_;subst zo6;obtain ⟨t,rfl⟩:=zo7;subst e1;refine Zx (W.own i _ ad ho ea) fun kvs n0 hd hx=>?_;refine ⟨Zj,call_meets PySem.F.slot_dict_pop hd.dictOf.typeIs PySem.F.entry_dict_pop (PySem.F.args_dict_pop_3 _ _ _) (meets_dict_pop_default (strKind c.p c.w) ad (strKind_is _ _ x t) (by simpa using n0) rfl w') ⟨kvs,hd.dictOf,Xg hx hv,?_⟩⟩;exact ⟨_,⟨g,ρ,m,(W.tok _).stack (Zg hw (Za q2))⟩,q⟩
theorem ZjC {i:Nat}{es es':List (Str×A)}{ep:Nat}{more:List (Str×D)}(ho:o[i]?=some (.dict es ep)) (he:Zcv es (more.map fun e=>(e.1,A.d e.2))=es') (hz:es.length+more.length≤1000) (q:∀ep',Q ⟨l,o.set i (.dict es' ep'),.d .none::k⟩) :
 CJ c 2 ⟨l,o,.d (.dict more)::.own i::.d (.val (.builtin "dict.update"))::k⟩ Q:=fun F f us vs s hl zq4=>by
 refine ozr zq4 fun g ρ m W=>?_;refine oza (Zy (xs:=[.own i,.d (.dict more)]) W.stk (by rw [hl];rfl)) fun q1 q2=>?_;have ef:f=_:=Zd q2;subst ef;obtain ⟨u,v,rfl,⟨ad,ea,e1⟩,b,us',rfl,nb,hb,hm⟩:=Yz q1;subst e1;refine Zx (W.own i _ ad ho ea) fun kvs n0 hd hx=>?_;have hne:ad≠b:=fun z=>by
  refine ZZ hb fun ob j j b1 j=>?_;rw [←z,(W.fr ad (Kj ea)).1] at b1;exact Zo b1
 have hma:=Zav (ρ:=ρ) hm;refine ⟨Zj,call_meets PySem.F.slot_dict_update hd.dictOf.typeIs PySem.F.entry_dict_update (PySem.F.args_dict_update_2 _ _) (meets_dict_update (strKind c.p c.w) ad b hne (by simpa using nb)) ⟨kvs,us',hd.dictOf,(ZA _ _ W.keep hb),by rw [Yy hx,Yy hma,sizeLine_eq,List.length_map];lia,fun h' hd' j hs=>?_⟩⟩;refine oze hd'.dictAt fun ep' hd'=>?_;subst he;exact ⟨_,⟨g,ρ,m,((W.stack (Za q2)).setOwn (t:=s.toks) (ZI ho).1 ea (fun b ob hb eb=>(hs.2 b hb).trans eb) (o':=.dict _ ep') ⟨_,n0,hd',ZeO hma hx⟩).push Zco⟩,q ep'⟩
end
end
section
section
variable {c:Cx}{st:St}{l:List (Nat×A)}{o:List O}{k:List A}{Q:St→Prop}{QF:Fl→St→Prop}{K:W.Frag}
theorem Xj {i:Nat}{es es':List (Str×A)}{ep:Nat}{x:Str}{a:A}(ho:o[i]?=some (.dict es ep)) (he:Yj es x a=es') (hz:es.length≤1000) (q:∀ep',Q ⟨l,o.set i (.dict es' ep'),k⟩):TIJ c ⟨l,o,.d (.str x)::.own i::a::k⟩ Q:=fun F v ov iv vs s zq0=>by
 obtain ⟨g,ρ,m,W⟩:=zq0;refine oze (Zd W.stk) fun t e0=>?_;refine Zb (Zd (Za W.stk)) fun ad ea e1=>?_;subst e0 e1;refine Zx (W.own i _ ad ho ea) fun kvs n0 hd hx=>?_;refine wpAny_setItem_pairs (knd:=strKind c.p c.w) (k:=x) (strKind_is _ _ x t) hd.dictOf (fun h' hd' hs=>?_) (by rw [Yy hx,sizeLine_eq];lia);refine oze hd'.dictAt fun ep' hd'=>?_;subst he;exact ⟨_,⟨g,ρ,m,(W.stack (Za (Za (Za W.stk)))).setOwn (t:=s.toks+1) (List.getElem?_eq_some_iff.mp ho).1 ea (fun b ob hb eb=>(hs.2 b hb).trans eb) (o':=.dict _ ep') ⟨_,n0,hd',XW hx (Zd (Za (Za W.stk)))⟩⟩,q ep'⟩
end
noncomputable def Zmu (a b c d:D) (es:List (Str×D)):D:=.inst 70 ([("keyid",a),("keytype",b),("scheme",c),("keyval",d),("unrecognized_fields",.dict es)]:List (Str×D))
noncomputable def ZoX (b c d:D):List (Str×A):=[("keytype",.d b),("scheme",.d c),("keyval",.d d)]
end
section
section
variable {c:Cx}{st:St}{l:List (Nat×A)}{o:List O}{k:List A}{Q:St→Prop}{QF:Fl→St→Prop}{K:W.Frag}
noncomputable def Zgv (K:W.Frag) (C:Addr):Bool:=W.specialIn K (.ref C) "__getattribute__"==some (some (.builtin "type.__getattribute__"))&&W.readsIn K C (.type "type")
noncomputable def ZiQ:Option W.CFound→Option Value
 | some (.val v)=>some v
 | _=>none
theorem Zlg {C f:Addr}{name:Str}{QM:Nat→St→Prop}(hK:KIn c K) (hok:Zgv K C=true) (hf:ZiQ (W.findCls K (.ref C) (.type "type") name)=some (.ref f)) (q:QM 0 ⟨l,o,.d (.val (.ref f))::k⟩):MJ c name ⟨l,o,.d (.val (.ref C))::k⟩ QM:=fun F ov vs s pl zq0=>by
 obtain ⟨g,ρ,m,Y⟩:=zq0;have X:=Y.kIn hK;have e:ov = .ref C:=Zd Y.stk;subst e;unfold Zgv at hok;simp only [Bool.and_eq_true,beq_iff_eq] at hok;have hf':W.findCls K (.ref C) (.type "type") name=some (.val (.ref f)):=by
  unfold ZiQ at hf;split at hf
  ·rename_i h;obtain rfl:=Kc hf;exact h
  ·exact Zo hf
 exact W.method_cls X hok.1 (W.cls_value X hok.2 hf' rfl ⟨_,⟨g,ρ,m,(Y.tok _).stack (Zg X8 (Za Y.stk))⟩,q⟩)
end
theorem rd1 (w:World):Zgv (kk2 w.params) 136=true:=by kd_p
theorem rd2 (w:World):ZiQ (W.findCls (kk2 w.params) (.ref 136) (.type "type") "to_dict")=some (.ref 133):=by kd_p
noncomputable def Zmy (p h:Option (List Str)):List (Str×D):=match p,h with
 | some xs,_=>[("paths",.list (xs.map .str))]
 | none,some xs=>[("path_hash_prefixes",.list (xs.map .str))]
 | none,none=>[]
noncomputable def Zbg (nm:Str) (tm:Bool) (ids:List Str) (p h:Option (List Str)):List (Str×D):=[(("name":Str),D.str nm),("terminating",.bool tm),("keyids",.list (ids.map .str)),("threshold",.int 1)]++Zmy p h
end
section
section
variable {c:Cx}{st:St}{l:List (Nat×A)}{o:List O}{k:List A}{Q:St→Prop}{QF:Fl→St→Prop}{K:W.Frag}
noncomputable def ZqA (a b c d:Value):Option W.CFound→Bool
 | some (.get x y z u)=>x==a&&(y==b&&(z==c&&u==d))
 | _=>false
theorem Zlp {a b c d:Value}{x:Option W.CFound}(h:ZqA a b c d x=true):x=some (.get a b c d):=by
 induction x with
 | none=>exact YU h
 | some y =>
  induction y with
  | val=>exact YU h
  | get =>
   refine oza (Yp h) fun e1 h=>?_;refine oza (Yp h) fun e2 h=>?_;refine oza (Yp h) fun e3 e4=>?_;rw [eq_of_beq e1,eq_of_beq e2,eq_of_beq e3,eq_of_beq e4]
noncomputable def cmP (K:W.Frag) (C:Addr) (name:Str):Addr:=match W.findCls K (.ref C) (.type "type") name with
 | some (.get _ (.ref p) _ _)=>p
 | _=>0
noncomputable def Zit (K:W.Frag) (C f:Addr) (name:Str):Bool:=Zgv K C&&(ZqA (.builtin "classmethod.__get__") (.ref (cmP K C name)) .none (.ref C) (W.findCls K (.ref C) (.type "type") name)&&(W.recIn K (cmP K C name) "classmethod").any (fun l=>l.head?==some (.ref f)))&&W.fnIn K f
inductive LentQ (c:Cx) (f:Addr) (need:Nat) (C:Addr) (n:Nat) (Q:St→Prop) (st2:St):Prop
 | mk (is:List Nat) (os:List O) (args:List A) (R:A→List O→Prop) (H:OSpecC c.G (.ref f) need os (.d (.val (.ref C))::args) R) (l2:List (Nat×A)) (o2:List O) (k2:List A) (e:st2=⟨l2,o2,(args.map (Xr (iot is o2.length))).reverse++k2⟩) (hal:args.length=n) (hnd:is.Nodup) (hos:os.length=is.length)
  (ho:∀(j i:Nat),is[j]?=some i→∃x,os[j]?=some x∧o2[i]?=some (Xy (iot is o2.length) x)) (hQ:∀a os',R a os'→Q ⟨l2,Wq is o2 os',Xr (iot is o2.length) a::k2⟩)
theorem Zgj {oe:Expr}{name:Str}{apos pos:Pos}{e:Expr}{r:List Expr}{C f:Addr}{need:Nat}(hK:KIn c K) (hok:Zit K C f name=true)
 (hn:need≤c.fuel)
 (h:EJ c oe ⟨l,o,k⟩ fun st1=>st1=⟨l,o,.d (.val (.ref C))::k⟩)
 (hg:GJ c (e::r) ⟨l,o,k⟩ fun st2=>LentQ c f need C (e::r).length Q st2)
 (hb:Xw oe=false:=by rfl) (hs:Zt (e::r)=true:=by rfl) (hne:decide ((e::r).length<30)=true:=by rfl) (hl:(apos.endLine==pos.line)=true:=by rfl):EJ c (.Call (.Attribute oe name apos) (e::r) [] pos) ⟨l,o,k⟩ Q:=fun F vs s R0=>by
 refine oza (Yp hok) fun h12 h3=>?_;refine oza (Yp h12) fun h1 h2=>?_;refine oza (Yp h1) fun ha hb'=>?_;refine oza (Yp h2) fun hf a1=>?_;refine Zb (W.any_some a1) fun lst b1 b2=>?_;refine oze (Zgb (eq_of_beq b2)) fun rest zr=>?_;subst zr;refine Uf (F:=F) (vs:=vs) hb hs hne hl (wpm (h F vs s R0) (fun ov s1 P pl=>?_));obtain ⟨st1,⟨g,ρ,m,W1⟩,rfl⟩:=P;have eo:ov = .ref C:=Zd W1.stk;subst eo;have X1:K.In s1.heap:=W1.kIn hK;refine PySem.W.method_cls X1 (eq_of_beq ha) (PySem.W.cls_bind X1 hb' (Zlp hf) (wpAny_call (PySem.W.cm_get (s:={s1 with toks:=s1.toks+1}) X1 b1 (PySem.W.handed_on rfl ?_))));have W2:=W1.stack (Za W1.stk);have hq:=W2.size_nomut;have hpush:(s1.heap.push (PySem.W.methodObj (.ref f) (.ref C))).get? s1.heap.objs.size=some (PySem.W.methodObj (.ref f) (.ref C)):=Kh _ rfl;have Wa:=W2.alloc (PySem.W.methodObj (.ref f) (.ref C)) (s1.toks+1);have W3:=Wa.canon.at_g;have hq3:=PySem.W.hideAll_get (Z0 c.G F (c.env.locals::ρ)) hpush hq;have hsub3:Sub g (PySem.W.hideAll (s1.heap.push (PySem.W.methodObj (.ref f) (.ref C))) (Z0 c.G F (c.env.locals::ρ))):=fun b o e=>PySem.W.hideAll_get _ (Wa.keep b o e) fun hb=>by rw [Wa.nomut b hb] at e;exact Zo e
 have hg0:=W2.g0.trans hsub3;generalize PySem.W.hideAll (s1.heap.push (PySem.W.methodObj (.ref f) (.ref C))) (Z0 c.G F (c.env.locals::ρ))=g3 at W3 hq3 hsub3 hg0;generalize s1.heap.objs.size=q at hpush hq3 hq ⊢;have hes:=(UO hs).1;refine PySem.W.callWith_of (P:=fun h=>PySem.W.MethP K q f (.ref C) h) (by rw [(Xn hs).1];rfl) (fun h hP=>PySem.W.keeps_M h3 h hP) ?_;have key:=hg _ _ _ pos ⟨g3,ρ,m,W3⟩;rw [ZP _ _ hes] at key ⊢;refine evalArgs_plain (wpm key (fun us1 s4 P=>?_));refine Ka fun zn3=>?_;obtain ⟨hl1,st2,⟨g4,ρ4,m4,W4⟩,is,os,args,R,H,l2,o2,k2,rfl,hal,hnd,hos,ho,hQ⟩:=P;refine zn3 ?_;have hm4:=W4.keep _ _ (W4.g0 _ _ hq3);refine ⟨⟨hm4,W4.kIn hK⟩,?_⟩;refine Ka fun zn4=>?_;refine oza (Zy (xs:=args.map (Xr (iot is o2.length))) W4.stk (by simp [hl1,hal])) fun q1 q2=>?_;refine Wt (W4.lend hnd hos ho) fun σ4 j1 j2 j3 O4=>?_;refine zn4 ?_;have hd:=c.hd;have hun:=c.hu;refine wpAny_call (PySem.W.method_call hm4 (codeAny_mono (H c.A _ (.ref C::us1) s4 g4 σ4 c.hh (by lia) (by lia) O4 ⟨_,_,rfl,rfl,(ZaF j1).mp q1⟩) fun rr s5 hr=>?_));rcases rr with e | (v | _ | _ | _) <;> first | exact hr.elim | skip
 refine Ka fun zn5=>?_;obtain ⟨g5,σ5,a5,os5,O5,hs5,av5,hR⟩:=hr;refine Zx (W4.got j1 j2 j3 hnd O5 hs5) fun ρ5 e5 ex5 W5=>?_;refine zn5 ?_;have tl:=ARs.sub c.p c.w hs5 ex5 _ _ q2;exact ⟨_,RS.of_g hg0 ⟨g5,ρ5,m4,W5.stack (Zg (a:=Xr (iot is o2.length) a5) ((Za6 e5).mpr av5) tl)⟩,hQ a5 os5 hR⟩
theorem Zkb {oe:Expr}{name:Str}{apos pos:Pos}{e:Expr}{r:List Expr}{C f:Addr}{need:Nat}(is:List Nat) {os:List O}{args:List A}{R:A→List O→Prop}(hK:KIn c K) (hok:Zit K C f name=true)
 (H:OSpecC c.G (.ref f) need os (.d (.val (.ref C))::args) R) (hn:need≤c.fuel)
 (h:EJ c oe ⟨l,o,k⟩ fun st1=>st1=⟨l,o,.d (.val (.ref C))::k⟩)
 (hg:GJ c (e::r) ⟨l,o,k⟩ fun st2=>∃l2 o2 k2,st2=⟨l2,o2,(args.map (Xr (iot is o2.length))).reverse++k2⟩∧args.length=(e::r).length∧is.Nodup∧os.length=is.length∧(∀(j i:Nat),is[j]?=some i→∃x,os[j]?=some x∧o2[i]?=some (Xy (iot is o2.length) x)) ∧
  ∀a os',R a os'→Q ⟨l2,Wq is o2 os',Xr (iot is o2.length) a::k2⟩)
 (hb:Xw oe=false:=by rfl) (hs:Zt (e::r)=true:=by rfl) (hne:decide ((e::r).length<30)=true:=by rfl) (hl:(apos.endLine==pos.line)=true:=by rfl):EJ c (.Call (.Attribute oe name apos) (e::r) [] pos) ⟨l,o,k⟩ Q :=
 Zgj hK hok hn h (fun F vs s pos Rr=>wpm (hg F vs s pos Rr) (fun us s' P=>by
  refine Ka fun zn6=>?_;obtain ⟨h1,st',R',l2,o2,k2,e,h3,h4,h5,h6,h7⟩:=P;refine zn6 ?_;exact ⟨h1,st',R',is,os,args,R,H,l2,o2,k2,e,h3,h4,h5,h6,h7⟩)) hb hs hne hl
end
theorem cm1 (w:World):Zit (kk2 w.params) 70 50 "from_dict"=true:=by kd_p
theorem cm2 (w:World):Zit (kk2 w.params) 201 171 "from_dict"=true:=by kd_p
theorem cm3 (w:World):Zit (kk2 w.params) 324 306 "from_dict"=true:=by kd_p
end
section
theorem Wc {K:Params→W.Frag}{G:Gx}{w:World}(I:IsK K G w) {C fI:Addr}{need:Nat}{os:List O}{args:List A}{P:List O→Prop}(hok:UP (K w.params) C fI=true)
 (H:OSpecC G (.ref fI) need (os++[.inst C (os.length+1),.dict [] 0]) (.own os.length::args) fun a os'=>a = .d .none∧P os'):OSpecC G (.ref C) (need+1) os args fun a os'=>a = .own os.length∧P os':=fun A F us s g σ hh hd hu X hv=>by
 unfold UP at hok;simp only [Bool.and_eq_true,beq_iff_eq] at hok;refine oza hok fun zo2 h3=>?_;refine oza zo2 fun h1 h2=>?_;have XK:=(I.B _ (G.lib.mono _ _ X.keep X.base)).1;have hbig:s.heap.objs.size≠sysModules:=by
  refine oze (G.lib.low _ X.base) fun o e=>?_;have h1:=Kk (X.keep _ _ e);have h2:(3:Nat)<s.heap.objs.size:=h1;exact fun e=>by rw [e] at h2;exact absurd h2 (by decide)
 have fresh:∀b,s.heap.objs.size≤b→g.get? b=none∧(∀r∈G.reg,b≠r.at_)∧∀q∈F.hid,b≠q.1:=fun b hb=>⟨by
  induction e:g.get? b with
  | none=>rfl
  | some o=>exact absurd (Kk (X.keep _ _ e)) (Zaq hb),X.fresh hb⟩
 obtain ⟨hp,gg,d,t,os1⟩:=s;have sub:Sub hp ((hp.push W.emptyDict).push (W.instObj C hp.objs.size)):=fun b o e=>Kn _ (Kn _ e);have gx:((hp.push W.emptyDict).push (W.instObj C hp.objs.size)).get? (hp.objs.size+1)=some (W.instObj C hp.objs.size):=by
  have:=Kh (o:=W.instObj C hp.objs.size) (hp.push W.emptyDict) rfl
  rwa [Heap.size_push] at this
 have gd:((hp.push W.emptyDict).push (W.instObj C hp.objs.size)).get? hp.objs.size=some W.emptyDict:=Kn _ (Kh _ rfl);have hσ:∀b∈σ,b<hp.objs.size:=fun b hb=>by
  refine oze (Zin hb) fun j e=>?_;have hj:j<os.length:=by rw [←X.len];exact (ZI e).1
  obtain ⟨ob,e2⟩:=OAt.there _ _ _ (X.own j _ b (Ke hj) e);exact Kk e2
 have ext:Ext σ (σ++[hp.objs.size+1,hp.objs.size]):=fun i a e=>by rw [Kl (ZI e).1];exact e
 have g0:(σ++[hp.objs.size+1,hp.objs.size])[os.length]?=some (hp.objs.size+1):=by rw [Km (by rw [X.len];exact Kq _),X.len,Nat.sub_self];rfl
 have g1:(σ++[hp.objs.size+1,hp.objs.size])[os.length+1]?=some hp.objs.size:=by rw [Km (by rw [X.len];exact Ko _ _),X.len,Nat.add_sub_cancel_left];rfl
 have O0:OW G {F with g₀:=g,pin:=(os.length,hp.objs.size+1)::F.pin} (os++[.inst C (os.length+1),.dict [] 0]) ⟨(hp.push W.emptyDict).push (W.instObj C hp.objs.size),gg,d,t,os1⟩ g (σ++[hp.objs.size+1,hp.objs.size]):={
  base:=X.base,g0:=Sub.refl _,keep:=X.keep.trans sub,gens:=X.gens,bare:=X.bare,os:=X.os
  reg:=fun r hr=>by refine YM (X.reg r hr) fun q1 o q2 q3=>?_;exact ⟨q1,o,sub _ _ q2,q3⟩
  hid:=fun q hq=>by refine oza (X.hid q hq) fun q1 q2=>?_;exact ⟨sub _ _ q1,q2⟩
  len:=by simp [X.len]
  nd:=List.nodup_append.mpr ⟨X.nd,by simp,fun x hx y hy e=>by
   have:=hσ x hx;rcases ZQ hy with rfl | hy
   ·subst e;exact absurd (Nat.lt_trans this (Nat.lt_succ_self _)) (Nat.lt_irrefl _)
   ·rw [List.mem_singleton] at hy;subst hy;subst e;exact Nat.lt_irrefl _ this⟩
  fr:=fun b hb=>by
   refine Or.elim (Z8 hb) (fun hb=>?_) fun hb=>?_
   ·exact X.fr b hb
   rcases ZQ hb with rfl | hb
   ·exact (fresh _ (Nat.le_succ _)).1
   ·rw [List.mem_singleton] at hb;subst hb;exact (fresh _ (Kq _)).1
  own:=fun i o a e1 e2=>by
   by_cases hi:i<os.length
   ·rw [Kl hi] at e1;rw [Kl (by rw [X.len];exact hi)] at e2;exact OAt.sub _ _ (Sub.refl _) ext (fun ob e=>sub _ _ e) o (X.own i o a e1 e2)
   obtain ⟨i,rfl⟩:∃k,i=os.length+k:=⟨i - os.length,by lia⟩;rw [Km (by lia),Nat.add_sub_cancel_left] at e1;rw [Km (by rw [X.len];lia),X.len,Nat.add_sub_cancel_left] at e2
   match i,e1,e2 with
   | 0,e1,e2=>cases e1;obtain rfl:=Kc e2;exact ⟨_,g1,gx⟩
   | 1,e1,e2=>obtain rfl:=Kc e1;obtain rfl:=Kc e2;exact ⟨[],hbig,Xi gd,rfl⟩
   | _+2,e1,_=>simp at e1
  apart:=fun b hb=>by
   refine Or.elim (Z8 hb) (fun hb=>?_) fun hb=>?_
   ·exact X.apart b hb
   rcases ZQ hb with rfl | hb
   ·exact (fresh _ (Nat.le_succ _)).2
   ·rw [List.mem_singleton] at hb;subst hb;exact (fresh _ (Kq _)).2
  pin:=fun q hq=>by
   rcases ZQ hq with rfl | hq
   ·exact g0
   ·exact ext _ _ (X.pin q hq)}
 refine (W.make_core (W.makes_of XK h1) (W.looks_findIn XK h2) (fun self=>W.bind_fn XK self h3) (.inl rfl) ?_);refine codeAny_mono (H _ _ (.ref (hp.objs.size+1)::us) _ g _ hh (by show A.depth+1+need<_;lia) (by show A.units+1+_+_≤_;lia) O0 ⟨_,_,rfl,⟨_,g0,rfl⟩,ARs.sub _ _ (Sub.refl _) ext _ _ hv⟩) fun r s' hr=>?_;rcases r with e | (v | _ | _ | _) <;> first | exact hr.elim | skip
 refine Ka fun zn3=>?_;obtain ⟨g',σ',a,os',W',hs,hav,rfl,hP⟩:=hr;refine zn3 ?_;refine ⟨hav,?_⟩;exact ⟨g',σ',.own os.length,os',{base:=W'.base,g0:=X.g0.trans W'.g0,keep:=W'.keep,reg:=W'.reg,hid:=W'.hid,gens:=W'.gens,bare:=W'.bare,os:=W'.os,len:=W'.len,nd:=W'.nd,fr:=W'.fr,own:=W'.own,apart:=W'.apart,pin:=fun q hq=>W'.pin q (.tail _ hq)},hs,⟨_,(W'.pin _ (.head _)),rfl⟩,rfl,hP⟩
end
section
noncomputable def Zm7 (a b c d:D) (u:A):List (Str×A):=[("keyid",.d a),("keytype",.d b),("scheme",.d c),("keyval",.d d),("unrecognized_fields",u)]
end
section
noncomputable def ZdJ (nm:Str) (tm:Bool) (ids:List Str) (p h:Option (List Str)) (u:A):List (Str×A):=[("keyids",.d (.list (ids.map .str))),("threshold",.d (.int 1)),("unrecognized_fields",u),("name",.d (.str nm)),("terminating",.d (.bool tm)),("paths",.d (Xa p)),("path_hash_prefixes",.d (Xa h))]
end
section
theorem Zgw {M:Model}{A:Around}{E:Value→Shared→Prop}{s:Shared}{env:Env}{elt target iter:Expr}{ifs:List Expr}{scope:Scope}{cl:List (Str×Addr)}{pos:Pos}{Q:Value→Shared→Prop}
 (hco:scope.isCoroutine=false) (hclos:closureFor scope env=pure cl) (hcell:∀y∈scope.names,y.2≠.cell) (h0:scope.names.lookup (".0":Str)=some NameKind.local) (hkind:scope.kind = .function)
 (hroom:A.depth<recursionLimit)
 (h:wpAny M A (eval iter env) (fun x0 s₀=>wpAny M A (genFold iter env x0) (fun xv s₁=>wpAny M A (pyIter xv) (fun it s₂=>s₂.heap.NoLimit ∧
  wpAny M A (genexprCode env pos (env.qual++"<genexpr>") scope) (fun code s₃=>wpAny M A (builtinsFor env.globals env.builtins) (fun bi s₄ =>
   ∀h',h'.Ns s₄.heap.objs.size (fun y=>if y=".0" then some it else none)→Heap.SameBut s₄.heap.objs.size (s₄.heap.push {cls:=.type "frame",data:=.dict #[]}) h' →
    Q (.ref h'.objs.size) {s₄ with
     gens:=s₄.gens.push (.fresh (.compStart (.GeneratorExp elt [⟨target,iter,ifs,0⟩] scope pos) 0 it .none (genEnv scope cl s₄.heap.objs.size code bi env))),
     toks:=s₄.toks+1+1+1,
     heap:=h'.push {cls:=.type "generator",data:=.fields #[.int s₄.gens.size 0,.str "<genexpr>" (s₄.toks+1),.str (env.qual++"<genexpr>") (s₄.toks+1+1)]}}) E s₃) E s₂) E s₁) E s₀) E s) :
 wpAny M A (eval (.GeneratorExp elt [⟨target,iter,ifs,0⟩] scope pos) env) Q E s:=by
 rw [eval_GeneratorExp1 _ _ _ _ _ _ _ hco,hclos];refine Kd (Kb h (fun x0 s₀ h₀=>?_) fun j j e=>e);refine Kd (wpAny_standAt ?_);refine Kd (Kb h₀ (fun xv s₁ h₁=>?_) fun j j e=>e);refine Kd (wpAny_holding (Kb h₁ (fun it s₂ h₂=>?_) fun j j e=>e));refine Kd (wpAny_enterFrame h₂.1 hroom ?_);refine Kd (Ki ?_);refine Kd (Kb h₂.2 (fun code s₃ h₃=>?_) fun j j e=>e);refine Kd (Kb h₃ (fun bi s₄ h₄=>?_) fun j j e=>e);have hbinds:∀y∈([((".0":Str),it)]:List (Str×Value)),scope.names.lookup y.1=some NameKind.local:=by
  intro y hy;rcases ZQ hy with rfl | hy
  ·exact h0
  ·cases hy
 refine Kd (wpAny_newFunctionEnv hcell hbinds (fun h' hn' hs'=>?_) hkind);have e:(fun y:Str=>([((".0":Str),it)]:List (Str×Value)).reverse.lookup y)=fun y:Str=>if y=(".0":Str) then some it else none:=by
  funext y;by_cases hy:y=".0"
  ·subst hy;rfl
  ·have:(y==(".0":Str))=false:=by simpa using hy
   simp [List.lookup,this,hy]
 rw [e] at hn';refine Kd (wpAny_newGen (Kd (wpAny_mkText (Kd (wpAny_mkText (wpAny_newObj_type ?_ (by size_fits)))))));exact h₄ h' hn' hs'
end
section
theorem ZiJ {c:Cx}{l:List (Nat×A)}{o:List O}{k:List A}{Q:St→Prop}{w:World}{x:Str}(hK:KIn c (kk2 w.params)) (q:Q ⟨l,o,.d (.bool ((["root","timestamp","snapshot","targets"]:List Str).any (· == x)))::k⟩):OJ2 c (compareOp .In) ⟨l,o,.d (.val (.ref 75))::.d (.str x)::k⟩ Q:=o2 (fun F st vs s g ρ m u v W zq1 h2 Q' hq=>by
 refine oze zq1 fun t h1=>?_;subst h2;subst h1;have hl:s.heap.IsTuple 75 #[.str "root" 283,.str "timestamp" 284,.str "snapshot" 285,.str "targets" 286]:=⟨_,(W.kIn hK) 75 _ (by kd_p1),rfl,_,rfl⟩;have hu:=c.hu;refine SeqAt.in_tupleAt (fun v=>match v with | .str y _=>y==x | _=>false) hl (fun y hy=>?_) ?_
 rotate_left
 ·rw [List.any_toArray];exact hq _ s.toks rfl
 simp only [List.mem_toArray,List.mem_cons,List.not_mem_nil,or_false] at hy;rcases hy with h | h | h | h <;> (subst h;exact ZeQ (p:=c.p) (w:=c.w) 1 (a:=.str _) (b:=.str x) trivial ⟨_,rfl⟩ ⟨_,rfl⟩ (by show c.A.units+1+1<cLine;lia))) q
end
section
noncomputable def WJ (ks rs:List (Str×D)):D:=.inst 324 ([("keys",.dict ks),("roles",.dict rs),("succinct_roles",.none),("unrecognized_fields",.dict [])]:List (Str×D))
end
section
section
variable {c:Cx}{l:List (Nat×A)}{o:List O}{k:List A}
theorem Zl5 {p:Program}{w:World}{g:Heap}{ρ:List Addr}{es:List (Str×A)}{kvs:List (Str×Value)}{i:Nat}{x:Str×Value}(h:ARe p w g ρ es kvs) (e:kvs[i]?=some x):∃a,es[i]?=some (x.1,a)∧AR p w g ρ a x.2:=by
 refine Zb ((Y1.mp h).getR e) fun v h1 h2=>?_;exact ⟨v.2,h2.1.symm▸h1,h2.2⟩
theorem Zik {tgt:Expr}{j:Nat}{es:List (Str×A)}{ep:Nat}{QI:(St→Prop)→List A→St→Prop}(ho:o[j]?=some (.dict es ep)) (q:QI (fun st=>st.own[j]?=some (.dict es ep)) (es.map fun e=>A.d (.str e.1)) ⟨l,o,k⟩)
 (ht:∀it v,letOwnedTupleGo tgt it v=pure ():=by intro z z;rfl):ItJ c tgt ⟨l,o,.own j::k⟩ QI:=fun F v vs s zq0=>by
 refine ozr zq0 fun g ρ m W=>?_;obtain ⟨a,ea,e1⟩:∃a,ρ[j]?=some a∧v = .ref a:=Zd W.stk;subst e1;refine Zx (W.own j _ a ho ea) fun kvs hns hl hv=>?_;refine wpAny_pyIter_dict (Zbn hns) hl (Wp (W.stack (Za W.stk)) (need:=0) (Nat.zero_le _) (fp:=[s.heap.objs.size]) (pn:=[(j,a)]) (Si:=fun i h=>h.IsKeyIter s.heap.objs.size a i es.length ep) ?_ (by rw [←(Yy hv)];exact ⟨_,Kh _ rfl,rfl,rfl⟩) (fun q hq=>by rw [List.mem_singleton] at hq;subst hq;exact ea) q);refine {th:=XT fun i h x=>by refine Zb x fun o e z=>?_;exact ⟨o,e⟩,fpx:=fun b hb=>.inl hb,frame:=fun i h h' x hk=>x.at fun o e=>hk _ (Zda rfl) o e,self:=fun A i s Q E hA hSi hq=>wpAny_pyIter_keyiter hSi hq,item:=?_,done:=?_}
 ·rintro c' F' hs i x st' vs' s' hc z hx hSi hok z hp hd ⟨g',ρ',m',W'⟩;refine Zx (W'.own j _ a hok (W'.pin _ (hp _ (List.mem_singleton.mpr rfl)))) fun kvs' z hl' hv'=>?_;have hn':=Yy hv';rw [List.getElem?_map] at hx;refine Zb (Z9 hx) fun e he zo1=>?_;subst zo1;refine Zb (Zn6 hv' he) fun u hu z=>?_;refine wpAny_pyNext_dict_item (by rw [hn'];exact hSi) hl' hu fun key h2 hkey hit hs2=>⟨key,rfl,wpAny_of_eq (ht _ _) ⟨by rw [hn'] at hit;exact hit,g',ρ',m',?_⟩⟩;have hkey':AR c'.p c'.w g' ρ' (.d (.str e.1)) key:=Zdi hkey;exact (Zcb W' (by refine Zb hSi fun o e z=>?_;exact ⟨o,e⟩) hd (h':=h2) (t:=s'.toks) fun b o hb e=>(hs2.2 b hb).trans e).push hkey'
 ·rintro c' F' hs st' vs' s' hc z hSi hok z hp hd ⟨g',ρ',m',W'⟩;refine Zx (W'.own j _ a hok (W'.pin _ (hp _ (Zda rfl)))) fun kvs' z hl' hv'=>?_;have hn':=Yy hv';rw [List.length_map] at hSi;refine wpAny_pyNext_dict_end c'.hh (by rw [hn'];exact hSi) hl' (by simp [hn']) fun h2 he=>⟨rfl,g',ρ',m',?_⟩;exact ZdX W' (by refine Zb hSi fun o e z=>?_;exact ⟨o,e⟩) hd (h':=h2) (t:=s'.toks) fun b o hb e=>he b o hb e
end
end
section
section
variable {c:Cx}{F:Fz}{st:St}{vs:List Value}{s:Shared}{g:Heap}{ρ:List Addr}{m:Str→Option Value}
structure GFeed (G:Gx) (A₀:Around) (need:Nat) (tgt:Expr) (it:Addr) (gi:Option Nat) (pn:List (Nat×Addr)) (xs:List A) (ok:St→Prop) (Si:Nat→List Addr→Heap→Heap→Array GenState→Prop):Prop where
 th:∀{i wr gk h gs},Si i wr gk h gs→∀b∈wr,∃o,h.get? b=some o
 frame:∀{i wr gk h h' gs gs'},Si i wr gk h gs→(∀b∈wr,∀o,h.get? b=some o→h'.get? b=some o)→Sub gk h→Sub gk h'→(∀(j:Nat) x,gs[j]?=some x→gs'[j]?=some x)→Si i wr gk h' gs'
 mono:∀{i wr gk gk' h gs},Si i wr gk h gs→Sub gk gk'→Si i wr gk' h gs
 item:∀(c:Cx) (F:Fz) hs i wr a st vs s,c.G=G→c.A=A₀→need≤c.fuel→xs[i]?=some a→Si i wr F.g₀ s.heap s.gens→ok st→(∀q∈pn,q∈F.pin)→(∀q∈hs,q.1∉wr)→(∀j,gi=some j→F.gens[j]?=none)→RS c {F with hid:=Zn s.heap wr++hs} st vs s →
  wpAny (model c.p c.w) c.A (pyNext (.ref it)) (fun r s1=>∃v,r=some v∧wpAny (model c.p c.w) c.A (letOwnedTupleGo tgt (.ref it) v) (fun _ s2=>∃wr' gk,Sub F.g₀ gk∧Si (i+1) wr' gk s2.heap s2.gens∧(∀q∈hs,q.1∉wr')∧RS c {F with g₀:=gk,hid:=Zn s2.heap wr'++hs} ⟨st.loc,st.own,a::st.stk⟩ (v::vs) s2) NoE s1) NoE s
 self:∀(A:Around) i wr gk (s:Shared) (Q:Value→Shared→Prop) (E:Value→Shared→Prop),A.handled=none→Si i wr gk s.heap s.gens→Sub gk s.heap→Q (.ref it) s→wpAny (model G.p G.w) A (pyIter (.ref it)) Q E s
 done:∀(c:Cx) (F:Fz) hs wr st vs s,c.G=G→c.A=A₀→need≤c.fuel→Si xs.length wr F.g₀ s.heap s.gens→ok st→(∀q∈pn,q∈F.pin)→(∀q∈hs,q.1∉wr)→(∀j,gi=some j→F.gens[j]?=none)→RS c {F with hid:=Zn s.heap wr++hs} st vs s →
  wpAny (model c.p c.w) c.A (pyNext (.ref it)) (fun r s1=>r=none∧RS c {F with hid:=hs} st vs s1) NoE s
theorem Feed.toG {G:Gx}{A₀:Around}{need:Nat}{tgt:Expr}{it:Addr}{wr fp:List Addr}{g₁:Heap}{pn:List (Nat×Addr)}{xs:List A}{ok:St→Prop}{Si:Nat→Heap→Prop}(K:Feed G need tgt it wr fp g₁ pn xs ok Si) :
 GFeed G A₀ need tgt it none pn xs ok (fun i wr' gk h j=>wr'=wr∧Sub g₁ gk∧Si i h) where
 th:=fun zq0=>by refine Yq zq0 fun e j h=>?_;exact e▸K.th _ _ h
 frame:=fun ⟨e,hg,h⟩ hk h1 h2 _=>⟨e,hg,K.frame _ _ _ h fun b hb o ho=>by
  rcases K.fpx b hb with hb | ⟨o',e'⟩
  ·exact hk b (e▸hb) o ho
  ·have:=h1 _ _ (hg _ _ e');rw [ho] at this;obtain rfl:=Kc this;exact h2 _ _ (hg _ _ e')⟩
 mono:=fun zq2 x=>by refine Yq zq2 fun e hg h=>?_;exact ⟨e,hg.trans x,h⟩
 item:=fun c F hs i wr' a st vs s e j hn ha zq3 hok hp hd j R=>by
  refine Yq zq3 fun ew hg hSi=>?_;subst ew;refine wpm (K.item c F hs i a st vs s e hn ha hSi hok hg hp hd R) (fun r s1 zq4=>by refine Zb zq4 fun v hr h=>?_;exact ⟨v,hr,Kb h (fun j s2 zq5=>by refine oza zq5 fun h1 h2=>?_;exact ⟨_,F.g₀,Sub.refl _,⟨rfl,hg,h1⟩,hd,h2⟩) fun j j x=>x⟩)
 self:=fun A i wr' gk s Q E hA zq6 j hq=>by refine Yq zq6 fun j j h=>?_;exact K.self A i s Q E hA h hq
 done:=fun c F hs wr' st vs s e j hn zq7 hok hp hd j R=>by
  refine Yq zq7 fun ew hg hSi=>?_;subst ew;exact K.done c F hs st vs s e hn hSi hok hg hp hd R
inductive IGGot (c:Cx) (F:Fz) (tgt:Expr) (vs:List Value) (Q:(St→Prop)→List A→St→Prop) (itv:Value) (s':Shared):Prop
 | mk (it:Addr) (need:Nat) (gi:Option Nat) (pn:List (Nat×Addr)) (xs:List A) (ok:St→Prop) (Si:Nat→List Addr→Heap→Heap→Array GenState→Prop) (wr:List Addr) (gk:Heap) (st':St) (e:itv = .ref it) (hn:need≤c.fuel) (K:GFeed c.G c.A need tgt it gi pn xs ok Si) (h0:Si 0 wr gk s'.heap s'.gens) (hg:Sub F.g₀ gk) (hd:∀q∈F.hid,q.1∉wr) (hgi:∀j,gi=some j→F.gens[j]?=none)
  (R:RS c {F with g₀:=gk,hid:=Zn s'.heap wr++F.hid,pin:=pn++F.pin} st' vs s') (q:Q ok xs st')
def IGJ (c:Cx) (tgt e:Expr) (st:St) (Q:(St→Prop)→List A→St→Prop):Prop :=
 ∀F vs s,RS c F st vs s→wpAny (model c.p c.w) c.A (eval e c.env) (fun v s1=>wpAny (model c.p c.w) c.A (pyIter v) (IGGot c F tgt vs Q) NoE s1) NoE s
theorem ZfC {c:Cx}{tgt e:Expr}{st:St}{Q:(St→Prop)→List A→St→Prop}(h:IEJ c tgt e st Q):IGJ c tgt e st Q:=fun F vs s R =>
 wpm (h F vs s R) (fun v s1 h1=>Kb h1 (fun itv s2 h2=>by
  obtain ⟨it,need,wr,fp,g₁,pn,xs,ok,Si,st2,e1,hneed,K,hS0,hg,hd,R2,hL⟩:=h2;exact ⟨it,need,none,pn,xs,ok,_,wr,g₁,st2,e1,hneed,K.toG,⟨rfl,Sub.refl _,hS0⟩,hg,hd,(fun j e=>nomatch e),R2,hL⟩) fun j j x=>x)
theorem RS.pinG {F:Fz}{st:St}{vs:List Value}{s:Shared}(R:RS c F st vs s):RS c {F with gens:=s.gens} st vs s:=by
 refine ozr R fun g ρ m W=>?_;exact ⟨g,ρ,m,{toHS:=⟨W.base,W.g0,W.keep,W.reg,W.hid,fun j j e=>e,W.bare,W.os⟩,ns:=W.ns,nl:=W.nl,loc:=W.loc,len:=W.len,nd:=W.nd,fr:=W.fr,own:=W.own,stk:=W.stk,cel:=W.cel,apart:=W.apart,pin:=W.pin}⟩
theorem RS.unG {F:Fz}{st:St}{vs:List Value}{s:Shared}{gs:Array GenState}(x:∀(i:Nat) y,F.gens[i]?=some y→gs[i]?=some y) (R:RS c {F with gens:=gs} st vs s):RS c F st vs s:=by
 refine ozr R fun g ρ m W=>?_;exact ⟨g,ρ,m,{toHS:=⟨W.base,W.g0,W.keep,W.reg,W.hid,fun i y e=>W.gens i y (x i y e),W.bare,W.os⟩,ns:=W.ns,nl:=W.nl,loc:=W.loc,len:=W.len,nd:=W.nd,fr:=W.fr,own:=W.own,stk:=W.stk,cel:=W.cel,apart:=W.apart,pin:=W.pin}⟩
theorem RS.gensK {F:Fz}{st:St}{vs:List Value}{s:Shared}(R:RS c F st vs s):∀(i:Nat) y,F.gens[i]?=some y→s.gens[i]?=some y:=by refine ozr R fun j j j W=>?_;exact W.gens
theorem RS.g0K {F:Fz}{st:St}{vs:List Value}{s:Shared}(R:RS c F st vs s):Sub F.g₀ s.heap:=by refine ozr R fun j j j W=>?_;exact W.g0.trans W.keep
theorem GFeed.stay {G:Gx}{A₀:Around}{need:Nat}{tgt:Expr}{it:Addr}{gi:Option Nat}{pn:List (Nat×Addr)}{xs:List A}{ok:St→Prop}{Si:Nat→List Addr→Heap→Heap→Array GenState→Prop}(K:GFeed G A₀ need tgt it gi pn xs ok Si) {i:Nat}{wr:List Addr}{h':Heap}{gs':Array GenState}{hs:List (Addr×Obj)}{F':Fz}
 (hSi:Si i wr F'.g₀ h' gs') (hF:F'.hid=Zn h' wr++hs) {st3:St} {us:List Value} {s3:Shared} {c':Cx} (hb:Sub F'.g₀ h') (hgs:F'.gens=gs') (hd:∀q∈hs,q.1∉wr) (R:RS c' F' st3 us s3):Si i wr F'.g₀ s3.heap s3.gens∧RS c' {F' with hid:=Zn s3.heap wr++hs} st3 us s3:=by
 obtain ⟨g3,ρ3,m3,W4⟩:=R;have hSi3:Si i wr F'.g₀ s3.heap s3.gens:=K.frame hSi (fun b hb' o e=>(W4.hid (b,o) (hF▸Kg _ (ZU hb' e))).1) hb (W4.g0.trans W4.keep) fun j x e=>W4.gens j x (hgs▸e);refine ⟨hSi3,g3,ρ3,m3,?_⟩;have keys:=Z4 (K.th hSi);obtain ⟨g0',hid',gens',os',pin'⟩:=F';simp only at hF;subst hF;exact RSW.rehide (F:=⟨g0',hs,gens',os',pin'⟩) (g₁:=g0') (hs:=Zn h' wr) (hs':=Zn s3.heap wr) W4 (fun q hq z=>hd q hq ((keys _).mp z)) (h':=s3.heap) (t:=s3.toks) (fun u u u e=>e) fun q hq=>⟨(keys _).mpr (Zi hq).1,(Zi hq).2⟩
theorem RSW.of_g0 {F:Fz}{st:St}{vs:List Value}{s:Shared}{g g₁:Heap}{ρ:List Addr}{m:Str→Option Value}(x:Sub F.g₀ g₁) (W:RSW c {F with g₀:=g₁} st vs s g ρ m):RSW c F st vs s g ρ m :=
 {toHS:=⟨W.base,x.trans W.g0,W.keep,W.reg,W.hid,W.gens,W.bare,W.os⟩,ns:=W.ns,nl:=W.nl,loc:=W.loc,len:=W.len,nd:=W.nd,fr:=W.fr,own:=W.own,stk:=W.stk,cel:=W.cel,apart:=W.apart,pin:=W.pin}
structure AccOK (ce tgt iter:Expr) (ifs:List Expr) (newAcc:Sem Value) (obj:Obj) (o0:O) (emit:Env→Addr→Sem Unit):Prop where
 cl:clausesOf ce=[⟨tgt,iter,ifs,0⟩]
 nw:∀(p:Program) (w:World) (A:Around) (s:Shared) (Q:Value→Shared→Prop) (E:Value→Shared→Prop),Q (.ref s.heap.objs.size) {s with heap:=s.heap.push obj}→wpAny (model p w) A newAcc Q E s
 at_:∀(p:Program) (w:World) (g:Heap) (ρ:List Addr) (h:Heap),sysModules<h.objs.size→OAt p w g ρ (h.push obj) o0 h.objs.size
 loop:∀(p:Program) (w:World) (A:Around) (it:Value) (D:Addr) (env:Env) (R:Result→Shared→Prop) (I:Nat→Shared→Prop),
  (∀n s,I n s→wpAny (model p w) A (pyNext it) (fun r s₁=>match r with
   | none=>R (.ok .next) s₁
   | some v=>wpAny (model p w) A (letOwnedTupleGo tgt it v) (fun _ s₁'=>wpAny (model p w) A (assign tgt env v) (fun _ s₂ =>
    wpAny (model p w) A (forIn ifs true fun c r=>if r=true then do let ok ←isTrue c env (eval c env);pure (ForInStep.yield ok) else pure (ForInStep.yield r)) (fun ok s₃ =>
     if ok=true then wpAny (model p w) A (emit env D) (fun _ s₄=>∃m,m<n∧I m s₄) NoE s₃
     else ∃m,m<n∧I m s₃) NoE s₂) NoE s₁') NoE s₁) NoE s) →
  ∀(n:Nat) (s:Shared),I n s→codeAny (model p w) A (.compLoop ce 0 it (.ref D) env) R s
 start:∀(p:Program) (w:World) (A:Around) (it acc:Value) (env:Env) (R:Result→Shared→Prop) (s:Shared),codeAny (model p w) A (.compLoop ce 0 it acc env) R s→wpAny (model p w) A (pyIter it) (fun it' s'=>codeAny (model p w) A (.compLoop ce 0 it' acc env) R s') NoE s→codeAny (model p w) A (.compStart ce 0 it acc env) R s
def EmJ (c:Cx) (emit:Env→Addr→Sem Unit) (n:Nat) (st:St) (Q:St→Prop):Prop :=
 ∀F D s,(n,D)∈F.pin→RS c F st [] s→wpAny (model c.p c.w) c.A (emit c.env D) (fun j s'=>Got c F [] Q s') NoE s
noncomputable def ZaZ (c:Cx) (tgt:Expr) (ifs:List Expr) (emit:Env→Addr→Sem Unit) (ok:St→Prop) (n:Nat):List A→St→(St→Prop)→Prop
 | [],st,Q=>ok st∧Q st
 | x::xs,st,Q=>ok st∧AsJ c tgt ⟨st.loc,st.own,x::st.stk⟩ fun st1=>Za9 c ifs st1 fun b st2 =>
  (b=true→EmJ c emit n st2 fun st3=>ZaZ c tgt ifs emit ok n xs st3 Q) ∧
  (b=false→ZaZ c tgt ifs emit ok n xs st2 Q)
inductive CInv (c':Cx) (tgt:Expr) (ifs:List Expr) (emit:Env→Addr→Sem Unit) (ok:St→Prop) (n0:Nat) (xs:List A) (Si:Nat→List Addr→Heap→Heap→Array GenState→Prop) (g:Heap) (hs:List (Addr×Obj)) (gens:Array GenState) (os:OsState) (pin:List (Nat×Addr)) (Qx:St→Prop) (k:Nat) (s':Shared):Prop
 | mk (i:Nat) (st':St) (wr:List Addr) (gk:Heap) (hi:i≤xs.length) (hk:k=xs.length+1 - i) (hg:Sub g gk) (hS:Si i wr gk s'.heap s'.gens) (hd:∀q∈hs,q.1∉wr) (R:RS c' ⟨gk,Zn s'.heap wr++hs,gens,os,pin⟩ st' [] s') (hL:ZaZ c' tgt ifs emit ok n0 (xs.drop i) st' Qx)
theorem Zhq {c':Cx}{tgt:Expr}{ifs:List Expr}{emit:Env→Addr→Sem Unit}{ok:St→Prop}{n0 need:Nat}{it:Addr}{gi:Option Nat}{pn:List (Nat×Addr)}{xs:List A}{Si:Nat→List Addr→Heap→Heap→Array GenState→Prop}{g:Heap}{hs:List (Addr×Obj)}{gens:Array GenState}{os:OsState}{pin:List (Nat×Addr)}{Qx:St→Prop}{G:Gx}{A0:Around}{D:Addr}{R:Result→Shared→Prop}
 (KF:GFeed G A0 need tgt it gi pn xs ok Si) (eG:c'.G=G) (eA:c'.A=A0) (hneed:need≤c'.fuel) (hpn:∀q∈pn,q∈pin) (hgi:∀j,gi=some j→gens[j]?=none) (hD:(n0,D)∈pin)
 (hfin:∀s4 gk st',Sub g gk→RS c' ⟨gk,hs,gens,os,pin⟩ st' [] s4→Qx st'→R (.ok .next) s4) (n:Nat) (s:Shared) (I:CInv c' tgt ifs emit ok n0 xs Si g hs gens os pin Qx n s) :
 wpAny (model c'.p c'.w) c'.A (pyNext (.ref it)) (fun r s₁=>match r with
  | none=>R (.ok .next) s₁
  | some v=>wpAny (model c'.p c'.w) c'.A (letOwnedTupleGo tgt (.ref it) v) (fun u s₁'=>wpAny (model c'.p c'.w) c'.A (assign tgt c'.env v) (fun u s₂ =>
   wpAny (model c'.p c'.w) c'.A (forIn ifs true fun e r=>if r=true then do let ok ←isTrue e c'.env (eval e c'.env);pure (ForInStep.yield ok) else pure (ForInStep.yield r)) (fun ok' s₃ =>
    if ok'=true then wpAny (model c'.p c'.w) c'.A (emit c'.env D) (fun u s₄=>∃m,m<n∧CInv c' tgt ifs emit ok n0 xs Si g hs gens os pin Qx m s₄) NoE s₃
    else ∃m,m<n∧CInv c' tgt ifs emit ok n0 xs Si g hs gens os pin Qx m s₃) NoE s₂) NoE s₁') NoE s₁) NoE s:=by
 obtain ⟨i,st3,wr,gk,hi,rfl,hgk,hSi,hdis,R3,hL3⟩:=I;rcases Nat.lt_or_ge i xs.length with hlt | hge
 ·rw [List.drop_eq_getElem_cons hlt] at hL3;refine oza hL3 fun hok hL3=>?_;refine Kb (KF.item c' ⟨gk,[],gens,os,pin⟩ hs i wr _ st3 [] s eG eA hneed (Ke hlt) hSi hok hpn hdis hgi R3) (fun r s4 z=>?_) fun u u x=>False.elim x;refine Zb z fun v zo2 h4=>?_;subst zo2;refine Kb h4 (fun u s5 z=>?_) fun u u x=>False.elim x;refine Yk z fun wr5 gk5 hgk5 hSi5 hdis5 R5=>?_;have fin:∀{st':St} {s':Shared},RS c' ⟨gk5,Zn s5.heap wr5++hs,s5.gens,os,pin⟩ st' [] s'→ZaZ c' tgt ifs emit ok n0 (xs.drop (i+1)) st' Qx→∃m,m<xs.length+1 - i∧CInv c' tgt ifs emit ok n0 xs Si g hs gens os pin Qx m s':=fun {st' s'} R' hL =>
   have key:=KF.stay (F':=⟨gk5,Zn s5.heap wr5++hs,s5.gens,os,pin⟩) hSi5 rfl R5.g0K rfl hdis5 R'
   ⟨_,ZcT hlt,i+1,st',wr5,gk5,hlt,rfl,hgk.trans hgk5,key.1,hdis5,RS.unG (F:=⟨gk5,Zn s'.heap wr5++hs,gens,os,pin⟩) R5.gensK key.2,hL⟩
  refine Kb (hL3 _ v [] _ R5.pinG) (fun u s6 z=>?_) fun u u x=>False.elim x;obtain ⟨st6,R6,h6⟩:=z;refine Kb (ZkR h6 R6) (fun b s7 z=>?_) fun u u x=>False.elim x;obtain ⟨st7,R7,h7⟩:=z;induction b with
  | false=>rw [if_neg Bool.false_ne_true];exact fin R7 (h7.2 rfl)
  | true =>
   refine (if_pos rfl)▸(Kb (h7.1 rfl _ _ s7 hD R7) (fun u s8 z=>?_) fun u u x=>False.elim x);obtain ⟨st8,R8,h8⟩:=z;exact fin R8 h8
 ·obtain rfl:=Nat.le_antisymm hi hge;replace hL3:=List.drop_length▸hL3;refine oza hL3 fun hok hL3=>?_;refine Kb (KF.done c' ⟨gk,[],gens,os,pin⟩ hs wr st3 [] s eG eA hneed hSi hok hpn hdis hgi R3) (fun r s4 z=>?_) fun u u x=>False.elim x;refine oza z fun zo3 R4=>?_;subst zo3;exact hfin s4 gk st3 hgk R4 hL3
structure CompIs (c c':Cx) (scope:Scope) (C:Addr) (cells:List (Str×Addr)) (cel:List (Str×Nat)):Prop where
 G:c'.G=c.G
 A:c'.A=c.A
 env:c'.env=compEnvC scope cells C c.env
 tab:c'.tab=Zf scope
 cel:c'.cel=cel
 fuel:c'.fuel=c.fuel
theorem ZlQ (c:Cx) (scope:Scope) (hk:scope.kind = .function) (ht:(Zf scope).Nodup) (C:Addr) (cells:List (Str×Addr)) (cel:List (Str×Nat)):∃c',CompIs c c' scope C cells cel:=⟨Zop c scope hk ht C cells cel,⟨rfl,rfl,rfl,rfl,rfl,rfl⟩⟩
theorem ZaM {ce tgt iter:Expr}{ifs:List Expr}{newAcc:Sem Value}{obj:Obj}{o0:O}{emit:Env→Addr→Sem Unit}{scope:Scope}{p1:Pos}{celA:List (Str×Nat)}{use:Option (Value→Sem Unit)}{Qv:Value→Shared→Prop}(X:AccOK ce tgt iter ifs newAcc obj o0 emit) (K:CompOK c scope celA)
 (hs:∀x,foldedSetIterable iter c.env x=pure x) {Q:St→Prop}
 (h:IGJ c tgt iter st fun ok xs st2=>∀c',CompFr c c' scope (Yr scope celA st2.own.length)→ZaZ c' tgt ifs emit ok st2.own.length xs
  ⟨[],st2.own++[o0]++List.replicate (ZK scope.names) (.cell none),[]⟩ (fun st3=>Q ⟨st2.loc,st3.own,.own st2.own.length::st2.stk⟩)) (R:RS c F st vs s)
 (fin:∀D C s' st' mC lo,Q st'→s'.heap.Ns C mC→s'.heap.get? C=some lo→(∀q∈F.hid,q.1≠C)→RS c {F with hid:=[(C,lo)]++F.hid} st' (.ref D::vs) s'→compPost (model c.p c.w) c.A NoE use Qv (.ref D) C (.ok .next) s') :
 wpAny (model c.p c.w) c.A (comprehension ce scope c.env p1 newAcc false (eval iter c.env) use) Qv NoE s:=by
 obtain ⟨cl,hclos,hcl⟩:∃cl,closureFor scope c.env=pure cl∧∀x,(x,NameKind.free)∈scope.names→cl.lookup x=c.env.cells.lookup x:=by
  refine ozr R fun g ρ m W=>?_;refine Ze5 scope c.env fun x hx=>?_;refine oze (K.free x hx) fun i hi=>?_;refine Zb (W.cel x i (K.celA _ hi).1) fun a u e=>?_;exact ⟨a,e⟩
 refine wpAny_comprehension_free X.cl hs hclos K.kind K.names (wpm (h F vs s R) (fun v s1 h1=>Kb h1 (fun itv s2 h2=>?_) fun u u x=>x));obtain ⟨it,need,gi,pn,xs,ok,Si,wr,g₁,st2,rfl,hneed,KF,hS0,hg,hd,hgi,⟨g,ρ,m,W⟩,hL⟩:=h2;refine X.nw _ _ _ _ _ _ (Zd2 ?_)
 try dsimp only
 have hsys:sysModules<s2.heap.objs.size:=by
  refine oze (c.G.lib.low _ W.base) fun o e=>?_;exact Nat.lt_of_le_of_lt (by decide) (Kk (W.keep _ _ e))
 have W1:=W.allocO obj s2.toks (o':=o0) (X.at_ _ _ _ _ _ hsys);have W2:=W1.alloc {cls:=.type "dict",data:=.dict #[]} s2.toks;have W3:=RSW.cells scope.names W2;have eC:(s2.heap.push obj).objs.size=s2.heap.objs.size+1:=Heap.size_push ..;have eC2:((s2.heap.push obj).push {cls:=.type "dict",data:=.dict #[]}).objs.size=s2.heap.objs.size+2:=by rw [Heap.size_push,eC]
 dsimp only at W3;rw [eC2] at W3;rw [eC];generalize hH:pushCells ((s2.heap.push obj).push {cls:=.type "dict",data:=.dict #[]}) scope.names=H at W3 ⊢;have old:Sub s2.heap H:=fun b o e=>hH▸pushCells_keeps _ _ _ _ (Kn _ (Kn _ e));have hns:H.Ns (s2.heap.objs.size+1) (fun u=>none):=by
  have:=(Heap.Ns.new (s2.heap.push obj) (.type "dict")).keeps (h':=H) fun b o e=>hH▸pushCells_keeps _ _ _ _ e
  rwa [eC] at this
 generalize hρ:ρ++[s2.heap.objs.size]++List.range' (s2.heap.objs.size+2) (ZK scope.names)=ρ1 at W3;have hnew:s2.heap.objs.size+1∉Z0 c.G {F with g₀:=g₁,hid:=Zn s2.heap wr++F.hid,pin:=pn++F.pin} (c.env.locals::ρ1):=fun z=>by
  have:s2.heap.objs.size+1∈Z0 c.G {F with g₀:=g₁,hid:=Zn s2.heap wr++F.hid,pin:=pn++F.pin} (c.env.locals::ρ):=by
   refine Or.elim (Z8 z) (fun z=>?_) fun z=>?_
   ·refine Or.elim (ZQ z) (fun z=>?_) fun z=>?_
    ·exact Kg _ (z▸.head _)
    ·rw [←hρ] at z;refine Or.elim (Z8 z) (fun z=>?_) fun z=>?_
     ·refine Or.elim (Z8 z) (fun z=>?_) fun z=>?_
      ·exact Kg _ (.tail _ z)
      ·exact absurd (ZaI z) (Nat.succ_ne_self _)
     ·have:=(List.mem_range'_1.mp z).1;exact absurd this (by simp)
   ·exact Kf _ z
  refine oze (W.thereM _ this) fun ob e=>?_;exact absurd (Kk e) (by simp)
 have hgC:g.get? (s2.heap.objs.size+1)=none:=W.keep.none (by
  induction q:s2.heap.get? (s2.heap.objs.size+1) with
  | none=>rfl
  | some o=>exact absurd (Kk q) (by simp))
 have hcel:∀x (i:Nat),(x,i)∈Yr scope celA st2.own.length→∃a,ρ1[i]?=some a∧(cellsFrom (s2.heap.objs.size+2) scope.names cl).lookup x=some a:=fun x i hx=>by
  refine Or.elim (Z8 hx) (fun hx=>?_) fun hx=>?_
  ·refine Yq (K.celA (x,i) hx) fun h1 h2 h5=>?_;refine Zb (W.cel x i h1) fun a h3 h4=>?_;refine ⟨a,?_,by rw [Wk h5,hcl x h2];exact h4⟩;have hi:i<ρ.length:=(ZI h3).1;rw [←hρ,List.append_assoc,Kl hi];exact h3
  ·refine Zb (Xb hx) fun zo4 h1 h2=>?_;obtain ⟨y,j⟩:=zo4;cases h2;have h3:=List.mem_zipIdx_iff_getElem?.mp h1;have hj:j<ZK scope.names:=by rw [Zb6];exact (ZI h3).1
   refine ⟨s2.heap.objs.size+2+j,?_,X6 K.nd h3⟩;have hl:(ρ++[s2.heap.objs.size]).length=st2.own.length+1:=by simp [W.len]
   rw [←hρ,Km (by rw [hl];exact Ko _ _),hl,Nat.add_sub_cancel_left,List.getElem?_range' hj];simp
 refine oze (ZlQ c scope K.kind K.tnd (s2.heap.objs.size+1) (cellsFrom (s2.heap.objs.size+2) scope.names cl) (Yr scope celA st2.own.length)) fun c' C=>?_;have eL:c'.env.locals=s2.heap.objs.size+1:=by rw [C.env];rfl
 refine Zb (W3.enter (c':=c') C.G (h':=H) (tk:=s2.toks) (l:=[]) (Sub.refl _) (m':=fun u=>none) (by rw [eL];exact hns) (by rw [eL];exact hnew) (by rw [eL];exact hgC) (fun u u h=>nomatch h) (fun x i h=>by rw [C.env];exact hcel x i (C.cel▸h))) fun lo hlo WI=>?_;dsimp only at hlo;have hth:=KF.th hS0;have hst:∀q∈Zn H wr,q∈Zn s2.heap wr:=fun q hq=>by
  refine oza (Zi hq) fun h1 h2=>?_;refine oze (hth _ h1) fun o e=>?_;have e2:=old _ _ e;rw [h2] at e2;cases e2;exact ZU h1 e
 have hLw:c.env.locals∉wr:=fun z=>by
  refine oze (hth _ z) fun o e=>?_;exact (W.apart _ (.head _)).2 _ (Kg _ (ZU z e)) rfl
 have hdis:∀q∈(c.env.locals,lo)::F.hid,q.1∉wr:=fun q hq=>by
  rcases ZQ hq with rfl | hq
  ·exact hLw
  ·exact hd q hq
 have hS1:Si 0 wr g H s2.gens:=KF.mono (KF.frame hS0 (fun b u o e=>old b o e) (W.g0.trans W.keep) ((W.g0.trans W.keep).trans old) fun u u e=>e) W.g0;have hpn:∀q∈pn,q∈idx ρ1:=fun q hq=>by
  have h3:=W.pin q (Kg _ hq);have hi:q.1<ρ.length:=(ZI h3).1;exact UA (by rw [←hρ,List.append_assoc,Kl hi];exact h3)
 have hD:ρ1[st2.own.length]?=some s2.heap.objs.size:=by
  rw [←hρ,List.append_assoc,Km (by rw [W.len];exact Kq _),W.len,Nat.sub_self];rfl
 have R0:RS c' ⟨g,Zn H wr++((c.env.locals,lo)::F.hid),F.gens,F.os,idx ρ1⟩ ⟨[],st2.own++[o0]++List.replicate (ZK scope.names) (.cell none),[]⟩ [] {s2 with heap:=H} :=
  ⟨g,ρ1,_,RSW.hids WI (hs:=Zn H wr++((c.env.locals,lo)::F.hid)) fun q hq=>by
   refine Or.elim (Z8 hq) (fun hq=>?_) fun hq=>?_
   ·exact .tail _ (Kg _ (hst q hq))
   ·rcases ZQ hq with rfl | hq
    ·exact .head _
    ·exact .tail _ (Kf _ hq)⟩
 have W3':RSW c F ⟨st2.loc,st2.own++[o0]++List.replicate (ZK scope.names) (.cell none),st2.stk⟩ vs {s2 with heap:=H} g ρ1 m:=by
  have:=(RSW.hids W3 (hs:=F.hid) fun q hq=>Kf _ hq).pins (pn:=F.pin) fun q hq=>W3.pin q (Kf _ hq);exact {toHS:=⟨this.base,hg.trans this.g0,this.keep,this.reg,this.hid,this.gens,this.bare,this.os⟩,ns:=this.ns,nl:=this.nl,loc:=this.loc,len:=this.len,nd:=this.nd,fr:=this.fr,own:=this.own,stk:=this.stk,cel:=this.cel,apart:=this.apart,pin:=this.pin}
 clear WI W3 W2 W1 hcel;have loop:codeAny (model c.p c.w) c.A (.compLoop ce 0 (.ref it) (.ref s2.heap.objs.size) (compEnvC scope (cellsFrom (s2.heap.objs.size+2) scope.names cl) (s2.heap.objs.size+1) c.env)) (compPost (model c.p c.w) c.A NoE use Qv (.ref s2.heap.objs.size) (s2.heap.objs.size+1)) {s2 with heap:=H}:=by
  rw [←C.env];show codeAny (model c.G.p c.G.w) c.A _ _ _;rw [←C.G,←C.A];refine X.loop _ _ _ _ _ _ _ (CInv c' tgt ifs emit ok st2.own.length xs Si g ((c.env.locals,lo)::F.hid) F.gens F.os (idx ρ1) fun st3=>Q ⟨st2.loc,st3.own,.own st2.own.length::st2.stk⟩) (Zhq KF C.G C.A (by rw [C.fuel];exact hneed) hpn hgi (UA hD) fun s4 gk st3 hgk R4 hL3=>?_) (xs.length+1) _ ⟨0,_,wr,g,Nat.zero_le _,rfl,Sub.refl _,hS1,hdis,R0,(hL c' ⟨C.G,C.fuel,C.tab,fun u=>by rw [C.env];rfl,C.cel⟩)⟩;rw [C.A];obtain ⟨g4,ρ4,m4,W4⟩:=R4;refine Yq (W3'.leave C.G hlo (W5:=((RSW.of_g0 (F:=⟨g,(c.env.locals,lo)::F.hid,F.gens,F.os,idx ρ1⟩) hgk W4))) (h':=s4.heap) (tk:=s4.toks) fun u u u e=>e) fun W5 sb ex=>?_;refine ZZ (id W4.ns) fun lo' es' ep' e' r'=>?_;rw [eL] at e';have ap:=W4.apart;rw [eL,C.G] at ap;have hCm:s2.heap.objs.size+1∉Z0 c.G F (c.env.locals::ρ4):=fun z=>by
   refine Or.elim (Z8 z) (fun z=>?_) fun z=>?_
   ·refine Or.elim (ZQ z) (fun z=>?_) fun z=>?_
    ·exact (ap _ (.head _)).2 _ (.head _) z
    ·exact (W4.fr _ z).2 eL.symm
   ·refine Or.elim (Z8 z) (fun z=>?_) fun z=>?_
    ·refine Zb (Xb z) fun r hr e=>?_;exact (ap _ (.head _)).1 r hr e.symm
    ·refine Zb (Xb z) fun q hq e=>?_;exact (ap _ (.head _)).2 q (.tail _ hq) e.symm
  refine fin s2.heap.objs.size (s2.heap.objs.size+1) s4 _ m4 lo' hL3 (by have:=W4.ns;rwa [eL] at this) e' (fun q hq z=>(ap _ (.head _)).2 q (.tail _ hq) z.symm) ?_;have W7:=(W5.push (a:=.own st2.own.length) (v:=.ref s2.heap.objs.size) ⟨_,ex _ _ hD,rfl⟩).hide (hs:=[(s2.heap.objs.size+1,lo')]) fun q hq=>by
   rw [List.mem_singleton] at hq;subst hq;exact ⟨e',by have:=W4.nl;rwa [eL] at this,hCm⟩
  exact RS.of_g (F:={F with hid:=[(s2.heap.objs.size+1,lo')]++F.hid}) W5.g0 ⟨_,_,_,W7⟩
 exact X.start _ _ _ _ _ _ _ _ loop (KF.self _ 0 _ _ _ _ _ c.hh hS1 (W.keep.trans old) loop)
noncomputable def Zis (elt:Expr) (env:Env) (D:Addr):Sem Unit:=do let _ ←call (.builtin "list.append") [.ref D,←eval elt env]
theorem Zq1 {elt tgt iter:Expr}{ifs:List Expr}{scope:Scope}{pos:Pos}:AccOK (.ListComp elt [⟨tgt,iter,ifs,0⟩] scope pos) tgt iter ifs (newList []) {cls:=.type "list",data:=.seq ([]:List Value).toArray} (.list []) (Zis elt) where
 cl:=rfl
 nw:=fun p w A s Q E h=>wpAny_newList h
 at_:=fun p w g ρ h j=>⟨[],⟨0,Kh _ rfl⟩,rfl⟩
 start:=fun p w A it acc env R s h1 h2=>codeAny_compStart_list h1 (Kb h2 (fun j j x=>x) fun j j x=>x.elim)
 loop:=fun p w A it D env R I turn n s h=>by
  refine codeAny_loop rfl I (fun n s hI=>?_) n h;show wpAny _ A ((compTurn (.ListComp elt [⟨tgt,iter,ifs,0⟩] scope pos) 0 it (.ref D) env).onRaise (fun x=>do noteFrame x env;theTreesLotGoes x)) _ _ s;refine wpAny_noted ?_;rw [compTurn_list];refine Kd (wpAny_standAt (Kd (Kb (turn n s hI) (fun r s₁ h₁=>?_) fun j j h'=>h'.elim)));induction r with
  | none=>exact Ki h₁
  | some v =>
   refine Kd (Kb h₁ (fun j s₁' h₁'=>?_) fun j j h'=>h'.elim);refine Kd (Kb h₁' (fun j s₂ h₂=>Kd (Kb h₂ (fun ok s₃ h₃=>?_) fun j j h'=>h'.elim)) fun j j h'=>h'.elim);induction ok with
   | false=>exact Ki ⟨rfl,h₃⟩
   | true=>exact Kd (Kb h₃ (fun j s₄ h₄=>Ki ⟨rfl,h₄⟩) fun j j h'=>h'.elim)
theorem ZkC {elt:Expr}{n:Nat}{Q:St→Prop}(h:EJ c elt st fun st3=>∃a ys,st3.stk=[a]∧st3.own[n]?=some (.list ys)∧ys.length≤1000000∧Q ⟨st3.loc,st3.own.set n (.list (ys++[a])),[]⟩):EmJ c (Zis elt) n st Q:=fun F D s hD R=>by
 refine Kd (wpm (h F [] s R) (fun x s8 zq16=>?_));refine Ka fun zn28=>?_;obtain ⟨st8,⟨g8,ρ8,m8,W8⟩,a,ys,hstk,hown,hlen,h8⟩:=zq16;have hD8:=W8.pin _ hD;refine Zb (W8.own _ _ _ hown hD8) fun us hus hav=>?_;refine zn28 ?_;have hst8:=W8.stk;replace hst8:=hstk▸hst8;refine Zb (Yh hst8) fun x' ex hxa=>?_
 injection ex with zi;subst zi
 refine Kd (Zab hus (by rw [Z6 hav];exact hlen) fun h9 e1 e2=>Ki ?_);exact ⟨_,⟨g8,ρ8,m8,(W8.stack (Za hst8)).setOwn (t:=s8.toks) (ZI hown).1 hD8 (fun b ob hb e=>(e2.2 b hb).trans e) (o':=.list (ys++[a])) ⟨_,e1,Zdr hav hxa⟩⟩,h8⟩
theorem Zkf {tgt:Expr}{ifs:List Expr}{elt:Expr}{ok:St→Prop}{n:Nat}{xs:List A}{st:St}{Q:St→Prop}(h:CompJ c tgt ifs elt ok n xs st Q):ZaZ c tgt ifs (Zis elt) ok n xs st Q:=by
 induction xs generalizing st with
 | nil=>exact h
 | cons x xs ih =>
  refine ⟨h.1,fun F v vs s R=>wpm (h.2 F v vs s R) (fun j s1 z=>?_)⟩;refine ozg z fun st1 R1 h3=>?_;refine ⟨st1,R1,Uj h3 fun b st2 hb=>⟨fun e=>ZkC ((hb.1 e).mono fun st3 z=>?_),fun e=>ih (hb.2 e)⟩⟩;refine Yk z fun a ys q1 q2 q3 q4=>?_;exact ⟨a,ys,q1,q2,q3,ih q4⟩
theorem IGJ.mono {tgt e:Expr}{Q Q':(St→Prop)→List A→St→Prop}(h:IGJ c tgt e st Q) (q:∀ok xs st,Q ok xs st→Q' ok xs st):IGJ c tgt e st Q':=fun F vs s R =>
 wpm (h F vs s R) (fun v s1 h1=>Kb h1 (fun itv s2 h2=>by
  obtain ⟨it,need,gi,pn,xs,ok,Si,wr,gk,st2,e1,e2,e3,e4,e5,e6,e7,e8,h⟩:=h2;exact ⟨it,need,gi,pn,xs,ok,Si,wr,gk,st2,e1,e2,e3,e4,e5,e6,e7,e8,q _ _ _ h⟩) fun j j x=>x)
theorem Zbx {tgt iter elt:Expr}{ifs:List Expr}{scope:Scope}{pos p1:Pos}{celA:List (Str×Nat)}{use:Option (Value→Sem Unit)}{Qv:Value→Shared→Prop}(K:CompOK c scope celA)
 (hs:∀x,foldedSetIterable iter c.env x=pure x) {Q:St→Prop}
 (h:IGJ c tgt iter st fun ok xs st2=>∀c',CompFr c c' scope (Yr scope celA st2.own.length)→CompJ c' tgt ifs elt ok st2.own.length xs
  ⟨[],st2.own++[.list []]++List.replicate (ZK scope.names) (.cell none),[]⟩ (fun st3=>Q ⟨st2.loc,st3.own,.own st2.own.length::st2.stk⟩)) (R:RS c F st vs s)
 (fin:∀D C s' st' mC lo,Q st'→s'.heap.Ns C mC→s'.heap.get? C=some lo→(∀q∈F.hid,q.1≠C)→RS c {F with hid:=[(C,lo)]++F.hid} st' (.ref D::vs) s'→compPost (model c.p c.w) c.A NoE use Qv (.ref D) C (.ok .next) s') :
 wpAny (model c.p c.w) c.A (comprehension (.ListComp elt [⟨tgt,iter,ifs,0⟩] scope pos) scope c.env p1 (newList []) false (eval iter c.env) use) Qv NoE s :=
 ZaM Zq1 K hs (h.mono fun ok xs st2 hq c' H=>Zkf (hq c' H)) R fin
theorem Zk6 {tgt iter elt:Expr}{ifs:List Expr}{scope:Scope}{pos:Pos}{celA:List (Str×Nat)}{Q:St→Prop}(K:CompOK c scope celA)
 (h:IGJ c tgt iter st fun ok xs st2=>∀c',CompFr c c' scope (Yr scope celA st2.own.length)→CompJ c' tgt ifs elt ok st2.own.length xs
  ⟨[],st2.own++[.list []]++List.replicate (ZK scope.names) (.cell none),[]⟩ (fun st3=>Q ⟨st2.loc,st3.own,.own st2.own.length::st2.stk⟩))
 (hs:∀x,foldedSetIterable iter c.env x=pure x:=by intro j;rfl):EJ c (.ListComp elt [⟨tgt,iter,ifs,0⟩] scope pos) st Q:=fun F vs s R=>by
 rw [eval_ListComp];refine Zbx (use:=none) K hs h R fun D C s' st' mC lo hQ hn hC hd zw=>ozr zw fun g ρ m W=>⟨mC,hn,fun h' hs'=>⟨st',⟨g,ρ,m,?_⟩,hQ⟩⟩
 have:=RSW.rehide (F:=F) (g₁:=F.g₀) (hs:=[(C,lo)]) (hs':=[]) W (fun q hq z=>hd q hq (by simpa using z)) (h':=h') (t:=s'.toks) (fun b o hb e=>(hs'.2 b (by simpa using hb)).trans e) (fun j h=>nomatch h);exact this
theorem Zc4 {y:Str}{py spos:Pos}{tgt iter elt:Expr}{ifs:List Expr}{scope:Scope}{pos:Pos}{celA:List (Str×Nat)}{QF:Fl→St→Prop}(K:CompOK c scope celA)
 (h:IGJ c tgt iter st fun ok xs st2=>∀c',CompFr c c' scope (Yr scope celA st2.own.length)→CompJ c' tgt ifs elt ok st2.own.length xs
  ⟨[],st2.own++[.list []]++List.replicate (ZK scope.names) (.cell none),[]⟩ (fun st3=>NJ c y ⟨st2.loc,st3.own,.own st2.own.length::st2.stk⟩ (QF .next)))
 (hsw:swapsWith (.ListComp elt [⟨tgt,iter,ifs,0⟩] scope pos) (some (.Name y py)) spos.line c.env=pure true:=by rfl)
 (hs:∀x,foldedSetIterable iter c.env x=pure x:=by intro j;rfl):SJ c (.Assign [.Name y py] (.ListComp elt [⟨tgt,iter,ifs,0⟩] scope pos) spos) st QF:=fun F vs s R=>by
 refine wpq (exec_Assign_Name_used _ _ _ _ hsw) ?_;refine Kd (wpAny_standAt (Kd ?_));refine Kd (wpm (Zbx (use:=some (assign (.Name y py) c.env)) (Q:=fun st=>NJ c y st (QF .next)) (Qv:=fun j s'=>Got c F vs (QF .next) s') K hs h R fun D C s' st' mC lo hQ hn hC hd R'=>?_) (fun j s' hq=>Ki (Ki hq)));refine wpm (Yi hQ _ _ vs s' R') (fun j s2 zq20=>?_);refine Ka fun zn31=>?_;refine ozg zq20 fun st2 zo2 hq=>?_;refine ozr zo2 fun g ρ m W=>?_;refine zn31 ?_;refine ⟨mC,?_,fun h' hs'=>⟨st2,⟨g,ρ,m,?_⟩,hq⟩⟩
 ·refine ZZ hn fun o es ep e r=>?_;rw [hC] at e;obtain rfl:=Kc e;exact ⟨_,es,ep,((W.hid _ (.head _)).1),r⟩
 ·exact RSW.rehide (F:=F) (g₁:=F.g₀) (hs:=[(C,lo)]) (hs':=[]) W (fun q hq z=>hd q hq (by simpa using z)) (h':=h') (t:=s2.toks) (fun b o hb e=>(hs'.2 b (by simpa using hb)).trans e) (fun j h=>nomatch h)
end
end
section
def UK (G:Gx) (W:List Addr) (h g:Heap) (F:Fz) (s:Shared) (g':Heap):Prop :=
 HS G F s g'∧Sub g g'∧F.pin=[]∧∀b∈W,g'.get? b=none∧(∀o,h.get? b=some o→s.heap.get? b=some o)∧∀q∈F.hid,b≠q.1
inductive YCons (G:Gx) (A:Around) (N:Fz→End→Shared→Prop) (y:D) (F:Fz) (e:End) (s':Shared):Prop
 | mk (v:Value) (gd:Bool) (l:List Value) (k:Resume→Sem Fin) (c:Code) (p:Pos) (fs:List Frame) (e1:e = .susp v gd l k c p fs) (e2:e.quiet=true) (g₁:Heap) (W:List Addr) (H:HS G F s' g₁) (hv:VR G.p G.w g₁ y v)
  (hW:∀b∈W,(∃o,s'.heap.get? b=some o)∧g₁.get? b=none∧(∀r∈G.reg,b≠r.at_)∧∀q∈F.hid,b≠q.1)
  (r:∀F'' s'' g'',UK G W s'.heap g₁ F'' s'' g''→∀(Γ:Ctx) p',Γ.code=c→Γ.Woken A→∃e₁ s₁,Runs (model G.p G.w) Γ p' (k (.send .none)) fs s'' e₁ s₁∧N F'' e₁ s₁)
noncomputable def YEnd (G:Gx) (A:Around):List D→Fz→End→Shared→Prop
 | [],F,e,s'=>e = .ret (.ok (.ret .none))∧∃g',HS G F s' g'
 | y::ys,F,e,s'=>YCons G A (YEnd G A ys) y F e s'
def YRun (G:Gx) (A:Around) (ys:List D) (F:Fz) (c:Code) (t:Sem Fin) (fs:List Frame) (s:Shared):Prop :=
 ∀(Γ:Ctx) p,Γ.code=c→Γ.Woken A→∃e s',Runs (model G.p G.w) Γ p t fs s e s'∧YEnd G A ys F e s'
def Ins (A A':Around) (code:Code) (fs:List Frame):Prop:=∀Γ:Ctx,Γ.code=code→Γ.Woken A→(Γ.over fs).In A'
section
variable {G:Gx}{A A':Around}{ys:List D}{F:Fz}{c:Code}{fs:List Frame}{s:Shared}
theorem HS.weakG {g₁ g:Heap}(x:Sub F.g₀ g₁) (H:HS G {F with g₀:=g₁} s g):HS G F s g:=⟨H.base,x.trans H.g0,H.keep,H.reg,H.hid,H.gens,H.bare,H.os⟩
theorem YEnd.weak {g₁:Heap}(x:Sub F.g₀ g₁) {ys:List D}{e:End}{s':Shared}(h:YEnd G A ys {F with g₀:=g₁} e s'):YEnd G A ys F e s':=by
 induction ys using LLc with
 | nil=>exact ⟨h.1,h.2.elim fun g' H=>⟨g',H.weakG x⟩⟩
 | cons y ys=>obtain ⟨v,gd,l,k,c,p,fs,e1,e2,g₁,W,H,hv,hW,r⟩:=h;exact .mk v gd l k c p fs e1 e2 g₁ W (H.weakG x) hv hW r
theorem YRun.weak {t:Sem Fin}{g₁:Heap}(x:Sub F.g₀ g₁) (h:YRun G A ys {F with g₀:=g₁} c t fs s):YRun G A ys F c t fs s:=fun Γ p hc hΓ =>
 let ⟨e,s',h1,h2⟩:=h Γ p hc hΓ;⟨e,s',h1,h2.weak x⟩
theorem Zas {α:Type}{m:Sem α}{K:α→Sem Fin}{H:Value→Sem Fin}{gd lv}(hA:Ins A A' c fs)
 (h:wpAny (model G.p G.w) A' m (fun a s'=>YRun G A ys F c (K a) fs s') NoE s):YRun G A ys F c (m.wrap K H gd lv) fs s:=fun Γ p hc hΓ=>by
 subst hc;exact runs_wrap_of_wp K H gd lv m (h (Γ.over fs) p (hA Γ rfl hΓ)) (fun a p' s' h'=>h' Γ p' rfl hΓ) (fun x p' s' h'=>False.elim h')
theorem Ys {α β:Type}{m:Sem α}{K:α→Sem β}{K':β→Sem Fin}{H':Value→Sem Fin}{gd lv}(hA:Ins A A' c fs)
 (h:wpAny (model G.p G.w) A' m (fun a s'=>YRun G A ys F c ((K a).wrap K' H' gd lv) fs s') NoE s):YRun G A ys F c ((m >>= K).wrap K' H' gd lv) fs s:=by
 rw [Sem.bind_eq_wrap',Sem.wrap_wrap];exact Zas hA h
theorem ZmV {p':Pos}{k:Unit→Sem Fin}(hA:Ins A A' c fs) (h:YRun G A ys F c (k ()) fs s):YRun G A ys F c (.at p' k) fs s :=
 Zas (m:=standAt p') (K:=k) (H:=.raise) (gd:=id) (lv:=id) hA (wpAny_standAt h)
theorem ZjM {l:List Value}{k:Unit→Sem Fin}(hA:Ins A A' c fs) (h:YRun G A ys F c (k ()) fs s):YRun G A ys F c (.point l k) fs s :=
 Zas (m:=point) (K:=k) (H:=.raise) (gd:=id) (lv:=fun j=>l) hA (wpAny_point h)
theorem ZlK {c':Code}{h g l}{k:Result→Sem Fin}(hc:∀p,YRun G A ys F c' ((model G.p G.w).den c') (.ret k h g l c p []::fs) s):YRun G A ys F c (.call c' h g l k) fs s:=fun Γ p hcd hΓ=>by
 subst hcd;refine Zz (hc p (Γ.goto c') p rfl (hΓ.goto c')) fun e s' hr he=>?_;exact ⟨e,s',runs_call_seg hr,he⟩
theorem ZlM {k h g l c₁ p₁ kp}(r:Result) (hk:YRun G A ys F c₁ (k r) fs s):YRun G A ys F c (leafOf r) (.ret k h g l c₁ p₁ kp::fs) s:=fun Γ p hcd hΓ=>by
 refine Zz (hk (Γ.goto c₁) p₁ rfl (hΓ.goto c₁)) fun e s' hr he=>?_;exact ⟨e,s',Runs.pop r hr,he⟩
theorem Zd8 {c':Code}(hq:c'.quiet=true) (hc:YRun G A ys F c' ((model G.p G.w).den c') fs s):YRun G A ys F c (.pure (.again c')) fs s:=fun Γ p hcd hΓ=>by
 refine Zz (hc (Γ.goto c') p rfl (hΓ.goto c')) fun e s' hr he=>?_;exact ⟨e,s',Runs.head (c₁:=c') (fun j j x=>.again hq x) hr,he⟩
theorem ZnO {g:Heap}(H:HS G F s g):YRun G A [] F c (leafOf (.ok (.ret .none))) [] s:=fun Γ p hcd hΓ=>⟨_,s,Runs.leaf _,rfl,g,H⟩
theorem Zki {v g l}{k:Resume→Sem Fin}{y:D}{g₁:Heap}{W:List Addr}(hfs:splitAtGen fs=none) (hg:g=false) (hfg:fs.any Frame.guarded=false) (H:HS G F s g₁) (hv:VR G.p G.w g₁ y v)
 (hW:∀b∈W,(∃o,s.heap.get? b=some o)∧g₁.get? b=none∧(∀r∈G.reg,b≠r.at_)∧∀q∈F.hid,b≠q.1)
 (h:∀F'' s'' g'',UK G W s.heap g₁ F'' s'' g''→YRun G A ys F'' c (k (.send .none)) fs s''):YRun G A (y::ys) F c (.yield v g l k) fs s:=fun Γ p hcd hΓ=>by
 subst hcd;exact ⟨_,s,Runs.yield' fs hfs,v,g,l,k,_,_,fs,rfl,by simp [End.quiet,hg,hfg],g₁,W,H,hv,hW,h⟩
theorem Ins.push {c':Code}{k l p}(h:Ins A A' c fs) (hw:c'.weight=0) (hu:c'.cUnits=0) (hn:splitAtGen fs=none):Ins A A' c' (.ret k none false l c p []::fs):=fun Γ hc hΓ=>by
 refine ZoQ (h (Γ.goto c) rfl (hΓ.goto c)) fun b1 b2 b3 b4 b5=>?_;refine ⟨?_,?_,fun l hl=>?_,fun l hl=>?_,?_⟩
 ·exact b1
 ·show frameCount ((c,p)::(fs.map Frame.where_++Γ.below))+Γ.code.weight≤_;rw [frameCount_cons,hc,hw];have:frameCount (fs.map Frame.where_++Γ.below)+c.weight≤A'.depth:=b2;lia
 ·show Γ.code.envs++envsOf ((c,p)::(fs.map Frame.where_++Γ.below))=l;rw [envsOf_cons,hc,Code.envs_of_weight hw];exact b3 l hl
 ·show Γ.code.guards++guardsOf ((c,p)::(fs.map Frame.where_++Γ.below))=l;rw [guardsOf_cons,hc,Code.guards_of_weight hw];exact b4 l hl
 ·show Γ.code.cUnits+unitsOf ((c,p)::(fs.map Frame.where_++Γ.below))≤_;rw [unitsOf_cons,hc,hu];have:c.cUnits+unitsOf (fs.map Frame.where_++Γ.below)≤A'.units:=b5;lia
end
end
section
noncomputable def FI (Fo:Fz) (h:Heap) (wr:List Addr) (pn:List (Nat×Addr)):Fz:={Fo with hid:=Zn h wr++Fo.hid,pin:=pn++Fo.pin}
structure YPre (c:Cx) (wr:List Addr) (pn:List (Nat×Addr)) (g₁:Heap) (Fo:Fz) (s:Shared) (st:St):Prop where
 g0:Sub g₁ Fo.g₀
 hd:∀q∈Fo.hid,q.1∉wr
 th:∀b∈wr,∃o,s.heap.get? b=some o
 R:RS c (FI Fo s.heap wr pn) st [] s
def YJ (c:Cx) (A:Around) (wr:List Addr) (pn:List (Nat×Addr)) (g₁:Heap) (t:Sem Flow) (ys:List D) (st:St) (Q:List D→St→Prop):Prop :=
 ∀(Fo:Fz) (s:Shared) (code:Code) (fs:List Frame) (K:Flow→Sem Fin) (H:Value→Sem Fin) (gd lv),Ins A c.A code fs→splitAtGen fs=none→fs.any Frame.guarded=false→gd false=false→YPre c wr pn g₁ Fo s st →
  (∀Fo' s' ys' st',YPre c wr pn g₁ Fo' s' st'→(∀b∈wr,∀o,s.heap.get? b=some o→s'.heap.get? b=some o)→Q ys' st'→YRun c.G A ys' Fo' code (K .next) fs s') →
  YRun c.G A ys Fo code (t.wrap K H gd lv) fs s
section
variable {c:Cx}{A:Around}{wr:List Addr}{pn:List (Nat×Addr)}{g₁:Heap}{ys:List D}{st:St}{Q:List D→St→Prop}
theorem Wr {Fo:Fz}{s s':Shared}{st':St}{us:List Value}(R:RS c (FI Fo s.heap wr pn) st' us s'):∀b∈wr,∀o,s.heap.get? b=some o→s'.heap.get? b=some o:=fun b hb o e=>by
 refine ozr R fun g ρ m W=>?_;exact (W.hid (b,o) (Kg _ (ZU hb e))).1
theorem RS.reFI {Fo:Fz}{s s':Shared}{st':St}{us:List Value}(hth:∀b∈wr,∃o,s.heap.get? b=some o) (hd:∀q∈Fo.hid,q.1∉wr) (R:RS c (FI Fo s.heap wr pn) st' us s'):RS c (FI Fo s'.heap wr pn) st' us s':=by
 have hk:=Wr R;refine ozr R fun g ρ m W=>?_;have keys:=Z4 hth;exact ⟨g,ρ,m,RSW.rehide (F:={Fo with pin:=pn++Fo.pin}) (g₁:=Fo.g₀) (hs:=Zn s.heap wr) (hs':=Zn s'.heap wr) W (fun q hq z=>hd q hq ((keys _).mp z)) (h':=s'.heap) (t:=s'.toks) (fun j j j e=>e) fun q hq=>⟨(keys _).mpr (Zi hq).1,(Zi hq).2⟩⟩
theorem YPre.on {Fo:Fz}{s s':Shared}{st':St}(P:YPre c wr pn g₁ Fo s st) (R:RS c (FI Fo s.heap wr pn) st' [] s'):YPre c wr pn g₁ Fo s' st' :=
 ⟨P.g0,P.hd,fun b hb=>by obtain ⟨o,e⟩:=P.th b hb;exact ⟨o,Wr R b hb o e⟩,R.reFI P.th P.hd⟩
theorem Zch (h:Q ys st):YJ c A wr pn g₁ (execs [] c.env) ys st Q:=fun Fo s code fs K H gd lv j j j j P hK=>hK Fo s ys st P (fun j j j e=>e) h
theorem ZcZ {t:Stmt}{ts:List Stmt}(h:YJ c A wr pn g₁ (exec t c.env) ys st fun ys1 st1=>YJ c A wr pn g₁ (execs ts c.env) ys1 st1 Q):YJ c A wr pn g₁ (execs (t::ts) c.env) ys st Q:=fun Fo s code fs K H gd lv h1 h2 h3 h4 P hK=>by
 rw [execs_cons_wrap];exact h Fo s code fs _ H gd lv h1 h2 h3 h4 P fun Fo' s' ys' st' P' hk hq=>hq Fo' s' code fs K H gd lv h1 h2 h3 h4 P' fun Fo'' s'' ys'' st'' P'' hk' hq'=>hK Fo'' s'' ys'' st'' P'' (fun b hb o e=>hk' b hb o (hk b hb o e)) hq'
theorem Zp4 {t:Expr}{b e:List Stmt}{pos:Pos}(h:TJ c t st fun z st1=>(z=true→YJ c A wr pn g₁ (execs b c.env) ys st1 Q)∧(z=false→YJ c A wr pn g₁ (execs e c.env) ys st1 Q)):YJ c A wr pn g₁ (exec (.If t b e pos) c.env) ys st Q:=fun Fo s code fs K H gd lv h1 h2 h3 h4 P hK=>by
 rw [exec_If];refine Ys h1 (wpAny_standAt (Ys h1 (wpm (h _ [] s P.R) (fun z s1 zq1=>?_))));obtain ⟨st1,R1,h5⟩:=zq1;have hk:=Wr R1;induction z with
 | true=>exact h5.1 rfl Fo s1 code fs K H gd lv h1 h2 h3 h4 (P.on R1) fun Fo' s' ys' st' P' hk' hq=>hK Fo' s' ys' st' P' (fun b hb o e=>hk' b hb o (hk b hb o e)) hq
 | false=>exact h5.2 rfl Fo s1 code fs K H gd lv h1 h2 h3 h4 (P.on R1) fun Fo' s' ys' st' P' hk' hq=>hK Fo' s' ys' st' P' (fun b hb o e=>hk' b hb o (hk b hb o e)) hq
theorem RSW.later {Fo F'':Fz}{s s'':Shared}{h0 g g'':Heap}{vs:List Value}{ρ:List Addr}{m:Str→Option Value}(W:RSW c (FI Fo h0 wr pn) st vs s g ρ m) (hth:∀b∈wr,∃o,h0.get? b=some o) (X:UK c.G ((c.env.locals::ρ)++wr) s.heap g F'' s'' g'') :
 RSW c (FI {F'' with g₀:=g''} s''.heap wr pn) st vs s'' g'' ρ m:=by
 refine U7 X fun H hs hp hW=>?_;have hL:∀b∈c.env.locals::ρ,g''.get? b=none∧(∀o,s.heap.get? b=some o→s''.heap.get? b=some o)∧∀q∈F''.hid,b≠q.1:=fun b hb=>hW b (Kg _ hb);have hr:∀b∈wr,∃o,(b,o)∈(FI Fo h0 wr pn).hid:=fun b hb=>by refine oze (hth b hb) fun o e=>?_;exact ⟨o,Kg _ (ZU hb e)⟩
 exact {
  base:=H.base,g0:=Sub.refl _,keep:=H.keep,reg:=H.reg,gens:=H.gens,bare:=H.bare,os:=H.os
  hid:=fun q hq=>by
   refine Or.elim (List.mem_append.mp hq) (fun hq=>?_) fun hq=>?_
   ·refine oza (Zi hq) fun h1 h2=>?_;refine oze (hr _ h1) fun o ho=>?_;exact ⟨h2,(hW _ (Kf _ h1)).1,(W.hid _ ho).2.2⟩
   ·exact H.hid q hq
  ns:=by refine ZZ W.ns fun o es ep h r=>?_;exact ⟨o,es,ep,(hL _ (.head _)).2.1 _ h,r⟩
  nl:=(hL _ (.head _)).1
  loc:=fun y a h=>by refine Zc (W.loc y a h) fun z v e0 e r=>?_;exact ⟨z,v,e0,e,AR.sub _ _ hs (Ext.refl _) a v r⟩
  len:=W.len
  nd:=W.nd
  fr:=fun b hb=>⟨(hL b (.tail _ hb)).1,(W.fr b hb).2⟩
  own:=fun i o a h1 h2=>OAt.sub _ _ hs (Ext.refl _) ((hL a (.tail _ (Kj h2))).2.1) o (W.own i o a h1 h2)
  stk:=ARs.sub _ _ hs (Ext.refl _) _ _ W.stk
  cel:=W.cel
  apart:=fun b hb=>⟨(W.apart b hb).1,fun q hq=>by
   refine Or.elim (Z8 hq) (fun hq=>?_) fun hq=>?_
   ·refine oze (hr _ (Zi hq).1) fun o ho=>?_;exact (W.apart b hb).2 (q.1,o) ho
   ·exact (hL b hb).2.2 q hq⟩
  pin:=fun q hq=>by
   refine Or.elim (Z8 hq) (fun hq=>?_) fun hq=>?_
   ·exact W.pin q (Kg _ hq)
   ·have:q∈F''.pin:=hq;rw [hp] at this;cases this}
theorem Zl4 {e:Expr}{ypos pos:Pos}(h:EJ c e st fun st1=>∃y ys',ys=y::ys'∧st1.stk=[.d y]∧Q ys' ⟨st1.loc,st1.own,[]⟩) (hco:c.env.scope.isCoroutine=false):YJ c A wr pn g₁ (exec (.Expr (.Yield (some e) ypos) pos) c.env) ys st Q:=fun Fo s code fs K H gd lv h1 h2 h3 h4 P hK=>by
 have hi:interactive c.env=false:=by unfold interactive;rw [c.hk];rfl
 rw [exec_Expr c.env _ pos hi rfl];show YRun c.G A ys Fo code (.at pos fun j=>((eval e c.env >>= fun v=>(standAt ypos >>= fun j=>yieldOut c.env v)) >>= fun x=>dropValue (.Yield (some e) ypos) pos x).wrap K H gd lv) fs s;have hy:∀v,yieldOut c.env v=yieldValue v:=fun v=>by simp only [yieldOut,hco,Bool.false_eq_true,if_false]
 simp only [hy];refine ZmV h1 ?_;rw [Sem.bind_eq_wrap',Sem.bind_eq_wrap',Sem.wrap_wrap,Sem.wrap_wrap];refine Zas h1 (wpm (h _ [] s P.R) (fun v s1 zq5=>?_));refine Ka fun zn6=>?_;obtain ⟨st1,R1,y,ys',e1,hstk,hQ⟩:=zq5;refine zn6 ?_;subst e1;have hk:=Wr R1;refine ozr R1 fun g ρ m W=>?_;have hst:=W.stk;rw [hstk] at hst;have hv:VR c.G.p c.G.w g y v:=Zd hst;have hr:∀b∈wr,∃o,(b,o)∈(FI Fo s.heap wr pn).hid:=fun b hb=>by refine oze (P.th b hb) fun o e=>?_;exact ⟨o,Kg _ (ZU hb e)⟩
 refine ZmV h1 (Zki (g₁:=g) (W:=(c.env.locals::ρ)++wr) h2 h4 h3 ⟨W.base,W.g0,W.keep,W.reg,fun q hq=>W.hid q (Kf _ hq),W.gens,W.bare,W.os⟩ hv (fun b hb=>?_) fun F'' s'' g'' X=>?_)
 ·refine Or.elim (Z8 hb) (fun hb=>?_) fun hb=>?_
  ·exact ⟨W.there b hb,W.nomut b (ZT hb),(W.apart b hb).1,fun q hq=>(W.apart b hb).2 q (Kf _ hq)⟩
  ·refine Ka fun zn8=>?_;refine oze (hr b hb) fun o ho=>?_;refine Yq (W.hid _ ho) fun a1 a2 a3=>?_;refine zn8 ?_;exact ⟨⟨o,a1⟩,a2,a3,fun q hq z=>P.hd q hq (z▸hb)⟩
 ·refine Ka fun zn9=>?_;refine U7 X fun H2 hs hp hW=>?_;refine zn9 ?_;refine YRun.weak H2.g0 (hK {F'' with g₀:=g''} s'' ys' ⟨st1.loc,st1.own,[]⟩ ⟨(P.g0.trans W.g0).trans hs,fun q hq z=>(hW _ (Kf _ z)).2.2 q hq rfl,fun b hb=>?_,g'',ρ,m,((W.stack (k:=[]) (us:=[]) rfl).later P.th X)⟩ (fun b hb o e=>?_) hQ)
  ·refine oze (P.th b hb) fun o e=>?_;exact ⟨o,(hW _ (Kf _ hb)).2.1 o (hk b hb o e)⟩
  ·exact (hW _ (Kf _ hb)).2.1 o (hk b hb o e)
end
end
section
noncomputable def Zf1 (c:Cx) (A₁:Around) (tgt:Expr) (body:List Stmt) (ok:St→Prop):List A→St→List D→(List D→St→Prop)→Prop
 | [],st,ys,Q=>ok st∧Q ys st
 | x::xs,st,ys,Q=>ok st∧AsJ c tgt ⟨st.loc,st.own,x::st.stk⟩ fun st1=>∀wr pn g₁,YJ c A₁ wr pn g₁ (execs body c.env) ys st1 fun ys2 st2=>Zf1 c A₁ tgt body ok xs st2 ys2 Q
section
variable {c:Cx}{A₁:Around}{ys:List D}{st:St}{Q:List D→St→Prop}
theorem Zfh {tgt:Expr}{body:List Stmt}{it:Addr}{need:Nat}{wr fp:List Addr}{g₁ g₀:Heap}{pn:List (Nat×Addr)}{xs:List A}{ok:St→Prop}{Si:Nat→Heap→Prop}(KF:Feed c.G need tgt it wr fp g₁ pn xs ok Si) (hneed:need≤c.fuel) (hgg:Sub g₀ g₁)
 {code:Code} {fs:List Frame} {kk:Result→Sem Fin} {lv:List Value} {p:Pos} (hI:Ins A₁ c.A (.forLoop tgt (.ref it) body [] c.env) (.ret kk none false lv code p []::fs)) (hn:splitAtGen fs=none) (hgu:fs.any Frame.guarded=false)
 (hK:∀Fo' s' ys' st',YPre c [] [] g₀ Fo' s' st'→Q ys' st'→YRun c.G A₁ ys' Fo' code (kk (.ok .next)) fs s') :
 ∀(k i:Nat),xs.length - i=k→i≤xs.length→∀Fo s ys st,YPre c wr pn g₁ Fo s st→Si i s.heap→Zf1 c A₁ tgt body ok (xs.drop i) st ys Q →
  YRun c.G A₁ ys Fo (.forLoop tgt (.ref it) body [] c.env) ((model c.G.p c.G.w).den (.forLoop tgt (.ref it) body [] c.env)) (.ret kk none false lv code p []::fs) s:=by
 intro k;induction k with
 | zero =>
  intro i hk hi Fo s ys st P hSi hL;obtain rfl:i=xs.length:=by lia
  rw [List.drop_length] at hL;refine oza hL fun hok hq=>?_;show YRun c.G A₁ ys Fo _ ((forTurn tgt (.ref it) body [] c.env).onRaise (fun x=>do noteFrame x c.env;theTreesLotGoes x)) _ s;rw [Sem.onRaise_eq_wrap];unfold forTurn;refine Ys hI (wpAny_standAt (Ys hI (wpAny_onRaise (Kb (KF.done c {Fo with pin:=pn++Fo.pin} Fo.hid st [] s rfl hneed hSi hok P.g0 (fun q hq=>Kg _ hq) P.hd P.R) (fun r s1 zq0=>?_) fun j j x=>x.elim))));refine oza zq0 fun hr R1=>?_;subst hr;have R2:RS c Fo st [] s1:=by refine ozr R1 fun g ρ m W=>?_;exact ⟨g,ρ,m,RSW.unpin (F:=Fo) W⟩
  refine Zd8 rfl ?_;exact ZlM (.ok .next) (hK Fo s1 ys st ⟨hgg.trans P.g0,fun j j h=>(nomatch h),fun j h=>(nomatch h),R2⟩ hq)
 | succ k ih =>
  intro i hk hi Fo s ys st P hSi hL;have hlt:i<xs.length:=by lia
  rw [List.drop_eq_getElem_cons hlt] at hL;refine oza hL fun hok hL=>?_;show YRun c.G A₁ ys Fo _ ((forTurn tgt (.ref it) body [] c.env).onRaise (fun x=>do noteFrame x c.env;theTreesLotGoes x)) _ s;rw [Sem.onRaise_eq_wrap];refine Ys hI (wpAny_standAt (Ys hI (wpAny_onRaise (Kb (KF.item c {Fo with pin:=pn++Fo.pin} Fo.hid i _ st [] s rfl hneed (Ke hlt) hSi hok P.g0 (fun q hq=>Kg _ hq) P.hd P.R) (fun r s1 zw=>Zb zw fun v hr h1=>?_) fun j j x=>x.elim))));subst hr;refine Ys hI (wpm h1 (fun j s2 zq2=>?_));refine oza zq2 fun hSi2 R2=>?_;refine Ys hI (wpm (hL _ v [] s2 R2) (fun j s3 zq3=>?_));obtain ⟨st3,R3,hB⟩:=zq3;have k3:=Wr (Fo:=Fo) (wr:=wr) (pn:=pn) R3;have t2:=KF.th _ _ hSi2;have b2:Sub g₁ s2.heap:=P.g0.trans R2.g0K;have b3:Sub g₁ s3.heap:=P.g0.trans R3.g0K;have hSi3:Si (i+1) s3.heap:=KF.frame _ _ _ hSi2 fun b hb o e=>by
   rcases KF.fpx b hb with hb | ⟨o',e'⟩
   ·exact k3 b hb o e
   ·have:=b2 _ _ e';rw [e] at this;cases this;exact b3 _ _ e'
  rw [Sem.bind_eq_wrap',Sem.wrap_wrap];refine hB wr pn g₁ Fo s3 _ _ _ _ _ _ hI (by simp [splitAtGen,hn]) (by simp only [List.any_cons,Frame.guarded,hgu,Bool.or_false]) rfl ⟨P.g0,P.hd,fun b hb=>by refine oze (t2 b hb) fun o e=>?_;exact ⟨o,k3 b hb o e⟩,(RS.reFI (Fo:=Fo) t2 P.hd R3)⟩ fun Fo' s' ys' st' P' hk' hL'=>?_;refine Zd8 rfl (ih (i+1) (by omega) hlt Fo' s' ys' st' P' ?_ hL');exact KF.frame _ _ _ hSi3 fun b hb o e=>by
   rcases KF.fpx b hb with hb | ⟨o',e'⟩
   ·exact hk' b hb o e
   ·have:=b3 _ _ e';rw [e] at this;cases this;exact (P'.g0.trans P'.R.g0K) _ _ e'
theorem Zp3 {tgt iter:Expr}{body:List Stmt}{pos:Pos}{g₀:Heap}(h:IEJ c tgt iter st fun ok xs st2=>Zf1 c A₁ tgt body ok xs st2 ys Q)
 (hs:∀x,foldedSetIterable iter c.env x=pure x):YJ c A₁ [] [] g₀ (exec (.For tgt iter body [] pos) c.env) ys st Q:=fun Fo s code fs K H gd lv h1 h2 h3 h4 P hK=>by
 rw [exec_For];refine Ys h1 (wpAny_standAt (Ys h1 (wpm (h _ [] s P.R) (fun v s1 h5=>?_))));refine Ys h1 (wpAny_of_eq (hs v) ?_);refine Ys h1 (wpAny_standAt (Ys h1 (wpAny_holding (wpm h5 (fun itv s2 h6=>?_)))));obtain ⟨it,need,wr,fp,g₁,pn,xs,ok,Si,st2,rfl,hneed,KF,hS0,hg,hd,R2,hL⟩:=h6;refine ZlK fun p=>?_;rw [h4];have hgg:Sub g₀ g₁:=P.g0.trans hg;refine YRun.weak hg (Zfh (g₁:=g₁) KF hneed hgg (h1.push rfl rfl h2) h2 h3 (fun Fo' s' ys' st' P' hq=>?_) xs.length 0 (Nat.sub_zero _) (Nat.zero_le _) {Fo with g₀:=g₁} s2 ys st2 ⟨Sub.refl _,hd,KF.th _ _ hS0,R2⟩ hS0 hL);exact hK Fo' s' ys' st' P' (fun j h=>nomatch h) hq
end
end
section
inductive GPost (G:Gx) (A:Around) (F:Fz) (g:Heap) (ys:List D) (v:Value) (s':Shared):Prop
 | mk (a:Addr) (gi:Nat) (L:Addr) (g':Heap) (code:Code) (e:v = .ref a) (H:HS G F s' g') (hs:Sub g g') (hgen:g'.IsGen a gi) (hgi:F.gens[gi]?=none) (hgs:s'.gens[gi]?=some (.fresh code))
  (l1:∃o,s'.heap.get? L=some o) (l2:g'.get? L=none) (l3:∀r∈G.reg,L≠r.at_) (l4:∀q∈F.hid,L≠q.1)
  (r:∀F'' s'' g'',UK G [L] s'.heap g' F'' s'' g''→YRun G A.in1 ys F'' code ((model G.p G.w).den code) [] s'')
def Zet (G:Gx) (f:Value) (need:Nat) (args ys:List D):Prop :=
 ∀(A:Around) (F:Fz) (us:List Value) (s:Shared) (g:Heap),A.handled=none→A.depth+need<recursionLimit→A.units+8*need+40≤cLine→HS G F s g→VRs G.p G.w g args us →
  wpAny (model G.p G.w) A (call f us) (GPost G A F g ys) NoE s
structure DefG (G:Gx) (f:Addr) (scope:Scope) (qual:Str) (cd:Value) (body:List Stmt) (n:Nat) (names:List Str):Prop where
 kind:scope.kind = .function
 co:scope.isCoroutine=false
 gen:scope.isGenerator=true
 nocell:Zh scope.names=[]
 tnd:(Zf scope).Nodup
 ndn:names.Nodup
 par:∀x∈names,scope.names.lookup x=some .local
 at_:∀h,G.lib.B h→DefGot G.lib.B h f scope qual cd body n names
 le:n≤names.length
theorem ZpU {K:Params→W.Frag}{G:Gx}{w:World}(I:IsK K G w) {f:Addr}{n:Nat}{names:List Str}(hf:Zal (K w.params) f=true) (hb:(Zk (K w.params) f).body = .stmts (stm (Zk (K w.params) f).body)) (hcode:W.codeIn (K w.params) (Zk (K w.params) f).code (Zk (K w.params) f).qualname=true)
 (hk:(Zk (K w.params) f).scope.kind = .function) (hco:(Zk (K w.params) f).scope.isCoroutine=false) (hgen:(Zk (K w.params) f).scope.isGenerator=true) (hs:Un (Zk (K w.params) f).scope names=true) (hnc:Zh (Zk (K w.params) f).scope.names=[])
 (hgl:(Zk (K w.params) f).globals=mainGlobals) (hbu:(Zk (K w.params) f).builtins=builtinsNs) (hclo:(Zk (K w.params) f).closure=[]) (le:n≤names.length)
 (hbind:∀us:List Value,us.length=n→∀S,W.peek (K w.params) S (bindArgs (Zk (K w.params) f) ⟨us,[]⟩)=some (names.zip (us++List.replicate (names.length - n) Value.none))) :
 DefG G f (Zk (K w.params) f).scope ((Zk (K w.params) f).qualname++".<locals>.") (Zk (K w.params) f).code (stm (Zk (K w.params) f).body) n names:=by
 unfold Un at hs;simp only [Bool.and_eq_true,decide_eq_true_eq,List.all_eq_true,Bool.or_eq_true,beq_iff_eq,List.contains_iff_mem] at hs;refine Ka fun zn0=>?_;refine oza hs fun zo4 s5=>?_;refine oza zo4 fun zo3 s4=>?_;refine oza zo3 fun zo2 s3=>?_;obtain ⟨s1,s2⟩:=zo2;refine zn0 ?_
 exact {kind:=hk,co:=hco,gen:=hgen,nocell:=hnc,tnd:=s2,ndn:=s3,le:=le
        par:=fun x hx=>(s4 x hx).elim id fun h=>by rw [hnc] at h;exact nomatch h.2
        at_:=fun h hB=>by
         refine Ka fun zn1=>?_;obtain ⟨X,j,j,mg,mb,T⟩:=I.B h hB;refine Zb (ZdR X hf) fun ob h1 h2=>?_;refine zn1 ?_;exact ⟨ob,_,h1,h2,W.codeRec_of X hcode,hb,rfl,hgl,hbu,hclo,rfl,rfl,fun us hu s hs=>W.kp_binds (I.B _ hs).1 (hbind us hu)⟩}
theorem Zkn {c:Cx}{A:Around}{F:Fz}{ys:List D}{st:St}{s:Shared}{body:List Stmt}{g₀:Heap}(hI:Ins A c.A (.func body c.env) []) (hg:Sub g₀ F.g₀) (R:RS c F st [] s) (h:YJ c A [] [] g₀ (execs body c.env) ys st fun ys' j=>ys'=[]) :
 YRun c.G A ys F (.func body c.env) ((model c.G.p c.G.w).den (.func body c.env)) [] s:=by
 show YRun c.G A ys F _ (.point [] fun j=>((execs body c.env).onRaise (leaving c.env)) >>= _) [] s;refine ZjM hI ?_;rw [Sem.onRaise_eq_wrap,Sem.bind_eq_wrap',Sem.wrap_wrap];refine h F s _ [] _ _ _ _ hI rfl rfl rfl ⟨hg,fun j j h=>(nomatch h),fun j h=>(nomatch h),R⟩ fun Fo' s' ys' st' P j hq=>?_;subst hq;obtain ⟨g,ρ,m,W⟩:=P.R;exact ZnO (F:=Fo') (g:=g) ⟨W.base,W.g0,W.keep,W.reg,W.hid,W.gens,W.bare,W.os⟩
theorem ZqE {G:Gx}{f:Addr}{scope:Scope}{qual:Str}{cd:Value}{body:List Stmt}{names:List Str}{need:Nat}{args ys:List D}(K:DefG G f scope qual cd body args.length names) {loc':List (Nat×A)}
 (hl:∀q∈loc',∃x,(Zf scope)[q.1]?=some x∧scope.names.lookup x=some .local∧(x,q.2)∈XM names (args.map .d))
 (h:∀c:Cx,c.G=G→c.env=ZX f scope qual cd c.env.locals→c.cel=[]→c.tab=Zf scope→c.fuel=need→∀A g₀,YJ c A [] [] g₀ (execs body c.env) ys ⟨loc',[],[]⟩ fun ys' j=>ys'=[]):Zet G (.ref f) (need+1) args ys:=fun ar F us s g hh hd hu H hv=>by
 have hB:=G.lib.mono _ _ H.keep H.base;obtain ⟨ob,fd,e1,e2,e3,hbody,hsc,hgl,hbu,hclo,hqu,hcd,hbi⟩:=K.at_ _ hB;have hlu:=Zu hv;have hus:ARs G.p G.w g [] (args.map .d++List.replicate (names.length - args.length) (.d .none)) (us++List.replicate (names.length - args.length) Value.none):=YB (Zai.mpr hv) (WN _);have hbi':=hbi us hlu s hB;generalize hbs:names.zip (us++List.replicate (names.length - args.length) Value.none)=binds at hbi';have hfst:binds.map (·.1)=names:=by
  have:=K.le;rw [←hbs,List.map_fst_zip (by simp [hlu];lia)]
 have efull:XM names (args.map A.d)=names.zip (args.map A.d++List.replicate (names.length - args.length) (.d .none)):=by simp [XM]
 rw [efull] at hl;have hn2:(binds.map (·.1)).Nodup:=hfst▸K.ndn;have hmem:∀x∈binds,x.1∈names:=fun x hx=>hfst▸List.mem_map_of_mem hx;have env_eq:∀L,callEnvC fd L f=ZX f scope qual cd L:=fun L=>by unfold callEnvC ZX;rw [hsc,hgl,hbu,hqu,hcd]
 refine wpAny_call (codeAny_call_generator (by exact Nat.lt_of_le_of_lt (Ko _ _) (by assumption)) e1 e2 (by rw [hsc];exact K.co) (by rw [hsc];exact K.gen) hbody e3 ?_);refine hbi' _ _ _ _ ?_;rw [hclo];refine wpAny_newFunctionEnv_cells (by rw [hsc];exact K.kind) (fun x hx=>by rw [hsc];exact .inl (K.par _ (hmem x hx))) fun env he s₁ x=>?_;subst he;change InCallC s (callEnvC fd s.heap.objs.size f).locals (bindL (callEnvC fd s.heap.objs.size f).kindOf binds fun j=>none) (callEnvC fd s.heap.objs.size f).cells (bindC (callEnvC fd s.heap.objs.size f).kindOf binds fun j=>none) s₁ at x;refine XN x.toInCall.same fun h₁ tk zo1=>?_;subst zo1;have hk:=x.toInCall.keep;refine ⟨(G.lib.nolimit _ hB).keeps hk,?_⟩;have ee:=env_eq s.heap.objs.size;rw [env_eq] at x;unfold callEnvC at ee;rw [ee];have fresh:∀b,s.heap.objs.size≤b→g.get? b=none∧(∀r∈G.reg,b≠r.at_)∧∀q∈F.hid,b≠q.1:=fun b hb=>⟨by
  induction e:g.get? b with
  | none=>rfl
  | some o=>exact absurd (Kk (H.keep _ _ e)) (Zaq hb),H.fresh hb⟩
 have sub:Sub s.heap h₁:=hk;have hns:=x.toInCall.ns;have hLo:∃o,h₁.get? s.heap.objs.size=some o:=by refine ZZ hns fun o j j e j=>?_;exact ⟨o,e⟩
 have hLt:s.heap.objs.size<h₁.objs.size:=Kk hLo.choose_spec;generalize hgo:({cls:=.type "generator",data:=.fields #[.int s.gens.size 0,.str fd.name tk,.str fd.qualname (tk+1)]}:Obj)=gob;have hgob:gob.cls = .type "generator"∧gob.data = .fields #[.int s.gens.size 0,.str fd.name tk,.str fd.qualname (tk+1)]∧gob.slots=#[]:=by rw [←hgo];exact ⟨rfl,rfl,rfl⟩
 have hs2:Sub h₁ (h₁.push gob):=Sub.push _ _;have H1:HS G F {s with heap:=h₁.push gob,gens:=s.gens.push (.fresh (.func body (ZX f scope qual cd s.heap.objs.size))),toks:=tk+1+1} g:=H.grow (sub.trans hs2) (fun i y e=>by
  have e1:=H.gens i y e;have hi:i<s.gens.size:=(Array.getElem?_eq_some_iff.mp e1).1;rw [Array.getElem?_push_lt hi];rw [Array.getElem?_eq_getElem hi] at e1;exact e1) (H.bare.push rfl) rfl
 have hnm:∀b,s.heap.objs.size≤b→b∉Z0 G F []:=fun b hb hm=>by
  refine Or.elim (Z8 (show b∈G.reg.map (·.at_)++F.hid.map (·.1) from hm)) (fun z=>?_) fun z=>?_
  ·refine Zb (Xb z) fun r hr e=>?_;exact (fresh b hb).2.1 r hr e.symm
  ·refine Zb (Xb z) fun q hq e=>?_;exact (fresh b hb).2.2 q hq e.symm
 have hsub:Sub g (W.hideAll (h₁.push gob) (Z0 G F [s.heap.objs.size])):=fun b o e=>W.hideAll_get _ (H1.keep b o e) fun hb=>by
  refine Or.elim (Z8 hb) (fun hb=>?_) fun hb=>?_
  ·rw [List.mem_singleton] at hb;subst hb;rw [(fresh _ (Kq _)).1] at e;exact Zo e
  ·rw [H1.nomut b (show b∈Z0 G F [] from Kf _ hb)] at e;cases e
 have haget:(h₁.push gob).get? h₁.objs.size=some gob:=Kh _ (by rw [←hgo];rfl);have hag:(W.hideAll (h₁.push gob) (Z0 G F [s.heap.objs.size])).get? h₁.objs.size=some gob:=W.hideAll_get _ haget fun hb=>by
  rcases List.mem_append.mp hb with hb | hb
  ·exact absurd (List.mem_singleton.mp hb) (Nat.ne_of_gt hLt)
  ·exact hnm _ (Nat.le_of_lt hLt) (Kf _ hb)
 refine ⟨h₁.objs.size,s.gens.size,s.heap.objs.size,W.hideAll (h₁.push gob) (Z0 G F [s.heap.objs.size]),.func body (ZX f scope qual cd s.heap.objs.size),rfl,?_,hsub,⟨_,_,_,hag,hgob⟩,?_,Array.getElem?_push_size ..,?_,W.hideAll_none _ (Kg _ (.head _)),(fresh _ (Kq _)).2.1,(fresh _ (Kq _)).2.2,fun F'' s'' g'' X=>?_⟩
 ·exact H1.regrow hsub (fun j j e=>W.of_hideAll _ e) fun b hb=>W.hideAll_none _ (Kf _ hb)
 ·cases e:F.gens[s.gens.size]? with
  | none=>rfl
  | some y=>exact absurd (Array.getElem?_eq_some_iff.mp (H.gens _ _ e)).1 (Nat.lt_irrefl _)
 ·refine oze hLo fun o e=>?_;exact ⟨o,hs2 _ _ e⟩
 ·have hd':(ar.in1.deeper (ZX f scope qual cd s.heap.objs.size)).depth+need<recursionLimit:=by show ar.depth+1+need<_;lia
  have hu':(ar.in1.deeper (ZX f scope qual cd s.heap.objs.size)).units+8*need+40≤cLine:=by show ar.units+1+3+_+_≤_;lia
  refine Ka fun zn8=>?_;obtain ⟨c,cG,cE,cA,cT,cC,cF⟩:∃c:Cx,c.G=G∧c.env=ZX f scope qual cd s.heap.objs.size∧c.A=ar.in1.deeper (ZX f scope qual cd s.heap.objs.size)∧c.tab=Zf scope∧c.cel=[]∧c.fuel=need:=⟨⟨G,ar.in1.deeper (ZX f scope qual cd s.heap.objs.size),ZX f scope qual cd s.heap.objs.size,Zf scope,[],need,K.tnd,K.kind,rfl,rfl,hh,hd',hu'⟩,rfl,rfl,rfl,rfl,rfl,rfl⟩;have cL:c.env.locals=s.heap.objs.size:=by rw [cE];rfl
  refine U7 X fun X1 X2 X3 X4=>?_;refine Yq (X4 _ (.head _)) fun x1 x2 x3=>?_;refine zn8 ?_;have R0:RS c {F'' with g₀:=g''} ⟨loc',[],[]⟩ [] s'':=by
   refine ⟨g'',[],_,{
    toHS:=by rw [cG];exact ⟨X1.base,Sub.refl _,X1.keep,X1.reg,X1.hid,X1.gens,X1.bare,X1.os⟩
    ns:=by rw [cL];exact (hns.push gob).at' fun o e=>x2 o e
    nl:=by rw [cL];exact x1
    loc:=fun y a ha=>?_
    len:=rfl
    nd:=List.nodup_nil
    fr:=fun j h=>nomatch h
    own:=fun i o a h1 h2=>by simp at h1
    stk:=rfl
    cel:=fun y i hy=>by rw [cC] at hy;cases hy
    apart:=fun b hb=>by
     rw [cL,cG] at *;rcases List.mem_cons.mp hb with rfl | hb
     ·exact ⟨(fresh _ (Kq _)).2.1,x3⟩
     ·cases hb
    pin:=fun q hq=>by rw [show ({F'' with g₀:=g''}:Fz).pin=F''.pin from rfl,X3] at hq;cases hq}⟩
   have hm:=Y8 ha;refine Ka fun zn9=>?_;refine Zx (hl _ hm) fun z m0 m2 m1=>?_;refine Zb (Wd (names:=names) hus m1) fun v hv1 hv2=>?_;refine zn9 ?_;rw [hbs] at hv1;refine ⟨z,v,by rw [cT];exact m0,ZdP (show scope.names.lookup z=some .local from m2) hn2 hv1,?_⟩;unfold Cx.p Cx.w;rw [cG];exact AR.sub _ _ (hsub.trans X2) (fun i a e=>by simp at e) _ _ hv2
  have key:=Zkn (A:=ar.in1) (body:=body) (ys:=ys) (g₀:=g'') (F:={F'' with g₀:=g''}) (fun Γ hcd hΓ=>by
   have:=hΓ.over [];rw [hcd] at this;rw [cA,←cE];rw [cE] at this ⊢;exact this) (Sub.refl _) R0 (h c cG (by rw [cL];exact cE) cC cT cF ar.in1 g'')
  rw [cG,cE] at key;exact YRun.weak X1.g0 key
end
section
def Zi9 (G:Gx) (A:Around) (ys:List D) (F:Fz) (gs:GenState) (s:Shared):Prop:=match gs with
 | .fresh c=>YRun G A ys F c ((model G.p G.w).den c) [] s
 | .suspended k _ c _ fs _=>YRun G A ys F c (k (.send .none)) fs s
 | _=>False
section
variable {G:Gx}{A:Around}{ys:List D}{F:Fz}{E:Value→Shared→Prop}{s:Shared}
theorem YEnd.quiet {ys:List D}{F:Fz}{e:End}{s':Shared}(h:YEnd G A ys F e s'):e.quiet=true:=by
 induction ys using LLc with
 | nil=>rw [h.1];rfl
 | cons y ys=>induction h;assumption
theorem ZkB {g:Nat}{gs:GenState}{l:List Value}{α:Type}{k:GenResult→Sem α}{Q:α→Shared→Prop}(hg:s.gens[g]?=some gs) (hgo:Zi9 G A ys F gs (s.setGen g .running))
 (hR:∀e s₁,YEnd G A ys F e s₁→wpAny (model G.p G.w) A (k e.result) Q E (s₁.setGen g e.genState)):wpAny (model G.p G.w) A (.resume g (.send .none) l k) Q E s:=by
 intro Γ p hΓ;rw [Sem.wp_resume];have hB:∀c,(Γ.wake c p).Woken A:=fun c=>hΓ.wake c p;induction gs with
 | fresh c =>
  refine Ka fun zn0=>?_;refine Zz (hgo (Γ.wake c p) p rfl (hB c)) fun e₁ s₁ hr he=>?_;refine zn0 ?_;exact ⟨_,_,by unfold Wakes;rw [hg];exact ⟨e₁,s₁,hr,he.quiet,rfl,rfl⟩,hR e₁ s₁ he Γ p hΓ⟩
 | suspended k₀ l₀ c₀ p₀ fs₀ cl =>
  refine Zz (hgo (Γ.wake c₀ p) p₀ rfl (hB c₀)) fun e₁ s₁ hr he=>?_;exact ⟨_,_,by unfold Wakes;rw [hg];exact ⟨e₁,s₁,hr,he.quiet,rfl,rfl⟩,hR e₁ s₁ he Γ p hΓ⟩
 | running=>exact hgo.elim
 | finished=>exact hgo.elim
theorem ZmQ {a:Addr}{g:Nat}{gs:GenState}{Q:Option Value→Shared→Prop}(hh:A.handled=none) (hl:s.heap.NoLimit) (hroom:A.depth<recursionLimit) (hg:s.heap.IsGen a g) (hgs:s.gens[g]?=some gs) (hgo:Zi9 G A.in1 ys F gs (s.setGen g .running))
 (hY:∀v gd l k c p fs s₁,YEnd G A.in1 ys F (.susp v gd l k c p fs) s₁→Q (some v) (s₁.setGen g (End.susp v gd l k c p fs).genState))
 (hP:∀s₁,YEnd G A.in1 ys F (.ret (.ok (.ret .none))) s₁→∀h',(∀b o,s₁.heap.get? b=some o→h'.get? b=some o)→Q none {s₁.setGen g .finished with heap:=h'}) :
 wpAny (model G.p G.w) A (pyNext (.ref a)) Q E s:=by
 refine Kd (wpAny_attempt (wpAny_callSpecial?_slot (name:=Str.ofString "__next__") hg.typeIs slot_gen_next
  (wpAny_call_entry slot_gen_next hg.typeIs entry_gen_next ?_ (args_gen_next _))))
 show wpAny _ A.in1 (Builtin.Generator.genWake (.ref a) (.send .none)) _ _ s;refine Kd (wpAny_holding (wpAny_genNumber hg (Kd (wpAny_genState hgs ?_))));induction gs with
 | running=>exact hgo.elim
 | finished=>exact hgo.elim
 | _ =>
  refine Kd (wpAny_roomToWake hl hroom ?_);refine ZkB hgs hgo (fun e s₁ he=>?_);induction ys using LLc with
  | nil =>
   refine oza (id he) fun zo1 j=>?_;subst zo1;show wpAny _ A.in1 (newExc (.type "StopIteration") [] >>= _) _ _ _;refine Kd ?_;dsimp only [newExc,newTuple];refine Kd (wpAny_newObj_type ?_ (by size_fits));refine Kd (m:=firstArgMember _ _) (wpAny_of_eq (a:=Value.none) (by first | rfl | (simp only [firstArgMember];rfl)) ?_);refine wpAny_newObj_type ?_ (by size_fits);dsimp only [raiseNew];refine Kd (Kd (wpAny_handled ?_))
   first | rw [show A.in1.handled=none from hh] | rw [hh]
   refine wpAny_throw ?_;refine Kd (wpAny_isInstance (T:="StopIteration") (b:=true) ⟨_,Kh _ rfl,rfl⟩ isSubtype_stop ?_);exact Ki (hP s₁ he _ fun b o hb=>Kn _ (Kn _ hb))
  | cons y ys =>
   obtain ⟨v,gd,l,k,c,p,fs,rfl,j⟩:=id he;exact Ki ⟨v,rfl,Ki (hY v gd l k c p fs s₁ he)⟩
end
structure GenSi (G:Gx) (A:Around) (it:Addr) (gi:Nat) (ys:List D) (i:Nat) (wr:List Addr) (gk h:Heap) (gs:Array GenState):Prop where
 gen:gk.IsGen it gi
 ap:∀b∈wr,(∃o,h.get? b=some o)∧∀r∈G.reg,b≠r.at_
 go:∃g₀ gst,Sub g₀ gk∧gs[gi]?=some gst∧∀F'' s'' g'',UK G wr h g₀ F'' s'' g''→Zi9 G A (ys.drop i) F'' gst s''
theorem UI {s:Shared}{g i:Nat}{x:GenState}(h:i≠g):(s.setGen g x).gens[i]?=s.gens[i]?:=by
 show (s.gens.setIfInBounds g x)[i]?=_;rw [Array.getElem?_setIfInBounds_ne (Ne.symm h)]
theorem U3 {s:Shared}{g:Nat}{x:GenState}(h:AllBare s.gens) (hx:x.bare=true):AllBare (s.setGen g x).gens:=fun y hy=>by
 obtain ⟨k,hk,ek⟩:=Array.getElem_of_mem hy;have e1:(s.setGen g x).gens[k]?=some y:=by rw [Array.getElem?_eq_getElem hk,ek]
 by_cases hk':k=g
 ·subst hk';have:(s.gens.setIfInBounds k x)[k]?=some y:=e1;rw [Array.getElem?_setIfInBounds_self] at this;split at this
  ·obtain rfl:=Kc this;exact hx
  ·exact Zo this
 ·rw [UI hk'] at e1;exact h y (Array.mem_of_getElem? e1)
section
variable {c:Cx}{F:Fz}{st:St}{vs:List Value}{s:Shared}
theorem Zb1 {gi:Nat}{wr:List Addr}{hs:List (Addr×Obj)}{g:Heap}{ρ:List Addr}{m:Str→Option Value}{g₀:Heap}(W:RSW c {F with hid:=Zn s.heap wr++hs} st vs s g ρ m)
 (hth:∀b∈wr,(∃o,s.heap.get? b=some o)∧∀r∈c.G.reg,b≠r.at_) (hd:∀q∈hs,q.1∉wr) (hg:Sub g₀ F.g₀) :
 UK c.G wr s.heap g₀ ⟨g,hs++Zn s.heap (c.env.locals::ρ),(s.setGen gi .running).gens,F.os,[]⟩ (s.setGen gi .running) g:=by
 have hr:∀b∈wr,∃o,(b,o)∈Zn s.heap wr++hs:=fun b hb=>by refine oza (hth b hb) fun zo2 j=>?_;refine oze zo2 fun o e=>?_;exact ⟨o,Kg _ (ZU hb e)⟩
 refine ⟨⟨W.base,Sub.refl _,W.keep,W.reg,fun q hq=>?_,fun j j e=>e,U3 W.bare rfl,W.os⟩,hg.trans W.g0,rfl,fun b hb=>?_⟩
 ·rcases Z8 hq with hq | hq
  ·exact W.hid q (Kf _ hq)
  ·refine oza (Zi hq) fun h1 h2=>?_;exact ⟨h2,W.nomut _ (ZT h1),(W.apart _ h1).1⟩
 ·refine Ka fun zn6=>?_;refine oze (hr b hb) fun o ho=>?_;refine Yq (W.hid _ ho) fun a1 a2 a3=>?_;refine zn6 ?_;refine ⟨a2,fun o e=>e,fun q hq=>?_⟩;refine Or.elim (Z8 hq) (fun hq=>?_) fun hq=>?_
  ·exact fun z=>hd q hq (z▸hb)
  ·exact fun z=>(W.apart _ (Zi hq).1).2 _ ho z.symm
theorem Zdt {gi:Nat}{wr:List Addr}{hs:List (Addr×Obj)}{g g₁:Heap}{ρ:List Addr}{m:Str→Option Value}{s₁ s₂:Shared}{wr':List Addr}{gs':GenState}(W:RSW c {F with hid:=Zn s.heap wr++hs} st vs s g ρ m) (hgi:F.gens[gi]?=none)
 (H:HS c.G ⟨g,hs++Zn s.heap (c.env.locals::ρ),(s.setGen gi .running).gens,F.os,[]⟩ s₁ g₁) (hW:∀b∈wr',(∃o,s₁.heap.get? b=some o)∧g₁.get? b=none∧(∀r∈c.G.reg,b≠r.at_)∧∀q∈hs++Zn s.heap (c.env.locals::ρ),b≠q.1) (hb:gs'.bare=true)
 {h':Heap} (hk:Sub s₁.heap h') (hh:s₂={s₁.setGen gi gs' with heap:=h'}) :
 RSW c {F with g₀:=g₁,hid:=Zn s₂.heap wr'++hs} st vs s₂ g₁ ρ m:=by
 subst hh;have hx:Sub g g₁:=H.g0;have hL:∀b∈c.env.locals::ρ,g₁.get? b=none∧∀o,s.heap.get? b=some o→h'.get? b=some o:=fun b hb=>by
  refine oze (W.there b hb) fun o e=>?_;refine Yq (H.hid (b,o) (Kf _ (ZU hb e))) fun h1 h2 j=>?_;exact ⟨h2,fun o' e'=>by rw [e] at e';obtain rfl:=Kc e';exact hk _ _ h1⟩
 exact {
  base:=H.base,g0:=Sub.refl _,keep:=H.keep.trans hk,reg:=fun r hr=>by refine YM (H.reg r hr) fun a o b d=>?_;exact ⟨a,o,hk _ _ b,d⟩
  hid:=fun q hq=>by
   rcases Z8 hq with hq | hq
   ·refine oza (Zi hq) fun h1 h2=>?_;refine U7 (hW _ h1) fun j a2 a3 j=>?_;exact ⟨h2,a2,a3⟩
   ·refine oza (H.hid q (Kg _ hq)) fun h1 h2=>?_;exact ⟨hk _ _ h1,h2⟩
  gens:=fun i y e=>by
   have hne:i≠gi:=fun z=>by rw [z] at e;rw [show ({F with g₀:=g₁,hid:=Zn h' wr'++hs}:Fz).gens=F.gens from rfl,hgi] at e;exact Zo e
   rw [UI hne];refine H.gens i y ?_;rw [UI hne];exact W.gens i y e
  bare:=U3 H.bare hb
  os:=H.os
  ns:=by refine ZZ W.ns fun o es ep h r=>?_;exact ⟨o,es,ep,(hL _ (.head _)).2 _ h,r⟩
  nl:=(hL _ (.head _)).1
  loc:=fun y a h=>by refine Zc (W.loc y a h) fun z v e0 e r=>?_;exact ⟨z,v,e0,e,AR.sub _ _ hx (Ext.refl _) a v r⟩
  len:=W.len
  nd:=W.nd
  fr:=fun b hb=>⟨(hL b (.tail _ hb)).1,(W.fr b hb).2⟩
  own:=fun i o a h1 h2=>OAt.sub _ _ hx (Ext.refl _) ((hL a (.tail _ (Kj h2))).2) o (W.own i o a h1 h2)
  stk:=ARs.sub _ _ hx (Ext.refl _) _ _ W.stk
  cel:=W.cel
  apart:=fun b hb=>⟨(W.apart b hb).1,fun q hq=>by
   refine Or.elim (Z8 hq) (fun hq=>?_) fun hq=>?_
   ·refine oze (W.there b hb) fun o e=>?_;refine U7 (hW _ (Zi hq).1) fun j j j a4=>?_;exact fun z=>a4 (b,o) (Kf _ (ZU hb e)) z.symm
   ·exact (W.apart b hb).2 q (Kf _ hq)⟩
  pin:=W.pin}
theorem GFeed.gen {G:Gx}{A:Around}{need:Nat}{tgt:Expr}{it:Addr}{gi:Nat}{ys:List D}(hA:A.handled=none) (hroom:A.depth<recursionLimit) (ht:∀it v,letOwnedTupleGo tgt it v=pure ()):GFeed G A need tgt it (some gi) [] (ys.map .d) (fun j=>True) (GenSi G A.in1 it gi ys) where
 th:=fun S b hb=>(S.ap b hb).1
 frame:=fun S hk j j hg=>⟨S.gen,fun b hb=>⟨(S.ap b hb).1.elim fun o e=>⟨o,hk b hb o e⟩,(S.ap b hb).2⟩,by
  refine Zc S.go fun g₀ gst h3 h4 h5=>?_;exact ⟨g₀,gst,h3,hg _ _ h4,fun F s g X=>h5 F s g ⟨X.1,X.2.1,X.2.2.1,fun b hb=>⟨(X.2.2.2 b hb).1,fun o e=>(X.2.2.2 b hb).2.1 o (hk b hb o e),(X.2.2.2 b hb).2.2⟩⟩⟩⟩
 mono:=fun S x=>⟨S.gen.keeps x,S.ap,by
  refine Zz S.go fun g₀ gst h3 h4=>?_;exact ⟨g₀,gst,h3.trans x,h4⟩⟩
 self:=fun A i wr gk s Q E j S hs hq=>wpAny_pyIter_gen (S.gen.keeps hs) hq
 item:=fun c F hs i wr a st vs s e eA hn ha S j j hd hgi R=>by
  obtain ⟨h1,h2,g₀,gst,h3,h4,h5⟩:=S;refine ozr R fun g ρ m W=>?_;subst e eA;have hi:i<ys.length:=by have:=(ZI ha).1;simpa using this
  have ea:a = .d ys[i]:=by rw [List.getElem?_map,Ke hi] at ha;exact (Kc ha).symm
  subst ea;have hgo:=h5 _ _ _ (Zb1 (gi:=gi) W h2 hd h3);rw [List.drop_eq_getElem_cons hi] at hgo;have hgen:s.heap.IsGen it gi:=h1.keeps fun b o e=>W.keep b o (W.g0 b o e);refine ZmQ (c.hh) (c.G.lib.nolimit _ (c.G.lib.mono _ _ W.keep W.base)) hroom hgen h4 hgo (fun v gd l k cd p fs s₁ he=>?_) (fun s₁ he=>?_)
  ·obtain ⟨v',gd',l',k',c',p',fs',e1,hq,g₁,wr',H,hv,hW,hc⟩:=he;cases e1;refine ⟨v,rfl,wpAny_of_eq (ht _ _) ⟨wr',g₁,W.g0.trans H.g0,⟨h1.keeps (W.g0.trans H.g0),fun b hb=>⟨(hW b hb).1,(hW b hb).2.2.1⟩,g₁,(End.susp v gd l k cd p fs).genState,Sub.refl _,?_,fun F'' s'' g'' X=>?_⟩,fun q hq z=>?_,g₁,ρ,m,(Zdt (s₂:=s₁.setGen gi (End.susp v gd l k cd p fs).genState) W (hgi _ rfl) H hW (End.bare_of_quiet hq) (Sub.refl _) rfl).push hv⟩⟩
   ·show (s₁.gens.setIfInBounds gi _)[gi]?=_;have hlt:gi<s₁.gens.size:=by
     have:=H.gens gi .running (setGen_self h4);exact (Array.getElem?_eq_some_iff.mp this).1
    rw [Array.getElem?_setIfInBounds_self_of_lt hlt]
   ·exact fun Γ p' hcd hΓ=>hc F'' s'' g'' X Γ p' hcd hΓ
   ·refine Ka fun zn15=>?_;refine Ka fun zn15=>?_;refine U7 (hW _ z) fun j j j a4=>?_;refine zn15 ?_;refine zn15 ?_;exact a4 q (Kg _ hq) rfl
  ·refine Ka fun zn16=>?_;refine Ka fun zn16=>?_;obtain ⟨j,j,j,j,j,j,j,e1,j⟩:=he;refine zn16 ?_;refine zn16 ?_;cases e1
 done:=fun c F hs wr st vs s e eA hn S j j hd hgi R=>by
  obtain ⟨h1,h2,g₀,gst,h3,h4,h5⟩:=S;refine ozr R fun g ρ m W=>?_;subst e eA;have hgo:=h5 _ _ _ (Zb1 (gi:=gi) W h2 hd h3);rw [List.length_map,List.drop_length] at hgo;have hgen:s.heap.IsGen it gi:=h1.keeps fun b o e=>W.keep b o (W.g0 b o e);refine ZmQ (c.hh) (c.G.lib.nolimit _ (c.G.lib.mono _ _ W.keep W.base)) hroom hgen h4 hgo (fun v gd l k cd p fs s₁ he=>?_) (fun s₁ he h' hk=>?_)
  ·refine oza he fun e1 j=>?_;cases e1
  ·refine ZqO he fun j g₁ H=>?_;exact ⟨rfl,g₁,ρ,m,RSW.of_g0 (F:={F with hid:=hs}) (W.g0.trans H.g0) (Zdt (wr':=[]) (gs':=.finished) W (hgi _ rfl) H (fun j h=>nomatch h) rfl hk rfl)⟩
end
end
section
section
variable {c:Cx}{F:Fz}{st:St}{vs:List Value}{s:Shared}{P:St→Prop}{Q:St→Prop}{QF:Fl→St→Prop}
theorem ZeG {pos:Pos}{f:Value}{first:List Value}{e:Expr}{r:List Expr}{Qv:Value→Shared→Prop}(R:RS c F st (first.reverse++f::vs) s) (h:GJ c (e::r) st P) (he:Zt (e::r)=true)
 (k:∀us st1 s1,us.length=first.length+(e::r).length→RS c F st1 (us.reverse++f::vs) s1→P st1→ZF c f s1.heap∧wpAny (model c.p c.w) c.A (call f us) Qv NoE s1) :
 wpAny (model c.p c.w) c.A (callWith pos f first (backTo pos (starEach (e::r) c.env)) []) Qv NoE s:=by
 refine W.callWith_of (P:=fun h=>ZF c f h) (by rw [(Xn (pos:=pos) (env:=c.env) he).1];rfl) (fun h hk=>hk) ?_;have key:=h F (first.reverse++f::vs) s pos R
 have h':Yn e=false:=by have:Yn e=false∧Zt r=true:=by simpa [Zt] using he
                        exact this.1
 rw [ZP r _ h'] at key ⊢;refine evalArgs_plain (wpm key (fun us s1 zq0=>?_));refine Ka fun zn0=>?_;obtain ⟨hl,st1,R1,h1⟩:=zq0;refine zn0 ?_;have R2:RS c F st1 ((first++us).reverse++f::vs) s1:=by simpa using R1
 exact k (first++us) st1 s1 (by simp [hl]) R2 h1
inductive GenCall (c:Cx) (n:Nat) (QI:(St→Prop)→List A→St→Prop) (st3:St):Prop
 | mk (f:Value) (need:Nat) (args ys:List D) (st4:St) (S:Zet c.G f need args ys) (hk:∀h,c.G.lib.B h→ZF c f h) (hn:need≤c.fuel) (hl:n=args.length) (e:st3=⟨st4.loc,st4.own,(args.map A.d).reverse++.d (.val f)::st4.stk⟩) (q:QI (fun _=>True) (ys.map .d) st4)
theorem ZjP {tgt oe:Expr}{name:Str}{apos pos:Pos}{e:Expr}{r:List Expr}{QI:(St→Prop)→List A→St→Prop}(h:EJ c oe st fun st1=>MJ c name st1 fun n st2=>GJ c (e::r) st2 fun st3=>GenCall c (n+(e::r).length) QI st3)
 (ht:∀it v,letOwnedTupleGo tgt it v=pure ())
 (hb:Xw oe=false:=by rfl) (hs:Zt (e::r)=true:=by rfl) (hn:decide ((e::r).length<30)=true:=by rfl) (hl:(apos.endLine==pos.line)=true:=by rfl):IGJ c tgt (.Call (.Attribute oe name apos) (e::r) [] pos) st QI:=fun F vs s R=>by
 refine Uf (F:=F) (vs:=vs) hb hs hn hl (wpm (h F vs s R) (fun ov s1 zw pl=>ozg zw fun st1 R1 h1=>Kb (h1 F ov vs s1 pl R1) (fun fx s2 zw=>ozg zw fun st2 R2 h2=>ZeG R2 h2 hs fun us st3 s3 hu R3 h3=>?_) fun u u x=>x));refine Ka fun zn1=>?_;obtain ⟨f,need,args,ys,st4,S,hk,hneed,hlen,rfl,hq⟩:=h3;refine ozr R3 fun g ρ m W=>?_;refine oza (Zy (xs:=args.map A.d) W.stk (by rw [List.length_map];exact hu.trans hlen)) fun q1 q2=>?_;refine zn1 ?_;have ef:fx.1=f:=Zd q2;rw [ef];have hd:=c.hd;have hun:=c.hu;refine ⟨hk _ (c.G.lib.mono _ _ W.keep W.base),?_⟩;refine wpm (S c.A _ us s3 g c.hh (by lia) (by lia) W.toCall (Zai.mp q1)) (fun v s' P=>?_);obtain ⟨a,gi,L,g',code,rfl,H',hsub,hgen,hgi,hgs,l1,l2,l3,l4,hrun⟩:=P;refine wpAny_pyIter_gen (hgen.keeps H'.keep) ?_;have hm:L∉Z0 c.G F (c.env.locals::ρ):=fun z=>by
  rcases List.mem_append.mp z with z | z
  ·refine oze (W.there L z) fun o e=>?_;exact l4 (L,o) (Kf _ (ZU z e)) rfl
  refine Or.elim (List.mem_append.mp z) (fun z=>?_) fun z=>?_
  ·refine Zb (Xb z) fun r hr e=>?_;exact l3 r hr e.symm
  ·refine Zb (Xb z) fun q hq' e=>?_;exact l4 q (Kg _ hq') e.symm
 have W2:=(((W.back H').stack (ARs.sub _ _ hsub (Ext.refl _) _ _ (Za q2))).at_g).hide (hs:=Zn s'.heap [L]) fun q hq'=>by
  refine oza (Zi hq') fun h1 h2=>?_;rw [List.mem_singleton] at h1;exact ⟨h2,h1▸l2,h1▸hm⟩
 refine ⟨a,need,some gi,[],_,_,_,[L],g',st4,rfl,hneed,GFeed.gen c.hh (by exact Nat.lt_of_le_of_lt (Ko _ _) (by assumption)) ht,⟨hgen,fun b hb'=>by rw [List.mem_singleton] at hb';subst hb';exact ⟨l1,l3⟩,g',.fresh code,Sub.refl _,hgs,fun F'' s'' g'' X=>hrun F'' s'' g'' X⟩,W.g0.trans hsub,fun q hq' z=>?_,fun j e=>by obtain rfl:=Kc e;exact hgi,⟨g',ρ,m,W2⟩,hq⟩;rw [List.mem_singleton] at z;exact l4 q (Kg _ hq') z.symm
theorem Zj3 {c':Cx}{x:Str}{px px2:Pos}{jx n:Nat}{ds:List D}{own:List O}(hx:IsL c' x jx) (hn:n<own.length) (hl:ds.length≤1000000) (q:∀l,Q ⟨l,own.set n (.list (ds.map .d)),[]⟩):CompJ c' (.Name x px) [] (.Name x px2) (fun j=>True) n (ds.map .d) ⟨[],own.set n (.list []),[]⟩ Q:=by
 have:=Zkg (c:=c') (tgt:=.Name x px) (ifs:=[]) (elt:=.Name x px2) (ok:=fun j=>True) (n:=n) (enc:=A.d) (f:=fun d:D=>some d) (own:=own) hn ds [] [] (Q:=Q) (by simpa using hl) (fun j j=>trivial)
  (fun d acc l j=>Yi (Z1 hx ⟨fun j=>Zm hx (by first | rfl | simp [ZD]) ⟨d,rfl,rfl,rfl⟩,fun h=>nomatch h⟩)) (fun l=>by simpa using q l)
 exact this
theorem Zba {i:Nat}{t:Stmt}(key:SJ c t st fun fl st1=>fl = .next∧∃tail d,st1=⟨(i,.own st.own.length)::st.loc,st.own++tail,st.stk⟩∧Frz (st.own++tail) st.own.length (.own st.own.length) d∧QF .next ⟨(i,.d d)::st.loc,st.own,st.stk⟩):SJ c t st QF:=by
 refine fun F vs s R=>wpm (key F vs s R) (fun fl s1 h1=>?_);induction fl with
 | next =>
  obtain ⟨st1,R1,j,tail,d,rfl,hf,q⟩:=h1;have C:=ZiD R (tail:=tail) hf;refine ⟨_,R1.conv (st':=⟨(i,.d d)::st.loc,st.own,st.stk⟩) ⟨C.len,C.le,C.own,fun x a' hx=>?_,C.stk.2⟩ R.bounds.1 R.bounds.2,q⟩;unfold ZD at hx;by_cases hxi:i=x
  ·subst hxi;rw [if_pos rfl] at hx;obtain rfl:=Kc hx;exact ⟨.own st.own.length,if_pos rfl,hf⟩
  ·rw [if_neg hxi] at hx;refine Zb (C.loc x a' hx) fun a h1 h2=>?_;exact ⟨a,(if_neg hxi).trans h1,h2⟩
 | brk=>obtain ⟨j,j,h,j⟩:=h1;cases h
 | cont=>obtain ⟨j,j,h,j⟩:=h1;cases h
 | ret v=>obtain ⟨j,j,h,j⟩:=h1;cases h
theorem ZgL {y x:Str}{i jx:Nat}{py spos px px2 pos:Pos}{iter:Expr}{scope:Scope}{celA:List (Str×Nat)}(hy:IsL c y i) (K:CompOK c scope celA)
 (h:IGJ c (.Name x px) iter st fun ok xs st2=>∃ds:List D,ok=(fun j=>True)∧xs=ds.map .d∧ds.length≤1000000∧st2=⟨st.loc,st.own,st.stk⟩∧(∀c',CompFr c c' scope (Yr scope celA st.own.length)→IsL c' x jx)∧QF .next ⟨(i,.d (.list ds))::st.loc,st.own,st.stk⟩)
 (hsw:swapsWith (.ListComp (.Name x px2) [⟨.Name x px,iter,[],0⟩] scope pos) (some (.Name y py)) spos.line c.env=pure true)
 (hs:∀x,foldedSetIterable iter c.env x=pure x):SJ c (.Assign [.Name y py] (.ListComp (.Name x px2) [⟨.Name x px,iter,[],0⟩] scope pos) spos) st QF:=by
 refine Zba (i:=i) (Zc4 K (h.mono fun ok xs st2 z=>?_) hsw hs);refine Zju z fun ds zo1 zo2 hlen zo3 hx q=>?_;subst zo1;subst zo2;subst zo3;intro c' H;have hset:∀ys:List A,((st.own++[O.list []]++List.replicate (ZK scope.names) (O.cell none)).set st.own.length (O.list ys):List O)=st.own++[O.list ys]++List.replicate (ZK scope.names) (O.cell none):=fun ys=>by
  rw [List.append_assoc,List.set_append_right _ _ (Kq _),Nat.sub_self,List.append_assoc];rfl
 have:=Zj3 (c':=c') (x:=x) (px:=px) (px2:=px2) (n:=st.own.length) (ds:=ds) (own:=st.own++[.list []]++List.replicate (ZK scope.names) (.cell none)) (hx c' H) (by simp) hlen
  (Q:=fun st3=>NJ c y ⟨st.loc,st3.own,.own st.own.length::st.stk⟩ (fun st1=>Fl.next = .next∧∃tail d,st1=⟨(i,.own st.own.length)::st.loc,st.own++tail,st.stk⟩∧Frz (st.own++tail) st.own.length (.own st.own.length) d∧QF .next ⟨(i,.d d)::st.loc,st.own,st.stk⟩)) (fun l=>by
   rw [hset];refine Z1 hy ⟨rfl,[.list (ds.map .d)]++List.replicate (ZK scope.names) (.cell none),.list ds,by rw [List.append_assoc],?_,q⟩;refine Frz.list (Kq _) (xs:=ds.map .d) ?_ (Frzs.d _);rw [Km (Kq _),Nat.sub_self];rfl)
 rw [hset] at this;exact this
end
end
section
section
variable {c:Cx}{st:St}{l:List (Nat×A)}{o:List O}{k:List A}{Q:St→Prop}{QM:Nat→St→Prop}
theorem Zbt {es:List (Str×D)}(q:QM 1 ⟨l,o,.d (.dict es)::.d (.val (.builtin "dict.values"))::k⟩):MJ c "values" ⟨l,o,.d (.dict es)::k⟩ QM:=XZ PySem.F.plainAttrs_dict PySem.F.slot_dict_values PySem.F.type_dict_values UY q
theorem Zkw {es:List (Str×D)}(q:QM 1 ⟨l,o,.d (.dict es)::.d (.val (.builtin "dict.items"))::k⟩):MJ c "items" ⟨l,o,.d (.dict es)::k⟩ QM:=XZ PySem.F.plainAttrs_dict PySem.F.slot_dict_items PySem.F.type_dict_items UY q
theorem ZaU {es:List (Str×D)}(q:Q ⟨l,o,.d (.view .values es)::k⟩):CJ c 1 ⟨l,o,.d (.dict es)::.d (.val (.builtin "dict.values"))::k⟩ Q:=fun F f us vs s hl zq0=>by
 obtain ⟨g,ρ,m,W⟩:=zq0;refine oza (Zy (xs:=[.d (.dict es)]) W.stk (by rw [hl];rfl)) fun q1 q2=>?_;have ef:f=_:=Zd q2;subst ef;obtain ⟨u,rfl,ad,kvs,e1,hns,hd,hv⟩:=Yh q1;subst e1;have hd':=ZA c.p c.w W.keep hd;refine ⟨Zj,call_meets PySem.F.slot_dict_values hd'.typeIs PySem.F.entry_dict_values (PySem.F.args_dict_values_1 _) (meets_dict_values (strKind c.p c.w) ad (by simpa using hns)) ⟨⟨kvs,hd'⟩,?_⟩⟩;refine Zx (W.allocD {cls:=.type "dict_values",data:=.fields #[.ref ad]} s.toks rfl) fun g' W' sb hg=>?_;exact ⟨_,⟨g',ρ,m,W'.stack (Zg (a:=.d (.view .values es)) ⟨_,ad,kvs,rfl,hns,⟨_,hg,rfl,rfl⟩,ZA _ _ sb hd,VRe.sub _ _ sb _ _ hv⟩ (ARs.sub _ _ sb (Ext.refl _) _ _ (Za q2)))⟩,q⟩
theorem Zk5 {es:List (Str×D)}(q:Q ⟨l,o,.d (.view .items es)::k⟩):CJ c 1 ⟨l,o,.d (.dict es)::.d (.val (.builtin "dict.items"))::k⟩ Q:=fun F f us vs s hl zq1=>by
 obtain ⟨g,ρ,m,W⟩:=zq1;refine oza (Zy (xs:=[.d (.dict es)]) W.stk (by rw [hl];rfl)) fun q1 q2=>?_;have ef:f=_:=Zd q2;subst ef;obtain ⟨u,rfl,ad,kvs,e1,hns,hd,hv⟩:=Yh q1;subst e1;have hd':=ZA c.p c.w W.keep hd;refine ⟨Zj,call_meets PySem.F.slot_dict_items hd'.typeIs PySem.F.entry_dict_items (PySem.F.args_dict_items_1 _) (meets_dict_items (strKind c.p c.w) ad (by simpa using hns)) ⟨⟨kvs,hd'⟩,?_⟩⟩;refine Zx (W.allocD {cls:=.type "dict_items",data:=.fields #[.ref ad]} s.toks rfl) fun g' W' sb hg=>?_;exact ⟨_,⟨g',ρ,m,W'.stack (Zg (a:=.d (.view .items es)) ⟨_,ad,kvs,rfl,hns,⟨_,hg,rfl,rfl⟩,ZA _ _ sb hd,VRe.sub _ _ sb _ _ hv⟩ (ARs.sub _ _ sb (Ext.refl _) _ _ (Za q2)))⟩,q⟩
theorem ZjS {i:Nat}{es:List (Str×A)}{ep:Nat}(ho:o[i]?=some (.dict es ep)) (q:Q ⟨l,o,.view .items i::k⟩):CJ c 1 ⟨l,o,.own i::.d (.val (.builtin "dict.items"))::k⟩ Q:=fun F f us vs s hl zq2=>by
 obtain ⟨g,ρ,m,W⟩:=zq2;refine oza (Zy (xs:=[.own i]) W.stk (by rw [hl];rfl)) fun q1 q2=>?_;have ef:f=_:=Zd q2;subst ef;refine ZiW (Yh q1) fun u zo1 ad ea e1=>?_;subst zo1;subst e1;refine Zx (W.own i _ ad ho ea) fun kvs n0 hd hx=>?_;refine ⟨Zj,call_meets PySem.F.slot_dict_items hd.dictOf.typeIs PySem.F.entry_dict_items (PySem.F.args_dict_items_1 _) (meets_dict_items (strKind c.p c.w) ad (by simpa using n0)) ⟨⟨kvs,hd.dictOf⟩,?_⟩⟩;refine Zx (W.allocD {cls:=.type "dict_items",data:=.fields #[.ref ad]} s.toks rfl) fun g' W' sb hg=>?_;exact ⟨_,⟨g',ρ,m,W'.stack (Zg (a:=.view .items i) ⟨ad,_,ea,rfl,⟨_,hg,rfl,rfl⟩⟩ (ARs.sub _ _ sb (Ext.refl _) _ _ (Za q2)))⟩,q⟩
end
end
section
structure Fr321 (c:Cx):Prop where
 l0:IsL c "self" 0
 l1:IsL c "target_filepath" 1
 l2:IsL c "digest" 2
 l3:IsL c "role" 3
theorem Zro {G:Gx}{w:World}(I:IsK kk2 G w):DefG G 321 (Zk (kk2 w.params) 321).scope ((Zk (kk2 w.params) 321).qualname++".<locals>.") (Zk (kk2 w.params) 321).code (stm (Zk (kk2 w.params) 321).body) 3 ["self","target_filepath","digest"] :=
 ZpU I (by kd_p) (by kd_p) (by kd_p) (by kd_p) (by kd_p) (by kd_p) (by kd_p) (by kd_p) (by kd_p) (by kd_p) (by kd_p) (by decide)
  (ln3 fun b0 b1 b2 S=>by kd_p)
theorem Zp9 {G:Gx}{w:World}(I:IsK kk2 G w) (c:Cx) (hG:c.G=G) (he:Zpx (kk2 w.params) 321 c) (ht:ZnY (kk2 w.params) 321 c) (hcel:c.cel=[]):Fr321 c :=
 ⟨isL he ht (by kd_p),isL he ht (by kd_p),isL he ht (by kd_p),isL he ht (by kd_p)⟩
theorem ZpH {G:Gx}{w:World}(I:IsK kk2 G w) {need:Nat}{d0 d1 d2:D}{ys:List D}(h:∀c,c.G=G→c.fuel=need→c.cel=[]→Fr321 c→c.env.scope.isCoroutine=false→∀A g₀,YJ c A [] [] g₀ (execs (stm (Zk (kk2 w.params) 321).body) c.env) ys ⟨[(0,.d d0),(1,.d d1),(2,.d d2)],[],[]⟩ fun ys' j=>ys'=[]):Zet G (.ref 321) (need+1) [d0,d1,d2] ys:=by
 refine ZqE (Zro I) (loc':=[(0,.d d0),(1,.d d1),(2,.d d2)]) (Zs [0,1,2] (by kd_p)) fun c hG he hcel ht hfu=>by
  have hco:c.env.scope.isCoroutine=false:=by rw [he];kd_p
  with_reducible exact h c hG hfu hcel (Zp9 I c hG he ht hcel) hco
theorem YJ.mono {c:Cx}{A:Around}{wr:List Addr}{pn:List (Nat×Addr)}{g₁:Heap}{t:Sem Flow}{ys:List D}{st:St}{Q Q':List D→St→Prop}(h:YJ c A wr pn g₁ t ys st Q) (q:∀ys st,Q ys st→Q' ys st):YJ c A wr pn g₁ t ys st Q':=fun Fo s code fs K H gd lv h1 h2 h3 h4 P hK =>
 h Fo s code fs K H gd lv h1 h2 h3 h4 P fun Fo' s' ys' st' P' hk hq=>hK Fo' s' ys' st' P' hk (q _ _ hq)
theorem ZgZ {α:Type}{c:Cx}{A₁:Around}{tgt:Expr}{body:List Stmt}{ok:St→Prop}{enc:α→A}{tell:α→List D}{L:List (Nat×A)}{ow:List O}{Q:List D→St→Prop}(hok:∀l,ok ⟨l,ow,[]⟩) (xs:List α) (st:St)
 (step:∀x,x∈xs→∀ys',AsJ c tgt ⟨L,ow,[enc x]⟩ fun st1=>∀wr pn g₁,YJ c A₁ wr pn g₁ (execs body c.env) (tell x++ys') st1 fun ys2 st2=>ys2=ys'∧At L ow [] st2) (h:At L ow [] st)
 (fin:∀l,Le L l→Q [] ⟨l,ow,[]⟩):Zf1 c A₁ tgt body ok (xs.map enc) st (xs.map tell).flatten Q:=by
 induction xs generalizing st with
 | nil =>
  obtain ⟨l,o',k'⟩:=st;refine Yq h fun h1 h2 h3=>?_;obtain rfl:o'=ow:=h2;obtain rfl:k'=[]:=h3;exact ⟨hok l,fin l h1⟩
 | cons x xs ih =>
  obtain ⟨l,o',k'⟩:=st;refine Yq h fun h1 h2 h3=>?_;obtain rfl:o'=ow:=h2;obtain rfl:k'=[]:=h3;refine ⟨hok l,Zmw (st:=⟨l,o',[enc x]⟩) (fun F v vs s R=>wpm (step x (.head _) (xs.map tell).flatten F v vs s R) (fun j s1 z=>?_)) h1⟩;refine ozg z fun st1 R1 h=>?_;refine ⟨st1,R1,fun wr pn g₁=>(h wr pn g₁).mono fun ys2 st2 hf=>?_⟩;rw [hf.1];exact ih st2 (fun y hy=>step y (.tail _ hy)) hf.2
structure RoleX where
 nm:Str
 tm:Bool
 pats:Option (List (List (List Str)))
 texts:Option (List Str)
noncomputable def RoleX.d (ids:List Str) (r:RoleX):D:=UD r.nm r.tm ids (r.pats.map (·.map YL)) r.texts []
structure RoleX.Ok (r:RoleX):Prop where
 pt:∀ps,r.pats=some ps→∀pt∈ps,PatOk pt∧pt≠[]
 one:((r.pats.isSome&&r.texts.isNone)||(r.pats.isNone&&r.texts.isSome))=true
noncomputable def Yo (ids:List Str) (rs:List RoleX):List (Str×D):=rs.map fun r=>(r.nm,r.d ids)
noncomputable def Yv (path:Str) (rs:List RoleX):List D:=(rs.filter fun r=>YC path r.pats r.texts).map fun r=>.tuple [.str r.nm,.bool r.tm]
theorem ZkZ {c:Cx}{l:List (Nat×A)}{o:List O}{k:List A}{Q:St→Prop}{f:Value}{need:Nat}{x y z:D}{R:D→Prop}(H:Zr c.G f need [x,y,z] R) (hk:∀h,c.G.lib.B h→ZF c f h) (hn:need≤c.fuel) (q:∀d,R d→Q ⟨l,o,.d d::k⟩):CJ c 3 ⟨l,o,.d z::.d y::.d x::.d (.val f)::k⟩ Q:=Zfc (args:=[x,y,z]) H hk hn rfl q
theorem md1 (w:World):ZcP (kk2 w.params) 201 198 "is_delegated_path"=true:=by kd_p
end
section
section
variable {c:Cx}{F:Fz}{st:St}{vs:List Value}{s:Shared}{Q:St→Prop}{QF:Fl→St→Prop}
noncomputable def ZjQ (kx vx:Expr) (env:Env) (D:Addr):Sem Unit:=do
 let kv ←eval kx env;let vv ←holding [kv] (eval vx env)
 standAt {kx.pos with endLine:=vx.pos.endLine,endCol:=vx.pos.endCol}
 holding [kv,vv] (dictSet D kv vv)
theorem ZqI {kx vx tgt iter:Expr}{ifs:List Expr}{scope:Scope}{pos:Pos}:AccOK (.DictComp kx vx [⟨tgt,iter,ifs,0⟩] scope pos) tgt iter ifs newDict {cls:=.type "dict",data:=.dict #[]} (.dict [] 0) (ZjQ kx vx) where
 cl:=rfl
 nw:=fun p w A s Q E h=>wpAny_newObj_type h (by size_fits)
 at_:=fun p w g ρ h hs=>⟨[],Nat.ne_of_gt hs,Xi (Kh _ rfl),rfl⟩
 start:=fun p w A it acc env R s h1 h2=>codeAny_compStart_dict h1 (Kb h2 (fun j j x=>x) fun j j x=>x.elim)
 loop:=fun p w A it D env R I turn n s h=>by
  refine codeAny_loop rfl I (fun n s hI=>?_) n h;show wpAny _ A ((compTurn (.DictComp kx vx [⟨tgt,iter,ifs,0⟩] scope pos) 0 it (.ref D) env).onRaise (fun x=>do noteFrame x env;theTreesLotGoes x)) _ _ s;refine wpAny_noted ?_;rw [compTurn_dict];refine Kd (wpAny_standAt (Kd (Kb (turn n s hI) (fun r s₁ h₁=>?_) fun j j h'=>h'.elim)));induction r with
  | none=>exact Ki h₁
  | some v =>
   refine Kd (Kb h₁ (fun j s₁' h₁'=>?_) fun j j h'=>h'.elim);refine Kd (Kb h₁' (fun j s₂ h₂=>Kd (Kb h₂ (fun ok s₃ h₃=>?_) fun j j h'=>h'.elim)) fun j j h'=>h'.elim);induction ok with
   | false=>exact Ki ⟨rfl,h₃⟩
   | true=>exact Kd (Kb h₃ (fun j s₄ h₄=>Ki ⟨rfl,h₄⟩) fun j j h'=>h'.elim)
theorem ZlP {kx vx:Expr}{n:Nat}(h:EJ c kx st fun st1=>EJ c vx st1 fun st2=>∃x a es ep,st2.stk=[a,.d (.str x)]∧st2.own[n]?=some (.dict es ep)∧es.length≤1000∧∀ep',Q ⟨st2.loc,st2.own.set n (.dict (Yj es x a) ep'),[]⟩):EmJ c (ZjQ kx vx) n st Q:=fun F D s hD R=>by
 refine Kd (wpm (h F [] s R) (fun kv s1 zq0=>?_));obtain ⟨st1,R1,h1⟩:=zq0;refine Kd (wpAny_holding (wpm (h1 F [kv] s1 R1) (fun vv s2 zq1=>?_)));refine Ka fun zn1=>?_;obtain ⟨st2,⟨g,ρ,m,W⟩,x,a,es,ep,hstk,hown,hz,hq⟩:=zq1;refine zn1 ?_;refine Kd (wpAny_standAt (wpAny_holding ?_));have hD2:=W.pin _ hD;have hst:=W.stk;rw [hstk] at hst;obtain ⟨t,e0⟩:∃t,kv=Value.str x t:=Zd (Za hst);subst e0;refine Zx (W.own _ _ _ hown hD2) fun kvs n0 hd hx=>?_;refine wpAny_dictSet_pairs (knd:=strKind c.p c.w) (k:=x) (strKind_is _ _ x t) hd.dictOf (fun h' hd' hs=>?_) (by rw [Yy hx,sizeLine_eq];lia);refine oze hd'.dictAt fun ep' hd'=>?_;exact ⟨_,⟨g,ρ,m,(W.stack (Za (Za hst))).setOwn (t:=s2.toks+1) (ZI hown).1 hD2 (fun b ob hb eb=>(hs.2 b hb).trans eb) (o':=.dict (Yj es x a) ep') ⟨_,n0,hd',XW hx (Zd hst)⟩⟩,hq ep'⟩
theorem ZeW {y:Str}{py spos:Pos}{kx vx tgt iter:Expr}{ifs:List Expr}{scope:Scope}{pos:Pos}{celA:List (Str×Nat)}(K:CompOK c scope celA)
 (h:IEJ c tgt iter st fun ok xs st2=>∀c',CompFr c c' scope (Yr scope celA st2.own.length)→ZaZ c' tgt ifs (ZjQ kx vx) ok st2.own.length xs
  ⟨[],st2.own++[.dict [] 0]++List.replicate (ZK scope.names) (.cell none),[]⟩ (fun st3=>NJ c y ⟨st2.loc,st3.own,.own st2.own.length::st2.stk⟩ (QF .next)))
 (hsw:swapsWith (.DictComp kx vx [⟨tgt,iter,ifs,0⟩] scope pos) (some (.Name y py)) spos.line c.env=pure true)
 (hs:∀x,foldedSetIterable iter c.env x=pure x):SJ c (.Assign [.Name y py] (.DictComp kx vx [⟨tgt,iter,ifs,0⟩] scope pos) spos) st QF:=fun F vs s R=>by
 rw [exec_Assign_Name_used _ _ _ _ hsw];refine Kd (wpAny_standAt (Kd ?_));refine Kd (wpm (ZaM ZqI (use:=some (assign (.Name y py) c.env)) (Q:=fun st=>NJ c y st (QF .next)) (Qv:=fun j s'=>Got c F vs (QF .next) s') K hs (ZfC h) R fun D C s' st' mC lo hQ hn hC hd R'=>?_) (fun j s' hq=>Ki (Ki hq)));refine wpm (Yi hQ _ _ vs s' R') (fun j s2 zq2=>?_);refine Ka fun zn5=>?_;refine ozg zq2 fun st2 zo2 hq=>?_;refine ozr zo2 fun g ρ m W=>?_;refine zn5 ?_;refine ⟨mC,?_,fun h' hs'=>⟨st2,⟨g,ρ,m,?_⟩,hq⟩⟩
 ·refine ZZ hn fun o es ep e r=>?_;rw [hC] at e;obtain rfl:=Kc e;exact ⟨_,es,ep,((W.hid _ (.head _)).1),r⟩
 ·exact RSW.rehide (F:=F) (g₁:=F.g₀) (hs:=[(C,lo)]) (hs':=[]) W (fun q hq z=>hd q hq (by simpa using z)) (h':=h') (t:=s2.toks) (fun b o hb e=>(hs'.2 b (by simpa using hb)).trans e) (fun j h=>nomatch h)
end
end
section
noncomputable def ZfI (c:Cx) (tx ty:Expr) (body:List Stmt) (ok:St→Prop):List (Str×A)→St→(Fl→St→Prop)→Prop
 | [],st,Q=>ok st∧Q .next st
 | e::es,st,Q=>ok st∧AsJ c tx ⟨st.loc,st.own,.d (.str e.1)::e.2::st.stk⟩ fun st1=>AsJ c ty st1 fun st2=>XJ c body st2 (lpQ (fun st3=>ZfI c tx ty body ok es st3 Q) Q)
section
variable {c:Cx}{F:Fz}{st:St}{vs:List Value}{s:Shared}{Q:St→Prop}{QF:Fl→St→Prop}{l:List (Nat×A)}{o:List O}{k:List A}
noncomputable def FzI (F:Fz) (g h:Heap) (I:Addr) (j d:Nat):Fz:={F with g₀:=g,hid:=Zn h [I]++F.hid,pin:=[(j,d)]++F.pin}
theorem X7 {h:Heap}{I:Addr}{o:Obj}(e:h.get? I=some o):∀b,b∈(Zn h [I]).map (·.1)↔b∈[I]:=Z4 fun b hb=>by cases hb with
 | head=>exact ⟨o,e⟩
 | tail _ hb=>nomatch hb
theorem Zg3 {g:Heap}{ρ:List Addr}{m:Str→Option Value}(W:RSW c F st vs s g ρ m) (ob:Obj) {j d:Nat}(hd:ρ[j]?=some d):RS c (FzI F g (s.heap.push ob) s.heap.objs.size j d) st vs {s with heap:=s.heap.push ob} :=
 ⟨g,ρ,m,((W.alloc ob s.toks).hide (hs:=Zn (s.heap.push ob) [s.heap.objs.size]) fun q hq=>by
  refine oza (Zi hq) fun h1 h2=>?_;have e1:=ZaI h1;exact ⟨h2,by rw [e1];exact W.keep.none (Zbl _),by rw [e1];exact W.size_nomut⟩).pinned (pn:=[(j,d)]) fun q hq=>by
   cases hq with
   | head=>exact hd
   | tail _ hb=>nomatch hb⟩
theorem Zjh {g:Heap}{I:Addr}{j d:Nat}{g2:Heap}{ρ:List Addr}{m:Str→Option Value}{o:Obj}(W:RSW c (FzI F g s.heap I j d) st vs s g2 ρ m) (hI:s.heap.get? I=some o) (hd:∀q∈F.hid,q.1∉[I]) {h':Heap}{t:Nat}(hk:∀b o,b∉[I]→s.heap.get? b=some o→h'.get? b=some o) :
 RSW c (FzI F g h' I j d) st vs {s with heap:=h',toks:=t} g2 ρ m :=
 RSW.rehide (F:={F with pin:=[(j,d)]++F.pin}) (g₁:=g) W (hs':=Zn h' [I]) (fun q hq z=>hd q hq ((X7 hI _).mp z)) (h':=h') (t:=t) (fun b o hb e=>hk b o (fun z=>hb ((X7 hI b).mpr z)) e) fun q hq=>⟨(X7 hI _).mpr (Zi hq).1,(Zi hq).2⟩
theorem Zmt {g:Heap}{I:Addr}{j d:Nat}(g0:Sub F.g₀ g) {g2:Heap}{ρ:List Addr}{m:Str→Option Value}{o:Obj}(W:RSW c (FzI F g s.heap I j d) st vs s g2 ρ m) (hI:s.heap.get? I=some o) (hd:∀q∈F.hid,q.1∉[I]) {h':Heap}{t:Nat}(hk:∀b o,b∉[I]→s.heap.get? b=some o→h'.get? b=some o) :
 RS c F st vs {s with heap:=h',toks:=t} :=
 ⟨g2,ρ,m,RSW.unpin (pn:=[(j,d)]) (RSW.of_g0 (F:={F with pin:=[(j,d)]++F.pin}) g0 (RSW.rehide (F:={F with pin:=[(j,d)]++F.pin}) (g₁:=g) W (hs':=[]) (fun q hq z=>hd q hq ((X7 hI _).mp z)) (h':=h') (t:=t) (fun b o hb e=>hk b o (fun z=>hb ((X7 hI b).mpr z)) e) (fun u h=>nomatch h)))⟩
theorem Zaw {g h3:Heap}{I:Addr}{j d:Nat}{o:Obj}(R:RS c (FzI F g h3 I j d) st vs s) (hI:h3.get? I=some o) (hd:∀q∈F.hid,q.1∉[I]):s.heap.get? I=some o∧RS c (FzI F g s.heap I j d) st vs s:=by
 refine ozr R fun g7 ρ7 m7 W7=>?_;exact ⟨((W7.hid (I,_) (Kg _ (ZU (.head _) hI))).1),g7,ρ7,m7,RSW.rehide (F:={F with pin:=[(j,d)]++F.pin}) (g₁:=g) (hs:=Zn h3 [I]) (hs':=Zn s.heap [I]) W7 (fun q hq z=>hd q hq ((X7 hI _).mp z)) (h':=s.heap) (t:=s.toks) (fun u u u e=>e) fun q hq=>⟨(X7 hI _).mpr (Zi hq).1,(Zi hq).2⟩⟩
theorem Zgp {g h3:Heap}{I:Addr}{j d:Nat}(g0:Sub F.g₀ g) (R:RS c (FzI F g h3 I j d) st vs s):RS c F st vs s:=RS.unhide (F:=F) (pn:=[(j,d)]) R g0
inductive IInv (c:Cx) (F:Fz) (g:Heap) (I d:Addr) (j:Nat) (es:List (Str×A)) (ep:Nat) (tx ty:Expr) (body:List Stmt) (QF:Fl→St→Prop) (vs:List Value) (kk:Nat) (s':Shared):Prop
 | mk (i:Nat) (st':St) (hi:i≤es.length) (hk:kk=es.length+1 - i) (ok ov:Value) (hit:IsItemIter s'.heap I d i es.length ep ok ov) (R:RS c (FzI F g s'.heap I j d) st' vs s') (hL:ZfI c tx ty body (fun st=>st.own[j]?=some (.dict es ep)) (es.drop i) st' QF)
section
variable {g:Heap}{I d:Addr}{j:Nat}{es:List (Str×A)}{ep:Nat}{tx ty:Expr}{body:List Stmt}
theorem ZhV {x:Str}{e:A}{i:Nat}{h3:Heap}{ok ov:Value}(hlt:i<es.length) (hI:IsItemIter h3 I d (i+1) es.length ep ok ov) (hd:∀q∈F.hid,q.1∉[I]) (g0:Sub F.g₀ g)
 (hL:AsJ c tx ⟨st.loc,st.own,.d (.str x)::e::st.stk⟩ fun st1=>AsJ c ty st1 fun st2=>XJ c body st2 (lpQ (fun st3=>ZfI c tx ty body (fun st=>st.own[j]?=some (.dict es ep)) (es.drop (i+1)) st3 QF) QF))
 {v y:Value} (R:RS c (FzI F g h3 I j d) ⟨st.loc,st.own,.d (.str x)::e::st.stk⟩ (v::y::vs) s) (he:assignEach [tx,ty] c.env=[tx,ty].map fun e=>(false,assign e c.env)) :
 wpAny (model c.p c.w) c.A (assignInOrder ((assignEach [tx,ty] c.env).map (·.2)) [v,y]) (fun u s4=>wpAny (model c.p c.w) c.A (execs body c.env) (Stp (FQ c F vs QF) (IInv c F g I d j es ep tx ty body QF vs) (es.length+1 - i)) NoE s4) NoE s:=by
 rw [he];refine assignInOrder_cons (Kb (hL _ _ (y::vs) _ R) (fun u s5 h5=>assignInOrder_cons ?_) fun u u x=>x.elim);refine ozg h5 fun st5 R5 h5=>?_;refine Kb (h5 _ y vs s5 R5) (fun u s6 h6=>assignInOrder_nil ?_) fun u u x=>x.elim;obtain ⟨st6,R6,h6⟩:=h6;refine Kb (h6 _ vs s6 R6) (fun f s7 h7=>?_) fun u u x=>x.elim;induction f with
 | next=>refine ozg h7 fun st8 R8 h8=>?_;exact ⟨_,ZcT hlt,i+1,st8,hlt,rfl,ok,ov,(Zaw R8 hI hd).1,(Zaw R8 hI hd).2,h8⟩
 | cont=>refine ozg h7 fun st8 R8 h8=>?_;exact ⟨_,ZcT hlt,i+1,st8,hlt,rfl,ok,ov,(Zaw R8 hI hd).1,(Zaw R8 hI hd).2,h8⟩
 | brk=>refine ozg h7 fun st8 R8 h8=>?_;exact ⟨st8,Zgp g0 R8,h8⟩
 | ret v=>refine ozg h7 fun st8 R8 h8=>?_;exact ⟨st8,Zgp g0 R8,h8⟩
theorem Ziv {n:Nat}{tp:Pos}(hne:d≠I) (hd:∀q∈F.hid,q.1∉[I]) (g0:Sub F.g₀ g) (he:assignEach [tx,ty] c.env=[tx,ty].map fun e=>(false,assign e c.env)) {kk:Nat}(I0:IInv c F g I d j es ep tx ty body QF vs kk s) :
 Zge c (.Tuple [tx,ty] n tp) body (.ref I) (FQ c F vs QF) (IInv c F g I d j es ep tx ty body QF vs) kk s:=by
 obtain ⟨i,st2,hi,rfl,ok,ov,hit2,⟨g2,ρ2,m2,W2⟩,hL2⟩:=I0;have own:st2.own[j]?=some (.dict es ep):=by
  generalize es.drop i=xs at hL2;induction xs using LLc with
  | nil=>exact hL2.1
  | cons x xs=>exact hL2.1
 refine Zx (W2.own j _ d own (W2.pin _ (.head _))) fun kvs u hl2 hv2=>?_;have WT:=UZ (p:=c.p) (w:=c.w) c.hh I d hne kvs ep;rw [(Yy hv2)] at WT;refine Or.elim (Nat.lt_or_ge i es.length) (fun hlt=>?_) fun hge=>?_
 ·rw [List.drop_eq_getElem_cons hlt] at hL2;refine WT.item i s _ _ hlt ⟨⟨_,_,hit2⟩,hl2⟩ fun T vals h' tk hPt hfresh hT hMd hk=>?_;refine Ka fun zn5=>?_;refine ZZ hPt fun x t y hx zo3=>?_;subst zo3;refine zn5 ?_;refine WT.go [tx,ty] n tp i T _ _ _ hMd fun h2 hSi2 hk2=>?_;refine assign_Tuple_tuple c.hh (items:=#[.str x t,y]) (hT.at (h':=h2) fun o e=>hk2 T o (WT.apart _ _ _ hMd) e) (by rw [he];rfl) (by rw [he];rfl) fun h3 hx3=>?_;have hSub:Sub h2 h3:=fun b ob e=>hx3 b ob (Nat.ne_of_lt (Kk e)) e;refine Ka fun zn6=>?_;refine oza hSi2 fun zo5 u=>?_;refine XN zo5 fun ok2 ov2 hit3=>?_;refine Zb (Zl5 hv2 hx) fun e he1 he2=>?_;refine zn6 ?_;have ee:es[i]=(x,e):=by rw [Ke hlt] at he1;exact Kc he1
  rw [ee] at hL2;exact ZhV hlt (hSub _ _ hit3) hd g0 hL2.2 ⟨g2,ρ2,m2,((Zjh (h':=h3) (t:=tk) W2 hit2 hd fun b o hb e=>hSub _ _ (hk2 b o hb (hk b o hb e))).push he2).push (a:=.d (.str x)) ⟨t,rfl⟩⟩ he
 ·have hin:i=es.length:=Nat.le_antisymm hi hge;subst hin;rw [List.drop_length] at hL2;exact WT.done s _ _ ⟨⟨_,_,hit2⟩,hl2⟩ fun h' tk hk=>⟨st2,Zmt g0 W2 hit2 hd hk,hL2.2⟩
end
theorem ZcS {tx ty iter:Expr}{n:Nat}{tp pos:Pos}{body:List Stmt}(h:EJ c iter st fun st1=>∃l o k j es ep,st1=⟨l,o,.view .items j::k⟩∧o[j]?=some (.dict es ep)∧ZfI c tx ty body (fun st=>st.own[j]?=some (.dict es ep)) es ⟨l,o,k⟩ QF)
 (hs:∀x,foldedSetIterable iter c.env x=pure x) (he:assignEach [tx,ty] c.env=[tx,ty].map fun e=>(false,assign e c.env):=by rfl):SJ c (.For (.Tuple [tx,ty] n tp) iter body [] pos) st QF:=fun F vs s R=>by
 refine ZmR (wpm (h F vs s R) (fun v s1 zq0=>?_)) hs;refine Ka fun zn7=>?_;obtain ⟨st1,⟨g,ρ,m,W⟩,l,o,k,j,es,ep,e1,ho,hL⟩:=zq0;refine zn7 ?_;subst e1;refine Ka fun zn8=>?_;obtain ⟨d,a,ea,e2,hview⟩:∃d a,ρ[j]?=some d∧v = .ref a∧Zbp g .items a d:=Zd W.stk;refine zn8 ?_;subst e2;refine Zx (W.own j _ d ho ea) fun kvs hns hl hv=>?_;have hne:d≠s1.heap.objs.size:=fun z=>by
  refine Zz hl fun ob u e u=>?_;exact absurd (Kk e) (by rw [z];exact Nat.lt_irrefl _)
 refine wpAny_pyIter_items (YY W.keep .items hview) hl ⟨IInv c F g s1.heap.objs.size d j es ep tx ty body QF vs,es.length+1,.mk 0 _ (Nat.zero_le _) rfl .none .none ?_ (Zg3 (W.stack (Za W.stk)) _ ea) hL,fun kk s2 I0=>Ziv hne (fun q hq z=>?_) W.g0 he I0⟩
 ·rw [Yy hv];exact Kh _ rfl
 ·exact W.size_nomut (ZaI z▸XS hq)
end
end
section
structure KeyX where
 id:Str
 ty:Str
 sc:Str
 kv:List (Str×D)
noncomputable def KeyX.d (k:KeyX):D:=Zmu (.str k.id) (.str k.ty) (.str k.sc) (.dict k.kv) []
noncomputable def Zed (ks:List KeyX):List (Str×D):=ks.map fun k=>(k.id,k.d)
theorem Zaj {es:List (Str×A)}{x:Str}{a:A}(h:x∉es.map (·.1)):Yj es x a=es++[(x,a)]:=by
 unfold Yj;have:(es.any fun e=>decide (e.1=x))=false:=by
  rw [List.any_eq_false];intro e he hx;exact h (Kw hx▸List.mem_map_of_mem he)
 rw [this];rfl
theorem ZlZ (n:Nat):iot [] n=(n+·):=by funext j;rfl
theorem Zc6 {c:Cx}{l:List (Nat×A)}{o:List O}{k:List A}{Q:St→Prop}{n:Nat}{f:Value}{need:Nat}{args:List D}{R:A→List O→Prop}(H:OSpecC c.G f need [] (args.map .d) R) (hk:∀h,c.G.lib.B h→ZF c f h) (hn:need≤c.fuel) (hl:args.length=n)
 (q:∀a os',R a os'→Q ⟨l,o++os'.map (Xy (o.length+·)),Xr (o.length+·) a::k⟩):CJ c n ⟨l,o,(args.map A.d).reverse++.d (.val f)::k⟩ Q:=by
 have:=ZaC (c:=c) (l:=l) (o:=o) (k:=k) (Q:=Q) (n:=n) [] (os:=[]) (args:=args.map .d) (OSpecC.toO H) hk hn (by rw [List.length_map];exact hl) List.nodup_nil rfl (fun j i h=>by simp at h) (fun a os' hR=>by
  have:=q a os' hR;rw [ZlZ];have e:Zdk (fun x=>o.length+x) [] os' o=o:=by induction os' using LLc <;> rfl
  exact this)
 have e:(args.map A.d).map (Xr (iot [] o.length))=args.map A.d:=by rw [List.map_map];rfl
 rw [e] at this;exact this
end
section
noncomputable def ZkL (scope:Scope) (t:Str):Bool:=!(scope.names.any fun (n,k)=>n==t&&(k == .local||k == .cell))
theorem blk {c:Cx}:c.env.blockKind = .function:=by unfold Env.blockKind;rw [c.hk];rfl
theorem Zlk {c:Cx}{t:Str}{i:Nat}{kx vx:Expr}{g:List Comprehension}{scope:Scope}{vp pos:Pos}{line:Nat}(hy:IsL c t i) (h:ZkL scope t=true) (hl:(pos.line==vp.line)=true):swapsWith (.DictComp kx vx g scope vp) (some (.Name t pos)) line c.env=pure true:=by
 show (pure (c.env.blockKind == .function&&c.env.kindOf t==some .local&&pos.line==vp.line&&ZkL scope t):Sem Bool)=pure true;rw [blk,hy.1,h,hl];rfl
theorem ZfB {c:Cx}{t:Str}{i:Nat}{kx:Expr}{g:List Comprehension}{scope:Scope}{vp pos:Pos}{line:Nat}(hy:IsL c t i) (h:ZkL scope t=true) (hl:(pos.line==vp.line)=true):swapsWith (.ListComp kx g scope vp) (some (.Name t pos)) line c.env=pure true:=by
 show (pure (c.env.blockKind == .function&&c.env.kindOf t==some .local&&pos.line==vp.line&&ZkL scope t):Sem Bool)=pure true;rw [blk,hy.1,h,hl];rfl
end
section
theorem Zrk {i n:Nat}:iot [i] n 0=i∧iot [i] n 1=n∧iot [i] n 2=n+1:=⟨rfl,by show n+(1 - 1)=n;(first | lia | omega),by show n+(2 - 1)=n+1;(first | lia | omega)⟩
end
section
theorem ZiA {c:Cx}{l:List (Nat×A)}{o:List O}{k:List A}{Q:St→Prop}{i:Nat}{es:List (Str×A)}{ep:Nat}{x:Str}(ho:o[i]?=some (.dict es ep)) (q:Q ⟨l,o,.d (.bool (YH es x).isSome)::k⟩):OJ2 c (compareOp .In) ⟨l,o,.own i::.d (.str x)::k⟩ Q:=fun F u v vs s zq0=>by
 obtain ⟨g,ρ,m,W⟩:=zq0;refine Zb (Zd W.stk) fun a ea e2=>?_;refine oze (Zd (Za W.stk)) fun t h1=>?_;subst h1 e2;refine Zx (W.own i _ a ho ea) fun kvs n0 hd hx=>?_;refine wpAny_in_of (strKind_is _ _ x t) (beq_eq_false_iff_ne.mpr n0) hd.dictOf.mapOf ?_;have W2:=(W.tok (s.toks+1)).stack (Zg (a:=.d (.bool (YH es x).isSome)) (v:=.bool (YH es x).isSome) rfl (Za (Za W.stk)));induction hv:YH es x with
 | none=>rw [hv] at W2 q;rw [Xg hx hv];exact ⟨_,⟨g,ρ,m,W2⟩,q⟩
 | some d =>
  rw [hv] at W2 q;refine Zb (Ux hx hv) fun y e j=>?_;rw [e];exact ⟨_,⟨g,ρ,m,W2⟩,q⟩
structure RoleX.Small (r:RoleX):Prop where
 p:∀ps,r.pats=some ps→ps.length≤1000
 t:∀ts,r.texts=some ts→ts.length≤1000
end
section
section
variable {c:Cx}{st:St}{l:List (Nat×A)}{o:List O}{k:List A}{Q:St→Prop}
theorem Zkv {e:Expr}(h:EJ c e st fun st1=>∃l o i k,st1=⟨l,o,.own i::k⟩∧∀a,Q ⟨l,o,.d (.val (.ref a))::k⟩):EJ c e st Q:=fun F vs s R =>
 wpm (h F vs s R) (fun v s1 zq0=>by
  obtain ⟨st1,⟨g,ρ,m,W⟩,l,o,i,k,e1,hq⟩:=zq0;subst e1;refine Zb (Zd W.stk) fun a ea e2=>?_;exact ⟨_,⟨g,ρ,m,W.stack (Zg (a:=.d (.val (.ref a))) e2 (Za W.stk))⟩,hq a⟩)
end
theorem Za0 {c:Cx}{scope:Scope}{x:Str}{n1 n2:Nat}{p1 p2 p3 p4:Pos}{a:Addr}(hx:scope.names.lookup x=some .local) (hk:scope.kind = .function) (hnd:(x==("__debug__":Str))=false) :
 Xx c scope x [.Compare (.Name x p1) [.IsNot] [.Constant .none n1 p2] p3] (.Constant (.int 1) n2 p4) (fun d=>!Xk d) (fun j y=>∃t,y = .int 1 t) (.val (.ref a)):=fun A' E' cenv s₂ m₂ g v gf hh hu hns hm hB hs hv=>by
 have hkf:cenv.scope.kind = .function:=by rw [gf.scope];exact hk
 have hl:cenv.kindOf x=some .local:=by show cenv.scope.names.lookup x=_;rw [gf.scope];exact hx
 have ev:v = .ref a:=hv;subst ev;refine ⟨?_,fun j=>?_⟩
 ·rw [List.forIn_cons];dsimp only [if_true,List.forIn_nil];refine Kd (Kd (wpAny_isTrue_Compare1 (wpAny_Name (wpAny_loadName_local hkf hl hns hm (wpAny_Constant_none (isNot_none (wpAny_truthy_bool (Ki (Ki ?_)))))) hnd)));exact ⟨rfl,_,_,rfl,fun j j e=>e⟩
 ·exact wpAny_Constant_int ⟨⟨_,rfl⟩,_,_,rfl,fun j j e=>e⟩
theorem Zha {c:Cx}{l:List (Nat×A)}{o:List O}{k:List A}{Q:St→Prop}{n:Nat}{f:Value}{need:Nat}{args:List A}{R:A→List O→Prop}(H:OSpecC c.G f need o args R) (hk:∀h,c.G.lib.B h→ZF c f h) (hn:need≤c.fuel) (hl:args.length=n)
 (q:∀a os',R a os'→o.length≤os'.length∧Q ⟨l,os',a::k⟩):CJ c n ⟨l,o,args.reverse++.d (.val f)::k⟩ Q:=by
 have:=ZaC (c:=c) (l:=l) (o:=o) (k:=k) (Q:=Q) (n:=n) (List.range o.length) (os:=o) (args:=args) (OSpecC.toO H) hk hn hl List.nodup_range (by simp) (fun j i h=>by
  rw [US,Zau];have hj:j<o.length:=by have:=(ZI h).1;simpa using this
  rw [List.getElem?_range hj] at h;obtain rfl:=Kc h;exact ⟨o[j],Ke hj,Ke hj⟩) (fun a os' hR=>by
  refine oza (q a os' hR) fun h1 h2=>?_;rw [ZdQ rfl h1,US,WG];exact h2)
 rw [US,WG,List.map_id] at this;exact this
end
section
section
variable {c:Cx}{st:St}{Q:Fl→St→Prop}
theorem Zcg (env:Env) (a b:List Stmt):execs (a++b) env=execs a env >>= fun f=>match f with | .next=>execs b env | f=>pure f:=by
 induction a with
 | nil=>rfl
 | cons t a ih =>
  rw [List.cons_append,execs_cons,execs_cons,ih,bind_assoc];refine congrArg _ (funext fun f=>?_);induction f <;> rfl
theorem Znt (n:Nat) {ts:List Stmt}(h:XJ c (ts.take n) st fun f st1=>∃st2,Cv st.own.length st1 st2∧match f with | .next=>XJ c (ts.drop n) st2 Q | f=>Q f st2):XJ c ts st Q:=by
 intro F vs s R;have e:ts=ts.take n++ts.drop n:=(List.take_append_drop n ts).symm;rw [e,Zcg];refine Kd (wpm (Zpn (Q:=fun f st2=>match f with | .next=>XJ c (ts.drop n) st2 Q | f=>Q f st2) h F vs s R) (fun f s1 h1=>?_));induction f with
 | next=>obtain ⟨st1,R1,h1⟩:=h1;exact h1 F vs s1 R1
 | brk=>exact Ki h1
 | cont=>exact Ki h1
 | ret v=>exact Ki h1
end
noncomputable def ZjT (own:List O) (n:Nat):List O→List O→Prop
 | [],[]=>True
 | x::xs,y::ys=>OFr own n x y∧ZjT own n xs ys
 | _,_=>False
theorem Zfx {own:List O}{n:Nat}{xs ys:List O}(h:ZjT own n xs ys):R2 (OFr own n) xs ys:=by
 induction xs generalizing ys with
 | nil=>induction ys using LLc with
  | nil=>exact .nil
  | cons _ _=>exact h.elim
 | cons x xs ih=>induction ys using LLc with
  | nil=>exact h.elim
  | cons y ys=>exact .cons h.1 (ih h.2)
theorem Zd0 {own:List O}{n:Nat}{xs ys:List O}(h:ZjT own n xs ys):xs.length=ys.length∧∀(i:Nat) y,ys[i]?=some y→∃x,xs[i]?=some x∧OFr own n x y:=⟨(Zfx h).len.symm,fun j j e=>(Zfx h).getR e⟩
theorem ZpM {pre tail o':List O}{l l':List (Nat×A)}{n:Nat}(hn:pre.length=n) (ho:ZjT (pre++tail) n pre o') (hl:∀q∈l',∃a,ZD q.1 l=some a∧AFr (pre++tail) n a q.2):Cv n ⟨l,pre++tail,[]⟩ ⟨l',o',[]⟩ where
 len:=by rw [←(Zd0 ho).1,hn]
 le:=by simp [←hn]
 own:=fun i y hy=>by
  refine Zb ((Zd0 ho).2 i y hy) fun x h1 h2=>?_;exact ⟨x,by rw [Kl (ZI h1).1];exact h1,h2⟩
 loc:=fun x a h=>hl _ (Y8 h)
 stk:=trivial
end
section
noncomputable abbrev celL:List (Str×Nat):=[(("script":Str),0),(("k":Str),1),(("patterns":Str),2),(("roles":Str),3),(("texts":Str),4),(("path":Str),5)]
noncomputable def ZM (xs:List Int):D:=.list (xs.map .int)
section
variable {G:Gx}{w:World}{c:Cx}{QF:Fl→St→Prop}
noncomputable abbrev PatX:=Option (List (List (List Str)))
noncomputable def XG:PatX→D
 | none=>.none
 | some ps=>.list (ps.map UT)
def WD (p:PatX):Prop:=∀ps,p=some ps→(∀pt∈ps,PatOk pt∧pt≠[])∧1≤ps.length∧ps.length≤2
noncomputable def kcO (kc:Option Int):O:=.cell (kc.map fun i=>.d (.int i))
theorem Zou {ns:List Int}{i:Int}{n:Nat}(hi:i=(n:Int)) (hn:n<ns.length):(ns.map D.int)[i.toNat]?=some (.int (ns.getD n 0)):=by
 subst hi;simp [List.getD,hn]
theorem ZlC (ys:List D) (h:∀y∈ys,∃pt,PatOk pt∧pt≠[]∧y=UT pt):∃ps:List (List (List Str)),ys=ps.map UT∧∀pt∈ps,PatOk pt∧pt≠[]:=by
 induction ys with
 | nil=>exact ⟨[],rfl,fun j h=>nomatch h⟩
 | cons y ys ih =>
  refine Zx (h y (.head _)) fun pt h1 h2 e1=>?_;refine Zb (ih fun z hz=>h z (.tail _ hz)) fun ps e2 h3=>?_;exact ⟨pt::ps,by rw [e1,e2];rfl,ZE ⟨h1,h2⟩ h3⟩
end
end
section
open PySem.W
theorem ZnD {prog:Program}{w:World}{A:Around}{E:Value→Shared→Prop}{s:Shared}{n:Int}{t u:Tok}{Q:Value→Shared→Prop}(h0:0≤n) (h1:n<10 ^ 10)
 (h:∀t' k,Q (.str (("A/b":Str)++Str.ofString (toString n)) t') {s with toks:=k}):wpAny (model prog w) A (binaryOp .Mod (.str (Str.ofString "A/b%d") t) (.int n u)) Q E s:=by
 refine' KPc.mod_int (T:=fun i=>("A/b":Str)++Str.ofString (toString i)) ?kpcF h0 h1 ?kpcm h
 case kpcF=>kpc_eq
 case kpcm=>k_dflt kpc_run
theorem Zpg {c:Cx}{l:List (Nat×A)}{o:List O}{k:List A}{Q:St→Prop}{n:Int}(h0:0≤n) (h1:n<10 ^ 10) (q:Q ⟨l,o,.d (.str (("A/b":Str)++Str.ofString (toString n)))::k⟩):OJ2 c (binaryOp .Mod) ⟨l,o,.d (.int n)::.d (.str (Str.ofString "A/b%d"))::k⟩ Q :=
 o2 (fun j j j j j j j j j j zq0_0 zq0_1 j h=>by obtain ⟨j,e1⟩:=zq0_0;obtain ⟨j,e2⟩:=zq0_1;subst e1 e2;exact ZnD h0 h1 fun t' k=>h _ _ X9) q
theorem Zqr:∀i<50,Y7 (("A/b":Str)++Str.ofString (toString (i:Nat)))=true∧(("A/b":Str)++Str.ofString (toString (i:Nat))).length≤200:=by decide +kernel
theorem ZoW {n:Int}(h0:0≤n) (h1:n<50):TxtOk 200 (("A/b":Str)++Str.ofString (toString n)):=by
 refine oze (Int.eq_ofNat_of_zero_le h0) fun i zo1=>?_;subst zo1
 have:=Zqr i (by lia);exact ⟨this.2,this.1⟩
theorem XA {t:Str}(h:TxtOk 200 t):PathOk t where
 len:=by have:=h.len;lia
 clean:=fun y hy=>by
  have h1:=ZbI h.asc y hy;have h2:y<128:=Kw h1;unfold Str.isSurrogate;simp;lia
 enc:=by
  have hl:=h.len;have key:∀(l:List Nat) (acc:Array UInt8),(∀y∈l,y<128)→(l.foldl (fun acc y=>acc++(Str.utf8Of y).toArray) acc).size=acc.size+l.length:=by
   intro l;induction l with
   | nil=>intro acc j;rfl
   | cons y l ih =>
    intro acc hy;have h1:Str.utf8Of y=[UInt8.ofNat y]:=by
     have:=hy y (.head _);unfold Str.utf8Of;rw [if_pos (by assumption)]
    rw [List.foldl_cons,ih _ fun z hz=>hy z (.tail _ hz),h1];simp;exact Nat.add_right_comm _ _ _
  have e:(Xz t).size=t.cps.toList.length:=by
   unfold Xz;rw [←Array.foldl_toList,key t.cps.toList #[] fun y hy=>Kw (List.all_eq_true.mp h.asc y hy)];simp
  rw [e,sizeLine_eq];have:t.cps.toList.length=t.length:=rfl;lia
end
section
theorem Zad (x y:Str):(Wv x none (some (y.length:Int))==y)=Txt.startswith x y:=by
 unfold Txt.startswith;rw [PySem.StrLaws.subAt_eq,Bool.eq_iff_iff,beq_iff_eq,Bool.and_eq_true,decide_eq_true_eq,beq_iff_eq,List.drop_zero];have e:Wv x none (some (y.length:Int))=⟨(x.cps.toList.take y.length).toArray⟩:=by
  unfold Wv;rw [ZbE]
 rw [e];have hx:x.cps.toList.length=x.length:=rfl;have hy:y.cps.toList.length=y.length:=rfl;constructor
 ·intro h;have h1:x.cps.toList.take y.length=y.cps.toList:=congrArg (fun z:Str=>z.cps.toList) h;refine ⟨?_,h1⟩;have h2:=congrArg List.length h1;rw [List.length_take] at h2;lia
 ·rintro ⟨j,h⟩;rw [h]
theorem UH {α:Type}(P:α→Bool) (g:α→D) (l:List α):(l.filterMap fun x=>if P x=true then some (g x) else none)=(l.filter P).map g:=by
 induction l with
 | nil=>rfl
 | cons x l ih =>
  induction h:P x with
  | false=>rw [List.filterMap_cons_none (f:=fun i=>if P i=true then some (g i) else none) (if_neg (Kv h)),List.filter_cons_of_neg (Kv h),ih]
  | true=>rw [List.filterMap_cons_some (f:=fun i=>if P i=true then some (g i) else none) (if_pos h),List.filter_cons_of_pos h,ih];rfl
noncomputable def trD (paths:List Str) (r:RoleX):D:=.tuple [.str r.nm,.bool r.tm,.list ((paths.filter fun p=>YC p r.pats r.texts).map .str)]
theorem Zd7 (b:Array UInt8):(ZbK b).length≤4:=by
 have:ZbK b=⟨#[(Zbq.cps[((YG b).fdiv 4096).toNat]?).getD 0,(Zbq.cps[(((YG b).fdiv 256).fmod 16).toNat]?).getD 0,(Zbq.cps[(((YG b).fdiv 16).fmod 16).toNat]?).getD 0,(Zbq.cps[((YG b).fmod 16).toNat]?).getD 0]⟩:=by
  rfl
 rw [this];exact Kq 4
end
section
section
variable {G:Gx}{w:World}{c:Cx}{QF:Fl→St→Prop}
noncomputable abbrev pqr:List (Nat×Str):=[(0,"p"),(1,"q"),(2,"r")]
end
end
section
theorem Zmh {os os2:List O}{n:Nat}{ι:Nat→Nat}(hn:∀i:Nat,n≤ι i) (h:∀(i:Nat) x,os[i]?=some x→os2[ι i]?=some (Xy ι x)) {a:A}{d:D}(f:Frz os 0 a d):Frz os2 n (Xr ι a) d :=
 Frz.rec (motive_1:=fun a d j=>Frz os2 n (Xr ι a) d) (motive_2:=fun a d j=>Frzs os2 n (a.map (Xr ι)) d) (motive_3:=fun a d j=>Frze os2 n (Zdd ι a) d)
  (fun x=>.d x) (fun j e j r=>.list (hn _) (h _ _ e) r) (fun j e j r=>.dict (hn _) (h _ _ e) r) (fun j e j e2 j r=>.inst (hn _) (h _ _ e) (hn _) (h _ _ e2) r) .nil (fun j j a r=>.cons a r) .nil (fun j j a r=>.cons a r) f
theorem Zjt {ι:Nat→Nat}:∀(q:List O) (p xs:List O),q.length≤xs.length→Zdk ι (List.range' p.length q.length) xs (p++q)=p++(xs.take q.length).map (Xy ι):=by
 intro q;induction q with
 | nil=>intro p xs j;rfl
 | cons y q ih =>
  intro p xs h;induction xs using LLc with
  | nil=>exact absurd h (Nat.not_succ_le_zero _)
  | cons x xs =>
   rw [List.length_cons,List.range'_succ];show Zdk ι _ xs ((p++y::q).set p.length (Xy ι x))=_;rw [List.set_append_right _ _ (Kq _),Nat.sub_self];simpa using ih (p++[Xy ι x]) xs (Nat.le_of_succ_le_succ h)
theorem Zaz {o q:List O}:iot (List.range' o.length q.length) (o++q).length=(o.length+·):=by
 funext j;unfold iot;by_cases hj:j<q.length
 ·have:(List.range' o.length q.length)[j]?=some (o.length+j):=by simp [hj]
  rw [this]
 ·have:(List.range' o.length q.length)[j]?=none:=by simp;exact Nat.not_lt.mp (by assumption)
  rw [this];simp;lia
theorem ZjN {o q os:List O}(h:q.length≤os.length):Wq (List.range' o.length q.length) (o++q) os=o++os.map (Xy (o.length+·)):=by
 unfold Wq;rw [Zaz,Zjt q o os h,List.length_range',List.append_assoc,←List.map_append,List.take_append_drop]
section
variable {G:Gx}{w:World}{c:Cx}{QF:Fl→St→Prop}
noncomputable def Zg7:KeyX:=⟨"a","t","s",[("public",.str "pa")]⟩
end
end
section
section
variable {G:Gx}{w:World}{c:Cx}{QF:Fl→St→Prop}
noncomputable abbrev ZaO (rs:List RoleX):D:=WJ (Zed [Zg7]) (Yo ["a"] rs)
end
end
section
open PySem.SeqAt
open PySem.MeetsSeq3 (plain_eq_loop entry_eq_loop)
def EqT (G:Gx) (need:Nat) (a b:D):Prop :=
 ∀(A:Around) (F:Fz) (u v:Value) (s:Shared) (g:Heap),A.handled=none→A.depth+need<recursionLimit→A.units+8*need+40≤cLine→HS G F s g→VR G.p G.w g a u→VR G.p G.w g b v →
  wpAny (model G.p G.w) A (eqBool u v) (fun z s'=>z=true∧∃g',HS G F s' g'∧Sub g g') NoE s
def RcT (G:Gx) (need:Nat) (a b:D):Prop :=
 ∀(A:Around) (F:Fz) (u v:Value) (s:Shared) (g:Heap),A.handled=none→A.depth+need<recursionLimit→A.units+8*need+40≤cLine→HS G F s g→VR G.p G.w g a u→VR G.p G.w g b v →
  wpAny (model G.p G.w) A (richCompare .Eq u v) (fun z s'=>z = .bool true∧∃g',HS G F s' g'∧Sub g g') NoE s
noncomputable def Ze4 (G:Gx) (need:Nat):List D→List D→Prop
 | [],[]=>True
 | x::xs,y::ys=>EqT G need x y∧Ze4 G need xs ys
 | _,_=>False
noncomputable def ZeZ (G:Gx) (need:Nat):List (Str×D)→List (Str×D)→Prop
 | [],[]=>True
 | x::xs,y::ys=>x.1=y.1∧EqT G need x.2 y.2∧ZeZ G need xs ys
 | _,_=>False
section
variable {G:Gx}{need:Nat}
theorem EqT.fit {n:Nat}{a b:D}(hf:Fit n a b) (hd:deq a b=true) (hn:n≤need):EqT G need a b:=fun A F u v s g h1 h2 h3 H h4 h5 =>
 ZeQ (p:=G.p) (w:=G.w) n hf (VR.sub _ _ H.keep _ _ h4) (VR.sub _ _ H.keep _ _ h5) (by lia) G.p G.w _ _ ⟨hd,g,H,Sub.refl _⟩
theorem ZkE {M:Model}{A:Around}{a b:Addr}{P:Shared→Prop}{s:Shared}(hs:P s) (h:wpAny M A (richCompare .Eq (.ref a) (.ref b)) (fun z s'=>z = .bool true∧P s') NoE s):wpAny M A (eqBool (.ref a) (.ref b)) (fun z s'=>z=true∧P s') NoE s:=by
 refine wpAny_holding ?_;refine wpAny_ite_split (fun j=>Kd (wpAny_rule (Ki ⟨rfl,hs⟩))) (fun j=>?_);exact Kd (wpm h (fun z s' zq0=>by obtain ⟨e,hp⟩:=zq0;subst e;exact wpAny_truthy_bool ⟨rfl,hp⟩))
theorem EqT.of_dict {xs ys:List (Str×D)}(h:RcT G need (.dict xs) (.dict ys)):EqT G need (.dict xs) (.dict ys):=fun A F u v s g h1 h2 h3 H h4 h5=>by
 refine Zc (id h4) fun a us zo1 q1 q2=>?_;subst zo1;refine Zc (id h5) fun b ws zo2 q3 q4=>?_;subst zo2;exact ZkE ⟨g,H,Sub.refl _⟩ (h A F _ _ s g h1 h2 h3 H h4 h5)
theorem Zfp {xs ys:List D}(h:Ze4 G need xs ys):R2 (EqT G need) xs ys:=by
 induction xs generalizing ys with
 | nil=>induction ys using LLc with
  | nil=>exact .nil
  | cons _ _=>exact h.elim
 | cons x xs ih=>induction ys using LLc with
  | nil=>exact h.elim
  | cons y ys=>exact .cons h.1 (ih h.2)
theorem ZaG {xs ys:List D}(h:Ze4 G need xs ys):xs.length=ys.length:=(Zfp h).len.symm
theorem Zi3 {xs ys:List D}{i:Nat}{x y:D}(h:Ze4 G need xs ys) (e1:xs[i]?=some x) (e2:ys[i]?=some y):EqT G need x y:=by
 refine Zb ((Zfp h).get e1) fun z h1 h2=>?_;exact Kc (h1.symm.trans e2)▸h2
theorem ZkQ {xs ys:List (Str×D)}(h:ZeZ G need xs ys):R2 (fun x y=>x.1=y.1∧EqT G need x.2 y.2) xs ys:=by
 induction xs generalizing ys with
 | nil=>induction ys using LLc with
  | nil=>exact .nil
  | cons _ _=>exact h.elim
 | cons x xs ih=>induction ys using LLc with
  | nil=>exact h.elim
  | cons y ys=>exact .cons ⟨h.1,h.2.1⟩ (ih h.2.2)
theorem Zir {xs ys:List (Str×D)}{i:Nat}{x y:Str×D}(h:ZeZ G need xs ys) (e1:xs[i]?=some x) (e2:ys[i]?=some y):x.1=y.1∧EqT G need x.2 y.2:=by
 refine Zb ((ZkQ h).get e1) fun z h1 h2=>?_;exact Kc (h1.symm.trans e2)▸h2
noncomputable def Zji (G:Gx) (need:Nat) (l b:Addr) (xs ys:List D) (us ws:List Value):Around→(Result→Shared→Prop)→Shared→Prop:=fun A R s =>
 A.handled=none∧A.depth+need<recursionLimit∧A.units+8*(need+1)+40≤cLine∧∃F g,HS G F s g∧IsFl g l us∧IsFl g b ws∧VRs G.p G.w g xs us∧VRs G.p G.w g ys ws∧∀s' g',HS G F s' g'→Sub g g'→R (.ok (.ret (.bool true))) s'
theorem ZoJ {l b:Addr}{xs ys:List D}{us ws:List Value}(hx:Ze4 G need xs ys) (k:Nat) :
 ∀i:Nat,us.length - i=k→MeetsIn G.p G.w (Builtin.«list.__eq__.loop» ⟨[.ref l,.ref b,rawInt i,rawInt 2],[]⟩) (Zji G need l b xs ys us ws):=by
 induction k with
 | zero =>
  intro i hk A R s h;refine Ka fun zn3=>?_;obtain ⟨a1,a2,a3,F,g,H,l1,l2,r1,r2,h⟩:=h;have n1:=Zu r1;have n2:=Zu r2;have n3:=ZaG hx;refine Y4 (IsFl.sub H.keep l1) fun zo2 ho hc n hd=>?_;obtain ⟨cls,dd,data,sl⟩:=zo2;refine Y4 (IsFl.sub H.keep l2) fun zo3 ho2 hc2 m hd2=>?_;obtain ⟨cls2,dd2,data2,sl2⟩:=zo3;refine zn3 ?_;simp only at hc hd hc2 hd2;subst hc hd hc2 hd2;have h0:=h s g H (Sub.refl _);obtain ⟨hp,gs,dp,tk,os⟩:=s
  wp_walk using AutoSeq1.wpAny_loadPart' ho,AutoSeq1.wpAny_loadPart' ho2
  have hi1:us.toArray[((i:Nat):Int).toNat]?=none:=by simp;lia
  have hi2:ws.toArray[((i:Nat):Int).toNat]?=none:=by simp;lia
  rw [hi1,hi2]
  wp_walk using AutoSeq1.wpAny_loadPart' ho,AutoSeq1.wpAny_loadPart' ho2
  show R (.ok (.ret (.bool (us.toArray.size==ws.toArray.size)))) _;rw [show (us.toArray.size==ws.toArray.size)=true by simp;lia];exact h0
 | succ k ih =>
  intro i hk A R s h;refine Ka fun zn5=>?_;obtain ⟨a1,a2,a3,F,g,H,l1,l2,r1,r2,h⟩:=h;have n1:=Zu r1;have n2:=Zu r2;have n3:=ZaG hx;refine Y4 (IsFl.sub H.keep l1) fun zo4 ho hc n hd=>?_;obtain ⟨cls,dd,data,sl⟩:=zo4;refine Y4 (IsFl.sub H.keep l2) fun zo5 ho2 hc2 m hd2=>?_;obtain ⟨cls2,dd2,data2,sl2⟩:=zo5;refine zn5 ?_;simp only at hc hd hc2 hd2;subst hc hd hc2 hd2;have hlt:i<us.length:=by lia
  have hlt2:i<ws.length:=by lia
  refine Ka fun zn6=>?_;obtain ⟨x,e1,v1⟩:=YO r1 (Ke hlt);obtain ⟨y,e2,v2⟩:=YO r2 (Ke hlt2);have key:=Zi3 hx e1 e2 A.in1 F _ _ s g a1 a2 (by show A.units+1+8*need+40≤cLine;lia) H v1 v2;have hc:((i:Int)+1)=((i+1:Nat):Int):=by push_cast;rfl
  have hi1:us.toArray[((i:Nat):Int).toNat]?=some us[i]:=by simp [hlt]
  have hi2:ws.toArray[((i:Nat):Int).toNat]?=some ws[i]:=by simp [hlt2]
  obtain ⟨hp,gs,dp,tk,os⟩:=s;refine zn6 ?_
  wp_walk using AutoSeq1.wpAny_loadPart' ho,AutoSeq1.wpAny_loadPart' ho2
  rw [hi1,hi2];refine Kd (Kb key (fun z s1 zq1=>?_) fun j j x=>x.elim);refine Ka fun zn7=>?_;refine YM zq1 fun hz g1 H1 hs1=>?_;refine zn7 ?_;subst hz
  wp_walk
  rw [hc];exact ⟨plainId_quiet plain_eq_loop _,codeAny_builtin entry_eq_loop (by
   rw [Around.under_plainId plain_eq_loop _];exact ih (i+1) (by lia) A R s1 ⟨a1,a2,a3,F,g1,H1,l1.sub hs1,l2.sub hs1,VRs.sub _ _ hs1 _ _ r1,VRs.sub _ _ hs1 _ _ r2,fun s' g' H' hs'=>h s' g' H' (hs1.trans hs')⟩)⟩
theorem RcT.list {xs ys:List D}(hx:Ze4 G need xs ys):RcT G (need+1) (.list xs) (.list ys):=fun A F u v s g h1 h2 h3 H h4 h5=>by
 refine Zc h4 fun a us zo1 l1 r1=>?_;subst zo1;refine Zc h5 fun b ws zo2 l2 r2=>?_;subst zo2;have n1:=Zu r1;have n2:=Zu r2;have n3:=ZaG hx;refine Y4 (IsFl.sub H.keep l1) fun zo4 ho hc n hd=>?_;obtain ⟨cls,dd,data,sl⟩:=zo4;refine Y4 (IsFl.sub H.keep l2) fun zo5 ho2 hc2 m hd2=>?_;obtain ⟨cls2,dd2,data2,sl2⟩:=zo5;simp only at hc hd hc2 hd2;subst hc hd hc2 hd2;refine wpAny_richCompare_same_room (T:="list") (id:="list.__eq__") ⟨_,ho,rfl⟩ ⟨_,ho2,rfl⟩ PySem.F.slot_list_eq (call_meetsIn (S:=fun A' R s'=>A'=A∧s'=s∧∀s' g',HS G F s' g'→Sub g g'→R (.ok (.ret (.bool true))) s') PySem.F.slot_list_eq ⟨_,ho,rfl⟩ PySem.F.entry_list_eq (PySem.F.args_list_eq_2 _ _) ?_ ⟨rfl,rfl,fun s' g' H' hs'=>⟨(fun x=>nomatch x),rfl,g',H',hs'⟩⟩) (by lia);rintro A' R s' ⟨rfl,rfl,h⟩;obtain ⟨hp,gs,dp,tk,os⟩:=s';have f3:=AutoSeq1.sub_list_list;have hne:¬(us.toArray.size != ws.toArray.size)=true:=by simp;lia
 wp_walk using AutoSeq1.wpAny_loadPart' ho,AutoSeq1.wpAny_loadPart' ho2
 exact ⟨plainId_quiet plain_eq_loop _,codeAny_builtin entry_eq_loop (by
  rw [Around.under_plainId plain_eq_loop _];exact ZoJ hx _ 0 rfl A' R _ ⟨h1,by lia,by lia,F,g,H,l1,l2,r1,r2,h⟩)⟩
theorem Zel {p:Program}{w:World}{g:Heap}{es:List (Str×D)}{kvs:List (Str×Value)}{i:Nat}(h:VRe p w g es kvs) (hi:i<kvs.length):∃d,es[i]?=some (kvs[i].1,d)∧VR p w g d kvs[i].2:=Zc8 h (Ke hi)
theorem ZdS {p:Program}{w:World}{g:Heap}{es:List (Str×D)}{kvs:List (Str×Value)}(h:VRe p w g es kvs):kvs.map (·.1)=es.map (·.1):=(Zfa.mp h).maps fun j j h=>h.1
theorem Zg5 {xs ys:List (Str×D)}(h:ZeZ G need xs ys):xs.map (·.1)=ys.map (·.1):=by
 induction xs generalizing ys with
 | nil=>induction ys using LLc with
  | nil=>rfl
  | cons _ _=>exact h.elim
 | cons x xs ih=>induction ys using LLc with
  | nil=>exact h.elim
  | cons y ys=>rw [List.map_cons,List.map_cons,h.1,ih h.2.2]
theorem ZlN {kvs:List (Str×Value)}{i:Nat}(hn:(kvs.map (·.1)).Nodup) (hi:i<kvs.length):(kvs.findIdx? fun kv=>decide (kv.1=kvs[i].1))=some i:=by
 rw [List.findIdx?_eq_some_iff_getElem];refine ⟨hi,by simp,fun j hj=>?_⟩;have hj':j<kvs.length:=by lia
 simp only [decide_eq_true_eq];intro e;have:j=i:=Y0 hn (by simpa using hj') (by simpa using hi) (by simpa using e);lia
open Builtin.Dict in
theorem Zbf {A:Around}{F:Fz}{E:Value→Shared→Prop}{s:Shared}{g:Heap}{a b:Addr}{xs ys:List (Str×D)}{kvs lvs:List (Str×Value)}{id:String}{Q:Bool→Shared→Prop}(hx:ZeZ G need xs ys) (h1:A.handled=none) (h2:A.depth+need<recursionLimit) (h3:A.units+8*need+40≤cLine) (H:HS G F s g)
 (na:a≠sysModules) (nb:b≠sysModules) (da:g.DictOf (strKind G.p G.w) a kvs) (db:g.DictOf (strKind G.p G.w) b lvs) (ra:VRe G.p G.w g xs kvs) (rb:VRe G.p G.w g ys lvs) (h:∀s' g',HS G F s' g'→Sub g g'→Q true s'):wpAny (model G.p G.w) A (samePairs id a b) Q E s:=by
 refine Ka fun zn10=>?_;obtain ⟨oa,ea,pa,ga,ca,ta,ka,qa,nda⟩:=da;obtain ⟨ob,eb,pb,gb,cb,tb,kb,qb,ndb⟩:=db;refine zn10 ?_;have lk:kvs.map (·.1)=lvs.map (·.1):=by rw [ZdS ra,ZdS rb,Zg5 hx]
 have lb:=qb.length;have ll:kvs.length=lvs.length:=by simpa using congrArg List.length lk
 have sa:ea.size=kvs.length:=by rw [←qa.length];rfl
 have sb:eb.size=lvs.length:=by rw [←lb];rfl
 unfold samePairs;unfold showsAll;rw [if_neg (by simpa using na)];refine Kd (Ki ?_);rw [if_neg (by simpa using nb)];refine Kd (Ki ?_);refine Kd (wpAny_dictEntries (H.keep _ _ ga) ta ?_);refine Kd (wpAny_dictEntries (H.keep _ _ gb) tb ?_);rw [if_neg (by simp;lia)];refine Kd (wpAny_dictEpoch (H.keep _ _ ga) ta ?_);refine Kd ?_;rw [Std.Legacy.Range.forIn_eq_forIn_range'];refine wpAny_forIn_list _ (fun rest r s'=>r.1=none∧∃i g',rest=List.range' i (ea.size - i)∧i≤ea.size∧HS G F s' g'∧Sub g g') _ ?_ ?_ _ _ ⟨rfl,0,g,by simp,Nat.zero_le _,H,Sub.refl _⟩
 ·rintro x rest r s' ⟨hr0,i,g',hr,hi,H',hs'⟩;have hlt:i<ea.size:=by
   refine Or.elim (Nat.lt_or_ge i ea.size) (fun h=>?_) fun h=>?_
   ·exact h
   ·rw [Nat.sub_eq_zero_of_le h] at hr;simp at hr
  refine Ka fun zn11=>?_;obtain ⟨rfl,hrest⟩:x=i∧rest=List.range' (i+1) (ea.size - (i+1)):=by
   have e:ea.size - i=(ea.size - (i+1))+1:=by lia
   rw [e,List.range'_succ] at hr
   injection hr with h1 h2
   exact ⟨h1,h2⟩
  have hk:x<kvs.length:=by lia
  have hl:x<lvs.length:=by lia
  have hlb:x<eb.size:=by lia
  refine Zb (Zel ra hk) fun d e1 v1=>?_;refine Zb (Zel rb hl) fun e e2 v2=>?_;refine oza (Zir hx e1 e2) fun ek eq=>?_;refine oza (qa.get? (i:=x) (e:=ea[x]) (k:=kvs[x].1) (v:=kvs[x].2) (by simp [hlt]) (by simp [hk])) fun y1 y2=>?_;refine oza (qb.get? (i:=x) (e:=eb[x]) (k:=lvs[x].1) (v:=lvs[x].2) (by simp [hlb]) (by simp [hl])) fun y3 y4=>?_;refine Zb (ka ea[x] (Array.getElem_mem hlt)) fun k0 y5 y6=>?_;obtain rfl:k0=kvs[x].1:=(strKind G.p G.w).inj _ _ _ y5 y1;refine zn11 ?_;refine Kd (wpAny_dictEntries (H'.keep _ _ (hs' _ _ ga)) ta ?_);rw [Array.getElem?_eq_getElem hlt];refine Kd (wpAny_holding ?_);rw [y6];refine Kd (wpAny_dictFind_of y1 (H'.keep _ _ (hs' _ _ gb)) tb kb ?_);have hfi:(eb.findIdx? fun e=>(strKind G.p G.w).is kvs[x].1 e.key)=some x:=by
   have:=qb.findIdx kvs[x].1;rw [ek,ZlN ndb hl] at this;rw [←this,ek,←List.findIdx?_toArray]
  rw [hfi];refine Kd (wpAny_dictEntries (H'.keep _ _ (hs' _ _ gb)) tb ?_);rw [Array.getElem?_eq_getElem hlb];refine wpAny_holding ?_;rw [y2,y4];refine Kb (eq A F _ _ s' g' h1 h2 h3 H' (VR.sub _ _ hs' _ _ v1) (VR.sub _ _ hs' _ _ v2)) (fun z s2 zq2=>?_) fun j j x=>x.elim;refine YM zq2 fun hz g2 H2 hs2=>?_;subst hz;refine Kd (wpAny_dictEpoch (H2.keep _ _ (hs2 _ _ (hs' _ _ ga))) ta ?_);rw [if_neg (by simp)];exact Ki ⟨rfl,x+1,g2,hrest,hlt,H2,hs'.trans hs2⟩
 ·rintro r s' ⟨hr0,i,g',hr,hi,H',hs'⟩;obtain ⟨r1,r2⟩:=r;subst hr0;exact Ki (h s' g' H' hs')
theorem RcT.dict {xs ys:List (Str×D)}(hx:ZeZ G need xs ys):RcT G (need+1) (.dict xs) (.dict ys):=fun A F u v s g h1 h2 h3 H h4 h5=>by
 refine Yk h4 fun a us zo1 na l1 r1=>?_;subst zo1;refine Yk h5 fun b ws zo2 nb l2 r2=>?_;subst zo2;have k1:=ZA _ _ H.keep l1;have k2:=ZA _ _ H.keep l2;refine wpAny_richCompare_same_room (T:="dict") (id:="dict.__eq__") k1.typeIs k2.typeIs PySem.F.slot_dict_eq (call_meetsIn (S:=fun A' R s'=>A'=A∧s'=s∧∀s' g',HS G F s' g'→Sub g g'→R (.ok (.ret (.bool true))) s') PySem.F.slot_dict_eq k1.typeIs PySem.F.entry_dict_eq (PySem.F.args_dict_eq_2 _ _) ?_ ⟨rfl,rfl,fun s' g' H' hs'=>⟨(fun x=>nomatch x),rfl,g',H',hs'⟩⟩) (by lia);rintro A' R s' ⟨rfl,rfl,h⟩;refine Kd ?_;refine Kd (wpAny_notOrdered_dict k1.typeIs ?_);refine Ki ?_;refine Kd (wpAny_isInstance k2.typeIs isSubtype_dict_dict ?_);show wpAny _ _ (Builtin.Dict.samePairs _ a b >>= _) _ _ _;exact Kd (Zbf hx h1 (by show A'.depth+need<_;lia) (by show A'.units+1+8*need+40≤_;lia) H na nb l1 l2 r1 r2 fun s2 g2 H2 hs2=>Ki (h s2 g2 H2 hs2))
end
end
section
section
variable {c:Cx}{l:List (Nat×A)}{o:List O}{k:List A}{Q:St→Prop}
theorem ZqC {x y:D}{need:Nat}(h:RcT c.G need x y) (hn:need≤c.fuel) (q:Q ⟨l,o,.d (.bool true)::k⟩):OJ2 c (compareOp .Eq) ⟨l,o,.d y::.d x::k⟩ Q:=fun F a b vs s zq0=>by
 refine ozr zq0 fun g ρ m W=>?_;have hd:=c.hd;have hun:=c.hu;refine wpm (h c.A _ a b s g c.hh (by (first | lia | omega)) (by (first | lia | omega)) W.toCall (Zd (Za W.stk)) (Zd W.stk)) (fun z s' zq1=>?_);refine YM zq1 fun hz g' H' hs=>?_;subst hz;exact ⟨_,⟨g',ρ,m,(W.back H').stack (Zg (a:=.d (.bool true)) rfl (ARs.sub _ _ hs (Ext.refl _) _ _ (Za (Za W.stk))))⟩,q⟩
theorem Zjl {b:Bool}(q:Q ⟨l,o,.d (.bool true)::k⟩):CJ c 2 ⟨l,o,.d (.val (.type "bool"))::.d (.bool b)::.d (.val (.builtin "isinstance"))::k⟩ Q:=fun F f us vs s hl zq2=>by
 refine ozr zq2 fun g ρ m W=>?_;refine oza (Zy (xs:=[.d (.bool b),.d (.val (.type "bool"))]) W.stk (by rw [hl];rfl)) fun q1 q2=>?_;have ef:f=_:=Zd q2;subst ef;obtain ⟨u1,r1,rfl,e1,v1,r2,rfl,e2,r3⟩:=q1;subst e1;subst e2;subst r3;exact ⟨Zj,IsiPair.bool_bool ⟨_,⟨g,ρ,m,W.stack (Zg (a:=.d (.bool true)) rfl (Za q2))⟩,q⟩⟩
end
theorem U0 {ids:List Str}{rs:List RoleX}{r:RoleX}(hn:(rs.map RoleX.nm).Nodup) (hr:r∈rs):Yb r.nm (Yo ids rs)=some (r.d ids):=by
 induction rs with
 | nil=>exact nomatch hr
 | cons x rs ih =>
  have hn:=List.nodup_cons.mp hn;show Yb r.nm ((x.nm,x.d ids)::Yo ids rs)=_;unfold Yb;refine Or.elim (ZQ hr) (fun e=>?_) fun hr=>?_
  ·rw [if_pos (e▸rfl),e]
  ·rw [if_neg fun e:x.nm=r.nm=>hn.1 (e▸List.mem_map_of_mem hr)];exact ih hn.2 hr
theorem Zjq {P:Str→Bool}{paths:List Str}{p:Str}(h:p∈paths):((paths.filter P).any (· == p))=P p:=by
 rw [Bool.eq_iff_iff,List.any_eq_true];constructor
 ·rintro ⟨x,hx,e⟩
  have:=eq_of_beq e;subst this;exact (Zi4 hx).2
 ·intro hp;exact ⟨p,List.mem_filter.mpr ⟨h,hp⟩,by simp⟩
theorem Zb0 {G:Gx}{need:Nat}:∀{es:List (Str×D)},(∀e∈es,EqT G need e.2 e.2)→ZeZ G need es es
 | [],_=>trivial
 | x::xs,h=>⟨rfl,h x (.head _),Zb0 fun e he=>h e (.tail _ he)⟩
theorem ZbN {G:Gx}{need:Nat}:∀{es:List D},(∀e∈es,EqT G need e e)→Ze4 G need es es
 | [],_=>trivial
 | x::xs,h=>⟨h x (.head _),ZbN fun e he=>h e (.tail _ he)⟩
theorem ZbD {G:Gx}{need:Nat}{xs:List Str}(hn:2≤need):EqT G need (.list (xs.map .str)) (.list (xs.map .str)) :=
 EqT.fit (n:=2) (Zg1) (by show deqs _ _=true;rw [ZgD];simp) hn
theorem Zll {G:Gx}{nm:Str}{tm:Bool}{ids:List Str}{p h:Option (List Str)}:EqT G 3 (.dict (Zbg nm tm ids p h)) (.dict (Zbg nm tm ids p h)):=by
 refine EqT.of_dict (RcT.dict (Zb0 fun e he=>?_));refine Or.elim (Z8 he) (fun he=>?_) fun he=>?_
 ·simp only [List.mem_cons,List.not_mem_nil,or_false] at he;rcases he with rfl | rfl | rfl | rfl
  ·exact EqT.fit (n:=0) trivial (by show (nm==nm)=true;simp) (by decide)
  ·exact EqT.fit (n:=0) trivial (by show (tm==tm)=true;simp) (by decide)
  ·exact ZbD (by decide)
  ·exact EqT.fit (n:=0) trivial rfl (by decide)
 ·unfold Zmy at he;induction p with
  | some p=>simp only [List.mem_cons,List.not_mem_nil,or_false] at he;subst he;exact ZbD (by decide)
  | none=>induction h with
   | some h=>simp only [List.mem_cons,List.not_mem_nil,or_false] at he;subst he;exact ZbD (by decide)
   | none=>cases he
theorem ZeI {path:Str}:∀rs:List RoleX,Fits 20 (Yv path rs) (Yv path rs)∧deqs (Yv path rs) (Yv path rs)=true:=by
 intro rs;unfold Yv;generalize rs.filter _=qs;induction qs with
 | nil=>exact ⟨trivial,rfl⟩
 | cons r qs ih=>exact ⟨⟨⟨trivial,trivial,trivial⟩,ih.1⟩,Bool.and_eq_true_iff.mpr ⟨Bool.and_eq_true_iff.mpr ⟨beq_self_eq_true r.nm,Bool.and_eq_true_iff.mpr ⟨beq_self_eq_true r.tm,rfl⟩⟩,ih.2⟩⟩
theorem ZhK {path:Str}(rs:List RoleX):(Yv path rs).length≤rs.length:=by
 unfold Yv;rw [List.length_map];exact List.length_filter_le _ _
end
section
section
variable {G:Gx}{F:Fz}{s:Shared}{g h₁:Heap}{os own':List O}{σ:List Addr}{c:Cx}
theorem HS.newer (H:HS G F s g) {b:Addr}(hb:s.heap.objs.size≤b):g.get? b=none∧(∀r∈G.reg,b≠r.at_)∧∀q∈F.hid,b≠q.1 :=
 ⟨by
  induction e:g.get? b with
  | none=>rfl
  | some o=>exact absurd (Kk (H.keep _ _ e)) (Zaq hb),H.fresh hb⟩
theorem OW.lt (H:OW G F os s g σ) {b:Addr}(hb:b∈σ):b<s.heap.objs.size:=by
 refine oze (Zin hb) fun j e=>?_;have hj:j<os.length:=H.len▸(ZI e).1;exact (OAt.there _ _ _ (H.own j _ b (Ke hj) e)).elim fun u e2=>Kk e2
theorem ZdC (H:OW G F os s g σ) (cG:c.G=G) (cL:c.env.locals=s.heap.objs.size) {cn:List Str}(cC:c.cel=cn.zipIdx os.length) (sub:Sub s.heap h₁) {m:Str→Option Value}(hns:h₁.Ns s.heap.objs.size m) {tk:Nat}{loc':List (Nat×A)}
 (hloc:∀(i:Nat) a,ZD i loc'=some a→∃x v,c.tab[i]?=some x∧m x=some v∧AR G.p G.w g σ a v) (hlen:own'.length=cn.length)
 (hown:∀(i:Nat) o,own'[i]?=some o→OAt G.p G.w g σ h₁ o (s.heap.objs.size+1+i))
 (hcl:∀(j:Nat) y,cn[j]?=some y→c.env.cells.lookup y=some (s.heap.objs.size+1+j)):RS c {F with g₀:=g} ⟨loc',os++own',[]⟩ [] {s with heap:=h₁,toks:=tk}:=by
 subst cG;have ex0:Ext σ (σ++List.range' (s.heap.objs.size+1) cn.length):=fun i a e=>(Kl (ZI e).1).trans e;have hr:∀b∈σ++List.range' (s.heap.objs.size+1) cn.length,b<s.heap.objs.size∧b∈σ∨s.heap.objs.size<b:=fun b hb=>(Z8 hb).imp (fun hb=>⟨H.lt hb,hb⟩) fun hb=>(List.mem_range'_1.mp hb).1;have W1:=H.at_g.grow (s':={s with heap:=h₁,toks:=tk}) sub H.gens H.bare rfl;have hl2:(σ++List.range' (s.heap.objs.size+1) cn.length).length=(os++own').length:=by rw [List.length_append,List.length_append,H.len,hlen,List.length_range']
 have hat:∀i:Nat,(σ++List.range' (s.heap.objs.size+1) cn.length)[os.length+i]?=(List.range' (s.heap.objs.size+1) cn.length)[i]?:=fun i=>by rw [Km (H.len▸Ko _ _),H.len,Nat.add_sub_cancel_left]
 refine ⟨g,σ++List.range' (s.heap.objs.size+1) cn.length,m,{
  toHS:=⟨W1.base,W1.g0,W1.keep,W1.reg,W1.hid,W1.gens,W1.bare,W1.os⟩
  ns:=cL▸hns
  nl:=cL▸(H.newer (Kq _)).1
  loc:=fun y a ha=>?_
  len:=hl2
  nd:=List.nodup_append.mpr ⟨H.nd,List.nodup_range',fun x hx y hy e=>by subst e;exact absurd (List.mem_range'_1.mp hy).1 (Nat.not_le_of_lt (Nat.lt_succ_of_lt (H.lt hx)))⟩
  fr:=fun b hb=>?_
  own:=fun i o a h1 h2=>?_
  stk:=rfl
  cel:=fun y i hy=>?_
  apart:=fun b hb=>?_
  pin:=fun q hq=>ex0 _ _ (H.pin q hq)}⟩
 ·refine Zc (hloc y a ha) fun x v e1 e2 e3=>?_;exact ⟨x,v,e1,e2,AR.sub _ _ (Sub.refl _) ex0 _ _ e3⟩
 ·rw [cL];rcases hr b hb with ⟨h1,h2⟩ | h1
  ·exact ⟨H.fr b h2,Nat.ne_of_lt h1⟩
  ·exact ⟨(H.newer (Nat.le_of_lt h1)).1,Nat.ne_of_gt h1⟩
 ·refine Or.elim (Nat.lt_or_ge i os.length) (fun hio=>?_) fun hio=>?_
  ·rw [Kl hio] at h1;rw [Kl (H.len.symm▸hio)] at h2;exact OAt.sub _ _ (Sub.refl _) ex0 (fun ob e=>sub _ _ e) o (H.own i o a h1 h2)
  ·refine oze (Nat.exists_eq_add_of_le hio) fun k zo1=>?_;subst zo1;rw [Km hio,Nat.add_sub_cancel_left] at h1;rw [hat] at h2;have hk:k<cn.length:=hlen▸(ZI h1).1;rw [List.getElem?_range' hk,Nat.one_mul] at h2;obtain rfl:=Kc h2;exact OAt.sub _ _ (Sub.refl _) ex0 (fun ob e=>e) o (hown k o h1)
 ·rw [cC] at hy;obtain ⟨q1,q2⟩:=List.mem_zipIdx_iff_le_and_getElem?_sub.mp hy;refine oze (Nat.exists_eq_add_of_le (q1)) fun k zo2=>?_;subst zo2;have q3:cn[k]?=some y:=by have:cn[os.length+k - os.length]?=some y:=q2;rwa [Nat.add_sub_cancel_left] at this
  exact ⟨s.heap.objs.size+1+k,by rw [hat,List.getElem?_range' (ZI q3).1,Nat.one_mul],hcl k y q3⟩
 ·rcases ZQ hb with rfl | hb
  ·rw [cL];exact (H.newer (Kq _)).2
  ·rcases hr b hb with ⟨h1,h2⟩ | h1
   ·exact H.apart b h2
   ·exact (H.newer (Nat.le_of_lt h1)).2
theorem Uo (cG:c.G=G) (g0:Sub F.g₀ g) {R:A→List O→Prop}{st':St}{vs:List Value}{v:Value}{s':Shared}(R1:RS c {F with g₀:=g} st' vs s') {a:A}(hv:∀g' ρ',ARs c.p c.w g' ρ' st'.stk vs→AR c.p c.w g' ρ' a v) (h:R a st'.own):OPost G F g R v s':=by
 subst cG;refine ozr R1 fun g' ρ' m' W=>?_;exact ⟨g',ρ',a,st'.own,W.toOW.of_g g0,W.g0,hv _ _ W.stk,h⟩
structure CxIs (c:Cx) (G:Gx) (A:Around) (env:Env) (tab:List Str) (cel:List (Str×Nat)) (fuel:Nat):Prop where
 G:c.G=G
 A:c.A=A
 env:c.env=env
 tab:c.tab=tab
 cel:c.cel=cel
 fuel:c.fuel=fuel
theorem ZmB {A:Around}{env:Env}{tab:List Str}{cel:List (Str×Nat)}{need:Nat}(G:Gx) (tnd:tab.Nodup) (hk:env.scope.kind = .function) (hg:env.globals=mainGlobals) (hb:env.builtins=builtinsNs) (hh:A.handled=none) (hd:A.depth+(need+1)<recursionLimit) (hu:A.units+8*(need+1)+40≤cLine) :
 ∃c,CxIs c G (A.deeper env) env tab cel need :=
 ⟨⟨G,A.deeper env,env,tab,cel,need,tnd,hk,hg,hb,hh,by show A.depth+1+need<_;lia,by show A.units+3+_+_≤_;lia⟩,⟨rfl,rfl,rfl,rfl,rfl,rfl⟩⟩
end
section
variable {G:Gx}{f:Addr}{scope:Scope}{qual:Str}{cd:Value}{body:List Stmt}{names:List Str}{need:Nat}
theorem Zje {os:List O}{args:List A}{R:A→List O→Prop}(K:DefAt G f scope qual cd body args.length names) {loc':List (Nat×A)}{own':List O}
 (hl:∀q∈loc',∃x,(Zf scope)[q.1]?=some x∧scope.names.lookup x=some .local∧(x,q.2)∈XM names args) (ho:own'=(Zh scope.names).map fun x=>.cell (ZD x (XM names args)))
 (h:∀c:Cx,c.G=G→c.env=ZX f scope qual cd c.env.locals→c.cel=(Zh scope.names).zipIdx os.length→c.tab=Zf scope→c.fuel=need→XJ c body ⟨loc',os++own',[]⟩ (Zo0 R)):OSpecC G (.ref f) (need+1) os args R:=fun ar F us s g σ hh hd hu H hv=>by
 have hB:=G.lib.mono _ _ H.keep H.base;obtain ⟨ob,fd,e1,e2,e3,hbody,rfl,hgl,hbu,hclo,rfl,rfl,hbi⟩:=K.at_ _ hB;have hlu:=Z6 hv;have hus:ARs G.p G.w g σ (args++List.replicate (names.length - args.length) (.d .none)) (us++List.replicate (names.length - args.length) Value.none):=YB hv (WN _);have hbi':=hbi us hlu s hB;generalize hbs:names.zip (us++List.replicate (names.length - args.length) Value.none)=binds at hbi';have hfst:binds.map (·.1)=names:=by
  have:=K.le;rw [←hbs,List.map_fst_zip (by rw [List.length_append,List.length_replicate,hlu];lia)]
 have hn2:(binds.map (·.1)).Nodup:=hfst▸K.ndn;have hmem:∀x∈binds,x.1∈names:=fun x hx=>hfst▸List.mem_map_of_mem hx;refine codeAny_call_function (by exact Nat.lt_of_le_of_lt (Ko _ _) (by assumption)) e1 e2 K.co K.gen hbody e3 ?_;refine hbi' _ _ _ _ ?_;rw [hclo,hgl,hbu];refine wpAny_newFunctionEnv_cells K.kind (fun x hx=>?_) fun env he s₁ x=>?_
 ·refine (K.par _ (hmem x hx)).imp id fun q=>⟨q.1,?_⟩;obtain ⟨j,hj,ej⟩:=List.getElem_of_mem q.2;rw [X6 K.nd (j:=j) (by rw [←ej];exact Ke hj)];rfl
 ·obtain rfl:env=ZX f fd.scope (fd.qualname++".<locals>.") fd.code s.heap.objs.size:=he;refine XN x.toInCall.same fun h₁ tk zo4=>?_;subst zo4;have sub:Sub s.heap h₁:=x.toInCall.keep;have hcl:∀(j:Nat) y,(Zh fd.scope.names)[j]?=some y→(ZX f fd.scope (fd.qualname++".<locals>.") fd.code s.heap.objs.size).cells.lookup y=some (s.heap.objs.size+1+j):=fun j y hy=>X6 K.nd hy;have hkd:∀y,(ZX f fd.scope (fd.qualname++".<locals>.") fd.code s.heap.objs.size).kindOf y=fd.scope.names.lookup y:=fun k=>rfl;have hE:∀e,e=ZX f fd.scope (fd.qualname++".<locals>.") fd.code s.heap.objs.size→e=ZX f fd.scope (fd.qualname++".<locals>.") fd.code e.locals∧e.locals=s.heap.objs.size:=fun e q=>by rw [q];exact ⟨rfl,rfl⟩
  have hns:h₁.Ns s.heap.objs.size (bindL (fun y=>fd.scope.names.lookup y) binds fun k=>none):=x.toInCall.ns;have hce:∀n c,(ZX f fd.scope (fd.qualname++".<locals>.") fd.code s.heap.objs.size).cells.lookup n=some c→h₁.IsCell c (bindC (fun y=>fd.scope.names.lookup y) binds (fun k=>none) n):=x.cell;refine oze (ZmB (env:=ZX f fd.scope (fd.qualname++".<locals>.") fd.code s.heap.objs.size) (cel:=(Zh fd.scope.names).zipIdx os.length) G K.tnd K.kind rfl rfl hh hd hu) fun c C=>?_;refine ⟨(G.lib.nolimit _ hB).keeps sub,codeAny_func ?_⟩;clear x;have cA:=C.A;rw [←C.env] at hcl hce cA ⊢;rw [←cA];refine oza (hE _ C.env) fun hE1 hE2=>?_;have key:=h c C.G hE1 C.cel C.tab C.fuel {F with g₀:=g} [] _ (ZdC (tk:=tk) H C.G hE2 C.cel sub hns (fun i a ha=>?_) (by rw [ho,List.length_map]) (fun i o hi=>?_) hcl)
  ·have:=C.G;subst this;refine Kb key (fun fl s' hf'=>?_) fun k k x=>False.elim x;induction fl with
   | ret v =>
    obtain ⟨st',R1,a,hs,hR⟩:=hf';refine Uo rfl H.g0 R1 (fun g' ρ' q=>?_) hR;rw [hs] at q;refine Zb (Yh q) fun v' e hv'=>?_
    injection e with zi;subst zi
    exact hv'
   | next =>
    refine ozg hf' fun st' R1 hR=>?_;exact Uo (a:=.d .none) rfl H.g0 R1 (fun k k k=>rfl) hR
   | brk=>refine ozg hf' fun k k h=>?_;exact h.elim
   | cont=>refine ozg hf' fun k k h=>?_;exact h.elim
  ·refine Zx (hl _ (Y8 ha)) fun z m0 m2 m1=>?_;refine Zb (Wd (names:=names) hus m1) fun v hv1 hv2=>?_;rw [hbs] at hv1;exact ⟨z,v,by rw [C.tab];exact m0,ZdP m2 hn2 hv1,hv2⟩
  ·rw [ho,List.getElem?_map] at hi;refine Zb (Z9 hi) fun y hy zo5=>?_;subst zo5;refine Zb (hce y _ (hcl i y hy)) fun ob q1 q2=>?_;have kn:fd.scope.names.lookup y≠some .local:=by
    rw [K.cell y (Kj hy)];exact fun e=>nomatch e
   rw [Zjx kn hn2] at q2;have z:=ZeU (x:=y) (names:=names) hus;rw [hbs] at z;refine ⟨_,ob,q1,q2,?_⟩;induction hb:binds.lookup y with
   | none=>rw [hb] at z;exact z
   | some u=>rw [hb] at z;exact z
theorem Zd5 {fv:Value}{need:Nat}{args:List D}{R:D→Prop}(S:OSpecC G fv need [] (args.map .d) fun a o=>∃d,Frz o 0 a d∧R d):Zr G fv need args R:=fun ar F us s g hh hd hu H hv=>by
 have O0:OW G {F with pin:=[]} [] s g []:={toHS:=⟨H.base,H.g0,H.keep,H.reg,H.hid,H.gens,H.bare,H.os⟩,len:=rfl,nd:=.nil,fr:=fun j h=>(nomatch h),own:=fun j j j h=>(nomatch h),apart:=fun j h=>(nomatch h),pin:=fun j h=>nomatch h};refine wpm (wpAny_call (S ar _ us s g [] hh hd hu O0 (Zai.mpr hv))) (fun v s' zq0=>?_);obtain ⟨g',σ',a,os',W,hs,ha,d,hf,hR⟩:=zq0;refine Zx (W.toHS.retire (L:=0) (fun b hb=>(W.apart b hb).1) (fun b hb=>(W.apart b hb).2) W.own hf ha) fun g2 r1 r2 r3=>?_;exact ⟨g2,d,⟨r1.base,r1.g0,r1.keep,r1.reg,r1.hid,r1.gens,r1.bare,r1.os⟩,hs.trans r2,r3,hR⟩
theorem Zh0 {args:List D}{R:D→Prop}(K:DefAt G f scope qual cd body args.length names) {loc':List (Nat×A)}{own':List O}
 (hl:∀q∈loc',∃x,(Zf scope)[q.1]?=some x∧scope.names.lookup x=some .local∧(x,q.2)∈XM names (args.map .d)) (ho:own'=(Zh scope.names).map fun x=>.cell (ZD x (XM names (args.map .d))))
 (h:∀c:Cx,c.G=G→c.env=ZX f scope qual cd c.env.locals→c.cel=(Zh scope.names).zipIdx→c.tab=Zf scope→c.fuel=need→XJ c body ⟨loc',own',[]⟩ (Ret R)):Zr G (.ref f) (need+1) args R :=
 Zd5 (Zje (by rw [List.length_map];exact K) hl ho fun c h1 h2 h3 h4 h5=>(h c h1 h2 h3 h4 h5).mono fun fl st q=>by
  induction fl with
  | ret=>refine Zc q fun a d h1 h2 h3=>?_;exact ⟨a,h1,d,h2,h3⟩
  | next=>exact ⟨.none,.d _,q⟩
  | brk=>exact q
  | cont=>exact q)
end
theorem ZfJ {K:Params→W.Frag}{G:Gx}{w:World}(I:IsK K G w) {C fI:Addr}{need:Nat}{args:List D}{fs:List (Str×D)}(hok:UP (K w.params) C fI=true)
 (H:OSpecC G (.ref fI) need [.inst C 1,.dict [] 0] (.own 0::args.map .d) fun a os'=>a = .d .none∧Frz os' 0 (.own 0) (.inst C fs)):Zr G (.ref C) (need+1) args fun d=>d = .inst C fs :=
 Zd5 fun A F us s g σ h1 h2 h3 h4 h5=>codeAny_mono (Wc I (os:=[]) (P:=fun os'=>Frz os' 0 (.own 0) (.inst C fs)) hok H A F us s g σ h1 h2 h3 h4 h5) fun r s' q=>by
  induction r with
  | error e=>exact q
  | ok f=>induction f with
   | ret v =>
    obtain ⟨g',σ',a,os',H,hs,hv,rfl,h⟩:=q;exact ⟨g',σ',_,os',H,hs,hv,_,h,rfl⟩
   | _=>exact q
end
section
section
variable {K:Params→W.Frag}{G:Gx}{w:World}{f fB C cc cda:Addr}{names:List Str}{ar:Arg}{vs:Array Value}{file:Str}{tf:Tok}{cls ccl cel:Value}{cdd ced:Option Addr}{ccs ces:Array (Option Value)}{cd:ClassData}
theorem ZdM (I:IsK K G w) (S:SupFacts (K w.params) G.p.main f fB C cc cda names ar vs file tf cls ccl cel cdd ced ccs ces cd) {need:Nat}{targs:List A}{P:List O→Prop}{p0 p1 apos pos epos:Pos}{e:Expr}{es:List Expr}{body:List Stmt}{loc':List (Nat×A)}{os:List O}{j sx:Nat}{c:Cx}{F:Fz}{s:Shared}
 (cG:c.G=G) (cE:c.env=callEnv (Zk (K w.params) f) c.env.locals f) (cT:c.tab=Zf (Zk (K w.params) f).scope) (cF:c.fuel=need) (pl:Sem Bool)
 (hev:eval (.Call (.Attribute (.Call (.Name "super" p0) [] [] p1) "__init__" apos) (e::es) [] pos) c.env=(do
  let ov ←attributeBase (.Call (.Name "super" p0) [] [] p1) "__init__" c.env (eval (.Call (.Name "super" p0) [] [] p1) c.env)
  standAt apos.atName
  let (f,first) ←holding [ov] (getMethod ov "__init__" pl)
  callWith pos f first (backTo pos (starEach (e::es) c.env)) []))
 (hsw:swapsWith (.Call (.Attribute (.Call (.Name "super" p0) [] [] p1) "__init__" apos) (e::es) [] pos) none epos.line c.env=pure false) (hst:Zt (e::es)=true)
 (h0:ZD 0 loc'=some (.own sx)) (hos:os[sx]?=some (.inst C j))
 (T:OSpecC G (.ref fB) need os (.own sx::targs) fun r os'=>r = .d .none∧P os')
 (hargs:GJ c (e::es) ⟨loc',os,[]⟩ fun st1=>st1=⟨loc',os,targs.reverse⟩) (R0:RS c F ⟨loc',os,[]⟩ [] s) :
 PySem.wpAt (model c.p c.w) c.A (.func body c.env) (exec (.Expr (.Call (.Attribute (.Call (.Name "super" p0) [] [] p1) "__init__" apos) (e::es) [] pos) epos) c.env) (fun fl s'=>fl = .next∧∃os',P os'∧RS c F ⟨loc',os',[]⟩ [] s') NoE s:=by
 subst cG;refine Ka fun zn0=>?_;refine ozr R0 fun g ρ m0 W0=>?_;have hB:=c.G.lib.mono _ _ W0.keep W0.base;have X1:=(I.B _ hB).1;refine Zb (ZdR X1 S.fn) fun ob e1 e2=>?_;have cS:c.env.scope=(Zk (K w.params) f).scope:=by rw [cE];rfl
 refine Zc (W0.loc 0 _ h0) fun nm self l1 l2 l3=>?_;obtain ⟨a0,l3,l4⟩:=l3;obtain rfl:nm=ar.arg:=by rw [cT,S.arg0] at l1;exact (Kc l1).symm
 refine zn0 ?_;subst l4;refine Ka fun zn1=>?_;obtain ⟨dx,i1,i2⟩:=W0.own sx _ a0 hos l3;refine YM (Zjg I S.sup (show bootBuiltins "super"=some (.type "super") by rfl) (by decide) _ hB) fun zo2 mb' bb1 bb2=>?_;refine Zb zo2 fun mg' bg1 bg2=>?_;obtain ⟨oD,D1,D2⟩:∃oD,s.heap.get? C=some oD∧oD.data = .cls cd:=by
  have:=S.clsC;unfold W.clsIn at this;split at this
  ·rename_i ho;obtain rfl:=Kc this;exact ⟨_,X1 _ _ ho,rfl⟩
  ·exact Zo this
 refine zn1 ?_;refine ks_wpAt_Expr_any (ks_wpAt_MethodCall ?_ hev) (ZbX _) hsw;have kS:c.env.kindOf "super"=some .globalImplicit:=by show c.env.scope.names.lookup _=_;exact cS▸S.kS
 have kC:c.env.kindOf "__class__"=some .free:=by show c.env.scope.names.lookup _=_;exact cS▸S.kC
 have kA:c.env.kindOf ar.arg=some .local:=by show c.env.scope.names.lookup _=_;exact cS▸S.arg
 refine ks_wpAt_super_base (f:=f) (cc:=cda) (fd:=Zk (K w.params) f) (ar:=ar) kS kC (by decide) (by rw [cE];rfl) e1 e2 S.head (by rw [cE];exact S.code) (X1 _ _ S.codeAt) rfl S.vs2 S.file S.top ?_;refine PySem.W.ks_loadName_global c.hk kS (loadGlobal_builtin (by rw [c.hg];exact bg1) bg2 (by rw [c.hb];exact bb1) bb2 ⟨rfl,?_⟩);refine wpAny_loadName_free (c:=cc) c.hk kC (by rw [cE];show (Zk (K w.params) f).closure.lookup _=_;rw [S.clo];rfl) ⟨_,X1 _ _ S.cell,rfl⟩ ?_;refine wpAny_loadName_local c.hk kA W0.ns l2 ?_;refine ks_wpAny_isType_cls D1 D2 ⟨rfl,?_⟩;refine ks_wpAny_call_super D1 D2 i2 rfl (fun _ q=>by cases q) (W.looks_mroIn X1 S.mro) fun h2 hso k2=>?_;have X2:(K w.params).In h2:=fun a o q=>k2 _ _ (X1 a o q);have hmeth:=S.meth;unfold PySem.W.ks_superIn at hmeth;rw [S.clsC,Option.bind_some] at hmeth;obtain ⟨of,hof,hofc⟩:∃of,h2.get? fB=some of∧of.cls = .type "function":=by
  have ht':((K w.params).lookup fB).map (·.cls)=some (.type "function"):=S.methT;cases z:(K w.params).lookup fB with
  | none=>replace ht':=z▸ht';exact Zo ht'
  | some of=>replace ht':=z▸ht';exact ⟨of,X2 _ _ z,Kc ht'⟩
 have hne:a0≠C:=fun q=>by
  rw [q,D1] at i2
  have:=Kc i2;replace D2:=this▸D2;cases D2
 refine ks_wpAny_getMethod_super (D:=C) (x:=a0) (C:=C) (f:=fB) (l₀:=cd.mro) (K:=K w.params) hso (PySem.W.looks_opaque X2 S.stat) ?_ rfl X2 hmeth hof hofc hne (by decide) ?_
 ·exact fun A Q E s k q=>Kd ((PySem.W.looks_clsIn X2 S.clsC) A _ E s k (Ki q))
 have Wa:=(W0.grow (s':={s with heap:=h2}) k2 W0.gens W0.bare rfl).alloc {cls:=.type "method",data:=.fields #[.ref fB,.ref a0]} (s.toks+1);have hpush:(h2.push {cls:=.type "method",data:=.fields #[.ref fB,.ref a0]}).get? h2.objs.size=some {cls:=.type "method",data:=.fields #[.ref fB,.ref a0]}:=Kh _ rfl;have W3:=Wa.canon.at_g.pinned (pn:=[(sx,a0)]) fun q hq=>by rw [List.mem_singleton] at hq;subst hq;exact l3
 have hq3:=PySem.W.hideAll_get (Z0 c.G F (c.env.locals::ρ)) hpush (W0.grow (s':={s with heap:=h2}) k2 W0.gens W0.bare rfl).size_nomut;have hsub3:Sub g (PySem.W.hideAll (h2.push {cls:=.type "method",data:=.fields #[.ref fB,.ref a0]}) (Z0 c.G F (c.env.locals::ρ))):=fun b o e=>PySem.W.hideAll_get _ (Wa.keep b o e) fun hb=>by rw [Wa.nomut b hb] at e;exact Zo e
 generalize PySem.W.hideAll (h2.push {cls:=.type "method",data:=.fields #[.ref fB,.ref a0]}) (Z0 c.G F (c.env.locals::ρ))=g3 at W3 hq3 hsub3;clear Wa;generalize h2.push {cls:=.type "method",data:=.fields #[.ref fB,.ref a0]}=h3 at W3 hpush ⊢;generalize h2.objs.size=q at hpush hq3 ⊢;refine PySem.W.callWith_of (P:=fun h=>PySem.W.MethP (K w.params) q fB (.ref a0) h) (by rw [(Xn hst).1];rfl) (fun h hP=>PySem.W.keeps_M S.methF h hP) ?_;have key:=hargs _ _ _ pos ⟨g3,ρ,_,W3⟩;have hes:Yn e=false:=(Yp (show (!Yn e&&Zt es)=true from hst)).1 |> fun q=>by simpa using q
 rw [ZP _ _ hes] at key ⊢;refine evalArgs_plain (wpm key (fun us1 s4 zq0=>?_));refine Ka fun zn3=>?_;obtain ⟨hl1,st1,⟨g4,ρ4,m4,W4⟩,e4⟩:=zq0;refine zn3 ?_;subst e4;have hm4:=W4.keep _ _ (W4.g0 _ _ hq3);refine ⟨⟨hm4,(I.B _ (c.G.lib.mono _ _ W4.keep W4.base)).1⟩,?_⟩;have p4:ρ4[sx]?=some a0:=W4.pin (sx,a0) (.head _);refine Ka fun zn4=>?_;obtain ⟨σ4,j1,j2,j3,O4⟩:=W4.lend (is:=List.range os.length) (os:=os) List.nodup_range (List.length_range).symm (fun j i e=>by
  obtain ⟨a,b⟩:=ZI e;obtain rfl:j=i:=(List.getElem_range a).symm.trans b;have hj:j<os.length:=Nat.lt_of_lt_of_eq a List.length_range;refine ⟨os[j],Ke hj,?_⟩;rw [US,Zau];exact Ke hj)
 refine zn4 ?_;have q4:=U1 W4.stk;rw [List.append_nil,List.reverse_reverse,List.reverse_reverse] at q4;have j1':∀k:Nat,ρ4[k]?=σ4[k]?:=fun k=>by have:=j1 k;rw [US] at this;exact this
 have q5:ARs c.p c.w g4 σ4 targs us1:=(ZaF (ι:=id) j1').mp (by rw [WG,List.map_id];exact q4);have hun:=c.hu;refine wpAny_call (ks_codeAny_call_bound hm4 (codeAny_mono (T c.A _ (.ref a0::us1) s4 g4 σ4 c.hh (by rw [←cF];exact c.hd) (by rw [←cF];omega) O4 ⟨_,_,rfl,⟨a0,(j1' sx).symm.trans p4,rfl⟩,q5⟩) fun r s5 hr=>?_));rcases r with e | (v | _ | _ | _) <;> first | exact hr.elim | skip
 refine Ka fun zn5=>?_;obtain ⟨g5,σ5,a5,os5,O5,hs5,av5,rfl,hP5⟩:=hr;refine Zx (W4.got j1 j2 j3 List.nodup_range O5 hs5) fun ρ5 _ _ W5=>?_;refine zn5 ?_;have hlen5:os.length≤os5.length:=by
  rw [←O5.len];cases hz:os.length with
  | zero=>exact Nat.zero_le _
  | succ k =>
   have h1:k<σ4.length:=by rw [j2,List.length_range,hz];exact Nat.lt_succ_self k
   exact (List.getElem?_eq_some_iff.mp (O5.pin (k,σ4[k]) (UA (Ke h1)))).1
 have W6:=W5.stack (k:=[]) (us:=[]) rfl;simp only [ZdQ rfl hlen5] at W6;exact ⟨rfl,os5,hP5,RS.of_g (W0.g0.trans hsub3) ⟨g5,ρ5,m4,W6.unpin⟩⟩
theorem ZhL (I:IsK K G w) (S:SupFacts (K w.params) G.p.main f fB C cc cda names ar vs file tf cls ccl cel cdd ced ccs ces cd) {n need:Nat}{args targs:List A}{P:List O→Prop}{R:A→List O→Prop}{p0 p1 apos pos epos:Pos}{e:Expr}{es:List Expr}{rest:List Stmt}{loc':List (Nat×A)}{os:List O}{j sx:Nat}
 (hbody:(Zk (K w.params) f).body = .stmts (.Expr (.Call (.Attribute (.Call (.Name "super" p0) [] [] p1) "__init__" apos) (e::es) [] pos) epos::rest))
 (pl:Env→Sem Bool)
 (hev:∀env:Env,eval (.Call (.Attribute (.Call (.Name "super" p0) [] [] p1) "__init__" apos) (e::es) [] pos) env=(do
  let ov ←attributeBase (.Call (.Name "super" p0) [] [] p1) "__init__" env (eval (.Call (.Name "super" p0) [] [] p1) env)
  standAt apos.atName
  let (f,first) ←holding [ov] (getMethod ov "__init__" (pl env))
  callWith pos f first (backTo pos (starEach (e::es) env)) []))
 (hsw:∀env:Env,swapsWith (.Call (.Attribute (.Call (.Name "super" p0) [] [] p1) "__init__" apos) (e::es) [] pos) none epos.line env=pure false) (hst:Zt (e::es)=true)
 (hn:args.length=n) (hle:n≤names.length) (hbind:∀us:List Value,us.length=n→∀S,W.peek (K w.params) S (bindArgs (Zk (K w.params) f) ⟨us,[]⟩)=some (names.zip (us++List.replicate (names.length - n) Value.none)))
 (hl:∀q∈loc',∃x,(Zf (Zk (K w.params) f).scope)[q.1]?=some x∧(x,q.2)∈XM names args) (h0:ZD 0 loc'=some (.own sx)) (hos:os[sx]?=some (.inst C j))
 (T:OSpecC G (.ref fB) need os (.own sx::targs) fun r os'=>r = .d .none∧P os')
 (hargs:∀c:Cx,c.G=G→c.env=callEnv (Zk (K w.params) f) c.env.locals f→c.tab=Zf (Zk (K w.params) f).scope→c.cel=[]→c.fuel=need→GJ c (e::es) ⟨loc',os,[]⟩ fun st1=>st1=⟨loc',os,targs.reverse⟩)
 (hrest:∀c:Cx,c.G=G→c.env=callEnv (Zk (K w.params) f) c.env.locals f→c.tab=Zf (Zk (K w.params) f).scope→c.cel=[]→c.fuel=need→∀os',P os'→XJ c rest ⟨loc',os',[]⟩ (Zo0 R)):OSpecC G (.ref f) (need+1) os args R:=fun A F us s g σ hh hd hu H hv=>by
 have hB:=G.lib.mono _ _ H.keep H.base;have X0:=(I.B _ hB).1;refine Zb (ZdR X0 S.fn) fun ob e1 e2=>?_;have hlu:us.length=n:=(Z6 hv).trans hn;have hbi:=W.kp_binds X0 (hbind us hlu);have hus:ARs G.p G.w g σ (args++List.replicate (names.length - n) (.d .none)) (us++List.replicate (names.length - n) Value.none):=YB hv (WN _);unfold XM at hl;replace hl:=hn▸hl;generalize hbs:names.zip (us++List.replicate (names.length - n) Value.none)=binds at hbi;have hfst:binds.map (·.1)=names:=by rw [←hbs,List.map_fst_zip (by rw [List.length_append,List.length_replicate,hlu];lia)]
 refine ks_codeAny_call_defAt (by exact Nat.lt_of_le_of_lt (Ko _ _) (by assumption)) e1 e2 (G.lib.nolimit _ hB) (W.codeRec_of X0 S.codeIn) hbody hbi (fun x hx=>by simpa using ZbI S.ncell x hx) (fun x hx=>beq_iff_eq.mp (ZbI S.par x.1 (hfst▸List.mem_map_of_mem hx))) (fun h₁ hns sub=>?_) S.co S.gen S.kind;have hE:∀e,e=callEnv (Zk (K w.params) f) s.heap.objs.size f→e=callEnv (Zk (K w.params) f) e.locals f∧e.locals=s.heap.objs.size:=fun e q=>by exact q▸⟨rfl,rfl⟩
 refine oze (ZmB (env:=callEnv (Zk (K w.params) f) s.heap.objs.size f) (tab:=Zf (Zk (K w.params) f).scope) (cel:=[]) G S.tnd S.kind S.gl S.bu hh hd hu) fun c C=>?_;have cA:=C.A;refine oza (hE _ C.env) fun hE1 hE2=>?_;rw [←C.env] at cA ⊢;rw [←cA];have cG:=C.G;subst cG;have R0:RS c {F with g₀:=g} ⟨loc',os++[],[]⟩ [] {s with heap:=h₁,toks:=s.toks+binds.length}:=ZdC (cn:=[]) H rfl hE2 C.cel sub hns (fun i a ha=>by
  refine Zb (hl _ (Y8 ha)) fun z m0 m1=>?_;refine Zb (Wd (names:=names) hus m1) fun v hv1 hv2=>?_;rw [hbs] at hv1;exact ⟨z,v,by rw [C.tab];exact m0,Zdb (by rw [List.map_reverse,hfst];exact (List.reverse_perm _).nodup_iff.mpr S.ndn) (List.mem_reverse.mpr hv1),hv2⟩) rfl (fun u u h=>nomatch h) (fun u u h=>nomatch h)
 rw [List.append_nil] at R0;refine ks_wpAt_execs_cons (ks_wpAt_mono (ZdM I S rfl hE1 C.tab C.fuel (pl c.env) (hev _) (hsw _) hst h0 hos T (hargs c rfl hE1 C.tab C.cel C.fuel) R0) (fun fl s' hq=>?_) fun u u x=>False.elim x);refine YM hq fun zo1 os' hP R1=>?_;subst zo1;refine wpAt_of_wpAny (Kb (hrest c rfl hE1 C.tab C.cel C.fuel os' hP _ [] s' R1) (fun fl s2 hf'=>?_) fun u u x=>False.elim x);induction fl with
 | ret v =>
  obtain ⟨st',R1,a,hs,hR⟩:=hf';refine Uo rfl H.g0 R1 (fun g' ρ' q=>?_) hR;rw [hs] at q;refine Zb (Yh q) fun v' e hv'=>?_;cases e;exact hv'
 | next =>
  obtain ⟨st',R1,hR⟩:=hf';exact Uo (a:=.d .none) rfl H.g0 R1 (fun u u u=>rfl) hR
 | brk=>obtain ⟨u,u,h⟩:=hf';exact h.elim
 | cont=>obtain ⟨u,u,h⟩:=hf';exact h.elim
end
end
section
set_option genSizeOf false
set_option genInjectivity false
inductive Sl where | l (i:Nat) | c (i:Nat)
inductive Tg where | one (s:Sl) | tup (ss:List Sl)
inductive Bi where | len | range1 | range2 | list
inductive Me where | append | join | split | startswith | get
inductive Md where | pop1 | pop2 | upd
inductive Sr where | val | zip | enum
set_option genCtorIdx false in
inductive Pr where
 | lit (d:D) | loc (i:Nat) | cell (i:Nat) | bin (op:Operator) | cmp (op:CmpOp) | un (op:UnaryOp) | inp (op:Operator)
 | sub | cut | list (n:Nat) | listO (n:Nat) | tup (n:Nat) | dict0 | bi (b:Bi) | me (m:Me) | st (s:Sl) | pop | set
set_option genCtorIdx false in
inductive C where
 | nil | tru | ret | brk | cont | bad
 | o (p:Pr) (k:C) | slc (x y z:Bool) (a b d k:C) | dict (ks:List Str) (vs k:C) | boo (and:Bool) (a b k:C)
 | call (n:Nat) (k:C) | bi (b:Bi) (as k:C) | mth (m:Me) (as k:C) | meth (x:Str) (n:Nat) (as k:C) | attr (x:Str) (cs:List Addr) (k:C) | stA (x:Str) (cs:List Addr) (k:C) | mtd (m:Md) (as k:C) | raw (ts:List Stmt) (k:C) | frz (a k:C)
 | sel (t a b k:C) | wh (n:Nat) (t b k:C) | for_ (z:Bool) (s:Sr) (t:Tg) (b k:C)
 | notT (t:C) | andT (s t:C) | orT (s t:C)
 | mark (is:List Nat) (k:C) | blk (is:List Nat) (a k:C)
 | comp (s:Sr) (n m:Nat) (it:C) (t:Tg) (b k:C)
set_option genCtorIdx false in
inductive Fw where | next | brk | cont | ret | b (z:Bool)
noncomputable abbrev Zdh {α:Type}(o:Option α) (f:α→Prop) (e:Prop):Prop:=@Option.rec α (fun j=>Prop) e (fun a=>f a) o
noncomputable abbrev opt {α:Type}(o:Option α) (f:α→Prop):Prop:=Zdh o f False
noncomputable abbrev Sel (b:Bool) (P Q:Prop):Prop:=@Bool.rec (fun j=>Prop) Q P b
noncomputable abbrev Ok (b:Bool) (P:Prop):Prop:=Sel b P False
inductive Stop (P:Prop):Prop | mk (h:P)
noncomputable def nxt (P:St→Prop) (Q:Fw→St→Prop):Fw→St→Prop
 | .next,st=>P st
 | f,st=>Q f st
noncomputable def nx (P:St→Prop):Fw→St→Prop
 | .next,st=>P st
 | _,_=>False
noncomputable def onB (P:Bool→St→Prop):Fw→St→Prop
 | .b z,st=>P z st
 | _,_=>False
noncomputable def lpW (I:St→Prop) (Q:Fw→St→Prop):Fw→St→Prop
 | .next,st=>I st
 | .cont,st=>I st
 | .brk,st=>Q .next st
 | f,st=>Q f st
theorem Ze {α:Type}{o:Option α}{f:α→Prop}{e:Prop}{a:α}(h:o=some a) (q:f a):Zdh o f e:=by subst h;exact q
theorem Yd {α:Type}{o:Option α}{f:α→Prop}{e:Prop}(h:Zdh o f e):(∃a,o=some a∧f a)∨e:=by
 induction o with
 | none=>exact .inr h
 | some a=>exact .inl ⟨a,rfl,h⟩
theorem Z7 {α:Type}{o:Option α}{f:α→Prop}(h:opt o f):∃a,o=some a∧f a:=(Yd h).elim id False.elim
theorem Zl {b:Bool}{P Q:Prop}(h1:b=true→P) (h2:b=false→Q):Sel b P Q:=by
 induction b with
 | true=>exact h1 rfl
 | false=>exact h2 rfl
theorem ZaB {b:Bool}{P:Prop}(h:Ok b P):b=true∧P:=by
 induction b with
 | true=>exact ⟨rfl,h⟩
 | false=>exact h.elim
theorem YA {b:Bool}{P Q:Prop}(h:Sel b P Q):(b=true→P)∧(b=false→Q):=by
 induction b with
 | true=>exact ⟨fun j=>h,fun e=>nomatch e⟩
 | false=>exact ⟨fun e=>(nomatch e),fun j=>h⟩
noncomputable def asI:A→Option Int
 | .d (.int x)=>some x
 | _=>none
noncomputable def asS:A→Option Str
 | .d (.str x)=>some x
 | _=>none
noncomputable def asL:A→Option (List D)
 | .d (.list x)=>some x
 | _=>none
noncomputable def asB:A→Option Bool
 | .d (.bool x)=>some x
 | _=>none
noncomputable def Yl {α β γ:Type}(x:Option α) (y:Option β) (f:α→β→Option γ) (e:Option γ):Option γ:=match x with
 | some a=>(match y with | some b=>f a b | none=>e)
 | none=>e
noncomputable def ifO {γ:Type}(p:Prop) [Decidable p] (x:Option γ):Option γ:=if p then x else none
noncomputable def Wo (o:List O) (i:Nat):Option (List A):=match o[i]? with
 | some (.list xs)=>some xs
 | _=>none
noncomputable def lsA (o:List O):A→Option (List A)
 | .d (.list ds)=>some (ds.map .d)
 | .own i=>Wo o i
 | _=>none
mutual
noncomputable def Zn3:Nat→D→D→Bool
 | _,.none,.none=>true
 | _,.bool _,.bool _=>true
 | _,.int _,.int _=>true
 | _,.str _,.str _=>true
 | n+1,.list xs,.list ys=>fitLB n xs ys
 | n+1,.tuple xs,.tuple ys=>fitLB n xs ys
 | _,_,_=>false
noncomputable def fitLB:Nat→List D→List D→Bool
 | n,x::xs,y::ys=>Zn3 n x y&&fitLB n xs ys
 | _,_,_=>true
end
noncomputable def Zpw (o:List O):A→Option Bool
 | .d x=>(match x with
  | .bool b=>some b
  | .int i=>some (i != 0)
  | .none=>some false
  | .str x=>ifO (x.length≤1000000) (some ((x.length:Int) != 0))
  | .list xs=>ifO (xs.length≤1000000) (some (!xs.isEmpty))
  | _=>none)
 | .own i=>(Wo o i).bind fun xs=>ifO (xs.length≤1000000) (some (!xs.isEmpty))
 | .view _ _=>none
noncomputable def Zqx (l:List (Nat×A)) (o:List O) (r:List A) (op:Operator) (a b:A):Option St:=match op with
 | .Add=>Yl (asI a) (asI b) (fun x y=>some ⟨l,o,.d (.int (x+y))::r⟩) (Yl (asS a) (asS b) (fun x y=>ifO (x.length+y.length≤sizeLine) (some ⟨l,o,.d (.str (x++y))::r⟩))
  (Yl (lsA o a) (lsA o b) (fun x y=>ifO (x.length+y.length≤1000000) (some ⟨l,o++[.list (x++y)],.own o.length::r⟩)) none))
 | .Sub=>Yl (asI a) (asI b) (fun x y=>some ⟨l,o,.d (.int (x - y))::r⟩) none
 | .Mult=>Yl (asI a) (asI b) (fun x y=>ifO (y.natAbs<18446744073709551616) (some ⟨l,o,.d (.int (x*y))::r⟩)) none
 | .Mod=>Yl (asI a) (asI b) (fun x y=>ifO (y≠0) (some ⟨l,o,.d (.int (x.fmod y))::r⟩)) none
 | .FloorDiv=>Yl (asI a) (asI b) (fun x y=>ifO (y≠0∧y.natAbs<1073741824) (some ⟨l,o,.d (.int (x.fdiv y))::r⟩)) none
 | _=>none
noncomputable def Zqj:D→Option Bool
 | .none=>some true
 | .val _=>none
 | _=>some false
noncomputable def isN:A→Option Bool
 | .d x=>Zqj x
 | .own _=>some false
 | .view _ _=>none
noncomputable def Zc9:A→Bool
 | .d .none=>true
 | _=>false
noncomputable def XV:List D→Option (List Str)
 | []=>some []
 | .str x::r=>(XV r).map (x::·)
 | _::_=>none
noncomputable def Ua:List D→Option (List Int)
 | []=>some []
 | .int x::r=>(Ua r).map (x::·)
 | _::_=>none
noncomputable def eqL (x y:List D):Option Bool:=match y with
 | []=>some x.isEmpty
 | _=>ifO (fitLB 20 x y=true) (some (deqs x y))
noncomputable def inA (a:A):A→Option Bool
 | .d (.list xs)=>(match asS a with
  | some x=>(XV xs).map fun ys=>ys.any (· == x)
  | none=>(asI a).bind fun x=>(Ua xs).map fun ys=>ys.any (· == x))
 | .d (.dict es)=>(asS a).map fun x=>(Yb x es).isSome
 | _=>none
noncomputable def Zhu (op:CmpOp) (a b:A):Option Bool:=match op with
 | .Eq=>Yl (asI a) (asI b) (fun x y=>some (x==y)) (Yl (asS a) (asS b) (fun x y=>some (x==y)) (Yl (asL a) (asL b) eqL none))
 | .NotEq=>Yl (asI a) (asI b) (fun x y=>some (x != y)) (Yl (asS a) (asS b) (fun x y=>some (x != y)) (Yl (asB a) (asB b) (fun x y=>some (x != y)) (Yl (asL a) (asL b) (fun x y=>(eqL x y).map (!·)) none)))
 | .Lt=>Yl (asI a) (asI b) (fun x y=>some (decide (x<y))) (Yl (asS a) (asS b) (fun x y=>some (decide (x.cps.toList<y.cps.toList))) none)
 | .LtE=>Yl (asI a) (asI b) (fun x y=>some (decide (x≤y))) (Yl (asS a) (asS b) (fun x y=>some (!decide (y.cps.toList<x.cps.toList))) none)
 | .Gt=>Yl (asI a) (asI b) (fun x y=>some (decide (y<x))) (Yl (asS a) (asS b) (fun x y=>some (decide (y.cps.toList<x.cps.toList))) none)
 | .GtE=>Yl (asI a) (asI b) (fun x y=>some (decide (y≤x))) none
 | .Is=>(match Zc9 b with | true=>isN a | false=>none)
 | .IsNot=>(match Zc9 b with | true=>(isN a).map (!·) | false=>Yl (asB a) (asB b) (fun x y=>some (x != y)) none)
 | .In=>inA a b
 | .NotIn=>none
noncomputable def unA (op:UnaryOp) (a:A):Option A:=match op with
 | .Not=>(asB a).map fun x=>.d (.bool !x)
 | .USub=>(asI a).map fun x=>.d (.int (-x))
 | _=>none
noncomputable def UN {α:Type}(n:Int) (xs:List α):Option α:=match n with
 | .ofNat i=>ifO (i<9223372036854775808) xs[i]?
 | .negSucc i=>ifO (i<xs.length∧i<9223372036854775808) xs[xs.length - (i+1)]?
noncomputable def Zb4 (o:List O) (b:A):A→Option A
 | .d x=>(match x with
  | .list xs=>(asI b).bind fun n=>(UN n xs).map .d
  | .tuple xs=>(asI b).bind fun n=>ifO (0≤n) ((UN n xs).map .d)
  | .str xs=>(asI b).bind fun n=>(UN n xs.cps.toList).map fun x=>.d (.str ⟨#[x]⟩)
  | .dict es=>(asS b).bind fun x=>(Yb x es).map .d
  | _=>none)
 | .own j=>(Wo o j).bind fun xs=>(asI b).bind fun n=>UN n xs
 | .view _ _=>none
noncomputable def ZpL:A→Option (Option Int×Option Int×Option Int)
 | .d (.slice lo hi st)=>some (lo,hi,st)
 | _=>none
noncomputable def ZoE (o:List O) (b a:A):Option A:=(ZpL b).bind fun s=>match s.2.2 with
 | none=>(match a with
  | .d (.list xs)=>ifO (xs.length≤1000000) (some (.d (.list (cut xs s.1 s.2.1))))
  | .d (.str xs)=>ifO (xs.length≤1000000) (some (.d (.str (Wv xs s.1 s.2.1))))
  | .own j=>(Wo o j).bind fun xs=>(Zhf xs).bind fun ds=>ifO (ds.length≤1000000) (some (.d (.list (cut ds s.1 s.2.1))))
  | _=>none)
 | some n=>ifO (s.1=none∧s.2.1=none∧n = -1) ((asL a).bind fun xs=>ifO (xs.length≤1000000) (some (.d (.list xs.reverse))))
noncomputable def ZpJ {α:Type}(n:Int) (xs:List α) (v:α):Option (List α):=match n with
 | .ofNat i=>ifO (i<xs.length∧i<9223372036854775808) (some (xs.set i v))
 | .negSucc i=>ifO (i<xs.length∧i<9223372036854775808) (some (xs.set (xs.length - (i+1)) v))
noncomputable abbrev ZeE (m n:Int):Prop:=m.natAbs<2305843009213693952∧n.natAbs<2305843009213693952
noncomputable def slF (s:Sl) (x:A) (l:List (Nat×A)) (o:List O) (r:List A):Option St:=match s with
 | .l i=>some ⟨(i,x)::l,o,r⟩
 | .c i=>(match o[i]? with | some (.cell _)=>some ⟨l,o.set i (.cell (some x)),r⟩ | _=>none)
noncomputable def ZiR (o:List O) (a:A):Option Nat:=match lsA o a with
 | some xs=>some xs.length
 | none=>(match a with | .d (.tuple xs)=>some xs.length | .d (.str xs)=>some xs.length | _=>none)
noncomputable def biA (b:Bi) (l:List (Nat×A)) (o:List O) (a:A) (r:List A):Option St:=match b with
 | .len=>(ZiR o a).bind fun n=>ifO (n<4611686018427387904) (some ⟨l,o,.d (.int n)::r⟩)
 | .range1=>(asI a).map fun n=>⟨l,o,.d (.range 0 n)::r⟩
 | .range2=>(asI a).bind fun n=>(match r with | .d (.int m)::r=>some ⟨l,o,.d (.range m n)::r⟩ | _=>none)
 | .list=>(match a with
  | .d (.range m n)=>ifO (ZeE m n) (ifO ((n - m).toNat≤1000000) (some ⟨l,o,.d (.list ((List.range (n - m).toNat).map fun (i:Nat)=>.int (m+i)))::r⟩))
  | _=>none)
noncomputable def Zpj (m:Me):St→Bool
 | ⟨_,o,a::_⟩=>(match m with
  | .append=>(match a with | .own i=>(Wo o i).isSome | _=>false)
  | .get=>(match a with | .d (.dict _)=>true | _=>false)
  | _=>(asS a).isSome)
 | _=>false
noncomputable def meA (m:Me) (l:List (Nat×A)) (o:List O) (b a:A) (r:List A):Option St:=match m with
 | .append=>(match a with | .own i=>(Wo o i).bind fun xs=>ifO (xs.length≤1000000) (some ⟨l,o.set i (.list (xs++[b])),.d .none::r⟩) | _=>none)
 | .join=>Yl (asS a) (asL b) (fun x xs=>(XV xs).bind fun ys=>ifO (x.length≤16∧(ys.map (·.length)).sum+ys.length≤1048576) (some ⟨l,o,.d (.str (Txt.join x ys))::r⟩)) none
 | .split=>Yl (asS a) (asS b) (fun x y=>ifO (y.length≠0∧x.length≤900000) (some ⟨l,o,.d (.list ((Txt.split x y).map .str))::r⟩)) none
 | .startswith=>Yl (asS a) (asS b) (fun x y=>some ⟨l,o,.d (.bool (Txt.startswith x y))::r⟩) none
 | .get=>(match r with | .d (.dict es)::r=>(asS a).bind fun x=>(match b with | .d d=>some ⟨l,o,.d ((Yb x es).getD d)::r⟩ | _=>none) | _=>none)
noncomputable def Yt (p:Pr):St→Option St
 | ⟨l,o,s⟩=>(match p with
  | .lit d=>some ⟨l,o,.d d::s⟩
  | .loc i=>(ZD i l).map fun a=>⟨l,o,a::s⟩
  | .cell i=>(match o[i]? with | some (.cell (some a))=>some ⟨l,o,a::s⟩ | _=>none)
  | .list n=>(Zhl n s).map fun q=>⟨l,o,.d (.list q.1)::q.2⟩
  | .listO n=>(Zhr n s).map fun q=>⟨l,o++[.list q.1],.own o.length::q.2⟩
  | .tup n=>(Zhl n s).map fun q=>⟨l,o,.d (.tuple q.1)::q.2⟩
  | .dict0=>some ⟨l,o++[.dict [] 0],.own o.length::s⟩
  | p=>(match s with
   | []=>none
   | b::s=>(match p with
    | .un op=>(unA op b).map fun x=>⟨l,o,x::s⟩
    | .bi f=>biA f l o b s
    | .st i=>slF i b l o s
    | .pop=>some ⟨l,o,s⟩
    | p=>(match s with
     | []=>none
     | a::r=>(match p with
      | .bin op=>Zqx l o r op a b
      | .inp op=>(match op with | .Add=>Yl (asI a) (asI b) (fun x y=>some ⟨l,o,.d (.int (x+y))::r⟩) none | _=>none)
      | .cmp op=>(Zhu op a b).map fun z=>⟨l,o,.d (.bool z)::r⟩
      | .sub=>(Zb4 o b a).map fun x=>⟨l,o,x::r⟩
      | .cut=>(ZoE o b a).map fun x=>⟨l,o,x::r⟩
      | .me m=>meA m l o b a r
      | .set=>(match r with
       | v::r=>(match a with | .own j=>(Wo o j).bind fun xs=>(asI b).bind fun n=>(ZpJ n xs v).map fun ys=>⟨l,o.set j (.list ys),r⟩ | _=>none)
       | []=>none)
      | _=>none)))))
def PrJ (c:Cx) (p:Pr) (st:St) (Q:St→Prop):Prop:=match p with
 | .bin op=>OJ2 c (binaryOp op) st Q
 | .inp op=>OJ2 c (inplaceOp op) st Q
 | .cmp op=>OJ2 c (compareOp op) st Q
 | .un op=>OJ1 c (unaryOp op) st Q
 | .set=>TIJ c st Q
 | _=>False
noncomputable def orE {α γ:Type}(x:Option α) (u:α→Option γ) (v:Option γ):Option γ:=match x with
 | some a=>u a
 | none=>v
noncomputable def ZdG (o:List O) (i:Nat):Option (Addr×Nat):=match o[i]? with
 | some (.inst C j)=>some (C,j)
 | _=>none
noncomputable def Wh (o:List O) (i:Nat):Option (List (Str×A)):=match o[i]? with
 | some (.dict es _)=>some es
 | _=>none
noncomputable def gaF (x:Str) (cs:List Addr):St→Option St
 | ⟨l,o,a::s⟩=>(match a with
  | .d (.inst C es)=>ifO (cs.contains C=true) ((YH es x).bind fun d=>ifO (Zbw (.d d)=true) (some ⟨l,o,.d d::s⟩))
  | .own i=>(ZdG o i).bind fun z=>ifO (cs.contains z.1=true) ((Wh o z.2).bind fun es=>(YH es x).bind fun a=>ifO (Zbw a=true) (some ⟨l,o,a::s⟩))
  | _=>none)
 | _=>none
noncomputable def saF (x:Str) (cs:List Addr):St→Option (Nat→St)
 | ⟨l,o,b::a::s⟩=>(match b with
  | .own i=>(ZdG o i).bind fun z=>ifO (cs.contains z.1=true) ((Wh o z.2).bind fun es=>ifO (es.length≤1000) (some fun ep=>⟨l,o.set z.2 (.dict (Yj es x a) ep),s⟩))
  | _=>none)
 | _=>none
noncomputable def ZqH:St→Bool
 | ⟨_,o,.own i::_⟩=>(Wh o i).isSome
 | _=>false
noncomputable def mdF (m:Md):St→Option (Nat→St)
 | ⟨l,o,b::a::s⟩=>(match m with
  | .pop1=>(match a with
   | .own i=>(asS b).bind fun x=>(Wh o i).bind fun es=>(YH es x).bind fun v=>ifO (es.length≤1000) (some fun ep=>⟨l,o.set i (.dict (Xq es x) ep),v::s⟩)
   | _=>none)
  | .pop2=>(match s with
   | .own i::s=>(asS a).bind fun x=>(Wh o i).bind fun es=>(match YH es x with
    | some v=>ifO (es.length≤1000) (some fun ep=>⟨l,o.set i (.dict (Xq es x) ep),v::s⟩)
    | none=>some fun j=>⟨l,o,b::s⟩)
   | _=>none)
  | .upd=>(match a with
   | .own i=>(match b with
    | .d (.dict more)=>(Wh o i).bind fun es=>ifO (es.length+more.length≤1000) (some fun ep=>⟨l,o.set i (.dict (Zcv es (more.map fun e=>(e.1,A.d e.2))) ep),.d .none::s⟩)
    | _=>none)
   | _=>none))
 | _=>none
noncomputable def upF:Fl→Fw
 | .next=>.next
 | .brk=>.brk
 | .cont=>.cont
 | .ret=>.ret
noncomputable def Znp:List Sl→List D→St→Option St
 | [],[],st=>some st
 | s::ss,d::ds,⟨l,o,r⟩=>(slF s (.d d) l o r).bind fun st1=>Znp ss ds st1
 | _,_,_=>none
noncomputable def tgF (t:Tg) (a:A):St→Option St
 | ⟨l,o,r⟩=>(match t with
  | .one s=>slF s a l o r
  | .tup ss=>(match a with | .d (.tuple ds)=>Znp ss ds ⟨l,o,r⟩ | _=>none))
noncomputable abbrev Kp:=Option (Nat×List A)
def okS (k:Kp) (st:St):Prop:=match k with
 | none=>True
 | some (j,xs)=>st.own[j]?=some (.list xs)
def okP (k:Kp) (st:St) (P:Prop):Prop:=match k with
 | none=>P
 | some (j,xs)=>st.own[j]?=some (.list xs)∧P
noncomputable def ZnQ:D→Bool
 | .tuple _=>true
 | _=>false
noncomputable def itD:D→Option (List D)
 | .list xs=>some xs
 | .range m n=>ifO (ZeE m n) (some ((List.range (n - m).toNat).map fun (i:Nat)=>D.int (m+i)))
 | .str x=>some (ZbQ x)
 | .bytes x=>some (Zjo x)
 | .tuple xs=>some xs
 | .dict es=>some (es.map fun e=>D.str e.1)
 | .view .values es=>some (es.map fun e=>e.2)
 | _=>none
noncomputable def itF (s:Sr) (t:Tg):St→Option (Kp×List A×St)
 | ⟨l,o,a::r⟩=>(match s with
  | .val=>(match t with
   | .one _=>(match a with
    | .d x=>(itD x).map fun xs=>(none,xs.map .d,⟨l,o,r⟩)
    | .own j=>(Wo o j).map fun xs=>(some (j,xs),xs,⟨l,o,r⟩)
    | .view _ _=>none)
   | .tup _=>(match a with
    | .d (.list xs)=>ifO (xs.all ZnQ=true) (some (none,xs.map .d,⟨l,o,r⟩))
    | .d (.view .items es)=>some (none,(es.map fun e=>[D.str e.1,e.2]).map fun x=>.d (.tuple x),⟨l,o,r⟩)
    | _=>none))
  | .zip=>(match r with
   | b::r=>Yl (asL b) (asL a) (fun xs ys=>some (none,((xs.zip ys).map fun q=>[q.1,q.2]).map fun x=>.d (.tuple x),⟨l,o,r⟩)) none
   | []=>none)
  | .enum=>(asL a).map fun xs=>(none,(xs.zipIdx.map fun q=>[D.int (q.2:Int),q.1]).map fun x=>.d (.tuple x),⟨l,o,r⟩))
 | _=>none
noncomputable abbrev Bd:=St→(Fw→St→Prop)→Prop
noncomputable def ZfH (t:Tg) (B:Bd) (k:Kp):List A→St→(Fw→St→Prop)→Prop
 | [],st,Q=>okP k st (Q .next st)
 | x::xs,st,Q=>okP k st (opt (tgF t x st) fun st1=>B st1 (lpW (fun st2=>ZfH t B k xs st2 Q) Q))
noncomputable def WhN (T B:Bd) (Q:Fw→St→Prop):Nat→St→Prop
 | 0,_=>False
 | n+1,st=>T st (onB fun z st1=>Sel z (B st1 (lpW (WhN T B Q n) Q)) (Q .next st1))
inductive WhI (T B:Bd) (Q:Fw→St→Prop) (st:St):Prop
 | mk {β:Type} (L:β→List (Nat×A)) (ow:β→List O) (k:List A) (I:β→Prop) (μ:β→Nat) (b0:β) (hst:At (L b0) (ow b0) k st) (h0:I b0)
  (turn:∀b,I b→T ⟨L b,ow b,k⟩ (onB fun z st1=>Sel z (B st1 (lpW (fun st2=>∃b',I b'∧μ b'<μ b∧At (L b') (ow b') k st2) Q)) (Q .next st1)))
inductive LpI (t:Tg) (B:Bd) (kp:Kp) (Q:Fw→St→Prop) (xs:List A) (st:St):Prop
 | mk {α β:Type} (as:List α) (enc:α→A) (L:β→List (Nat×A)) (ow:β→List O) (k:List A) (I:List α→β→Prop) (b0:β) (hx:xs=as.map enc) (hst:At (L b0) (ow b0) k st) (h0:I as b0) (hok:∀b l,okS kp ⟨l,ow b,k⟩)
  (turn:∀x xs b,I (x::xs) b→opt (tgF t (enc x) ⟨L b,ow b,k⟩) fun st1=>B st1 (lpW (fun st2=>∃b',I xs b'∧At (L b') (ow b') k st2) Q)) (fin:∀b,I [] b→Q .next ⟨L b,ow b,k⟩)
noncomputable def Za5:List Nat→List (Nat×A)→Option (List (Nat×A))
 | [],_=>some []
 | i::is,l=>(ZD i l).bind fun a=>(Za5 is l).map fun r=>(i,a)::r
noncomputable def Zw {α β:Type}(f:α→Option β):List α→Option (List β)
 | []=>some []
 | x::xs=>(f x).bind fun y=>(Zw f xs).map (y::·)
noncomputable def UV {α β:Type}(f:α→Option β) (e:Str×α):Option (Str×β):=(f e.2).map fun d=>(e.1,d)
noncomputable def XU (m:Nat):Nat→List O→A→Option D
 | _,_,.d x=>some x
 | n+1,own,.own i=>ifO (m≤i) (orE (Wo own i) (fun xs=>(Zw (XU m n own) xs).map .list) (orE (Wh own i) (fun es=>(Zw (UV (XU m n own)) es).map .dict) ((ZdG own i).bind fun z=>ifO (m≤z.2) ((Wh own z.2).bind fun es=>(Zw (UV (XU m n own)) es).map (.inst z.1)))))
 | _,_,_=>none
noncomputable def Wu (m:Nat) (own:List O) (a:A):Option A:=match a with
 | .d x=>some (.d x)
 | .own i=>if i<m then some (.own i) else (XU m 9 own (.own i)).map .d
 | .view k i=>ifO (i<m) (some (.view k i))
noncomputable def ZgA (m:Nat) (own:List O) (o:O):Option O:=match o with
 | .list xs=>(Zw (Wu m own) xs).map .list
 | .dict es ep=>(Zw (UV (Wu m own)) es).map fun es=>.dict es ep
 | .inst c j=>ifO (j<m) (some (.inst c j))
 | .cell none=>some (.cell none)
 | .cell (some a)=>(Wu m own a).map fun a=>.cell (some a)
 | .iter=>some .iter
 | .dead=>some .dead
noncomputable def Wl (is:List Nat) (m:Nat):St→Option St
 | ⟨l,o,[]⟩=>ifO (m≤o.length) ((Za5 is l).bind fun l'=>(Zw (fun q:Nat×A=>(Wu m o q.2).map fun a=>(q.1,a)) l').bind fun l2=>(Zw (ZgA m o) (o.take m)).map fun o'=>⟨l2,o',[]⟩)
 | _=>none
def Zdy (z:Bool) (B:Bd) (st:St) (g:Option Int→St→Prop):Prop:=match z with
 | false=>g none st
 | true=>B st (nx fun st1=>match st1 with
  | ⟨l,o,.d (.int i)::r⟩=>g (some i) ⟨l,o,r⟩
  | _=>False)
noncomputable def ClN:Nat→List O→Prop
 | 0,cl=>cl=[]
 | n+1,cl=>∃b r,cl = .cell b::r∧ClN n r
noncomputable def emG {α:Type}(n:Nat) (R:α→Option D→Prop) (x:α) (own:List O):Fw→St→Prop
 | .next,st=>∃y cl,R x (some y)∧st.stk=[.d y]∧st.own=own++cl∧ClN n cl
 | .cont,st=>R x none∧st.stk=[]∧∃cl,st.own=own++cl∧ClN n cl
 | _,_=>False
noncomputable def Zhz {α:Type}(R:α→Option D→Prop):List α→List D→Prop
 | [],ys=>ys=[]
 | x::xs,ys=>∃z zs,R x z∧Zhz R xs zs∧ys=z.toList++zs
inductive CompI (c:Cx) (t:Tg) (B:Cx→Bd) (n:Nat) (xs:List A) (st st2:St) (o:List O) (P:List D→Prop):Prop
 | mk {α:Type} (as:List α) (enc:α→A) (R:α→Option D→Prop) (hs:st2=st) (hx:xs=as.map enc) (hl:as.length≤1000000)
  (turn:∀c',c'.G=c.G→c'.fuel=c.fuel→∀x∈as,∀l ys cl,ClN n cl→opt (tgF t (enc x) ⟨l,o++[.list ys]++cl,[]⟩) fun st1=>B c' st1 (emG n R x (o++[.list ys])))
  (q:∀ys,Zhz R as ys→P ys)
noncomputable def wp (c:Cx):C→St→(Fw→St→Prop)→Prop
 | .bad,_,_=>False
 | .nil,st,Q=>Q .next st
 | .ret,st,Q=>Q .ret st
 | .brk,st,Q=>Q .brk st
 | .cont,st,Q=>Q .cont st
 | .tru,⟨l,o,s⟩,Q=>(match s with | a::r=>Zdh (Zpw o a) (fun z=>Q (.b z) ⟨l,o,r⟩) (Stop (BJ c ⟨l,o,a::r⟩ fun z st=>Q (.b z) st)) | []=>False)
 | .o p k,st,Q=>Zdh (Yt p st) (fun st1=>wp c k st1 Q) (Stop (PrJ c p st fun st1=>wp c k st1 Q))
 | .slc x y z a b d k,st,Q=>Zdy x (fun st P=>wp c a st P) st fun i st1=>Zdy y (fun st P=>wp c b st P) st1 fun j st2=>Zdy z (fun st P=>wp c d st P) st2 fun u st3=>(match st3 with | ⟨l,o,s⟩=>wp c k ⟨l,o,.d (.slice i j u)::s⟩ Q)
 | .dict ks vs k,⟨l,o,s⟩,Q=>wp c vs ⟨l,o++[.dict [] 0],s⟩ (nx fun st=>(match st with | ⟨l1,o1,s1⟩=>opt (Zhr ks.length s1) fun q=>(match q with | (as,r)=>(match o1[o.length]? with | some (.dict [] 0)=>∀ep,wp c k ⟨l1,o1.set o.length (.dict (ks.zip as) ep),.own o.length::r⟩ Q | _=>False))))
 | .boo z a b k,st,Q=>wp c a st (nx fun st1=>(match st1 with
  | ⟨l,o,.d (.bool y)::r⟩=>Sel (y==z) (wp c b ⟨l,o,r⟩ (nxt (fun st2=>wp c k st2 Q) Q)) (wp c k ⟨l,o,.d (.bool y)::r⟩ Q)
  | _=>False))
 | .call n k,st,Q=>Stop (CJ c n st fun st=>wp c k st Q)
 | .bi b as k,st,Q=>wp c as st (nx fun st1=>opt (Yt (.bi b) st1) fun st2=>wp c k st2 Q)
 | .mth m as k,st,Q=>Ok (Zpj m st) (wp c as st (nx fun st1=>opt (Yt (.me m) st1) fun st2=>wp c k st2 Q))
 | .meth x n as k,st,Q=>Stop (MJ c x st fun m st1=>wp c as st1 (nx fun st2=>CJ c (m+n) st2 fun st3=>wp c k st3 Q))
 | .attr x cs k,st,Q=>Zdh (gaF x cs st) (fun st1=>wp c k st1 Q) (Stop (GaJ c x st fun st=>wp c k st Q))
 | .stA x cs k,st,Q=>Zdh (saF x cs st) (fun f=>∀ep,wp c k (f ep) Q) (Stop (AtJ c x st fun st=>wp c k st Q))
 | .mtd m as k,st,Q=>Ok (ZqH st) (wp c as st (nx fun st1=>opt (mdF m st1) fun f=>∀ep,wp c k (f ep) Q))
 | .frz a k,⟨l,o,s⟩,Q=>wp c a ⟨l,o,s⟩ (nx fun st1=>∃os x d,st1=⟨l,o++os,x::s⟩∧Frz (o++os) o.length x d∧wp c k ⟨l,o,.d d::s⟩ Q)
 | .raw ts k,st,Q=>Stop (XJ c ts st fun f st1=>nxt (fun st2=>wp c k st2 Q) Q (upF f) st1)
 | .sel t a b k,st,Q=>wp c t st (onB fun z st1=>Sel z (wp c a st1 (nxt (fun st2=>wp c k st2 Q) Q)) (wp c b st1 (nxt (fun st2=>wp c k st2 Q) Q)))
 | .wh n t b k,st,Q=>(match n with
  | 0=>WhI (fun st P=>wp c t st P) (fun st P=>wp c b st P) (nxt (fun st2=>wp c k st2 Q) Q) st
  | n+1=>WhN (fun st P=>wp c t st P) (fun st P=>wp c b st P) (nxt (fun st2=>wp c k st2 Q) Q) n st)
 | .for_ z s t b k,st,Q=>opt (itF s t st) fun q=>(match q with | (kp,xs,st1)=>(match z with
  | true=>ZfH t (fun st P=>wp c b st P) kp xs st1 (nxt (fun st2=>wp c k st2 Q) Q)
  | false=>LpI t (fun st P=>wp c b st P) kp (nxt (fun st2=>wp c k st2 Q) Q) xs st1))
 | .notT t,st,Q=>wp c t st (onB fun z st1=>Q (.b !z) st1)
 | .andT s t,st,Q=>wp c s st (onB fun z st1=>Sel z (wp c t st1 Q) (Q (.b false) st1))
 | .orT s t,st,Q=>wp c s st (onB fun z st1=>Sel z (Q (.b true) st1) (wp c t st1 Q))
 | .mark is k,⟨l,o,s⟩,Q=>opt (Za5 is l) fun l'=>wp c k ⟨l',o,s⟩ Q
 | .blk is a k,⟨l,o,s⟩,Q=>wp c a ⟨l,o,s⟩ fun f st1=>(match f with
  | .next=>opt (Wl is o.length st1) fun st2=>wp c k st2 Q
  | _=>False)
 | .comp s n m it t b k,⟨l,o,s0⟩,Q=>Ok (n==0||o.length==m) (wp c it ⟨l,o,s0⟩ (nx fun st1=>opt (itF s t st1) fun q=>(match q with | (_,xs,st2)=>CompI c t (fun c' st P=>wp c' b st P) n xs ⟨l,o,s0⟩ st2 o fun ds=>wp c k ⟨l,o,.d (.list ds)::s0⟩ Q)))
end
section
theorem Stop.out {P:Prop}(h:Stop P):P:=by obtain ⟨h⟩:=h;exact h
theorem Xh {α β γ:Type}{x:Option α}{y:Option β}{f:α→β→Option γ}{e:Option γ}{r:γ}(h:Yl x y f e=some r):(∃a b,x=some a∧y=some b∧f a b=some r)∨e=some r:=by
 induction x with
 | none=>exact .inr h
 | some a=>induction y with
  | none=>exact .inr h
  | some b=>exact .inl ⟨a,b,rfl,rfl,h⟩
theorem YZ {γ:Type}{p:Prop} [Decidable p] {x:Option γ}{r:γ}(h:ifO p x=some r):p∧x=some r:=by
 unfold ifO at h;by_cases hp:p
 ·rw [if_pos hp] at h;exact ⟨hp,h⟩
 ·rw [if_neg hp] at h;exact Zo h
theorem ZB {γ:Type}{p:Prop} [Decidable p] {x:Option γ}(h:p):ifO p x=x:=if_pos h
theorem Xu {a:A}{x:Int}(h:asI a=some x):a = .d (.int x):=by
 induction a using A.casesOn with
 | d y=>induction y using D.casesOn <;> first | exact Zo h | exact Kc h▸rfl
 | _=>exact Zo h
theorem YQ {a:A}{x:Str}(h:asS a=some x):a = .d (.str x):=by
 induction a using A.casesOn with
 | d y=>induction y using D.casesOn <;> first | exact Zo h | exact Kc h▸rfl
 | _=>exact Zo h
theorem WZ {a:A}{x:List D}(h:asL a=some x):a = .d (.list x):=by
 induction a using A.casesOn with
 | d y=>induction y using D.casesOn <;> first | exact Zo h | exact Kc h▸rfl
 | _=>exact Zo h
theorem ZlB {a:A}{s:Option Int×Option Int×Option Int}(h:ZpL a=some s):a = .d (.slice s.1 s.2.1 s.2.2):=by
 induction a using A.casesOn with
 | d y=>induction y using D.casesOn <;> first | exact Zo h | exact Kc h▸rfl
 | _=>exact Zo h
theorem Zfb {a:A}{x:Bool}(h:asB a=some x):a = .d (.bool x):=by
 induction a using A.casesOn with
 | d y=>induction y using D.casesOn <;> first | exact Zo h | exact Kc h▸rfl
 | _=>exact Zo h
section
variable {γ:Type}{a b:A}{e:Option γ}{r:γ}
theorem ZoB {f:Int→Int→Option γ}(h:Yl (asI a) (asI b) f e=some r):(∃x y,a = .d (.int x)∧b = .d (.int y)∧f x y=some r)∨e=some r :=
 (Xh h).imp (fun zq0=>by refine Zc zq0 fun x y h1 h2 q=>?_;exact ⟨x,y,Xu h1,Xu h2,q⟩) id
theorem Zos {f:Str→Str→Option γ}(h:Yl (asS a) (asS b) f e=some r):(∃x y,a = .d (.str x)∧b = .d (.str y)∧f x y=some r)∨e=some r :=
 (Xh h).imp (fun zq1=>by refine Zc zq1 fun x y h1 h2 q=>?_;exact ⟨x,y,YQ h1,YQ h2,q⟩) id
theorem Zn4 {f:List D→List D→Option γ}(h:Yl (asL a) (asL b) f e=some r):(∃x y,a = .d (.list x)∧b = .d (.list y)∧f x y=some r)∨e=some r :=
 (Xh h).imp (fun zq2=>by refine Zc zq2 fun x y h1 h2 q=>?_;exact ⟨x,y,WZ h1,WZ h2,q⟩) id
theorem Zlf {f:Bool→Bool→Option γ}(h:Yl (asB a) (asB b) f e=some r):(∃x y,a = .d (.bool x)∧b = .d (.bool y)∧f x y=some r)∨e=some r :=
 (Xh h).imp (fun zq3=>by refine Zc zq3 fun x y h1 h2 q=>?_;exact ⟨x,y,Zfb h1,Zfb h2,q⟩) id
theorem ZC {P:Prop}{x:γ}(h:none=some x):P:=nomatch h
theorem ZS {P:γ→Prop}{x y:γ}(h:some x=some y) (q:P y):P x:=Kc h▸q
theorem ZO {P:Prop}{p:Prop} [Decidable p] {x:Option γ}{y:γ}(h:ifO p x=some y) (k:p→x=some y→P):P:=k (YZ h).1 (YZ h).2
theorem Zv {P:Prop}{α:Type}{x:Option α}{g:α→Option γ}{y:γ}(h:x.bind g=some y) (k:∀a,x=some a→g a=some y→P):P:=by
 refine Zb (Zc0 h) fun a h1 h2=>?_;exact k a h1 h2
theorem YK {P:Prop}{α:Type}{x:Option α}{g:α→γ}{y:γ}(h:x.map g=some y) (k:∀a,x=some a→some (g a)=some y→P):P:=by
 refine Zb (Z9 h) fun a h1 zo1=>?_;subst zo1;exact k a h1 rfl
theorem Zkj {P:A→Prop}(h:Zc9 a=true) (k:P (.d .none)):P a:=by
 have e:a = .d .none:=by induction a using A.casesOn with
  | d x=>induction x using D.casesOn <;> first | rfl | exact YU h
  | _=>exact YU h
 exact e▸k
theorem Zd6 {P:Prop}{x:Bool}{u v:Option γ}(h:(match x with | true=>u | false=>v)=some r) (h1:x=true→u=some r→P) (h2:v=some r→P):P:=by
 induction x using Bool.casesOn
 ·exact h2 h
 ·exact h1 rfl h
end
theorem Yw {o:List O}{i:Nat}{xs:List A}(h:Wo o i=some xs):o[i]?=some (.list xs):=by
 unfold Wo at h;induction e:o[i]? with
 | none=>rw [e] at h;exact Zo h
 | some y =>
  rw [e] at h;cases y with
  | list zs=>exact Kc h▸rfl
  | _=>exact Zo h
theorem ZlV {o:List O}{i:Nat}{xs:List A}(h:o[i]?=some (.list xs)):Wo o i=some xs:=by
 unfold Wo;rw [h]
theorem ZeV {o:List O}{a:A}{xs:List A}(h:lsA o a=some xs):ZaL o a xs:=by
 induction a using A.casesOn with
 | d y=>induction y using D.casesOn <;> first | exact Zo h | exact Kc h▸rfl
 | own i=>exact Yw h
 | view k i=>exact Zo h
theorem ZaD {x:D}{z:Bool}(h:Zqj x=some z):ZbT x∧Xk x=z:=by
 induction x using D.casesOn <;> cases h <;> exact ⟨trivial,rfl⟩
theorem ZdO {n:Nat}(ih:∀{x y:D},Zn3 n x y=true→Fit n x y):∀{xs ys:List D},fitLB n xs ys=true→Fits n xs ys:=by
 intro xs;induction xs with
 | nil=>intro ys j;induction ys using LLc <;> trivial
 | cons x xs ihx =>
  intro ys h;induction ys using LLc with
  | nil=>trivial
  | cons y ys=>exact ⟨ih (Yp h).1,ihx (Yp h).2⟩
theorem Zkl:∀{n:Nat}{x y:D},Zn3 n x y=true→Fit n x y:=by
 intro n;induction n with
 | zero=>intro x y h;induction x using D.casesOn <;> first | (exact YU h;done) | (induction y using D.casesOn <;> first | trivial | cases h)
 | succ n ih=>intro x y h;induction x using D.casesOn <;> first | (exact YU h;done) | (induction y using D.casesOn <;> first | trivial | exact ZdO ih h | cases h)
theorem ZhM {n:Nat}{xs ys:List D}(h:fitLB n xs ys=true):Fits n xs ys:=ZdO Zkl h
theorem ZbV:∀{ds:List D}{xs:List Str},XV ds=some xs→ds=xs.map .str:=by
 intro ds;induction ds with
 | nil=>intro xs h;obtain rfl:=Kc h;rfl
 | cons d ds ih =>
  intro xs h;induction d using D.casesOn <;> first | (exact Zo h;done) | skip
  refine Zb (Z9 h) fun ys h1 h2=>?_;subst h2;rw [ih h1];rfl
theorem Zhi:∀{ds:List D}{xs:List Int},Ua ds=some xs→ds=xs.map .int:=by
 intro ds;induction ds with
 | nil=>intro xs h;obtain rfl:=Kc h;rfl
 | cons d ds ih =>
  intro xs h;induction d using D.casesOn <;> first | (exact Zo h;done) | skip
  refine Zb (Z9 h) fun ys h1 h2=>?_;subst h2;rw [ih h1];rfl
theorem Zbh:∀xs:List Str,XV (xs.map .str)=some xs:=by
 intro xs;induction xs with
 | nil=>rfl
 | cons x xs ih=>show (XV (xs.map .str)).map _=_;rw [ih];rfl
section
variable {c:Cx}{l:List (Nat×A)}{o:List O}{r:List A}{a b:A}{f:St→Prop}{st:St}
theorem ZnJ {f:Bool→St→Prop}{z:Bool}(h:Zpw o a=some z) (q:f z ⟨l,o,r⟩):BJ c ⟨l,o,a::r⟩ f:=by
 have q':∀{y:Bool},some y=some z→f y ⟨l,o,r⟩:=fun h=>Kc h▸q;induction a using A.casesOn with
 | d x =>
  induction x using D.casesOn with
  | none=>exact ZoA (q' h)
  | bool b=>exact YT (q' h)
  | int i=>exact Zps (q' h)
  | str x=>exact ZO h fun h1 h=>Zmx h1 (q' h)
  | list xs=>exact ZO h fun h1 h=>ZmX (xs:=xs.map .d) rfl (by rw [List.length_map];exact h1) (by rw [List.isEmpty_map];exact q' h)
  | _=>exact ZC h
 | own i=>exact Zv h fun xs h0 h=>ZO h fun h1 h=>ZmX (a:=.own i) (Yw h0) h1 (q' h)
 | view k i=>exact ZC h
section
variable {γ:Type}{e:Option γ}{y:γ}{g:Value→Value→Sem Value}
theorem Wi {k:Int→Int→Option γ}(h:Yl (asI a) (asI b) k e=some y) (h1:∀x z,k x z=some y→OJ2 c g ⟨l,o,.d (.int z)::.d (.int x)::r⟩ f) (h2:e=some y→OJ2 c g ⟨l,o,b::a::r⟩ f):OJ2 c g ⟨l,o,b::a::r⟩ f :=
 (ZoB h).elim (fun q=>by obtain ⟨x,z,rfl,rfl,q⟩:=q;exact h1 x z q) h2
theorem Zci {k:Str→Str→Option γ}(h:Yl (asS a) (asS b) k e=some y) (h1:∀x z,k x z=some y→OJ2 c g ⟨l,o,.d (.str z)::.d (.str x)::r⟩ f) (h2:e=some y→OJ2 c g ⟨l,o,b::a::r⟩ f):OJ2 c g ⟨l,o,b::a::r⟩ f :=
 (Zos h).elim (fun q=>by obtain ⟨x,z,rfl,rfl,q⟩:=q;exact h1 x z q) h2
theorem ZmA {k:List D→List D→Option γ}(h:Yl (asL a) (asL b) k e=some y) (h1:∀x z,k x z=some y→OJ2 c g ⟨l,o,.d (.list z)::.d (.list x)::r⟩ f) (h2:e=some y→OJ2 c g ⟨l,o,b::a::r⟩ f):OJ2 c g ⟨l,o,b::a::r⟩ f :=
 (Zn4 h).elim (fun q=>by obtain ⟨x,z,rfl,rfl,q⟩:=q;exact h1 x z q) h2
theorem Zjb {k:Bool→Bool→Option γ}(h:Yl (asB a) (asB b) k e=some y) (h1:∀x z,k x z=some y→OJ2 c g ⟨l,o,.d (.bool z)::.d (.bool x)::r⟩ f) (h2:e=some y→OJ2 c g ⟨l,o,b::a::r⟩ f):OJ2 c g ⟨l,o,b::a::r⟩ f :=
 (Zlf h).elim (fun q=>by obtain ⟨x,z,rfl,rfl,q⟩:=q;exact h1 x z q) h2
end
theorem Zm2 {op:Operator}(h:Zqx l o r op a b=some st) (q:f st):OJ2 c (binaryOp op) ⟨l,o,b::a::r⟩ f:=by
 cases op with
 | Add=>exact Wi h (fun x y h=>Zqc (ZS h q)) fun h=>Zci h (fun x y h=>ZO h fun h1 h=>ZpP h1 (ZS h q)) fun h=>(Xh h).elim (fun h=>by
  refine Zc h fun x y q1 q2 h=>?_;exact ZO h fun h1 h=>Zns (ZeV q1) (ZeV q2) h1 (ZS h q)) ZC
 | Sub=>exact Wi h (fun x y h=>ZpV (ZS h q)) ZC
 | Mult=>exact Wi h (fun x y h=>ZO h fun h1 h=>Zpm (Zl8 (by omega) (by omega)) (ZS h q)) ZC
 | Mod=>exact Wi h (fun x y h=>ZO h fun h1 h=>ZpD h1 (ZS h q)) ZC
 | FloorDiv=>exact Wi h (fun x y h=>ZO h fun h1 h=>ZpC h1.1 h1.2 (ZS h q)) ZC
 | _=>exact ZC h
theorem Zcm {x y:List D}{z:Bool}(h:eqL x y=some z):Fits 20 x y∧deqs x y=z:=by
 induction y using LLc with
 | nil=>obtain rfl:=Kc h;exact ⟨ZiV,ZhE⟩
 | cons y ys=>refine oza (YZ h) fun h1 h2=>?_;obtain rfl:=Kc h2;exact ⟨ZhM h1,rfl⟩
theorem Zpt {b:D}{z:Bool}(h:inA a (.d b)=some z) (q:f ⟨l,o,.d (.bool z)::r⟩):OJ2 c (compareOp .In) ⟨l,o,.d b::a::r⟩ f:=by
 have q':∀{y:Bool},some y=some z→f ⟨l,o,.d (.bool y)::r⟩:=fun h=>Kc h▸q;induction b using D.casesOn with
 | list xs =>
  have h:(match asS a with
   | some x=>(XV xs).map fun ys=>ys.any (· == x)
   | none=>(asI a).bind fun x=>(Ua xs).map fun ys=>ys.any (· == x))=some z:=h
  induction hs:asS a <;> rw [hs] at h
  ·exact Zv h fun x h1 h=>YK h fun ys h2 h=>by rw [Xu h1,Zhi h2];exact ZkU (q' h)
  ·exact YK h fun ys h2 h=>by rw [YQ hs,ZbV h2];exact Zky (q' h)
 | dict es=>exact YK h fun x h1 h=>by rw [YQ h1];exact Zln (q' h)
 | _=>exact ZC h
theorem ZoY {op:CmpOp}{z:Bool}(h:Zhu op a b=some z) (q:f ⟨l,o,.d (.bool z)::r⟩):OJ2 c (compareOp op) ⟨l,o,b::a::r⟩ f:=by
 have q':∀{y:Bool},some y=some z→f ⟨l,o,.d (.bool y)::r⟩:=fun h=>Kc h▸q;clear q;cases op with
 | Eq=>exact Wi h (fun j j h=>ZqP (q' h)) fun h=>Zci h (fun j j h=>ZrE (q' h)) fun h=>ZmA h (fun j j h=>Zrq (Zcm h).1 (q' (congrArg some (Zcm h).2))) ZC
 | NotEq=>exact Wi h (fun j j h=>Zib (q' h)) fun h=>Zci h (fun j j h=>ZqT (q' h)) fun h=>Zjb h (fun j j h=>Zrd (q' h)) fun h=>ZmA h (fun j j h=>YK h fun y h8 h=>Zrm (Zcm h8).1 (q' ((congrArg (fun z=>some !z) (Zcm h8).2).trans h))) ZC
 | Lt=>exact Wi h (fun j j h=>ZrG (q' h)) fun h=>Zci h (fun j j h=>Zq0 (q' h)) ZC
 | LtE=>exact Wi h (fun j j h=>ZqK (q' h)) fun h=>Zci h (fun j j h=>ZrH (q' h)) ZC
 | Gt=>exact Wi h (fun j j h=>ZrO (q' h)) fun h=>Zci h (fun j j h=>Zri (q' h)) ZC
 | GtE=>exact Wi h (fun j j h=>Zrj (q' h)) ZC
 | Is =>
  refine Zd6 h (fun hb h=>Zkj (P:=fun b=>OJ2 c (compareOp .Is) ⟨l,o,b::a::r⟩ f) hb ?_) ZC;induction a using A.casesOn with
  | d x=>exact ZhW (ZaD h).1 (q' (congrArg some (ZaD h).2))
  | own i=>exact ZiH (q' h)
  | view k i=>exact ZC h
 | IsNot =>
  refine Zd6 h (fun hb h=>Zkj (P:=fun b=>OJ2 c (compareOp .IsNot) ⟨l,o,b::a::r⟩ f) hb (YK h fun y h8 h9=>?_)) fun h=>Zjb h (fun j j h=>Zmn (q' h)) ZC;induction a using A.casesOn with
  | d x=>exact Y9 (ZaD h8).1 (q' ((congrArg (fun z=>some !z) (ZaD h8).2).trans h9))
  | own i=>exact U5 (q' ((congrArg (fun z=>some !z) (Kc h8)).trans h9))
  | view k i=>exact ZC h8
 | In =>
  induction b using A.casesOn with
  | d y=>exact Zpt h (q' rfl)
  | _=>exact ZC h
 | NotIn=>exact ZC h
theorem Zpr {op:UnaryOp}{x:A}(h:unA op a=some x) (q:f ⟨l,o,x::r⟩):OJ1 c (unaryOp op) ⟨l,o,a::r⟩ f:=by
 cases op with
 | Not=>refine Zb (Z9 h) fun x h1 zo1=>?_;subst zo1;rw [Zfb h1];exact ZpR q
 | USub=>refine Zb (Z9 h) fun x h1 zo2=>?_;subst zo2;rw [Xu h1];exact Zpl q
 | _=>exact Zo h
theorem ZcW {α:Type}{n:Int}{xs:List α}{x:α}(h:UN n xs=some x):(0≤n∧n<2 ^ 63∧xs[n.toNat]?=some x)∨(n<0 ∧ -(xs.length:Int)≤n ∧ -(2 ^ 63)≤n∧xs[(n+xs.length).toNat]?=some x):=by
 induction n with
 | ofNat i=>refine oza (YZ h) fun h1 h=>?_;exact .inl ⟨Int.natCast_nonneg _,Int.ofNat_lt.mpr h1,h⟩
 | negSucc i =>
  refine oza (YZ h) fun h1 h=>?_;refine .inr ⟨Int.negSucc_lt_zero _,by omega,by lia,?_⟩;rw [show (Int.negSucc i+xs.length).toNat=xs.length - (i+1) by omega];exact h
theorem ZnW {v sl:Expr}{x:A}(hs:∀a b,subscripted sl false a b=operate [a,b] (getItem a b)) (h:Zb4 o b a=some x) (q:f ⟨l,o,x::r⟩):OJ2 c (subscriptTail v sl) ⟨l,o,b::a::r⟩ f:=by
 have q':∀{y:A},some y=some x→f ⟨l,o,y::r⟩:=fun h=>Kc h▸q;induction a using A.casesOn with
 | d y =>
  induction y using D.casesOn with
  | str xs =>
   exact Zv h fun n h1 h=>YK h fun ch h2 h=>by
    rw [Xu h1];exact (ZcW h2).elim (fun z=>ZpN z.1 z.2.1 (by rw [←Array.getElem?_toList];exact z.2.2) (q' h) hs) fun z=>Znu z.1 z.2.1 z.2.2.1 (by rw [←Array.getElem?_toList];exact z.2.2.2) (q' h) hs
  | list xs =>
   exact Zv h fun n h1 h=>YK h fun d h2 h=>by
    rw [Xu h1];exact (ZcW h2).elim (fun z=>Zn5 z.1 z.2.1 z.2.2 (q' h) hs) fun z=>Zmp z.1 z.2.1 z.2.2.1 z.2.2.2 (q' h) hs
  | tuple xs =>
   exact Zv h fun n h1 h=>ZO h fun h0 h=>YK h fun d h2 h=>by
    rw [Xu h1];exact (ZcW h2).elim (fun z=>Zpc z.1 z.2.1 z.2.2 (q' h) hs) fun z=>absurd h0 (Int.not_le.mpr z.1)
  | dict es=>exact Zv h fun x h1 h=>YK h fun d h2 h=>by rw [YQ h1];exact Zoj h2 (q' h) hs
  | _=>exact ZC h
 | own j =>
  exact Zv h fun xs h0 h=>Zv h fun n h1 h=>by
   rw [Xu h1];exact (ZcW h).elim (fun z=>ZpQ (a:=.own _) (Yw h0) z.1 z.2.1 z.2.2 q hs) fun z=>ZoO (a:=.own _) (Yw h0) z.1 z.2.1 z.2.2.1 z.2.2.2 q hs
 | view k i=>exact ZC h
theorem ZoR {v sl:Expr}{x:A}(hs:∀a b,∃ops,subscripted sl false a b=operate ops (getItem a b)) (h:ZoE o b a=some x) (q:f ⟨l,o,x::r⟩):OJ2 c (subscriptTail v sl) ⟨l,o,b::a::r⟩ f:=by
 have q':∀{y:A},some y=some x→f ⟨l,o,y::r⟩:=fun h=>Kc h▸q;refine Zv h fun s hs0 h=>?_;obtain ⟨lo,hi,st⟩:=s;rw [ZlB hs0];induction st with
 | none =>
  induction a using A.casesOn with
  | d y =>
   induction y using D.casesOn with
   | str xs=>exact ZO h fun h0 h=>Znl h0 (q' h) hs
   | list xs=>exact ZO h fun h0 h=>Zoi h0 (q' h) hs
   | _=>exact ZC h
  | own j=>exact Zv h fun xs h0 h=>Zv h fun ds h1 h=>ZO h fun h3 h=>Zm9 (a:=.own _) (Yw h0) h1 h3 (q' h) hs
  | view k i=>exact ZC h
 | some n =>
  exact ZO h fun hh h=>Zv h fun xs h1 h=>ZO h fun h0 h9=>by
   obtain ⟨e1,e2,e3⟩:=hh;dsimp only at e1 e2;subst e1 e2 e3;rw [WZ h1];exact Zpb h0 (q' h9) hs
theorem Zn8 {v:A}{xs ys:List A}{n:Int}{j:Nat}(h0:Wo o j=some xs) (h:ZpJ n xs v=some ys) (q:f ⟨l,o.set j (.list ys),r⟩):TIJ c ⟨l,o,.d (.int n)::.own j::v::r⟩ f:=by
 induction n with
 | ofNat i=>refine oza (YZ h) fun h1 h=>?_;obtain rfl:=Kc h;exact ZkT (Yw h0) (Int.natCast_nonneg _) (Int.ofNat_lt.mpr h1.2) (Int.ofNat_lt.mpr h1.1) q
 | negSucc i =>
  refine oza (YZ h) fun h1 h=>?_;obtain rfl:=Kc h;refine ZiI (Yw h0) (Int.negSucc_lt_zero _) (by lia) (by lia) ?_;rw [show (Int.negSucc i+xs.length).toNat=xs.length - (i+1) by omega];exact q
theorem Zb2 {m n:Int}(h:ZeE m n):Builtin.Range.small m n 1=true:=by
 refine oza h fun h1 h2=>?_;unfold Builtin.Range.small Builtin.Range.rangeFitsLong Builtin.Range.rangeSize;simp only [show (1:Int) > 0 by decide,if_true,Bool.and_eq_true,decide_eq_true_eq,Bool.or_eq_true];refine ⟨⟨⟨⟨?_,?_⟩,?_⟩,?_⟩,.inr ?_⟩ <;> first | lia | (split <;> lia) | decide
end
end
section
noncomputable def biV:Bi→Value
 | .len=>.builtin "len"
 | .range1=>.type "range"
 | .range2=>.type "range"
 | .list=>.type "list"
noncomputable def biN:Bi→Nat
 | .range2=>2
 | _=>1
noncomputable def meN:Me→Nat
 | .get=>2
 | _=>1
noncomputable def meX:Me→Str
 | .append=>"append"
 | .join=>"join"
 | .split=>"split"
 | .startswith=>"startswith"
 | .get=>"get"
section
variable {c:Cx}{st:St}{l:List (Nat×A)}{o:List O}{k p s:List A}{f P:St→Prop}
theorem Ww {es:List Expr}{v:Value}(h:GJ c es ⟨l,o,p++s⟩ P):GJ c es ⟨l,o,p++.d (.val v)::s⟩ fun st1=>∃q s1,st1.stk=q++.d (.val v)::s1∧q.length=es.length+p.length∧P ⟨st1.loc,st1.own,q++s1⟩:=fun F vs sh pos zq0=>by
 obtain ⟨g,ρ,m,W⟩:=zq0;refine Zc (UF W.stk) fun us ws zo1 h1 h2=>?_;subst zo1;refine Zc h2 fun u ws zo2 e h3=>?_;subst zo2;have e':u=v:=e;subst e';refine wpm (h F (us++ws) sh pos ⟨g,ρ,m,W.stack (YB h1 h3)⟩) (fun xs s' zw=>oza zw fun hl zv=>ozg zv fun st1 zu q=>ozr zu fun g1 ρ1 m1 W1=>⟨hl,?_⟩);have hk:=W1.stk;rw [←List.append_assoc] at hk;have hlen:st1.stk.length=(xs.reverse++us).length+ws.length:=by rw [←Z6 hk,List.length_append]
 have es1:st1.stk=st1.stk.take (xs.reverse++us).length++st1.stk.drop (xs.reverse++us).length:=(List.take_append_drop _ _).symm;rw [es1] at hk;refine Zc (UF hk) fun xa xb e2 q1 q2=>?_;have l1:=Z6 q1;rw [List.length_take,hlen,Nat.min_eq_left (Ko _ _)] at l1;refine oza (ZfY e2 l1.symm) fun zo3 zo4=>?_;subst zo3;subst zo4;refine ⟨⟨st1.loc,st1.own,st1.stk.take (xs.reverse++us).length++.d (.val u)::st1.stk.drop (xs.reverse++us).length⟩,⟨g1,ρ1,m1,W1.stack ?_⟩,_,_,rfl,?_,?_⟩
 ·rw [←List.append_assoc];exact YB q1 (Zg X8 q2)
 ·rw [List.length_take,hlen,Nat.min_eq_left (Ko _ _),List.length_append,List.length_reverse,hl,Z6 h1]
 ·rw [←es1];exact q
end
noncomputable def meI:Me→String
 | .append=>"list.append"
 | .join=>"str.join"
 | .split=>"str.split"
 | .startswith=>"str.startswith"
 | .get=>"dict.get"
section
variable {c:Cx}{st:St}{l:List (Nat×A)}{o:List O}{k p s:List A}{f P:St→Prop}
theorem ZnU {a:A}{n:Nat}(h:ZiR o a=some n) (hn:n<2 ^ 62) (q:f ⟨l,o,.d (.int n)::s⟩):CJ c 1 ⟨l,o,a::.d (.val (.builtin "len"))::s⟩ f:=by
 unfold ZiR at h;induction hl:lsA o a with
 | some xs=>rw [hl] at h;obtain rfl:=Kc h;exact Zqw (ZeV hl) hn q
 | none =>
  rw [hl] at h;induction a using A.casesOn with
  | d x=>induction x using D.casesOn <;> cases h <;> first | exact Zhb hn q | exact Zhd hn q
  | _=>exact Zo h
theorem ZqB {b:Bi}{q:List A}(hq:q.length=biN b) (h:Yt (.bi b) ⟨l,o,q++s⟩=some st) (hf:f st):CJ c (biN b) ⟨l,o,q++.d (.val (biV b))::s⟩ f:=by
 induction q using LLc with
 | nil=>induction b <;> cases hq
 | cons a q =>
  induction b with
  | len =>
   obtain rfl:=List.eq_nil_of_length_eq_zero (Nat.succ.inj hq);exact Zv h fun n h1 h=>ZO h fun h2 h=>ZnU h1 h2 (ZS h hf)
  | range1 =>
   obtain rfl:=List.eq_nil_of_length_eq_zero (Nat.succ.inj hq);exact YK h fun n h1 h=>by rw [Xu h1];exact Zi2 (ZS h hf)
  | range2 =>
   obtain ⟨b,rfl⟩:∃b,q=[b]:=List.length_eq_one_iff.mp (Nat.succ.inj hq);refine Zv h fun n h1 h=>?_;rw [Xu h1];induction b using A.casesOn with
   | d y=>induction y using D.casesOn with
    | int i=>exact Zj4 (ZS h hf)
    | _=>exact ZC h
   | _=>exact ZC h
  | list =>
   obtain rfl:=List.eq_nil_of_length_eq_zero (Nat.succ.inj hq);induction a using A.casesOn with
   | d x=>induction x using D.casesOn with
    | range m n=>exact ZO h fun h1 h=>ZO h fun h2 h=>ZcR (Zb2 h1) h2 (ZS h hf)
    | _=>exact ZC h
   | _=>exact ZC h
theorem Zl2 {m:Me}{a:A}{QM:Nat→St→Prop}(h:Zpj m ⟨l,o,a::s⟩=true) (q:QM 1 ⟨l,o,a::.d (.val (.builtin (meI m)))::s⟩):MJ c (meX m) ⟨l,o,a::s⟩ QM:=by
 have hs:(asS a).isSome=true→∃x,a = .d (.str x):=fun h=>by
  refine oze (Option.isSome_iff_exists.mp h) fun x h=>?_;exact ⟨x,YQ h⟩
 induction m with
 | append =>
  induction a using A.casesOn with
  | own i =>
   refine oze (Option.isSome_iff_exists.mp h) fun xs h=>?_;exact Zp8 (Yw h) PySem.F.slot_list_append PySem.F.type_list_append q
  | _=>exact YU h
 | join=>refine oze (hs h) fun x zo1=>?_;subst zo1;exact ZoU q
 | split=>refine oze (hs h) fun x zo2=>?_;subst zo2;exact Zkm q
 | startswith=>refine oze (hs h) fun x zo3=>?_;subst zo3;exact ZcC q
 | get=>induction a using A.casesOn with
  | d x=>induction x using D.casesOn <;> first | exact Zod q | exact YU h
  | _=>exact YU h
theorem ZjK {α:Type}{q:List α}(h:2≤q.length):∃b a q',q=b::a::q':=by
 induction q using LLc with
 | nil=>cases h
 | cons b q=>induction q using LLc with
  | nil=>exact absurd h (by simp)
  | cons a q=>exact ⟨b,a,q,rfl⟩
theorem ZpZ {m:Me}{q:List A}(hq:q.length=meN m+1) (h:Yt (.me m) ⟨l,o,q++s⟩=some st) (hf:f st):CJ c (meN m+1) ⟨l,o,q++.d (.val (.builtin (meI m)))::s⟩ f:=by
 obtain ⟨b,a,q,rfl⟩:∃b a q',q=b::a::q':=ZjK (by rw [hq];induction m <;> decide);induction m with
 | append =>
  obtain rfl:=List.eq_nil_of_length_eq_zero (Nat.succ.inj (Nat.succ.inj hq));induction a using A.casesOn with
  | own i=>exact Zv h fun xs h0 h=>ZO h fun h1 h=>ZjA (Yw h0) h1 (ZS h hf)
  | _=>exact ZC h
 | join =>
  obtain rfl:=List.eq_nil_of_length_eq_zero (Nat.succ.inj (Nat.succ.inj hq));refine (Xh h).elim (fun h=>?_) ZC;refine Zc h fun x xs h1 h2 h=>?_;rw [YQ h1,WZ h2];exact Zv h fun ys h3 h=>ZO h fun h4 h=>by rw [ZbV h3];exact ZnH h4.1 h4.2 (ZS h hf)
 | split =>
  obtain rfl:=List.eq_nil_of_length_eq_zero (Nat.succ.inj (Nat.succ.inj hq));refine (Xh h).elim (fun h=>?_) ZC;refine Zc h fun x y h1 h2 h=>?_;rw [YQ h1,YQ h2];exact ZO h fun h1 h=>Zlj (Zbn h1.1) (Kr h1.2 (by decide)) (Kr (Zej _ _) (Kr (Nat.add_le_add_right h1.2 2) (by decide))) (ZS h hf)
 | startswith =>
  obtain rfl:=List.eq_nil_of_length_eq_zero (Nat.succ.inj (Nat.succ.inj hq));refine (Xh h).elim (fun h=>?_) ZC;refine Zc h fun x y h1 h2 h=>?_;rw [YQ h1,YQ h2];exact Zc1 (ZS h hf)
 | get =>
  obtain ⟨z,rfl⟩:∃z,q=[z]:=List.length_eq_one_iff.mp (Nat.succ.inj (Nat.succ.inj hq));induction z using A.casesOn with
  | d z=>induction z using D.casesOn with
   | dict es =>
    refine Zv h fun x h1 h=>?_;rw [YQ h1];induction b using A.casesOn with
    | d y=>exact Zmc (ZS h hf)
    | _=>exact ZC h
   | _=>exact ZC h
  | _=>exact ZC h
end
section
variable {c:Cx}{l:List (Nat×A)}{o:List O}{s:List A}{f:St→Prop}{st:St}
noncomputable def mdN:Md→Nat
 | .pop1=>1
 | .pop2=>2
 | .upd=>1
noncomputable def mdX:Md→Str
 | .pop1=>"pop"
 | .pop2=>"pop"
 | .upd=>"update"
noncomputable def mdI:Md→String
 | .pop1=>"dict.pop"
 | .pop2=>"dict.pop"
 | .upd=>"dict.update"
theorem YN {i:Nat}{es:List (Str×A)}(h:Wh o i=some es):∃ep,o[i]?=some (.dict es ep):=by
 unfold Wh at h;induction e:o[i]? with
 | none=>rw [e] at h;exact Zo h
 | some y =>
  rw [e] at h;cases y with
  | dict=>obtain rfl:=Kc h;exact ⟨_,rfl⟩
  | _=>exact Zo h
theorem ZaJ {i:Nat}{z:Addr×Nat}(h:ZdG o i=some z):o[i]?=some (.inst z.1 z.2):=by
 unfold ZdG at h;induction e:o[i]? with
 | none=>rw [e] at h;exact Zo h
 | some y =>
  rw [e] at h;cases y with
  | inst=>exact Kc h▸rfl
  | _=>exact Zo h
theorem ZmI {α γ:Type}{P:Prop}{x:Option α}{u:α→Option γ}{v:Option γ}{r:γ}(h:orE x u v=some r) (h1:∀a,x=some a→u a=some r→P) (h2:v=some r→P):P:=by
 induction x with
 | none=>exact h2 h
 | some a=>exact h1 a rfl h
theorem Zmv {m:Md}{a:A}{QM:Nat→St→Prop}(h:ZqH ⟨l,o,a::s⟩=true) (q:QM 1 ⟨l,o,a::.d (.val (.builtin (mdI m)))::s⟩):MJ c (mdX m) ⟨l,o,a::s⟩ QM:=by
 induction a using A.casesOn with
 | own i =>
  refine oze (Option.isSome_iff_exists.mp h) fun es h=>?_;refine oze (YN h) fun ep h=>?_;induction m with
  | upd=>exact Ze1 h PySem.F.slot_dict_update PySem.F.type_dict_update q
  | _=>exact Ze1 h PySem.F.slot_dict_pop PySem.F.type_dict_pop q
 | _=>exact YU h
theorem Zo6 {m:Md}{q:List A}{g:Nat→St}(hq:q.length=mdN m+1) (h:mdF m ⟨l,o,q++s⟩=some g) (hf:∀ep,f (g ep)):CJ c (mdN m+1) ⟨l,o,q++.d (.val (.builtin (mdI m)))::s⟩ f:=by
 obtain ⟨b,a,q,rfl⟩:∃b a q',q=b::a::q':=ZjK (by rw [hq];induction m <;> decide);have q':∀{g':Nat→St},some g'=some g→∀ep,f (g' ep):=fun h=>Kc h▸hf;induction m with
 | pop1 =>
  obtain rfl:=List.eq_nil_of_length_eq_zero (Nat.succ.inj (Nat.succ.inj hq));induction a using A.casesOn with
  | own i=>exact Zv h fun x h1 h=>Zv h fun es h2 h=>Zv h fun v h3 h=>ZO h fun h4 h=>by rw [YQ h1];exact Zqy (YN h2).choose_spec h3 rfl h4 (q' h)
  | _=>exact ZC h
 | pop2 =>
  obtain ⟨z,rfl⟩:∃z,q=[z]:=List.length_eq_one_iff.mp (Nat.succ.inj (Nat.succ.inj hq));induction z using A.casesOn with
  | own i =>
   refine Zv h fun x h1 h=>Zv h fun es h2 h=>?_;rw [YQ h1];split at h
   ·rename_i v h3;exact ZO h fun h4 h=>ZnK (YN h2).choose_spec h3 rfl h4 (q' h)
   ·rename_i h3;exact Znw (YN h2).choose_spec h3 (q' h 0)
  | _=>exact ZC h
 | upd =>
  obtain rfl:=List.eq_nil_of_length_eq_zero (Nat.succ.inj (Nat.succ.inj hq));induction a using A.casesOn with
  | own i=>induction b using A.casesOn with
   | d d=>induction d using D.casesOn with
    | dict fs=>exact Zv h fun es h2 h=>ZO h fun h4 h=>ZjC (YN h2).choose_spec rfl h4 (q' h)
    | _=>exact ZC h
   | _=>exact ZC h
  | _=>exact ZC h
end
structure E0 where
 sc:Scope
 cel:List (Str×Nat)
 gl:Str→Option Value
 gs:Str→Option Str
 own:List Nat
 mks:List (Nat×List Nat)
 wh:List (Nat×Nat)
 cm:List (Nat×Nat)
 bk:List (Nat×Nat×List Nat)
 rn:List Nat
 ga:Str→List Addr
 sa:Str→List Addr
 rw:List Nat
 fz:List (Nat×Nat)
structure EnvOk (c:Cx) (E:E0):Prop where
 l:∀x i,ZbM E.sc x i=true→IsL c x i
 k:∀x i,(x,i)∈E.cel→(Zao E.sc x||Zho E.sc x)=true→IsC c x i
 kd:∀x,Zao E.sc x=true→c.env.kindOf x=some .cell
 g:∀x v,ZdT E.sc x=true→(Xe c.G x v∨Y5 c.G x v)→IsG c x v
 gl:∀x v,E.gl x=some v→Xe c.G x v∨Y5 c.G x v
 gs:∀x y,E.gs x=some y→∃t,Xe c.G x (.str y t)
 cel:c.cel=E.cel
 ga:∀x C,(E.ga x).contains C=true→∃K,KIn c K∧Zb8 K C x=true
 sa:∀x C,(E.sa x).contains C=true→∃K,KIn c K∧Zek K C x=true
theorem XC {α:Type}{x:Str}{i:α}:∀{l:List (Str×α)},l.lookup x=some i→(x,i)∈l:=by
 intro l;induction l with
 | nil=>intro h;exact Zo h
 | cons q l ih =>
  intro h;obtain ⟨y,j⟩:=q;rw [List.lookup_cons] at h;induction hb:x==y with
  | true=>rw [hb] at h;obtain rfl:=Kc h;rw [eq_of_beq hb];exact .head _
  | false=>rw [hb] at h;exact .tail _ (ih h)
noncomputable def inE (E:E0) (sc:Scope) (n:Nat):E0:={E with sc:=sc,cel:=Yr sc (ZaK sc E.cel) n}
theorem Zno {c c':Cx}{E:E0}{sc:Scope}{n:Nat}(X:EnvOk c E) (H:CompFr c c' sc (Yr sc (ZaK sc E.cel) n)):EnvOk c' (inE E sc n) where
 l:=fun x i h=>ZjH H h
 k:=fun x i hc h=>by
  refine Or.elim (Bool.or_eq_true_iff.mp h) (fun h=>?_) fun h=>?_
  ·exact ZrL H hc h
  ·exact Zrr H hc h
 kd:=fun x h=>ZiG H h
 g:=fun x v h hv=>Zq3 H h (by rw [←H.G];exact hv)
 gl:=fun x v h=>by rw [H.G];exact X.gl x v h
 gs:=fun x y h=>by rw [H.G];exact X.gs x y h
 cel:=H.cel
 ga:=fun x C h=>(X.ga x C h).imp fun K q=>⟨fun h hB=>q.1 h (H.G▸hB),q.2⟩
 sa:=fun x C h=>(X.sa x C h).imp fun K q=>⟨fun h hB=>q.1 h (H.G▸hB),q.2⟩
theorem ZdF:∀{is:List Nat}{l l':List (Nat×A)},Za5 is l=some l'→Le l' l:=by
 intro is;induction is with
 | nil=>intro l l' h;obtain rfl:=Kc h;exact ZcD
 | cons i is ih =>
  intro l l' h;refine Zb (Zc0 h) fun a h1 h2=>?_;refine Zb (Z9 h2) fun r h3 zo1=>?_;subst zo1;exact XY h1 (ih h3)
noncomputable def cnd (b:Bool) (k:C):C:=match b with | true=>k | false=>.bad
noncomputable def opC {α:Type}(o:Option α) (f:α→C):C:=match o with | some a=>f a | none=>.bad
theorem ZW {c:Cx}{b:Bool}{k:C}{st:St}{Q:Fw→St→Prop}(h:wp c (cnd b k) st Q):b=true∧wp c k st Q:=by
 induction b with
 | true=>exact ⟨rfl,h⟩
 | false=>exact h.elim
theorem XX {α:Type}{c:Cx}{o:Option α}{f:α→C}{st:St}{Q:Fw→St→Prop}(h:wp c (opC o f) st Q):∃a,o=some a∧wp c (f a) st Q:=by
 induction o with
 | some a=>exact ⟨a,rfl,h⟩
 | none=>exact h.elim
noncomputable def WQ (E:E0) (x:Str):Option Sl :=
 let i:=(Zf E.sc).idxOf x
 if ZbM E.sc x i=true then some (.l i) else if Zao E.sc x=true then (E.cel.lookup x).map .c else none
noncomputable def Zc3 (E:E0):List Expr→Option (List Sl)
 | []=>some []
 | .Name x _::r=>(WQ E x).bind fun s=>(Zc3 E r).map (s::·)
 | _::_=>none
noncomputable def WP (E:E0):Expr→Option Tg
 | .Name x _=>(WQ E x).map .one
 | .Tuple es _ _=>(Zc3 E es).map .tup
 | _=>none
section
variable {c:Cx}{E:E0}{l:List (Nat×A)}{o:List O}{r:List A}{f:St→Prop}{st:St}
theorem Zpa (X:EnvOk c E) {x:Str}{st:St}{Q:St→Prop}(h:Zdh (gaF x (E.ga x) st) Q (Stop (GaJ c x st Q))):GaJ c x st Q:=by
 rcases Yd h with ⟨st1,h,q⟩ | h
 ·obtain ⟨l,o,s⟩:=st;induction s using LLc with
  | nil=>exact Zo h
  | cons a s=>induction a using A.casesOn with
   | d y =>
    induction y using D.casesOn <;> first | (exact Zo h;done) | skip
    refine Ka fun zn17=>?_;refine oza (YZ h) fun h1 h=>?_;refine Zb (Zc0 h) fun v h2 h=>?_;refine oza (YZ h) fun h3 h=>?_;refine zn17 ?_;obtain rfl:=Kc h;refine Zb (X.ga x _ h1) fun K k1 k2=>?_;exact X5 k1 k2 h2 h3 q
   | own i =>
    exact Zv h fun z hz h=>ZO h fun h1 h=>Zv h fun es h2 h=>Zv h fun v h3 h=>ZO h fun h4 h=>by
     obtain rfl:=Kc h;refine Zb (X.ga x _ h1) fun K k1 k2=>?_;exact ZiY k1 k2 (ZaJ hz) (YN h2).choose_spec h3 h4 q
   | view k i=>exact Zo h
 ·exact Stop.out h
theorem Zqk (X:EnvOk c E) {x:Str}{st:St}{Q:St→Prop}(h:Zdh (saF x (E.sa x) st) (fun f=>∀ep,Q (f ep)) (Stop (AtJ c x st Q))):AtJ c x st Q:=by
 rcases Yd h with ⟨g,h,q⟩ | h
 ·obtain ⟨l,o,s⟩:=st;induction s using LLc with
  | nil=>exact Zo h
  | cons b s=>induction s using LLc with
   | nil=>exact Zo h
   | cons a s=>induction b using A.casesOn with
    | own i =>
     exact Zv h fun z hz h=>ZO h fun h1 h=>Zv h fun es h2 h=>ZO h fun h4 h=>by
      obtain rfl:=Kc h;refine Zb (X.sa x _ h1) fun K k1 k2=>?_;exact Zob k1 k2 (ZaJ hz) (YN h2).choose_spec h4 q
    | _=>exact Zo h
 ·exact Stop.out h
theorem ZhQ (X:EnvOk c E) {x:Str}{s:Sl}{a:A}(e:WQ E x=some s) (h:slF s a l o r=some st) (hf:f st):NJ c x ⟨l,o,a::r⟩ f:=by
 unfold WQ at e;dsimp only at e;by_cases h1:ZbM E.sc x ((Zf E.sc).idxOf x)=true
 ·rw [if_pos h1] at e;obtain rfl:=Kc e;obtain rfl:=Kc h;exact Z1 (X.l _ _ h1) hf
 ·rw [if_neg h1] at e;by_cases h2:Zao E.sc x=true
  ·rw [if_pos h2] at e;refine Zb (Z9 e) fun i h3 zo1=>?_;subst zo1;have h4:(match o[i]? with | some (.cell _)=>some ⟨l,o.set i (.cell (some a)),r⟩ | _=>none)=some st:=h;split at h4
   ·rename_i q;obtain rfl:=Kc h4;exact Zn7 (X.kd _ h2) (X.k _ _ (XC h3) (by rw [h2];rfl)) q hf
   ·exact Zo h4
  ·rw [if_neg h2] at e;exact Zo e
theorem ZeP (X:EnvOk c E):∀{es:List Expr}{ss:List Sl}{ds:List D}{st st':St},Zc3 E es=some ss→Znp ss ds st=some st'→f st'→es.length=ds.length∧assignEach es c.env=es.map (fun e=>(false,assign e c.env))∧Zfi c es ds st f:=by
 intro es;induction es with
 | nil =>
  intro ss ds st st' e h hf;obtain rfl:=Kc e;induction ds using LLc with
  | nil=>exact ⟨rfl,rfl,ZS (x:=st) h hf⟩
  | cons _ _=>exact ZC h
 | cons x es ih =>
  intro ss ds st st' e h hf;induction x using Expr.casesOn with
  | Name x p =>
   refine Zb (Zc0 e) fun s h1 h2=>?_;refine Zb (Z9 h2) fun ss h3 zo1=>?_;subst zo1;induction ds using LLc with
   | nil=>exact ZC h
   | cons d ds =>
    refine Zv h fun st1 h4 h5=>?_;refine Yq (ih h3 h5 hf) fun q1 q2 q3=>?_;exact ⟨congrArg Nat.succ q1,congrArg (List.cons _) q2,Yi (ZhQ X h1 h4 q3)⟩
  | _=>exact ZC e
inductive TgI (E:E0):Expr→Tg→Prop
 | one {x p s} (h:WQ E x=some s):TgI E (.Name x p) (.one s)
 | tup {es n p ss} (h:Zc3 E es=some ss):TgI E (.Tuple es n p) (.tup ss)
theorem Zon {tgt:Expr}{t:Tg}(e:WP E tgt=some t):TgI E tgt t:=by
 induction tgt using Expr.casesOn with
 | Name x p=>refine Zb (Z9 e) fun s h1 zo1=>?_;subst zo1;exact .one h1
 | Tuple es n p=>refine Zb (Z9 e) fun s h1 zo2=>?_;subst zo2;exact .tup h1
 | _=>exact ZC e
theorem Zh1 (X:EnvOk c E) {tgt:Expr}{t:Tg}{a:A}(e:WP E tgt=some t) (h:tgF t a ⟨l,o,r⟩=some st) (hf:f st):AsJ c tgt ⟨l,o,a::r⟩ f:=by
 induction Zon e with
 | one h1=>exact Yi (ZhQ X h1 h hf)
 | tup h1 =>
  induction a using A.casesOn with
  | d x=>induction x using D.casesOn with
   | tuple ds=>exact Zdv (ZeP X h1 h hf).1 (ZeP X h1 h hf).2.2 (ZeP X h1 h hf).2.1
   | _=>exact ZC h
  | _=>exact ZC h
theorem Zim {k:Kp}{st:St}{P:Prop}(h:okP k st P):okS k st∧P:=by
 induction k with
 | none=>exact ⟨trivial,h⟩
 | some q=>exact h
def ZpK (tgt:Expr):Prop:=∀it v,letOwnedTupleGo tgt it v=pure ()
theorem Zlc {tgt:Expr}{s:Sl}(e:WP E tgt=some (.one s)):ZpK tgt:=by
 cases Zon e with
 | one h1=>exact fun j j=>rfl
theorem Zov {tgt:Expr}{ss:List Sl}(e:WP E tgt=some (.tup ss)):∃es n p,tgt = .Tuple es n p:=by
 cases Zon e with
 | tup h1=>exact ⟨_,_,_,rfl⟩
theorem Zld:∀{xs:List D},xs.all ZnQ=true→∀x∈xs,∃y,x = .tuple y:=by
 intro xs h x hx
 have:=ZbI h x hx;induction x using D.casesOn with
 | tuple y=>exact ⟨_,rfl⟩
 | _=>exact Bool.noConfusion this
theorem Zqt {tgt:Expr}{t:Tg}{st:St}{z:Kp×List A×St}(e:WP E tgt=some t) (h:itF .val t st=some z):ItJ c tgt st fun ok xs st2=>ok=okS z.1∧okS z.1 st2∧xs=z.2.1∧st2=z.2.2:=by
 have q':∀{y:Kp×List A×St},some y=some z→okS y.1 y.2.2→okS y.1=okS z.1∧okS z.1 y.2.2∧y.2.1=z.2.1∧y.2.2=z.2.2:=fun h q=>by
  obtain rfl:=Kc h;exact ⟨rfl,q,rfl,rfl⟩
 obtain ⟨l,o,s⟩:=st;induction s using LLc with
 | nil=>exact ZC h
 | cons a r =>
  induction t with
  | tup ss =>
   refine ZdE (Zov e) fun es n p zo1=>?_;subst zo1;induction a using A.casesOn with
   | d x=>induction x using D.casesOn with
    | list xs=>exact ZO h fun h1 h=>ZfX (q' h trivial) (.inr ⟨es,n,p,rfl,Zld h1⟩)
    | view k es=>induction k with
     | items=>exact Zev (q' h trivial)
     | _=>exact ZC h
    | _=>exact ZC h
   | _=>exact ZC h
  | one s =>
   have hn:=Zlc e;induction a using A.casesOn with
   | d x =>
    refine YK h fun xs h1 h=>?_;have q2:∀{ys:List D},some ys=some xs→okS none=okS z.1∧okS z.1 ⟨l,o,r⟩∧ys.map A.d=z.2.1∧(⟨l,o,r⟩:St)=z.2.2:=fun e=>Kc e▸q' h trivial;induction x using D.casesOn with
    | str x=>exact Zol (q2 h1) hn
    | bytes x=>exact Zjj (q2 h1) hn
    | list xs=>exact ZfX (q2 h1) (.inl hn)
    | tuple xs=>exact ZoF (q2 h1) hn
    | dict es=>exact ZfD (q2 h1) hn
    | range m n=>exact ZO h1 fun h2 h1=>ZjR (Zb2 h2) (q2 h1) hn
    | view k es=>induction k with
     | values=>exact UG (q2 h1) hn
     | _=>exact ZC h1
    | _=>exact ZC h1
   | own j=>exact YK h fun xs h1 h=>ZoP (Yw h1) (q' h (Yw h1)) hn
   | view _ _=>exact ZC h
end
theorem YI {α β:Type}{f:α→Option β}{x:α}{xs:List α}{ys:List β}(h:Zw f (x::xs)=some ys):∃y zs,f x=some y∧Zw f xs=some zs∧ys=y::zs:=by
 refine Ka fun zn29=>?_;refine Zb (Zc0 h) fun y h1 h2=>?_;refine Zb (Z9 h2) fun zs h3 h4=>?_;refine zn29 ?_;exact ⟨y,zs,h1,h3,h4.symm⟩
section
variable {n m:Nat}{own:List O}
theorem Zk0 (ih:∀{a d},XU m n own a=some d→Frz own m a d):∀{xs:List A}{ds:List D},Zw (XU m n own) xs=some ds→Frzs own m xs ds:=by
 intro xs;induction xs with
 | nil=>intro ds h;obtain rfl:=Kc h;exact .nil
 | cons x xs ihx=>intro ds h;refine Zc (YI h) fun y zs h1 h2 zo1=>?_;subst zo1;exact .cons (ih h1) (ihx h2)
theorem ZdI (ih:∀{a d},XU m n own a=some d→Frz own m a d):∀{xs:List (Str×A)}{ds:List (Str×D)},Zw (UV (XU m n own)) xs=some ds→Frze own m xs ds:=by
 intro xs;induction xs with
 | nil=>intro ds h;obtain rfl:=Kc h;exact .nil
 | cons x xs ihx =>
  intro ds h;refine Zc (YI h) fun y zs h1 h2 zo1=>?_;subst zo1;refine Zb (Z9 h1) fun d h3 zo2=>?_;subst zo2;exact .cons (ih h3) (ihx h2)
theorem WM:∀{n:Nat}{a:A}{d:D},XU m n own a=some d→Frz own m a d:=by
 intro n;induction n with
 | zero=>intro a d h;induction a using A.casesOn <;> first | exact Zo h | exact Kc h▸.d _
 | succ n ih =>
  intro a d h;induction a using A.casesOn with
  | d x=>obtain rfl:=Kc h;exact .d _
  | view _ _=>exact Zo h
  | own i =>
   refine oza (YZ h) fun h0 h=>?_;refine ZmI h (fun xs q h=>YK h fun ds h1 h=>?_) fun h=>ZmI h (fun es q h=>YK h fun ds h1 h=>?_) fun h=>Zv h fun z q h=>ZO h fun h2 h=>Zv h fun es q2 h=>YK h fun ds h1 h=>?_
   ·exact Kc h▸.list h0 (Yw q) (Zk0 ih h1)
   ·exact Kc h▸.dict h0 (YN q).choose_spec (ZdI ih h1)
   ·exact Kc h▸.inst h0 (ZaJ q) h2 (YN q2).choose_spec (ZdI ih h1)
theorem Zay {a b:A}(h:Wu m own a=some b):AFr own m a b:=by
 induction a using A.casesOn with
 | d x=>obtain rfl:=Kc h;exact .d _
 | own i =>
  have h:(if i<m then some (.own i) else (XU m 9 own (.own i)).map .d)=some b:=h;split at h
  ·rename_i q;obtain rfl:=Kc h;exact ⟨rfl,q⟩
  ·refine Zb (Z9 h) fun d h1 zo1=>?_;subst zo1;exact WM h1
 | view k i=>refine oza (YZ h) fun h0 h=>?_;obtain rfl:=Kc h;exact ⟨rfl,h0⟩
theorem Zmd:∀{xs ys:List A},Zw (Wu m own) xs=some ys→ZgP own m xs ys:=by
 intro xs;induction xs with
 | nil=>intro ys h;obtain rfl:=Kc h;trivial
 | cons x xs ih=>intro ys h;refine Zc (YI h) fun y zs h1 h2 zo1=>?_;subst zo1;exact ⟨Zay h1,ih h2⟩
theorem ZhU:∀{xs ys:List (Str×A)},Zw (UV (Wu m own)) xs=some ys→ZhS own m xs ys:=by
 intro xs;induction xs with
 | nil=>intro ys h;obtain rfl:=Kc h;trivial
 | cons x xs ih =>
  intro ys h;refine Zc (YI h) fun y zs h1 h2 zo1=>?_;subst zo1;refine Zb (Z9 h1) fun d h3 zo2=>?_;subst zo2;exact ⟨rfl,Zay h3,ih h2⟩
theorem ZnV {a b:O}(h:ZgA m own a=some b):OFr own m a b:=by
 induction a using O.casesOn with
 | list xs=>refine Zb (Z9 h) fun ys h1 zo1=>?_;subst zo1;exact Zmd h1
 | dict es ep=>refine Zb (Z9 h) fun ys h1 zo2=>?_;subst zo2;exact ⟨rfl,ZhU h1⟩
 | inst c j=>refine oza (YZ h) fun h0 h=>?_;obtain rfl:=Kc h;exact ⟨rfl,rfl,h0⟩
 | cell x=>induction x with
  | none=>obtain rfl:=Kc h;trivial
  | some a=>refine Zb (Z9 h) fun y h1 zo3=>?_;subst zo3;exact Zay h1
 | iter=>obtain rfl:=Kc h;trivial
 | dead=>obtain rfl:=Kc h;trivial
theorem Zku:∀{xs ys:List O},Zw (ZgA m own) xs=some ys→ZjT own m xs ys:=by
 intro xs;induction xs with
 | nil=>intro ys h;obtain rfl:=Kc h;trivial
 | cons x xs ih=>intro ys h;refine Zc (YI h) fun y zs h1 h2 zo1=>?_;subst zo1;exact ⟨ZnV h1,ih h2⟩
theorem Znf:∀{l l' l2:List (Nat×A)},(∀q∈l',ZD q.1 l=some q.2)→Zw (fun q:Nat×A=>(Wu m own q.2).map fun a=>(q.1,a)) l'=some l2→∀q∈l2,∃a,ZD q.1 l=some a∧AFr own m a q.2:=by
 intro l l';induction l' with
 | nil=>intro l2 j h;obtain rfl:=Kc h;exact fun j h=>nomatch h
 | cons x l' ih =>
  intro l2 hl h;refine Zc (YI h) fun y zs h1 h2 zo1=>?_;subst zo1;refine Zb (Z9 h1) fun a h3 zo2=>?_;subst zo2;intro q hq;rcases ZQ hq with rfl | hq
  ·exact ⟨x.2,hl x (.head _),Zay h3⟩
  ·exact ih (fun z hz=>hl z (.tail _ hz)) h2 q hq
theorem Zkc {is:List Nat}{st st':St}(h:Wl is m st=some st'):Cv m st st':=by
 obtain ⟨l,o,s⟩:=st;induction s using LLc with
 | cons _ _=>exact Zo h
 | nil =>
  refine oza (YZ h) fun h0 h=>?_;refine Zb (Zc0 h) fun l' h1 h=>?_;refine Zb (Zc0 h) fun l2 h2 h=>?_;refine Zb (Z9 h) fun o' h3 zo1=>?_;subst zo1;have e:o=o.take m++o.drop m:=(List.take_append_drop m o).symm
  have:=ZpM (pre:=o.take m) (tail:=o.drop m) (l:=l) (l':=l2) (n:=m) (List.length_take_of_le h0) (by rw [←e];exact Zku h3) (by rw [←e];exact Znf (ZdF h1) h2);rw [←e] at this;exact this
end
noncomputable abbrev up:Fl→Fw:=upF
theorem ZiS {I I':St→Prop}{Q:Fw→St→Prop}{f:Fl}{st:St}(h:lpW I Q (up f) st) (hp:∀st,I st→I' st):lpQ I' (fun f=>Q (up f)) f st:=by
 induction f <;> first | exact hp _ h | exact h
section
variable {c:Cx}{E:E0}{t:Tg}{tgt:Expr}{body:List Stmt}{B T:Bd}{k:Kp}{Q:Fw→St→Prop}{st:St}
theorem Zl7 (X:EnvOk c E) (e:WP E tgt=some t) (hB:∀st P,B st P→XJ c body st fun f=>P (up f)):∀{xs:List A}{st:St},ZfH t B k xs st Q→Zak c tgt body (okS k) xs st fun f=>Q (up f):=by
 intro xs;induction xs with
 | nil=>intro st h;exact Zim h
 | cons x xs ih =>
  intro st h;refine oza (Zim h) fun h1 h2=>?_;obtain ⟨l,o,r⟩:=st;refine Zb (Z7 h2) fun st2 h3 q=>?_;exact ⟨h1,Zh1 X e h3 ((hB _ _ q).mono fun f st3 q3=>ZiS q3 fun st4 q4=>ih q4)⟩
theorem Zni {tx:Expr}{pos:Pos}(hT:∀st P,T st P→TJ c tx st fun z=>P (.b z)) (hB:∀st P,B st P→XJ c body st fun f=>P (up f)) {n:Nat}(h:WhN T B Q n st):SJ c (.While tx body [] pos) st fun f=>Q (up f):=by
 refine Zg9 n ?_;induction n generalizing st with
 | zero=>exact h
 | succ n ih =>
  exact (hT _ _ h).mono fun z st1 q=>by
   refine oza (YA q) fun q1 q2=>?_;exact ⟨fun hz=>(hB _ _ (q1 hz)).mono fun f st2 q3=>ZiS q3 fun st3 q4=>ih q4,q2⟩
theorem Zqf {tx:Expr}{pos:Pos}(hT:∀st P,T st P→TJ c tx st fun z=>P (.b z)) (hB:∀st P,B st P→XJ c body st fun f=>P (up f)) (h:WhI T B Q st):SJ c (.While tx body [] pos) st fun f=>Q (up f):=by
 obtain ⟨L,ow,k,I,μ,b0,hst,h0,turn⟩:=h;exact Zhw I μ b0 h0 hst fun b hb=>(hT _ _ (turn b hb)).mono fun z st1 q=>by
  refine oza (YA q) fun q1 q2=>?_;exact ⟨fun hz=>(hB _ _ (q1 hz)).mono fun f st2 q3=>ZiS q3 fun st3 q4=>q4,q2⟩
theorem ZnP {x:Stmt}{QF:Fl→St→Prop}(h:SJ c x st fun f st1=>∃l,(∀x a,ZD x l=some a→ZD x st1.loc=some a)∧QF f ⟨l,st1.own,st1.stk⟩):SJ c x st QF:=fun F vs s R =>
 wpm (h F vs s R) (fun f s1 h1=>by
  induction f <;> (obtain ⟨st1,R1,l,hl,q⟩:=h1;exact ⟨_,R1.forget hl,q⟩))
theorem Zpi (X:EnvOk c E) (e:WP E tgt=some t) (hB:∀st P,B st P→XJ c body st fun f=>P (up f)) {xs:List A}(h:LpI t B k Q xs st):Zak c tgt body (okS k) xs st fun f st1=>∃l,(∀x a,ZD x l=some a→ZD x st1.loc=some a)∧Q (up f) ⟨l,st1.own,st1.stk⟩:=by
 obtain ⟨as,enc,L,ow,kk,I,b0,rfl,hst,h0,hok,turn,fin⟩:=h;refine ZjG (I:=fun xs st=>∃b,I xs b∧At (L b) (ow b) kk st) as st ?_ ?_ ?_ ⟨b0,h0,hst⟩
 ·rintro xs ⟨l,o,s⟩ ⟨b,_,_,e1,e2⟩;obtain rfl:o=_:=e1;obtain rfl:s=_:=e2;exact hok b l
 ·rintro x xs ⟨l,o,s⟩ ⟨b,hb,e0,e1,e2⟩;obtain rfl:o=_:=e1;obtain rfl:s=_:=e2;refine Zmw (l:=L b) ?_ e0;refine Zb (Z7 (turn x xs b hb)) fun st2 h3 q=>?_;exact Zh1 X e h3 ((hB _ _ q).mono fun f st3 q3=>by
   induction f with
   | next=>exact q3
   | cont=>exact q3
   | brk=>exact ⟨_,fun j j h=>h,q3⟩
   | ret=>exact ⟨_,fun j j h=>h,q3⟩)
 ·rintro ⟨l,o,s⟩ ⟨b,hb,e0,e1,e2⟩;obtain rfl:o=_:=e1;obtain rfl:s=_:=e2;exact ⟨L b,fun x a hx=>e0 _ (Y8 hx),fin b hb⟩
end
theorem Zh7:∀n,ClN n (List.replicate n (.cell none)):=by
 intro n;induction n with
 | zero=>rfl
 | succ n ih=>exact ⟨none,_,rfl,ih⟩
theorem CompJ.mono {c:Cx}{tgt elt:Expr}{ifs:List Expr}{ok:St→Prop}{n:Nat}{Q Q':St→Prop}(hq:∀st,Q st→Q' st):∀{xs:List A}{st:St},CompJ c tgt ifs elt ok n xs st Q→CompJ c tgt ifs elt ok n xs st Q':=by
 intro xs;induction xs with
 | nil=>intro st h;exact ⟨h.1,hq _ h.2⟩
 | cons x xs ih =>
  intro st h;refine ⟨h.1,fun F v vs s R=>wpm (h.2 F v vs s R) (fun j j zq2=>by refine ozg zq2 fun st1 R1 h1=>?_;exact ⟨st1,R1,Uj h1 fun z st2 hb=>⟨fun e=>(hb.1 e).mono fun st3 zq3=>by refine Yk zq3 fun a ys q1 q2 q3 q4=>?_;exact ⟨a,ys,q1,q2,q3,ih q4⟩,fun e=>ih (hb.2 e)⟩⟩)⟩
section
variable {α:Type}{c:Cx}{tgt elt:Expr}{ifs:List Expr}{ok:St→Prop}{enc:α→A}{R:α→Option D→Prop}{own:List O}{n:Nat}
theorem Zhn (hok:∀l ys,ok ⟨l,own++ys,[]⟩) {P:List D→Prop}:∀(as:List α) (acc:List D) (l:List (Nat×A)) (cl:List O),acc.length+as.length≤1000000→ClN n cl →
 (∀x∈as,∀l ys cl,ClN n cl→AsJ c tgt ⟨l,own++[.list ys]++cl,[enc x]⟩ fun st1=>Za9 c ifs st1 fun b st2=>(b=true→EJ c elt st2 fun st3=>emG n R x (own++[.list ys]) .next st3)∧(b=false→emG n R x (own++[.list ys]) .cont st2)) →
 (∀ys,Zhz R as ys→P (acc++ys))→CompJ c tgt ifs elt ok own.length (as.map enc) ⟨l,own++[.list (acc.map .d)]++cl,[]⟩ fun st3=>∃(ys:List D) (cl:List O),st3.own=own++[.list (ys.map .d)]++cl∧P ys:=by
 intro as;induction as with
 | nil =>
  intro acc l cl j hc j q;refine ⟨by rw [List.append_assoc];exact hok _ _,acc,cl,rfl,?_⟩
  have:=q [] rfl
  rwa [List.append_nil] at this
 | cons x as ih =>
  intro acc l cl hl hc step q;have hl':acc.length+(as.length+1)≤1000000:=hl;refine ⟨by rw [List.append_assoc];exact hok _ _,fun F v vs s R=>wpm (step x (.head _) l _ cl hc F v vs s R) (fun j s1 zw=>ozg zw fun st1 R1 h1=>⟨st1,R1,?_⟩)⟩;refine Uj h1 fun z st2 hb=>⟨fun e=>(hb.1 e).mono fun st3 zw=>Yk zw fun y cl' hy hs ho hc'=>⟨.d y,acc.map .d,hs,?_,?_,?_⟩,fun e=>?_⟩
  ·rw [ho,List.append_assoc,Km (Kq _),Nat.sub_self];rfl
  ·rw [List.length_map];exact Kr (Ko _ _) hl
  ·rw [ho,List.append_assoc,List.set_append_right _ _ (Kq _),Nat.sub_self]
   have:=ih (acc++[y]) st3.loc cl' (by rw [List.length_append,List.length_singleton,Nat.add_assoc,Nat.add_comm 1];exact hl') hc' (fun z hz=>step z (.tail _ hz)) fun ys hys=>by
    rw [List.append_assoc];exact q _ ⟨some y,ys,hy,hys,rfl⟩
   rw [List.map_append,List.append_assoc] at this;exact this
  ·obtain ⟨hy,hs,cl',ho,hc'⟩:=hb.2 e;obtain ⟨l2,o2,k2⟩:=st2;obtain rfl:k2=[]:=hs;obtain rfl:o2=_:=ho;exact ih acc l2 cl' (Kr (Nat.add_le_add_left (Nat.le_succ _) _) hl') hc' (fun z hz=>step z (.tail _ hz)) fun ys hys=>q _ ⟨none,ys,hy,hys,rfl⟩
end
section
variable {c:Cx}{E:E0}{t:Tg}{tgt iter elt:Expr}{ifs:List Expr}{sc:Scope}{pos:Pos}{k:Kp}{B:Cx→Bd}{st:St}{P:List D→Prop}
theorem ZkH (X:EnvOk c E) (e:WP (inE E sc st.own.length) tgt=some t) (hB:∀c',EnvOk c' (inE E sc st.own.length)→∀st Q,B c' st Q→Za9 c' ifs st fun b st2=>(b=true→EJ c' elt st2 fun st3=>Q .next st3)∧(b=false→Q .cont st2))
 (hk:okS k st) {xs:List A} {st2:St} (h:CompI c t B (ZK sc.names) xs st st2 st.own P) {c':Cx} (H:CompFr c c' sc (Yr sc (ZaK sc E.cel) st.own.length)) :
 st2=st∧CompJ c' tgt ifs elt (okS k) st.own.length xs ⟨[],st.own++[.list []]++List.replicate (ZK sc.names) (.cell none),[]⟩ fun st3=>∃(ys:List D) (cl:List O),st3.own=st.own++[.list (ys.map .d)]++cl∧P ys:=by
 obtain ⟨as,enc,R,rfl,rfl,hl,turn,q⟩:=h;refine ⟨rfl,?_⟩;have X':=Zno X H;refine Zhn (n:=ZK sc.names) (R:=R) (fun l ys=>?_) as [] [] _ (by simpa using hl) (Zh7 _) (fun x hx l ys cl hcl=>?_) q
 ·induction k with
  | none=>trivial
  | some z =>
   have hk':st2.own[z.1]?=some (.list z.2):=hk;show (st2.own++ys)[z.1]?=_;rw [Kl (ZI hk').1];exact hk'
 ·refine Zb (Z7 (turn c' H.G H.fuel x hx l ys cl hcl)) fun st2 h3 q=>?_;exact Zh1 X' e h3 (hB c' X' _ _ q)
theorem Zew {tail cl:List O}{ys:List D}(o:List O) (h:tail=[.list (ys.map .d)]++cl):Frz (o++tail) o.length (.own o.length) (.list ys):=by
 subst h;refine Frz.list (Kq _) (xs:=ys.map .d) ?_ (Frzs.d _);rw [Km (Kq _),Nat.sub_self];rfl
end
end
section
noncomputable def Uz (E:E0) (x:Str):Option Value:=if ZdT E.sc x=true then E.gl x else none
noncomputable def Zmz (E:E0) (x:Str) (k:C):C :=
 let i:=(Zf E.sc).idxOf x
 if ZbM E.sc x i=true then .o (.loc i) k
 else if (Zao E.sc x||Zho E.sc x)=true then opC (E.cel.lookup x) fun i=>.o (.cell i) k
 else cnd (ZdT E.sc x) (match E.gs x with | some y=>.o (.lit (.str y)) k | none=>opC (E.gl x) fun v=>.o (.lit (.val v)) k)
noncomputable def Zjf (v:Value) (n:Nat):Option Bi :=
 if v = .builtin "len"∧n=1 then some .len else if v = .type "range"∧n=1 then some .range1
 else if v = .type "range"∧n=2 then some .range2 else if v = .type "list"∧n=1 then some .list else none
noncomputable def Zpu:Expr→Str
 | .Name x _=>x
 | _=>""
noncomputable def biE (E:E0) (f:Expr) (n:Nat):Option Bi:=ifO ((f.ctorIdx==23)=true) ((Uz E (Zpu f)).bind fun v=>Zjf v n)
noncomputable def Zh6 (x:Str) (n:Nat):Option Me :=
 if x="append"∧n=1 then some .append else if x="join"∧n=1 then some .join else if x="split"∧n=1 then some .split
 else if x="startswith"∧n=1 then some .startswith else if x="get"∧n=2 then some .get else none
noncomputable def Zjw (x:Str) (n:Nat):Option Md :=
 if x="pop"∧n=1 then some .pop1 else if x="pop"∧n=2 then some .pop2 else if x="update"∧n=1 then some .upd else none
noncomputable def Zm5:Const→Option D
 | .none=>some .none
 | .bool b=>some (.bool b)
 | .int i=>some (.int i)
 | .str x=>some (.str x)
 | _=>none
noncomputable def swN (e:Expr):Bool:=!(e.ctorIdx==8||(e.ctorIdx==9||e.ctorIdx==10))
noncomputable def XF (e:Expr):Bool:=!(e.ctorIdx==7)
noncomputable def Zf3 (e:Expr):Bool:=e.ctorIdx==26
noncomputable def isTup (e:Expr):Bool:=e.ctorIdx==25
noncomputable def Wm (E:E0) (tgt it:Expr):Sr:=match it with
 | .Call (.Name x _) as _ _=>if Uz E x=some (.type "zip")∧as.length=2∧isTup tgt=true then .zip else if Uz E x=some (.type "enumerate")∧as.length=1∧isTup tgt=true then .enum else .val
 | _=>.val
noncomputable def ZpE:Option Expr→Option Str
 | some (.Constant (.str x) _ _)=>some x
 | _=>none
noncomputable def ZfP:List (Option Expr)→Option (List Str)
 | []=>some []
 | k::r=>(ZpE k).bind fun x=>(ZfP r).map (x::·)
set_option genCtorIdx false in
inductive It where
 | e (x:Expr) | z (x:Expr) | es (xs:List Expr) | t (x:Expr) | ts (op:BoolOp) (xs:List Expr) | v (op:BoolOp) (xs:List Expr) | p (x:Option Expr)
 | i (s:Sr) (x:Expr) | c (ifs:List Expr) (x:Expr) | s (x:Stmt) | ss (xs:List Stmt)
noncomputable def Zcu (b:Expr) (k:C) (f:C→C):C:=match b with
 | .List [] _=>.o (.lit (.list [])) k
 | _=>f k
noncomputable def Zh9 (e:Expr):Nat:=e.pos.line
noncomputable def fzK (E:E0) (x:Expr):Bool:=match x with
 | .Dict _ _ pos=>E.fz.contains (pos.line,pos.col)
 | .Call (.Attribute ..) _ _ pos=>E.fz.contains (pos.line,pos.col)
 | _=>false
noncomputable def cmp:Nat→E0→It→C→C
 | 0,_,_,_=>.bad
 | n+1,E,.e x,k=>if fzK E x=true then .frz (cmp n E (.z x) .nil) k else cmp n E (.z x) k
 | n+1,E,.z x,k=>(match x with
  | .Constant v _ _=>opC (Zm5 v) fun d=>.o (.lit d) k
  | .Name x _=>Zmz E x k
  | .BinOp a op b _=>cmp n E (.e a) (cmp n E (.e b) (.o (.bin op) k))
  | .Compare a [op] [b] _=>cnd (XF b) (cmp n E (.e a) (Zcu b (.o (.cmp op) k) (cmp n E (.e b))))
  | .UnaryOp op a _=>cmp n E (.e a) (.o (.un op) k)
  | .IfExp t a b _=>.sel (cmp n E (.t t) .nil) (cmp n E (.e a) .nil) (cmp n E (.e b) .nil) k
  | .BoolOp op xs _=>cmp n E (.v op xs) k
  | .Subscript v i _=>cmp n E (.e v) (cmp n E (.e i) (if Zf3 i=true then .o .cut k else .o .sub k))
  | .Slice lo hi st _=>.slc lo.isSome hi.isSome st.isSome (cmp n E (.p lo) .nil) (cmp n E (.p hi) .nil) (cmp n E (.p st) .nil) k
  | .List es pos=>cnd (decide (es.length≤1000)) (cmp n E (.es es) (if es=[]∨pos.line∈E.own then .o (.listO es.length) k else .o (.list es.length) k))
  | .Tuple es _ _=>cnd (decide (es.length≤1000)) (cmp n E (.es es) (.o (.tup es.length) k))
  | .Dict ks es _=>(match ks,es with
   | [],[]=>.o .dict0 k
   | ks,es=>cnd (Zbk ks es) (opC (ZfP ks) fun xs=>cnd (decide xs.Nodup) (.dict xs (cmp n E (.es es) .nil) k)))
  | .Call f as kw pos=>(match kw with
   | []=>(match f with
    | .Attribute ob x ap=>cnd (!Xw ob&&Zt as&&decide (as.length<30)&&(ap.endLine==pos.line)) (cmp n E (.e ob) (match Zh6 x as.length with
     | some m=>.mth m (cmp n E (.es as) .nil) k
     | none=>(match Zjw x as.length with
      | some m=>.mtd m (cmp n E (.es as) .nil) k
      | none=>.meth x as.length (cmp n E (.es as) .nil) k)))
    | f=>cnd (Zt as) (match biE E f as.length with
     | some b=>.bi b (cmp n E (.es as) .nil) k
     | none=>cmp n E (.e f) (cmp n E (.es as) (.call as.length k))))
   | _=>.bad)
  | .Attribute ob x _=>cnd (!Xw ob) (cmp n E (.e ob) (.attr x (E.ga x) k))
  | .ListComp elt gs sc pos=>(match gs with
   | [⟨tgt,it,ifs,z⟩] =>
    let m:=(E.cm.lookup pos.line).getD 0
    cnd (decide (z=0)) (cnd (XB sc E.cel&&XF it) (opC (WP (inE E sc m) tgt) fun tg=>.comp (Wm E tgt it) (ZK sc.names) m (cmp n E (.i (Wm E tgt it) it) .nil) tg (cmp n (inE E sc m) (.c ifs elt) .nil) k))
   | _=>.bad)
  | _=>.bad)
 | n+1,E,.es xs,k=>(match xs with
  | []=>k
  | x::xs=>cnd (!Yn x) (cmp n E (.e x) (cmp n E (.es xs) k)))
 | n+1,E,.t x,k=>(match x with
  | .UnaryOp .Not y _=>.notT (cmp n E (.t y) .nil)
  | .BoolOp op xs _=>cmp n E (.ts op xs) .nil
  | .IfExp .. => .bad
  | .Compare a [op] [b] _=>cnd (XF b) (cmp n E (.e a) (Zcu b (.o (.cmp op) .tru) (cmp n E (.e b))))
  | .Compare .. => .bad
  | .UnaryOp .. => .bad
  | x=>cmp n E (.e x) .tru)
 | n+1,E,.ts op xs,k=>(match xs with
  | []=>.bad
  | [x]=>cmp n E (.t x) .nil
  | x::xs=>(match op with
   | .And=>.andT (cmp n E (.t x) .nil) (cmp n E (.ts op xs) .nil)
   | .Or=>.orT (cmp n E (.t x) .nil) (cmp n E (.ts op xs) .nil)))
 | n+1,E,.v op xs,k=>(match xs with
  | []=>.bad
  | [x]=>cmp n E (.e x) k
  | x::xs=>.boo (match op with | .And=>true | .Or=>false) (cmp n E (.e x) .nil) (cmp n E (.v op xs) .nil) k)
 | n+1,E,.p x,k=>(match x with
  | none=>.bad
  | some x=>cmp n E (.e x) k)
 | n+1,E,.i s x,k=>(match s with
  | .val=>cmp n E (.e x) k
  | _=>(match x with
   | .Call f as [] _=>cnd (Zt as&&!Xd f) (cmp n E (.es as) k)
   | _=>.bad))
 | n+1,E,.c ifs x,k=>(match ifs with
  | []=>cmp n E (.e x) .nil
  | y::ifs=>.sel (cmp n E (.t y) .nil) .nil .cont (cmp n E (.c ifs x) .nil))
 | n+1,E,.s x,k=>(match x with
  | .Assign [t] e pos=>(match t with
   | .Name y py=>(match e with
    | .ListComp elt gs sc cp=>if (py.line==cp.line&&!(sc.names.any fun (n,k)=>n==y&&(k == .local||k == .cell)))=true then
     (match WQ E y with
      | some (.l i)=>(match gs with
       | [⟨tgt,it,ifs,z⟩] =>
        let m:=(E.cm.lookup cp.line).getD 0
        cnd (decide (z=0)) (cnd (XB sc E.cel&&XF it) (opC (WP (inE E sc m) tgt) fun tg=>.comp (Wm E tgt it) (ZK sc.names) m (cmp n E (.i (Wm E tgt it) it) .nil) tg (cmp n (inE E sc m) (.c ifs elt) .nil) (.o (.st (.l i)) k)))
       | _=>.bad)
      | _=>.bad)
     else .bad
    | e=>cnd (swN e) (opC (WQ E y) fun s=>cmp n E (.e e) (.o (.st s) k)))
   | .Attribute ob y _=>cnd (swN e&&!Xw ob) (cmp n E (.e e) (cmp n E (.e ob) (.stA y (E.sa y) k)))
   | .Subscript ob i _=>cnd (swN e) (cmp n E (.e e) (cmp n E (.e ob) (cmp n E (.e i) (.o .set k))))
   | _=>.bad)
  | .AugAssign (.Name y py) op e _=>opC (WQ E y) fun s=>(match s with | .l i=>.o (.loc i) (cmp n E (.e e) (.o (.inp op) (.o (.st s) k))) | .c i=>.o (.cell i) (cmp n E (.e e) (.o (.inp op) (.o (.st s) k))))
  | .If t b e _=>.sel (cmp n E (.t t) .nil) (cmp n E (.ss b) .nil) (cmp n E (.ss e) .nil) k
  | .While t b [] pos=>.wh ((E.wh.lookup pos.line).getD 0) (cmp n E (.t t) .nil) (cmp n E (.ss b) .nil) k
  | .For tgt it b [] _=>cnd (XF it) (opC (WP E tgt) fun tg=>cmp n E (.i (Wm E tgt it) it) (.for_ (decide (Zh9 it∈E.rn)) (Wm E tgt it) tg (cmp n E (.ss b) .nil) k))
  | .Return (some e) _=>cmp n E (.e e) .ret
  | .Expr e _=>cnd (swN e) (cmp n E (.e e) (.o .pop k))
  | .Pass _=>k
  | .Break _=>.brk
  | .Continue _=>.cont
  | _=>.bad)
 | n+1,E,.ss xs,k=>(match xs with
  | []=>k
  | x::xs=>(match E.bk.lookup x.pos.line with
   | some (m,is)=>.blk is (cmp n {E with bk:=E.bk.filter fun q=>q.1 != x.pos.line} (.ss ((x::xs).take m)) .nil) (cmp n E (.ss ((x::xs).drop m)) k)
   | none=>(match E.mks.lookup x.pos.line with
    | some is=>.mark is (if x.pos.line∈E.rw then .raw [x] (cmp n E (.ss xs) k) else cmp n E (.s x) (cmp n E (.ss xs) k))
    | none=>if x.pos.line∈E.rw then .raw [x] (cmp n E (.ss xs) k) else cmp n E (.s x) (cmp n E (.ss xs) k))))
end
section
noncomputable def Mng (c:Cx) (E:E0) (rc:It→C→C):It→Prop
 | .e x=>∀k st Q,wp c (rc (.e x) k) st Q→EJ c x st fun st1=>wp c k st1 Q
 | .z x=>∀k st Q,wp c (rc (.z x) k) st Q→EJ c x st fun st1=>wp c k st1 Q
 | .es xs=>∀k st Q,wp c (rc (.es xs) k) st Q→(GJ c xs st fun st1=>wp c k st1 Q)∧∀ks keys,ZfP ks=some keys→ks.length=xs.length→DJ c ks xs st fun ys st1=>ys=keys∧wp c k st1 Q
 | .t x=>∀st Q,wp c (rc (.t x) .nil) st Q→TJ c x st fun z st1=>Q (.b z) st1
 | .ts op xs=>∀st Q,wp c (rc (.ts op xs) .nil) st Q→AJ c op xs st fun z st1=>Q (.b z) st1
 | .v op xs=>∀pos k st Q,wp c (rc (.v op xs) k) st Q→VJ c pos op xs st fun st1=>wp c k st1 Q
 | .p x=>∀st g,Zdy x.isSome (fun st P=>wp c (rc (.p x) .nil) st P) st g→PJ c x st g
 | .i s x=>∀(E':E0) tgt t,WP E' tgt=some t→s=Wm E tgt x→∀k st Q f,wp c (rc (.i s x) k) st Q→(∀st1,wp c k st1 Q→opt (itF s t st1) f)→IEJ c tgt x st fun ok xs st2=>∃z:Kp×List A×St,ok=okS z.1∧okS z.1 st2∧xs=z.2.1∧st2=z.2.2∧f z
 | .c ifs x=>∀st Q,wp c (rc (.c ifs x) .nil) st Q→Za9 c ifs st fun b st2=>(b=true→EJ c x st2 fun st3=>Q .next st3)∧(b=false→Q .cont st2)
 | .s x=>∀k st Q,wp c (rc (.s x) k) st Q→SJ c x st fun f st1=>nxt (fun st2=>wp c k st2 Q) Q (up f) st1
 | .ss xs=>∀k st Q,wp c (rc (.ss xs) k) st Q→XJ c xs st fun f st1=>nxt (fun st2=>wp c k st2 Q) Q (up f) st1
theorem ZaP {p:Prop} [Decidable p] {c:Cx}{a b:C}{st:St}{Q:Fw→St→Prop}(h:wp c (if p then a else b) st Q):(p∧wp c a st Q)∨(¬p∧wp c b st Q):=by
 by_cases hp:p
 ·rw [if_pos hp] at h;exact .inl ⟨hp,h⟩
 ·rw [if_neg hp] at h;exact .inr ⟨hp,h⟩
section
variable {c:Cx}{E:E0}{k:C}{st:St}{Q:Fw→St→Prop}
theorem Zli (X:EnvOk c E) {x:Str}{pos:Pos}(h:wp c (Zmz E x k) st Q):EJ c (.Name x pos) st fun st1=>wp c k st1 Q:=by
 obtain ⟨l,o,s⟩:=st;rcases ZaP h with ⟨h1,h⟩ | ⟨_,h⟩
 ·refine Zb (Yd h |>.resolve_right fun h=>h.out) fun b h2 h3=>?_;refine Zb (Z9 h2) fun a h4 zo1=>?_;subst zo1;exact Zm (X.l _ _ h1) h4 h3
 rcases ZaP h with ⟨h1,h⟩ | ⟨_,h⟩
 ·refine Zb (XX h) fun i h2 h=>?_;refine Zb (Yd h |>.resolve_right fun h=>h.out) fun st1 h3 h4=>?_;have h3:(match o[i]? with | some (.cell (some a))=>some (⟨l,o,a::s⟩:St) | _=>none)=some st1:=h3;split at h3
  ·rename_i q;obtain rfl:=Kc h3;exact Zjd (X.k _ _ (XC h2) h1) q h4
  ·exact Zo h3
 refine oza (ZW h) fun h1 h=>?_;induction hs:E.gs x with
 | some y =>
  rw [hs] at h;refine oze (X.gs x y hs) fun t ht=>?_;exact Zk8 (X.g _ _ h1 (.inl ht)) h
 | none =>
  rw [hs] at h;refine Zb (XX h) fun v hv h=>?_;exact Z2 (X.g _ _ h1 (X.gl _ _ hv)) h
theorem ZcN (X:EnvOk c E) {x:Str}{v:Value}(h:Uz E x=some v):IsG c x v:=by
 unfold Uz at h;by_cases h1:ZdT E.sc x=true
 ·rw [if_pos h1] at h;exact X.g _ _ h1 (X.gl _ _ h)
 ·rw [if_neg h1] at h;exact Zo h
theorem Zl1 {v:Value}{n:Nat}{b:Bi}(h:Zjf v n=some b):v=biV b∧n=biN b:=by
 unfold Zjf at h;split at h
 ·rename_i q;obtain rfl:=Kc h;exact q
 split at h
 ·rename_i q;obtain rfl:=Kc h;exact q
 split at h
 ·rename_i q;obtain rfl:=Kc h;exact q
 split at h
 ·rename_i q;obtain rfl:=Kc h;exact q
 ·exact Zo h
theorem Zmq {x:Str}{n:Nat}{m:Me}(h:Zh6 x n=some m):x=meX m∧n=meN m:=by
 unfold Zh6 at h;split at h
 ·rename_i q;obtain rfl:=Kc h;exact q
 split at h
 ·rename_i q;obtain rfl:=Kc h;exact q
 split at h
 ·rename_i q;obtain rfl:=Kc h;exact q
 split at h
 ·rename_i q;obtain rfl:=Kc h;exact q
 split at h
 ·rename_i q;obtain rfl:=Kc h;exact q
 ·exact Zo h
theorem Zlh {x:Str}{n:Nat}{m:Md}(h:Zjw x n=some m):x=mdX m∧n=mdN m:=by
 unfold Zjw at h;split at h
 ·rename_i q;obtain rfl:=Kc h;exact q
 split at h
 ·rename_i q;obtain rfl:=Kc h;exact q
 split at h
 ·rename_i q;obtain rfl:=Kc h;exact q
 ·exact Zo h
theorem ZiP (h:wp c .tru st Q):BJ c st fun z st1=>Q (.b z) st1:=by
 obtain ⟨l,o,s⟩:=st;induction s using LLc with
 | nil=>exact False.elim h
 | cons a r =>
  rcases Yd h with ⟨z,h1,h2⟩ | h
  ·exact ZnJ h1 h2
  ·exact h.out
theorem Znk {p:Pr}{st st1:St}(hp:∀l o s,s.length<2→Yt p ⟨l,o,s⟩=none) (h:Yt p st=some st1):∃l o b a r,st=⟨l,o,b::a::r⟩:=by
 obtain ⟨l,o,s⟩:=st;induction s using LLc with
 | nil=>rw [hp _ _ _ (by decide)] at h;exact Zo h
 | cons b s=>induction s using LLc with
  | nil=>rw [hp _ _ _ (by simp)] at h;exact Zo h
  | cons a r=>exact ⟨l,o,b,a,r,rfl⟩
theorem ZgC {p:Pr}(h0:∀l o,Yt p ⟨l,o,[]⟩=none) (h1:∀l o b,Yt p ⟨l,o,[b]⟩=none):∀l o s,s.length<2→Yt p ⟨l,o,s⟩=none:=by
 intro l o s h;induction s using LLc with
 | nil=>exact h0 l o
 | cons b s=>induction s using LLc with
  | nil=>exact h1 l o b
  | cons a r=>exact absurd h (by simp)
theorem ZgU {P:Prop}{p:Pr}(hp:∀l o s,s.length<2→Yt p ⟨l,o,s⟩=none) (h:wp c (.o p k) st Q) (h1:∀l o b a r z,st=⟨l,o,b::a::r⟩→Yt p ⟨l,o,b::a::r⟩=some z→wp c k z Q→P) (h2:PrJ c p st (fun st1=>wp c k st1 Q)→P):P:=by
 rcases Yd h with ⟨z,q1,q2⟩ | h
 ·refine ZlE (Znk hp q1) fun l o b a r zo1=>?_;subst zo1;exact h1 l o b a r z rfl q1 q2
 ·exact h2 h.out
theorem Zoy {op:Operator}(h:wp c (.o (.bin op) k) st Q):OJ2 c (binaryOp op) st fun st1=>wp c k st1 Q :=
 ZgU (ZgC (fun j j=>rfl) fun j j j=>rfl) h (fun l o b a r z e h1 h2=>by subst e;exact Zm2 (f:=fun st1=>wp c k st1 Q) h1 h2) id
theorem Zh5 {op:CmpOp}(h:wp c (.o (.cmp op) k) st Q):OJ2 c (compareOp op) st fun st1=>wp c k st1 Q :=
 ZgU (ZgC (fun j j=>rfl) fun j j j=>rfl) h (fun l o b a r z e h1 h2=>by
  subst e;exact YK h1 fun y h3 h4=>ZoY (f:=fun st1=>wp c k st1 Q) h3 (ZS (P:=fun z=>wp c k z Q) h4 h2)) id
theorem Zox {op:Operator}(h:wp c (.o (.inp op) k) st Q):OJ2 c (inplaceOp op) st fun st1=>wp c k st1 Q :=
 ZgU (ZgC (fun j j=>rfl) fun j j j=>rfl) h (fun l o b a r z e h1 h2=>by
  subst e;cases op with
  | Add=>exact Wi h1 (fun x y h3=>Znj (ZS (P:=fun z=>wp c k z Q) h3 h2)) ZC
  | _=>exact ZC h1) id
theorem ZnM (h:wp c (.o .set k) st Q):TIJ c st fun st1=>wp c k st1 Q :=
 ZgU (ZgC (fun u u=>rfl) fun u u u=>rfl) h (fun l o b a r z e h1 h2=>by
  subst e;induction r using LLc with
  | nil=>exact ZC h1
  | cons v r=>induction a using A.casesOn with
   | own j=>exact Zv h1 fun xs q0 q=>Zv q fun n q1 q=>YK q fun ys q2 q3=>by rw [Xu q1];exact Zn8 (f:=fun st1=>wp c k st1 Q) q0 q2 (ZS (P:=fun z=>wp c k z Q) q3 h2)
   | _=>exact ZC h1) id
theorem Zpd {op:UnaryOp}(h:wp c (.o (.un op) k) st Q):OJ1 c (unaryOp op) st fun st1=>wp c k st1 Q:=by
 rcases Yd h with ⟨z,h1,h2⟩ | h
 ·obtain ⟨l,o,s⟩:=st;induction s using LLc with
  | nil=>exact Zo h1
  | cons a r =>
   refine Zb (Z9 h1) fun y h3 zo1=>?_;subst zo1;exact Zpr (f:=fun st1=>wp c k st1 Q) h3 h2
 ·exact h.out
theorem Zk2 {i:Expr}(h:Zf3 i=true):∃lo hi st p,i = .Slice lo hi st p:=Expr.Slice.elim (motive_1:=fun i=>∃lo hi st p,i = .Slice lo hi st p) i (eq_of_beq h) fun j j j j=>⟨_,_,_,_,rfl⟩
theorem Zom {v i:Expr}(h:wp c (if Zf3 i=true then .o .cut k else .o .sub k) st Q):OJ2 c (subscriptTail v i) st fun st1=>wp c k st1 Q:=by
 rcases ZaP h with ⟨h1,h⟩ | ⟨h1,h⟩
 ·refine Zc5 (Zk2 h1) fun j j j j zo1=>?_;subst zo1;exact ZgU (ZgC (fun j j=>rfl) fun j j j=>rfl) h (fun l o b a r z e h1 h2=>by
   subst e;exact YK h1 fun y h3 h4=>ZoR (f:=fun st1=>wp c k st1 Q) ZeR h3 (ZS (P:=fun z=>wp c k z Q) h4 h2)) False.elim
 ·exact ZgU (ZgC (fun j j=>rfl) fun j j j=>rfl) h (fun l o b a r z e h3 h2=>by
   subst e;exact YK h3 fun y h4 h5=>ZnW (f:=fun st1=>wp c k st1 Q) (ZgM (show Zf3 i=false from eq_false_of_ne_true h1)) h4 (ZS (P:=fun z=>wp c k z Q) h5 h2)) False.elim
theorem Wb {e:Expr}{env:Env}(h:XF e=true):∀x,foldedSetIterable e env x=pure x:=fun x=>by
 induction e using Expr.casesOn <;> first | rfl | exact Bool.noConfusion h
theorem Zb3 {e:Expr}{op:CmpOp}(h:XF e=true):behindInMarks op e=false:=by
 induction e using Expr.casesOn <;> first | rfl | exact Bool.noConfusion h
theorem ZcI {e:Expr}{t:Option Expr}{line:Nat}{env:Env}(h:swN e=true):swapsWith e t line env=pure false:=by
 induction e using Expr.casesOn <;> first | rfl | exact Bool.noConfusion h
theorem Zm4 {y:Str}{py cp:Pos}{line:Nat}{i:Nat}{elt:Expr}{gs:List Comprehension}{sc:Scope}(hl:IsL c y i) (h:(py.line==cp.line&&!(sc.names.any fun (n,k)=>n==y&&(k == .local||k == .cell)))=true):swapsWith (.ListComp elt gs sc cp) (some (.Name y py)) line c.env=pure true:=by
 have h1:c.env.blockKind = .function:=by unfold Env.blockKind;rw [c.hk];rfl
 have h2:(c.env.blockKind == .function&&c.env.kindOf y==some .local&&py.line==cp.line&&!(sc.names.any fun (n,k)=>n==y&&(k == .local||k == .cell)))=true:=by
  rw [h1,hl.1];exact h
 show (pure (c.env.blockKind == .function&&c.env.kindOf y==some .local&&py.line==cp.line&&!(sc.names.any fun (n,k)=>n==y&&(k == .local||k == .cell))):Sem Bool)=_;rw [h2]
theorem MJ.mono {x:Str}{Q Q':Nat→St→Prop}(h:MJ c x st Q) (q:∀m st1,Q m st1→Q' m st1):MJ c x st Q':=fun F ov vs s pl R=>wpm (h F ov vs s pl R) (fun fx s1 z=>by refine ozg z fun st1 R1 h1=>?_;exact ⟨st1,R1,q _ _ h1⟩)
theorem GJ.mono {es:List Expr}{Q Q':St→Prop}(h:GJ c es st Q) (q:∀st1,Q st1→Q' st1):GJ c es st Q':=fun F vs s pos R=>wpm (h F vs s pos R) (fun us s1 z=>by obtain ⟨a,st1,R1,h1⟩:=z;exact ⟨a,st1,R1,q _ h1⟩)
theorem ItJ.mono {tgt:Expr}{Q Q':(St→Prop)→List A→St→Prop}(h:ItJ c tgt st Q) (q:∀ok xs st,Q ok xs st→Q' ok xs st):ItJ c tgt st Q':=fun F v vs s R=>wpm (h F v vs s R) (fun itv s2 z=>by
 obtain ⟨it,need,wr,fp,g₁,pn,xs,ok,Si,st',e,hn,K,h0,hs,hd,R,h⟩:=z;exact ⟨it,need,wr,fp,g₁,pn,xs,ok,Si,st',e,hn,K,h0,hs,hd,R,q _ _ _ h⟩)
theorem IEJ.mono {tgt e:Expr}{Q Q':(St→Prop)→List A→St→Prop}(h:IEJ c tgt e st Q) (q:∀ok xs st,Q ok xs st→Q' ok xs st):IEJ c tgt e st Q':=fun F vs s R=>wpm (h F vs s R) (fun v s1 h1=>Kb h1 (fun itv s2 h2=>by
 obtain ⟨it,need,wr,fp,g₁,pn,xs,ok,Si,st',e,hn,K,h0,hs,hd,R,h⟩:=h2;exact ⟨it,need,wr,fp,g₁,pn,xs,ok,Si,st',e,hn,K,h0,hs,hd,R,q _ _ _ h⟩) fun j j x=>x)
theorem ZgS {x:Option Expr}{y:Str}(h:ZpE x=some y):∃n p,x=some (.Constant (.str y) n p):=by
 induction x with
 | none=>exact ZC h
 | some x=>induction x using Expr.casesOn with
  | Constant v n p=>cases v with
   | str z=>obtain rfl:=Kc h;exact ⟨_,_,rfl⟩
   | _=>exact ZC h
  | _=>exact ZC h
end
theorem ZoM {E:E0}{sc:Scope}{a m:Nat}(h:(ZK sc.names==0||a==m)=true):inE E sc m=inE E sc a:=by
 refine Or.elim (Bool.or_eq_true_iff.mp h) (fun h=>?_) fun h=>?_
 ·have:Zh sc.names=[]:=List.eq_nil_of_length_eq_zero (by rw [←Zb6];exact eq_of_beq h);unfold inE Yr;rw [this];rfl
 ·rw [eq_of_beq h]
section
variable {n:Nat}{c:Cx}{E:E0}(X:EnvOk c E) (ih:∀{c:Cx}{E:E0},EnvOk c E→∀it,Mng c E (cmp n E) it)
include X ih
theorem ZdB {sc:Scope}{tgt it elt:Expr}{ifs:List Expr}{m:Nat}{t:Tg}{st:St}{P:List D→Prop}(hc:XB sc E.cel=true) (e:WP (inE E sc m) tgt=some t) (hn:(ZK sc.names==0||st.own.length==m)=true)
 (h:wp c (cmp n E (.i (Wm E tgt it) it) .nil) st (nx fun st1=>opt (itF (Wm E tgt it) t st1) fun q=>(match q with | (_,xs,st2)=>CompI c t (fun c' st P=>wp c' (cmp n (inE E sc m) (.c ifs elt) .nil) st P) (ZK sc.names) xs st st2 st.own P))) :
 IEJ c tgt it st fun ok xs st2=>st2=st∧∀c',CompFr c c' sc (Yr sc (ZaK sc E.cel) st.own.length)→CompJ c' tgt ifs elt ok st.own.length xs ⟨[],st.own++[.list []]++List.replicate (ZK sc.names) (.cell none),[]⟩ fun st3=>∃(ys:List D) (cl:List O),st3.own=st.own++[.list (ys.map .d)]++cl∧P ys:=by
 rw [(ZoM (E:=E) hn)] at h e;refine (ih X (.i (Wm E tgt it) it) _ tgt t e rfl .nil st _ _ h fun st1 q=>q).mono fun ok xs st2 zq0=>?_;refine ZcQ zq0 fun zo2 e1 e2 e3 e4 q=>?_;obtain ⟨kp,ys,st3⟩:=zo2;obtain rfl:ok=_:=e1;obtain rfl:xs=_:=e3;obtain rfl:st2=_:=e4;have hs:st2=st:=by induction q;assumption
 subst hs;exact ⟨rfl,fun c' H=>(ZkH X e (fun c' X' st Q q=>ih X' (.c ifs elt) st Q q) e2 q H).2⟩
theorem ZnL {sc:Scope}{tgt it elt:Expr}{ifs:List Expr}{m:Nat}{t:Tg}{st:St}{pos:Pos}{k:C}{Q:Fw→St→Prop}(hc:(XB sc E.cel&&XF it)=true) (e:WP (inE E sc m) tgt=some t)
 (h:wp c (.comp (Wm E tgt it) (ZK sc.names) m (cmp n E (.i (Wm E tgt it) it) .nil) t (cmp n (inE E sc m) (.c ifs elt) .nil) k) st Q):EJ c (.ListComp elt [⟨tgt,it,ifs,0⟩] sc pos) st fun st1=>wp c k st1 Q:=by
 refine oza (Yp hc) fun hc hs=>?_;obtain ⟨l,o,s⟩:=st;refine oza (ZaB h) fun hn h=>?_;refine Ze6 (Zk6 (Zby X.cel hc) (ZfC ((ZdB X ih hc e hn h).mono fun ok xs st2 zq1 c' H=>?_)) (Wb hs));refine oza zq1 fun e2 q=>?_;subst e2;exact (q c' H).mono fun st3 zq2=>by refine Zz zq2 fun ys cl ho hp=>?_;exact ⟨[.list (ys.map .d)]++cl,.own o.length,.list ys,by rw [ho,List.append_assoc],Zew _ rfl,hp⟩
theorem Zna {sc:Scope}{tgt it elt:Expr}{ifs:List Expr}{m i:Nat}{t:Tg}{st:St}{pos py spos:Pos}{y:Str}{k:C}{Q:Fw→St→Prop}(hl:IsL c y i) (hsw:swapsWith (.ListComp elt [⟨tgt,it,ifs,0⟩] sc pos) (some (.Name y py)) spos.line c.env=pure true) (hc:(XB sc E.cel&&XF it)=true) (e:WP (inE E sc m) tgt=some t)
 (h:wp c (.comp (Wm E tgt it) (ZK sc.names) m (cmp n E (.i (Wm E tgt it) it) .nil) t (cmp n (inE E sc m) (.c ifs elt) .nil) (.o (.st (.l i)) k)) st Q):SJ c (.Assign [.Name y py] (.ListComp elt [⟨tgt,it,ifs,0⟩] sc pos) spos) st fun f st1=>nxt (fun st2=>wp c k st2 Q) Q (up f) st1:=by
 refine oza (Yp hc) fun hc hs=>?_;obtain ⟨l,o,sk⟩:=st;refine oza (ZaB h) fun hn h=>?_;refine Zba (i:=i) (Zc4 (Zby X.cel hc) (ZfC ((ZdB X ih hc e hn h).mono fun ok xs st2 zq3 c' H=>?_)) hsw (Wb hs));refine oza zq3 fun e2 q=>?_;subst e2;exact (q c' H).mono fun st3 zq4=>by refine Zz zq4 fun ys cl ho hp=>?_;exact Z1 hl ⟨rfl,[.list (ys.map .d)]++cl,.list ys,by rw [ho,List.append_assoc],Zew _ rfl,hp⟩
theorem ZcM {x:Option Expr}{st:St}{g:Option Int→St→Prop}(h:Zdy x.isSome (fun st P=>wp c (cmp n E (.p x) .nil) st P) st g):PJ c x st g:=ih X (.p x) st g h
theorem ZqU (xs:List Expr):Mng c E (cmp (n+1) E) (.es xs):=by
 intro k st Q h;induction xs using LLc with
 | nil =>
  refine ⟨XQ h,fun ks keys hk hl=>?_⟩;induction ks using LLc with
  | nil=>obtain rfl:=Kc hk;exact ZnS ⟨rfl,h⟩
  | cons _ _=>cases hl
 | cons x xs =>
  refine oza (ZW h) fun hs h=>?_;have hx:=ih X (.e x) _ _ _ h;refine ⟨ZY (hx.mono fun st1 q=>(ih X (.es xs) _ _ _ q).1) (by simpa using hs),fun ks keys hk hl=>?_⟩;induction ks using LLc with
  | nil=>cases hl
  | cons y ks =>
   refine Zb (Zc0 hk) fun z h1 h2=>?_;refine Zb (Z9 h2) fun zs h3 zo1=>?_;subst zo1;refine XN (ZgS h1) fun nn p zo2=>?_;subst zo2;refine Zmf (hx.mono fun st1 q=>?_);exact fun F vs s pos R=>wpm ((ih X (.es xs) _ _ _ q).2 ks zs h3 (Nat.succ.inj hl) F vs s pos R) (fun ps s2 zq5=>by refine Yk zq5 fun ys st2 q1 q2 q3 q4=>?_;exact ⟨ys,st2,q1,q2,by rw [q3],q4⟩)
end
end
section
section
variable {n:Nat}{c:Cx}{E:E0}(X:EnvOk c E) (ih:∀{c:Cx}{E:E0},EnvOk c E→∀it,Mng c E (cmp n E) it)
include X ih
omit X ih in
theorem Zhh {b:Expr}{k:C}{g:C→C}{st:St}{Q:Fw→St→Prop}(h:wp c (Zcu b k g) st Q):(∃p,b = .List [] p∧wp c (.o (.lit (.list [])) k) st Q)∨wp c (g k) st Q:=by
 induction b using Expr.casesOn with
 | List es p=>induction es using LLc with
  | nil=>exact .inl ⟨p,rfl,h⟩
  | cons _ _=>exact .inr h
 | _=>exact .inr h
theorem ZbO {b:Expr}{op:CmpOp}{k:C}{st:St}{Q:Fw→St→Prop}(h:wp c (Zcu b (.o (.cmp op) k) (cmp n E (.e b))) st Q):EJ c b st fun st2=>OJ2 c (compareOp op) st2 fun st3=>wp c k st3 Q:=by
 rcases Zhh h with ⟨p,rfl,h⟩ | h
 ·obtain ⟨l,o,s⟩:=st;exact ZcO (by decide) (XQ ⟨[],s,rfl,Zh5 (st:=⟨l,o,.d (.list [])::s⟩) h⟩)
 ·exact (ih X (.e _) _ _ _ h).mono fun st2 q=>Zh5 q
omit X ih in
theorem Zly {f:Expr}{m:Nat}{b:Bi}(h:biE E f m=some b):∃x p v,f = .Name x p∧Uz E x=some v∧Zjf v m=some b :=
 ZO h fun h1 h=>Zv h fun v h2 h3=>Expr.Name.elim (motive_1:=fun f=>Uz E (Zpu f)=some v→∃x p v,f = .Name x p∧Uz E x=some v∧Zjf v m=some b) f (eq_of_beq h1) (fun x p h2=>⟨x,p,v,rfl,h2,h3⟩) h2
theorem ZnB {f:Expr}{as:List Expr}{pos:Pos}{k:C}{st:St}{Q:Fw→St→Prop}(ha:Xd f=false) (hs:Zt as=true) (h:wp c (match biE E f as.length with
 | some b=>.bi b (cmp n E (.es as) .nil) k
 | none=>cmp n E (.e f) (cmp n E (.es as) (.call as.length k))) st Q):EJ c (.Call f as [] pos) st fun st1=>wp c k st1 Q:=by
 induction hb:biE E f as.length with
 | some b =>
  rw [hb] at h;refine Zdj (Zly hb) fun x px v zo1 h1 h2=>?_;subst zo1;refine oza (Zl1 h2) fun zo2 h3=>?_;subst zo2;obtain ⟨l,o,s⟩:=st;have hg:=ZcN X h1;have key:GJ c as ⟨l,o,.d (.val (biV b))::s⟩ fun st2=>CJ c as.length st2 fun st1=>wp c k st1 Q:=(Ww (p:=[]) (v:=biV b) (ih X (.es as) _ ⟨l,o,s⟩ _ h).1).mono fun st1 q=>by
   refine Zc q fun q s1' e1 e2 e3=>?_;obtain ⟨l1,o1,k1⟩:=st1;obtain rfl:k1=_:=e1;refine Zb (Z7 e3) fun st2 e4 e5=>?_;rw [h3];exact ZqB (f:=fun st1=>wp c k st1 Q) (by rw [e2,h3];rfl) e4 e5
  induction as using LLc with
  | nil=>induction b <;> cases h3
  | cons a as=>exact Zff (Z2 hg key) ha hs
 | none =>
  rw [hb] at h;have hf:=ih X (.e f) _ _ _ h;induction as using LLc with
  | nil =>
   refine Zmj (hf.mono fun st1 q=>?_) ha;have hg:=(ih X (.es []) _ _ _ q).1;induction n using Nat.casesOn with
   | zero=>exact False.elim q
   | succ n=>exact Stop.out q
  | cons a as=>exact Zff (hf.mono fun st1 q=>fun F vs s pos R=>wpm ((ih X (.es (a::as)) _ _ _ q).1 F vs s pos R) (fun us s1 zq1=>by obtain ⟨hl,st2,R2,q2⟩:=zq1;exact ⟨hl,st2,R2,Stop.out q2⟩)) ha hs
theorem ZqZ {ob:Expr}{ap:Pos}{as:List Expr}{pos:Pos}{m:Me}{k:C}{st:St}{Q:Fw→St→Prop}(h1:Xw ob=false) (h2:Zt as=true) (h3:decide (as.length<30)=true) (h4:(ap.endLine==pos.line)=true) (h5:as.length=meN m)
 (ho:EJ c ob st fun st1=>wp c (.mth m (cmp n E (.es as) .nil) k) st1 Q):EJ c (.Call (.Attribute ob (meX m) ap) as [] pos) st fun st1=>wp c k st1 Q:=by
 induction as using LLc with
 | nil=>induction m <;> cases h5
 | cons a as =>
  refine Zax (ho.mono fun st1 q=>?_) h1 h2 h3 h4;refine oza (ZaB q) fun q1 q2=>?_;obtain ⟨l,o,s⟩:=st1;induction s using LLc with
  | nil=>exact YU q1
  | cons r s =>
   refine Zl2 q1 ((Ww (p:=[r]) (v:=.builtin (meI m)) (ih X (.es (a::as)) _ ⟨l,o,[r]++s⟩ _ q2).1).mono fun st1 q=>?_);refine Zc q fun q s1' e1 e2 e3=>?_;obtain ⟨l1,o1,k1⟩:=st1;obtain rfl:k1=_:=e1;refine Zb (Z7 e3) fun st2 e4 e5=>?_;rw [Nat.add_comm,h5];exact ZpZ (f:=fun st1=>wp c k st1 Q) (by rw [e2,h5];rfl) e4 e5
theorem ZrP {ob:Expr}{ap:Pos}{as:List Expr}{pos:Pos}{m:Md}{k:C}{st:St}{Q:Fw→St→Prop}(h1:Xw ob=false) (h2:Zt as=true) (h3:decide (as.length<30)=true) (h4:(ap.endLine==pos.line)=true) (h5:as.length=mdN m)
 (ho:EJ c ob st fun st1=>wp c (.mtd m (cmp n E (.es as) .nil) k) st1 Q):EJ c (.Call (.Attribute ob (mdX m) ap) as [] pos) st fun st1=>wp c k st1 Q:=by
 induction as using LLc with
 | nil=>induction m <;> cases h5
 | cons a as =>
  refine Zax (ho.mono fun st1 q=>?_) h1 h2 h3 h4;refine oza (ZaB q) fun q1 q2=>?_;obtain ⟨l,o,s⟩:=st1;induction s using LLc with
  | nil=>exact YU q1
  | cons r s =>
   refine Zmv q1 ((Ww (p:=[r]) (v:=.builtin (mdI m)) (ih X (.es (a::as)) _ ⟨l,o,[r]++s⟩ _ q2).1).mono fun st1 q=>?_);refine Zc q fun q s1' e1 e2 e3=>?_;obtain ⟨l1,o1,k1⟩:=st1;obtain rfl:k1=_:=e1;refine Zb (Z7 e3) fun g e4 e5=>?_;rw [Nat.add_comm,h5];exact Zo6 (f:=fun st1=>wp c k st1 Q) (by rw [e2,h5];rfl) e4 e5
theorem ZrC {ob:Expr}{x:Str}{ap:Pos}{as:List Expr}{pos:Pos}{k:C}{st:St}{Q:Fw→St→Prop}(h1:Xw ob=false) (h2:Zt as=true) (h3:decide (as.length<30)=true) (h4:(ap.endLine==pos.line)=true)
 (ho:EJ c ob st fun st1=>wp c (.meth x as.length (cmp n E (.es as) .nil) k) st1 Q):EJ c (.Call (.Attribute ob x ap) as [] pos) st fun st1=>wp c k st1 Q:=by
 induction as using LLc with
 | nil =>
  refine Y6 (ho.mono fun st1 q=>MJ.mono (Stop.out q) fun m st2 q2=>?_) h1 h4;induction n using Nat.casesOn with
  | zero=>exact False.elim q2
  | succ n=>exact q2
 | cons a as=>exact Zax (ho.mono fun st1 q=>MJ.mono (Stop.out q) fun m st2 q2=>(ih X (.es (a::as)) _ _ _ q2).1) h1 h2 h3 h4
theorem ZoZ {ob:Expr}{x:Str}{ap:Pos}{as:List Expr}{pos:Pos}{k:C}{st:St}{Q:Fw→St→Prop}(hb:(!Xw ob&&Zt as&&decide (as.length<30)&&(ap.endLine==pos.line))=true) (h:wp c (cmp n E (.e ob) (match Zh6 x as.length with
 | some m=>.mth m (cmp n E (.es as) .nil) k
 | none=>(match Zjw x as.length with
  | some m=>.mtd m (cmp n E (.es as) .nil) k
  | none=>.meth x as.length (cmp n E (.es as) .nil) k))) st Q):EJ c (.Call (.Attribute ob x ap) as [] pos) st fun st1=>wp c k st1 Q:=by
 simp only [Bool.and_eq_true,Bool.not_eq_true'] at hb;refine oza hb fun zo3 h4=>?_;refine oza zo3 fun zo2 h3=>?_;refine oza zo2 fun h1 h2=>?_;have ho:=ih X (.e ob) _ _ _ h;clear h;induction hm:Zh6 x as.length with
 | some m=>rw [hm] at ho;refine oza (Zmq hm) fun zo3 h5=>?_;subst zo3;exact ZqZ X ih h1 h2 h3 h4 h5 ho
 | none =>
  rw [hm] at ho;induction hd:Zjw x as.length with
  | some m=>rw [hd] at ho;refine oza (Zlh hd) fun zo4 h5=>?_;subst zo4;exact ZrP X ih h1 h2 h3 h4 h5 ho
  | none=>rw [hd] at ho;exact ZrC X ih h1 h2 h3 h4 ho
theorem m_e (x:Expr):Mng c E (cmp (n+1) E) (.e x):=by
 intro k st Q h;rcases ZaP h with ⟨_,h⟩ | ⟨_,h⟩
 ·obtain ⟨l,o,s⟩:=st;exact Ze6 (ih X (.z x) _ _ _ h)
 ·exact ih X (.z x) _ _ _ h
omit X ih in
theorem Ziy {f:Expr}(h:Xd f=true):∃ob x p,f = .Attribute ob x p:=Expr.Attribute.elim (motive_1:=fun t=>∃ob x p,t = .Attribute ob x p) f (eq_of_beq h) fun j j j=>⟨_,_,_,rfl⟩
omit X ih in
theorem ZjE {f:Expr}{as:List Expr}{pos:Pos}{k:C}{st:St}{Q:Fw→St→Prop}(ha:Xd f=false) (h:wp c (cmp (n+1) E (.z (.Call f as [] pos)) k) st Q):wp c (cnd (Zt as) (match biE E f as.length with
 | some b=>.bi b (cmp n E (.es as) .nil) k
 | none=>cmp n E (.e f) (cmp n E (.es as) (.call as.length k)))) st Q:=by
 induction f using Expr.casesOn with
 | Attribute ob x p=>exact Bool.noConfusion ha
 | _=>exact h
theorem Znv {ks:List (Option Expr)}{es:List Expr}{pos:Pos}{k:C}{st:St}{Q:Fw→St→Prop}(h:wp c (cmp (n+1) E (.z (.Dict ks es pos)) k) st Q):EJ c (.Dict ks es pos) st fun st1=>wp c k st1 Q:=by
 obtain ⟨l,o,s⟩:=st;induction ks using LLc with
 | nil=>induction es using LLc with
  | nil=>exact Zl6 h
  | cons e es=>exact False.elim h
 | cons y ks =>
  have h:wp c (cnd (Zbk (y::ks) es) (opC (ZfP (y::ks)) fun xs=>cnd (decide xs.Nodup) (.dict xs (cmp n E (.es es) .nil) k))) ⟨l,o,s⟩ Q:=h;refine oza (ZW h) fun h1 h=>?_;refine Zb (XX h) fun xs h2 h=>?_;refine oza (ZW h) fun h3 h=>?_;have hl:(y::ks).length=es.length:=by
   unfold Zbk at h1;simp only [Bool.and_eq_true,beq_iff_eq] at h1;exact h1.1.1.2
  refine ZkM ?_ h1;refine fun F vs s pos R=>wpm ((ih X (.es es) _ _ _ h).2 _ xs h2 hl F vs s pos R) (fun ps s1 zw=>Yk zw fun ys st1 q1 q2 q3 q4=>⟨ys,st1,q1,q2,?_⟩);subst q3;obtain ⟨l1,o1,s1⟩:=st1;refine Zb (Z7 q4) fun zo2 e1 e2=>?_;obtain ⟨as,r⟩:=zo2;dsimp only at e2;split at e2
  ·rename_i e3;exact ⟨e3,Kw h3,as,r,e1,e2⟩
  ·exact e2.elim
theorem Znq {elt:Expr}{gs:List Comprehension}{sc:Scope}{pos:Pos}{k:C}{st:St}{Q:Fw→St→Prop}(h:wp c (cmp (n+1) E (.z (.ListComp elt gs sc pos)) k) st Q):EJ c (.ListComp elt gs sc pos) st fun st1=>wp c k st1 Q:=by
 induction gs using LLc with
 | nil=>exact False.elim h
 | cons g gs =>
  obtain ⟨tgt,it,ifs,z⟩:=g;induction gs using LLc with
  | cons _ _=>exact False.elim h
  | nil =>
   refine oza (ZW h) fun h0 h3=>?_;refine oza (ZW h3) fun h1 h4=>?_;refine Zb (XX h4) fun t h2 h5=>?_;obtain rfl:z=0:=Kw h0;exact ZnL X ih h1 h2 h5
theorem ZpB {a:Expr}{ops:List CmpOp}{bs:List Expr}{pos:Pos}{k:C}{st:St}{Q:Fw→St→Prop}(h:wp c (cmp (n+1) E (.z (.Compare a ops bs pos)) k) st Q):EJ c (.Compare a ops bs pos) st fun st1=>wp c k st1 Q:=by
 induction ops using LLc with
 | nil=>exact False.elim h
 | cons op ops=>induction ops using LLc with
  | cons _ _=>exact False.elim h
  | nil=>induction bs using LLc with
   | nil=>exact False.elim h
   | cons b bs=>induction bs using LLc with
    | cons _ _=>exact False.elim h
    | nil =>
     refine oza (ZW h) fun h1 h=>?_;exact ZpW ((ih X (.e a) _ _ _ h).mono fun st1 q=>ZbO X ih q) (Zb3 h1)
theorem Zof {f:Expr}{as:List Expr}{kw:List Keyword}{pos:Pos}{k:C}{st:St}{Q:Fw→St→Prop}(h:wp c (cmp (n+1) E (.z (.Call f as kw pos)) k) st Q):EJ c (.Call f as kw pos) st fun st1=>wp c k st1 Q:=by
 induction kw using LLc with
 | cons _ _=>exact False.elim h
 | nil =>
  by_cases ha:Xd f=true
  ·refine ZdE (Ziy ha) fun ob x ap zo1=>?_;subst zo1;refine oza (ZW h) fun h1 h=>?_;exact ZoZ X ih h1 h
  ·have ha':Xd f=false:=by simpa using ha
   have h':wp c (cnd (Zt as) (match biE E f as.length with
    | some b=>.bi b (cmp n E (.es as) .nil) k
    | none=>cmp n E (.e f) (cmp n E (.es as) (.call as.length k)))) st Q:=ZjE ha' h
   refine oza (ZW h') fun h1 h2=>?_;exact ZnB X ih ha' h1 h2
theorem Znz {es:List Expr}{pos:Pos}{k:C}{st:St}{Q:Fw→St→Prop}(h:wp c (cmp (n+1) E (.z (.List es pos)) k) st Q):EJ c (.List es pos) st fun st1=>wp c k st1 Q:=by
 refine oza (ZW h) fun h1 h=>?_;have hg:=(ih X (.es es) _ _ _ h).1;refine Or.elim (Decidable.em (es=[]∨pos.line∈E.own)) (fun hp=>?_) fun hp=>?_
 ·rw [if_pos hp] at hg;refine Zkq (Kw h1) (fun F vs s pos R=>wpm (hg F vs s pos R) (fun us s1 zw=>oza zw fun hl zv=>ozg zv fun st1 R1 q=>⟨hl,st1,R1,?_⟩));refine Ka fun zn18=>?_;refine Zb (Yd q |>.resolve_right fun h=>h.out) fun q1 q2 q3=>?_;refine Zb (Z9 q2) fun q4 q5 zo1=>?_;subst zo1;refine zn18 ?_;exact ⟨_,_,q5,q3⟩
 ·rw [if_neg hp] at hg;refine ZcO (Kw h1) (fun F vs s pos R=>wpm (hg F vs s pos R) (fun us s1 zw=>oza zw fun hl zv=>ozg zv fun st1 R1 q=>⟨hl,st1,R1,?_⟩));refine Ka fun zn19=>?_;refine Zb (Yd q |>.resolve_right fun h=>h.out) fun q1 q2 q3=>?_;refine Zb (Z9 q2) fun q4 q5 zo2=>?_;subst zo2;refine zn19 ?_;exact ⟨_,_,q5,q3⟩
theorem Zqe {es:List Expr}{kk:Nat}{pos:Pos}{k:C}{st:St}{Q:Fw→St→Prop}(h:wp c (cmp (n+1) E (.z (.Tuple es kk pos)) k) st Q):EJ c (.Tuple es kk pos) st fun st1=>wp c k st1 Q:=by
 refine oza (ZW h) fun h1 h=>?_;refine Zgu (Kw h1) (fun F vs s pos R=>wpm ((ih X (.es es) _ _ _ h).1 F vs s pos R) (fun us s1 zw=>oza zw fun hl zv=>ozg zv fun st1 R1 q=>⟨hl,st1,R1,?_⟩));refine Ka fun zn21=>?_;refine Zb (Yd q |>.resolve_right fun h=>h.out) fun q1 q2 q3=>?_;refine Zb (Z9 q2) fun q4 q5 zo1=>?_;subst zo1;refine zn21 ?_;exact ⟨_,_,q5,q3⟩
theorem Zla {lo hi sp:Option Expr}{pos:Pos}{k:C}{st:St}{Q:Fw→St→Prop}(h:wp c (cmp (n+1) E (.z (.Slice lo hi sp pos)) k) st Q):EJ c (.Slice lo hi sp pos) st fun st1=>wp c k st1 Q:=by
 refine Zma (fun F vs s R=>wpm (ZcM X ih h F vs s R) (fun v s1 zw=>Zc zw fun i st1 q1 R1 q=>⟨i,st1,q1,R1,?_⟩));refine fun F vs s R=>wpm (ZcM X ih q F vs s R) (fun v s1 zw=>Zc zw fun i st1 q1 R1 q=>⟨i,st1,q1,R1,?_⟩);exact fun F vs s R=>wpm (ZcM X ih q F vs s R) (fun v s1 zq13=>by refine Zc zq13 fun i zo2 q1 R1 q=>?_;obtain ⟨l,o,s⟩:=zo2;exact ⟨i,⟨l,o,s⟩,q1,R1,q⟩)
theorem m_z (x:Expr):Mng c E (cmp (n+1) E) (.z x):=by
 intro k st Q h;induction x using Expr.casesOn with
 | BoolOp op xs pos=>exact ZhI (ih X (.v op xs) _ _ _ _ h)
 | BinOp a op b pos=>exact Zmi ((ih X (.e a) _ _ _ h).mono fun st1 q=>(ih X (.e b) _ _ _ q).mono fun st2 q=>Zoy q)
 | UnaryOp op a pos=>exact ZkD ((ih X (.e a) _ _ _ h).mono fun st1 q=>Zpd q)
 | IfExp t a b pos =>
  exact ZkO ((ih X (.t t) _ _ h).mono fun z st1 q=>⟨fun hz=>(ih X (.e a) _ _ _ ((YA q).1 hz)).mono fun st2 q=>q,fun hz=>(ih X (.e b) _ _ _ ((YA q).2 hz)).mono fun st2 q=>q⟩)
 | Dict ks es pos=>exact Znv X ih h
 | ListComp elt gs sc pos=>exact Znq X ih h
 | Compare a ops bs pos=>exact ZpB X ih h
 | Call f as kw pos=>exact Zof X ih h
 | Constant v kk pos =>
  obtain ⟨l,o,s⟩:=st;refine Zb (XX h) fun d h1 h=>?_;induction v <;> cases h1
  ·exact Zcl h
  ·exact ZoS h
  ·exact ZfG h
  ·exact Zpk h
 | Attribute ob y pos =>
  refine oza (ZW h) fun h1 h=>?_;exact Wx ((ih X (.e ob) _ _ _ h).mono fun st1 q=>Zpa X q) (by simpa using h1)
 | Subscript v i pos=>exact Zqq ((ih X (.e v) _ _ _ h).mono fun st1 q=>(ih X (.e i) _ _ _ q).mono fun st2 q=>Zom q)
 | Name y pos=>exact Zli X h
 | List es pos=>exact Znz X ih h
 | Tuple es kk pos=>exact Zqe X ih h
 | Slice lo hi sp pos=>exact Zla X ih h
 | _=>exact False.elim h
theorem m_t (x:Expr):Mng c E (cmp (n+1) E) (.t x):=by
 intro st Q h;have val:wp c (cmp n E (.e x) .tru) st Q→(∀whole,isTrue x c.env whole=(do let v ←whole;standAt x.pos;holding [v] (truthy v)))→TJ c x st fun z st1=>Q (.b z) st1:=fun h he=>ZfF ((ih X (.e x) _ _ _ h).mono fun st1 q=>ZiP q) he;induction x using Expr.casesOn with
 | UnaryOp op y pos=>cases op with
  | Not=>exact ZmT ((ih X (.t y) _ _ h).mono fun z st1 q=>q)
  | _=>exact False.elim h
 | BoolOp op xs pos=>exact Zfl (ih X (.ts op xs) _ _ h)
 | IfExp _ _ _ _=>exact False.elim h
 | Compare a ops bs pos =>
  induction ops using LLc with
  | nil=>exact False.elim h
  | cons op ops=>induction ops using LLc with
   | cons _ _=>exact False.elim h
   | nil=>induction bs using LLc with
    | nil=>exact False.elim h
    | cons b bs=>induction bs using LLc with
     | cons _ _=>exact False.elim h
     | nil =>
      obtain ⟨h1,h⟩:=ZW h;exact Uh ((ih X (.e a) _ _ _ h).mono fun st1 q=>(ZbO X ih q).mono fun st2 q=>fun F u v vs s R=>wpm (q F u v vs s R) (fun v s1 zq14=>by refine ozg zq14 fun st3 R3 q3=>?_;exact ⟨st3,R3,ZiP q3⟩)) (Zb3 h1)
 | _=>exact val h fun j=>rfl
theorem ZrF (op:BoolOp) (xs:List Expr):Mng c E (cmp (n+1) E) (.ts op xs):=by
 intro st Q h;induction xs using LLc with
 | nil=>exact False.elim h
 | cons x xs=>induction xs using LLc with
  | nil =>
   have h1:=ih X (.t x) _ _ h;cases op with
   | And=>exact Zgk (h1.mono fun z st1 q=>⟨fun hz=>Zg2 (hz▸q),fun hz=>hz▸q⟩)
   | Or=>exact ZlG (h1.mono fun z st1 q=>⟨fun hz=>Zen (hz▸q),fun hz=>hz▸q⟩)
  | cons y xs=>cases op with
   | And=>exact Zgk ((ih X (.t x) _ _ h).mono fun z st1 q=>⟨fun hz=>ih X (.ts .And (y::xs)) _ _ ((YA q).1 hz),fun hz=>(YA q).2 hz⟩)
   | Or=>exact ZlG ((ih X (.t x) _ _ h).mono fun z st1 q=>⟨fun hz=>ih X (.ts .Or (y::xs)) _ _ ((YA q).2 hz),fun hz=>(YA q).1 hz⟩)
omit X ih in
theorem Zep {R:Bool→List (Nat×A)→List O→List A→Prop}{l:List (Nat×A)}{o:List O}{s:List A}(q:match (⟨l,o,s⟩:St) with | ⟨l,o,.d (.bool y)::r⟩=>R y l o r | _=>False):∃y r,s = .d (.bool y)::r∧R y l o r:=by
 induction s using LLc with
 | nil=>exact False.elim q
 | cons a r=>induction a using A.casesOn with
  | d x=>induction x using D.casesOn with
   | bool y=>exact ⟨_,_,rfl,q⟩
   | _=>exact False.elim q
  | _=>exact False.elim q
theorem m_v (op:BoolOp) (xs:List Expr):Mng c E (cmp (n+1) E) (.v op xs):=by
 intro pos k st Q h;induction xs using LLc with
 | nil=>exact False.elim h
 | cons x xs=>induction xs using LLc with
  | nil=>exact Zoz (ih X (.e x) _ _ _ h)
  | cons y xs =>
   have hx:=ih X (.e x) _ _ _ h;cases op with
   | And =>
    refine ZpS (hx.mono fun st1 q=>?_);obtain ⟨l,o,s⟩:=st1;refine Zz (Zep (R:=fun b l o r=>Sel (b==true) (wp c (cmp n E (.v .And (y::xs)) .nil) ⟨l,o,r⟩ fun f st2=>nxt (fun st2=>wp c k st2 Q) Q f st2) (wp c k ⟨l,o,.d (.bool b)::r⟩ Q)) q) fun b r zo1 q=>?_;subst zo1;refine Zjm ⟨fun hz=>?_,fun hz=>?_⟩
    ·subst hz;exact fun F vs s R=>wpm (ih X (.v .And (y::xs)) pos _ _ _ q F vs s R) fun j j x=>x
    ·subst hz;exact q
   | Or =>
    refine Zrs (hx.mono fun st1 q=>?_);obtain ⟨l,o,s⟩:=st1;refine Zz (Zep (R:=fun b l o r=>Sel (b==false) (wp c (cmp n E (.v .Or (y::xs)) .nil) ⟨l,o,r⟩ fun f st2=>nxt (fun st2=>wp c k st2 Q) Q f st2) (wp c k ⟨l,o,.d (.bool b)::r⟩ Q)) q) fun b r zo2 q=>?_;subst zo2;refine Zjm ⟨fun hz=>?_,fun hz=>?_⟩
    ·subst hz;exact fun F vs s R=>wpm (ih X (.v .Or (y::xs)) pos _ _ _ q F vs s R) fun j j x=>x
    ·subst hz;exact q
theorem m_p (x:Option Expr):Mng c E (cmp (n+1) E) (.p x):=by
 intro st g h;induction x with
 | none=>exact Zjn h
 | some x =>
  refine ZoC ((ih X (.e x) _ _ _ h).mono fun st1 q=>?_);obtain ⟨l,o,s⟩:=st1;induction s using LLc with
  | nil=>exact False.elim q
  | cons a r=>induction a using A.casesOn with
   | d x=>induction x using D.casesOn with
    | int i=>exact ⟨_,_,rfl,q⟩
    | _=>exact False.elim q
   | _=>exact False.elim q
theorem m_c (ifs:List Expr) (x:Expr):Mng c E (cmp (n+1) E) (.c ifs x):=by
 intro st Q h;induction ifs using LLc with
 | nil=>exact ⟨fun j=>ih X (.e x) _ _ _ h,fun e=>nomatch e⟩
 | cons y ifs=>exact (ih X (.t y) _ _ h).mono fun z st1 q=>⟨fun hz=>ih X (.c ifs x) _ _ ((YA q).1 hz),fun hz=>⟨fun e=>(nomatch e),fun j=>(YA q).2 hz⟩⟩
end
end
section
theorem Zpz {α:Type}{l:List α}(h:l.length=2):∃a b,l=[a,b]:=by
 induction l using LLc with
 | nil=>cases h
 | cons a l=>induction l using LLc with
  | nil=>cases h
  | cons b l=>induction l using LLc with
   | nil=>exact ⟨a,b,rfl⟩
   | cons _ _=>cases h
section
variable {n:Nat}{c:Cx}{E:E0}(X:EnvOk c E) (ih:∀{c:Cx}{E:E0},EnvOk c E→∀it,Mng c E (cmp n E) it)
include X ih
omit X ih in
theorem Zb5 {t:Expr}(h:isTup t=true):∃es n p,t = .Tuple es n p:=Expr.Tuple.elim (motive_1:=fun t=>∃es n p,t = .Tuple es n p) t (eq_of_beq h) fun j j j=>⟨_,_,_,rfl⟩
inductive SrI (E:E0) (tgt:Expr):Sr→Expr→Prop
 | val {it}:SrI E tgt .val it
 | zip {x px a b kw pos} (h1:Uz E x=some (.type "zip")) (h2:isTup tgt=true):SrI E tgt .zip (.Call (.Name x px) [a,b] kw pos)
 | enum {x px a kw pos} (h1:Uz E x=some (.type "enumerate")) (h2:isTup tgt=true):SrI E tgt .enum (.Call (.Name x px) [a] kw pos)
omit X ih in
theorem Zlx {tgt it:Expr}:SrI E tgt (Wm E tgt it) it:=by
 induction it using Expr.casesOn with
 | Call f as kw pos=>induction f using Expr.casesOn with
  | Name x px =>
   show SrI E tgt (if Uz E x=some (.type "zip")∧as.length=2∧isTup tgt=true then .zip else if Uz E x=some (.type "enumerate")∧as.length=1∧isTup tgt=true then .enum else .val) _;by_cases h:Uz E x=some (.type "zip")∧as.length=2∧isTup tgt=true
   ·rw [if_pos h];refine XN (Zpz h.2.1) fun a b zo1=>?_;subst zo1;exact .zip h.1 h.2.2
   ·rw [if_neg h];by_cases h:Uz E x=some (.type "enumerate")∧as.length=1∧isTup tgt=true
    ·rw [if_pos h];refine oze (List.length_eq_one_iff.mp h.2.1) fun a zo2=>?_;subst zo2;exact .enum h.1 h.2.2
    ·rw [if_neg h];exact .val
  | _=>exact .val
 | _=>exact .val
theorem m_i (s:Sr) (x:Expr):Mng c E (cmp (n+1) E) (.i s x):=by
 intro E' tgt t e hs k st Q f h hk;have S:SrI E tgt s x:=hs▸Zlx;cases S with
 | val =>
  refine Zcf ((ih X (.e x) _ _ _ h).mono fun st1 q=>?_);refine Zb (Z7 (hk _ q)) fun z h1 h2=>?_;exact (Zqt e h1).mono fun ok xs st2 h=>⟨z,h.1,h.2.1,h.2.2.1,h.2.2.2,h2⟩
 | @zip x px a b kw pos z1 z3 =>
  refine ZdE (Zb5 z3) fun es n' p' zo1=>?_;subst zo1;induction kw using LLc with
  | cons _ _=>exact False.elim h
  | nil =>
   refine oza (ZW h) fun h1 h5=>?_;obtain ⟨l,o,r⟩:=st;refine Zm3 (Z2 (ZcN X z1) ((Ww (p:=[]) (v:=.type "zip") (ih X (.es [a,b]) _ ⟨l,o,r⟩ _ h5).1).mono fun st1 q=>?_)) rfl (Yp h1).1;refine Zc q fun q s1' e1 e2 e3=>?_;obtain ⟨l1,o1,k1⟩:=st1;obtain rfl:k1=_:=e1;refine XN (Zpz e2) fun u v zo2=>?_;subst zo2;refine Zb (Z7 (hk _ e3)) fun z h6 h7=>?_;refine (Xh h6).elim (fun h8=>?_) ZC;refine Zc h8 fun xs ys h8 h9 h10=>?_;rw [WZ h8,WZ h9];obtain rfl:=Kc h10;exact ⟨_,_,_,rfl,(none,_,_),rfl,trivial,rfl,rfl,h7⟩
 | @enum x px a kw pos z1 z3 =>
  refine ZdE (Zb5 z3) fun es n' p' zo3=>?_;subst zo3;induction kw using LLc with
  | cons _ _=>exact False.elim h
  | nil =>
   refine oza (ZW h) fun h1 h5=>?_;obtain ⟨l,o,r⟩:=st;refine Zlz (Z2 (ZcN X z1) ((Ww (p:=[]) (v:=.type "enumerate") (ih X (.es [a]) _ ⟨l,o,r⟩ _ h5).1).mono fun st1 q=>?_)) rfl (Yp h1).1;refine Zc q fun q s1' e1 e2 e3=>?_;obtain ⟨l1,o1,k1⟩:=st1;obtain rfl:k1=_:=e1;refine oze (List.length_eq_one_iff.mp e2) fun u zo4=>?_;subst zo4;refine Zb (Z7 (hk _ e3)) fun z h6 h7=>?_;refine YK h6 fun xs h8 h9=>?_;rw [WZ h8];obtain rfl:=Kc h9;exact ⟨_,_,rfl,(none,_,_),rfl,trivial,rfl,rfl,h7⟩
omit ih in
theorem ZhB {y:Str}{s:Sl}{k:C}{st:St}{Q:Fw→St→Prop}(e:WQ E y=some s) (h:wp c (.o (.st s) k) st Q):NJ c y st fun st1=>wp c k st1 Q:=by
 obtain ⟨l,o,r⟩:=st;refine Zb (Yd h |>.resolve_right fun h=>h.out) fun z h1 h2=>?_;induction r using LLc with
 | nil=>exact Zo h1
 | cons a r=>exact ZhQ X e h1 h2
theorem Ul (b:List Stmt) {st:St}{Q:Fw→St→Prop}(h:wp c (cmp n E (.ss b) .nil) st Q):XJ c b st fun f st1=>Q (up f) st1:=(ih X (.ss b) _ _ _ h).mono fun f st1 q=>by induction f <;> exact q
omit ih in
theorem Zow {y:Str}{i:Nat}(h:WQ E y=some (.l i)):IsL c y i:=by
 unfold WQ at h;dsimp only at h;split at h
 ·rename_i q;cases h;exact X.l _ _ q
 ·split at h
  ·refine Zb (Z9 h) fun _ _ q=>?_;cases q
  ·exact Zo h
omit ih in
theorem Zq4 {y:Str}{i:Nat}(h:WQ E y=some (.c i)):IsC c y i:=by
 unfold WQ at h;dsimp only at h;split at h
 ·cases h
 ·split at h
  ·rename_i z;refine Zb (Z9 h) fun _ q1 q2=>?_;injection q2 with zi;subst zi;exact X.k _ _ (XC q1) (by rw [z];rfl)
  ·exact Zo h
omit X ih in
theorem ZoK {o:List O}{i:Nat}{l:List (Nat×A)}{r:List A}{b:St}(h:(match o[i]? with | some (.cell (some a))=>some (⟨l,o,a::r⟩:St) | _=>none)=some b):∃a,o[i]?=some (.cell (some a))∧b=⟨l,o,a::r⟩:=by
 induction ho:o[i]? with
 | none=>rw [ho] at h;exact ZC h
 | some x =>
  rw [ho] at h;induction x using O.casesOn with
  | cell z=>induction z with
   | some a=>exact ⟨a,rfl,(Kc h).symm⟩
   | none=>exact ZC h
  | _=>exact ZC h
omit X ih in
theorem ZiZ {t e:Expr}{op:Operator}{pos:Pos}{k:C}{st:St}{Q:Fw→St→Prop}(h:wp c (cmp (n+1) E (.s (.AugAssign t op e pos)) k) st Q):∃y p,t = .Name y p:=by
 induction t using Expr.casesOn <;> first | exact False.elim h | exact ⟨_,_,rfl⟩
omit X ih in
inductive LcI (n:Nat) (c:Cx) (E:E0) (y:Str) (py cp:Pos) (elt:Expr) (gs:List Comprehension) (sc:Scope) (k:C) (st:St) (Q:Fw→St→Prop):Prop
 | mk (i:Nat) (tgt it:Expr) (ifs:List Expr) (t:Tg) (e:gs=[⟨tgt,it,ifs,0⟩]) (h1:(py.line==cp.line&&!(sc.names.any fun (n,k)=>n==y&&(k == .local||k == .cell)))=true) (hs:WQ E y=some (.l i)) (q1:(XB sc E.cel&&XF it)=true) (q2:WP (inE E sc ((E.cm.lookup cp.line).getD 0)) tgt=some t)
  (q3:wp c (.comp (Wm E tgt it) (ZK sc.names) ((E.cm.lookup cp.line).getD 0) (cmp n E (.i (Wm E tgt it) it) .nil) t (cmp n (inE E sc ((E.cm.lookup cp.line).getD 0)) (.c ifs elt) .nil) (.o (.st (.l i)) k)) st Q)
omit X ih in
theorem ZqL {y:Str}{py cp pos:Pos}{elt:Expr}{gs:List Comprehension}{sc:Scope}{k:C}{st:St}{Q:Fw→St→Prop}(h:wp c (cmp (n+1) E (.s (.Assign [.Name y py] (.ListComp elt gs sc cp) pos)) k) st Q):LcI n c E y py cp elt gs sc k st Q:=by
 rcases ZaP h with ⟨h1,h⟩ | ⟨_,h⟩
 ·induction hs:WQ E y with
  | none=>rw [hs] at h;exact False.elim h
  | some s =>
   rw [hs] at h;induction s with
   | c i=>exact False.elim h
   | l i =>
    induction gs using LLc with
    | nil=>exact False.elim h
    | cons g gs =>
     obtain ⟨tgt,it,ifs,z⟩:=g;induction gs using LLc with
     | cons _ _=>exact False.elim h
     | nil =>
      refine oza (ZW h) fun q0 h=>?_;refine oza (ZW h) fun q1 h=>?_;refine Zb (XX h) fun t q2 q3=>?_;obtain rfl:z=0:=Kw q0;exact .mk i tgt it ifs t rfl h1 hs q1 q2 q3
 ·exact False.elim h
theorem Zng {y:Str}{py pos:Pos}{e:Expr}{k:C}{st:St}{Q:Fw→St→Prop}(h:wp c (cmp (n+1) E (.s (.Assign [.Name y py] e pos)) k) st Q):SJ c (.Assign [.Name y py] e pos) st fun f st1=>nxt (fun st2=>wp c k st2 Q) Q (up f) st1:=by
 have plain:wp c (cnd (swN e) (opC (WQ E y) fun s=>cmp n E (.e e) (.o (.st s) k))) st Q→SJ c (.Assign [.Name y py] e pos) st fun f st1=>nxt (fun st2=>wp c k st2 Q) Q (up f) st1:=fun h=>by
  refine oza (ZW h) fun h1 h=>?_;refine Zb (XX h) fun s h2 h=>?_;exact ZbB ((ih X (.e e) _ _ _ h).mono fun st1 q=>ZhB X h2 q) (ZcI h1)
 induction e using Expr.casesOn with
 | ListComp elt gs sc cp =>
  obtain ⟨i,tgt,it,ifs,t,rfl,h1,hs,q1,q2,q3⟩:=ZqL h;exact Zna X ih (Zow X hs) (Zm4 (Zow X hs) h1) q1 q2 q3
 | _=>exact plain h
theorem ZhF {t e:Expr}{pos:Pos}{k:C}{st:St}{Q:Fw→St→Prop}(h:wp c (cmp (n+1) E (.s (.Assign [t] e pos)) k) st Q):SJ c (.Assign [t] e pos) st fun f st1=>nxt (fun st2=>wp c k st2 Q) Q (up f) st1:=by
 induction t using Expr.casesOn with
 | Attribute ob y p =>
  refine oza (ZW h) fun h1 h=>?_;refine oza (Yp h1) fun h1 h2=>?_;exact ZoT ((ih X (.e e) _ _ _ h).mono fun st1 q=>(ih X (.e ob) _ _ _ q).mono fun st2 q=>Zqk X q) (ZcI h1)
 | Subscript ob i p =>
  refine oza (ZW h) fun h1 h=>?_;exact Zcj ((ih X (.e e) _ _ _ h).mono fun st1 q=>(ih X (.e ob) _ _ _ q).mono fun st2 q=>(ih X (.e i) _ _ _ q).mono fun st3 q=>ZnM q) (ZcI h1)
 | Name y py=>exact Zng X ih h
 | _=>exact False.elim h
theorem Zph {y:Str}{py pos:Pos}{op:Operator}{e:Expr}{k:C}{st:St}{Q:Fw→St→Prop}(h:wp c (cmp (n+1) E (.s (.AugAssign (.Name y py) op e pos)) k) st Q):SJ c (.AugAssign (.Name y py) op e pos) st fun f st1=>nxt (fun st2=>wp c k st2 Q) Q (up f) st1:=by
 refine Zb (XX h) fun s h1 h=>?_;obtain ⟨l,o,r⟩:=st;refine Zp1 ?_;have go:∀st1,wp c (.o (.inp op) (.o (.st s) k)) st1 Q→_:=fun st1 q=>Zox q;induction s with
 | l i =>
  refine Ka fun zn17=>?_;refine Zb (Yd h |>.resolve_right fun h=>h.out) fun b h4 h3=>?_;refine Zb (Z9 h4) fun a h2 zo1=>?_;subst zo1;refine zn17 ?_;exact Zk1 (Zow X h1) h2 ((ih X (.e e) _ _ _ h3).mono fun st1 q=>(go st1 q).mono fun st2 q2=>ZhB X h1 q2)
 | c i =>
  refine Ka fun zn18=>?_;refine Zb (Yd h |>.resolve_right fun h=>h.out) fun b h4 h2=>?_;refine Zb (ZoK h4) fun a q zo2=>?_;subst zo2;refine zn18 ?_;exact Zne (Zq4 X h1) q ((ih X (.e e) _ _ _ h2).mono fun st1 q=>(go st1 q).mono fun st2 q2=>ZhB X h1 q2)
theorem ZlF {t:Expr}{b:List Stmt}{pos:Pos}{k:C}{st:St}{Q:Fw→St→Prop}(h:wp c (cmp (n+1) E (.s (.While t b [] pos)) k) st Q):SJ c (.While t b [] pos) st fun f st1=>nxt (fun st2=>wp c k st2 Q) Q (up f) st1:=by
 have hT:∀st P,wp c (cmp n E (.t t) .nil) st P→TJ c t st fun z=>P (.b z):=fun st P q=>ih X (.t t) _ _ q;have hB:∀st P,wp c (cmp n E (.ss b) .nil) st P→XJ c b st fun f=>P (up f):=fun st P q=>Ul X ih b q;have h:wp c (.wh ((E.wh.lookup pos.line).getD 0) (cmp n E (.t t) .nil) (cmp n E (.ss b) .nil) k) st Q:=h;generalize (E.wh.lookup pos.line).getD 0=m at h;induction m using Nat.casesOn with
 | zero=>exact Zqf hT hB h
 | succ m=>exact Zni hT hB h
theorem Zqb {tgt it:Expr}{b:List Stmt}{pos:Pos}{k:C}{st:St}{Q:Fw→St→Prop}(h:wp c (cmp (n+1) E (.s (.For tgt it b [] pos)) k) st Q):SJ c (.For tgt it b [] pos) st fun f st1=>nxt (fun st2=>wp c k st2 Q) Q (up f) st1:=by
 refine Ka fun zn19=>?_;refine oza (ZW h) fun h1 h=>?_;refine Zb (XX h) fun t h2 h=>?_;refine zn19 ?_;have hB:∀st P,wp c (cmp n E (.ss b) .nil) st P→XJ c b st fun f=>P (up f):=fun st P q=>Ul X ih b q;have key:=ih X (.i (Wm E tgt it) it) E tgt t h2 rfl _ _ _ (fun q=>match q with | (kp,xs,st1)=>(match decide (Zh9 it∈E.rn) with
  | true=>ZfH t (fun st P=>wp c (cmp n E (.ss b) .nil) st P) kp xs st1 (nxt (fun st2=>wp c k st2 Q) Q)
  | false=>LpI t (fun st P=>wp c (cmp n E (.ss b) .nil) st P) kp (nxt (fun st2=>wp c k st2 Q) Q) xs st1)) h fun st1 q=>q
 clear h;induction hz:decide (Zh9 it∈E.rn) with
 | true =>
  rw [hz] at key;exact Zgc (key.mono fun ok xs st2 q=>by obtain ⟨z,e1,j,e3,e4,q⟩:=q;subst e1 e3 e4;exact Zl7 X h2 hB q) (Wb h1)
 | false =>
  rw [hz] at key;exact ZnP (Zgc (key.mono fun ok xs st2 q=>by obtain ⟨z,e1,j,e3,e4,q⟩:=q;subst e1 e3 e4;exact Zpi X h2 hB q) (Wb h1))
theorem ZnE {e:Expr}{pos:Pos}{k:C}{st:St}{Q:Fw→St→Prop}(h:wp c (cmp (n+1) E (.s (.Expr e pos)) k) st Q):SJ c (.Expr e pos) st fun f st1=>nxt (fun st2=>wp c k st2 Q) Q (up f) st1:=by
 refine oza (ZW h) fun h1 h=>?_;refine Zok ((ih X (.e e) _ _ _ h).mono fun st1 q=>?_) (ZbX _) (ZcI h1);obtain ⟨l,o,r⟩:=st1;refine Zb (Yd q |>.resolve_right fun h=>h.out) fun z h2 h3=>?_;induction r using LLc with
 | nil=>exact ZC h2
 | cons a r=>exact ZS (P:=fun z=>wp c k z Q) h2 h3
theorem m_s (x:Stmt):Mng c E (cmp (n+1) E) (.s x):=by
 intro k st Q h;cases x with
 | Assign ts e pos =>
  induction ts using LLc with
  | nil=>exact False.elim h
  | cons t ts=>induction ts using LLc with
   | cons _ _=>exact False.elim h
   | nil=>exact ZhF X ih h
 | AugAssign t op e pos=>refine XN (ZiZ h) fun y py zo1=>?_;subst zo1;exact Zph X ih h
 | If t b e pos =>
  exact ZdK ((ih X (.t t) _ _ h).mono fun z st1 q=>⟨fun hz=>(Ul X ih b ((YA q).1 hz)).mono fun f st2 q=>by induction f <;> exact q,fun hz=>(Ul X ih e ((YA q).2 hz)).mono fun f st2 q=>by induction f <;> exact q⟩)
 | While t b e pos =>
  induction e using LLc with
  | cons _ _=>exact False.elim h
  | nil=>exact ZlF X ih h
 | For tgt it b e pos =>
  induction e using LLc with
  | cons _ _=>exact False.elim h
  | nil=>exact Zqb X ih h
 | Return e pos =>
  induction e with
  | none=>exact False.elim h
  | some e=>exact Zh2 (ih X (.e e) _ _ _ h)
 | Expr e pos=>exact ZnE X ih h
 | Pass pos=>exact Zor h
 | Break pos=>exact Zks h
 | Continue pos=>exact ZeD h
 | _=>exact False.elim h
omit ih in
theorem Zqd (bk:List (Nat×Nat×List Nat)):EnvOk c {E with bk:=bk}:=⟨X.l,X.k,X.kd,X.g,X.gl,X.gs,X.cel,X.ga,X.sa⟩
omit X ih in
theorem Zpv {a b:List Stmt}{st:St}{QF:Fl→St→Prop}(h:XJ c a st fun f st1=>match f with | .next=>XJ c b st1 QF | f=>QF f st1):XJ c (a++b) st QF:=fun F vs s R=>by
 rw [Zcg];refine Kd (wpm (h F vs s R) (fun f s1 h1=>?_));induction f with
 | next=>obtain ⟨st1,R1,h1⟩:=h1;exact h1 F vs s1 R1
 | brk=>exact Ki h1
 | cont=>exact Ki h1
 | ret v=>exact Ki h1
theorem Zrt (xs:List Stmt):Mng c E (cmp (n+1) E) (.ss xs):=by
 intro k st Q h;induction xs using LLc with
 | nil=>exact Z5 h
 | cons x xs =>
  have one:∀{st},wp c (if x.pos.line∈E.rw then .raw [x] (cmp n E (.ss xs) k) else cmp n E (.s x) (cmp n E (.ss xs) k)) st Q→XJ c (x::xs) st fun f st1=>nxt (fun st2=>wp c k st2 Q) Q (up f) st1:=fun h=>by
   by_cases hr:x.pos.line∈E.rw
   ·rw [if_pos hr] at h;refine Zpv (a:=[x]) ((Stop.out h).mono fun f st1 q=>?_);induction f with
    | next=>exact ih X (.ss xs) _ _ _ q
    | brk=>exact q
    | cont=>exact q
    | ret=>exact q
   rw [if_neg hr] at h;exact Yg ((ih X (.s x) _ _ _ h).mono fun f st1 q=>by
    induction f with
    | next=>exact ih X (.ss xs) _ _ _ q
    | brk=>exact q
    | cont=>exact q
    | ret=>exact q)
  have h:wp c (match E.bk.lookup x.pos.line with
   | some (m,is)=>.blk is (cmp n {E with bk:=E.bk.filter fun q=>q.1 != x.pos.line} (.ss ((x::xs).take m)) .nil) (cmp n E (.ss ((x::xs).drop m)) k)
   | none=>(match E.mks.lookup x.pos.line with
    | some is=>.mark is (if x.pos.line∈E.rw then .raw [x] (cmp n E (.ss xs) k) else cmp n E (.s x) (cmp n E (.ss xs) k))
    | none=>if x.pos.line∈E.rw then .raw [x] (cmp n E (.ss xs) k) else cmp n E (.s x) (cmp n E (.ss xs) k))) st Q:=h
  induction hb:E.bk.lookup x.pos.line with
  | some q =>
   obtain ⟨m,is⟩:=q;rw [hb] at h;obtain ⟨l,o,s⟩:=st;refine Znt m ((Ul (Zqd X _) ih _ h).mono fun f st1 q=>?_);induction f with
   | next=>refine Zb (Z7 q) fun st2 h1 h2=>?_;exact ⟨st2,Zkc h1,ih X (.ss _) _ _ _ h2⟩
   | _=>exact False.elim q
  | none =>
   rw [hb] at h;cases hm:E.mks.lookup x.pos.line with
   | none=>rw [hm] at h;exact one h
   | some is =>
    rw [hm] at h;refine Ka fun zn24=>?_;obtain ⟨l,o,s⟩:=st;refine Zb (Z7 h) fun l' h1 h2=>?_;refine zn24 ?_;exact ZqS (one h2) (ZdF h1)
end
theorem ZkX:∀(n:Nat) {c:Cx}{E:E0},EnvOk c E→∀it,Mng c E (cmp n E) it:=by
 intro n;induction n with
 | zero =>
  intro c E X it;induction it with
  | es xs=>exact fun j j j h=>h.elim
  | p x=>induction x with
   | none=>exact fun st g h=>Zjn h
   | some x=>exact fun st g h=>False.elim h
  | i s x=>exact fun j j j j j j j j j h=>False.elim h
  | v=>exact fun j j j j h=>False.elim h
  | ts=>exact fun j j h=>False.elim h
  | t=>exact fun j j h=>False.elim h
  | c=>exact fun j j h=>False.elim h
  | _=>exact fun j j j h=>False.elim h
 | succ n ih =>
  intro c E X it;induction it with
  | e x=>exact m_e X ih x
  | z x=>exact m_z X ih x
  | es xs=>exact ZqU X ih xs
  | t x=>exact m_t X ih x
  | ts op xs=>exact ZrF X ih op xs
  | v op xs=>exact m_v X ih op xs
  | p x=>exact m_p X ih x
  | i s x=>exact m_i X ih s x
  | c ifs x=>exact m_c X ih ifs x
  | s x=>exact m_s X ih x
  | ss xs=>exact Zrt X ih xs
end
section
noncomputable def glK (K:W.Frag) (x:Str):Option Value:=match W.nsIn K mainGlobals x with
 | some (some v)=>some v
 | some none=>if x="__name__" then none else bootBuiltins x
 | none=>none
noncomputable def ZrK:Value→Str
 | .str y _=>y
 | _=>""
noncomputable def gsK (K:W.Frag) (x:Str):Option Str:=(W.nsIn K mainGlobals x).bind fun a=>a.bind fun v=>ifO ((v.ctorIdx==6)=true) (some (ZrK v))
noncomputable def ZqY (t:Stmt) (i:Nat):Stmt :=
 let b:=match t with
  | .FunctionDef _ _ b _ _ _ _ _ _ _=>b
  | .If _ b e _=>b++e
  | .For _ _ b e _=>b++e
  | .While _ b e _=>b++e
  | _=>[]
 match b[i]? with | some t=>t | none=>t
noncomputable abbrev YV (t:Stmt) (is:List Nat):Stmt:=is.foldl ZqY t
structure Hi where
 own:List Nat:=[]
 mks:List (Nat×List Nat):=[]
 wh:List (Nat×Nat):=[]
 cm:List (Nat×Nat):=[]
 bk:List (Nat×Nat×List Nat):=[]
 rn:List Nat:=[]
 rw:List Nat:=[]
 fz:List (Nat×Nat):=[]
noncomputable def EK (K:W.Frag) (f m:Nat) (H:Hi):E0:=⟨(Zk K f).scope,(Zh (Zk K f).scope.names).zipIdx m,glK K,gsK K,H.own,H.mks,H.wh,H.cm,H.bk,H.rn,fun x=>[70,201,324].filter fun C=>Zb8 K C x,fun x=>[70,201,324].filter fun C=>Zek K C x,H.rw,H.fz⟩
noncomputable def ZV (K:W.Frag) (f m:Nat) (H:Hi):C:=cmp 160 (EK K f m H) (.ss (Zfr K f)) .nil
theorem ZqQ {c:Cx}{sc:Scope}{x:Str}{i:Nat}(he:c.env.scope=sc) (hc:(x,i)∈c.cel) (h:Zho sc x=true):IsC c x i:=by
 unfold Zho at h;simp only [Bool.and_eq_true,beq_iff_eq,Bool.not_eq_true'] at h;exact ⟨.inr (by show c.env.scope.names.lookup x=_;rw [he];exact h.1.1),hc,h.1.2,h.2⟩
theorem ZqW {c:Cx}{sc:Scope}{x:Str}{i:Nat}(he:c.env.scope=sc) (hc:(x,i)∈c.cel) (h:Zao sc x=true):IsC c x i:=by
 unfold Zao at h;simp only [Bool.and_eq_true,beq_iff_eq,Bool.not_eq_true'] at h;exact ⟨.inl (by show c.env.scope.names.lookup x=_;rw [he];exact h.1.1),hc,h.1.2,h.2⟩
structure EntF (K:W.Frag) (f m:Nat) (c:Cx):Prop where
 env:Zpx K f c
 tab:ZnY K f c
 cel:c.cel=(Zh (Zk K f).scope.names).zipIdx m
section
variable {K:Params→W.Frag}{G:Gx}{w:World}
theorem Znc (I:IsK K G w) {x:Str}{v:Value}(h:glK (K w.params) x=some v):Xe G x v∨Y5 G x v:=by
 unfold glK at h;split at h
 ·rename_i q;obtain rfl:=Kc h;exact .inl (ZmN I q)
 ·rename_i q;split at h
  ·exact Zo h
  ·rename_i hn;exact .inr (Zjg I q h hn)
 ·exact Zo h
theorem ZnA (I:IsK K G w) {x y:Str}(h:gsK (K w.params) x=some y):∃t,Xe G x (.str y t):=by
 refine Zv h fun a ha h=>Zv h fun v hv h=>ZO h fun hc h=>?_;refine XN (Zfn hc) fun z t e=>?_;subst e;subst hv;exact ⟨t,Kc h▸ZmN I ha⟩
theorem Zqm (I:IsK K G w) {c:Cx}{f m:Nat}{H:Hi}(hG:c.G=G) (hs:c.env.scope=(Zk (K w.params) f).scope) (ht:ZnY (K w.params) f c) (hc:c.cel=(Zh (Zk (K w.params) f).scope.names).zipIdx m):EnvOk c (EK (K w.params) f m H) where
 l:=fun x i h=>Zrg hs ht h
 k:=fun x i hm h=>by
  refine Or.elim (Bool.or_eq_true_iff.mp h) (fun h=>?_) fun h=>?_
  ·exact ZqW hs (hc▸hm) h
  ·exact ZqQ hs (hc▸hm) h
 kd:=fun x h=>by
  unfold Zao at h;simp only [Bool.and_eq_true,beq_iff_eq] at h;show c.env.scope.names.lookup x=_;rw [hs];exact h.1.1
 g:=fun x v h hv=>ZqN hs h hv
 gl:=fun x v h=>by rw [hG];exact Znc I h
 gs:=fun x y h=>by rw [hG];exact ZnA I h
 cel:=hc
 ga:=fun x C h=>⟨_,kIn I hG,(Zi4 (List.mem_of_elem_eq_true h)).2⟩
 sa:=fun x C h=>⟨_,kIn I hG,(Zi4 (List.mem_of_elem_eq_true h)).2⟩
theorem EntF.ok (I:IsK K G w) {c:Cx}{f m:Nat}(H:Hi) (hG:c.G=G) (e:EntF (K w.params) f m c):EnvOk c (EK (K w.params) f m H):=Zqm I hG (by rw [e.env];rfl) e.tab e.cel
noncomputable def YF (R:D→Prop):Fw→St→Prop
 | .ret,⟨_,o,[a]⟩=>opt (XU 0 9 o a) R
 | .next,_=>R .none
 | _,_=>False
theorem ZfL {R:D→Prop}{f:Fl}{st:St}(h:YF R (up f) st):Ret R f st:=by
 obtain ⟨l,o,s⟩:=st;induction f with
 | next=>exact h
 | brk=>exact False.elim h
 | cont=>exact False.elim h
 | ret =>
  induction s using LLc with
  | nil=>exact False.elim h
  | cons a s=>induction s using LLc with
   | cons _ _=>exact False.elim h
   | nil=>refine Zb (Z7 h) fun d h1 h2=>?_;exact ⟨a,d,rfl,WM h1,h2⟩
noncomputable def Xv (R:A→List O→Prop):Fw→St→Prop
 | .ret,⟨_,o,[a]⟩=>R a o
 | .next,⟨_,o,_⟩=>R (.d .none) o
 | _,_=>False
theorem Zbi {R:A→List O→Prop}{f:Fl}{st:St}(h:Xv R (up f) st):Zo0 R f st:=by
 obtain ⟨l,o,s⟩:=st;induction f with
 | next=>exact h
 | brk=>exact False.elim h
 | cont=>exact False.elim h
 | ret =>
  induction s using LLc with
  | nil=>exact False.elim h
  | cons a s=>induction s using LLc with
   | cons _ _=>exact False.elim h
   | nil=>exact ⟨a,rfl,h⟩
theorem Uw {c:Cx}{E:E0}(X:EnvOk c E) {n:Nat}{ts:List Stmt}{code:C}(hc:cmp n E (.ss ts) .nil=code) {st:St}{Q:Fw→St→Prop}(h:wp c code st Q):XJ c ts st fun f st1=>Q (up f) st1:=by
 subst hc;exact (ZkX n X (.ss ts) _ _ _ h).mono fun f st1 q=>by induction f <;> exact q
theorem fsW (I:IsK K G w) {f need:Nat}{names:List Str}{args:List D}{R:D→Prop}{H:Hi}{code:C}{loc':List (Nat×A)}{own':List O}(D:Zmb (K w.params) G f args.length names) (hc:ZV (K w.params) f 0 H=code)
 (hl:∀q∈loc',∃x,(Zf (Zk (K w.params) f).scope)[q.1]?=some x∧(Zk (K w.params) f).scope.names.lookup x=some .local∧(x,q.2)∈XM names (args.map .d)) (ho:own'=(Zh (Zk (K w.params) f).scope.names).map fun x=>.cell (ZD x (XM names (args.map .d))))
 (h:∀c:Cx,c.G=G→c.fuel=need→wp c code ⟨loc',own',[]⟩ (YF R)):Zr G (.ref f) (need+1) args R :=
 Zh0 D hl ho fun c hG he hcel ht hfu=>(Uw (EntF.ok I H hG ⟨he,ht,hcel⟩) hc (h c hG hfu)).mono fun j j q=>ZfL q
theorem Zrn (I:IsK K G w) {f need:Nat}{names:List Str}{args:List D}{R:D→Prop}{H:Hi}{code:C}{loc':List (Nat×A)}{own':List O}(D:Zmb (K w.params) G f args.length names) (hc:ZV (K w.params) f 0 H=code)
 (hl:∀q∈loc',∃x,(Zf (Zk (K w.params) f).scope)[q.1]?=some x∧(Zk (K w.params) f).scope.names.lookup x=some .local∧(x,q.2)∈XM names (args.map .d)) (ho:own'=(Zh (Zk (K w.params) f).scope.names).map fun x=>.cell (ZD x (XM names (args.map .d))))
 (h:∀c:Cx,c.G=G→c.fuel=need→EnvOk c (EK (K w.params) f 0 H)→wp c code ⟨loc',own',[]⟩ (YF R)):Zr G (.ref f) (need+1) args R :=
 Zh0 D hl ho fun c hG he hcel ht hfu=>(Uw (EntF.ok I H hG ⟨he,ht,hcel⟩) hc (h c hG hfu (EntF.ok I H hG ⟨he,ht,hcel⟩))).mono fun j j q=>ZfL q
theorem Za1 (I:IsK K G w) {f need:Nat}{names:List Str}{os:List O}{args:List A}{R:A→List O→Prop}{H:Hi}{code:C}{loc':List (Nat×A)}{own':List O}(D:Zmb (K w.params) G f args.length names) (hc:ZV (K w.params) f os.length H=code)
 (hl:∀q∈loc',∃x,(Zf (Zk (K w.params) f).scope)[q.1]?=some x∧(Zk (K w.params) f).scope.names.lookup x=some .local∧(x,q.2)∈XM names args) (ho:own'=(Zh (Zk (K w.params) f).scope.names).map fun x=>.cell (ZD x (XM names args)))
 (h:∀c:Cx,c.G=G→c.fuel=need→EntF (K w.params) f os.length c→wp c code ⟨loc',os++own',[]⟩ (Xv R)):OSpecC G (.ref f) (need+1) os args R :=
 Zje D hl ho fun c hG he hcel ht hfu=>(Uw (EntF.ok I H hG ⟨he,ht,hcel⟩) hc (h c hG hfu ⟨he,ht,hcel⟩)).mono fun j j q=>Zbi q
end
end
section
theorem ZeX {c:Cx}{code:C}{st:St}{X:D}(h:wp c code st (YF fun d=>d=X)=(X=X)):wp c code st (YF fun d=>d=X):=by rw [h]
theorem Zq {L l:List (Nat×A)}(h:L.map (fun q=>ZD q.1 l)=L.map (fun q=>some q.2)):Le L l:=fun q hq=>List.map_inj_left.mp h q hq
theorem Zka {α:Type}{f:α→Option D}:∀{as:List α}{ys:List D},Zhz (fun x z=>z=f x) as ys→ys=as.filterMap f:=by
 intro as;induction as with
 | nil=>intro ys h;exact h
 | cons x as ih =>
  intro ys h;refine Zc h fun z zs zo1 h2 zo2=>?_;subst zo1;subst zo2;rw [ih h2,List.filterMap_cons];cases f x <;> rfl
theorem Zil {α:Type}{R:D→Prop}:∀{as:List α}{ys:List D},Zhz (fun j z=>∃y,z=some y∧R y) as ys→ys.length=as.length∧∀y∈ys,R y:=by
 intro as;induction as with
 | nil=>intro ys h;obtain rfl:ys=[]:=h;exact ⟨rfl,fun y hy=>by cases hy⟩
 | cons x as ih =>
  intro ys h;refine Ka fun zn1=>?_;refine Zc h fun z zs zo4 h2 zo5=>?_;subst zo5;obtain ⟨y,rfl,hy⟩:=zo4;refine oza (ih h2) fun q1 q2=>?_;refine zn1 ?_;refine ⟨congrArg Nat.succ q1,fun y' hy'=>?_⟩;rcases ZQ hy' with rfl | hy'
  ·exact hy
  ·exact q2 _ hy'
section
variable {c:Cx}{t:Tg}{B:Cx→Bd}{n:Nat}{xs:List A}{st st2:St}{o:List O}{P:List D→Prop}{α:Type}
theorem Zbe (as:List α) (enc:α→A) (f:α→Option D) (hs:st2=st) (hx:xs=as.map enc) (hl:as.length≤1000000)
 (turn:∀c',c'.G=c.G→c'.fuel=c.fuel→∀x∈as,∀l ys cl,ClN n cl→opt (tgF t (enc x) ⟨l,o++[.list ys]++cl,[]⟩) fun st1=>B c' st1 (emG n (fun x z=>z=f x) x (o++[.list ys]))) (q:P (as.filterMap f)):CompI c t B n xs st st2 o P :=
 ⟨as,enc,fun x z=>z=f x,hs,hx,hl,turn,fun ys h=>Zka h▸q⟩
end
section
variable {c:Cx}{b:Cx→Bd}{n i:Nat}{xs:List A}{st st2:St}{o:List O}{P:List D→Prop}{α:Type}
theorem Xc (as:List α) (enc:α→A) (f:α→Option D) (hs:st2=st) (hx:xs=as.map enc) (hl:as.length≤1000000)
 (turn:∀c',c'.G=c.G→c'.fuel=c.fuel→∀x∈as,∀l ys cl,ClN n cl→b c' ⟨(i,enc x)::l,o++[.list ys]++cl,[]⟩ (emG n (fun x z=>z=f x) x (o++[.list ys]))) (q:P (as.filterMap f)):CompI c (.one (.l i)) b n xs st st2 o P :=
 Zbe as enc f hs hx hl turn q
theorem Zhx (as:List α) (enc:α→A) (R:D→Prop) (hs:st2=st) (hx:xs=as.map enc) (hl:as.length≤1000000)
 (turn:∀c',c'.G=c.G→c'.fuel=c.fuel→∀x∈as,∀l ys cl,ClN n cl→b c' ⟨(i,enc x)::l,o++[.list ys]++cl,[]⟩ (emG n (fun j z=>∃y,z=some y∧R y) x (o++[.list ys]))) (q:∀ys:List D,ys.length=as.length→(∀y∈ys,R y)→P ys):CompI c (.one (.l i)) b n xs st st2 o P :=
 ⟨as,enc,fun j z=>∃y,z=some y∧R y,hs,hx,hl,turn,fun ys h=>(Zil h).elim (q ys)⟩
variable {B:Bd}{Q:Fw→St→Prop}{β:Type}
theorem Zde (as:List α) (enc:α→A) (L:β→List (Nat×A)) (ow:β→List O) (k:List A) (I:List α→β→Prop) (b0:β) (hx:xs=as.map enc) (hst:At (L b0) (ow b0) k st) (h0:I as b0)
 (turn:∀x xs b,I (x::xs) b→B ⟨(i,enc x)::L b,ow b,k⟩ (lpW (fun st2=>∃b',I xs b'∧At (L b') (ow b') k st2) Q)) (fin:∀b,I [] b→Q .next ⟨L b,ow b,k⟩):LpI (.one (.l i)) B none Q xs st :=
 .mk as enc L ow k I b0 hx hst h0 (fun j j=>trivial) turn fin
end
section
variable {l:List (Nat×A)}{o:List O}{r:List A}{a:A}{n:Int}
theorem Zip {α β:Type}{f:α→β}{xs:List α}:UN n (xs.map f)=(UN n xs).map f:=by
 induction n with
 | ofNat i=>show ifO _ _=(ifO _ _).map f;unfold ifO;split <;> first | exact List.getElem?_map | rfl
 | negSucc i=>show ifO _ _=(ifO _ _).map f;unfold ifO;rw [List.length_map];split <;> first | exact List.getElem?_map | rfl
theorem Ur {α:Type}{xs:List α}{x:α}(h0:0≤n) (h1:n<9223372036854775808) (h:xs[n.toNat]?=some x):UN n xs=some x:=by
 induction n with
 | ofNat i=>exact (ZB (Int.ofNat_lt.mp h1)).trans h
 | negSucc i=>exact absurd h0 (Int.not_le.mpr (Int.negSucc_lt_zero _))
theorem Zat {xs:List A}{x:A}(h:lsA o a=some xs) (hx:UN n xs=some x):Zb4 o (.d (.int n)) a=some x:=by
 induction a using A.casesOn with
 | d y =>
  induction y using D.casesOn <;> first | (exact Zo h;done) | skip
  rename_i ds;obtain rfl:ds.map .d=xs:=Kc h;rw [Zip] at hx;exact hx
 | own i=>show (Wo o i).bind _=_;rw [show Wo o i=some xs from h];exact hx
 | view k i=>exact Zo h
theorem Xp {x:A}(h:Zb4 o (.d (.int n)) a=some x):Yt .sub ⟨l,o,.d (.int n)::a::r⟩=some ⟨l,o,x::r⟩:=by
 show (Zb4 o (.d (.int n)) a).map _=_;rw [h];rfl
theorem ZfS {xs:List A}(h:lsA o a=some xs) (hl:xs.length<4611686018427387904):Yt (.bi .len) ⟨l,o,a::r⟩=some ⟨l,o,.d (.int xs.length)::r⟩:=by
 show (ZiR o a).bind _=_;unfold ZiR;rw [h];exact ZB hl
end
section
variable {c:Cx}{st:St}{o:List O}{P:List D→Prop}
theorem ZkF {i:Nat}{xs:List D}(hl:xs.length≤1000000) (q:P xs):CompI c (.one (.l i)) (fun c' st P=>wp c' (.o (.loc i) .nil) st P) 0 (xs.map .d) st st o P :=
 Zbe xs A.d some rfl rfl hl (fun c' j j x j l ys cl hcl=>by
  conv=>whnf
  refine Ze (a:=⟨(i,.d x)::l,_,[.d x]⟩) (by show (ZD i ((i,A.d x)::l)).map _=_;unfold ZD;rw [if_pos rfl];rfl) ?_;exact ⟨x,cl,rfl,rfl,rfl,hcl⟩) (by rw [List.filterMap_some];exact q)
end
section
variable {K:Params→W.Frag}{G:Gx}{w:World}{c:Cx}{n a need:Nat}{l:List (Nat×A)}{o:List O}{k:List A}{Q:St→Prop}
theorem ZbU (I:IsK K G w) (hG:c.G=G) (hF:c.fuel=n) {args:List D}{R:D→Prop}{m:Nat}(H:Zr G (.ref a) need args R) (hf:Zal (K w.params) a=true) (hn:need≤n) (hl:args.length=m) (q:∀d,R d→Q ⟨l,o,.d d::k⟩):Stop (CJ c m ⟨l,o,(args.map A.d).reverse++.d (.val (.ref a))::k⟩ Q) :=
 ⟨Zfc (hG▸H) (ZaS I hf hG) (hF▸hn) hl q⟩
theorem U8 (I:IsK K G w) (hG:c.G=G) (hF:c.fuel=n) {X:D}(H:Zr G (.ref a) need [] (fun d=>d=X)) (hf:Zal (K w.params) a=true) (hn:need≤n) (q:Q ⟨l,o,.d X::k⟩):Stop (CJ c 0 ⟨l,o,.d (.val (.ref a))::k⟩ Q) :=
 ZbU (args:=[]) I hG hF H hf hn rfl fun j e=>e▸q
theorem ZhC (I:IsK K G w) (hG:c.G=G) (hF:c.fuel=n) {x:D}{X:D}(H:Zr G (.ref a) need [x] (fun d=>d=X)) (hf:Zal (K w.params) a=true) (hn:need≤n) (q:Q ⟨l,o,.d X::k⟩):Stop (CJ c 1 ⟨l,o,.d x::.d (.val (.ref a))::k⟩ Q) :=
 ZbU (args:=[x]) I hG hF H hf hn rfl fun j e=>e▸q
theorem Zm6 (I:IsK K G w) (hG:c.G=G) (hF:c.fuel=n) {x:D}{R:D→Prop}(H:Zr G (.ref a) need [x] R) (hf:Zal (K w.params) a=true) (hn:need≤n) (q:∀d,R d→Q ⟨l,o,.d d::k⟩):Stop (CJ c 1 ⟨l,o,.d x::.d (.val (.ref a))::k⟩ Q) :=
 ZbU (args:=[x]) I hG hF H hf hn rfl q
theorem WB (I:IsK K G w) (hG:c.G=G) (hF:c.fuel=n) {x y:D}{X:D}(H:Zr G (.ref a) need [x,y] (fun d=>d=X)) (hf:Zal (K w.params) a=true) (hn:need≤n) (q:Q ⟨l,o,.d X::k⟩):Stop (CJ c 2 ⟨l,o,.d y::.d x::.d (.val (.ref a))::k⟩ Q) :=
 ZbU (args:=[x,y]) I hG hF H hf hn rfl fun j e=>e▸q
theorem ZiK (I:IsK K G w) (hG:c.G=G) (hF:c.fuel=n) {x y:D}{R:D→Prop}(H:Zr G (.ref a) need [x,y] R) (hf:Zal (K w.params) a=true) (hn:need≤n) (q:∀d,R d→Q ⟨l,o,.d d::k⟩):Stop (CJ c 2 ⟨l,o,.d y::.d x::.d (.val (.ref a))::k⟩ Q) :=
 ZbU (args:=[x,y]) I hG hF H hf hn rfl q
end
theorem UC {P:Nat×A→Prop}:∀q∈([]:List (Nat×A)),P q:=fun j h=>nomatch h
theorem ZlJ {sc:Scope}{names:List Str}{args:List A}{loc':List (Nat×A)}(ids:List (Nat×Nat)) (hc:(ids.all fun q=>(names[q.2]?).any fun x=>(Zf sc)[q.1]?==some x&&sc.names.lookup x==some .local)=true)
 (hv:ids.map (fun q=>((args++List.replicate (names.length - args.length) (.d .none))[q.2]?).map fun a=>(q.1,a))=loc'.map some):∀q∈loc',∃x,(Zf sc)[q.1]?=some x∧sc.names.lookup x=some .local∧(x,q.2)∈XM names args:=by
 intro q hq;have h1:some q∈loc'.map some:=List.mem_map_of_mem hq;rw [←hv] at h1;refine Ka fun zn2=>?_;refine Zb (Xb h1) fun zo2 h2 h3=>?_;obtain ⟨i,j⟩:=zo2;refine Zb (Z9 h3) fun a h4 zo2=>?_;subst zo2;have h5:=ZbI hc _ h2;obtain ⟨x,h6,h7⟩:∃x,names[j]?=some x∧((Zf sc)[i]?==some x&&sc.names.lookup x==some .local)=true:=by
  cases hn:names[j]? with
  | none=>rw [hn] at h5;exact YU h5
  | some x=>rw [hn] at h5;exact ⟨x,rfl,h5⟩
 refine zn2 ?_;simp only [Bool.and_eq_true,beq_iff_eq] at h7;refine ⟨x,h7.1,h7.2,List.mem_iff_getElem?.mpr ⟨j,?_⟩⟩;unfold XM;rw [List.getElem?_zip_eq_some];exact ⟨h6,h4⟩
section
variable {l:List (Nat×A)}{o:List O}{r:List A}{a b:A}
theorem Ze0 {x:Str}{ys:List Str}(h1:x.length≤16) (h2:(ys.map (·.length)).sum+ys.length≤1048576):Yt (.me .join) ⟨l,o,.d (.list (ys.map .str))::.d (.str x)::r⟩=some ⟨l,o,.d (.str (Txt.join x ys))::r⟩:=by
 show (XV (ys.map .str)).bind _=_;rw [Zbh];exact ZB ⟨h1,h2⟩
theorem ZcH {x y:Str}(h:y.length≠0) (h2:x.length≤900000):Yt (.me .split) ⟨l,o,.d (.str y)::.d (.str x)::r⟩=some ⟨l,o,.d (.list ((Txt.split x y).map .str))::r⟩:=ZB ⟨h,h2⟩
theorem XH {x:Str}(h:x.length<4611686018427387904):Yt (.bi .len) ⟨l,o,.d (.str x)::r⟩=some ⟨l,o,.d (.int x.length)::r⟩:=ZB h
theorem Wf {x:List D}(h:x.length<4611686018427387904):Yt (.bi .len) ⟨l,o,.d (.list x)::r⟩=some ⟨l,o,.d (.int x.length)::r⟩:=by
 have:=ZfS (l:=l) (o:=o) (r:=r) (a:=.d (.list x)) rfl (by rw [List.length_map];exact h)
 rwa [List.length_map] at this
theorem ZaX {xs:List D}{n:Int}{x:D}(h0:0≤n) (h1:n<9223372036854775808) (h:xs[n.toNat]?=some x):Yt .sub ⟨l,o,.d (.int n)::.d (.list xs)::r⟩=some ⟨l,o,.d x::r⟩ :=
 Xp (by show (UN n xs).map _=_;rw [Ur h0 h1 h];rfl)
theorem UE {x:Str}{n:Int}{ch:Nat}(h0:0≤n) (h1:n<9223372036854775808) (h:x.cps[n.toNat]?=some ch):Yt .sub ⟨l,o,.d (.int n)::.d (.str x)::r⟩=some ⟨l,o,.d (.str ⟨#[ch]⟩)::r⟩ :=
 Xp (by show (UN n x.cps.toList).map _=_;rw [Ur h0 h1 (by rw [Array.getElem?_toList];exact h)];rfl)
theorem ZcG {x:Str}{es:List (Str×D)}{d:D}(h:Yb x es=some d):Yt .sub ⟨l,o,.d (.str x)::.d (.dict es)::r⟩=some ⟨l,o,.d d::r⟩:=by
 show ((Yb x es).map A.d).map _=_;rw [h];rfl
theorem Zey {xs:List D}{lo hi:Option Int}(h:xs.length≤1000000):Yt .cut ⟨l,o,.d (.slice lo hi none)::.d (.list xs)::r⟩=some ⟨l,o,.d (.list (cut xs lo hi))::r⟩:=by
 show (ifO _ _).map _=_;rw [ZB h];rfl
theorem ZeT {x:Str}{lo hi:Option Int}(h:x.length≤1000000):Yt .cut ⟨l,o,.d (.slice lo hi none)::.d (.str x)::r⟩=some ⟨l,o,.d (.str (Wv x lo hi))::r⟩:=by
 show (ifO _ _).map _=_;rw [ZB h];rfl
theorem Zie {op:CmpOp}{z:Bool}(h:Zhu op a b=some z):Yt (.cmp op) ⟨l,o,b::a::r⟩=some ⟨l,o,.d (.bool z)::r⟩:=by
 show (Zhu op a b).map _=_;rw [h];rfl
theorem Zfu {n:Int}{t:Sl}(h:n.natAbs<2305843009213693952):itF .val (.one t) ⟨l,o,.d (.range 0 n)::r⟩=some (none,((List.range (n - 0).toNat).map fun (i:Nat)=>D.int (0+i)).map .d,⟨l,o,r⟩):=by
 show (ifO _ _).map _=_;rw [ZB ⟨by decide,h⟩];rfl
end
end
section
noncomputable def c82:C:=.o (.listO 0) <| .o (.st (.l 1)) <| .o (.lit (.int 0)) <| .o (.st (.l 2)) <| .sel (.o (.loc 0) <| .o (.lit (.int 0)) <| .o .sub <| .o (.lit (.str "!")) <| .o (.cmp .Eq) .tru) (.o (.lit (.int 2)) .nil) (.o (.lit (.int 1)) .nil) <| .o (.st (.l 3)) <| .wh 9 (.o (.loc 3) <| .bi .len (.o (.loc 0) .nil) <| .o (.cmp .Lt) .tru) (.sel (.o (.loc 0) <| .o (.loc 3) <| .o .sub <| .o (.lit (.str "-")) <| .o (.cmp .Eq) .tru) (.o (.loc 1) <| .mth .append (.o (.loc 0) <| .slc true true false (.o (.loc 2) .nil) (.o (.loc 3) .nil) .bad <| .o .cut .nil) <| .o .pop <| .o (.loc 3) <| .o (.lit (.int 1)) <| .o (.bin .Add) <| .o (.st (.l 2)) <| .o (.loc 3) <| .o (.lit (.int 3)) <| .o (.inp .Add) <| .o (.st (.l 3)) .nil) (.o (.loc 3) <| .o (.lit (.int 1)) <| .o (.inp .Add) <| .o (.st (.l 3)) .nil) .nil) <| .sel (.o (.loc 2) <| .bi .len (.o (.loc 0) .nil) <| .o (.cmp .Lt) .tru) (.o (.loc 1) <| .mth .append (.o (.loc 0) <| .slc true false false (.o (.loc 2) .nil) .bad .bad <| .o .cut .nil) <| .o .pop .nil) (.o (.loc 1) <| .o (.lit (.int 1)) <| .o (.un .USub) <| .o .sub <| .o (.lit (.str "-")) <| .o (.bin .Add) <| .o (.loc 1) <| .o (.lit (.int 1)) <| .o (.un .USub) <| .o .set .nil) <| .o (.loc 1) <| .o (.lit (.int 1)) <| .o (.un .USub) <| .o .sub <| .o (.listO 1) <| .o (.st (.l 4)) <| .o (.loc 1) <| .slc false true false .bad (.o (.lit (.int 1)) <| .o (.un .USub) .nil) .bad <| .o .cut <| .slc false false true .bad .bad (.o (.lit (.int 1)) <| .o (.un .USub) .nil) <| .o .cut <| .for_ true .val (.one (.l 5)) (.sel (.o (.loc 5) <| .o (.lit (.int 1)) <| .o (.un .USub) <| .o .sub <| .o (.loc 4) <| .o (.lit (.int 0)) <| .o .sub <| .o (.lit (.int 0)) <| .o .sub <| .o (.cmp .Gt) .tru) (.o (.loc 5) <| .slc false true false .bad (.o (.lit (.int 1)) <| .o (.un .USub) .nil) .bad <| .o .cut <| .o (.loc 4) <| .o (.lit (.int 0)) <| .o .sub <| .slc true false false (.o (.lit (.int 1)) .nil) .bad .bad <| .o .cut <| .o (.bin .Add) <| .o (.loc 4) <| .o (.lit (.int 0)) <| .o .set .nil) (.o (.loc 5) <| .o (.list 1) <| .o (.loc 4) <| .o (.bin .Add) <| .o (.st (.l 4)) .nil) .nil) <| .o (.loc 4) .ret
theorem k82 (w:World):ZV (kk2 w.params) 82 0 {own:=[51],wh:=[(40,9)],rn:=[52]}=c82:=by kd_p
theorem ZrJ {G:Gx}{w:World}(I:IsK kk2 G w) {need:Nat}{d0:D}{R:D→Prop}(h:∀c:Cx,c.G=G→c.fuel=need→wp c c82 ⟨[(0,.d d0)],[],[]⟩ (YF R)):Zr G (.ref 82) (need+1) [d0] R :=
 fsW I (own':=[]) (Z3 (n:=1) (names:=["inner"]) I (by kd_p) (ln1 fun b0 S=>by kd_p)) (k82 w) (Zs [0] (by kd_p)) (by kd_p) h
noncomputable def ZmS:C:=.sel (.andT (.o (.loc 6) <| .o (.lit (.int 2)) <| .o (.bin .Add) <| .bi .len (.o (.loc 2) .nil) <| .o (.cmp .Lt) .tru) (.o (.loc 2) <| .o (.loc 6) <| .o (.lit (.int 1)) <| .o (.bin .Add) <| .o .sub <| .o (.lit (.str "")) <| .o (.cmp .Eq) .tru)) (.sel (.andT (.o (.loc 7) <| .o (.loc 0) <| .o (.cmp .LtE) .tru) (.o (.loc 0) <| .o (.loc 2) <| .o (.loc 6) <| .o (.lit (.int 2)) <| .o (.bin .Add) <| .o .sub <| .o (.cmp .LtE) .tru)) (.o (.lit (.bool true)) <| .o (.st (.l 5)) .nil) .nil <| .o (.loc 6) <| .o (.lit (.int 3)) <| .o (.inp .Add) <| .o (.st (.l 6)) .nil) (.sel (.o (.loc 7) <| .o (.loc 0) <| .o (.cmp .Eq) .tru) (.o (.lit (.bool true)) <| .o (.st (.l 5)) .nil) .nil <| .o (.loc 6) <| .o (.lit (.int 1)) <| .o (.inp .Add) <| .o (.st (.l 6)) .nil) .nil
noncomputable def ZmO:C:=.o (.lit (.bool false)) <| .o (.st (.l 5)) <| .o (.lit (.int 0)) <| .o (.st (.l 6)) <| .wh 0 (.o (.loc 6) <| .bi .len (.o (.loc 2) .nil) <| .o (.cmp .Lt) .tru) (.sel (.o (.loc 2) <| .o (.loc 6) <| .o .sub <| .o (.lit (.str "")) <| .o (.cmp .NotEq) .tru) (.o (.loc 2) <| .o (.loc 6) <| .o .sub .nil) (.o (.lit (.str "-")) .nil) <| .o (.st (.l 7)) <| .mark [7,6,5,0,2,4] ZmS) <| .o (.loc 5) <| .o (.loc 4) <| .o (.cmp .NotEq) .ret
noncomputable def c87:C:=.o (.listO 0) <| .o (.st (.l 2)) <| .o (.lit (.val (.ref 82))) <| .o (.loc 1) <| .call 1 <| .for_ true .val (.one (.l 3)) (.sel (.o (.loc 2) .tru) (.o (.loc 2) <| .mth .append (.o (.lit (.str "")) .nil) <| .o .pop .nil) .nil <| .o (.loc 2) <| .comp .val 0 0 (.o (.loc 3) .nil) (.one (.l 1)) (.o (.loc 1) .nil) <| .o (.bin .Add) <| .o (.st (.l 2)) .nil) <| .o (.loc 2) <| .slc false true false .bad (.o (.lit (.int 1)) .nil) .bad <| .o .cut <| .o (.lit (.str "!")) <| .o (.list 1) <| .o (.cmp .Eq) <| .o (.st (.l 4)) <| .sel (.o (.loc 4) .tru) (.o (.loc 2) <| .slc true false false (.o (.lit (.int 1)) .nil) .bad .bad <| .o .cut <| .o (.st (.l 2)) .nil) .nil <| .mark [0,2,4] ZmO
theorem k87 (w:World):ZV (kk2 w.params) 87 0 {rn:=[60],mks:=[(67,[0,2,4]),(71,[7,6,5,0,2,4])]}=c87:=by kd_p
theorem Zrx {G:Gx}{w:World}(I:IsK kk2 G w) {need:Nat}{d0 d1:D}{R:D→Prop}(h:∀c:Cx,c.G=G→c.fuel=need→wp c c87 ⟨[(0,.d d0),(1,.d d1)],[],[]⟩ (YF R)):Zr G (.ref 87) (need+1) [d0,d1] R :=
 fsW I (own':=[]) (Z3 (n:=2) (names:=["sign","inner"]) I (by kd_p) (ln2 fun b0 b1 S=>by kd_p)) (k87 w) (Zs [0,1] (by kd_p)) (by kd_p) h
noncomputable def c335:C:=.o (.lit (.str "a")) <| .o (.lit (.str "b")) <| .o (.lit (.str "*")) <| .o (.lit (.str "?")) <| .o (.lit (.str "[ab]")) <| .o (.lit (.str "[!a]")) <| .o (.lit (.str ".")) <| .o (.lit (.str "c")) <| .o (.lit (.str "[a-c]")) <| .o (.lit (.str "*")) <| .o (.lit (.str "[!b-d]")) <| .o (.lit (.str "[c-]")) <| .o (.lit (.str "[]a]")) <| .o (.lit (.str "[!]]")) <| .o (.lit (.str "B")) <| .o (.lit (.str "-")) <| .o (.lit (.str "[a-bd]")) <| .o (.lit (.str "[-a]")) <| .o (.lit (.str "[!-a]")) <| .o (.lit (.str "[a-ac-d]")) <| .o (.list 20) .ret
theorem ZqR (w:World):ZV (kk2 w.params) 335 0 {}=c335:=by kd_p
theorem Zo9 {G:Gx}{w:World}(I:IsK kk2 G w) {need:Nat}{R:D→Prop}(h:∀c:Cx,c.G=G→c.fuel=need→wp c c335 ⟨[],[],[]⟩ (YF R)):Zr G (.ref 335) (need+1) [] R :=
 fsW I (own':=[]) (Z3 (n:=0) (names:=[]) I (by kd_p) (ln0 fun S=>by kd_p)) (ZqR w) UC (by kd_p) h
noncomputable def c342:C:=.dict ["[ab]","[!a]","[a-c]","[!b-d]","[c-]","[]a]","[!]]","[a-bd]","[-a]","[!-a]","[a-ac-d]"] (.o (.lit (.str "ab")) <| .o (.lit (.bool false)) <| .o (.tup 2) <| .o (.lit (.str "a")) <| .o (.lit (.bool true)) <| .o (.tup 2) <| .o (.lit (.str "abc")) <| .o (.lit (.bool false)) <| .o (.tup 2) <| .o (.lit (.str "bcd")) <| .o (.lit (.bool true)) <| .o (.tup 2) <| .o (.lit (.str "c-")) <| .o (.lit (.bool false)) <| .o (.tup 2) <| .o (.lit (.str "]a")) <| .o (.lit (.bool false)) <| .o (.tup 2) <| .o (.lit (.str "]")) <| .o (.lit (.bool true)) <| .o (.tup 2) <| .o (.lit (.str "abd")) <| .o (.lit (.bool false)) <| .o (.tup 2) <| .o (.lit (.str "-a")) <| .o (.lit (.bool false)) <| .o (.tup 2) <| .o (.lit (.str "-a")) <| .o (.lit (.bool true)) <| .o (.tup 2) <| .o (.lit (.str "acd")) <| .o (.lit (.bool false)) <| .o (.tup 2) .nil) .ret
theorem Zq7 (w:World):ZV (kk2 w.params) 342 0 {}=c342:=by kd_p
theorem ZpY {G:Gx}{w:World}(I:IsK kk2 G w) {need:Nat}{R:D→Prop}(h:∀c:Cx,c.G=G→c.fuel=need→wp c c342 ⟨[],[],[]⟩ (YF R)):Zr G (.ref 342) (need+1) [] R :=
 fsW I (own':=[]) (Z3 (n:=0) (names:=[]) I (by kd_p) (ln0 fun S=>by kd_p)) (Zq7 w) UC (by kd_p) h
noncomputable def c349:C:=.dict ["a","b","c","B"] (.o (.lit (.str "A")) <| .o (.lit (.str "B")) <| .o (.lit (.str "C")) <| .o (.lit (.str "b")) .nil) .ret
theorem Zrv (w:World):ZV (kk2 w.params) 349 0 {}=c349:=by kd_p
theorem Zp2 {G:Gx}{w:World}(I:IsK kk2 G w) {need:Nat}{R:D→Prop}(h:∀c:Cx,c.G=G→c.fuel=need→wp c c349 ⟨[],[],[]⟩ (YF R)):Zr G (.ref 349) (need+1) [] R :=
 fsW I (own':=[]) (Z3 (n:=0) (names:=[]) I (by kd_p) (ln0 fun S=>by kd_p)) (Zrv w) UC (by kd_p) h
noncomputable def c356:C:=.sel (.o (.loc 1) <| .o (.lit (.str "sha256")) <| .o (.cmp .NotEq) .tru) .bad .nil <| .o (.lit (.int 7)) <| .o (.st (.l 2)) <| .o (.loc 0) <| .for_ false .val (.one (.l 3)) (.o (.loc 2) <| .o (.lit (.int 31)) <| .o (.bin .Mult) <| .o (.loc 3) <| .o (.bin .Add) <| .o (.lit (.int 65536)) <| .o (.bin .Mod) <| .o (.st (.l 2)) .nil) <| .o (.lit (.str "")) <| .mth .join (.o (.lit (.str "0123456789abcdef")) <| .o (.loc 2) <| .o (.lit (.int 4096)) <| .o (.bin .FloorDiv) <| .o .sub <| .o (.lit (.str "0123456789abcdef")) <| .o (.loc 2) <| .o (.lit (.int 256)) <| .o (.bin .FloorDiv) <| .o (.lit (.int 16)) <| .o (.bin .Mod) <| .o .sub <| .o (.lit (.str "0123456789abcdef")) <| .o (.loc 2) <| .o (.lit (.int 16)) <| .o (.bin .FloorDiv) <| .o (.lit (.int 16)) <| .o (.bin .Mod) <| .o .sub <| .o (.lit (.str "0123456789abcdef")) <| .o (.loc 2) <| .o (.lit (.int 16)) <| .o (.bin .Mod) <| .o .sub <| .o (.list 4) .nil) .ret
theorem Zre (w:World):ZV (kk2 w.params) 356 0 {}=c356:=by kd_p
theorem Zpf {G:Gx}{w:World}(I:IsK kk2 G w) {need:Nat}{d0 d1:D}{R:D→Prop}(h:∀c:Cx,c.G=G→c.fuel=need→wp c c356 ⟨[(0,.d d0),(1,.d d1)],[],[]⟩ (YF R)):Zr G (.ref 356) (need+1) [d0,d1] R :=
 fsW I (own':=[]) (Z3 (n:=2) (names:=["data","algo"]) I (by kd_p) (ln2 fun b0 b1 S=>by kd_p)) (Zre w) (Zs [0,1] (by kd_p)) (by kd_p) h
noncomputable def c366:C:=.o (.lit (.str "/")) <| .mth .join (.comp .val 0 0 (.o (.loc 0) .nil) (.one (.l 1)) (.o (.lit (.str "")) <| .mth .join (.o (.loc 1) .nil) .nil) .nil) .ret
theorem Zrh (w:World):ZV (kk2 w.params) 366 0 {}=c366:=by kd_p
theorem ZpT {G:Gx}{w:World}(I:IsK kk2 G w) {need:Nat}{d0:D}{R:D→Prop}(h:∀c:Cx,c.G=G→c.fuel=need→wp c c366 ⟨[(0,.d d0)],[],[]⟩ (YF R)):Zr G (.ref 366) (need+1) [d0] R :=
 fsW I (own':=[]) (Z3 (n:=1) (names:=["pattern"]) I (by kd_p) (ln1 fun b0 S=>by kd_p)) (Zrh w) (Zs [0] (by kd_p)) (by kd_p) h
noncomputable def c387:C:=.sel (.o (.loc 0) <| .o (.lit (.val (.ref 342))) <| .call 0 <| .o (.cmp .In) .tru) (.o (.loc 1) <| .o (.lit (.val (.ref 342))) <| .call 0 <| .o (.loc 0) <| .o .sub <| .o (.lit (.int 0)) <| .o .sub <| .o (.cmp .In) <| .o (.lit (.val (.ref 342))) <| .call 0 <| .o (.loc 0) <| .o .sub <| .o (.lit (.int 1)) <| .o .sub <| .o (.cmp .NotEq) .ret) .nil <| .boo false (.o (.loc 0) <| .o (.lit (.str "?")) <| .o (.cmp .Eq) .nil) (.o (.loc 0) <| .o (.loc 1) <| .o (.cmp .Eq) .nil) .ret
theorem Zrc (w:World):ZV (kk2 w.params) 387 0 {}=c387:=by kd_p
theorem Zqp {G:Gx}{w:World}(I:IsK kk2 G w) {need:Nat}{d0 d1:D}{R:D→Prop}(h:∀c:Cx,c.G=G→c.fuel=need→wp c c387 ⟨[(0,.d d0),(1,.d d1)],[],[]⟩ (YF R)):Zr G (.ref 387) (need+1) [d0,d1] R :=
 fsW I (own':=[]) (Z3 (n:=2) (names:=["sign","found"]) I (by kd_p) (ln2 fun b0 b1 S=>by kd_p)) (Zrc w) (Zs [0,1] (by kd_p)) (by kd_p) h
noncomputable def c392:C:=.sel (.o (.cell 0) <| .o (.lit (.list [])) <| .o (.cmp .Eq) .tru) (.o (.cell 1) <| .o (.lit (.str "")) <| .o (.cmp .Eq) .ret) .nil <| .sel (.o (.cell 0) <| .o (.lit (.int 0)) <| .o .sub <| .o (.lit (.str "*")) <| .o (.cmp .Eq) .tru) (.comp .val 0 0 (.bi .range1 (.bi .len (.o (.cell 1) .nil) <| .o (.lit (.int 1)) <| .o (.bin .Add) .nil) .nil) (.one (.l 1)) (.sel (.o (.lit (.val (.ref 392))) <| .o (.cell 0) <| .slc true false false (.o (.lit (.int 1)) .nil) .bad .bad <| .o .cut <| .o (.cell 1) <| .slc true false false (.o (.loc 1) .nil) .bad .bad <| .o .cut <| .call 2 .tru) .nil .cont <| .o (.loc 1) .nil) <| .o (.lit (.list [])) <| .o (.cmp .NotEq) .ret) .nil <| .boo true (.o (.cell 1) <| .o (.lit (.str "")) <| .o (.cmp .NotEq) .nil) (.boo true (.o (.lit (.val (.ref 387))) <| .o (.cell 0) <| .o (.lit (.int 0)) <| .o .sub <| .o (.cell 1) <| .o (.lit (.int 0)) <| .o .sub <| .call 2 .nil) (.o (.lit (.val (.ref 392))) <| .o (.cell 0) <| .slc true false false (.o (.lit (.int 1)) .nil) .bad .bad <| .o .cut <| .o (.cell 1) <| .slc true false false (.o (.lit (.int 1)) .nil) .bad .bad <| .o .cut <| .call 2 .nil) .nil) .ret
theorem ZrQ (w:World):ZV (kk2 w.params) 392 0 {}=c392:=by kd_p
theorem Zm0 {G:Gx}{w:World}(I:IsK kk2 G w) {need:Nat}{d0 d1:D}{R:D→Prop}(h:∀c:Cx,c.G=G→c.fuel=need→wp c c392 ⟨[],[.cell (some (.d d0)),.cell (some (.d d1))],[]⟩ (YF R)):Zr G (.ref 392) (need+1) [d0,d1] R :=
 fsW I (own':=[.cell (some (.d d0)),.cell (some (.d d1))]) (Z3 (n:=2) (names:=["part","text"]) I (by kd_p) (ln2 fun b0 b1 S=>by kd_p)) (ZrQ w) UC (by kd_p) h
noncomputable def c397:C:=.o (.loc 0) <| .mth .split (.o (.lit (.str "/")) .nil) <| .o (.st (.c 1)) <| .boo true (.bi .len (.o (.cell 1) .nil) <| .bi .len (.o (.cell 0) .nil) <| .o (.cmp .Eq) .nil) (.comp .val 0 0 (.bi .range1 (.bi .len (.o (.cell 1) .nil) .nil) .nil) (.one (.l 1)) (.sel (.notT (.o (.lit (.val (.ref 392))) <| .o (.cell 0) <| .o (.loc 1) <| .o .sub <| .o (.cell 1) <| .o (.loc 1) <| .o .sub <| .call 2 .tru)) .nil .cont <| .o (.loc 1) .nil) <| .o (.lit (.list [])) <| .o (.cmp .Eq) .nil) .ret
theorem Zrz (w:World):ZV (kk2 w.params) 397 0 {}=c397:=by kd_p
theorem Zqi {G:Gx}{w:World}(I:IsK kk2 G w) {need:Nat}{d0 d1:D}{R:D→Prop}(h:∀c:Cx,c.G=G→c.fuel=need→wp c c397 ⟨[(0,.d d1)],[.cell (some (.d d0)),.cell none],[]⟩ (YF R)):Zr G (.ref 397) (need+1) [d0,d1] R :=
 fsW I (own':=[.cell (some (.d d0)),.cell none]) (Z3 (n:=2) (names:=["pattern","path"]) I (by kd_p) (ln2 fun b0 b1 S=>by kd_p)) (Zrz w) (ZlJ [(0,1)] (by kd_p) rfl) (by kd_p) h
noncomputable def Zjk:C:=.o (.loc 4) <| .mth .append (.sel (.orT (.andT (.o (.loc 6) <| .o (.lit (.str "*")) <| .o (.cmp .Eq) .tru) (.o (.loc 7) <| .o (.loc 8) <| .o (.bin .Add) <| .o (.lit (.int 1)) <| .o (.cmp .Gt) .tru)) (.andT (.o (.loc 6) <| .o (.lit (.val (.ref 342))) <| .call 0 <| .o (.cmp .In) .tru) (.orT (.o (.loc 7) <| .o (.lit (.int 1)) <| .o (.cmp .Gt) .tru) (.o (.loc 8) <| .o (.lit (.int 0)) <| .o (.cmp .Gt) .tru)))) (.o (.lit (.str "?")) .nil) (.o (.loc 6) .nil) .nil) <| .o .pop .nil
noncomputable def c361:C:=.o (.listO 0) <| .o (.st (.l 1)) <| .o (.loc 0) <| .o (.lit (.int 4)) <| .o (.bin .FloorDiv) <| .o (.st (.l 2)) <| .bi .range1 (.o (.lit (.int 1)) <| .o (.lit (.int 1)) <| .o (.lit (.int 2)) <| .o (.lit (.int 2)) <| .o (.list 4) <| .o (.loc 0) <| .o (.lit (.int 4)) <| .o (.bin .Mod) <| .o .sub .nil) <| .for_ false .val (.one (.l 3)) (.blk [2,1] (.o (.listO 0) <| .o (.st (.l 4)) <| .bi .range1 (.o (.lit (.int 1)) <| .o (.loc 2) <| .o (.lit (.int 4)) <| .o (.bin .Mod) <| .o (.bin .Add) .nil) <| .for_ false .val (.one (.l 5)) (.o (.lit (.val (.ref 335))) <| .call 0 <| .o (.loc 2) <| .o (.lit (.int 4)) <| .o (.bin .FloorDiv) <| .o (.lit (.int 20)) <| .o (.loc 5) <| .o (.bin .Pow) <| .o (.bin .FloorDiv) <| .o (.lit (.int 20)) <| .o (.bin .Mod) <| .o .sub <| .o (.st (.l 6)) <| .bi .len (.comp .val 0 0 (.o (.loc 4) .nil) (.one (.l 1)) (.sel (.o (.loc 1) <| .o (.lit (.str "*")) <| .o (.cmp .Eq) .tru) .nil .cont <| .o (.loc 1) .nil) .nil) <| .o (.st (.l 7)) <| .bi .len (.comp .val 0 0 (.o (.loc 4) .nil) (.one (.l 1)) (.sel (.o (.loc 1) <| .o (.lit (.val (.ref 342))) <| .call 0 <| .o (.cmp .In) .tru) .nil .cont <| .o (.loc 1) .nil) .nil) <| .o (.st (.l 8)) <| .mark [8,7,6,4,2,1] Zjk) <| .o (.loc 1) <| .mth .append (.o (.loc 4) .nil) <| .o .pop <| .o (.loc 2) <| .o (.lit (.int 640000)) <| .o (.bin .FloorDiv) <| .o (.st (.l 2)) .nil) .nil) <| .o (.loc 1) .ret
theorem Zrl (w:World):ZV (kk2 w.params) 361 0 {mks:=[(345,[8,7,6,4,2,1])],bk:=[(340,4,[2,1])]}=c361:=by kd_p
theorem Zp0 {G:Gx}{w:World}(I:IsK kk2 G w) {need:Nat}{d0:D}{R:D→Prop}(h:∀c:Cx,c.G=G→c.fuel=need→wp c c361 ⟨[(0,.d d0)],[],[]⟩ (YF R)):Zr G (.ref 361) (need+1) [d0] R :=
 fsW I (own':=[]) (Z3 (n:=1) (names:=["drawn"]) I (by kd_p) (ln1 fun b0 S=>by kd_p)) (Zrl w) (Zs [0] (by kd_p)) (by kd_p) h
noncomputable def Zi7:C:=.o (.loc 1) <| .o (.lit (.int 9)) <| .o (.bin .Mod) <| .o (.st (.l 4)) <| .o (.loc 1) <| .o (.lit (.int 9)) <| .o (.bin .FloorDiv) <| .o (.st (.l 1)) <| .sel (.o (.loc 3) <| .o (.lit (.str "*")) <| .o (.cmp .Eq) .tru) (.o (.loc 2) <| .o (.lit (.str "")) <| .o (.lit (.str "a")) <| .o (.lit (.str "b")) <| .o (.lit (.str "ca")) <| .o (.lit (.str "")) <| .o (.lit (.str ".")) <| .o (.lit (.str "d")) <| .o (.lit (.str "A")) <| .o (.lit (.str "B-")) <| .o (.list 9) <| .o (.loc 4) <| .o .sub <| .o (.inp .Add) <| .o (.st (.l 2)) .nil) (.sel (.orT (.o (.loc 3) <| .o (.lit (.str "?")) <| .o (.cmp .Eq) .tru) (.o (.loc 3) <| .o (.lit (.val (.ref 342))) <| .call 0 <| .o (.cmp .In) .tru)) (.o (.loc 2) <| .o (.lit (.str "abcd.-]AB")) <| .o (.loc 4) <| .o .sub <| .o (.inp .Add) <| .o (.st (.l 2)) .nil) (.sel (.o (.loc 4) <| .o (.lit (.int 7)) <| .o (.cmp .Eq) .tru) (.o (.loc 2) <| .o (.lit (.str "a")) <| .o (.inp .Add) <| .o (.st (.l 2)) .nil) (.o (.loc 2) <| .sel (.o (.loc 4) <| .o (.lit (.int 8)) <| .o (.cmp .Eq) .tru) (.o (.lit (.val (.ref 349))) <| .call 0 <| .mth .get (.o (.loc 3) <| .o (.loc 3) .nil) .nil) (.o (.loc 3) .nil) <| .o (.inp .Add) <| .o (.st (.l 2)) .nil) .nil) .nil) .nil
noncomputable def c373:C:=.o (.lit (.str "")) <| .o (.st (.l 2)) <| .o (.loc 0) <| .for_ false .val (.one (.l 3)) (.mark [3,2,1] Zi7) <| .o (.loc 2) .ret
theorem ZrI (w:World):ZV (kk2 w.params) 373 0 {mks:=[(354,[3,2,1])]}=c373:=by kd_p
theorem Zp7 {G:Gx}{w:World}(I:IsK kk2 G w) {need:Nat}{d0 d1:D}{R:D→Prop}(h:∀c:Cx,c.G=G→c.fuel=need→wp c c373 ⟨[(0,.d d0),(1,.d d1)],[],[]⟩ (YF R)):Zr G (.ref 373) (need+1) [d0,d1] R :=
 fsW I (own':=[]) (Z3 (n:=2) (names:=["part","drawn"]) I (by kd_p) (ln2 fun b0 b1 S=>by kd_p)) (ZrI w) (Zs [0,1] (by kd_p)) (by kd_p) h
noncomputable def ZeC:C:=.sel (.andT (.o (.loc 1) <| .o (.lit (.int 8)) <| .o (.bin .Mod) <| .o (.lit (.int 6)) <| .o (.cmp .Eq) .tru) (.bi .len (.o (.loc 2) .nil) <| .o (.lit (.int 1)) <| .o (.cmp .Gt) .tru)) (.o (.loc 2) <| .slc true false false (.o (.lit (.int 1)) .nil) .bad .bad <| .o .cut <| .o (.st (.l 2)) .nil) .nil .nil
noncomputable def Zoq:C:=.sel (.o (.loc 1) <| .o (.lit (.int 8)) <| .o (.bin .Mod) <| .o (.lit (.int 4)) <| .o (.cmp .Eq) .tru) (.o (.loc 2) <| .mth .append (.o (.lit (.str "a")) .nil) <| .o .pop .nil) .nil <| .mark [2,1] ZeC
noncomputable def c380:C:=.blk [2] (.o (.listO 0) <| .o (.st (.l 2)) <| .o (.loc 0) <| .for_ false .val (.one (.l 3)) (.o (.loc 2) <| .mth .append (.o (.lit (.val (.ref 373))) <| .o (.loc 3) <| .o (.loc 1) <| .o (.lit (.int 8)) <| .o (.bin .FloorDiv) <| .call 2 .nil) <| .o .pop <| .o (.loc 1) <| .o (.lit (.int 3)) <| .o (.bin .FloorDiv) <| .o (.st (.l 1)) .nil) <| .mark [2,1] Zoq) <| .o (.lit (.str "/")) <| .mth .join (.o (.loc 2) .nil) .ret
theorem Zq9 (w:World):ZV (kk2 w.params) 380 0 {mks:=[(370,[2,1]),(372,[2,1])],bk:=[(366,4,[2])]}=c380:=by kd_p
theorem Zqv {G:Gx}{w:World}(I:IsK kk2 G w) {need:Nat}{d0 d1:D}{R:D→Prop}(h:∀c:Cx,c.G=G→c.fuel=need→wp c c380 ⟨[(0,.d d0),(1,.d d1)],[],[]⟩ (YF R)):Zr G (.ref 380) (need+1) [d0,d1] R :=
 fsW I (own':=[]) (Z3 (n:=2) (names:=["pattern","drawn"]) I (by kd_p) (ln2 fun b0 b1 S=>by kd_p)) (Zq9 w) (Zs [0,1] (by kd_p)) (by kd_p) h
noncomputable def Zj6:C:=.wh 0 (.andT (.o (.loc 6) <| .bi .len (.o (.loc 1) .nil) <| .o (.cmp .Lt) .tru) (.o (.loc 1) <| .o (.loc 6) <| .o .sub <| .o (.lit (.str "]")) <| .o (.cmp .NotEq) .tru)) (.o (.loc 6) <| .o (.lit (.int 1)) <| .o (.inp .Add) <| .o (.st (.l 6)) .nil) <| .sel (.o (.loc 6) <| .bi .len (.o (.loc 1) .nil) <| .o (.cmp .Lt) .tru) (.o (.loc 6) <| .o (.lit (.int 1)) <| .o (.bin .Add) <| .o (.st (.l 5)) .nil) (.o (.lit (.int 1)) <| .o (.un .USub) <| .o (.st (.l 6)) .nil) .nil
noncomputable def Zio:C:=.sel (.andT (.o (.loc 6) <| .bi .len (.o (.loc 1) .nil) <| .o (.cmp .Lt) .tru) (.o (.loc 1) <| .o (.loc 6) <| .o .sub <| .o (.lit (.str "]")) <| .o (.cmp .Eq) .tru)) (.o (.loc 6) <| .o (.lit (.int 1)) <| .o (.inp .Add) <| .o (.st (.l 6)) .nil) .nil <| .mark [6,5,4,1,0,2,3] Zj6
noncomputable def ZhA:C:=.sel (.o (.loc 9) .tru) (.o (.loc 7) <| .mth .append (.o (.loc 8) <| .o (.lit (.int 1)) <| .o (.bin .Add) .nil) <| .o .pop .nil) .nil .nil
noncomputable def Zb9:C:=.o (.listO 0) <| .o (.st (.l 7)) <| .sel (.o (.loc 4) <| .o (.lit (.str "*")) <| .o (.cmp .Eq) .tru) (.sel (.o (.loc 2) .tru) (.bi .list (.bi .range2 (.o (.loc 2) <| .o (.lit (.int 0)) <| .o .sub <| .bi .len (.o (.loc 0) .nil) <| .o (.lit (.int 1)) <| .o (.bin .Add) .nil) .nil) <| .o (.st (.l 7)) .nil) .nil .nil) (.o (.loc 2) <| .for_ false .val (.one (.l 8)) (.sel (.o (.loc 8) <| .bi .len (.o (.loc 0) .nil) <| .o (.cmp .Eq) .tru) .cont .nil <| .sel (.o (.loc 4) <| .o (.lit (.str "?")) <| .o (.cmp .Eq) .tru) (.o (.lit (.bool true)) <| .o (.st (.l 9)) .nil) (.sel (.o (.loc 6) <| .o (.lit (.int 0)) <| .o (.cmp .GtE) .tru) (.o (.lit (.val (.ref 87))) <| .o (.loc 0) <| .o (.loc 8) <| .o .sub <| .o (.loc 1) <| .slc true true false (.o (.loc 3) <| .o (.lit (.int 1)) <| .o (.bin .Add) .nil) (.o (.loc 6) .nil) .bad <| .o .cut <| .call 2 <| .o (.st (.l 9)) .nil) (.o (.loc 0) <| .o (.loc 8) <| .o .sub <| .o (.loc 4) <| .o (.cmp .Eq) <| .o (.st (.l 9)) .nil) .nil) <| .mark [9,8,7,6,5,4,1,0,2,3] ZhA) .nil) <| .o (.loc 7) <| .o (.st (.l 2)) <| .o (.loc 5) <| .o (.st (.l 3)) .nil
noncomputable def Zfy:C:=.o (.loc 1) <| .o (.loc 3) <| .o .sub <| .o (.st (.l 4)) <| .o (.loc 3) <| .o (.lit (.int 1)) <| .o (.bin .Add) <| .o (.st (.l 5)) <| .o (.lit (.int 1)) <| .o (.un .USub) <| .o (.st (.l 6)) <| .sel (.o (.loc 4) <| .o (.lit (.str "[")) <| .o (.cmp .Eq) .tru) (.o (.loc 5) <| .o (.st (.l 6)) <| .sel (.andT (.o (.loc 6) <| .bi .len (.o (.loc 1) .nil) <| .o (.cmp .Lt) .tru) (.o (.loc 1) <| .o (.loc 6) <| .o .sub <| .o (.lit (.str "!")) <| .o (.cmp .Eq) .tru)) (.o (.loc 6) <| .o (.lit (.int 1)) <| .o (.inp .Add) <| .o (.st (.l 6)) .nil) .nil <| .mark [6,5,4,1,0,2,3] Zio) .nil <| .mark [6,5,4,1,0,2,3] Zb9
noncomputable def c94:C:=.o (.lit (.int 0)) <| .o (.list 1) <| .o (.st (.l 2)) <| .o (.lit (.int 0)) <| .o (.st (.l 3)) <| .wh 0 (.o (.loc 3) <| .bi .len (.o (.loc 1) .nil) <| .o (.cmp .Lt) .tru) (.blk [3,2,0,1] (.mark [3,2,0,1] Zfy) .nil) <| .bi .len (.o (.loc 0) .nil) <| .o (.loc 2) <| .o (.cmp .In) .ret
theorem k94 (w:World):ZV (kk2 w.params) 94 0 {mks:=[(84,[3,2,0,1]),(91,[6,5,4,1,0,2,3]),(93,[6,5,4,1,0,2,3]),(99,[6,5,4,1,0,2,3]),(113,[9,8,7,6,5,4,1,0,2,3])],bk:=[(84,8,[3,2,0,1])]}=c94:=by kd_p
theorem ZrM {G:Gx}{w:World}(I:IsK kk2 G w) {need:Nat}{d0 d1:D}{R:D→Prop}(h:∀c:Cx,c.G=G→c.fuel=need→wp c c94 ⟨[(0,.d d0),(1,.d d1)],[],[]⟩ (YF R)):Zr G (.ref 94) (need+1) [d0,d1] R :=
 fsW I (own':=[]) (Z3 (n:=2) (names:=["name","pattern"]) I (by kd_p) (ln2 fun b0 b1 S=>by kd_p)) (k94 w) (Zs [0,1] (by kd_p)) (by kd_p) h
noncomputable def c188:C:=.o (.loc 0) <| .mth .split (.o (.lit (.str "/")) .nil) <| .o (.st (.l 2)) <| .o (.loc 1) <| .mth .split (.o (.lit (.str "/")) .nil) <| .o (.st (.l 3)) <| .sel (.bi .len (.o (.loc 2) .nil) <| .bi .len (.o (.loc 3) .nil) <| .o (.cmp .NotEq) .tru) (.o (.lit (.bool false)) .ret) .nil <| .o (.loc 2) <| .o (.loc 3) <| .for_ false .zip (.tup [.l 4,.l 5]) (.sel (.notT (.o (.lit (.val (.ref 94))) <| .o (.loc 4) <| .o (.loc 5) <| .call 2 .tru)) (.o (.lit (.bool false)) .ret) .nil .nil) <| .o (.lit (.bool true)) .ret
theorem ZrB (w:World):ZV (kk2 w.params) 188 0 {}=c188:=by kd_p
theorem ZpI {G:Gx}{w:World}(I:IsK kk2 G w) {need:Nat}{d0 d1:D}{R:D→Prop}(h:∀c:Cx,c.G=G→c.fuel=need→wp c c188 ⟨[(0,.d d0),(1,.d d1)],[],[]⟩ (YF R)):Zr G (.ref 188) (need+1) [d0,d1] R :=
 fsW I (own':=[]) (Z3 (n:=2) (names:=["targetpath","pathpattern"]) I (by kd_p) (ln2 fun b0 b1 S=>by kd_p)) (ZrB w) (Zs [0,1] (by kd_p)) (by kd_p) h
noncomputable def c36:C:=.o (.loc 1) <| .o (.loc 0) <| .stA "keyid" [70,201,324] <| .o (.loc 2) <| .o (.loc 0) <| .stA "keytype" [70,201,324] <| .o (.loc 3) <| .o (.loc 0) <| .stA "scheme" [70,201,324] <| .o (.loc 4) <| .o (.loc 0) <| .stA "keyval" [70,201,324] <| .sel (.o (.loc 5) <| .o (.lit .none) <| .o (.cmp .Is) .tru) (.o .dict0 <| .o (.st (.l 5)) .nil) .nil <| .o (.loc 5) <| .o (.loc 0) <| .stA "unrecognized_fields" [70,201,324] .nil
theorem k36 (w:World):ZV (kk2 w.params) 36 0 {}=c36:=by kd_p
theorem ZnF {G:Gx}{w:World}(I:IsK kk2 G w) {need:Nat}{os:List O}{a0 a1 a2 a3 a4:A}{R:A→List O→Prop}(h:∀c:Cx,c.G=G→c.fuel=need→EntF (kk2 w.params) 36 os.length c→wp c c36 ⟨[(0,a0),(1,a1),(2,a2),(3,a3),(4,a4),(5,.d .none)],os++[],[]⟩ (Xv R)):OSpecC G (.ref 36) (need+1) os [a0,a1,a2,a3,a4] R :=
 Za1 I (own':=[]) (Z3 (n:=5) (names:=["self","keyid","keytype","scheme","keyval","unrecognized_fields"]) I (by kd_p) (ln5 fun b0 b1 b2 b3 b4 S=>by kd_p)) (k36 w) (Zs [0,1,2,3,4,5] (by kd_p)) (by kd_p) h
theorem ZnZ {G:Gx}{w:World}(I:IsK kk2 G w) {need:Nat}{os:List O}{a0 a1 a2 a3 a4 a5:A}{R:A→List O→Prop}(h:∀c:Cx,c.G=G→c.fuel=need→EntF (kk2 w.params) 36 os.length c→wp c c36 ⟨[(0,a0),(1,a1),(2,a2),(3,a3),(4,a4),(5,a5)],os++[],[]⟩ (Xv R)):OSpecC G (.ref 36) (need+1) os [a0,a1,a2,a3,a4,a5] R :=
 Za1 I (own':=[]) (Z3 (n:=6) (names:=["self","keyid","keytype","scheme","keyval","unrecognized_fields"]) I (by kd_p) (ln6 fun b0 b1 b2 b3 b4 b5 S=>by kd_p)) (k36 w) (Zs [0,1,2,3,4,5] (by kd_p)) (by kd_p) h
noncomputable def c60:C:=.dict ["keytype","scheme","keyval"] (.o (.loc 0) <| .attr "keytype" [70,201,324] <| .o (.loc 0) <| .attr "scheme" [70,201,324] <| .o (.loc 0) <| .attr "keyval" [70,201,324] .nil) <| .o (.st (.l 1)) <| .o (.loc 1) <| .mtd .upd (.o (.loc 0) <| .attr "unrecognized_fields" [70,201,324] .nil) <| .o .pop <| .o (.loc 1) .ret
theorem k60 (w:World):ZV (kk2 w.params) 60 0 {}=c60:=by kd_p
theorem Znb {G:Gx}{w:World}(I:IsK kk2 G w) {need:Nat}{os:List O}{a0:A}{R:A→List O→Prop}(h:∀c:Cx,c.G=G→c.fuel=need→EntF (kk2 w.params) 60 os.length c→wp c c60 ⟨[(0,a0)],os++[],[]⟩ (Xv R)):OSpecC G (.ref 60) (need+1) os [a0] R :=
 Za1 I (own':=[]) (Z3 (n:=1) (names:=["self"]) I (by kd_p) (ln1 fun b0 S=>by kd_p)) (k60 w) (Zs [0] (by kd_p)) (by kd_p) h
noncomputable def c133:C:=.dict ["keyids","threshold"] (.o (.loc 0) <| .attr "keyids" [70,201,324] <| .o (.loc 0) <| .attr "threshold" [70,201,324] .nil) <| .o (.st (.l 1)) <| .o (.loc 1) <| .mtd .upd (.o (.loc 0) <| .attr "unrecognized_fields" [70,201,324] .nil) <| .o .pop <| .o (.loc 1) .ret
theorem ZqJ (w:World):ZV (kk2 w.params) 133 0 {}=c133:=by kd_p
theorem Zpo {G:Gx}{w:World}(I:IsK kk2 G w) {need:Nat}{d0:D}{R:D→Prop}(h:∀c:Cx,c.G=G→c.fuel=need→wp c c133 ⟨[(0,.d d0)],[],[]⟩ (YF R)):Zr G (.ref 133) (need+1) [d0] R :=
 fsW I (own':=[]) (Z3 (n:=1) (names:=["self"]) I (by kd_p) (ln1 fun b0 S=>by kd_p)) (ZqJ w) (Zs [0] (by kd_p)) (by kd_p) h
noncomputable def c198:C:=.sel (.o (.loc 0) <| .attr "path_hash_prefixes" [70,201,324] <| .o (.lit .none) <| .o (.cmp .IsNot) .tru) (.o (.loc 2) <| .o (.loc 1) <| .meth "encode" 1 (.o (.lit (.str "utf-8")) .nil) <| .o (.lit (.str "sha256")) <| .call 2 <| .o (.st (.l 3)) <| .o (.loc 0) <| .attr "path_hash_prefixes" [70,201,324] <| .for_ false .val (.one (.l 4)) (.sel (.o (.loc 3) <| .mth .startswith (.o (.loc 4) .nil) .tru) (.o (.lit (.bool true)) .ret) .nil .nil) .nil) (.sel (.o (.loc 0) <| .attr "paths" [70,201,324] <| .o (.lit .none) <| .o (.cmp .IsNot) .tru) (.o (.loc 0) <| .attr "paths" [70,201,324] <| .for_ false .val (.one (.l 5)) (.sel (.o (.loc 0) <| .meth "_is_target_in_pathpattern" 2 (.o (.loc 1) <| .o (.loc 5) .nil) .tru) (.o (.lit (.bool true)) .ret) .nil .nil) .nil) .nil .nil) <| .o (.lit (.bool false)) .ret
theorem Zq5 (w:World):ZV (kk2 w.params) 198 0 {}=c198:=by kd_p
theorem Zpe {G:Gx}{w:World}(I:IsK kk2 G w) {need:Nat}{d0 d1 d2:D}{R:D→Prop}(h:∀c:Cx,c.G=G→c.fuel=need→wp c c198 ⟨[(0,.d d0),(1,.d d1),(2,.d d2)],[],[]⟩ (YF R)):Zr G (.ref 198) (need+1) [d0,d1,d2] R :=
 fsW I (own':=[]) (Z3 (n:=3) (names:=["self","target_filepath","digest"]) I (by kd_p) (ln3 fun b0 b1 b2 S=>by kd_p)) (Zq5 w) (Zs [0,1,2] (by kd_p)) (by kd_p) h
noncomputable def ZjO:C:=.o (.loc 0) <| .o (.lit (.int 2)) <| .o (.cell 1) <| .o (.bin .Mult) <| .o .sub <| .o (.st (.l 1)) <| .o (.cell 2) <| .mth .append (.sel (.o (.loc 1) <| .o (.lit (.int 5)) <| .o (.bin .Mod) <| .o (.lit (.int 4)) <| .o (.cmp .Eq) .tru) (.o (.lit .none) .nil) (.comp .val 0 5 (.o (.loc 1) <| .o (.lit (.int 10)) <| .o (.bin .FloorDiv) <| .o (.loc 0) <| .o (.lit (.int 2)) <| .o (.cell 1) <| .o (.bin .Mult) <| .o (.lit (.int 1)) <| .o (.bin .Add) <| .o .sub <| .o (.list 2) <| .slc false true false .bad (.sel (.o (.cell 1) <| .o (.lit (.int 0)) <| .o (.cmp .Eq) .tru) (.o (.lit (.int 1)) <| .o (.loc 1) <| .o (.lit (.int 5)) <| .o (.bin .FloorDiv) <| .o (.lit (.int 2)) <| .o (.bin .Mod) <| .o (.bin .Add) .nil) (.o (.lit (.int 1)) .nil) .nil) .bad <| .o .cut .nil) (.one (.l 1)) (.o (.lit (.val (.ref 361))) <| .o (.loc 1) <| .call 1 .nil) .nil) .nil) <| .o .pop .nil
noncomputable def Zjp:C:=.o (.listO 0) <| .o (.st (.c 2)) <| .bi .range1 (.o (.lit (.int 3)) .nil) <| .for_ false .val (.one (.c 1)) (.mark [0] ZjO) .nil
noncomputable def Zi8:C:=.o (.cell 2) <| .o (.loc 2) <| .o (.lit (.int 3)) <| .o (.bin .Mod) <| .o .sub <| .o (.st (.l 4)) <| .o (.loc 3) <| .mth .append (.sel (.o (.loc 4) <| .o (.lit .none) <| .o (.cmp .Is) .tru) (.o (.lit (.str "A/b%d")) <| .o (.loc 2) <| .o (.lit (.int 3)) <| .o (.bin .FloorDiv) <| .o (.lit (.int 50)) <| .o (.bin .Mod) <| .o (.bin .Mod) .nil) (.o (.lit (.val (.ref 380))) <| .o (.loc 4) <| .o (.loc 2) <| .o (.lit (.int 3)) <| .o (.bin .FloorDiv) <| .bi .len (.o (.loc 4) .nil) <| .o (.bin .Mod) <| .o .sub <| .o (.loc 2) <| .o (.lit (.int 6)) <| .o (.bin .FloorDiv) <| .call 2 .nil) .nil) <| .o .pop .nil
noncomputable def ZjB:C:=.o (.listO 0) <| .o (.st (.l 3)) <| .o (.loc 0) <| .slc true true false (.o (.lit (.int 6)) .nil) (.o (.lit (.int 8)) .nil) .bad <| .o .cut <| .for_ false .val (.one (.l 2)) (.mark [2,0,3] Zi8) .nil
noncomputable def ZjZ:C:=.o (.loc 5) <| .mth .append (.o (.loc 6) <| .o (.loc 7) <| .comp .val 1 8 (.o (.loc 3) .nil) (.one (.c 9)) (.sel (.comp .val 0 8 (.o (.cell 4) .nil) (.one (.l 1)) (.sel (.o (.lit (.val (.ref 356))) <| .o (.cell 9) <| .meth "encode" 1 (.o (.lit (.str "utf-8")) .nil) <| .o (.lit (.str "sha256")) <| .call 2 <| .slc false true false .bad (.bi .len (.o (.loc 1) .nil) .nil) .bad <| .o .cut <| .o (.loc 1) <| .o (.cmp .Eq) .tru) .nil .cont <| .o (.loc 1) .nil) <| .o (.lit (.list [])) <| .o (.cmp .NotEq) .tru) .nil .cont <| .o (.cell 9) .nil) <| .o (.tup 3) .nil) <| .o .pop .nil
noncomputable def ZeL:C:=.o (.lit (.val (.ref 201))) <| .o (.loc 6) <| .o (.lit (.str "a")) <| .o (.list 1) <| .o (.lit (.int 1)) <| .o (.loc 7) <| .o (.lit .none) <| .o (.cell 4) <| .call 6 <| .o (.cell 3) <| .o (.loc 6) <| .o .set <| .mark [8,7,6,0,3,5] ZjZ
noncomputable def Zj5:C:=.o (.loc 0) <| .o (.lit (.int 2)) <| .o (.cell 1) <| .o (.bin .Mult) <| .o (.lit (.int 1)) <| .o (.bin .Add) <| .o .sub <| .o (.st (.l 8)) <| .o (.lit (.val (.ref 356))) <| .o (.loc 3) <| .o (.loc 8) <| .o (.lit (.int 2)) <| .o (.bin .Mod) <| .o .sub <| .meth "encode" 1 (.o (.lit (.str "utf-8")) .nil) <| .o (.lit (.str "sha256")) <| .call 2 <| .slc false true false .bad (.o (.lit (.int 1)) <| .o (.loc 8) <| .o (.lit (.int 3)) <| .o (.bin .FloorDiv) <| .o (.lit (.int 4)) <| .o (.bin .Mod) <| .o (.bin .Add) .nil) .bad <| .o .cut <| .o (.lit (.str "0123456789abcdef")) <| .o (.loc 8) <| .o (.lit (.int 12)) <| .o (.bin .FloorDiv) <| .o (.lit (.int 16)) <| .o (.bin .Mod) <| .o .sub <| .o (.list 2) <| .slc false true false .bad (.o (.lit (.int 1)) <| .o (.loc 8) <| .o (.lit (.int 192)) <| .o (.bin .FloorDiv) <| .o (.lit (.int 2)) <| .o (.bin .Mod) <| .o (.bin .Add) .nil) .bad <| .o .cut <| .o (.st (.c 4)) <| .mark [8,7,6,0,3,5] ZeL
noncomputable def ZiC:C:=.o (.loc 5) <| .mth .append (.o (.loc 6) <| .o (.loc 7) <| .comp .val 1 8 (.o (.loc 3) .nil) (.one (.c 9)) (.sel (.comp .val 0 8 (.o (.cell 2) <| .o (.cell 1) <| .o .sub .nil) (.one (.l 1)) (.sel (.o (.lit (.val (.ref 397))) <| .o (.loc 1) <| .o (.cell 9) <| .call 2 .tru) .nil .cont <| .o (.loc 1) .nil) <| .o (.lit (.list [])) <| .o (.cmp .NotEq) .tru) .nil .cont <| .o (.cell 9) .nil) <| .o (.tup 3) .nil) <| .o .pop .nil
noncomputable def Zkh:C:=.o (.lit (.val (.ref 201))) <| .o (.loc 6) <| .o (.lit (.str "a")) <| .o (.list 1) <| .o (.lit (.int 1)) <| .o (.loc 7) <| .comp .val 0 5 (.o (.cell 2) <| .o (.cell 1) <| .o .sub .nil) (.one (.l 1)) (.o (.lit (.val (.ref 366))) <| .o (.loc 1) <| .call 1 .nil) <| .call 5 <| .o (.cell 3) <| .o (.loc 6) <| .o .set <| .mark [7,6,0,3,5] ZiC
noncomputable def ZjW:C:=.o (.loc 0) <| .o (.lit (.int 2)) <| .o (.cell 1) <| .o (.bin .Mult) <| .o .sub <| .o (.lit (.int 7)) <| .o (.bin .FloorDiv) <| .o (.lit (.int 3)) <| .o (.bin .Mod) <| .o (.lit (.int 1)) <| .o (.cmp .Eq) <| .o (.st (.l 7)) <| .sel (.o (.cell 2) <| .o (.cell 1) <| .o .sub <| .o (.lit .none) <| .o (.cmp .Is) .tru) (.mark [7,6,0,3,5] Zj5) (.mark [7,6,0,3,5] Zkh) .nil
noncomputable def ZfK:C:=.o .dict0 <| .o (.st (.c 3)) <| .o (.listO 0) <| .o (.st (.l 5)) <| .o (.lit (.str "p")) <| .o (.lit (.str "q")) <| .o (.lit (.str "r")) <| .o (.list 3) <| .for_ false .enum (.tup [.c 1,.l 6]) (.mark [6,0,3,5] ZjW) .nil
noncomputable def ZcV:C:=.sel (.orT (.o (.loc 13) <| .comp .val 0 0 (.o (.loc 5) .nil) (.tup [.l 1,.l 2,.l 3]) (.sel (.o (.cell 5) <| .o (.loc 3) <| .o (.cmp .In) .tru) .nil .cont <| .o (.loc 1) <| .o (.loc 2) <| .o (.tup 2) .nil) <| .o (.cmp .NotEq) .tru) (.comp .val 0 0 (.o (.loc 13) .nil) (.one (.l 1)) (.sel (.notT (.o (.lit (.val (.builtin "isinstance"))) <| .o (.loc 1) <| .o (.lit (.int 1)) <| .o .sub <| .o (.lit (.val (.type "bool"))) <| .call 2 .tru)) .nil .cont <| .o (.loc 1) .nil) <| .o (.lit (.list [])) <| .o (.cmp .NotEq) .tru)) (.o (.lit (.bool false)) .ret) .nil .nil
noncomputable def Zfo:C:=.sel (.o (.cell 1) <| .o (.loc 0) <| .o (.lit (.int 8)) <| .o .sub <| .o (.bin .Add) <| .o (.lit (.int 2)) <| .o (.bin .Mod) <| .o (.lit (.int 0)) <| .o (.cmp .Eq) .tru) (.o (.loc 9) .nil) (.o (.loc 10) .nil) <| .o (.st (.l 12)) <| .raw [YV (fAt pw2 25) [10,2]] <| .mark [0,3,5,9,10,13] ZcV
noncomputable def ZfW:C:=.comp .val 0 0 (.o (.loc 10) <| .attr "roles" [70,201,324] <| .meth "values" 0 .nil .nil) (.one (.l 1)) (.frz (.o (.loc 1) <| .meth "to_dict" 0 .nil .nil) .nil) <| .comp .val 0 0 (.o (.lit (.str "p")) <| .o (.lit (.str "q")) <| .o (.lit (.str "r")) <| .o (.list 3) .nil) (.one (.l 1)) (.frz (.o (.cell 3) <| .o (.loc 1) <| .o .sub <| .meth "to_dict" 0 .nil .nil) .nil) <| .o (.cmp .Eq) .ret
noncomputable def Zcw:C:=.o (.loc 3) <| .for_ false .enum (.tup [.c 1,.c 5]) (.o (.loc 5) <| .for_ false .val (.tup [.l 6,.l 7,.l 11]) (.sel (.o (.cell 3) <| .o (.loc 6) <| .o .sub <| .meth "is_delegated_path" 2 (.o (.cell 5) <| .o (.lit (.val (.ref 356))) .nil) <| .o (.cell 5) <| .o (.loc 11) <| .o (.cmp .In) <| .o (.cmp .IsNot) .tru) (.o (.lit (.bool false)) .ret) .nil .nil) <| .mark [0,3,5,9,10] Zfo) <| .mark [10] ZfW
noncomputable def Zgm:C:=.o (.lit (.val (.ref 324))) <| .frz (.dict ["a"] (.o (.lit (.val (.ref 70))) <| .o (.lit (.str "a")) <| .o (.lit (.str "t")) <| .o (.lit (.str "s")) <| .frz (.dict ["public"] (.o (.lit (.str "pa")) .nil) .nil) <| .call 4 .nil) .nil) <| .o (.cell 3) <| .call 2 <| .o (.st (.l 9)) <| .raw [YV (fAt pw2 25) [9]] <| .mark [0,3,5,9,10] Zcw
noncomputable def c402:C:=.comp .val 0 5 (.bi .range1 (.o (.lit (.int 9)) .nil) .nil) (.one (.l 1)) (.sel (.o (.loc 1) <| .bi .len (.o (.cell 0) .nil) <| .o (.cmp .Lt) .tru) (.o (.cell 0) <| .o (.loc 1) <| .o .sub .nil) (.o (.lit (.int 0)) .nil) .nil) <| .o (.st (.l 0)) <| .blk [0] (.mark [0] Zjp) <| .blk [0,3] (.mark [0] ZjB) <| .blk [0,3,5] (.mark [0,3] ZfK) <| .mark [0,3,5] Zgm
theorem ZqV (w:World):ZV (kk2 w.params) 402 0 {rw:=[411,417],fz:=[(410,30),(410,55),(420,12),(420,65)],cm:=[(389,5),(393,5),(405,5),(406,8),(408,5),(409,8)],bk:=[(390,2,[0]),(394,2,[0,3]),(398,3,[0,3,5])],mks:=[(390,[0]),(392,[0]),(394,[0]),(396,[2,0,3]),(398,[0,3]),(401,[6,0,3,5]),(403,[7,6,0,3,5]),(408,[7,6,0,3,5]),(405,[8,7,6,0,3,5]),(406,[8,7,6,0,3,5]),(409,[7,6,0,3,5]),(410,[0,3,5]),(412,[0,3,5,9,10]),(416,[0,3,5,9,10]),(418,[0,3,5,9,10,13]),(420,[10])]}=c402:=by kd_p
noncomputable def c181:C:=.o (.lit (.val (.ref 136))) <| .meth "to_dict" 1 (.o (.loc 0) .nil) <| .o (.st (.l 1)) <| .dict ["name","terminating"] (.o (.loc 0) <| .attr "name" [70,201,324] <| .o (.loc 0) <| .attr "terminating" [70,201,324] .nil) <| .o (.st (.l 2)) <| .o (.loc 2) <| .mtd .upd (.o (.loc 1) .nil) <| .o .pop <| .sel (.o (.loc 0) <| .attr "paths" [70,201,324] <| .o (.lit .none) <| .o (.cmp .IsNot) .tru) (.o (.loc 0) <| .attr "paths" [70,201,324] <| .o (.loc 2) <| .o (.lit (.str "paths")) <| .o .set .nil) (.sel (.o (.loc 0) <| .attr "path_hash_prefixes" [70,201,324] <| .o (.lit .none) <| .o (.cmp .IsNot) .tru) (.o (.loc 0) <| .attr "path_hash_prefixes" [70,201,324] <| .o (.loc 2) <| .o (.lit (.str "path_hash_prefixes")) <| .o .set .nil) .nil .nil) <| .o (.loc 2) .ret
theorem Zrb (w:World):ZV (kk2 w.params) 181 0 {}=c181:=by kd_p
theorem ZlI {G:Gx}{w:World}(I:IsK kk2 G w) {need:Nat}{os:List O}{a0:A}{R:A→List O→Prop}(h:∀c:Cx,c.G=G→c.fuel=need→EntF (kk2 w.params) 181 os.length c→wp c c181 ⟨[(0,a0)],os++[],[]⟩ (Xv R)):OSpecC G (.ref 181) (need+1) os [a0] R :=
 Za1 I (own':=[]) (Z3 (n:=1) (names:=["self"]) I (by kd_p) (ln1 fun b0 S=>by kd_p)) (Zrb w) (Zs [0] (by kd_p)) (by kd_p) h
noncomputable def c50:C:=.o (.loc 2) <| .mtd .pop1 (.o (.lit (.str "keytype")) .nil) <| .o (.st (.l 3)) <| .o (.loc 2) <| .mtd .pop1 (.o (.lit (.str "scheme")) .nil) <| .o (.st (.l 4)) <| .o (.loc 2) <| .mtd .pop1 (.o (.lit (.str "keyval")) .nil) <| .o (.st (.l 5)) <| .o (.loc 0) <| .o (.loc 1) <| .o (.loc 3) <| .o (.loc 4) <| .o (.loc 5) <| .o (.loc 2) <| .call 5 .ret
theorem k50 (w:World):ZV (kk2 w.params) 50 0 {}=c50:=by kd_p
theorem ZoD {G:Gx}{w:World}(I:IsK kk2 G w) {need:Nat}{os:List O}{a0 a1 a2:A}{R:A→List O→Prop}(h:∀c:Cx,c.G=G→c.fuel=need→EntF (kk2 w.params) 50 os.length c→wp c c50 ⟨[(0,a0),(1,a1),(2,a2)],os++[],[]⟩ (Xv R)):OSpecC G (.ref 50) (need+1) os [a0,a1,a2] R :=
 Za1 I (own':=[]) (Z3 (n:=3) (names:=["cls","keyid","key_dict"]) I (by kd_p) (ln3 fun b0 b1 b2 S=>by kd_p)) (k50 w) (Zs [0,1,2] (by kd_p)) (by kd_p) h
noncomputable def c109:C:=.raw [YV (mAt pw2 7 0) [0]] <| .sel (.o (.loc 2) <| .o (.lit (.int 1)) <| .o (.cmp .Lt) .tru) .bad .nil <| .o (.loc 1) <| .o (.loc 0) <| .stA "keyids" [70,201,324] <| .o (.loc 2) <| .o (.loc 0) <| .stA "threshold" [70,201,324] <| .sel (.o (.loc 3) <| .o (.lit .none) <| .o (.cmp .Is) .tru) (.o .dict0 <| .o (.st (.l 3)) .nil) .nil <| .o (.loc 3) <| .o (.loc 0) <| .stA "unrecognized_fields" [70,201,324] .nil
theorem ZrN (w:World):ZV (kk2 w.params) 109 0 {rw:=[121]}=c109:=by kd_p
theorem Zfw {G:Gx}{w:World}(I:IsK kk2 G w) {need:Nat}{os:List O}{a0 a1 a2 a3:A}{R:A→List O→Prop}(h:∀c:Cx,c.G=G→c.fuel=need→EntF (kk2 w.params) 109 os.length c→wp c c109 ⟨[(0,a0),(1,a1),(2,a2),(3,a3)],os++[],[]⟩ (Xv R)):OSpecC G (.ref 109) (need+1) os [a0,a1,a2,a3] R :=
 Za1 I (own':=[]) (Z3 (n:=4) (names:=["self","keyids","threshold","unrecognized_fields"]) I (by kd_p) (ln4 fun b0 b1 b2 b3 S=>by kd_p)) (ZrN w) (Zs [0,1,2,3] (by kd_p)) (by kd_p) h
noncomputable def c157:C:=.o (.loc 1) <| .o (.loc 0) <| .stA "name" [70,201,324] <| .o (.loc 4) <| .o (.loc 0) <| .stA "terminating" [70,201,324] <| .o (.loc 5) <| .o (.loc 6) <| .o (.list 2) <| .o (.st (.l 8)) <| .raw [YV (mAt pw2 8 0) [4]] <| .raw [YV (mAt pw2 8 0) [5]] <| .raw [YV (mAt pw2 8 0) [6]] <| .o (.loc 5) <| .o (.loc 0) <| .stA "paths" [70,201,324] <| .o (.loc 6) <| .o (.loc 0) <| .stA "path_hash_prefixes" [70,201,324] .nil
theorem Zqg (w:World):cmp 160 (EK (kk2 w.params) 157 0 {rw:=[153,155,157]}) (.ss (Zfr (kk2 w.params) 157).tail) .nil=c157:=by kd_p
noncomputable def c171:C:=.o (.loc 1) <| .mtd .pop1 (.o (.lit (.str "name")) .nil) <| .o (.st (.l 2)) <| .o (.loc 1) <| .mtd .pop1 (.o (.lit (.str "keyids")) .nil) <| .o (.st (.l 3)) <| .o (.loc 1) <| .mtd .pop1 (.o (.lit (.str "threshold")) .nil) <| .o (.st (.l 4)) <| .o (.loc 1) <| .mtd .pop1 (.o (.lit (.str "terminating")) .nil) <| .o (.st (.l 5)) <| .o (.loc 1) <| .mtd .pop2 (.o (.lit (.str "paths")) <| .o (.lit .none) .nil) <| .o (.st (.l 6)) <| .o (.loc 1) <| .mtd .pop2 (.o (.lit (.str "path_hash_prefixes")) <| .o (.lit .none) .nil) <| .o (.st (.l 7)) <| .o (.loc 0) <| .o (.loc 2) <| .o (.loc 3) <| .o (.loc 4) <| .o (.loc 5) <| .o (.loc 6) <| .o (.loc 7) <| .o (.loc 1) <| .call 7 .ret
theorem Zru (w:World):ZV (kk2 w.params) 171 0 {}=c171:=by kd_p
theorem Zko {G:Gx}{w:World}(I:IsK kk2 G w) {need:Nat}{os:List O}{a0 a1:A}{R:A→List O→Prop}(h:∀c:Cx,c.G=G→c.fuel=need→EntF (kk2 w.params) 171 os.length c→wp c c171 ⟨[(0,a0),(1,a1)],os++[],[]⟩ (Xv R)):OSpecC G (.ref 171) (need+1) os [a0,a1] R :=
 Za1 I (own':=[]) (Z3 (n:=2) (names:=["cls","role_dict"]) I (by kd_p) (ln2 fun b0 b1 S=>by kd_p)) (Zru w) (Zs [0,1] (by kd_p)) (by kd_p) h
noncomputable def c292:C:=.o (.loc 1) <| .o (.loc 0) <| .stA "keys" [70,201,324] <| .raw [YV (mAt pw2 11 0) [1]] <| .raw [YV (mAt pw2 11 0) [2]] <| .o (.loc 2) <| .o (.loc 0) <| .stA "roles" [70,201,324] <| .o (.loc 3) <| .o (.loc 0) <| .stA "succinct_roles" [70,201,324] <| .sel (.o (.loc 4) <| .o (.lit .none) <| .o (.cmp .Is) .tru) (.o .dict0 <| .o (.st (.l 4)) .nil) .nil <| .o (.loc 4) <| .o (.loc 0) <| .stA "unrecognized_fields" [70,201,324] .nil
theorem Zqa (w:World):ZV (kk2 w.params) 292 0 {rw:=[262,264]}=c292:=by kd_p
theorem Zls {G:Gx}{w:World}(I:IsK kk2 G w) {need:Nat}{os:List O}{a0 a1 a2:A}{R:A→List O→Prop}(h:∀c:Cx,c.G=G→c.fuel=need→EntF (kk2 w.params) 292 os.length c→wp c c292 ⟨[(0,a0),(1,a1),(2,a2),(3,.d .none),(4,.d .none)],os++[],[]⟩ (Xv R)):OSpecC G (.ref 292) (need+1) os [a0,a1,a2] R :=
 Za1 I (own':=[]) (Z3 (n:=3) (names:=["self","keys","roles","succinct_roles","unrecognized_fields"]) I (by kd_p) (ln3 fun b0 b1 b2 S=>by kd_p)) (Zqa w) (Zs [0,1,2,3,4] (by kd_p)) (by kd_p) h
theorem Zlb {G:Gx}{w:World}(I:IsK kk2 G w) {need:Nat}{os:List O}{a0 a1 a2 a3 a4:A}{R:A→List O→Prop}(h:∀c:Cx,c.G=G→c.fuel=need→EntF (kk2 w.params) 292 os.length c→wp c c292 ⟨[(0,a0),(1,a1),(2,a2),(3,a3),(4,a4)],os++[],[]⟩ (Xv R)):OSpecC G (.ref 292) (need+1) os [a0,a1,a2,a3,a4] R :=
 Za1 I (own':=[]) (Z3 (n:=5) (names:=["self","keys","roles","succinct_roles","unrecognized_fields"]) I (by kd_p) (ln5 fun b0 b1 b2 b3 b4 S=>by kd_p)) (Zqa w) (Zs [0,1,2,3,4] (by kd_p)) (by kd_p) h
noncomputable def c306:C:=.o (.loc 1) <| .mtd .pop1 (.o (.lit (.str "keys")) .nil) <| .o (.st (.l 2)) <| .o .dict0 <| .o (.st (.l 3)) <| .raw [YV (mAt pw2 11 2) [2]] <| .o (.loc 1) <| .mtd .pop2 (.o (.lit (.str "roles")) <| .o (.lit .none) .nil) <| .o (.st (.l 6)) <| .o (.lit .none) <| .o (.st (.l 7)) <| .sel (.o (.loc 6) <| .o (.lit .none) <| .o (.cmp .IsNot) .tru) (.o .dict0 <| .o (.st (.l 7)) <| .o (.loc 6) <| .for_ true .val (.one (.l 8)) (.raw [YV (mAt pw2 11 2) [5,1,0]] <| .raw [YV (mAt pw2 11 2) [5,1,1]] <| .o (.loc 9) <| .o (.loc 7) <| .o (.loc 9) <| .attr "name" [70,201,324] <| .o .set .nil) .nil) .nil <| .o (.loc 1) <| .mtd .pop2 (.o (.lit (.str "succinct_roles")) <| .o (.lit .none) .nil) <| .o (.st (.l 10)) <| .o (.lit .none) <| .o (.st (.l 11)) <| .sel (.o (.loc 10) <| .o (.lit .none) <| .o (.cmp .IsNot) .tru) (.o (.lit (.val (.ref 275))) <| .meth "from_dict" 1 (.o (.loc 10) .nil) <| .o (.st (.l 11)) .nil) .nil <| .o (.loc 0) <| .o (.loc 3) <| .o (.loc 7) <| .o (.loc 11) <| .o (.loc 1) <| .call 4 .ret
theorem Zq6 (w:World):ZV (kk2 w.params) 306 0 {rw:=[286,293,294],rn:=[292]}=c306:=by kd_p
theorem Zlo {G:Gx}{w:World}(I:IsK kk2 G w) {need:Nat}{os:List O}{a0 a1:A}{R:A→List O→Prop}(h:∀c:Cx,c.G=G→c.fuel=need→EntF (kk2 w.params) 306 os.length c→wp c c306 ⟨[(0,a0),(1,a1)],os++[],[]⟩ (Xv R)):OSpecC G (.ref 306) (need+1) os [a0,a1] R :=
 Za1 I (own':=[]) (Z3 (n:=2) (names:=["cls","delegations_dict"]) I (by kd_p) (ln2 fun b0 b1 S=>by kd_p)) (Zq6 w) (Zs [0,1] (by kd_p)) (by kd_p) h
noncomputable def c314:C:=.raw [YV (mAt pw2 11 3) [0]] <| .dict ["keys"] (.o (.loc 1) .nil) <| .o (.st (.l 2)) <| .o (.loc 2) <| .mtd .upd (.o (.loc 0) <| .attr "unrecognized_fields" [70,201,324] .nil) <| .o .pop <| .sel (.o (.loc 0) <| .attr "roles" [70,201,324] <| .o (.lit .none) <| .o (.cmp .IsNot) .tru) (.raw [YV (mAt pw2 11 3) [3,0]] <| .o (.loc 3) <| .o (.loc 2) <| .o (.lit (.str "roles")) <| .o .set .nil) (.sel (.o (.loc 0) <| .attr "succinct_roles" [70,201,324] <| .o (.lit .none) <| .o (.cmp .IsNot) .tru) (.o (.loc 0) <| .attr "succinct_roles" [70,201,324] <| .meth "to_dict" 0 .nil <| .o (.loc 2) <| .o (.lit (.str "succinct_roles")) <| .o .set .nil) .nil .nil) <| .o (.loc 2) .ret
theorem Zq8 (w:World):ZV (kk2 w.params) 314 0 {rw:=[304,308]}=c314:=by kd_p
theorem Zlq {G:Gx}{w:World}(I:IsK kk2 G w) {need:Nat}{os:List O}{a0:A}{R:A→List O→Prop}(h:∀c:Cx,c.G=G→c.fuel=need→EntF (kk2 w.params) 314 os.length c→wp c c314 ⟨[(0,a0)],os++[],[]⟩ (Xv R)):OSpecC G (.ref 314) (need+1) os [a0] R :=
 Za1 I (own':=[]) (Z3 (n:=1) (names:=["self"]) I (by kd_p) (ln1 fun b0 S=>by kd_p)) (Zq8 w) (Zs [0] (by kd_p)) (by kd_p) h
end
section
variable {G:Gx}{w:World}
theorem all_cons {α:Type}{P:α→Prop}{x:α}{xs:List α}(h:P x) (r:∀y∈xs,P y):∀y∈x::xs,P y:=List.forall_mem_cons.mpr ⟨h,r⟩
theorem ZfQ {α:Type}{P:α→Prop}:∀y∈([]:List α),P y:=fun j h=>nomatch h
theorem Zic (I:IsK kk2 G w):∀p∈classTab,Zr G (.ref 82) 6 [.str p.1] (fun d=>d = .list (p.2.map .str)):=by
 have key:∀c:Cx,∀p∈classTab,wp c c82 ⟨[(0,.d (.str p.1))],[],[]⟩ (YF fun d=>d = .list (p.2.map .str)):=fun c=>by
  unfold classTab
  repeat (refine all_cons (ZeX (by kd_p)) ?_)
  exact ZfQ
 exact fun p hp=>ZrJ I fun c j j=>key c p hp
end
section
variable {G:Gx}{w:World}
section
variable {c:Cx}{own:List O}{a:A}{sg:Str}{ms:List Str}{neg:Bool}
theorem Zf7 (hsz:ms.length≤1000) (n:Int) (j:Nat) (hn:n=j) (hj:j<ms.length):UN n ((ms.map D.str).map A.d)=some (.d (.str (ms.getD j ""))):=by
 subst hn;exact Ur (by exact Int.natCast_nonneg _) (by lia) (by simp [hj,List.getD])
noncomputable def XI (sg:Str) (ms:List Str) (i:Nat) (found:Bool):Nat×Bool :=
 if i+2<ms.length∧ms.getD (i+1) ""="" then (i+3,if leS (UQ (ms.getD i "")) sg&&leS sg (ms.getD (i+2) "") then true else found)
 else (i+1,if UQ (ms.getD i "")==sg then true else found)
theorem Zbr (hl:lsA own a=some ((ms.map D.str).map .d)) (hsz:ms.length≤1000) {i:Nat}{found:Bool}{low:Str}(hlow:low=UQ (ms.getD i "")) (hi:i<ms.length) {P:Fw→St→Prop}
 (h:∀(L:List (Nat×A)),Le [(6,.d (.int ((XI sg ms i found).1:Nat))),(5,.d (.bool (XI sg ms i found).2)),(0,.d (.str sg)),(2,a),(4,.d (.bool neg))] L→P .next ⟨L,own,[]⟩) :
 wp c ZmS ⟨[(7,.d (.str low)),(6,.d (.int i)),(5,.d (.bool found)),(0,.d (.str sg)),(2,a),(4,.d (.bool neg))],own,[]⟩ P:=by
 have hlen:((ms.map D.str).map A.d).length=ms.length:=by rw [List.length_map,List.length_map]
 unfold XI at h;rw [←hlow] at h
 conv=>whnf
 refine Ze (ZfS hl (by rw [hlen];lia)) ?_;rw [hlen]
 conv=>whnf
 have no:¬(i+2<ms.length∧ms.getD (i+1) ""="")→wp c (.sel (.o (.loc 7) <| .o (.loc 0) <| .o (.cmp .Eq) .tru) (.o (.lit (.bool true)) <| .o (.st (.l 5)) .nil) .nil <| .o (.loc 6) <| .o (.lit (.int 1)) <| .o (.inp .Add) <| .o (.st (.l 6)) .nil) ⟨[(7,.d (.str low)),(6,.d (.int i)),(5,.d (.bool found)),(0,.d (.str sg)),(2,a),(4,.d (.bool neg))],own,[]⟩ P:=fun q=>by
  rw [if_neg q] at h
  conv=>whnf
  refine Zl (fun q1=>?_) (fun q1=>?_)
  ·rw [if_pos q1] at h;exact h _ (Zq rfl)
  ·rw [if_neg (by rw [q1];decide)] at h;exact h _ (Zq rfl)
 refine Zl (fun q0=>?_) (fun q0=>?_)
 ·have h3:i+2<ms.length:=by have:=Kw q0;lia
  conv=>whnf
  refine Ze (Xp (Zat hl (Zf7 hsz _ (i+1) (by rfl) (by exact Nat.le_of_lt (by assumption))))) ?_
  conv=>whnf
  refine Zl (fun q1=>?_) (fun q1=>?_)
  ·rw [if_pos ⟨h3,eq_of_beq q1⟩] at h
   conv=>whnf
   refine Zl (fun q2=>?_) (fun q2=>?_)
   ·have e1:leS low sg=true:=q2
    conv=>whnf
    refine Ze (Xp (Zat hl (Zf7 hsz _ (i+2) (by rfl) (by assumption)))) ?_
    conv=>whnf
    refine Zl (fun q3=>?_) (fun q3=>?_)
    ·have e2:leS sg (ms.getD (i+2) "")=true:=q3;rw [e1,e2] at h;exact h _ (Zq rfl)
    ·have e2:leS sg (ms.getD (i+2) "")=false:=q3;rw [e1,e2] at h;exact h _ (Zq rfl)
   ·have e1:leS low sg=false:=q2;rw [e1] at h;exact h _ (Zq rfl)
  ·exact no fun q=>by rw [q.2] at q1;exact absurd q1 (by decide)
 ·exact no fun q=>by have:=of_decide_eq_false q0;lia
theorem ZcX (hl:lsA own a=some ((ms.map D.str).map .d)) (hsz:ms.length≤1000):wp c ZmO ⟨[(0,.d (.str sg)),(2,a),(4,.d (.bool neg))],own,[]⟩ (YF fun d=>d = .bool (YD sg ms ms.length 0 false != neg)):=by
 have hlen:((ms.map D.str).map A.d).length=ms.length:=by rw [List.length_map,List.length_map]
 conv=>whnf
 refine .mk (β:=Nat×Nat×Bool) (fun b=>[(6,.d (.int b.2.1)),(5,.d (.bool b.2.2)),(0,.d (.str sg)),(2,a),(4,.d (.bool neg))]) (fun _=>own) [] (fun b=>ms.length≤b.1+b.2.1∧YD sg ms b.1 b.2.1 b.2.2=YD sg ms ms.length 0 false) (fun b=>b.1) (ms.length,0,false) (ZH (Zq rfl) rfl rfl) ⟨Ko _ _,rfl⟩ ?_;rintro ⟨f,i,found⟩ ⟨h1,h2⟩;dsimp only at h1 h2
 conv=>whnf
 refine Ze (ZfS hl (by rw [hlen];lia)) ?_;rw [hlen]
 conv=>whnf
 refine Zl (fun hz=>?_) (fun hz=>?_)
 ·have hi:i<ms.length:=by simpa using hz
  obtain ⟨f,rfl⟩:∃f',f=f'+1:=⟨f - 1,by lia⟩;have h3:YD sg ms f (XI sg ms i found).1 (XI sg ms i found).2=YD sg ms ms.length 0 false:=by
   rw [YD,if_pos hi] at h2;unfold XI;split <;> rename_i q
   ·rw [if_pos q] at h2;exact h2
   ·rw [if_neg q] at h2;exact h2
  have h4:i+1≤(XI sg ms i found).1:=by unfold XI;split <;> simp <;> lia
  conv=>whnf
  refine Ze (Xp (Zat hl (Zf7 hsz _ i rfl hi))) ?_
  conv=>whnf
  refine Zl (fun q0=>?_) (fun q0=>?_)
  ·conv=>whnf
   refine Ze (Xp (Zat hl (Zf7 hsz _ i rfl hi))) ?_;exact (Zbr hl hsz (by unfold UQ;rw [if_pos q0]) hi fun L hL=>⟨(f,XI sg ms i found),⟨by show _≤f+_;lia,h3⟩,Nat.lt_succ_self _,ZH hL rfl rfl⟩)
  ·exact (Zbr hl hsz (by unfold UQ;rw [if_neg (by rw [q0];decide)]) hi fun L hL=>⟨(f,XI sg ms i found),⟨by show _≤f+_;lia,h3⟩,Nat.lt_succ_self _,ZH hL rfl rfl⟩)
 ·have hi:¬i<ms.length:=by simpa using hz
  conv=>whnf
  rw [←h2];induction f using Nat.casesOn <;> simp [YD,hi]
end
end
section
variable {G:Gx}{w:World}
theorem ZlD (I:IsK kk2 G w):∀e∈WA,∀ch,Zr G (.ref 87) 12 [.str ⟨#[ch]⟩,.str e.inner] (fun d=>d = .bool (Y3 e.sign ch)):=by
 have key:∀c:Cx,c.G=G→c.fuel=11→∀ch,∀e∈WA,Zr G (.ref 82) 6 [.str e.inner] (fun d=>d = .list (e.chunks.map .str))→wp c c87 ⟨[(0,.d (.str ⟨#[ch]⟩)),(1,.d (.str e.inner))],[],[]⟩ (YF fun d=>d = .bool (YD (sgn ch) e.ms e.ms.length 0 false != e.neg)):=by
  intro c hG hF ch;refine all_cons ?_ (all_cons ?_ (all_cons ?_ (all_cons ?_ (all_cons ?_ (all_cons ?_ (all_cons ?_ (all_cons ?_ (all_cons ?_ (all_cons ?_ (all_cons ?_ ZfQ)))))))))) <;> intro hch <;>
  ·refine ZhC I hG hF hch (by kd_p) (by decide) ?_
   repeat refine ZkF (by decide) ?_
   exact ZcX rfl (by decide)
 intro e he ch;rw [←Zny e he ch];exact Zrx I fun c hG hF=>key c hG hF ch e he (Zic I _ (ZqG e he))
end
section
variable {G:Gx}{w:World}
theorem Zkz (I:IsK kk2 G w):Zr G (.ref 335) 4 [] (fun d=>d = .list (signsL.map .str)):=Zo9 I fun c j j=>ZeX (by kd_p)
theorem Zf6 {c:Cx}{code:C}{st:St}{X:D}(h:wp c code st (YF fun d=>d=X)=(Nat→X=X)):wp c code st (YF fun d=>d=X):=by rw [h];exact fun j=>rfl
theorem Xl (I:IsK kk2 G w):Zr G (.ref 342) 4 [] (fun d=>d = .dict Ws):=ZpY I fun c j j=>Zf6 (by kd_p)
theorem ZkP (I:IsK kk2 G w):Zr G (.ref 349) 4 [] (fun d=>d = .dict Ze7):=Zp2 I fun c j j=>Zf6 (by kd_p)
theorem Ug {i:Int}(h0:0≤i) (h1:i<16):Zb4 ([]:List O) (.d (.int i)) (.d (.str Zbq))=some (.d (.str (ZiB i))):=by
 show (UN i Zbq.cps.toList).map _=_;rw [Ur h0 (Int.lt_trans h1 (by decide)) (by rw [Array.getElem?_toList];exact ZlO h0 h1)];rfl
theorem ZaH (I:IsK kk2 G w) (b:Array UInt8):Zr G (.ref 356) 6 [.bytes b,.str "sha256"] (fun d=>d = .str (ZbK b)):=Zpf I fun c hG hF=>by
 refine oza (Zcs b) fun r0 r1=>?_;have e:Zjo b=(b.toList.map fun n=>(n.toNat:Int)).map .int:=by rw [List.map_map];rfl
 refine Zde (b.toList.map fun n=>(n.toNat:Int)) (fun n=>.d (.int n)) (fun n:Int=>[(2,.d (.int n)),(0,.d (.bytes b)),(1,.d (.str "sha256"))]) (fun j=>[]) [] (fun xs n=>xs.foldl (fun n o=>(n*31+o).fmod 65536) n=YG b∧0≤n∧n<65536) 7 ?_ (ZH (Zq rfl) rfl rfl) ⟨rfl,by decide,by decide⟩ ?_ ?_
 ·rw [e,List.map_map];rfl
 ·rintro x xs n ⟨h1,h2,h3⟩;exact ⟨(n*31+x).fmod 65536,⟨h1,Int.fmod_nonneg_of_pos _ (by decide),Int.fmod_lt_of_pos _ (by decide)⟩,ZH (Zq rfl) rfl rfl⟩
 ·rintro n ⟨h1,h2,h3⟩;obtain rfl:n=YG b:=h1;have k1:∀i:Int,((i.fmod 16):Int)<16:=fun i=>Int.fmod_lt_of_pos _ (by decide);have k2:∀i:Int,0≤((i.fmod 16):Int):=fun i=>Int.fmod_nonneg_of_pos _ (by decide);have k3:(YG b).fdiv 4096=(YG b) / 4096:=Int.fdiv_eq_ediv_of_nonneg _ (by decide);refine Ze (Xp (Ug (by rw [k3];lia) (by rw [k3];lia))) ?_;refine Ze (Xp (Ug (k2 _) (k1 _))) ?_;refine Ze (Xp (Ug (k2 _) (k1 _))) ?_;refine Ze (Xp (Ug (k2 _) (k1 _))) ?_;exact rfl
theorem Zg8 (I:IsK kk2 G w) {pat:List (List Str)}(hp:PatOk pat):Zr G (.ref 366) 6 [UT pat] (fun d=>d = .str (YL pat)):=ZpT I fun c hG hF=>by
 have hl:=hp.len;have h0:∀p∈pat,(p.map fun x:Str=>x.length).sum≤8*p.length∧p.length≤4:=fun p hm=>⟨Zdm _ 8 p fun s hs=>Um s ((hp.part p hm).2 s hs),(hp.part p hm).1⟩;refine Xc pat (fun p=>.d (Wz p)) (fun p=>some (.str (wordP p))) rfl ?_ (by lia) (fun c' j j p hm l ys cl hcl=>?_) ?_
 ·exact (List.map_map).trans rfl
 ·refine Ze (Ze0 (by decide) ?_) ⟨_,cl,rfl,rfl,rfl,hcl⟩
  have:=h0 p hm;lia
 ·rw [show pat.filterMap (fun p=>some (D.str (wordP p)))=(pat.map wordP).map .str by rw [List.filterMap_eq_map'];exact (List.map_map).symm▸rfl];refine Ze (Ze0 (by decide) ?_) rfl;have h2:=Zdm (fun x:Str=>x.length) 40 (pat.map wordP) fun s hs=>by
   refine Zb (List.mem_map.mp hs) fun p hp' zo1=>?_;subst zo1;exact XR (hp.part p hp')
  rw [List.length_map] at h2 ⊢;lia
theorem Zqs (I:IsK kk2 G w) (s:Str) (ch:Nat):Zr G (.ref 387) 6 [.str s,.str ⟨#[ch]⟩] (fun d=>d = .bool (Y3 s ch)):=Zqp I fun c hG hF=>by
 have hd:Yb s Ws=(YR.lookup s).map fun e=>.tuple [.str e.1,.bool e.2]:=ZbR (fun e:Str×Bool=>.tuple [.str e.1,.bool e.2]) s YR;refine U8 I hG hF (Xl I) (by kd_p) (by decide) ?_;induction hl:YR.lookup s with
 | none =>
  rw [hl] at hd;refine Zl (fun h=>?_) (fun j=>?_)
  ·have h:(Yb s Ws).isSome=true:=h;rw [hd] at h;exact YU h
  ·refine Zl (fun h=>?_) (fun h=>?_)
   ·have h:(s=="?")=false:=by simpa using h
    show D.bool (s==⟨#[ch]⟩)=_;simp only [Y3,hl,h,Bool.false_or]
   ·have h:(s=="?")=true:=by simpa using h
    show D.bool (s=="?")=_;simp only [Y3,hl,h,Bool.true_or]
 | some e =>
  rw [hl] at hd;refine Zl (fun j=>?_) (fun h=>?_)
  ·refine U8 I hG hF (Xl I) (by kd_p) (by decide) ?_;refine Ze (ZcG hd) (Stop.mk (ZlT ?_));refine U8 I hG hF (Xl I) (by kd_p) (by decide) ?_;refine Ze (ZcG hd) ?_;show D.bool (_ != _)=_;simp only [Y3,hl]
  ·have h:(Yb s Ws).isSome=false:=h;rw [hd] at h;cases h
end
section
variable {G:Gx}{w:World}
theorem Zl9 (I:IsK kk2 G w):∀(p:List Str) (t:Str),p.length≤1000→t.length≤900000→Zr G (.ref 392) (8+p.length+1) [Wz p,.str t] (fun d=>d = .bool (ZL p (cp t))):=by
 intro p;induction p with
 | nil =>
  intro t j ht;refine Zm0 I fun c hG hF=>?_;show D.bool (t=="") = .bool (cp t).isEmpty;congr 1;induction q:cp t using LLc with
  | nil=>rw [show t="" from Za7 (q.trans (by kd_p))];rfl
  | cons ch r =>
   have:t≠"":=fun e=>by rw [e,show cp ""=[] by kd_p] at q;exact Zj2 q
   simpa using this
 | cons s p ih =>
  intro t hp ht;refine Zm0 I fun c hG hF=>?_;have hp':p.length+1≤1000:=hp;refine Zl (fun h=>?_) (fun h=>?_)
  ·have es:s="*":=eq_of_beq h;have h7:t.length<4611686018427387904:=Nat.lt_of_le_of_lt ht (by decide);refine Ze (XH h7) ?_;refine Ze (Zfu (by omega)) ?_;have en:(((t.length:Int)+1 - 0).toNat)=t.length+1:=rfl;rw [en];refine Xc (List.range (t.length+1)) (fun i=>.d (.int (0+i))) (fun i=>if ZL p ((cp t).drop i) then some (.int i) else none) rfl List.map_map (by rw [List.length_range];lia) (fun c' hG' hF' x hx l ys cl hcl=>?_) ?_
   ·rw [show ((0:Int)+(x:Int))=(x:Int) from Int.zero_add _];refine Ze (Zey (by rw [List.length_map];exact Kr hp (by decide))) ?_;refine Ze (ZeT (Kr ht (by decide))) ?_;rw [Za4];refine WB I (hG'.trans hG) (hF'.trans hF) (ih _ (Nat.le_of_succ_le hp') (Kr (Zcd t x) ht)) (by kd_p) (Kq _) ?_;rw [Zcc];refine Zl (fun h=>⟨_,cl,(if_pos h).symm,rfl,rfl,hcl⟩) (fun h=>⟨(if_neg (by rw [h];decide)).symm,rfl,cl,rfl,hcl⟩)
   ·show D.bool _=_
    have:=Uc (fun i=>ZL p ((cp t).drop i)) (fun i:Nat=>D.int i) (List.range (t.length+1));rw [XD,if_pos es,ZG,←this]
  ·have hs:s≠"*":=fun e=>by rw [e] at h;simp at h
   have e1:ZL (s::p) (cp t)=match cp t with | []=>false | ch::r=>Y3 s ch&&ZL p r:=by rw [XD,if_neg hs] <;> rfl
   rw [e1];refine Zl (fun ht0=>?_) (fun ht0=>?_)
   ·obtain ⟨ch,r,er⟩:∃ch r,cp t=ch::r:=by
     cases q:cp t with
     | nil =>
      have:t="":=Za7 (q.trans (by kd_p));rw [this] at ht0;simp at ht0
     | cons ch r=>exact ⟨ch,r,rfl⟩
    have e0:t.cps[(0:Int).toNat]?=some ch:=by
     rw [←Array.getElem?_toList];show (cp t)[0]?=_;rw [er];rfl
    rw [er];refine Ze (UE (Int.le_refl 0) (by decide) e0) ?_;refine WB I hG hF (Zqs I s ch) (by kd_p) (by show 6≤8+(p.length+1);lia) ?_;refine Zl (fun h1=>?_) (fun h1=>?_)
    ·refine Ze (Zey (by rw [List.length_map];exact Kr hp (by decide))) ?_;refine Ze (ZeT (Kr ht (by decide))) ?_;rw [Za4];refine WB I hG hF (ih _ (Nat.le_of_succ_le hp') (Kr (Zcd t 1) ht)) (by kd_p) (Kq _) ?_;have e2:cp (Wv t (some 1) none)=r:=by have:=Zcc t 1;rw [er] at this;exact this
     show D.bool (ZL p (cp (Wv t (some 1) none)))=D.bool (Y3 s ch&&ZL p r);rw [e2,show Y3 s ch=true by simpa using h1,Bool.true_and]
    ·show D.bool (Y3 s ch)=D.bool (Y3 s ch&&ZL p r);rw [show Y3 s ch=false by simpa using h1];rfl
   ·have:t="":=by simpa using ht0
    subst this;exact (by kd_p:D.bool _=_)
end
section
variable {G:Gx}{w:World}
theorem ZbC {α:Type}{l:List α}{k:Nat}(h:k<l.length) (d:α):l.getD k d∈l:=by
 rw [List.getD,Ke h];exact List.getElem_mem h
theorem ZmH {α:Type}{l:List (Nat×A)}{o:List O}{r:List A}{xs:List α}{f:α→D}{n:Nat}(d:α) (h:n<xs.length) (h1:n<9223372036854775808):Yt .sub ⟨l,o,.d (.int n)::.d (.list (xs.map f))::r⟩=some ⟨l,o,.d (f (xs.getD n d))::r⟩ :=
 ZaX (Int.natCast_nonneg _) (Int.ofNat_lt.mpr h1) (Zgi h d f)
theorem Zeh {b:Bool}(h:(b==true)=true):b=true:=by simpa using h
theorem Zc2 {b:Bool}(h:(b==true)=false):b=false:=by simpa using h
theorem Znd (I:IsK kk2 G w) {pat:List (List Str)}(hp:PatOk pat) {path:Str}(ht:path.length≤800000):Zr G (.ref 397) 20 [UT pat,.str path] (fun d=>d = .bool (Us pat path)):=Zqi I (need:=19) fun c hG hF=>by
 have hp1:=hp.len;have hn:(Zp path).length≤path.length+2:=Up path "/";have e1:((((Zp path).map D.str).length:Int)==((pat.map Wz).length:Int))=((Zp path).length==pat.length):=by
  rw [List.length_map,List.length_map,Bool.eq_iff_iff,beq_iff_eq,beq_iff_eq];exact Int.ofNat_inj
 refine Ze (ZcH (by decide) (Kr ht (by decide))) ?_;refine Ze (Wf (by rw [List.length_map];show (Zp path).length<_;lia)) ?_;refine Ze (Wf (by rw [List.length_map];lia)) ?_;refine Zl (fun h=>?_) (fun h=>?_)
 ·have hl:(Zp path).length=pat.length:=by
   have h:((((Zp path).map D.str).length:Int)==((pat.map Wz).length:Int))=true:=Zeh h;rw [e1] at h;exact eq_of_beq h
  refine Ze (Wf (by rw [List.length_map];show (Zp path).length<_;lia)) ?_;refine Ze (Zfu (by show ((Zp path).map D.str).length<_;rw [List.length_map];lia)) ?_;refine Xc (List.range (Zp path).length) (fun i=>.d (.int (0+i))) (fun k=>if ZL (pat.getD k []) (cp ((Zp path).getD k "")) then none else some (D.int k)) rfl ?_ (by rw [List.length_range];lia) (fun c' hG' hF' x hx l ys cl hcl=>?_) ?_
  ·rw [List.length_map,List.map_map];rfl
  ·have hx:=List.mem_range.mp hx;rw [show ((0:Int)+(x:Int))=(x:Int) from Int.zero_add _];refine Ze (ZmH [] (hl▸hx) (by lia)) ?_;refine Ze (ZmH (xs:=Zp path) "" hx (by lia)) ?_;have h8:=(hp.part _ (ZbC (hl▸hx) [])).1;refine WB I (hG'.trans hG) (hF'.trans hF) (Zl9 I (pat.getD x []) ((Zp path).getD x "") (Kr h8 (by decide)) (Kr (Uy (ZbC hx "")) (Kr ht (by decide)))) (by kd_p) (by show _+_≤19;lia) ?_;refine Zl (fun h=>?_) (fun h=>?_)
   ·exact ⟨_,cl,(if_neg (by simpa using h)).symm,rfl,rfl,hcl⟩
   ·exact ⟨(if_pos (by simpa using h)).symm,rfl,cl,rfl,hcl⟩
  ·show D.bool _=D.bool (_&&_);rw [hl,beq_self_eq_true,Bool.true_and]
 ·have h:((((Zp path).map D.str).length:Int)==((pat.map Wz).length:Int))=false:=Zc2 h;show D.bool ((((Zp path).map D.str).length:Int)==((pat.map Wz).length:Int))=D.bool (_&&_);rw [h,←e1,h];rfl
end
section
variable {G:Gx}{w:World}
noncomputable abbrev S94 (nm pat:Str) (pl k:A) (cl bh:Int) (a:Nat):List (Nat×A):=[(6,.d (.int cl)),(5,.d (.int bh)),(4,k),(1,.d (.str pat)),(0,.d (.str nm)),(2,pl),(3,.d (.int a))]
theorem ZaY {x:Str}{i ch:Nat}(h:(cp x)[i]?=some ch):x.cps[((i:Nat):Int).toNat]?=some ch:=by rw [←Array.getElem?_toList];exact h
section
variable {c:Cx}{nm pat:Str}{pl k:A}{bh:Int}{a:Nat}{P:Fw→St→Prop}
theorem ZjY {i z:Nat}(hn:pat.length≤900000) (hiz:i≤z) (hz:(cp pat)[z]?=some 93) (hno:∀j,i≤j→j<z→∃ch,(cp pat)[j]?=some ch∧ch≠93) (h:P .next ⟨(5,.d (.int (z+1)))::S94 nm pat pl k z bh a,[],[]⟩):wp c Zj6 ⟨S94 nm pat pl k i bh a,[],[]⟩ P:=by
 have hl:z<pat.length:=by rw [←ZG];exact (ZI hz).1
 refine .mk (β:=Nat) (fun b=>S94 nm pat pl k b bh a) (fun u=>[]) [] (fun b=>i≤b∧b≤z) (fun b=>z - b) i (ZH (Zq rfl) rfl rfl) ⟨Kq _,hiz⟩ ?_;rintro b ⟨h1,h2⟩;have hb:b<pat.length:=Nat.lt_of_le_of_lt h2 hl;have hb2:b<9223372036854775808:=by lia
 refine Ze (XH (by lia)) ?_;refine Zl (fun u=>?_) (fun q=>absurd (of_decide_eq_false q) (by lia));refine Or.elim (Nat.lt_or_ge b z) (fun q=>?_) fun q=>?_
 ·refine Zb (hno b h1 q) fun ch e1 e2=>?_;refine Ze (UE (Int.natCast_nonneg _) (Int.ofNat_lt.mpr hb2) (ZaY e1)) ?_;refine Zl (fun u=>?_) (fun q=>?_)
  ·exact ⟨b+1,⟨Nat.le_succ_of_le h1,q⟩,Nat.sub_lt_sub_left q (Nat.lt_succ_self _),ZH (Zq rfl) rfl rfl⟩
  ·have q:(sgn ch != sgn 93)=false:=q;rw [bne,Yx] at q;simp [e2] at q
 ·obtain rfl:b=z:=Nat.le_antisymm h2 q;refine Ze (UE (Int.natCast_nonneg _) (Int.ofNat_lt.mpr hb2) (ZaY hz)) ?_;refine Ze (XH (by lia)) ?_;exact Zl (fun u=>h) (fun q=>absurd (of_decide_eq_false q) (by lia))
noncomputable def shJ (xs:List Nat):Nat:=if xs[1]?=some 33 then 2 else 1
noncomputable def shI (xs:List Nat):Nat:=if xs[shJ xs]?=some 93 then shJ xs+1 else shJ xs
noncomputable def shp (xs:List Nat) (n:Nat):Bool:=xs.headD 0==91&&decide (shI xs≤n)&&xs[n]?==some 93&&(List.range n).all fun j=>decide (j<shI xs)||match xs[j]? with | some ch=>ch != 93 | none=>false
theorem Znr:∀e∈WA,shp (cp e.sign) (e.sign.length - 1)=true:=by decide +kernel
theorem ZgK {x:List Nat}{j z:Nat}(hn:pat.length≤900000) (hj:j≤z) (hx:∀i,i≤z→(cp pat)[a+i]?=x[i]?) (hz:x[z]?=some 93) (hno:∀i,(if x[j]?=some 93 then j+1 else j)≤i→i<z→∃ch,x[i]?=some ch∧ch≠93) (hi:(if x[j]?=some 93 then j+1 else j)≤z)
 (h:P .next ⟨(5,.d (.int ((a+z:Nat)+1)))::S94 nm pat pl k (a+z:Nat) bh a,[],[]⟩):wp c Zio ⟨S94 nm pat pl k (a+j:Nat) bh a,[],[]⟩ P:=by
 have hl:a+z<pat.length:=by rw [←ZG];exact (ZI ((hx z (Kq _)).trans hz)).1
 have fin:∀i:Nat,(if x[j]?=some 93 then j+1 else j)=i→wp c Zj6 ⟨S94 nm pat pl k (a+i:Nat) bh a,[],[]⟩ P:=fun i e=>by
  rw [e] at hno hi;refine ZjY hn (Nat.add_le_add_left hi _) ((hx z (Kq _)).trans hz) (fun y h1 h2=>?_) h;refine Zb (hno (y - a) (Nat.le_sub_of_add_le (Nat.add_comm i a▸h1)) (by lia)) fun ch e1 e2=>?_;exact ⟨ch,by rw [←e1,←hx _ (by lia),Nat.add_sub_cancel' (by exact Kr (Ko _ _) (by assumption))],e2⟩
 obtain ⟨ch,e1⟩:∃ch,x[j]?=some ch:=⟨(cp pat)[a+j]'(by rw [ZG];lia),by rw [←hx j hj];exact Ke _⟩;refine Ze (XH (by lia)) ?_;refine Zl (fun u=>?_) (fun q=>absurd (of_decide_eq_false q) (by lia));refine Ze (UE (Int.natCast_nonneg _) (by lia) (ZaY ((hx j hj).trans e1))) ?_;rw [e1] at fin;refine Zl (fun q=>?_) (fun q=>?_)
 ·have q:(sgn ch==sgn 93)=true:=q;rw [Yx] at q;exact fin (j+1) (if_pos (by rw [eq_of_beq q]))
 ·have q:(sgn ch==sgn 93)=false:=q;rw [Yx] at q;exact fin j (if_neg fun e=>by rw [Kc e] at q;exact Ze2 q)
theorem Zhc {e:Cl}(he:e∈WA) (ha:SignAt pat a e.sign) (hn:pat.length≤900000) (h:wp c Zb9 ⟨S94 nm pat pl (.d (.str (sgn 91))) ((a:Int)+e.sign.length - 1) ((a:Int)+e.sign.length) a,[],[]⟩ P):wp c Zfy ⟨[(3,.d (.int a)),(2,pl),(0,.d (.str nm)),(1,.d (.str pat))],[],[]⟩ P:=by
 have hs:=Znr e he;have hl:=(Zgg e he).2.1;have hle:=ha.le;have hx:∀i,i≤e.sign.length - 1→(cp pat)[a+i]?=(cp e.sign)[i]?:=fun i hi=>by
  have hi':i<(cp e.sign).length:=by rw [ZG];omega
  rw [Ke hi'];exact ha.at_ i _ (Ke hi')
 have e1:(a:Int)+e.sign.length - 1=(a+(e.sign.length - 1):Nat):=by lia
 have e2:(a:Int)+e.sign.length=(a+(e.sign.length - 1):Nat)+1:=by lia
 rw [e1,e2] at h;have hz:a+(e.sign.length - 1)<pat.length:=by lia
 clear e1 e2 ha he hle;generalize e.sign.length - 1=z at *;generalize cp e.sign=x at *;unfold shp at hs;simp only [Bool.and_eq_true,decide_eq_true_eq,beq_iff_eq,List.all_eq_true,List.mem_range,Bool.or_eq_true] at hs;refine Ka fun zn3=>?_;obtain ⟨⟨⟨s1,s2⟩,s3⟩,s4⟩:=hs;have hj:shJ x≤shI x:=by unfold shI;split <;> lia
 have h1:1≤shJ x:=by unfold shJ;split <;> decide
 have hno:∀i,shI x≤i→i<z→∃ch,x[i]?=some ch∧ch≠93:=fun i q1 q2=>by
  have:=(s4 i q2).resolve_left (Nat.not_lt.mpr q1);cases q:x[i]? with
  | none=>rw [q] at this;cases this
  | some ch=>rw [q] at this;exact ⟨ch,rfl,bne_iff_ne.mp this⟩
 have fin:∀j:Nat,shJ x=j→wp c Zio ⟨S94 nm pat pl (.d (.str (sgn 91))) (a+j:Nat) (a+1:Nat) a,[],[]⟩ (nxt (fun st=>wp c (.mark [6,5,4,1,0,2,3] Zb9) st P) P):=fun j e=>by
  subst e;exact ZgK hn (Kr hj s2) hx s3 hno s2 h
 have x0:(cp pat)[a]?=some 91:=by
  rw [←Nat.add_zero a,hx 0 (Nat.zero_le _)];induction x using LLc with
  | nil=>cases s1
  | cons y r=>exact congrArg some s1
 obtain ⟨ch,x1⟩:∃ch,x[1]?=some ch:=⟨(cp pat)[a+1]'(by rw [ZG];lia),by rw [←hx 1 (by lia)];exact Ke _⟩;refine zn3 ?_;have p1:=(hx 1 (by lia)).trans x1;refine Ze (UE (Int.natCast_nonneg _) (by lia) (ZaY x0)) ?_;refine Ze (XH (by lia)) ?_;refine Zl (fun u=>?_) (fun q=>absurd (of_decide_eq_false q) (by lia));refine Ze (UE (Int.natCast_nonneg _) (by lia) (ZaY p1)) ?_;have e3:shJ x=if ch=33 then 2 else 1:=by unfold shJ;rw [x1];simp
 refine Zl (fun q=>?_) (fun q=>?_)
 ·have q:(sgn ch==sgn 33)=true:=q;rw [Yx] at q;exact fin 2 (by rw [e3,if_pos (eq_of_beq q)])
 ·have q:(sgn ch==sgn 33)=false:=q;rw [Yx] at q;exact fin 1 (by rw [e3,if_neg (by simpa using q)])
end
end
section
variable {G:Gx}{w:World}
theorem ZjD {m n:Nat}{own:List O}{x:D}:XU m n own (.d x)=some x:=by induction n using Nat.casesOn <;> rfl
theorem Zbz {m n:Nat}{own:List O}(xs:List D):Zw (XU m n own) (xs.map .d)=some xs:=by
 induction xs with
 | nil=>rfl
 | cons x xs ih =>
  show (XU m n own (.d x)).bind (fun y=>(Zw (XU m n own) (xs.map .d)).map (y::·))=_;rw [ZjD,ih];rfl
section
variable {c:Cx}{nm pat:Str}{k:A}{bh cl:Int}{a:Nat}{S:List Nat}{P:Fw→St→Prop}
theorem Ze3 {pl:A}{k:Nat}(hk:k≠91) (ha:SignAt pat a (sgn k)) (hn:pat.length≤900000) (h:wp c Zb9 ⟨S94 nm pat pl (.d (.str (sgn k))) (-1) ((a:Int)+1) a,[],[]⟩ P):wp c Zfy ⟨[(3,.d (.int a)),(2,pl),(0,.d (.str nm)),(1,.d (.str pat))],[],[]⟩ P:=by
 have hle:=ha.le;refine Ze (UE (Int.natCast_nonneg _) (by lia) (ZaY (ha.at_ 0 k rfl))) ?_;refine Zl (fun q=>?_) (fun j=>h);have q:(sgn k==sgn 91)=true:=q;rw [Yx] at q;exact absurd (eq_of_beq q) hk
noncomputable abbrev Zgl (nm pat:Str) (S:List Nat) (b:Int) (P:Fw→St→Prop):Prop:=∀st,Wl [3,2,0,1] 0 st=some ⟨[(3,.d (.int b)),(2,.d (.list (Yc S))),(0,.d (.str nm)),(1,.d (.str pat))],[],[]⟩→P .next st
theorem ZnT (hS:PlOk nm.length S) (hn:nm.length≤900000) (h:Zgl nm pat (Ym (cp nm) "*" S) bh P):wp c Zb9 ⟨S94 nm pat (.d (.list (Yc S))) (.d (.str "*")) cl bh a,[],[]⟩ P:=by
 have hlen:=hS.len;induction S using LLc with
 | nil=>exact h _ rfl
 | cons i r =>
  have hi:=hS.le i (.head _);have e:Yc (Ym (cp nm) "*" (i::r))=(List.range ((nm.length:Int)+1 - i).toNat).map fun (j:Nat)=>.int ((i:Int)+j):=by
   unfold Ym;rw [if_pos rfl,ZG,show ((nm.length:Int)+1 - i).toNat=nm.length+1 - i by lia];exact List.map_map.trans (List.map_congr_left fun j u=>rfl)
  unfold Zgl at h;rw [e] at h;refine Ze (ZB (by rw [List.length_map];lia)) ?_;refine Ze (XH (by lia)) ?_;refine Ze ((ZB ⟨by lia,by lia⟩).trans (ZB (by lia))) ?_;exact h _ rfl
noncomputable abbrev LQ (nm pat:Str) (S:List Nat) (k:A) (cl bh:Int) (a:Nat):List (Nat×A):=(7,.own 0)::S94 nm pat (.d (.list (Yc S))) k cl bh a
theorem ZhT {s:Str}{acc:List Nat}{x ch:Nat}(h:(cp nm)[x]?=some ch):Uu (cp nm) s acc x=if Y3 s ch then acc++[x+1] else acc:=by unfold Uu;rw [h]
theorem ZpA {acc:List Nat}{x:Nat}{hit:Bool}(hl:acc.length≤1000000) (h:P .next ⟨[(9,.d (.bool hit)),(8,.d (.int x))]++LQ nm pat S k cl bh a,[.list ((Yc (if hit then acc++[x+1] else acc)).map .d)],[]⟩):wp c ZhA ⟨[(9,.d (.bool hit)),(8,.d (.int x))]++LQ nm pat S k cl bh a,[.list ((Yc acc).map .d)],[]⟩ P:=by
 induction hit with
 | false=>exact h
 | true =>
  refine Ze (ZB (by rw [List.length_map,List.length_map];exact hl)) ?_;rw [if_pos rfl] at h;unfold Yc at h;rw [List.map_append,List.map_append] at h;exact h
theorem ZfM (I:IsK kk2 G w) (hG:c.G=G) (hF:c.fuel=15) (hS:PlOk nm.length S) (hn:nm.length≤900000) {s:Str}(hs:s≠"*") {k0:Nat}(hk0:k0≠42) (ha:a≤900000) (hpt:pat.length≤900000) (hfit:FitM s pat k0 cl a) (h:Zgl nm pat (Ym (cp nm) s S) bh P):wp c Zb9 ⟨S94 nm pat (.d (.list (Yc S))) (.d (.str (sgn k0))) cl bh a,[],[]⟩ P:=by
 refine Zl (fun q=>?_) (fun j=>?_)
 ·have q:(sgn k0==sgn 42)=true:=q;rw [Yx] at q;exact absurd (eq_of_beq q) hk0
 refine Zde S (fun i=>.d (.int i)) (fun j=>LQ nm pat S (.d (.str (sgn k0))) cl bh a) (fun acc:List Nat=>[.list ((Yc acc).map .d)]) [] (fun r acc=>r.foldl (Uu (cp nm) s) acc=S.foldl (Uu (cp nm) s) []∧acc.length+r.length≤nm.length+1∧∀y∈r,y≤nm.length) [] List.map_map (ZH (Zq rfl) rfl rfl) ⟨rfl,by simpa using hS.len,hS.le⟩ ?_ ?_
 ·rintro x r acc ⟨h1,h2,h3⟩;have hx:=h3 x (.head _);have h3:=fun y hy=>h3 y (.tail _ hy);rw [List.length_cons] at h2;refine Ze (XH (by lia)) ?_;refine Zl (fun q=>?_) (fun q=>?_)
  ·refine ⟨acc,⟨?_,by lia,h3⟩,ZH (Zq rfl) rfl rfl⟩;rw [←h1,List.foldl_cons];unfold Uu;rw [List.getElem?_eq_none (by rw [ZG];exact Nat.le_of_eq (Int.ofNat_inj.mp (eq_of_beq q)).symm)]
  ·have hx2:x<nm.length:=Nat.lt_of_le_of_ne hx fun e=>by rw [e] at q;simp at q
   have hc:=Ke (l:=cp nm) (by rw [ZG];exact hx2);generalize (cp nm)[x]'_=ch at hc;have p1:∀{l o r},Yt .sub ⟨l,o,.d (.int x)::.d (.str nm)::r⟩=some ⟨l,o,.d (.str ⟨#[ch]⟩)::r⟩:=UE (Int.natCast_nonneg _) (by lia) (ZaY hc);have fin:∀hit,Y3 s ch=hit→wp c ZhA ⟨[(9,.d (.bool hit)),(8,.d (.int x))]++LQ nm pat S (.d (.str (sgn k0))) cl bh a,[.list ((Yc acc).map .d)],[]⟩ (lpW (fun st2=>∃b',(r.foldl (Uu (cp nm) s) b'=S.foldl (Uu (cp nm) s) []∧b'.length+r.length≤nm.length+1∧∀y∈r,y≤nm.length)∧At (LQ nm pat S (.d (.str (sgn k0))) cl bh a) [.list ((Yc b').map .d)] [] st2) (nxt (fun st=>wp c (.o (.loc 7) <| .o (.st (.l 2)) <| .o (.loc 5) <| .o (.st (.l 3)) .nil) st P) P)):=fun hit e=>by
    refine ZpA (by lia) ⟨_,⟨?_,?_,h3⟩,ZH (Zq rfl) rfl rfl⟩
    ·rw [←h1,List.foldl_cons,ZhT hc,e]
    ·induction hit using Bool.casesOn <;> simp <;> lia
   have hm:(sgn k0=="?")=(k0==63):=Yx k0 63;induction hfit with
   | any h0 q =>
    refine Zl (fun j=>fin true (q ch)) (fun q=>?_);exact absurd (hm.symm.trans q) (by rw [h0];decide)
   | cls e he h0 hs' hc' hi =>
    refine Zl (fun q=>?_) (fun j=>?_)
    ·exact absurd (hm.symm.trans q) (by rw [h0];decide)
    refine Zl (fun j=>?_) (fun q=>absurd hc' (of_decide_eq_false q));refine Ze p1 ?_;refine Ze (ZeT (Kr hpt (by decide))) ?_;rw [hi];refine WB I hG hF (ZlD I e he ch) (by kd_p) (by decide) ?_;exact fin _ (hs'▸rfl)
   | one h1 hc' q =>
    refine Zl (fun q=>?_) (fun j=>?_)
    ·exact absurd (hm.symm.trans q) (by simp [h1])
    subst hc';refine Ze p1 ?_;exact fin _ ((q ch).trans (Yx ch k0).symm)
 ·rintro acc ⟨h1,h2,_⟩;have e:Yc acc=Yc (Ym (cp nm) s S):=by rw [show acc=Ym (cp nm) s S from h1.trans ((ZgN (cp nm) hs S []).trans (List.nil_append _))]
  refine h _ ?_;have e2:=Zbz (m:=0) (n:=8) (own:=[.list ((Yc acc).map .d)]) (Yc acc);rw [e] at e2 ⊢;have e3:XU 0 9 [.list ((Yc (Ym (cp nm) s S)).map .d)] (.own 0)=some (.list (Yc (Ym (cp nm) s S))):=congrArg (Option.map D.list) e2;have e4:Wu 0 [.list ((Yc (Ym (cp nm) s S)).map .d)] (.own 0)=some (.d (.list (Yc (Ym (cp nm) s S)))):=congrArg (Option.map A.d) e3;generalize O.list ((Yc (Ym (cp nm) s S)).map .d)=oo at e4;show (((some (A.d (.int bh))).map fun a=>(3,a)).bind fun y=>((((Wu 0 [oo] (.own 0)).map fun a=>(2,a)).bind fun y=>_).map _)).bind _=_;rw [e4];rfl
end
end
section
variable {G:Gx}{w:World}
theorem Zm8 {c:Cx}{nm pat:Str}{a:Nat}{S:List Nat}{P:Fw→St→Prop}(I:IsK kk2 G w) (hG:c.G=G) (hF:c.fuel=15) (hS:PlOk nm.length S) (hn:nm.length≤900000) (hpt:pat.length≤900000) {s:Str}(hs:s∈signsL) (ha:SignAt pat a s) (h:Zgl nm pat (Ym (cp nm) s S) ((a:Int)+s.length) P) :
 wp c Zfy ⟨[(3,.d (.int a)),(2,.d (.list (Yc S))),(0,.d (.str nm)),(1,.d (.str pat))],[],[]⟩ P:=by
 have hle:=ha.le;have hk:=Zpp s hs;unfold Zh4 at hk;rw [Bool.or_eq_true,List.any_eq_true] at hk;rcases hk with ⟨e,he,hes⟩ | hk
 ·obtain rfl:=eq_of_beq hes;refine U7 (Zgg e he) fun h1 h2 h3 h4=>?_;refine Zhc he ha hpt ?_;refine ZfM I hG hF hS hn (fun z=>by rw [z] at h1;revert h1;decide +kernel) (by decide) (by lia) hpt (.cls e he rfl rfl (by lia) ?_) h;refine Za7 ?_;show cut (cp pat) _ _=_;have e1:((a:Int)+1)=((a+1:Nat):Int):=by rfl
  have e2:((a:Int)+e.sign.length - 1)=((a+e.sign.length - 1:Nat):Int):=by lia
  rw [e1,e2,Zmm,h4,←ha.sub];rw [List.drop_take,List.drop_drop,List.take_take];congr 1;lia
 ·simp only [Bool.and_eq_true,beq_iff_eq,Option.isNone_iff_eq_none,bne_iff_ne] at hk;refine Ka fun zn1=>?_;obtain ⟨⟨h1,h2⟩,h3⟩:=hk;obtain ⟨k,hk⟩:∃k,cp s=[k]:=List.length_eq_one_iff.mp ((ZG s).trans h1);obtain rfl:s=sgn k:=Za7 (hk.trans rfl);refine zn1 ?_;refine Ze3 (fun z=>h3 (by rw [hk,z])) ha hpt ?_;rw [show ((a:Int)+(sgn k).length)=(a:Int)+1 by rw [h1];rfl] at h;by_cases k42:k=42
  ·subst k42;exact ZnT hS hn h
  ·have k42':sgn k≠"*":=fun z=>k42 (by have:=congrArg cp z;rw [hk] at this;exact List.head_eq_of_cons_eq this);refine ZfM I hG hF hS hn k42' k42 (by lia) hpt ?_ h;have hone:∀ch,Y3 (sgn k) ch=((sgn k==sgn 63)||(sgn k==sgn ch)):=fun ch=>by unfold Y3;rw [h2];rfl
   by_cases k63:k=63
   ·exact .any k63 fun ch=>by rw [hone,k63,beq_self_eq_true];rfl
   ·refine .one k63 rfl fun ch=>?_;rw [hone,Yx,Yx,beq_false_of_ne k63,Bool.false_or,Bool.beq_comm]
theorem Zgs:∀S:List Nat,Ua (Yc S)=some (S.map fun i:Nat=>(i:Int))
 | []=>rfl
 | i::S=>by show (Ua (Yc S)).map _=_;rw [Zgs S];rfl
theorem ZqX {l:List (Nat×A)}{o:List O}{k:List A}{S:List Nat}{n:Nat}:Yt (.cmp .In) ⟨l,o,.d (.list (Yc S))::.d (.int n)::k⟩=some ⟨l,o,.d (.bool (S.any fun i=>decide (i=n)))::k⟩:=by
 refine Zie ?_;show (Ua (Yc S)).map _=_;rw [Zgs];refine congrArg some ((List.any_map).trans (congrArg S.any (funext fun i=>?_)));rw [Bool.eq_iff_iff];simp;exact Int.ofNat_inj
theorem ZnI (I:IsK kk2 G w) {p:List Str}(hp:p.length≤4∧∀s∈p,s∈signsL) {nm:Str}(hn:nm.length≤900000):Zr G (.ref 94) 16 [.str nm,.str (wordP p)] (fun d=>d = .bool (ZL p (cp nm))):=ZrM I (need:=15) fun c hG hF=>by
 have hw:=XR hp
 refine .mk (β:=List Str×List Str×List Nat) (fun b=>[(3,.d (.int ((b.1.map cp).flatten.length:Nat))),(2,.d (.list (Yc b.2.2))),(0,.d (.str nm)),(1,.d (.str (wordP p)))]) (fun j=>[]) []
  (fun b=>p=b.1++b.2.1∧PlOk nm.length b.2.2∧b.2.1.foldl (fun S s=>Ym (cp nm) s S) b.2.2=p.foldl (fun S s=>Ym (cp nm) s S) [0]) (fun b=>b.2.1.length) ([],p,[0]) (ZH (Zq rfl) rfl rfl) ⟨rfl,⟨fun i hi=>by simp at hi;lia,by simp⟩,rfl⟩ ?_
 rintro ⟨pre,rest,S⟩ ⟨h1,h2,h3⟩;dsimp only at h1 h2 h3;have hl:(wordP p).length=(pre.map cp).flatten.length+(rest.map cp).flatten.length:=by
  rw [←ZG,Zcx,h1,List.map_append,List.flatten_append,List.length_append]
 refine Ze (XH (by lia)) ?_;induction rest using LLc with
 | nil =>
  refine Zl (fun q=>absurd (Kw q) (by rw [hl];exact Int.lt_irrefl _)) (fun j=>?_);refine Ze (XH (by lia)) ?_;refine Ze ZqX ?_;show D.bool _=D.bool _;rw [←ZeH (cp nm) p,←h3,ZG];rfl
 | cons s r =>
  have hs:s∈signsL:=hp.2 s (by rw [h1];simp);have ha:SignAt (wordP p) (pre.map cp).flatten.length s:=ZgV (post:=(r.map cp).flatten) (by rw [Zcx,h1];simp);have hlen:1≤s.length:=(by decide +kernel:∀s∈signsL,1≤s.length) s hs;have hle:=ha.le;refine Zl (fun j=>?_) (fun q=>absurd (of_decide_eq_false q) (by lia));refine Zm8 I hG hF h2 hn (by lia) hs ha fun st e=>?_;refine Ze e ⟨(pre++[s],r,Ym (cp nm) s S),⟨by rw [h1,List.append_assoc];rfl,ZG nm▸Zem ((ZG nm).symm▸h2),h3⟩,Nat.lt_succ_self _,?_⟩;have e:(((pre++[s]).map cp).flatten.length:Nat)=(pre.map cp).flatten.length+s.length:=by rw [List.map_append,List.flatten_append,List.length_append];simp [ZG]
  rw [e];exact ZH (Zq rfl) rfl rfl
end
section
variable {G:Gx}{w:World}
theorem Zl0 (I:IsK kk2 G w) {pat:List (List Str)}(hp:PatOk pat) (hne:pat≠[]) {path:Str}(ht:path.length≤800000):Zr G (.ref 188) 20 [.str path,.str (YL pat)] (fun d=>d = .bool (Us pat path)):=ZpI I (need:=19) fun c hG hF=>by
 have hw:=ZgW hp;have hn:(Zp path).length≤path.length+2:=Up path "/";have hp1:=hp.len;have hfe:=ZkW pat path;refine Ze (ZcH (by decide) (Kr ht (by decide))) ?_;refine Ze (ZcH (by decide) (by lia)) ?_;rw [show Txt.split (YL pat) "/"=pat.map wordP from Zfd hp hne];refine Ze (Wf (by rw [List.length_map];show (Zp path).length<_;lia)) ?_;refine Ze (Wf (by rw [List.length_map,List.length_map];lia)) ?_;have e1:((((Zp path).map D.str).length:Int) != (((pat.map wordP).map D.str).length:Int)) = !((Zp path).length==pat.length):=by
  rw [List.length_map,List.length_map,List.length_map,bne];refine congrArg (!·) ?_;rw [Bool.eq_iff_iff,beq_iff_eq,beq_iff_eq];exact Int.ofNat_inj
 refine Zl (fun q=>?_) (fun q=>?_)
 ·have q:(!((Zp path).length==pat.length))=true:=e1.symm.trans q;show D.bool false=_;rw [hfe,show ((Zp path).length==pat.length)=false by simpa using q];rfl
 ·have q:(!((Zp path).length==pat.length))=false:=e1.symm.trans q;rw [show ((Zp path).length==pat.length)=true by simpa using q,Bool.true_and] at hfe;refine .mk (β:=Unit) ((Zp path).zip pat) (fun q=>.d (.tuple [.str q.1,.str (wordP q.2)])) (fun j=>[(0,.d (.str path)),(1,.d (.str (YL pat)))]) (fun j=>[]) [] (fun xs j=>Us pat path=xs.all (fun q=>ZL q.2 (cp q.1))∧∀q∈xs,q∈(Zp path).zip pat) () ?_ (ZH (Zq rfl) rfl rfl) ⟨hfe,fun j h=>h⟩ (fun j j=>trivial) ?_ ?_
  ·rw [List.zip_map,List.map_map,List.map_map];rw [List.zip_map_right,List.map_map];rfl
  ·rintro ⟨t,p⟩ xs j ⟨h1,h2⟩;refine oza (List.of_mem_zip (h2 _ (.head _))) fun m1 m2=>?_;have h7:=Uy m1;refine WB I hG hF (ZnI I (hp.part p m2) (Kr h7 (Kr ht (by decide)))) (by kd_p) (by decide) ?_;rw [List.all_cons] at h1;induction hm:ZL p (cp t) with
   | true =>
    rw [hm] at h1;exact ⟨(),⟨h1,fun q hq=>h2 q (.tail _ hq)⟩,ZH (Zq rfl) rfl rfl⟩
   | false =>
    rw [hm] at h1;exact congrArg D.bool h1.symm
  ·rintro j ⟨h1,_⟩;exact congrArg D.bool h1.symm
end
section
variable {G:Gx}{w:World}
def Pu (c:Cx) (t:C) (st:St):Prop:=∀P:Fw→St→Prop,(∀z,P (.b z) st)→wp c t st P
section
variable {c:Cx}{s t:C}{st:St}
theorem Zhy (h1:Pu c s st) (h2:Pu c t st):Pu c (.andT s t) st:=fun P h=>h1 _ fun z=>Zl (fun j=>h2 _ h) (fun j=>h _)
theorem Zht (h1:Pu c s st) (h2:Pu c t st):Pu c (.orT s t) st:=fun P h=>h1 _ fun z=>Zl (fun j=>h _) (fun j=>h2 _ h)
theorem ZiU {a b k:C}{P:Fw→St→Prop}(h:Pu c t st) (h1:wp c a st (nxt (fun st2=>wp c k st2 P) P)) (h2:wp c b st (nxt (fun st2=>wp c k st2 P) P)):wp c (.sel t a b k) st P:=h _ fun z=>Zl (fun j=>h1) (fun j=>h2)
end
theorem ZeA {α β:Type}{f:α→Option β}{xs:List α}{ys:List α}{as bs:List β}(h1:Zw f xs=some as) (h2:Zw f ys=some bs):Zw f (xs++ys)=some (as++bs):=by
 induction xs generalizing as with
 | nil=>exact Kc h1▸h2
 | cons x xs ih =>
  refine Zb (Zc0 h1) fun a e1 h1=>?_;refine Zb (Z9 h1) fun r e2 e3=>?_;show (f x).bind (fun y=>(Zw f (xs++ys)).map (y::·))=_;rw [e1,ih e2,←e3];rfl
theorem Ziz {m:Nat}{own:List O}:∀xs:List D,Zw (Wu m own) (xs.map .d)=some (xs.map .d)
 | []=>rfl
 | x::xs=>by
  show (Zw (Wu m own) (xs.map .d)).map (A.d x::·)=_;rw [Ziz xs];rfl
theorem Zkp {xs ys:List D}{q:D}{l:List (Nat×A)}{is:List Nat}(h:Za5 is l=some [(2,.d q),(1,.own 0)]):Wl is 1 ⟨l,[.list (xs.map .d++[.own 1]),.list (ys.map .d)],[]⟩=some ⟨[(2,.d q),(1,.own 0)],[.list ((xs++[D.list ys]).map .d)],[]⟩:=by
 have e2:Zw (Wu 1 [.list (xs.map .d++[.own 1]),.list (ys.map .d)]) [A.own 1]=some [A.d (D.list ys)]:=congrArg (fun z=>((z.map D.list).map A.d).bind fun y=>(some []).map (y::·)) (Zbz (m:=1) (n:=8) (own:=[.list (xs.map .d++[.own 1]),.list (ys.map .d)]) ys);show (Option.bind (Za5 is l) fun l'=>_)=_;rw [h];show Option.map _ (Option.bind (Option.map O.list (Zw (Wu 1 [.list (xs.map .d++[.own 1]),.list (ys.map .d)]) (xs.map .d++[.own 1]))) fun y=>_)=_;rw [ZeA (Ziz xs) e2,List.map_append];rfl
noncomputable abbrev pOw (ps:List (List Str)):O:=.list ((ps.map Wz).map .d)
noncomputable abbrev aOw (acc:List Str):O:=.list ((acc.map D.str).map .d)
section
variable {c:Cx}{P:Fw→St→Prop}
theorem Zlw (I:IsK kk2 G w) (hG:c.G=G) (hF:c.fuel=11) {s:Str}(hs:s∈signsL) {acc:List Str}(ha:acc.length≤1000000) {x y rest:Int}{o:O}(h:∀s'∈signsL,∀L,Le [(4,.own 1),(2,.d (.int rest)),(1,.own 0)] L→P .next ⟨L,[o,aOw (acc++[s'])],[]⟩) :
 wp c Zjk ⟨[(8,.d (.int x)),(7,.d (.int y)),(6,.d (.str s)),(4,.own 1),(2,.d (.int rest)),(1,.own 0)],[o,aOw acc],[]⟩ P:=by
 have fin:∀s'∈signsL,∀L,Le [(4,.own 1),(2,.d (.int rest)),(1,.own 0)] L→opt (Yt (.me .append) ⟨L,[o,aOw acc],[.d (.str s'),.own 1]⟩) (fun st=>wp c (.o .pop .nil) st P):=fun s' hs' L hL=>by
  refine Ze (ZB (by rw [List.length_map,List.length_map];exact ha)) ?_;have h:=h s' hs' L hL;unfold aOw at h;rw [List.map_append,List.map_append] at h;exact h
 refine ZiU (Zht (Zhy (fun P h=>h _) (fun P h=>h _)) (Zhy (fun P h=>U8 I hG hF (Xl I) (by kd_p) (by decide) (h _)) (Zht (fun P h=>h _) (fun P h=>h _)))) ?_ ?_
 ·refine fin "?" (by decide +kernel) _ ?_;exact Zq rfl
 ·refine fin s hs _ ?_;exact Zq rfl
end
theorem lt4 {P:Nat→Prop}{m:Nat}(h:m<4) (h0:P 0) (h1:P 1) (h2:P 2) (h3:P 3):P m:=by
 induction m using Nat.casesOn with
 | zero=>exact h0
 | succ m=>induction m using Nat.casesOn with
  | zero=>exact h1
  | succ m=>induction m using Nat.casesOn with
   | zero=>exact h2
   | succ m=>induction m using Nat.casesOn with
    | zero=>exact h3
    | succ m=>exact absurd (Nat.lt_of_succ_lt_succ (Nat.lt_of_succ_lt_succ (Nat.lt_of_succ_lt_succ (Nat.lt_of_succ_lt_succ h)))) (Nat.not_lt_zero _)
theorem Zp6 {j:Nat}(h:j≤3):(20:Int) ^ j≠0∧((20:Int) ^ j).natAbs<1073741824:=by
 exact lt4 (P:=fun j=>(20:Int) ^ j≠0∧((20:Int) ^ j).natAbs<1073741824) (Nat.lt_succ_of_le h) (by decide) (by decide) (by decide) (by decide)
theorem Zlu {n:Int}:∃s∈signsL,(signsL.map D.str)[(n.fmod 20).toNat]?=some (.str s):=by
 have b1:=Int.fmod_nonneg_of_pos n (b:=20) (by decide);have b2:=Int.fmod_lt_of_pos n (b:=20) (by decide);have hl:(n.fmod 20).toNat<signsL.length:=by
  rw [show signsL.length=20 by kd_p];lia
 exact ⟨_,List.getElem_mem hl,by rw [List.getElem?_map,Ke hl];rfl⟩
theorem Zh8 (n:Int):∃r:Nat,(r=1∨r=2)∧([D.int 1,.int 1,.int 2,.int 2]:List D)[(n.fmod 4).toNat]?=some (.int r):=by
 refine Zb (Zo5 n) fun m hm em=>?_;rw [em];exact lt4 (P:=fun m=>∃r:Nat,(r=1∨r=2)∧([D.int 1,.int 1,.int 2,.int 2]:List D)[((m:Nat):Int).toNat]?=some (.int r)) hm ⟨1,.inl rfl,rfl⟩ ⟨1,.inl rfl,rfl⟩ ⟨2,.inr rfl,rfl⟩ ⟨2,.inr rfl,rfl⟩
theorem Zg6 (I:IsK kk2 G w) (n:Int):Zr G (.ref 361) 12 [.int n] (fun d=>∃pat,PatOk pat∧pat≠[]∧d=UT pat):=Zp0 I (need:=11) fun c hG hF=>by
 refine Zb (Zh8 n) fun r hr er=>?_;have b1:=Int.fmod_nonneg_of_pos n (b:=4) (by decide);have b2:=Int.fmod_lt_of_pos n (b:=4) (by decide);refine Ze (ZaX b1 (by omega) er) ?_;refine Ze (Zfu (by omega)) ?_;refine Zde (List.range r) (fun i=>.d (.int (0+i))) (fun b:List (List Str)×Int=>[(2,.d (.int b.2)),(1,.own 0)]) (fun b=>[pOw b.1]) [] (fun xs b=>b.1.length+xs.length=r∧∀p∈b.1,p.length≤4∧∀s∈p,s∈signsL) ([],n.fdiv 4) List.map_map (ZH (Zq rfl) rfl rfl) ⟨by rw [List.length_range];exact Nat.zero_add _,fun u h=>nomatch h⟩ ?_ ?_
 ·rintro u xs ⟨ps,rest⟩ ⟨h1,h2⟩;have b1:=Int.fmod_nonneg_of_pos rest (b:=4) (by decide);have b2:=Int.fmod_lt_of_pos rest (b:=4) (by decide);refine Ze (Zfu (by lia)) ?_;refine Zde (List.range (1+rest.fmod 4 - 0).toNat) (fun i=>.d (.int (0+i))) (fun acc:List Str=>[(4,.own 1),(2,.d (.int rest)),(1,.own 0)]) (fun acc=>[pOw ps,aOw acc]) [] (fun xs acc=>acc.length+xs.length≤4∧(∀s∈acc,s∈signsL)∧∀x∈xs,x≤3) [] List.map_map (ZH (Zq rfl) rfl rfl) ⟨by rw [List.length_range,List.length_nil];lia,(fun u h=>nomatch h),fun x hx=>by have:=List.mem_range.mp hx;lia⟩ ?_ ?_
  ·rintro j xs acc ⟨g1,g2,g3⟩;have hj:=g3 j (.head _);rw [List.length_cons] at g1;refine Zb (Zlu (n:=(rest.fdiv 4).fdiv (20 ^ (0+(j:Int)).toNat))) fun s hs es=>?_;refine U8 I hG hF (Zkz I) (by kd_p) (by decide) ?_;refine Stop.mk (Zqu (by lia) (by rw [show (Builtin.Int.intBits 20:Nat)=5 by decide +kernel];lia) ?_);refine Ze (ZB (Zp6 (j:=(0+(j:Int)).toNat) (by lia))) ?_;refine Ze (ZaX (Int.fmod_nonneg_of_pos _ (by decide)) (Int.lt_trans (Int.fmod_lt_of_pos _ (by decide)) (by decide)) es) ?_;have hcomp:∀f:Str→Option D,(acc.filterMap f).length≤1000000:=fun f=>Kr (List.length_filterMap_le _ _) (by lia);refine Xc acc (fun s=>.d (.str s)) (fun s=>if s=="*" then some (.str s) else none) rfl List.map_map (by lia) (fun c' u u x u l ys cl hcl=>?_) ?_
   ·exact Zl (fun h=>⟨_,cl,(if_pos h).symm,rfl,rfl,hcl⟩) (fun h=>⟨(if_neg (Kv h)).symm,rfl,cl,rfl,hcl⟩)
   refine Ze (Wf (Nat.lt_of_le_of_lt (hcomp _) (by decide))) ?_;refine Xc acc (fun s=>.d (.str s)) (fun s=>if (Yb s Ws).isSome then some (.str s) else none) rfl List.map_map (by lia) (fun c' hG' hF' x u l ys cl hcl=>?_) ?_
   ·refine U8 I (hG'.trans hG) (hF'.trans hF) (Xl I) (by kd_p) (by decide) ?_;exact Zl (fun h=>⟨_,cl,(if_pos h).symm,rfl,rfl,hcl⟩) (fun h=>⟨(if_neg (Kv h)).symm,rfl,cl,rfl,hcl⟩)
   refine Ze (Wf (Nat.lt_of_le_of_lt (hcomp _) (by decide))) ?_;refine Zlw I hG hF hs (by lia) fun s' hs' L hL=>?_;exact ⟨acc++[s'],⟨by rw [List.length_append];show acc.length+1+_≤4;lia,fun z hz=>(List.mem_append.mp hz).elim (g2 z) fun hz=>List.mem_singleton.mp hz▸hs',fun z hz=>g3 z (.tail _ hz)⟩,ZH hL rfl rfl⟩
  ·rintro acc ⟨g1,g2,_⟩;refine Ze (ZB (by rw [List.length_map,List.length_map];rw [List.length_cons] at h1;have h1:ps.length+_=r:=h1;lia)) ?_;refine Ze (a:=⟨[(2,.d (.int (rest.fdiv 640000))),(1,.own 0)],[pOw (ps++[acc])],[]⟩) ?_ ?_
   ·unfold pOw;rw [List.map_append];refine Zkp (ys:=acc.map D.str) ?_;exact rfl
   ·refine ⟨(ps++[acc],rest.fdiv 640000),⟨?_,fun p hp=>(List.mem_append.mp hp).elim (h2 p) fun hp=>List.mem_singleton.mp hp▸⟨by lia,g2⟩⟩,ZH (Zq rfl) rfl rfl⟩;rw [←h1];show (ps++[acc]).length+_=ps.length+(xs.length+1);rw [List.length_append];show ps.length+1+_=_;lia
 ·rintro ⟨ps,rest⟩ ⟨h1,h2⟩;have h1:ps.length=r:=h1;refine Ze (congrArg (Option.map D.list) (Zbz (ps.map Wz))) ⟨ps,⟨by lia,h2⟩,fun z=>by rw [z] at h1;simp at h1;lia,rfl⟩
end
section
variable {G:Gx}{w:World}
section
variable {c:Cx}{P:Fw→St→Prop}
theorem Zn9 {i:Nat}{L:List (Nat×A)}{t u:Str}(h:t.length+u.length≤1000000) (q:P .next ⟨(i,.d (.str (t++u)))::L,[],[]⟩):wp c (.o (.inp .Add) <| .o (.st (.l i)) .nil) ⟨L,[],[.d (.str u),.d (.str t)]⟩ P:=Stop.mk (ZoV h q)
theorem Zi6 {m:Int}(h0:0≤m) (h1:m<9):∃u∈ZdW,(ZdW.map D.str)[m.toNat]?=some (.str u):=by
 have h9:m.toNat<ZdW.length:=by rw [show ZdW.length=9 by kd_p];lia
 exact ⟨_,List.getElem_mem h9,by rw [List.getElem?_map,Ke h9];rfl⟩
theorem Zjz {m:Int}(h0:0≤m) (h1:m<9):∃ch,ch<128∧ZdA.cps[m.toNat]?=some ch:=by
 have h9:m.toNat<ZdA.cps.size:=by rw [show ZdA.cps.size=9 by kd_p];omega
 have:=ZbI Ziu ZdA.cps[m.toNat] (Array.getElem_mem_toList _);exact ⟨_,Kw this,Array.getElem?_eq_getElem h9⟩
theorem Zhj {s:Str}(hs:s∈signsL):∃u,Y7 u=true∧u.length≤8∧(Yb s Ze7).getD (.str s) = .str u:=by
 rw [show Ze7=Zcn.map fun e=>(e.1,.str e.2) from rfl,ZbR D.str];induction hl:Zcn.lookup s with
 | none=>exact ⟨s,Zae s hs,Um s hs,rfl⟩
 | some v =>
  refine Zz (List.lookup_eq_some_iff.mp hl) fun l1 l2 e j=>?_;have he:=Zds (s,v) (by rw [e];exact Kf _ (.head _));exact ⟨v,he.1,Kr he.2 (by decide),rfl⟩
theorem ZgH (I:IsK kk2 G w) (hG:c.G=G) (hF:c.fuel=7) {s t:Str}(hs:s∈signsL) (ht:t.length≤1000) {n:Int}(h:∀u L,Y7 u=true→u.length≤8→Le [(2,.d (.str (t++u))),(1,.d (.int (n.fdiv 9)))] L→P .next ⟨L,[],[]⟩) :
 wp c Zi7 ⟨[(3,.d (.str s)),(2,.d (.str t)),(1,.d (.int n))],[],[]⟩ P:=by
 have b1:=Int.fmod_nonneg_of_pos n (b:=9) (by decide);have b2:=Int.fmod_lt_of_pos n (b:=9) (by decide);have fin:∀u,Y7 u=true→u.length≤8→wp c (.o (.inp .Add) <| .o (.st (.l 2)) .nil) ⟨[(1,.d (.int (n.fdiv 9))),(4,.d (.int (n.fmod 9))),(3,.d (.str s)),(2,.d (.str t)),(1,.d (.int n))],[],[.d (.str u),.d (.str t)]⟩ P:=fun u h1 h2=>Zn9 (by lia) (h u _ h1 h2 (Zq rfl));refine Zl (fun j=>?_) (fun j=>?_)
 ·refine Zb (Zi6 b1 b2) fun u m e=>?_;refine Ze (ZaX b1 (Int.lt_trans b2 (by decide)) e) ?_;exact fin u (Zdx _ m).1 (Kr (Zdx _ m).2 (by decide))
 ·refine ZiU (Zht (fun P h=>h _) (fun P h=>U8 I hG hF (Xl I) (by kd_p) (by decide) (h _))) ?_ ?_
  ·refine Zb (Zjz b1 b2) fun ch h1 h2=>?_;refine Ze (UE b1 (Int.lt_trans b2 (by decide)) h2) ?_;exact fin ⟨#[ch]⟩ (by unfold Y7;show (decide (ch<128)&&true)=true;rw [decide_eq_true h1];rfl) (by show 1≤8;decide)
  ·refine Zl (fun j=>fin "a" (by kd_p) (by decide)) (fun j=>?_);refine Zl (fun j=>?_) (fun j=>fin s (Zae s hs) (Um s hs));refine Zx (Zhj hs) fun u h1 h2 h3=>?_;refine U8 I hG hF (ZkP I) (by kd_p) (by decide) ?_;have key:∀v,v=D.str u→wp c (.o (.inp .Add) <| .o (.st (.l 2)) .nil) ⟨[(1,.d (.int (n.fdiv 9))),(4,.d (.int (n.fmod 9))),(3,.d (.str s)),(2,.d (.str t)),(1,.d (.int n))],[],[.d v,.d (.str t)]⟩ P:=fun v e=>e▸fin u h1 h2;exact key _ h3
theorem ZjL (I:IsK kk2 G w) {p:List Str}(hp:p.length≤4∧∀s∈p,s∈signsL) (n:Int):Zr G (.ref 373) 8 [Wz p,.int n] (fun d=>∃t,TxtOk 40 t∧d = .str t):=Zp7 I (need:=7) fun c hG hF=>by
 refine Zde p (fun s=>.d (.str s)) (fun b:Str×Int=>[(2,.d (.str b.1)),(1,.d (.int b.2))]) (fun j=>[]) [] (fun xs b=>b.1.length+8*xs.length≤40∧Y7 b.1=true∧∀s∈xs,s∈signsL) ("",n) List.map_map (ZH (Zq rfl) rfl rfl) ⟨by show 0+_≤40;lia,by kd_p,hp.2⟩ ?_ ?_
 ·rintro s xs ⟨t,n⟩ ⟨h1,h2,h3⟩;rw [List.length_cons] at h1;have h1:t.length+_≤40:=h1;refine ZgH I hG hF (h3 s (.head _)) (by lia) fun u L q1 q2 hL=>?_;exact ⟨(t++u,_),⟨by show (t++u).length+_≤_;rw [Str.length_append];lia,ZgJ h2 q1,fun z hz=>h3 z (.tail _ hz)⟩,ZH hL rfl rfl⟩
 ·rintro ⟨t,n⟩ ⟨h1,h2,j⟩;exact ⟨t,⟨h1,h2⟩,rfl⟩
end
end
section
variable {G:Gx}{w:World}
section
variable {c:Cx}{P:Fw→St→Prop}
def ZmE (st:St):Prop:=∃xs:List Str,xs.length≤3∧(∀t∈xs,TxtOk 40 t)∧Wl [2] 0 st=some ⟨[(2,.d (.list (xs.map .str)))],[],[]⟩
theorem ZhO {n:Int}{xs:List Str}:Wl [2] 0 ⟨[(2,.own 0),(1,.d (.int n))],[aOw xs],[]⟩=some ⟨[(2,.d (.list (xs.map .str)))],[],[]⟩:=by
 show Option.bind (Option.bind (Option.map _ (Option.map A.d (Option.map D.list (Zw (XU 0 8 [aOw xs]) ((xs.map D.str).map .d))))) fun y=>_) _=_;rw [(Zbz (m:=0) (n:=8) (own:=[aOw xs]) (xs.map .str))];rfl
theorem Zgt {n:Int}{xs:List Str}(hl:xs.length≤3) (hx:∀t∈xs,TxtOk 40 t) (h:∀st,ZmE st→P .next st):wp c ZeC ⟨[(2,.own 0),(1,.d (.int n))],[aOw xs],[]⟩ P:=by
 have h1:=h _ ⟨xs,hl,hx,ZhO (n:=n)⟩;refine Zl (fun j=>?_) (fun j=>h1);refine Ze (ZfS rfl (by rw [List.length_map,List.length_map];lia)) ?_;refine Zl (fun j=>?_) (fun j=>h1);have e:ZoE [aOw xs] (.d (.slice (some 1) none none)) (.own 0)=some (.d (.list ((cut xs (some 1) none).map .str))):=by
  show (Zhf ((xs.map D.str).map .d)).bind _=_;rw [ZjJ,←ZlY];exact ZB (by rw [List.length_map];lia)
 refine Ze (congrArg (Option.map fun x=>(⟨_,_,x::_⟩:St)) e) (h _ ⟨cut xs (some 1) none,Kr (Zf5 _ _ _) hl,fun t ht=>hx t (Zkt _ _ _ t ht),rfl⟩)
theorem Zn2 (I:IsK kk2 G w) {pat:List (List Str)}(hp:PatOk pat) (n:Int):Zr G (.ref 380) 12 [UT pat,.int n] (fun d=>∃t,TxtOk 200 t∧d = .str t):=Zqv I (need:=11) fun c hG hF=>by
 refine Zde pat (fun p=>.d (Wz p)) (fun b:List Str×Int=>[(2,.own 0),(1,.d (.int b.2))]) (fun b=>[aOw b.1]) [] (fun xs b=>b.1.length+xs.length≤2∧(∀t∈b.1,TxtOk 40 t)∧∀p∈xs,p.length≤4∧∀s∈p,s∈signsL) ([],n) List.map_map (ZH (Zq rfl) rfl rfl) ⟨by show 0+_≤2;rw [Nat.zero_add];exact hp.len,(fun j h=>nomatch h),hp.part⟩ ?_ ?_
 ·rintro p xs ⟨ts,n⟩ ⟨h1,h2,h3⟩;rw [List.length_cons] at h1;have h1:ts.length+_≤2:=h1;refine ZiK I hG hF (ZjL I (h3 p (.head _)) _) (by kd_p) (by decide) ?_;rintro j ⟨t,ht,rfl⟩;refine Ze (ZB (by rw [List.length_map,List.length_map];show ts.length≤_;lia)) ?_;refine ⟨(ts++[t],_),⟨by show (ts++[t]).length+_≤_;rw [List.length_append];show ts.length+1+_≤_;lia,fun z hz=>(Z8 hz).elim (h2 z) fun hz=>ZaI hz▸ht,fun z hz=>h3 z (.tail _ hz)⟩,ZH (Zq rfl) ?_ rfl⟩;show [O.list _]=[aOw (ts++[t])];unfold aOw;rw [List.map_append,List.map_append];rfl
 ·rintro ⟨ts,n⟩ ⟨h1,h2,j⟩;have h1:ts.length≤2:=h1;have done:∀st,ZmE st→opt (Wl [2] 0 st) fun st2=>wp c (.o (.lit (.str "/")) <| .mth .join (.o (.loc 2) .nil) .ret) st2 (YF fun d=>∃t,TxtOk 200 t∧d = .str t):=by
   rintro st ⟨xs,q1,q2,q3⟩;refine Ze q3 ?_;refine Ze (Ze0 (by decide) (ZnX q1 q2)) ⟨_,ZnC q1 q2,rfl⟩
  refine Zl (fun j=>?_) (fun j=>Zgt (by lia) h2 done);refine Ze (ZB (by rw [List.length_map,List.length_map];show ts.length≤_;lia)) ?_;have e:((ts.map D.str).map A.d)++[.d (.str "a")]=((ts++[("a":Str)]).map D.str).map .d:=by rw [List.map_append,List.map_append];rfl
  have key:∀X,X=((ts++[("a":Str)]).map D.str).map A.d→wp c ZeC ⟨[(2,.own 0),(1,.d (.int n))],[.list X],[]⟩ (fun f st1=>match f with | .next=>opt (Wl [2] 0 st1) fun st2=>wp c (.o (.lit (.str "/")) <| .mth .join (.o (.loc 2) .nil) .ret) st2 (YF fun d=>∃t,TxtOk 200 t∧d = .str t) | _=>False):=by
   rintro j rfl;exact Zgt (by rw [List.length_append];show ts.length+1≤3;lia) (fun t ht=>(List.mem_append.mp ht).elim (h2 t) fun ht=>List.mem_singleton.mp ht▸⟨by decide +kernel,by kd_p⟩) done
  exact key _ e
end
end
section
variable {G:Gx}{w:World}
theorem ZdL (I:IsK kk2 G w) {a b c d:D}:OSpecC G (.ref 36) 2 [.inst 70 1,.dict [] 0] (.own 0::[a,b,c,d].map .d) fun r os'=>r = .d .none∧Frz os' 0 (.own 0) (Zmu a b c d []) :=
 ZnF I (need:=1) fun cx hG hF j=>fun j j j j j=>⟨rfl,WM (n:=9) (by kd_p)⟩
end
section
variable {G:Gx}{w:World}
theorem ZN {α β:Type}{f:α→Option β}{x:α}{xs:List α}{y:β}{ys:List β}(h:f x=some y) (h2:Zw f xs=some ys):Zw f (x::xs)=some (y::ys):=by
 show (f x).bind (fun y=>(Zw f xs).map (y::·))=_;rw [h,h2];rfl
theorem ZaR {is:List Nat}{m:Nat}{l l' l2:List (Nat×A)}{o o':List O}(h0:m≤o.length) (h1:Za5 is l=some l') (h2:Zw (fun q:Nat×A=>(Wu m o q.2).map fun a=>(q.1,a)) l'=some l2) (h3:Zw (ZgA m o) (o.take m)=some o'):Wl is m ⟨l,o,[]⟩=some ⟨l2,o',[]⟩:=by
 show ifO _ _=_;rw [ZB h0,h1];show Option.bind (Zw _ l') _=_;rw [h2];rw [h3];rfl
theorem ZeM {m:Nat}{own:List O}{kc:Option Int}:ZgA m own (kcO kc)=some (kcO kc):=by cases kc <;> rfl
theorem Zbb {m i:Nat}{own:List O}{ds:List D}(hm:m≤i) (h:own[i]?=some (.list (ds.map .d))):Wu m own (.own i)=some (.d (.list ds)):=by
 show (if i<m then _ else _)=_;rw [if_neg (Zaq hm)];show Option.map A.d (ifO _ _)=_;rw [ZB hm,ZlV h];show Option.map A.d (Option.map D.list (Zw _ _))=_;rw [Zbz];rfl
section
variable {c:Cx}{P:Fw→St→Prop}{xs ns:List Int}
theorem WO {i:Int}{n:Nat}{l:List (Nat×A)}{o:List O}{r:List A}(hi:i=(n:Int)) (hn:n<ns.length) (h:n<9223372036854775808):Yt .sub ⟨l,o,.d (.int i)::.d (ZM ns)::r⟩=some ⟨l,o,.d (.int (ns.getD n 0))::r⟩ :=
 ZaX (hi▸Int.natCast_nonneg n) (hi▸Int.ofNat_lt.mpr h) (Zou hi hn)
theorem ZoN {k:C}{o:List O}(hx:xs.length≤63) (h:∀ns:List Int,ns.length=9→wp c k ⟨[(0,.d (ZM ns))],.cell (some (.d (ZM xs)))::o,[]⟩ P) :
 wp c (.comp .val 0 5 (.bi .range1 (.o (.lit (.int 9)) .nil) .nil) (.one (.l 1)) (.sel (.o (.loc 1) <| .bi .len (.o (.cell 0) .nil) <| .o (.cmp .Lt) .tru) (.o (.cell 0) <| .o (.loc 1) <| .o .sub .nil) (.o (.lit (.int 0)) .nil) .nil) <| .o (.st (.l 0)) k) ⟨[],.cell (some (.d (ZM xs)))::o,[]⟩ P:=by
 refine Xc (List.range 9) (fun i=>.d (.int (0+i))) (fun k=>some (.int (xs.getD k 0))) rfl ?_ (by decide) (fun c' j j x hx2 l ys cl hcl=>?_) ?_
 ·rfl
 ·have h9:=ZgT hx2;refine Ze (Wf (by rw [List.length_map];lia)) ?_;refine Zl (fun q=>?_) (fun q=>?_)
  ·have q:=Kw q;rw [List.length_map] at q;refine Ze (WO (n:=x) (Int.zero_add _) (by lia) (by lia)) ⟨_,cl,rfl,rfl,rfl,hcl⟩
  ·have q:=of_decide_eq_false q;rw [List.length_map] at q;have e:xs.getD x 0=0:=by simp [List.getD,List.getElem?_eq_none (show xs.length≤x by lia)]
   exact ⟨_,cl,congrArg (fun z=>some (D.int z)) e.symm,rfl,rfl,hcl⟩
 ·rw [List.filterMap_eq_map']
  have:=h ((List.range 9).map fun k=>xs.getD k 0) (by rw [List.length_map,List.length_range]);unfold ZM at this;rw [List.map_map] at this;exact this
theorem ZaA {k:Nat}(h:k<3):(k:Int).natAbs<18446744073709551616:=by rw [Int.natAbs_natCast];lia
theorem ZmJ (x:Int):∃m:Nat,m<2∧x.fmod 2=(m:Int):=by
 have h1:=Int.fmod_nonneg_of_pos x (b:=2) (by decide);have h2:=Int.fmod_lt_of_pos x (b:=2) (by decide);exact ⟨(x.fmod 2).toNat,by lia,by lia⟩
theorem Zhv (ds:List Int) (m:Nat):cut (ds.map D.int) none (some (m:Int))=(ds.take m).map .int:=by rw [ZbE,List.map_take]
noncomputable abbrev cO (xs:List Int) (kc:Option Int) (a b d e:Option A):List O:=[.cell (some (.d (ZM xs))),kcO kc,.cell a,.cell b,.cell d,.cell e]
def Af2 (xs ns:List Int) (st:St):Prop:=∃(pats:List PatX) (kc:Option Int),pats.length=3∧(∀p∈pats,WD p)∧Wl [0] 6 st=some ⟨[(0,.d (ZM ns))],cO xs kc (some (.d (.list (pats.map XG)))) none none none,[]⟩
theorem ZgY (I:IsK kk2 G w) (hG:c.G=G) {n:Nat}(hF:c.fuel=n) (hn:25≤n) (hns:ns.length=9) {k:Nat}(hk:k<3) {o:List D}(ho:o.length≤3) (h:∀p,WD p→∀L,Le [(0,.d (ZM ns))] L→P .next ⟨L,cO xs (some k) (some (.own 6)) none none none++[.list (o.map .d++[.d (XG p)])],[]⟩) :
 wp c ZjO ⟨[(0,.d (ZM ns))],cO xs (some k) (some (.own 6)) none none none++[.list (o.map .d)],[]⟩ P:=by
 have fin:∀p,WD p→∀L,Le [(0,.d (ZM ns))] L→opt (Yt (.me .append) ⟨L,cO xs (some k) (some (.own 6)) none none none++[.list (o.map .d)],[.d (XG p),.own 6]⟩) fun st=>wp c (.o .pop .nil) st P:=fun p hp L hL =>
  Ze (ZB (by rw [List.length_map];lia)) (h p hp L hL)
 refine Ze (ZB (ZaA hk)) ?_;refine Ze (WO (n:=2*k) rfl (by lia) (by lia)) ?_;refine Zl (fun j=>?_) (fun j=>?_)
 ·refine fin none (fun ps e=>nomatch e) _ ?_;exact Zq rfl
 ·refine Ze (ZB (ZaA hk)) ?_;refine Ze (WO (n:=2*k+1) rfl (by lia) (by lia)) ?_;have key:∀(i:Int) (m:Nat) (l:List (Nat×A)),i=m→1≤m→m≤2→Le [(0,.d (ZM ns))] l→CompI c (.one (.l 1)) (fun c' st P=>wp c' (.o (.lit (.val (.ref 361))) <| .o (.loc 1) <| .call 1 .nil) st P) 0 ((cut ([(ns.getD (2*k) 0).fdiv 10,ns.getD (2*k+1) 0].map D.int) none (some i)).map .d) ⟨l,cO xs (some k) (some (.own 6)) none none none++[.list (o.map .d)],[.own 6]⟩ ⟨l,cO xs (some k) (some (.own 6)) none none none++[.list (o.map .d)],[.own 6]⟩ (cO xs (some k) (some (.own 6)) none none none++[.list (o.map .d)]) fun ds=>opt (Yt (.me .append) ⟨l,cO xs (some k) (some (.own 6)) none none none++[.list (o.map .d)],[.d (.list ds),.own 6]⟩) fun st=>wp c (.o .pop .nil) st P:=fun i m l hi h1 h2 hl=>by
   rw [hi,Zhv];have hlen:([(ns.getD (2*k) 0).fdiv 10,ns.getD (2*k+1) 0].take m).length=m:=by rw [List.length_take];exact Nat.min_eq_left h2
   refine Zhx _ (fun i=>.d (.int i)) (fun d=>∃pt,PatOk pt∧pt≠[]∧d=UT pt) rfl List.map_map (by lia) (fun c' hG' hF' x j l ys cl hcl=>?_) fun ys hys hP=>?_
   ·refine Zm6 I (hG'.trans hG) (hF'.trans hF) (Zg6 I x) (by kd_p) (by lia) fun d hd=>?_;exact ⟨d,cl,⟨d,rfl,hd⟩,rfl,rfl,hcl⟩
   ·refine Zb (ZlC ys hP) fun ps zo1 hps=>?_;subst zo1;rw [List.length_map] at hys;exact fin (some ps) (fun ps' e=>by cases e;exact ⟨hps,by lia,by lia⟩) l hl
  refine Zl (fun j=>?_) (fun j=>?_)
  ·refine Zb (ZmJ ((ns.getD (2*k) 0).fdiv 5)) fun m hm em=>?_;refine key _ (m+1) _ ?_ (by lia) (by lia) ?_
   ·rw [em];exact Int.add_comm _ _
   ·exact Zq rfl
  ·refine key _ 1 _ rfl (by decide) (by decide) ?_;exact Zq rfl
theorem ZoH (I:IsK kk2 G w) (hG:c.G=G) {n:Nat}(hF:c.fuel=n) (hn:25≤n) (hns:ns.length=9) (h:∀st,Af2 xs ns st→P .next st):wp c Zjp ⟨[(0,.d (ZM ns))],cO xs none none none none none,[]⟩ P:=by
 refine .mk (β:=List PatX×Option Int) (List.range 3) (fun i=>.d (.int (0+i))) (fun j=>[(0,.d (ZM ns))]) (fun b=>cO xs b.2 (some (.own 6)) none none none++[.list ((b.1.map XG).map .d)]) [] (fun ks b=>b.1.length+ks.length=3∧(∀p∈b.1,WD p)∧∀k∈ks,k<3) ([],none) rfl (ZH (Zq rfl) rfl rfl) ⟨rfl,(fun j h=>nomatch h),fun k hk=>ZgT hk⟩ (fun j j=>trivial) ?_ ?_
 ·rintro k ks ⟨acc,kc⟩ ⟨h1,h2,h3⟩;have h1:acc.length+(ks.length+1)=3:=h1;rw [show ((0:Int)+(k:Int))=(k:Int) from Int.zero_add _];refine ZgY I hG hF hn hns (h3 k (.head _)) (by rw [List.length_map];lia) fun p hp L hL=>?_;refine ⟨(acc++[p],some k),⟨by show (acc++[p]).length+_=3;rw [List.length_append];show acc.length+1+_=3;lia,fun q hq=>(List.mem_append.mp hq).elim (h2 q) fun hq=>List.mem_singleton.mp hq▸hp,fun k' hk'=>h3 k' (.tail _ hk')⟩,ZH hL ?_ rfl⟩;rw [List.map_append,List.map_append];rfl
 ·rintro ⟨acc,kc⟩ ⟨h1,h2,j⟩;exact h _ ⟨acc,kc,h1,h2,ZaR (Ko 6 1) rfl rfl (ZN rfl (ZN ZeM (ZN (congrArg (Option.map fun a=>O.cell (some a)) (Zbb (Kq _) rfl)) rfl)))⟩
end
end
section
variable {G:Gx}{w:World}
section
variable {c:Cx}{P:Fw→St→Prop}{xs ns:List Int}{pats:List PatX}{kc:Option Int}
noncomputable abbrev cP (xs:List Int) (kc:Option Int) (pats:List PatX):List O:=cO xs kc (some (.d (.list (pats.map XG)))) none none none
theorem ZcA {α:Type}{l:List α}{f:α→D}{d:α}{n:Int}(h0:0≤n) (h1:n<l.length):l.getD n.toNat d∈l∧(l.map f)[n.toNat]?=some (f (l.getD n.toNat d)):=by
 have h:n.toNat<l.length:=by lia
 exact ⟨ZbC h d,Zgi h d f⟩
theorem ZgI (I:IsK kk2 G w) (hG:c.G=G) {n:Nat}(hF:c.fuel=n) (hn:25≤n) (hp3:pats.length=3) (hpo:∀p∈pats,WD p) {x:Int}{acc:List Str}(ha:acc.length≤100) (h:∀t,TxtOk 200 t→∀L,Le [(0,.d (ZM ns)),(3,.own 6)] L→P .next ⟨L,cP xs kc pats++[aOw (acc++[t])],[]⟩) :
 wp c Zi8 ⟨[(2,.d (.int x)),(0,.d (ZM ns)),(3,.own 6)],cP xs kc pats++[aOw acc],[]⟩ P:=by
 have fin:∀t,TxtOk 200 t→∀L,Le [(0,.d (ZM ns)),(3,.own 6)] L→opt (Yt (.me .append) ⟨L,cP xs kc pats++[aOw acc],[.d (.str t),.own 6]⟩) fun st=>wp c (.o .pop .nil) st P:=fun t ht L hL=>by
  refine Ze (ZB (by rw [List.length_map,List.length_map];lia)) ?_;have h:=h t ht L hL;unfold aOw at h;rw [List.map_append,List.map_append] at h;exact h
 have b1:=Int.fmod_nonneg_of_pos x (b:=3) (by decide);have b2:=Int.fmod_lt_of_pos x (b:=3) (by decide);refine oza (ZcA (f:=XG) (d:=none) b1 (show x.fmod 3<pats.length by lia)) fun hpm g1=>?_;refine Ze (ZaX b1 (by lia) g1) ?_;have hpt:=hpo _ hpm;generalize pats.getD (x.fmod 3).toNat none=pt at hpt;induction pt with
 | none =>
  have c1:=Int.fmod_nonneg_of_pos (x.fdiv 3) (b:=50) (by decide);refine Stop.mk (Zpg c1 (by lia) ?_);refine fin _ (ZoW c1 (Int.fmod_lt_of_pos (x.fdiv 3) (b:=50) (by decide))) _ ?_;exact Zq rfl
 | some ps =>
  refine Yq (hpt ps rfl) fun q1 q2 q3=>?_;refine Ze (Wf (by rw [List.length_map];lia)) ?_;rw [List.length_map];refine Ze (ZB (by lia)) ?_;have d1:=Int.fmod_nonneg_of_pos (x.fdiv 3) (b:=(ps.length:Int)) (by lia);have d2:=Int.fmod_lt_of_pos (x.fdiv 3) (b:=(ps.length:Int)) (by lia);refine oza (ZcA (f:=UT) (d:=[]) d1 d2) fun hm g3=>?_;refine Ze (ZaX d1 (by lia) g3) ?_;refine ZiK I hG hF (Zn2 I (q1 _ hm).1 _) (by kd_p) (by lia) ?_;rintro j ⟨t,ht,rfl⟩;refine fin t ht _ ?_;exact Zq rfl
def Af4 (xs ns:List Int) (kc:Option Int) (pats:List PatX) (st:St):Prop:=∃paths:List Str,paths.length=2∧(∀p∈paths,TxtOk 200 p)∧Wl [0,3] 6 st=some ⟨[(0,.d (ZM ns)),(3,.d (.list (paths.map .str)))],cP xs kc pats,[]⟩
theorem ZnR (I:IsK kk2 G w) (hG:c.G=G) {n:Nat}(hF:c.fuel=n) (hn:25≤n) (hns:ns.length=9) (hp3:pats.length=3) (hpo:∀p∈pats,WD p) (h:∀st,Af4 xs ns kc pats st→P .next st):wp c ZjB ⟨[(0,.d (ZM ns))],cP xs kc pats,[]⟩ P:=by
 refine Ze (Zey (by rw [List.length_map];lia)) ?_;have ec:cut (ns.map D.int) (some 6) (some 8)=((ns.drop 6).take 2).map .int:=by
  unfold cut;rw [List.length_map,hns,List.map_take,List.map_drop];rfl
 rw [ec];have hd2:((ns.drop 6).take 2).length=2:=by simp [hns]
 generalize (ns.drop 6).take 2=ds at hd2;refine Zde ds (fun i=>.d (.int i)) (fun j=>[(0,.d (ZM ns)),(3,.own 6)]) (fun acc:List Str=>cP xs kc pats++[aOw acc]) [] (fun ks acc=>acc.length+ks.length=2∧∀p∈acc,TxtOk 200 p) [] List.map_map (ZH (Zq rfl) rfl rfl) ⟨(Nat.zero_add _).trans hd2,fun j h=>nomatch h⟩ ?_ ?_
 ·rintro x ks acc ⟨h1,h2⟩;rw [List.length_cons] at h1;refine ZgI I hG hF hn hp3 hpo (by lia) fun t ht L hL=>?_;exact ⟨acc++[t],⟨by rw [List.length_append];show acc.length+1+_=2;lia,fun q hq=>(List.mem_append.mp hq).elim (h2 q) fun hq=>List.mem_singleton.mp hq▸ht⟩,ZH hL rfl rfl⟩
 ·rintro acc ⟨h1,h2⟩;refine h _ ⟨acc,h1,h2,ZaR (Ko 6 1) rfl (ZN rfl (ZN (congrArg (Option.map fun a=>(3,a)) (Zbb (Kq _) rfl)) rfl)) (ZN rfl (ZN ZeM rfl))⟩
end
end
section
variable {G:Gx}{w:World}
section
variable {c:Cx}{l:List (Nat×A)}{o:List O}{k:List A}{Q:St→Prop}
theorem ZiT {x:Str}(h:PathOk x) (q:Q ⟨l,o,.d (.bytes (Xz x))::k⟩):Stop (MJ c "encode" ⟨l,o,.d (.str x)::k⟩ fun m st1=>wp c (.o (.lit (.str "utf-8")) .nil) st1 (nx fun st2=>CJ c (m+1) st2 Q)):=⟨by
 refine Zid ?_;exact Zj9 h.clean h.enc q⟩
end
theorem Zgf (I:IsX G w) {nm:Str}{tm:Bool}{ids:List Str}{pats:Option (List (List (List Str)))}{texts:Option (List Str)}{es:List (Str×D)}{path:Str}(hp:PathOk path) (hpt:∀ps,pats=some ps→∀pt∈ps,PatOk pt∧pt≠[]) (hl:(pats.isSome&&texts.isNone)||(pats.isNone&&texts.isSome)) :
 Zr G (.ref 198) 22 [UD nm tm ids (pats.map (·.map YL)) texts es,.str path,.val (.ref 356)] fun d=>d = .bool (YC path pats texts):=Zpe I.k (need:=21) fun c hG hF=>by
 match pats,texts,hl,hpt with
 | some ps,none,_,hpt =>
  refine Zde ps (fun pt=>.d (.str (YL pt))) (fun _:Unit=>[(0,.d (UD nm tm ids (some (ps.map YL)) none es)),(1,.d (.str path))]) (fun j=>[]) [] (fun xs j=>YC path (some ps) none=(xs.any fun pt=>Us pt path)∧∀q∈xs,q∈ps) () ?_ (ZH (Zq rfl) rfl rfl) ⟨rfl,fun j h=>h⟩ ?_ ?_
  ·exact (congrArg _ List.map_map).trans List.map_map
  ·rintro pt xs j ⟨h1,h2⟩;obtain ⟨q1,q2⟩:=hpt ps rfl pt (h2 _ (.head _));refine Stop.mk (ZiO (f:=188) (kIn I.k hG) (st1 w) (by kd_p) ?_);refine (WB I.k hG hF (Zl0 I.k q1 q2 hp.len) (by kd_p) (by decide) ?_).out;rw [List.any_cons] at h1;refine Zl (fun h=>?_) (fun h=>?_)
   ·exact congrArg D.bool (by rw [h1,h];rfl)
   ·rw [h,Bool.false_or] at h1;exact ⟨(),⟨h1,fun q hq=>h2 q (.tail _ hq)⟩,ZH (Zq rfl) rfl rfl⟩
  ·rintro j ⟨h1,_⟩;exact congrArg D.bool h1.symm
 | none,some ts,_,_ =>
  refine ZiT hp ?_;refine WB I.k hG hF (ZaH I.k _) (by kd_p) (by decide) ?_;refine Zde ts (fun t=>.d (.str t)) (fun _:Unit=>[(3,.d (.str (ZbK (Xz path))))]) (fun j=>[]) [] (fun xs j=>YC path none (some ts)=xs.any fun t=>Txt.startswith (ZbK (Xz path)) t) () List.map_map (ZH (Zq rfl) rfl rfl) rfl ?_ ?_
  ·intro t xs j h1;rw [List.any_cons] at h1;refine Zl (fun h=>?_) (fun h=>?_)
   ·exact congrArg D.bool (by rw [h1,show Txt.startswith (ZbK (Xz path)) t=true from h];rfl)
   ·rw [show Txt.startswith (ZbK (Xz path)) t=false from h,Bool.false_or] at h1;exact ⟨(),h1,ZH (Zq rfl) rfl rfl⟩
  ·intro j h1;exact congrArg D.bool h1.symm
end
section
variable {G:Gx}{w:World}
section
variable {c:Cx}{P:Fw→St→Prop}{xs:List Int}{kc:Option Int}{a8 a0:A}{tm:Bool}{nm:Str}{paths:List Str}{es:List (Str×A)}{ep:Nat}{ds:List D}
noncomputable abbrev cR (xs:List Int) (kc:Option Int) (a:A) (t:Option A) (es:List (Str×A)) (ep:Nat) (ds:List A):List O:=cO xs kc (some a) (some (.own 6)) t none++[.dict es ep,.list ds]
noncomputable abbrev LR (a0:A) (paths:List Str):List (Nat×A):=[(0,a0),(3,.d (.list (paths.map .str))),(5,.own 7)]
noncomputable abbrev LT (tm:Bool) (nm:Str) (a0:A) (paths:List Str):List (Nat×A):=(7,.d (.bool tm))::(6,.d (.str nm))::LR a0 paths
theorem ZlX (I:IsX G w) (hG:c.G=G) {n:Nat}(hF:c.fuel=n) (hn:25≤n) {a:A}{ts:List Str}(hts:ts.length≤2) (htl:∀t∈ts,t.length≤4) (hpl:paths.length=2) (hpt:∀p∈paths,TxtOk 200 p) (hd:ds.length≤100)
 (h:∀L,Le (LR a0 paths) L→P .next ⟨L,cR xs kc a (some (.d (.list (ts.map .str)))) es ep (ds.map .d++[.d (trD paths ⟨nm,tm,none,some ts⟩)]),[]⟩) :
 wp c ZjZ ⟨(8,a8)::LT tm nm a0 paths,cR xs kc a (some (.d (.list (ts.map .str)))) es ep (ds.map .d),[]⟩ P:=by
 refine Zbe paths (fun p=>.d (.str p)) (fun p=>if YC p none (some ts)=true then some (.str p) else none) rfl List.map_map (by lia) (fun c' hG' hF' x hx l ys cl hcl=>?_) ?_
 ·refine Zz hcl fun b r zo1 hr=>?_;subst zo1;obtain rfl:r=[]:=hr;refine Xc ts (fun t=>.d (.str t)) (fun t=>if Txt.startswith (ZbK (Xz x)) t=true then some (.str t) else none) rfl List.map_map (by lia) (fun c2 hG2 hF2 y hy l2 ys2 cl2 hcl2=>?_) ?_
  ·refine ZiT (XA (hpt x hx)) ?_;refine WB I.k (hG2.trans (hG'.trans hG)) (hF2.trans (hF'.trans hF)) (ZaH I.k _) (by kd_p) (by lia) ?_;have q3:=Zd7 (Xz x);have hyl:=htl y hy;refine Ze (XH (by lia)) ?_;refine Zl (fun h=>?_) (fun h=>?_)
   ·exact ⟨_,cl2,(if_pos ((Zad _ _).symm.trans h)).symm,rfl,rfl,hcl2⟩
   ·exact ⟨(if_neg (Kv ((Zad _ _).symm.trans h))).symm,rfl,cl2,rfl,hcl2⟩
  ·have e:=Uc (fun t=>Txt.startswith (ZbK (Xz x)) t) (fun t=>D.str t) ts;refine Zl (fun h=>?_) (fun h=>?_)
   ·exact ⟨_,_,(if_pos (e.symm.trans h)).symm,rfl,rfl,_,_,rfl,rfl⟩
   ·exact ⟨(if_neg (Kv (e.symm.trans h))).symm,rfl,_,rfl,_,_,rfl,rfl⟩
 ·refine Ze (ZB (by rw [List.length_map];lia)) ?_;rw [UH];exact h _ (Zq rfl)
theorem Zme (I:IsX G w) (hG:c.G=G) {n:Nat}(hF:c.fuel=n) (hn:25≤n) {pats:List PatX}{ps:List (List (List Str))}{k:Nat}(hk:k<3) (hg:(pats.map XG)[(k:Int).toNat]?=some (XG (some ps))) (hps:ps.length≤2) (hpo:∀pt∈ps,PatOk pt∧pt≠[]) (hpl:paths.length=2) (hpt:∀p∈paths,TxtOk 200 p) (hd:ds.length≤100) {t:Option A}
 (h:∀L,Le (LR a0 paths) L→P .next ⟨L,cR xs (some k) (.d (.list (pats.map XG))) t es ep (ds.map .d++[.d (trD paths ⟨nm,tm,some ps,none⟩)]),[]⟩) :
 wp c ZiC ⟨LT tm nm a0 paths,cR xs (some k) (.d (.list (pats.map XG))) t es ep (ds.map .d),[]⟩ P:=by
 refine Zbe paths (fun p=>.d (.str p)) (fun p=>if YC p (some ps) none=true then some (.str p) else none) rfl List.map_map (by lia) (fun c' hG' hF' x hx l ys cl hcl=>?_) ?_
 ·refine Zz hcl fun b r zo1 hr=>?_;subst zo1;obtain rfl:r=[]:=hr;refine Ze rfl ?_;refine Ze (ZaX (Int.natCast_nonneg k) (by lia) hg) ?_;refine Xc ps (fun t=>.d (UT t)) (fun t=>if Us t x=true then some (UT t) else none) rfl List.map_map (by lia) (fun c2 hG2 hF2 y hy l2 ys2 cl2 hcl2=>?_) ?_
  ·refine WB I.k (hG2.trans (hG'.trans hG)) (hF2.trans (hF'.trans hF)) (Znd I.k (hpo y hy).1 (Kr ((hpt x hx).len) (by decide))) (by kd_p) (by lia) ?_;refine Zl (fun h=>?_) (fun h=>?_)
   ·exact ⟨_,cl2,(if_pos h).symm,rfl,rfl,hcl2⟩
   ·exact ⟨(if_neg (Kv h)).symm,rfl,cl2,rfl,hcl2⟩
  ·have e:=Uc (fun t=>Us t x) (fun t=>UT t) ps;refine Zl (fun h=>?_) (fun h=>?_)
   ·exact ⟨_,_,(if_pos (e.symm.trans h)).symm,rfl,rfl,_,_,rfl,rfl⟩
   ·exact ⟨(if_neg (Kv (e.symm.trans h))).symm,rfl,_,rfl,_,_,rfl,rfl⟩
 ·refine Ze (ZB (by rw [List.length_map];lia)) ?_;rw [UH];exact h _ (Zq rfl)
end
end
section
theorem ZbF {G:Gx}{w:World}(I:IsX G w) {a b c d:Str}{x:List (Str×D)}:OSpecC G (.ref 60) 3 [] [.d (Zmu (.str a) (.str b) (.str c) (.dict x) [])] fun r os'=>r = .own 0∧∃ep,os'=[.dict (ZoX (.str b) (.str c) (.dict x)) ep] :=
 Znb I.k (need:=2) fun cx hG hF j=>fun j e=>⟨rfl,e,by kd_p⟩
theorem ZbA {G:Gx}{w:World}(I:IsX G w) {nm:Str}{tm:Bool}{ids:List Str}{p h:Option (List Str)}:Zr G (.ref 133) 3 [UD nm tm ids p h []] fun d=>d = .dict ([("keyids",.list (ids.map .str)),("threshold",.int 1)]:List (Str×D)) :=
 Zpo I.k (need:=2) fun cx hG hF=>fun j e=>ZeX (by kd_p)
theorem Wj {G:Gx}{w:World}(I:IsX G w) {nm:Str}{tm:Bool}{ids:List Str}{p h:Option (List Str)}(hp:((p.isSome&&h.isNone)||(p.isNone&&h.isSome))=true):OSpecC G (.ref 181) 5 [] [.d (UD nm tm ids p h [])] fun r os'=>r = .own 0∧∃ep,os'=[.dict ((Zbg nm tm ids p h).map fun e=>(e.1,A.d e.2)) ep] :=
 ZlI I.k (need:=4) fun c hG hF j=>by
  refine Stop.mk (Zlg (f:=133) (kIn I.k hG) (rd1 w) (rd2 w) ?_);refine (ZhC I.k hG hF (ZbA I) (by kd_p) (by decide) ?_).out;intro e1 e2
  match p,h,hp with
  | some xs,none,_ =>
   refine Stop.mk (Xj rfl rfl (Nat.le_of_ble_eq_true (by kd_p)) fun e=>?_);exact ⟨rfl,e,by kd_p⟩
  | none,some xs,_ =>
   refine Stop.mk (Xj rfl rfl (Nat.le_of_ble_eq_true (by kd_p)) fun e=>?_);exact ⟨rfl,e,by kd_p⟩
theorem Zdu {G:Gx}{w:World}(I:IsK kk2 G w) {a b c d:D}{e0:Nat}:OSpecC G (.ref 36) 2 ([.dict [] e0]++[.inst 70 2,.dict [] 0]) (.own 1::[.d a,.d b,.d c,.d d,.own 0]) fun r os'=>r = .d .none∧∃ep,os'=[.dict [] e0,.inst 70 2,.dict (Zm7 a b c d (.own 0)) ep] :=
 ZnZ I (need:=1) fun cx hG hF j=>fun j j j j e=>⟨rfl,e,by kd_p⟩
theorem Zam {G:Gx}{w:World}(I:IsX G w) {a:Str}{b c d:D}{e0:Nat}:OSpecC G (.ref 50) 5 [.dict (ZoX b c d) e0] [.d (.val (.ref 70)),.d (.str a),.own 0] fun r os'=>r = .own 1∧∃e1 ep,os'=[.dict [] e1,.inst 70 2,.dict (Zm7 (.str a) b c d (.own 0)) ep] :=
 ZoD I.k (need:=4) fun cx hG hF u=>by
  intro u u e1;refine Stop.mk (ZaC [0] (os:=[.dict [] e1]) (args:=[.d (.str a),.d b,.d c,.d d,.own 0]) (OSpecC.toO (by rw [hG];exact Wc I.k (Zp5 w) (Zdu I.k))) (ZfA I.k (by kd_p) hG) (by rw [hF];decide) rfl (by simp) rfl (fun j i h=>?_) ?_)
  ·match j,h with
   | 0,h=>obtain rfl:=Kc h;exact ⟨_,rfl,rfl⟩
  ·rintro u os' ⟨rfl,ep,rfl⟩;exact ⟨rfl,_,_,rfl⟩
end
section
set_option maxHeartbeats 3200000
open PySem.Spec
theorem ZpG {prog:Program}{w:World}{A:Around}{E:Value→Shared→Prop}{s:Shared}{T newId initId:String}{Bi:Builtin}{args:List Value}{Q Q₁:Value→Shared→Prop}(ft:TypeCalled T newId initId)
 (hct:checkTypeCall T ⟨args,[]⟩=pure ()) (entryI:entryFor table initId=some Bi)
 (hnew:codeAny (model prog w) A.in1 (.call (.builtin newId) ⟨.type T::args,[]⟩) (wants Q₁ E) s)
 (hT:∀obj s₁,Q₁ obj s₁→s₁.TypeIs obj T) (hnext:∀obj s₁,Q₁ obj s₁→∀R:Result→Shared→Prop,(∀s₂,Q obj s₂→R (.ok (.ret .none)) s₂)→codeAny (model prog w) A.in1 (.call (.builtin initId) ⟨obj::args,[]⟩) R s₁) :
 wpAny (model prog w) A (call (.type T) args) Q E s:=by
 refine XN ft.mro fun c tl hmro=>?_;have hmade:=ft.made;have hsub:=ft.sub;refine wpAny_call (codeAny_of_tree ?_);refine Ki ⟨Code.quiet_builtin _ (by decide +kernel),codeAny_builtin F.entry_type_call ?_⟩;rw [Around.under_plain (weight_type_call_type T args []) rfl];have h1:=ft.notType;have h2:=ft.canCreate
 repeat (any_goals (first | assumption | wp_step))
 refine codeAny_mono hnew fun r s₁ hr=>?_;induction r with
 | error e=>exact hr
 | ok fl =>
  induction fl with
  | ret obj =>
   have hT1:=hT obj s₁ hr;have hli:=ft.init.lookup;have hbi:=ft.init.bind obj
   repeat (any_goals (first | assumption | wp_step))
   refine hnext _ _ hr _ fun s₂ q=>?_
   repeat (any_goals (first | assumption | wp_step))
  | _=>exact hr.elim
section
variable {prog:Program}{w:World}{A:Around}{s:Shared}{x:Str}{S l I:Addr}
theorem Zra {a b c:Nat}(h1:a≠b) (h2:a≠c):a∉[b,c]:=XO h1 (XO h2 Uq)
theorem Zgz {R:Result→Shared→Prop}{t:Tok}(hh:A.in1.handled=none) (hne:l≠I) (hSI:S≠I) (hSl:S≠l) (hit:s.heap.IsListIter I l 0) (hl:s.heap.IsList l #[.str x t]) {p:Str→Bool}(hp:p x=false) (hS:s.heap.SetOf (strKind prog w) S p 0)
 (hR:∀h' tk,(∃p,h'.SetOf (strKind prog w) S p 1)→(∀b o,b≠S→b≠I→s.heap.get? b=some o→h'.get? b=some o)→R (.ok (.ret .none)) {s with heap:=h',toks:=tk}) :
 codeAny (model prog w) A (.builtin "set.update.loop" ⟨[.ref S,.ref I],[]⟩) R s:=by
 have W:=Walks.list (prog:=prog) (w:=w) hh I l hne #[.str x t];refine codeAny_builtin PyProof.Rows.F.entry_set_update_loop ?_;rw [Around.under_plainId PyProof.Rows.F.plain_set_update_loop _];refine Kd (m:=pyNext (.ref I)) (W.item 0 s _ _ Nat.one_pos ⟨hit,hl⟩ fun v h1 t1 hv st1 k1=>?_);obtain rfl:=Kc hv;refine Kd (m:=holding [Value.str x t] (setAdd S (.str x t))) (wpAny_holding (wpAny_holding (Kd ((strKind prog w).pyHash (k:=x) (strKind_is _ _ _ _) ?_))));refine wpAny_setAddHashed_of (knd:=strKind prog w) (strKind_is _ _ _ _) rfl (S:=p) (n:=0) ?_ (by decide) fun h2 hsb hS2=>?_
 ·refine Xf hS fun o es ep tb ho rest=>?_;exact ⟨o,es,ep,tb,k1 _ _ (XO hSI Uq) ho,rest⟩
 ·rw [hp] at hS2;refine Ki ⟨plainId_quiet PyProof.Rows.F.plain_set_update_loop _,codeAny_builtin PyProof.Rows.F.entry_set_update_loop ?_⟩;rw [Around.under_plainId PyProof.Rows.F.plain_set_update_loop _];refine Kd (m:=pyNext (.ref I)) (W.done _ _ _ (W.frame _ _ _ st1 fun b hb o e=>?_) fun h3 t3 k3=>Ki (hR h3 t3 ?_ fun b o hb hb2 e=>k3 _ _ (XO hb2 Uq) ?_))
  ·rw [hsb.2 b fun z=>Zra hSI hSl (z▸hb)];exact e
  ·refine Xf hS2 fun o es ep tb ho rest=>?_;exact ⟨_,o,es,ep,tb,k3 _ _ (XO hSI Uq) ho,rest⟩
  ·rw [hsb.2 b hb];exact k1 _ _ (XO hb2 Uq) e
theorem ZgE {R:Result→Shared→Prop}{t:Tok}{led:Bool}(hh:A.handled=none) (hlS:l<S) (hSs:S<s.heap.objs.size) (hS:s.heap.get? S=some {cls:=.type "set",dict:=none,data:=.set #[] 0 (.fresh 0 0 led)}) (hl:s.heap.IsList l #[.str x t])
 (hR:∀h' tk,(∃p,h'.SetOf (strKind prog w) S p 1)→(∀b o,b<S→s.heap.get? b=some o→h'.get? b=some o)→R (.ok (.ret .none)) {s with heap:=h',toks:=tk}) :
 codeAny (model prog w) A (.call (.builtin "set.__init__") ⟨[.ref S,.ref l],[]⟩) R s:=by
 have hT:s.TypeIs (.ref S) "set":=⟨_,hS,rfl⟩;refine codeAny_call_builtin PySem.F.called_set.init.plain PySem.F.entry_set_init (check_set_init_1 hT ?_);have hlT:=hl.typeIs;have hsls:=PySem.F.sub_list_set;have hslf:=PySem.F.sub_list_frozenset;have hne:(Value.type "list"==Value.type "dict")=false:=by decide
 refine Y4 hl fun ol hol hcl nl hdl=>?_;obtain ⟨ocls,odict,odata,oslots⟩:=ol;obtain rfl:ocls=_:=hcl;obtain rfl:odata=_:=hdl;unfold Builtin.«set.__init__» noKeywords Builtin.Frozenset.updateFrom;generalize hPI:pyIter=PI
 wp_walk
 subst hPI;refine wpAny_pyIter_list ⟨_,hol,rfl,nl,rfl⟩ (Kd (wpAny_runValue ?_));refine Zgz (l:=l) (by simp [hh]) (Nat.ne_of_lt (Nat.lt_trans hlS hSs)) (Nat.ne_of_lt hSs) (Nat.ne_of_gt hlS) ⟨_,Kh _ rfl,rfl,rfl⟩ ⟨_,Kn _ hol,rfl,nl,rfl⟩ (p:=fun j=>false) rfl ((PyProof.Rows.setObjOf_fresh (knd:=strKind prog w) led).setOf (Kn _ hS) (by decide)) fun h' tk hp hk=>?_;exact Ki (Ki (hR h' tk hp fun b o hb e=>hk b o (Nat.ne_of_lt hb) (Nat.ne_of_lt (Nat.lt_trans hb hSs)) (Kn _ e)))
theorem Zgy {Q:Value→Shared→Prop}{E:Value→Shared→Prop}{t:Tok}(hh:A.handled=none) (hl:s.heap.IsList l #[.str x t])
 (h:∀(h':Heap) (tk:Nat),(∃p,h'.SetOf (strKind prog w) s.heap.objs.size p 1)→(∀b o,s.heap.get? b=some o→h'.get? b=some o)→Q (.ref s.heap.objs.size) {s with heap:=h',toks:=tk}) :
 wpAny (model prog w) A (call (.type "set") [.ref l]) Q E s:=by
 refine ZpG (Q₁:=fun obj s₁=>∃led:Bool,obj = .ref s.heap.objs.size∧s₁={s with heap:=s.heap.push {cls:=.type "set",dict:=none,data:=.set #[] 0 (.fresh 0 0 led)}}) PySem.F.called_set (PySem.F.typeCall_set_1 _) PySem.F.entry_set_init (code_set_new_1 _ fun led=>⟨led,rfl,rfl⟩) (fun obj s₁ h1=>?_) fun obj s₁ h1 R hR=>?_
 ·obtain ⟨led,rfl,rfl⟩:=h1;exact ⟨_,Kh _ rfl,rfl⟩
 ·obtain ⟨led,rfl,rfl⟩:=h1;refine ZgE (by simp [hh]) (by refine Zb hl fun o e j=>?_;exact Kk e) (by rw [Heap.size_push];exact Nat.lt_succ_self _) (Kh _ rfl) (hl.push _) fun h' tk hp hk=>hR _ (h h' tk hp fun b o e=>hk b o (Kk e) (Kn _ e))
end
section
variable {c:Cx}{st:St}{l:List (Nat×A)}{o:List O}{k:List A}{Q:St→Prop}
theorem U9 {x:String}{v:Value}{a:Expr}{pl p2:Pos}{P:Value→Shared→Prop}(hv:IsG c x v) (hs:Yn a=false) {F:Fz}{vs:List Value}{s:Shared}(R:RS c F ⟨l,o,k⟩ vs s)
 (hk:∀s1,RS c F ⟨l,o,.d (.val v)::k⟩ (v::vs) s1→wpAny (model c.p c.w) c.A (eval a c.env) (fun u s2=>ZF c v s2.heap∧wpAny (model c.p c.w) c.A (call v [u]) P NoE s2) NoE s1):wpAny (model c.p c.w) c.A (eval (.Call (.Name x pl) [a] [] p2) c.env) P NoE s:=by
 rw [Y2 _ _ _ rfl];refine Kd (wpm (Z2 (Q:=fun st=>st=⟨l,o,.d (.val v)::k⟩) hv rfl F vs s R) (fun f s1 zq0=>?_));obtain ⟨st1,R1,h1⟩:=zq0;subst h1;obtain rfl:f=v:=by refine ozr R1 fun g ρ m W=>?_;exact Zd W.stk
 refine W.callWith_of (P:=fun h=>ZF c f h) (by rw [ZP _ _ hs];rfl) (fun h hk=>hk) ?_;rw [ZP _ _ hs];exact evalArgs_plain (Calls.spliced_cons (wpm (hk s1 R1) (fun u s2 q=>Calls.spliced_nil q)))
theorem ZgB {e:Expr}{pl ps p1 p2:Pos}(hs:Yn e=false) (hl:IsG c "len" (.builtin "len")) (ht:IsG c "set" (.type "set")) (h:EJ c e ⟨l,o,.d (.val (.type "set"))::.d (.val (.builtin "len"))::k⟩ fun st1=>∃(l':List (Nat×A)) (o':List O) (x:Str),st1=⟨l',o',.d (.list [.str x])::.d (.val (.type "set"))::.d (.val (.builtin "len"))::k⟩∧Q ⟨l',o',.d (.int 1)::k⟩) :
 EJ c (.Call (.Name "len" pl) [.Call (.Name "set" ps) [e] [] p1] [] p2) ⟨l,o,k⟩ Q:=fun F vs s R=>by
 refine U9 hl rfl R fun s1 R1=>U9 ht hs R1 fun s2 R2=>wpm (h F _ s2 R2) (fun v s3 zq=>⟨Xm,?_⟩);obtain ⟨st3,⟨g,ρ,m,W⟩,l',o',x,rfl,q⟩:=zq;refine Zc (Zd W.stk) fun a us zo3 hfl hvs=>?_;subst zo3;refine Zc hvs fun u j zo8 zo9 zo10=>?_;subst zo8;subst zo10;obtain ⟨t,rfl⟩:=zo9;refine Zgy c.hh (isList_sub W.keep hfl) fun h' tk hp hk=>⟨Zj,?_⟩;obtain ⟨p,os,es,ep,t,q1,q2,q3,q4,q5,q6,q7,q8⟩:=hp;refine call_len_set (s:={s3 with heap:=h',toks:=tk}) q1 q2 q3 q7 (by rw [q8];decide) ?_;rw [q8];exact ⟨_,⟨g,ρ,m,(W.grow (s':={s3 with heap:=h',toks:=tk+1+1}) (fun b o e=>hk b o e) W.gens W.bare rfl).stack (Zg YE (Za (Za (Za W.stk))))⟩,q⟩
end
end
section
inductive GenW (prog:Program) (w:World) (A:Around) (x:Str) (ifs:List Expr) (elt:Expr) (env:Env) (it:Value) (Q:Value→Shared→Prop) (s:Shared):Prop
 | mk (I:Addr) (fp wr:List Addr) (n₀:Nat) (P:Nat→Value→Prop) (St₀:Nat→Heap→Prop) (pz:Nat→Bool) (F:Nat→Value→Prop) (e:it = .ref I) (W₀:∀A':Around,A'.handled=none→Walks prog w A' I fp wr n₀ P St₀) (hst:St₀ 0 s.heap) (hfp:∀b∈fp,b<s.heap.objs.size)
  (hl:s.heap.NoLimit) (hcw:cStatics∉wr) (hq:∀href:Heap,(∀b o,s.heap.get? b=some o→href.get? b=some o)→QuietGenD prog w env x ifs elt (List.range s.heap.objs.size) wr P pz F href (A.depth+1) (A.units+8))
  (hQ:∀a h₅ tk gs,gs.bare=true→s.heap.objs.size<a→h₅.objs.size=a+1→(∀b o,s.heap.get? b=some o→h₅.get? b=some o) →
   WalksS prog w A.in4 a (a::s.heap.objs.size::List.range s.heap.objs.size) (s.heap.objs.size::wr) (GenOnlyQ s.gens.size) (passing pz n₀ 0).length
    (fun j y=>∃i,(passing pz n₀ 0)[j]?=some i∧F i y) (GenAt prog w A.in4 a s.gens.size s.heap.objs.size (List.range s.heap.objs.size) wr pz n₀ F) →
   GenAt prog w A.in4 a s.gens.size s.heap.objs.size (List.range s.heap.objs.size) wr pz n₀ F 0 {s with gens:=s.gens.push gs,toks:=tk,heap:=h₅} →
   Q (.ref a) {s with gens:=s.gens.push gs,toks:=tk,heap:=h₅})
theorem ZeY {prog:Program}{w:World}{A:Around}{E:Value→Shared→Prop}{s:Shared}{env:Env}{elt iter:Expr}{x:Str}{px:Pos}{ifs:List Expr}{scope:Scope}{cl:List (Str×Addr)}{pos:Pos}{Q:Value→Shared→Prop}
 (hh:A.handled=none) (hco:scope.isCoroutine=false) (hclos:closureFor scope env=pure cl) (hcell:∀y∈scope.names,y.2≠.cell) (h0:scope.names.lookup (".0":Str)=some NameKind.local)
 (hx:scope.names.lookup x=some .local) (hkind:scope.kind = .function) (hroom:A.depth<recursionLimit)
 (h:wpAny (model prog w) A (eval iter env) (fun x0 s₀=>wpAny (model prog w) A (genFold iter env x0) (fun xv s₁=>wpAny (model prog w) A (pyIter xv) (fun it s₂=>s₂.heap.NoLimit ∧
  wpAny (model prog w) A (genexprCode env pos (env.qual++"<genexpr>") scope) (fun code s₃=>wpAny (model prog w) A (builtinsFor env.globals env.builtins) (fun bi s₄ =>
   GenW prog w A x ifs elt (genEnv scope cl s₄.heap.objs.size code bi env) it Q s₄) E s₃) E s₂) E s₁) E s₀) E s) :
 wpAny (model prog w) A (eval (.GeneratorExp elt [⟨.Name x px,iter,ifs,0⟩] scope pos) env) Q E s:=by
 refine Zgw hco hclos hcell h0 hkind hroom (Kb h (fun x0 s₀ h₀=>Kb h₀ (fun xv s₁ h₁=>Kb h₁ (fun it s₂ h₂=>⟨h₂.1,Kb h₂.2 (fun code s₃ h₃=>Kb h₃ (fun bi s₄ h₄=>?_)
  fun j j e=>e) fun j j e=>e⟩) fun j j e=>e) fun j j e=>e) fun j j e=>e)
 obtain ⟨I,fp,wr,n₀,P,St₀,pz,F,rfl,W₀,hst,hfp,hl₄,hcw,hq,hQ⟩:=h₄;have hclt:cStatics<s₄.heap.objs.size:=by refine Zb hl₄ fun j hn j=>?_;exact hn.lt
 intro h' hn' hs';have hsz:h'.objs.size=s₄.heap.objs.size+1:=by rw [hs'.1,Heap.size_push]
 have keep':∀b o,s₄.heap.get? b=some o→h'.get? b=some o:=fun b o e=>hs'.extBut b o (Nat.ne_of_lt (Kk e)) (Kn _ e);have hsub:∀b∈wr,b∈List.range s₄.heap.objs.size:=fun b hb=>ZeK (hfp b ((W₀ A hh).sub b hb));have haC:h'.objs.size≠s₄.heap.objs.size:=by rw [hsz];exact Nat.succ_ne_self _
 have haf:h'.objs.size∉List.range s₄.heap.objs.size:=fun hm=>by have:=ZgT hm;lia
 have keep₅:∀b o,s₄.heap.get? b=some o→(h'.push {cls:=.type "generator",data:=.fields #[.int s₄.gens.size 0,.str "<genexpr>" (s₄.toks+1),.str (env.qual++"<genexpr>") (s₄.toks+1+1)]}).get? b=some o :=
  fun b o e=>Kn _ (keep' b o e)
 refine hQ _ _ _ _ rfl (by lia) (by rw [Heap.size_push]) keep₅ (WalksS.genexpQ (A:=A.in4) hh _ _ _ _ wr pz n₀ F haC haf hsub hroom (ZeK hclt) (Nat.ne_of_lt hclt) hcw) ?_
 refine GenAt.freshD (A:=A.in4) (cenv:=genEnv scope cl s₄.heap.objs.size code bi env) (m:=fun y=>if y=".0" then some (.ref I) else none) hh
  (fun A' hA=>(W₀ A' hA).mono_fp fun b hb=>ZeK (hfp b hb)) pz F hx (by simp [genEnv,hkind]) hco
  (fun hm=>Nat.lt_irrefl _ (ZgT hm)) (hq _ keep₅) ⟨_,_,_,Kh _ rfl,rfl,rfl,rfl⟩ (Array.getElem?_push_size ..) ((W₀ A hh).frame _ _ _ hst fun b j o e=>keep₅ b o e) (hn'.push _) (hl₄.keeps keep₅)
section
variable {c:Cx}{l:List (Nat×A)}{o:List O}{k:List A}{Q:St→Prop}{K:W.Frag}
inductive GenR (c:Cx) (F:Fz) (st:St) (vs:List Value) (xs:List D) (tz:D→Bool) (Fd:D→Value→Prop) (a:Addr) (s:Shared):Prop
 | mk (C:Addr) (wr:List Addr) (g:Nat) (fp:List Addr) (n:Nat) (hn:n=(xs.filter tz).length)
  (W:WalksS c.p c.w c.A.in4 a (a::C::fp) wr (GenOnlyQ g) n (fun j y=>∃d,(xs.filter tz)[j]?=some d∧Fd d y) (GenAt c.p c.w c.A.in4 a g C fp wr.tail (fun i=>(xs[i]?).any tz) xs.length (fun i y=>∃d,xs[i]?=some d∧Fd d y)))
  (G:GenAt c.p c.w c.A.in4 a g C fp wr.tail (fun i=>(xs[i]?).any tz) xs.length (fun i y=>∃d,xs[i]?=some d∧Fd d y) 0 s) (hfp:∀b∈a::C::fp,b<s.heap.objs.size) (back:∀s',Moved wr (GenOnlyQ g) s s'→RS c F st vs s')
theorem Zdq {F:Fz}{v0:Value}{vs us:List Value}{s1:Shared}{g:Heap}{ρ:List Addr}{m:Str→Option Value}{elt:Expr}{x:Str}{pos:Pos}{ifs:List Expr}{scope:Scope}{cda P:Addr}{Qv:Value→Shared→Prop}(GK:GenOk c.G K) (hP:Yu P∈c.G.reg) (hcode:c.env.code = .ref cda) (htab:WK K cda P=true) (hne:cda≠P) (hfu:3≤c.fuel)
 {xs:List D} {tz:D→Bool} {Fd:D→Value→Prop} {a:Addr} {iobj:Obj} {IsIt:Nat→Heap→Prop} {IsSrc:Heap→Prop} (W:RSW c F ⟨l,o,.d (.list xs)::k⟩ (v0::vs) s1 g ρ m) (hvs:VRs c.p c.w g xs us) (hT:∀d∈xs,Xx c scope x ifs elt tz Fd d)
 (ha:a<s1.heap.objs.size) (hpush:(s1.heap.push iobj).get? s1.heap.objs.size=some iobj) (hit:∀h:Heap,h.get? s1.heap.objs.size=some iobj→IsIt 0 h) (hsrc:∀h:Heap,(∀b ob,s1.heap.get? b=some ob→b≠P→h.get? b=some ob)→IsSrc h)
 (walks:∀A':Around,A'.handled=none→Walks c.p c.w A' s1.heap.objs.size [s1.heap.objs.size,a] [s1.heap.objs.size] us.toArray.size (fun i v=>us.toArray[i]?=some v) fun i h=>IsIt i h∧IsSrc h)
 (cont:∀a' s',GenR c F ⟨l,o,k⟩ vs xs tz Fd a' s'→Qv (.ref a') s') :
 (s1.heap.push iobj).NoLimit∧wpAny (model c.p c.w) c.A (genexprCode c.env pos (c.env.qual++"<genexpr>") scope) (fun code s₃=>wpAny (model c.p c.w) c.A (builtinsFor c.env.globals c.env.builtins) (fun bi s₄ =>
  GenW c.p c.w c.A x ifs elt (genEnv scope [] s₄.heap.objs.size code bi c.env) (.ref s1.heap.objs.size) Qv s₄) NoE s₃) NoE {s1 with heap:=s1.heap.push iobj}:=by
 have hd:=c.hd;have hu:=c.hu;have hB:=c.G.lib.mono _ _ W.keep W.base;have hlim:s1.heap.NoLimit:=c.G.lib.nolimit _ hB;refine ⟨hlim.push _,?_⟩;refine Ka fun zn1=>?_;obtain ⟨u,op,hop,ps,hps0,htr⟩:=W.reg _ hP;refine zn1 ?_;have hps:op.data = .fields ps:=by exact congrArg _ hps0
 have hopP:s1.heap.get? P=some op:=hop;have X1:K.In s1.heap:=GK.K _ hB;have pu:∀b ob,s1.heap.get? b=some ob→(s1.heap.push iobj).get? b=some ob:=fun b ob e=>Kn _ e;refine ZcE hcode (Zg4 (X1.keeps pu) htab (pu _ _ hopP) hps htr hne) (WW (X1.keeps pu) htab (hps0▸pu _ _ hopP)) fun code h3' tk ps' hext hcode' htab'=>?_;have hg0:∀r∈c.G.reg,g.get? r.at_=none:=fun r hr=>(W.reg r hr).1;have gP:g.get? P=none:=hg0 _ hP;have subg:Sub g h3':=fun b ob e=>hext b ob (fun q=>by rw [q,gP] at e;exact Zo e) (pu _ _ (W.keep _ _ e));refine Ka fun zn2=>?_;obtain ⟨mm,bm,bo,b1,b2,b3,b4,b5,b6,b7⟩:=GK.bm _ W.base;refine zn2 ?_;refine wpAny_builtinsFor (by rw [c.hg];exact b1.keeps subg) b2 b3 (subg _ _ b4) b5 b6 b7 ?_;have hIP:s1.heap.objs.size≠P:=fun q=>absurd (Kk hopP) (by rw [←q];exact Nat.lt_irrefl _);have hIobj:h3'.get? s1.heap.objs.size=some iobj:=hext _ _ hIP hpush;have hl3:IsSrc h3':=hsrc _ fun b ob e hb=>hext b ob hb (pu _ _ e);have hlim3:h3'.NoLimit:=(c.G.lib.nolimit _ W.base).keeps subg;have hcs:cStatics∉[s1.heap.objs.size]:=fun hm=>by
  rw [List.mem_singleton] at hm;refine Zb hlim fun u hn u=>?_
  have:=hn.lt;rw [←hm] at this;exact absurd this (Nat.lt_irrefl _)
 have hsz3:s1.heap.objs.size<h3'.objs.size:=Kk hIobj;refine oza (Zbd xs tz) fun pl pm=>?_;refine .mk s1.heap.objs.size [s1.heap.objs.size,a] [s1.heap.objs.size] us.toArray.size (fun i v=>us.toArray[i]?=some v) (fun i h=>IsIt i h∧IsSrc h) (fun i=>(xs[i]?).any tz) (fun i y=>∃d,xs[i]?=some d∧Fd d y) rfl walks ⟨hit _ hIobj,hl3⟩ (fun b hb=>?_) hlim3 hcs (fun href hkeep=>?_) fun a' h5 tk5 gs hbare hlt hsz5 hk5 WS GA=>?_
 ·rcases ZQ hb with rfl | hb
  ·exact hsz3
  ·rw [List.mem_singleton] at hb;subst hb;exact Nat.lt_trans ha hsz3
 ·have item:∀(i:Nat) v,us.toArray[i]?=some v→∃d,xs[i]?=some d∧VR c.p c.w g d v:=fun i v hv=>YO hvs (by simpa using hv);have sb:∀s₂:Shared,(∀b∈List.range h3'.objs.size,b∉[s1.heap.objs.size]→∀ob,href.get? b=some ob→s₂.heap.get? b=some ob)→Sub g s₂.heap:=fun s₂ hk b ob e=>hk b (ZeK (Kk (subg _ _ e))) (fun hm=>by
   rw [List.mem_singleton] at hm
   have:=Kk (W.keep _ _ e);rw [hm] at this;exact absurd this (Nat.lt_irrefl _)) ob (hkeep _ _ (subg _ _ e))
  have gf:GenFr c.G scope (genEnv scope [] h3'.objs.size code builtinsNs c.env):=⟨rfl,c.hg,rfl⟩
  exact {
   tests:=fun A' E' i v s₂ m₂ q1 q2 q3 q4 q5 q6 q7=>by
    refine Zb (item i v q4) fun d e1 e2=>?_
    have:=(hT d (Kj e1) A' E' _ s₂ m₂ g v gf q1 (by lia) q5 q6 W.base (sb s₂ q7) e2).1;rw [e1];exact this
   elt:=fun A' E' i v s₂ m₂ q1 q2 q3 q4 q4' q5 q6 q7=>by
    refine Zb (item i v q4) fun d e1 e2=>?_;rw [e1] at q4'
    have:=(hT d (Kj e1) A' E' _ s₂ m₂ g v gf q1 (by lia) q5 q6 W.base (sb s₂ q7) e2).2 q4';exact wpm this (fun y s₃ zq1=>by refine oza zq1 fun y1 y2=>?_;exact ⟨⟨d,e1,y1⟩,y2⟩)}
 ·have hul':us.toArray.size=xs.length:=by simp [(Zu hvs)]
  rw [hul'] at WS GA;refine cont a' _ (.mk h3'.objs.size [h3'.objs.size,s1.heap.objs.size] s1.gens.size (List.range h3'.objs.size) _ rfl (Zer WS pl fun j y zq2=>?_) GA (fun b hb=>?_) fun s'' hm=>?_)
  ·refine Ka fun zn7=>?_;refine ZiW zq2 fun i hi d ed hF=>?_;refine Zb (pm j i hi) fun d' e1 e2=>?_;refine zn7 ?_;rw [ed] at e1;obtain rfl:=Kc e1;exact ⟨d,e2,hF⟩
  ·rw [hsz5];rcases List.mem_cons.mp hb with rfl | hb
   ·exact Nat.lt_succ_self _
   rcases List.mem_cons.mp hb with rfl | hb
   ·exact Nat.lt_succ_of_lt hlt
   ·exact Nat.lt_succ_of_lt (Nat.lt_trans (List.mem_range.mp hb) hlt)
  ·have far:∀b,b<s1.heap.objs.size→b∉[h3'.objs.size,s1.heap.objs.size]:=fun b hb hm=>by
    rcases List.mem_cons.mp hm with rfl | hm
    ·exact absurd (Nat.lt_trans hb hsz3) (Nat.lt_irrefl _)
    ·rw [List.mem_singleton] at hm;subst hm;exact absurd hb (Nat.lt_irrefl _)
   have kp:∀b ob,s1.heap.get? b=some ob→b≠P→s''.heap.get? b=some ob:=fun b ob e hb=>hm.heap b ob (far b (Kk e)) (hk5 _ _ (hext _ _ hb (pu _ _ e)));have hP3:∃ob ps,s''.heap.get? P=some ob∧ob={cls:=.none,data:=.fields ps}∧TriplesOk ps.toList:=by
    refine Ka fun zn8=>?_;obtain ⟨u,u,u,u,u,u,u,u,u,op',u,u,u,u,u,u,u,r1,r2,r3,u⟩:=hcode';refine zn8 ?_;exact ⟨_,ps',hm.heap P _ (far P (Kk hopP)) (hk5 _ _ htab'.2),rfl,r3⟩
   have H2:HS c.G F s'' g:=W.toHS.turnTo (fun b ob e hb=>kp b ob e (hb _ hP)) (fun r hr=>by
    refine oze (GK.reg r hr) fun Q' zo1=>?_;subst zo1;by_cases hq:Q'=P
    ·subst hq;refine Ka fun zn10=>?_;refine Zc hP3 fun ob ps q1 q2 q3=>?_;refine zn10 ?_;exact ⟨ob,q1,ps,q2,q3⟩
    ·refine Ka fun zn11=>?_;refine YM (W.reg _ hr) fun u ob q1 q2=>?_;refine zn11 ?_;exact ⟨ob,kp _ _ q1 hq,q2⟩) (fun i y hy=>by
    have e1:=W.gens i y hy;have hi:i<s1.gens.size:=(Array.getElem?_eq_some_iff.mp e1).1;have e2:(s1.gens.push gs)[i]?=some y:=by rw [Array.getElem?_push_lt hi];rw [Array.getElem?_eq_getElem hi] at e1;exact e1
    rcases hm.gens with q | ⟨⟨_,q⟩,_⟩
    ·rw [q];exact e2
    ·rw [q i (Nat.ne_of_lt hi)];exact e2) (fun y hy=>by
    have hb5:AllBare (s1.gens.push gs):=W.bare.push hbare;rcases hm.gens with q | ⟨⟨qs,q⟩,q2⟩
    ·rw [q] at hy;exact hb5 y hy
    ·refine Ka fun zn12=>?_;obtain ⟨k,hk,ek⟩:=Array.getElem_of_mem hy;refine zn12 ?_;have e1:s''.gens[k]?=some y:=by rw [Array.getElem?_eq_getElem hk,ek]
     by_cases hk':k=s1.gens.size
     ·subst hk';exact q2 y e1
     ·rw [q k hk'] at e1;exact hb5 y (Array.mem_of_getElem? e1)) hm.os
   exact ⟨g,ρ,m,(W.onto H2 (Sub.refl _) (fun b hb=>W.nomut b (ZT hb)) fun b hb ob e=>kp b ob e ((W.apart b hb).1 _ hP)).stack (Za W.stk)⟩
theorem ZfE {F:Fz}{vs:List Value}{s1:Shared}{g:Heap}{ρ:List Addr}{m:Str→Option Value}{P:Addr}{st:St}(W:RSW c F st vs s1 g ρ m) (hP:Yu P∈c.G.reg) {a:Addr}{ol:Obj}(hol:s1.heap.get? a=some ol) (hs:∀ps,ol.data≠.fields ps) (h:Heap) (hk:∀b ob,s1.heap.get? b=some ob→b≠P→h.get? b=some ob):h.get? a=some ol :=
 hk a ol hol fun q=>by
  obtain ⟨j,op,hop,ps,hps,j⟩:=W.reg _ hP;rw [show (Yu P).at_=a from q.symm,hol] at hop;obtain rfl:=Kc hop;exact hs ps (by rw [hps])
theorem Zce {F:Fz}{vs:List Value}{s:Shared}{elt iter:Expr}{x:Str}{px pos:Pos}{ifs:List Expr}{scope:Scope}{cda P:Addr}{Qv:Value→Shared→Prop}(GK:GenOk c.G K) (hP:Yu P∈c.G.reg) (hcode:c.env.code = .ref cda) (htab:WK K cda P=true) (hne:cda≠P)
 (hsc:Xs scope x=true) (hf:(∀v,genFold iter c.env v=pure v)∨∃els lp,iter = .List els lp∧Zt els=true) {QX:List D→Prop} {tz:D→Bool} {Fd:D→Value→Prop}
 (h:EJ c iter ⟨l,o,k⟩ fun st1=>∃xs,st1=⟨l,o,.d (.list xs)::k⟩∧xs.length≤1000∧(∀d∈xs,Xx c scope x ifs elt tz Fd d)∧QX xs) (R:RS c F ⟨l,o,k⟩ vs s) (hfu:3≤c.fuel)
 (cont:∀xs a s',QX xs→GenR c F ⟨l,o,k⟩ vs xs tz Fd a s'→Qv (.ref a) s'):wpAny (model c.p c.w) c.A (eval (.GeneratorExp elt [⟨.Name x px,iter,ifs,0⟩] scope pos) c.env) Qv NoE s:=by
 unfold Xs at hsc;simp only [Bool.and_eq_true,beq_iff_eq,Bool.not_eq_true'] at hsc;refine oza hsc fun zo4 h5=>?_;refine oza zo4 fun zo3 h4=>?_;refine oza zo3 fun zo2 h3=>?_;obtain ⟨h1,h2⟩:=zo2;have hd:=c.hd;refine ZeY c.hh h1 (Zap h2) (fun y hy=>by simpa using (Yp (ZbI h2 y hy)).1) h3 h4 h5 (by exact Nat.lt_of_le_of_lt (Ko _ _) (by assumption)) ?_;refine wpm (h F vs s R) (fun v s1 zq3=>?_);obtain ⟨st1,⟨g,ρ,m,W⟩,xs,e1,hx,hT,hQ⟩:=zq3;subst e1;refine Zc (Zd W.stk) fun a us zo5 hfl hvs=>?_;subst zo5;refine Y4 (isList_sub W.keep hfl) fun ol hol h6 n0 h7=>?_;have lst:wpAny (model c.p c.w) c.A (pyIter (.ref a)) (fun it s₂=>s₂.heap.NoLimit∧wpAny (model c.p c.w) c.A (genexprCode c.env pos (c.env.qual++"<genexpr>") scope) (fun code s₃=>wpAny (model c.p c.w) c.A (builtinsFor c.env.globals c.env.builtins) (fun bi s₄ =>
  GenW c.p c.w c.A x ifs elt (genEnv scope [] s₄.heap.objs.size code bi c.env) it Qv s₄) NoE s₃) NoE s₂) NoE s1:=wpAny_pyIter_list ⟨ol,hol,h6,n0,h7⟩ (Zdq (IsIt:=fun i h=>h.IsListIter s1.heap.objs.size a i) (IsSrc:=fun h=>h.IsList a us.toArray) GK hP hcode htab hne hfu W hvs hT (Kk hol) (Kh _ rfl) (fun h e=>⟨_,e,rfl,rfl⟩) (fun h hk=>⟨ol,ZfE W hP hol (fun ps e=>nomatch h7.symm.trans e) h hk,h6,n0,h7⟩)
  (fun A' hA=>Walks.list hA _ a (Nat.ne_of_lt (Kk hol)) us.toArray) fun a' s'=>cont xs a' s' hQ)
 rcases hf with hf | ⟨els,lp,rfl,hns⟩
 ·rw [hf];exact Ki lst
 ·refine Kd (wpAny_askSetting (wpAny_ite ?_));split
  ·exact Ki lst
  ·clear lst
   try dsimp only
   split
   ·rename_i hany;refine Zb (List.any_eq_true.mp hany) fun e he hm=>?_;have hne':Yn e=false:=by simpa using ZbI hns e he
    exfalso;induction e using Expr.casesOn <;> first | (exact Ze2 hne';done) | exact YU hm
   refine Kd (wpAny_rule (Kd (wpAny_seqItems hol h7 ?_)));have hul:=Zu hvs;refine wpAny_newTuple ?_ (by rw [sizeLine_eq];dsimp only [Option.getD_some];omega);have Wn:=W.alloc {cls:=.type "tuple",data:=.seq us.toArray} s1.toks;dsimp only [Option.getD_some,Array.toArray_toList];have ht:(s1.heap.push {cls:=.type "tuple",data:=.seq us.toArray}).get? s1.heap.objs.size=some {cls:=.type "tuple",data:=.seq us.toArray}:=Kh _ rfl;generalize s1.heap.push {cls:=.type "tuple",data:=.seq us.toArray}=h2 at Wn ht ⊢
   exact wpAny_pyIter_tuple ⟨_,ht,rfl,0,rfl⟩ (Zdq (s1:={s1 with heap:=h2}) (IsIt:=fun i h=>h.IsTupleIter h2.objs.size s1.heap.objs.size i) (IsSrc:=fun h=>h.IsTuple s1.heap.objs.size us.toArray) GK hP hcode htab hne hfu Wn hvs hT (Kk ht) (Kh _ rfl) (fun h e=>⟨_,e,rfl,rfl⟩) (fun h hk=>⟨_,ZfE Wn hP ht (fun ps e=>nomatch e) h hk,rfl,0,rfl⟩)
    (fun A' hA=>Walks.tuple hA _ _ (Nat.ne_of_lt (Kk ht)) us.toArray) fun a' s'=>cont xs a' s' hQ)
theorem ZbS {elt iter:Expr}{x:Str}{px p0 gpos pos:Pos}{ifs:List Expr}{scope:Scope}{cda P:Addr}(GK:GenOk c.G K) (hP:Yu P∈c.G.reg) (hcode:c.env.code = .ref cda) (htab:WK K cda P=true) (hne:cda≠P)
 (hsc:Xs scope x=true) (hf:(∀v,genFold iter c.env v=pure v)∨∃els lp,iter = .List els lp∧Zt els=true) {tz:D→Bool} (hsum:IsG c "sum" (.builtin "sum")) (hfu:3≤c.fuel)
 (h:EJ c iter ⟨l,o,.d (.val (.builtin "sum"))::k⟩ fun st1=>∃xs,st1=⟨l,o,.d (.list xs)::.d (.val (.builtin "sum"))::k⟩∧xs.length≤1000∧(∀d∈xs,Xx c scope x ifs elt tz (fun j y=>∃t,y = .int 1 t) d)∧Q ⟨l,o,.d (.int (xs.filter tz).length)::k⟩) :
 EJ c (.Call (.Name "sum" p0) [.GeneratorExp elt [⟨.Name x px,iter,ifs,0⟩] scope gpos] [] pos) ⟨l,o,k⟩ Q:=fun F vs s R=>by
 refine wpq (Y2 _ _ _ rfl) ?_;refine Kd (wpm (Z2 (Q:=fun st=>st=⟨l,o,.d (.val (.builtin "sum"))::k⟩) hsum rfl F vs s R) (fun f s1 zq4=>?_));obtain ⟨st1,R1,h1⟩:=zq4;subst h1;obtain rfl:f = .builtin "sum":=by refine ozr R1 fun g ρ m W=>?_;exact Zd W.stk
 refine W.callWith_of (P:=fun h=>ZF c (.builtin "sum") h) rfl (fun h hk=>hk) ?_;rw [ZP _ _ rfl];refine evalArgs_plain (Calls.spliced_cons (Zce GK hP hcode htab hne hsc hf h R1 hfu fun xs a s' hQ zq5=>?_));obtain ⟨C,wr,g,fp,n,hn,W,St,hfp,back⟩:=zq5;refine Calls.spliced_nil ⟨Zj,?_⟩;refine call_sum_walkAnyS (W.of_in1.of_in1.of_in1.self 0 s' _ _ St ⟨a,_,_,_,n,_,_,fun j=>1,rfl,W.of_in1.of_in1.of_in1,St,hfp,fun i v hv=>?_,fun s'' t' hm=>?_⟩)
 ·refine ZhD hv fun d j t e=>?_;exact ⟨t,e⟩
 ·rw [Zbs,hn];refine ozr (back s'' hm) fun g' ρ m W'=>?_;exact ⟨_,⟨g',ρ,m,W'.stack (Zg YE (Za W'.stk))⟩,hQ⟩
theorem Zhg {elt iter:Expr}{x:Str}{px p0 gpos pos:Pos}{ifs:List Expr}{scope:Scope}{cda P:Addr}(GK:GenOk c.G K) (hP:Yu P∈c.G.reg) (hcode:c.env.code = .ref cda) (htab:WK K cda P=true) (hne:cda≠P)
 (hsc:Xs scope x=true) (hf:(∀v,genFold iter c.env v=pure v)∨∃els lp,iter = .List els lp∧Zt els=true) {tz:D→Bool} (hany:IsG c "any" (.builtin "any")) (hfu:3≤c.fuel)
 (h:EJ c iter ⟨l,o,.d (.val (.builtin "any"))::k⟩ fun st1=>∃xs,st1=⟨l,o,.d (.list xs)::.d (.val (.builtin "any"))::k⟩∧xs.length≤1000∧(∀d∈xs,Xx c scope x ifs elt tz (fun j y=>y = .bool false) d)∧Q ⟨l,o,.d (.bool false)::k⟩) :
 EJ c (.Call (.Name "any" p0) [.GeneratorExp elt [⟨.Name x px,iter,ifs,0⟩] scope gpos] [] pos) ⟨l,o,k⟩ Q:=fun F vs s R=>by
 refine wpq (Y2 _ _ _ rfl) ?_;refine Kd (wpm (Z2 (Q:=fun st=>st=⟨l,o,.d (.val (.builtin "any"))::k⟩) hany rfl F vs s R) (fun f s1 zq6=>?_));obtain ⟨st1,R1,h1⟩:=zq6;subst h1;obtain rfl:f = .builtin "any":=by refine ozr R1 fun g ρ m W=>?_;exact Zd W.stk
 refine W.callWith_of (P:=fun h=>ZF c (.builtin "any") h) rfl (fun h hk=>hk) ?_;rw [ZP _ _ rfl];refine evalArgs_plain (Calls.spliced_cons (Zce GK hP hcode htab hne hsc hf h R1 hfu fun xs a s' hQ zq7=>?_));obtain ⟨C,wr,g,fp,n,hn,W,St,hfp,back⟩:=zq7;refine Calls.spliced_nil ⟨Zj,?_⟩;refine call_any_walkS (W.of_in1.of_in1.of_in1.self 0 s' _ _ St ⟨a,_,_,_,n,_,_,fun j=>false,rfl,W.of_in1.of_in1.of_in1,St,fun i v s Q E hv hq=>?_,fun s'' hm=>?_⟩)
 ·refine Zb hv fun d j e=>?_;subst e;exact wpAny_truthy_bool hq
 ·have:((List.range n).any fun j=>false)=false:=by simp
  rw [this];refine ozr (back s'' hm) fun g' ρ m W'=>?_;exact ⟨_,⟨g',ρ,m,W'.stack (Zg ZJ (Za W'.stk))⟩,hQ⟩
end
end
section
section
variable {w:World}{c:Cx}{l:List (Nat×A)}{o:List O}{Q:Fl→St→Prop}
theorem Zdz {m:Nat}{H:Hi}(X:EnvOk c (EK (kk2 w.params) 109 m H)) (h1:ZD 1 l=some (.d (.list [.str "a"]))) (q:Q .next ⟨l,o,[]⟩):XJ c [YV (mAt pw2 7 0) [0]] ⟨l,o,[]⟩ Q:=by
 have L1:=X.l "keyids" 1 (by kd_p);have G0:=X.g "len" (.builtin "len") (by kd_p) (X.gl _ _ (by kd_p));refine Yg (ZdK (Uh (ZgB rfl G0 (X.g "set" (.type "set") (by kd_p) (X.gl _ _ (by kd_p))) (Zm L1 h1 ⟨_,_,"a",rfl,?_⟩)) rfl));refine Zff (Z2 G0 (ZY (Zm L1 h1 (XQ (ZeF (by decide) (Zib (YT ⟨fun h=>absurd h (by decide),fun j=>Z5 ?_⟩)))))));exact Z5 q
end
variable {G:Gx}{w:World}
noncomputable def ZmC (u:A):List (Str×A):=[("keyids",.d (.list [.str "a"])),("threshold",.d (.int 1)),("unrecognized_fields",u)]
theorem Zeb (I:IsK kk2 G w):OSpecC G (.ref 109) 2 [.inst 201 1,.dict [] 0] [.own 0,.d (.list [.str "a"]),.d (.int 1),.d .none] fun r os'=>r = .d .none∧∃ep,os'=[.inst 201 1,.dict (ZmC (.own 2)) ep,.dict [] 0] :=
 Zfw I (need:=1) fun cx hG hF E=>Stop.mk (Zdz (E.ok I {} hG) rfl fun j j e=>⟨rfl,e,by kd_p⟩)
theorem ZcB (I:IsK kk2 G w) {e0:Nat}:OSpecC G (.ref 109) 2 [.dict [] e0,.inst 201 2,.dict [] 0] [.own 1,.d (.list [.str "a"]),.d (.int 1),.own 0] fun r os'=>r = .d .none∧∃ep,os'=[.dict [] e0,.inst 201 2,.dict (ZmC (.own 0)) ep] :=
 Zfw I (need:=1) fun cx hG hF E=>Stop.mk (Zdz (E.ok I {} hG) rfl fun j j e=>⟨rfl,e,by kd_p⟩)
section
variable {c:Cx}{l:List (Nat×A)}{o:List O}{Q:Fl→St→Prop}
structure DelF (w:World) (c:Cx):Prop where
 X:EnvOk c (EK (kk2 w.params) 157 0 {rw:=[153,155,157]})
 gen:GenOk c.G (kk2 w.params)
 r1:Yu 152∈c.G.reg
 code:c.env.code = .ref 156
 fuel:3≤c.fuel
theorem ZmM (D:DelF w c) {p h:Option (List Str)}(hp:((p.isSome&&h.isNone)||(p.isNone&&h.isSome))=true) (h8:ZD 8 l=some (.d (.list [Xa p,Xa h]))) (q:Q .next ⟨l,o,[]⟩):XJ c [YV (mAt pw2 8 0) [4]] ⟨l,o,[]⟩ Q:=by
 have G1:=D.X.g "sum" (.builtin "sum") (by kd_p) (D.X.gl _ _ (by kd_p));refine Yg (ZdK (Uh (ZbS (tz:=fun d=>!Xk d) D.gen D.r1 D.code (by kd_p) (by decide) (by kd_p) (.inl fun j=>rfl) G1 D.fuel (Zm (D.X.l "exclusive_vars" 8 (by kd_p)) h8 ⟨_,rfl,Nat.le_of_ble_eq_true rfl,fun d hd=>XE (by kd_p) rfl ?_ (by kd_p),ZfG (Zib (YT ⟨fun z=>?_,fun j=>Z5 (Z5 q)⟩))⟩))))
 ·rcases List.mem_cons.mp hd with rfl | hd
  ·induction p using Option.casesOn <;> trivial
  ·rw [List.mem_singleton] at hd;subst hd;induction h using Option.casesOn <;> trivial
 ·induction p using Option.casesOn <;> induction h using Option.casesOn <;> first | exact YU hp;done | exact YU z
noncomputable def Zd1 (sc:Scope):Bool:=Xs sc "p"&&(sc.names.lookup ("p":Str)==some .local&&sc.names.lookup ("isinstance":Str)==some .globalImplicit&&sc.names.lookup ("str":Str)==some .globalImplicit&&sc.kind == .function)
theorem ZfZ (D:DelF w c) {i m:Nat}{x:Str}{p:Option (List Str)}(hpl:∀xs,p=some xs→xs.length≤1000) (L:IsL c x i) (hx:ZD i l=some (.d (Xa p))) {px p1 p2 p3 p4 p5 p6 q1 q2 q3 q4 q5 q6 b1 b2:Pos}{sc:Scope}{ts:List Stmt}
 (hs:Zd1 sc=true) (q:Q .next ⟨l,o,[]⟩) :
 SJ c (.If (.BoolOp .And [.Compare (.Name x p1) [.IsNot] [.Constant .none m p2] p3,.Call (.Name "any" p4) [.GeneratorExp (.UnaryOp .Not (.Call (.Name "isinstance" q1) [.Name "p" q2,.Name "str" q3] [] q4) q5) [⟨.Name "p" px,.Name x p5,[],0⟩] sc q6] [] p6] b1) ts [] b2) ⟨l,o,[]⟩ Q:=by
 unfold Zd1 at hs;simp only [Bool.and_eq_true,beq_iff_eq] at hs;refine ZdK (Zfl (Zgk (Uh (Zm L hx (Zcl ?_)) rfl)))
 match p,hpl with
 | none,_=>exact Y9 trivial (YT ⟨fun z=>(nomatch z),fun j=>⟨fun z=>(nomatch z),fun j=>Z5 q⟩⟩)
 | some xs,hpl =>
  refine Y9 trivial (YT ⟨fun j=>Zgk (ZfF ?_),fun z=>(nomatch z)⟩);refine Zhg (tz:=fun j=>true) D.gen D.r1 D.code (by kd_p) (by decide) hs.1 (.inl fun j=>rfl) (D.X.g "any" (.builtin "any") (by kd_p) (D.X.gl _ _ (by kd_p))) D.fuel (Zm L hx ⟨_,rfl,by rw [List.length_map];exact hpl xs rfl,fun d hd=>?_,YT ⟨fun z=>(nomatch z),fun j=>⟨fun z=>(nomatch z),fun j=>Z5 q⟩⟩⟩);refine Zb (List.mem_map.mp hd) fun t j zo1=>?_;subst zo1;exact Zck (D.X.gl "isinstance" _ (by kd_p)) (D.X.gl "str" _ (by kd_p)) hs.2.1.1.1 hs.2.1.1.2 hs.2.1.2 hs.2.2 ⟨t,rfl⟩ (by decide)
theorem ZhR (D:DelF w c) {p:Option (List Str)}(hpl:∀xs,p=some xs→xs.length≤1000) (hx:ZD 5 l=some (.d (Xa p))) (q:Q .next ⟨l,o,[]⟩):XJ c [YV (mAt pw2 8 0) [5]] ⟨l,o,[]⟩ Q :=
 Yg (ZfZ D hpl (D.X.l "paths" 5 (by kd_p)) hx (by kd_p) (Z5 q))
theorem Zj0 (D:DelF w c) {p:Option (List Str)}(hpl:∀xs,p=some xs→xs.length≤1000) (hx:ZD 6 l=some (.d (Xa p))) (q:Q .next ⟨l,o,[]⟩):XJ c [YV (mAt pw2 8 0) [6]] ⟨l,o,[]⟩ Q :=
 Yg (ZfZ D hpl (D.X.l "path_hash_prefixes" 6 (by kd_p)) hx (by kd_p) (Z5 q))
end
theorem Zle (I:IsX G w) {c:Cx}(hG:c.G=G) (cE:c.env=callEnv (Zk (kk2 w.params) 157) c.env.locals 157) (cT:c.tab=Zf (Zk (kk2 w.params) 157).scope) (cC:c.cel=[]) (cF:c.fuel=4):DelF w c where
 X:=Zqm I.k hG (by rw [cE];rfl) cT cC
 gen:=hG▸I.gen
 r1:=hG▸I.r1
 code:=by rw [cE];exact (by kd_p:(Zk (kk2 w.params) 157).code = .ref 156)
 fuel:=by rw [cF];decide
theorem Za3 (I:IsX G w) {n:Nat}{args:List A}{nm:Str}{tm:Bool}{p h:Option (List Str)}(hp:((p.isSome&&h.isNone)||(p.isNone&&h.isSome))=true) (hpl:∀xs,p=some xs→xs.length≤1000) (hhl:∀xs,h=some xs→xs.length≤1000)
 (hn:args.length=n) (hle:n≤8) (hbind:∀us:List Value,us.length=n→∀S,W.peek (kk2 w.params) S (bindArgs (Zk (kk2 w.params) 157) ⟨us,[]⟩)=some ((["self","name","keyids","threshold","terminating","paths","path_hash_prefixes","unrecognized_fields"]:List Str).zip (us++List.replicate (8 - n) Value.none)))
 (hl:args++List.replicate (8 - n) (.d .none)=[.own 0,.d (.str nm),.d (.list [.str "a"]),.d (.int 1),.d (.bool tm),.d (Xa p),.d (Xa h),.d .none]) :
 OSpecC G (.ref 157) 5 [.inst 201 1,.dict [] 0] args fun r os'=>r = .d .none∧Frz os' 0 (.own 0) (UD nm tm ["a"] p h []):=by
 refine Ka fun zn1=>?_;obtain ⟨ar,vs,file,tf,cls,ccl,cel,cdd,ced,ccs,ces,cd,S⟩:=Zqh w;refine zn1 ?_;rw [←I.p] at S;refine ZhL (n:=n) (targs:=[.d (.list [.str "a"]),.d (.int 1),.d .none]) (loc':=[(0,.own 0),(1,.d (.str nm)),(2,.d (.list [.str "a"])),(3,.d (.int 1)),(4,.d (.bool tm)),(5,.d (Xa p)),(6,.d (Xa h)),(7,.d .none)]) (rest:=(Zfr (kk2 w.params) 157).tail) I.k S (by kd_p1) (fun j=>_) (fun j=>rfl) (fun j=>rfl) (by kd_p1) hn hle hbind (fun q hq=>?_) rfl rfl (ZmF (Zeb I.k)) ?_ ?_
 ·subst hn;obtain ⟨x,h1,j,h3⟩:=Zs (names:=["self","name","keyids","threshold","terminating","paths","path_hash_prefixes","unrecognized_fields"]) (args:=[.own 0,.d (.str nm),.d (.list [.str "a"]),.d (.int 1),.d (.bool tm),.d (Xa p),.d (Xa h),.d .none]) [0,1,2,3,4,5,6,7] (by kd_p) rfl q hq;exact ⟨x,h1,(congrArg (fun z=>(x,q.2)∈List.zip _ z) hl).mpr h3⟩
 ·intro c hG cE cT cC cF;have D:=Zle I hG cE cT cC cF;exact ZY (Zm (D.X.l "keyids" 2 (by kd_p)) rfl (ZY (Zm (D.X.l "threshold" 3 (by kd_p)) rfl (ZY (Zm (D.X.l "unrecognized_fields" 7 (by kd_p)) rfl (XQ rfl))))))
 ·rintro c hG cE cT cC cF os' ⟨ep,rfl⟩;have D:=Zle I hG cE cT cC cF;refine (Uw D.X (Zqg w) (Q:=Xv _) ?_).mono fun j j q=>Zbi q;intro j j;exact Stop.mk (ZmM D hp rfl (Stop.mk (ZhR D hpl rfl (Stop.mk (Zj0 D hhl rfl fun j j=>⟨rfl,WM (n:=9) (by kd_p)⟩)))))
theorem Zi0 (I:IsX G w) {nm:Str}{tm:Bool}{p:List Str}(hpl:p.length≤1000):Zr G (.ref 201) 6 [.str nm,.list [.str "a"],.int 1,.bool tm,.list (p.map .str)] fun d=>d=UD nm tm ["a"] (some p) none [] :=
 ZfJ I.k (Ziw w) (Za3 I (n:=6) (p:=some p) (h:=none) rfl (fun j e=>by obtain rfl:=Kc e;exact hpl) (fun j e=>nomatch e) rfl (by decide) (ln6 fun b0 b1 b2 b3 b4 b5 S=>by kd_p) rfl)
theorem Zj8 (I:IsX G w) {nm:Str}{tm:Bool}{h:List Str}(hpl:h.length≤1000):Zr G (.ref 201) 6 [.str nm,.list [.str "a"],.int 1,.bool tm,.none,.list (h.map .str)] fun d=>d=UD nm tm ["a"] none (some h) [] :=
 ZfJ I.k (Ziw w) (Za3 I (n:=7) (p:=none) (h:=some h) rfl (fun j e=>nomatch e) (fun j e=>by cases e;exact hpl) rfl (by decide) (ln7 fun b0 b1 b2 b3 b4 b5 b6 S=>by kd_p) rfl)
theorem ZbJ (I:IsX G w) {nm:Str}{tm:Bool}{p h:Option (List Str)}{e0:Nat}(hp:((p.isSome&&h.isNone)||(p.isNone&&h.isSome))=true) (hpl:∀xs,p=some xs→xs.length≤1000) (hhl:∀xs,h=some xs→xs.length≤1000) :
 OSpecC G (.ref 157) 5 ([.dict [] e0]++[.inst 201 2,.dict [] 0]) [.own 1,.d (.str nm),.d (.list [.str "a"]),.d (.int 1),.d (.bool tm),.d (Xa p),.d (Xa h),.own 0] fun r os'=>r = .d .none∧∃ep,os'=[.dict [] e0,.inst 201 2,.dict (ZdJ nm tm ["a"] p h (.own 0)) ep]:=by
 refine Ka fun zn3=>?_;obtain ⟨ar,vs,file,tf,cls,ccl,cel,cdd,ced,ccs,ces,cd,S⟩:=Zqh w;refine zn3 ?_;rw [←I.p] at S;refine ZhL (n:=8) (targs:=[.d (.list [.str "a"]),.d (.int 1),.own 0]) (loc':=[(0,.own 1),(1,.d (.str nm)),(2,.d (.list [.str "a"])),(3,.d (.int 1)),(4,.d (.bool tm)),(5,.d (Xa p)),(6,.d (Xa h)),(7,.own 0)]) (rest:=(Zfr (kk2 w.params) 157).tail) I.k S (by kd_p1) (fun j=>_) (fun j=>rfl) (fun j=>rfl) (by kd_p1) rfl (by decide) (ln8 fun b0 b1 b2 b3 b4 b5 b6 b7 S=>by kd_p) (Zhe [0,1,2,3,4,5,6,7] (by kd_p)) rfl rfl (ZmF (ZcB I.k)) ?_ ?_
 ·intro c hG cE cT cC cF;have D:=Zle I hG cE cT cC cF;exact ZY (Zm (D.X.l "keyids" 2 (by kd_p)) rfl (ZY (Zm (D.X.l "threshold" 3 (by kd_p)) rfl (ZY (Zm (D.X.l "unrecognized_fields" 7 (by kd_p)) rfl (XQ rfl))))))
 ·rintro c hG cE cT cC cF os' ⟨ep,rfl⟩;have D:=Zle I hG cE cT cC cF;refine (Uw D.X (Zqg w) (Q:=Xv _) ?_).mono fun j j q=>Zbi q;intro j j;exact Stop.mk (ZmM D hp rfl (Stop.mk (ZhR D hpl rfl (Stop.mk (Zj0 D hhl rfl fun j e=>⟨rfl,e,by kd_p⟩)))))
theorem Ud (I:IsX G w) {nm:Str}{tm:Bool}{p h:Option (List Str)}{e0:Nat}(hp:((p.isSome&&h.isNone)||(p.isNone&&h.isSome))=true) (hpl:∀xs,p=some xs→xs.length≤1000) (hhl:∀xs,h=some xs→xs.length≤1000) :
 OSpecC G (.ref 171) 8 [.dict ((Zbg nm tm ["a"] p h).map fun e=>(e.1,A.d e.2)) e0] [.d (.val (.ref 201)),.own 0] fun r os'=>r = .own 1∧∃e1 ep,os'=[.dict [] e1,.inst 201 2,.dict (ZdJ nm tm ["a"] p h (.own 0)) ep] :=
 Zko I.k (need:=7) fun cx hG hF u=>by
  have M:∀e1,OSpecC cx.G (.ref 201) 6 [.dict [] e1] [.d (.str nm),.d (.list [.str "a"]),.d (.int 1),.d (.bool tm),.d (Xa p),.d (Xa h),.own 0] fun r os'=>r = .own 1∧∃ep,os'=[.dict [] e1,.inst 201 2,.dict (ZdJ nm tm ["a"] p h (.own 0)) ep] :=
   fun e1=>hG▸Wc I.k (Ziw w) (ZbJ I hp hpl hhl)
  have key:∀e1 l k Q,(∀ep,Q ⟨l,[.dict [] e1,.inst 201 2,.dict (ZdJ nm tm ["a"] p h (.own 0)) ep],.own 1::k⟩)→CJ cx 7 ⟨l,[.dict [] e1],.own 0::.d (Xa h)::.d (Xa p)::.d (.bool tm)::.d (.int 1)::.d (.list [.str "a"])::.d (.str nm)::.d (.val (.ref 201))::k⟩ Q:=fun e1 l k Q q=>by
   refine ZaC [0] (os:=[.dict [] e1]) (args:=[.d (.str nm),.d (.list [.str "a"]),.d (.int 1),.d (.bool tm),.d (Xa p),.d (Xa h),.own 0]) (OSpecC.toO (M e1)) (ZfA I.k (by kd_p) hG) (by rw [hF];decide) rfl (by simp) rfl (fun j i h=>?_) ?_
   ·induction j using Nat.casesOn with
    | zero=>obtain rfl:=Kc h;exact ⟨_,rfl,rfl⟩
    | succ j=>exact Zo h
   ·rintro u os' ⟨rfl,ep,rfl⟩;exact q ep
  clear M hpl hhl;induction p with
  | none=>induction h with
   | none=>exact YU hp
   | some xs =>
    clear hp;intro u u u u u e1;refine Stop.mk ?_;refine key _ _ _ _ fun ep=>?_;exact ⟨rfl,_,_,rfl⟩
  | some ys=>induction h with
   | some xs=>exact YU hp
   | none =>
    clear hp;intro u u u u u e1;refine Stop.mk ?_;refine key _ _ _ _ fun ep=>?_;exact ⟨rfl,_,_,rfl⟩
end
section
variable {G:Gx}{w:World}
section
variable {c:Cx}{m:Nat}{l:List (Nat×A)}{o:List O}{Q:Fl→St→Prop}
structure DelsF (w:World) (m:Nat) (c:Cx):Prop where
 X:EnvOk c (EK (kk2 w.params) 292 m {rw:=[262,264]})
 gen:GenOk c.G (kk2 w.params)
 r2:Yu 287∈c.G.reg
 code:c.env.code = .ref 291
 fuel:3≤c.fuel
 K:KIn c (kk2 w.params)
theorem ZmU (I:IsX G w) {c:Cx}{m:Nat}(hG:c.G=G) (hF:c.fuel=4) (E:EntF (kk2 w.params) 292 m c):DelsF w m c where
 X:=E.ok I.k _ hG
 gen:=hG▸I.gen
 r2:=hG▸I.r2
 code:=by rw [E.env];exact (by kd_p:(Zk (kk2 w.params) 292).code = .ref 291)
 fuel:=by rw [hF];decide
 K:=kIn I.k hG
theorem ZjU (V:DelsF w m c) {x:Str}(hx:x∈(["p","q","r"]:List Str)) (h5:ZD 5 l=some (.d (.str x))) {s:List A}(q:Q .next ⟨l,o,s⟩):XJ c [YV (mAt pw2 11 0) [2,0,0]] ⟨l,o,s⟩ Q:=by
 have L5:=V.X.l "role" 5 (by kd_p);have h:x.length=1∧((["root","timestamp","snapshot","targets"]:List Str).any (· == x))=false:=(by decide:∀y∈(["p","q","r"]:List Str),y.length=1∧((["root","timestamp","snapshot","targets"]:List Str).any (· == y))=false) x hx;refine Yg (ZdK (Zfl (ZlG (ZmT (ZfF (Zm L5 h5 (Zmx (by rw [h.1];decide) ⟨fun j=>ZlG (Uh (Zm L5 h5 (Z2 (V.X.g "TOP_LEVEL_ROLE_NAMES" (.ref 75) (by kd_p) (V.X.gl _ _ (by kd_p))) (ZiJ V.K (YT ⟨fun j=>Zen ⟨fun z=>(nomatch z),fun j=>Z5 (Z5 q)⟩,fun z=>?_⟩))))),fun z=>?_⟩)))))))
 ·exact absurd (h.2.symm.trans z) (fun e=>nomatch e)
 ·rw [h.1] at z;cases z
theorem ZiM (V:DelsF w m c) {p:Pos}{ok:St→Prop}(hok:∀l,ok ⟨l,o,[]⟩) (q:Q .next ⟨(5,.d (.str "r"))::(5,.d (.str "q"))::(5,.d (.str "p"))::l,o,[]⟩) :
 Zak c (.Name "role" p) [YV (mAt pw2 11 0) [2,0,0]] ok [.d (.str "p"),.d (.str "q"),.d (.str "r")] ⟨l,o,[]⟩ Q:=by
 have L5:=V.X.l "role" 5 (by kd_p);exact ⟨hok _,Yi (Z1 L5 (ZjU V (by decide) rfl ⟨hok _,Yi (Z1 L5 (ZjU V (by decide) rfl ⟨hok _,Yi (Z1 L5 (ZjU V (by decide) rfl ⟨hok _,q⟩))⟩))⟩))⟩
theorem ZfV (V:DelsF w m c) {a:A}(h2:ZD 2 l=some a) (ha:(∃x y z:D,a = .d (.dict [("p",x),("q",y),("r",z)]))∨∃(j:Nat) (x y z:A) (ep:Nat),a = .own j∧o[j]?=some (.dict [("p",x),("q",y),("r",z)] ep))
 (q:Q .next ⟨(5,.d (.str "r"))::(5,.d (.str "q"))::(5,.d (.str "p"))::l,o,[]⟩):XJ c [YV (mAt pw2 11 0) [2]] ⟨l,o,[]⟩ Q:=by
 have L2:=V.X.l "roles" 2 (by kd_p);refine Yg (ZdK (Uh (Zm L2 h2 (Zcl ?_)) rfl));rcases ha with ⟨x,y,z,rfl⟩ | ⟨j,x,y,z,ep,rfl,ho⟩
 ·exact Y9 trivial (YT ⟨fun u=>Yg (Zgc (Zcf (Zm L2 h2 (ZfD (ZiM V (fun u=>trivial) (Z5 (Z5 q)))))) (fun u=>rfl)),fun z=>(nomatch z)⟩)
 ·exact U5 (YT ⟨fun u=>Yg (Zgc (Zcf (Zm L2 h2 (Zik ho (ZiM V (fun u=>ho) (Z5 (Z5 q))) (fun u u=>rfl)))) (fun u=>rfl)),fun z=>(nomatch z)⟩)
theorem Zj1 (V:DelsF w m c) {a:A}(h2:ZD 2 l=some a) (h3:ZD 3 l=some (.d .none)) (ha:(∃x:List (Str×D),a = .d (.dict x))∨∃j,a = .own j) (q:Q .next ⟨l,o,[]⟩):XJ c [YV (mAt pw2 11 0) [1]] ⟨l,o,[]⟩ Q:=by
 have L2:=V.X.l "roles" 2 (by kd_p);have L3:=V.X.l "succinct_roles" 3 (by kd_p);refine Yg (ZdK (Uh (ZbS (tz:=fun d=>!Xk d) V.gen V.r2 V.code (by kd_p) (by decide) (by kd_p) (.inr ⟨_,_,rfl,rfl⟩) (V.X.g "sum" (.builtin "sum") (by kd_p) (V.X.gl _ _ (by kd_p))) V.fuel ?_)));rcases ha with ⟨x,rfl⟩ | ⟨j,rfl⟩
 ·refine ZcO (by decide) (ZY (Zm L2 h2 (ZY (Zm L3 h3 (XQ ⟨[.dict x,.none],_,rfl,_,rfl,Nat.le_of_ble_eq_true rfl,fun d hd=>XE (by kd_p) rfl ?_ (by kd_p),ZfG (Zib (YT ⟨fun z=>(nomatch z),fun u=>Z5 (Z5 q)⟩))⟩)))));rcases ZQ hd with rfl | hd
  ·trivial
  ·rw [List.mem_singleton] at hd;subst hd;trivial
 ·refine ZcO (by decide) (ZY (Zkv (Zm L2 h2 ⟨_,_,_,_,rfl,fun ra=>ZY (Zm L3 h3 (XQ ⟨[.val (.ref ra),.none],_,rfl,_,rfl,Nat.le_of_ble_eq_true rfl,fun d hd=>?_,ZfG (Zib (YT ⟨fun z=>(nomatch z),fun u=>Z5 (Z5 q)⟩))⟩))⟩)));rcases ZQ hd with rfl | hd
  ·exact Za0 (by kd_p) rfl (by kd_p)
  ·rw [List.mem_singleton] at hd;subst hd;exact XE (by kd_p) rfl trivial (by kd_p)
end
theorem ZbG (I:IsX G w) {ks:List (Str×D)}{x y z:D}:Zr G (.ref 324) 6 [.dict ks,.dict [("p",x),("q",y),("r",z)]] fun d=>d=WJ ks [("p",x),("q",y),("r",z)] :=
 have H:OSpecC G (.ref 292) 5 [.inst 324 1,.dict [] 0] (.own 0::[.dict ks,.dict [("p",x),("q",y),("r",z)]].map .d) fun r os'=>r = .d .none∧Frz os' 0 (.own 0) (WJ ks [("p",x),("q",y),("r",z)]) :=
  Zls I.k (need:=4) fun cx hG hF E=>fun j=>by
   have V:=ZmU I hG hF E;exact Stop.mk (Zj1 V rfl rfl (.inl ⟨_,rfl⟩) (Stop.mk (ZfV V rfl (.inl ⟨_,_,_,rfl⟩) fun j j j=>⟨rfl,WM (n:=9) (by kd_p)⟩)))
 ZfJ I.k (ZmK w) H
end
section
variable {G:Gx}{w:World}
noncomputable def kD:D:=Zmu (.str "a") (.str "t") (.str "s") (.dict [("public",.str "pa")]) []
noncomputable def kE:List (Str×A):=ZoX (.str "t") (.str "s") (.dict [("public",.str "pa")])
structure RX where
 t:Bool
 p:Option (List Str)
 h:Option (List Str)
noncomputable def RX.d (r:RX) (nm:Str):D:=UD nm r.t ["a"] r.p r.h []
noncomputable def RX.e (r:RX) (nm:Str):List (Str×A):=(Zbg nm r.t ["a"] r.p r.h).map fun e=>(e.1,A.d e.2)
noncomputable def RX.f (r:RX) (nm:Str) (u:A):List (Str×A):=ZdJ nm r.t ["a"] r.p r.h u
structure RX.Ok (r:RX):Prop where
 one:((r.p.isSome&&r.h.isNone)||(r.p.isNone&&r.h.isSome))=true
 pl:∀xs,r.p=some xs→xs.length≤1000
 hl:∀xs,r.h=some xs→xs.length≤1000
noncomputable def dlD (r0 r1 r2:RX):D:=WJ [("a",kD)] [("p",r0.d "p"),("q",r1.d "q"),("r",r2.d "r")]
section
variable {c:Cx}{m:Nat}{l:List (Nat×A)}{o:List O}{Q:Fl→St→Prop}
theorem Zk9 (I:IsX G w) (hG:c.G=G) (hF:3≤c.fuel) {H:Hi}(X:EnvOk c (EK (kk2 w.params) 314 m H)) {r0 r1 r2:RX}(h0:ZD 0 l=some (.d (dlD r0 r1 r2))) (q:∀e1 e2,Q .next ⟨(1,.own 0)::l,[.dict [("a",.own 1)] e1,.dict kE e2],[]⟩):XJ c [YV (mAt pw2 11 3) [0]] ⟨l,[],[]⟩ Q:=by
 refine Yg (ZeW (Zby X.cel (by kd_p)) (Zcf (Y6 (Wx (Zm (X.l "self" 0 (by kd_p)) h0 (X5 (d:=.dict [("a",kD)]) (kIn I.k hG) (by kd_p) (by kd_p) rfl (Zkw (Zk5 (Zev fun c' hc'=>?_)))))) rfl rfl)) (Zlk (X.l "keys" 1 (by kd_p)) (by kd_p) rfl) (fun j=>rfl));have M0:IsL c' "keyid" 1:=ZjH hc' (by kd_p);have M1:IsL c' "key" 2:=ZjH hc' (by kd_p);refine ⟨trivial,Zdv rfl (Zes (Yi (Z1 M0 (Zes (Yi (Z1 M1 (ZlW (Zgn ⟨fun j=>?_,fun h=>(nomatch h)⟩)))))))) rfl⟩;refine ZlP (Zm M0 rfl (Y6 (Zm M1 rfl (WX (f:=60) (kIn I.k (hc'.G.trans hG)) (by kd_p) (by kd_p) ?_)) rfl rfl));refine Zc6 (args:=[kD]) (R:=fun r os'=>r = .own 0∧∃ep,os'=[.dict kE ep]) (by rw [hc'.G,hG];exact ZbF I (d:="")) (ZaS I.k (by kd_p) (hc'.G.trans hG)) (by rw [hc'.fuel];exact hF) rfl ?_;rintro j os' ⟨rfl,e2,rfl⟩;exact ⟨"a",.own 1,[],_,rfl,rfl,by decide,fun e1=>⟨trivial,Z1 (X.l "keys" 1 (by kd_p)) (Z5 (q e1 e2))⟩⟩
theorem Zke {ι:Nat→Nat}{es:List (Str×D)}{e:Nat}:Xy ι (.dict (es.map fun e=>(e.1,A.d e.2)) e) = .dict (es.map fun e=>(e.1,A.d e.2)) e:=by
 show O.dict (Zdd _ _) e=_;unfold Zdd;rw [List.map_map];rfl
theorem ZqF (I:IsX G w) (hG:c.G=G) (hF:5≤c.fuel) {r:RX}(hr:r.Ok) {nm:Str}{pb pc pd:Pos}(L:IsL c "role_obj" 1) (h1:ZD 1 l=some (.d (r.d nm))) (hl:(pb.endLine==pc.line)=true) {s:List A}{Q:St→Prop}(q:∀e,Q ⟨l,o++[.dict (r.e nm) e],.own o.length::s⟩) :
 EJ c (.Call (.Attribute (.Name "role_obj" pd) "to_dict" pb) [] [] pc) ⟨l,o,s⟩ Q:=by
 refine Y6 (Zm L h1 (WX (f:=181) (kIn I.k hG) (by kd_p) (by kd_p) ?_)) rfl hl;refine Zc6 (args:=[r.d nm]) (hG▸Wj I hr.one) (ZaS I.k (by kd_p) hG) hF rfl ?_;rintro j os' ⟨rfl,e,rfl⟩;rw [List.map_cons,Zke];exact q e
theorem Zn1 (I:IsX G w) (hG:c.G=G) (hF:5≤c.fuel) {r:RX}(hr:r.Ok) {nm:Str}{px pb pc pd:Pos}(L:IsL c "role_obj" 1) (hl:(pb.endLine==pc.line)=true) {n:Nat}{xs ys:List A}{Q:St→Prop}(ho:o[n]?=some (.list ys)) (hy:ys.length≤1000000)
 (q:∀e,CompJ c (.Name "role_obj" px) [] (.Call (.Attribute (.Name "role_obj" pd) "to_dict" pb) [] [] pc) (fun j=>True) n xs ⟨(1,A.d (r.d nm))::l,(o++[O.dict (r.e nm) e]).set n (O.list (ys++[A.own o.length])),[]⟩ Q) :
 CompJ c (.Name "role_obj" px) [] (.Call (.Attribute (.Name "role_obj" pd) "to_dict" pb) [] [] pc) (fun j=>True) n (.d (r.d nm)::xs) ⟨l,o,[]⟩ Q :=
 ⟨trivial,Yi (Z1 L (Zgn ⟨fun j=>ZqF I hG hF hr L rfl hl fun e=>⟨_,_,rfl,(Kl (ZI ho).1).trans ho,hy,q e⟩,fun h=>(nomatch h)⟩))⟩
theorem Zii (I:IsX G w) (hG:c.G=G) (hF:5≤c.fuel) {H:Hi}(X:EnvOk c (EK (kk2 w.params) 314 m H)) {r0 r1 r2:RX}(k0:r0.Ok) (k1:r1.Ok) (k2:r2.Ok) (h0:ZD 0 l=some (.d (dlD r0 r1 r2))) {x0 x1 x2:O}
 (q:∀e4 e5 e6,Q .next ⟨(3,.own 3)::l,[x0,x1,x2,.list [.own 4,.own 5,.own 6],.dict (r0.e "p") e4,.dict (r1.e "q") e5,.dict (r2.e "r") e6],[]⟩):XJ c [YV (mAt pw2 11 3) [3,0]] ⟨l,[x0,x1,x2],[]⟩ Q:=by
 refine Yg (Zc4 (Zby X.cel (by kd_p)) (ZfC (Zcf (Y6 (Wx (Zm (X.l "self" 0 (by kd_p)) h0 (X5 (d:=.dict [("p",r0.d "p"),("q",r1.d "q"),("r",r2.d "r")]) (kIn I.k hG) (by kd_p) (by kd_p) rfl (Zbt (ZaU (UG (fun c' hc'=>?_) (fun j j=>rfl))))))) rfl rfl))) (ZfB (X.l "roles" 3 (by kd_p)) (by kd_p) rfl) (fun j=>rfl));have M0:IsL c' "role_obj" 1:=ZjH hc' (by kd_p);have hG':=hc'.G.trans hG;have hF':5≤c'.fuel:=by rw [hc'.fuel];exact hF
 refine Zn1 (n:=3) (ys:=[]) (o:=[x0,x1,x2,.list []]) (l:=[]) I hG' hF' k0 M0 rfl rfl (by decide) fun e4=>?_;refine Zn1 (n:=3) (ys:=[.own 4]) (o:=[x0,x1,x2,.list [.own 4],.dict (r0.e "p") e4]) (l:=[(1,.d (r0.d "p"))]) I hG' hF' k1 M0 rfl rfl (by decide) fun e5=>?_;refine Zn1 (n:=3) (ys:=[.own 4,.own 5]) (o:=[x0,x1,x2,.list [.own 4,.own 5],.dict (r0.e "p") e4,.dict (r1.e "q") e5]) (l:=[(1,.d (r1.d "q")),(1,.d (r0.d "p"))]) I hG' hF' k2 M0 rfl rfl (by decide) fun e6=>?_;exact ⟨trivial,Z1 (X.l "roles" 3 (by kd_p)) (Z5 (q e4 e5 e6))⟩
end
theorem UW (I:IsX G w) {r0 r1 r2:RX}(k0:r0.Ok) (k1:r1.Ok) (k2:r2.Ok):OSpecC G (.ref 314) 7 [] [.d (dlD r0 r1 r2)] fun r os'=>r = .own 2∧∃e1 e2 e3 e4 e5 e6,os'=[.dict [("a",.own 1)] e1,.dict kE e2,.dict [("keys",.own 0),("roles",.own 3)] e3,.list [.own 4,.own 5,.own 6],.dict (r0.e "p") e4,.dict (r1.e "q") e5,.dict (r2.e "r") e6] :=
 Zlq I.k (need:=6) fun cx hG hF E=>by
  refine Stop.mk (Zk9 I hG (by rw [hF];decide) (E.ok I.k {} hG) rfl fun e1 e2=>?_);intro j j;refine Stop.mk (Zii I hG (by rw [hF];decide) (E.ok I.k {} hG) k0 k1 k2 rfl fun e4 e5 e6=>?_);refine Stop.mk (Xj rfl rfl (Nat.le_of_ble_eq_true (by kd_p)) fun e3=>?_);exact ⟨rfl,_,_,_,_,_,_,rfl⟩
end
section
variable {G:Gx}{w:World}
noncomputable def kF (u:A):List (Str×A):=Zm7 (.str "a") (.str "t") (.str "s") (.dict [("public",.str "pa")]) u
section
variable {c:Cx}{m:Nat}{l:List (Nat×A)}{o:List O}{Q:Fl→St→Prop}
theorem Zmr (I:IsX G w) (hG:c.G=G) (hF:8≤c.fuel) {H:Hi}(X:EnvOk c (EK (kk2 w.params) 306 m H)) {e1 e2 e7:Nat}{x2 x3 x4 x5 x6:O}(h2:ZD 2 l=some (.own 0)) (h3:ZD 3 l=some (.own 7))
 (q:∀e2 e7 e9,Q .next ⟨(5,.own 1)::(4,.d (.str "a"))::l,[.dict [("a",.own 1)] e1,.dict [] e2,x2,x3,x4,x5,x6,.dict [("a",.own 8)] e7,.inst 70 9,.dict (kF (.own 1)) e9],[]⟩) :
 XJ c [YV (mAt pw2 11 2) [2]] ⟨l,[.dict [("a",.own 1)] e1,.dict kE e2,x2,x3,x4,x5,x6,.dict [] e7],[]⟩ Q:=by
 have L4:=X.l "keyid" 4 (by kd_p);have L5:=X.l "key_dict" 5 (by kd_p);have G0:=X.g "Key" (.ref 70) (by kd_p) (X.gl _ _ (by kd_p));refine Yg (ZcS (Y6 (Zm (X.l "keys" 2 (by kd_p)) h2 (Ze1 rfl PySem.F.slot_dict_items PySem.F.type_dict_items (ZjS rfl ⟨_,_,_,0,_,e1,rfl,rfl,rfl,Yi (Z1 L4 (Yi (Z1 L5 (Yg (Zcj ?_ rfl)))))⟩))) rfl rfl) (fun u=>rfl) rfl);refine Zkb [1] (o:=[.dict [("a",.own 1)] e1,.dict kE e2,x2,x3,x4,x5,x6,.dict [] e7]) (args:=[.d (.str "a"),.own 0]) (os:=[.dict kE e2]) (kIn I.k hG) (cm1 w) (hG▸Zam I) (Kr (by decide) hF) (Z2 G0 rfl) ?_ rfl rfl rfl rfl;refine ZY (Zm L4 rfl (ZY (Zm L5 rfl (XQ ⟨_,_,[],rfl,rfl,by decide,rfl,fun j i h=>?_,?_⟩)) rfl)) rfl
 ·match j,h with
  | 0,h=>obtain rfl:=Kc h;exact ⟨_,rfl,rfl⟩
 ·rintro u os' ⟨rfl,e2',e9,rfl⟩;refine Zm (a:=.own 7) (X.l "keys_res" 3 (by kd_p)) h3 (Zm (a:=.d (.str "a")) L4 rfl ?_);refine Xj rfl rfl (Nat.le_of_ble_eq_true (by kd_p)) fun e7'=>?_;exact Z5 ⟨rfl,Z5 (q e2' e7' e9)⟩
theorem UU (I:IsX G w) (hG:c.G=G) (hF:8≤c.fuel) {H:Hi}(X:EnvOk c (EK (kk2 w.params) 306 m H)) {r:RX}(hr:r.Ok) {nm:Str}{i e:Nat}(h8:ZD 8 l=some (.own i)) (ho:o[i]?=some (.dict (r.e nm) e))
 (q:∀e1 e2,Q .next ⟨(9,.own o.length)::l,o.set i (.dict [] e1)++[.inst 201 (o.length+1),.dict (r.f nm (.own i)) e2],[]⟩):XJ c [YV (mAt pw2 11 2) [5,1,0]] ⟨l,o,[]⟩ Q:=by
 refine Yg (ZbB ?_ rfl);refine Zkb [i] (o:=o) (args:=[.own 0]) (os:=[.dict (r.e nm) e]) (kIn I.k hG) (cm2 w) (hG▸Ud I hr.one hr.pl hr.hl) hF (Z2 (X.g "DelegatedRole" (.ref 201) (by kd_p) (X.gl _ _ (by kd_p))) rfl) ?_ rfl rfl rfl rfl;refine ZY (Zm (X.l "role_dict" 8 (by kd_p)) h8 (XQ ⟨_,o,[],rfl,rfl,(by simp),rfl,fun j k h=>?_,?_⟩)) rfl
 ·match j,h with
  | 0,h=>obtain rfl:=Kc h;exact ⟨_,rfl,ho.trans (congrArg some Zke.symm)⟩
 ·rintro u os' ⟨rfl,e1,e2,rfl⟩;have h1:iot [i] o.length 1=o.length∧iot [i] o.length 2=o.length+1:=Zrk.2;refine Z1 (X.l "new_role" 9 (by kd_p)) (Z5 ?_)
  have:=q e1 e2;rw [←h1.2,←h1.1] at this;exact this
theorem Ziq (I:IsX G w) (hG:c.G=G) {H:Hi}(X:EnvOk c (EK (kk2 w.params) 306 m H)) {r:RX}{nm:Str}{u:A}{i j e e':Nat}{es:List (Str×A)}(h9:ZD 9 l=some (.own i)) (ho:o[i]?=some (.inst 201 j)) (ho2:o[j]?=some (.dict (r.f nm u) e)) (h7:ZD 7 l=some (.own 10)) (ho3:o[10]?=some (.dict es e')) (hn:(YH es nm).isSome=false)
 (q:Q .next ⟨l,o,[]⟩):XJ c [YV (mAt pw2 11 2) [5,1,1]] ⟨l,o,[]⟩ Q:=by
 refine Yg (ZdK (Uh (Wx (Zm (X.l "new_role" 9 (by kd_p)) h9 (ZiY (K:=kk2 w.params) (a:=.d (.str nm)) (kIn I.k hG) (by kd_p) ho ho2 rfl rfl (Zm (X.l "roles_res" 7 (by kd_p)) h7 (ZiA ho3 (YT ⟨fun z=>?_,fun k=>Z5 (Z5 q)⟩)))))) rfl));rw [hn] at z;exact YU z
end
theorem Zbv (I:IsX G w) {x0 x1 x2 x3 x4 x5 x6 x7 x8 x9 x11 x12 x13 x14 x15 x16:O}{y0 y1 y2:A}{e:Nat} :
 OSpecC G (.ref 292) 5 ([x0,x1,x2,x3,x4,x5,x6,x7,x8,x9,.dict [("p",y0),("q",y1),("r",y2)] e,x11,x12,x13,x14,x15,x16]++[.inst 324 18,.dict [] 0]) [.own 17,.own 7,.own 10,.d .none,.own 2]
  fun r os'=>r = .d .none∧∃ep,os'=[x0,x1,x2,x3,x4,x5,x6,x7,x8,x9,.dict [("p",y0),("q",y1),("r",y2)] e,x11,x12,x13,x14,x15,x16,.inst 324 18,.dict [("keys",.own 7),("roles",.own 10),("succinct_roles",.d .none),("unrecognized_fields",.own 2)] ep] :=
 Zlb I.k (need:=4) fun cx hG hF E=>fun j=>by
  have V:=ZmU I hG hF E;exact Stop.mk (Zj1 V rfl rfl (.inr ⟨_,rfl⟩) (Stop.mk (ZfV V rfl (.inr ⟨10,_,_,_,_,rfl,rfl⟩) fun j j e=>⟨rfl,e,by kd_p⟩)))
theorem Ub (I:IsX G w) {r0 r1 r2:RX}(k0:r0.Ok) (k1:r1.Ok) (k2:r2.Ok) {e1 e2 e3 e4 e5 e6:Nat}:OSpecC G (.ref 306) 9 [.dict [("a",.own 1)] e1,.dict kE e2,.dict [("keys",.own 0),("roles",.own 3)] e3,.list [.own 4,.own 5,.own 6],.dict (r0.e "p") e4,.dict (r1.e "q") e5,.dict (r2.e "r") e6] [.d (.val (.ref 324)),.own 2]
 fun r os'=>7≤os'.length∧Frz os' 0 r (dlD r0 r1 r2) :=
 Zlo I.k (need:=8) fun cx hG hF E=>fun e3'=>by
  have X:=E.ok I.k {} hG;have hF8:8≤cx.fuel:=Nat.le_of_eq hF.symm;refine Stop.mk (Zmr I hG hF8 X rfl rfl fun e2x e7 e9=>?_);intro e3x;refine And.intro rfl (Stop.mk (UU (nm:="p") (i:=4) (o:=[.dict [("a",.own 1)] e1,.dict [] e2x,.dict [] e3x,.list [.own 4,.own 5,.own 6],.dict (r0.e "p") e4,.dict (r1.e "q") e5,.dict (r2.e "r") e6,.dict [("a",.own 8)] e7,.inst 70 9,.dict (kF (.own 1)) e9,.dict [] 0]) I hG hF8 X k0 rfl rfl fun e4x e12=>?_));refine Stop.mk (Ziq (r:=r0) (nm:="p") (i:=11) (u:=.own 4) (o:=[.dict [("a",.own 1)] e1,.dict [] e2x,.dict [] e3x,.list [.own 4,.own 5,.own 6],.dict [] e4x,.dict (r1.e "q") e5,.dict (r2.e "r") e6,.dict [("a",.own 8)] e7,.inst 70 9,.dict (kF (.own 1)) e9,.dict [] 0,.inst 201 12,.dict (r0.f "p" (.own 4)) e12]) I hG X rfl rfl rfl rfl rfl rfl ?_);refine Stop.mk (Xj (i:=10) (o:=[.dict [("a",.own 1)] e1,.dict [] e2x,.dict [] e3x,.list [.own 4,.own 5,.own 6],.dict [] e4x,.dict (r1.e "q") e5,.dict (r2.e "r") e6,.dict [("a",.own 8)] e7,.inst 70 9,.dict (kF (.own 1)) e9,.dict [] 0,.inst 201 12,.dict (r0.f "p" (.own 4)) e12]) rfl rfl (by decide) fun e10x=>?_);refine And.intro rfl (Stop.mk (UU (nm:="q") (i:=5) (o:=[.dict [("a",.own 1)] e1,.dict [] e2x,.dict [] e3x,.list [.own 4,.own 5,.own 6],.dict [] e4x,.dict (r1.e "q") e5,.dict (r2.e "r") e6,.dict [("a",.own 8)] e7,.inst 70 9,.dict (kF (.own 1)) e9,.dict [("p",.own 11)] e10x,.inst 201 12,.dict (r0.f "p" (.own 4)) e12]) I hG hF8 X k1 rfl rfl fun e5x e14=>?_));refine Stop.mk (Ziq (r:=r1) (nm:="q") (i:=13) (u:=.own 5) (o:=[.dict [("a",.own 1)] e1,.dict [] e2x,.dict [] e3x,.list [.own 4,.own 5,.own 6],.dict [] e4x,.dict [] e5x,.dict (r2.e "r") e6,.dict [("a",.own 8)] e7,.inst 70 9,.dict (kF (.own 1)) e9,.dict [("p",.own 11)] e10x,.inst 201 12,.dict (r0.f "p" (.own 4)) e12,.inst 201 14,.dict (r1.f "q" (.own 5)) e14]) I hG X rfl rfl rfl rfl rfl rfl ?_);refine Stop.mk (Xj (i:=10) (o:=[.dict [("a",.own 1)] e1,.dict [] e2x,.dict [] e3x,.list [.own 4,.own 5,.own 6],.dict [] e4x,.dict [] e5x,.dict (r2.e "r") e6,.dict [("a",.own 8)] e7,.inst 70 9,.dict (kF (.own 1)) e9,.dict [("p",.own 11)] e10x,.inst 201 12,.dict (r0.f "p" (.own 4)) e12,.inst 201 14,.dict (r1.f "q" (.own 5)) e14]) rfl rfl (by decide) fun e10y=>?_);refine And.intro rfl (Stop.mk (UU (nm:="r") (i:=6) (o:=[.dict [("a",.own 1)] e1,.dict [] e2x,.dict [] e3x,.list [.own 4,.own 5,.own 6],.dict [] e4x,.dict [] e5x,.dict (r2.e "r") e6,.dict [("a",.own 8)] e7,.inst 70 9,.dict (kF (.own 1)) e9,.dict [("p",.own 11),("q",.own 13)] e10y,.inst 201 12,.dict (r0.f "p" (.own 4)) e12,.inst 201 14,.dict (r1.f "q" (.own 5)) e14]) I hG hF8 X k2 rfl rfl fun e6x e16=>?_));refine Stop.mk (Ziq (r:=r2) (nm:="r") (i:=15) (u:=.own 6) (o:=[.dict [("a",.own 1)] e1,.dict [] e2x,.dict [] e3x,.list [.own 4,.own 5,.own 6],.dict [] e4x,.dict [] e5x,.dict [] e6x,.dict [("a",.own 8)] e7,.inst 70 9,.dict (kF (.own 1)) e9,.dict [("p",.own 11),("q",.own 13)] e10y,.inst 201 12,.dict (r0.f "p" (.own 4)) e12,.inst 201 14,.dict (r1.f "q" (.own 5)) e14,.inst 201 16,.dict (r2.f "r" (.own 6)) e16]) I hG X rfl rfl rfl rfl rfl rfl ?_);refine Stop.mk (Xj (i:=10) (o:=[.dict [("a",.own 1)] e1,.dict [] e2x,.dict [] e3x,.list [.own 4,.own 5,.own 6],.dict [] e4x,.dict [] e5x,.dict [] e6x,.dict [("a",.own 8)] e7,.inst 70 9,.dict (kF (.own 1)) e9,.dict [("p",.own 11),("q",.own 13)] e10y,.inst 201 12,.dict (r0.f "p" (.own 4)) e12,.inst 201 14,.dict (r1.f "q" (.own 5)) e14,.inst 201 16,.dict (r2.f "r" (.own 6)) e16]) rfl rfl (by decide) fun e10z=>?_);refine And.intro rfl ?_;intro j;refine Stop.mk (Zha (o:=[.dict [("a",.own 1)] e1,.dict [] e2x,.dict [] e3x,.list [.own 4,.own 5,.own 6],.dict [] e4x,.dict [] e5x,.dict [] e6x,.dict [("a",.own 8)] e7,.inst 70 9,.dict (kF (.own 1)) e9,.dict [("p",.own 11),("q",.own 13),("r",.own 15)] e10z,.inst 201 12,.dict (r0.f "p" (.own 4)) e12,.inst 201 14,.dict (r1.f "q" (.own 5)) e14,.inst 201 16,.dict (r2.f "r" (.own 6)) e16]) (args:=[.own 7,.own 10,.d .none,.own 2]) (hG▸Wc I.k (ZmK w) (Zbv I)) (ZfA I.k (by kd_p) hG) (by rw [hF];decide) rfl ?_);rintro j os' ⟨rfl,ep,rfl⟩;exact ⟨Nat.le_of_ble_eq_true rfl,Nat.le_of_ble_eq_true rfl,WM (n:=9) (by kd_p)⟩
end
section
variable {G:Gx}{w:World}{c:Cx}
theorem Zdg (I:IsX G w) (hG:c.G=G) (hF:25≤c.fuel) {l:List (Nat×A)}{o:List O}{k:List A}{Q:St→Prop}{r0 r1 r2:RX}(k0:r0.Ok) (k1:r1.Ok) (k2:r2.Ok) {i:Nat}{x y:Str}{p1 p2 p3 p4 p5 p6:Pos}(L:IsL c x i) (hl:ZD i l=some (.d (dlD r0 r1 r2))) (GD:IsG c y (.ref 324))
 (h1:(p2.endLine==p3.line)=true) (h2:(p5.endLine==p6.line)=true) (q:Q ⟨l,o,.d (dlD r0 r1 r2)::k⟩) :
 EJ c (.Call (.Attribute (.Name y p1) "from_dict" p2) [.Call (.Attribute (.Name x p4) "to_dict" p5) [] [] p6] [] p3) ⟨l,o,k⟩ Q:=by
 have hK:=kIn I.k hG;refine Ze6 (Zgj hK (cm3 w) (need:=9) (Kr (by decide) hF) (Z2 GD rfl) (ZY (Y6 (Zm L hl (WX (f:=314) hK (by kd_p) (by kd_p) ?_)) rfl h2) rfl) rfl rfl rfl h1);refine Zc6 (args:=[dlD r0 r1 r2]) (hG▸UW I k0 k1 k2) (ZaS I.k (by kd_p) hG) (Kr (by decide) hF) rfl ?_;rintro u os ⟨rfl,e1,e2,e3,e4,e5,e6,hos⟩;have T:OSpecC c.G (.ref 306) 9 os [.d (.val (.ref 324)),.own 2] fun r os'=>os.length≤os'.length∧Frz os' 0 r (dlD r0 r1 r2):=by rw [hos,hG];exact Ub I k0 k1 k2
 clear hos;have hlo:os.length=(os.map (Xy (o.length+·))).length:=(List.length_map _).symm;refine XQ ⟨List.range' o.length (os.map (Xy (o.length+·))).length,os,[.own 2],_,T,_,_,k,by rw [Zaz];rfl,rfl,List.nodup_range',by rw [List.length_range'];exact hlo,fun j i h=>?_,?_⟩
 ·rw [Zaz];obtain ⟨hj,rfl⟩:j<os.length∧o.length+j=i:=by
   obtain ⟨h1,h2⟩:=ZI h;rw [List.getElem_range',Nat.one_mul] at h2;rw [List.length_range',←hlo] at h1;exact ⟨h1,h2⟩
  refine ⟨os[j],Ke hj,?_⟩;rw [Km (Ko _ _),Nat.add_sub_cancel_left,List.getElem?_map,Ke hj];rfl
 ·rintro a os' ⟨hle,hf⟩;rw [Zaz,ZjN (hlo▸hle)];refine ⟨_,_,_,rfl,Zmh (fun i=>Ko _ _) (fun i x h=>?_) hf,q⟩;rw [Km (Ko _ _),Nat.add_sub_cancel_left,List.getElem?_map,h];rfl
noncomputable def rx (r:RoleX):RX:=⟨r.tm,r.pats.map (·.map YL),r.texts⟩
theorem ZhH {r:RoleX}(h:r.Ok∧r.Small):(rx r).Ok where
 one:=by have:=h.1.one;simpa [rx] using this
 pl:=fun xs e=>by
  refine Zb (Z9 e) fun ps h1 zo1=>?_;subst zo1;rw [List.length_map];exact h.2.p ps h1
 hl:=h.2.t
theorem Zjc {rs:List RoleX}(hrn:rs.map RoleX.nm=(["p","q","r"]:List Str)) (hr:∀r∈rs,r.Ok∧r.Small):∃r0 r1 r2:RX,Yo ["a"] rs=([("p",r0.d "p"),("q",r1.d "q"),("r",r2.d "r")]:List (Str×D))∧r0.Ok∧r1.Ok∧r2.Ok:=by
 have hl:=congrArg List.length hrn;rw [List.length_map] at hl;obtain ⟨r0,r1,r2,rfl⟩:∃r0 r1 r2,rs=[r0,r1,r2]:=by
  rcases rs with _ | ⟨r0,_ | ⟨r1,_ | ⟨r2,_ | ⟨_,_⟩⟩⟩⟩ <;> first | exact ⟨_,_,_,rfl⟩ | exact absurd hl (by simp)
 refine oza (List.cons.inj hrn) fun n0 hrn=>?_;refine oza (List.cons.inj hrn) fun n1 hrn=>?_;refine oza (List.cons.inj hrn) fun n2 j=>?_;refine ⟨rx r0,rx r1,rx r2,?_,ZhH (hr _ (.head _)),ZhH (hr _ (.tail _ (.head _))),ZhH (hr _ (.tail _ (.tail _ (.head _))))⟩;show ([(r0.nm,r0.d ["a"]),(r1.nm,r1.d ["a"]),(r2.nm,r2.d ["a"])]:List (Str×D))=_;unfold RoleX.d;rw [n0,n1,n2];rfl
end
section
variable {G:Gx}{w:World}
section
variable {c:Cx}{P:Fw→St→Prop}{xs ns:List Int}{pats:List PatX}{a8:A}{tm:Bool}{nm:Str}{paths:List Str}{es:List (Str×A)}{ep:Nat}{ds:List D}{k:Nat}{t:Option A}
def Zgr (xs ns:List Int) (pats:List PatX) (k:Nat) (nm:Str) (paths:List Str) (es:List (Str×A)) (ds:List D) (P:Fw→St→Prop):Prop:=∀(r:RoleX) (t:Option D) ep L,r.nm=nm→r.Ok∧r.Small→Le (LR (.d (ZM ns)) paths) L→P .next ⟨L,cR xs (some k) (.d (.list (pats.map XG))) (t.map .d) (es++[(nm,.d (r.d ["a"]))]) ep (ds.map .d++[.d (trD paths r)]),[]⟩
theorem Zfs {n m f need:Nat}{args:List D}{l:List (Nat×A)}{o:List O}{s:List A}{Q:St→Prop}{X:D}(I:IsX G w) (hG:c.G=G) (hF:c.fuel=n) (H:Zr G (.ref f) need args (fun d=>d=X)) (hf:W.keepIn (kk2 w.params) (.ref f)=true) (hn:need≤n) (hl:args.length=m) (q:Q ⟨l,o,.d X::s⟩):Stop (CJ c m ⟨l,o,(args.map A.d).reverse++.d (.val (.ref f))::s⟩ Q) :=
 ⟨Zfc (hG▸H) (ZfA I.k hf hG) (hF▸hn) hl (by rintro j rfl;exact q)⟩
theorem Zoa (I:IsX G w) (hG:c.G=G) {n:Nat}(hF:c.fuel=n) (hn:25≤n) {ts:List Str}(hts:ts.length≤2) (htl:∀t∈ts,t.length≤4) (hpl:paths.length=2) (hpt:∀p∈paths,TxtOk 200 p) (hd:ds.length≤100) (hes:es.length≤100) (hnew:nm∉es.map (·.1)) (h:Zgr xs ns pats k nm paths es ds P) :
 wp c ZeL ⟨(8,a8)::LT tm nm (.d (ZM ns)) paths,cR xs (some k) (.d (.list (pats.map XG))) (some (.d (.list (ts.map .str)))) es ep (ds.map .d),[]⟩ P:=by
 refine Zfs (args:=[.str nm,.list [.str "a"],.int 1,.bool tm,.none,.list (ts.map .str)]) I hG hF (Zj8 I (nm:=nm) (tm:=tm) (h:=ts) (by lia)) (by kd_p) (by lia) rfl ?_;refine Stop.mk (Xj (i:=6) rfl (Zaj hnew) (by lia) fun ep'=>?_);refine ZlX I hG hF hn hts htl hpl hpt hd fun L hL=>?_;exact h ⟨nm,tm,none,some ts⟩ (some (.list (ts.map .str))) ep' L rfl ⟨⟨(fun j e=>nomatch e),rfl⟩,⟨(fun j e=>nomatch e),fun ts' e=>by cases e;lia⟩⟩ hL
theorem Znh (I:IsX G w) (hG:c.G=G) {n:Nat}(hF:c.fuel=n) (hn:25≤n) {ps:List (List (List Str))}(hk:k<3) (hg:(pats.map XG)[(k:Int).toNat]?=some (XG (some ps))) (hps:ps.length≤2) (hpo:∀pt∈ps,PatOk pt∧pt≠[]) (hpl:paths.length=2) (hpt:∀p∈paths,TxtOk 200 p) (hd:ds.length≤100) (hes:es.length≤100) (hnew:nm∉es.map (·.1)) {t:Option D}(h:Zgr xs ns pats k nm paths es ds P) :
 wp c Zkh ⟨LT tm nm (.d (ZM ns)) paths,cR xs (some k) (.d (.list (pats.map XG))) (t.map .d) es ep (ds.map .d),[]⟩ P:=by
 refine Ze (ZaX (Int.natCast_nonneg k) (by lia) hg) ?_;refine Xc ps (fun t=>.d (UT t)) (fun t=>some (.str (YL t))) rfl List.map_map (by lia) (fun c2 hG2 hF2 y hy l2 ys2 cl2 hcl2=>?_) ?_
 ·refine ZhC I.k (hG2.trans hG) (hF2.trans hF) (Zg8 I.k (hpo y hy).1) (by kd_p) (by lia) ?_;exact ⟨_,cl2,rfl,rfl,rfl,hcl2⟩
 rw [show (ps.filterMap fun p=>some (D.str (YL p)))=(ps.map YL).map .str by rw [List.filterMap_eq_map'];exact (List.map_map).symm];refine Zfs (args:=[.str nm,.list [.str "a"],.int 1,.bool tm,.list ((ps.map YL).map .str)]) I hG hF (Zi0 I (nm:=nm) (tm:=tm) (p:=ps.map YL) (by rw [List.length_map];lia)) (by kd_p) (by lia) rfl ?_;refine Stop.mk (Xj (i:=6) rfl (Zaj hnew) (by lia) fun ep'=>?_);refine Zme I hG hF hn hk hg hps hpo hpl hpt hd fun L hL=>?_;exact h ⟨nm,tm,some ps,none⟩ t ep' L rfl ⟨⟨(fun ps' e=>by obtain rfl:=Kc e;exact hpo),rfl⟩,⟨(fun ps' e=>by obtain rfl:=Kc e;lia),(fun j e=>nomatch e)⟩⟩ hL
end
end
section
variable {G:Gx}{w:World}
section
variable {c:Cx}{P:Fw→St→Prop}{xs ns:List Int}{pats:List PatX}{a8:A}{tm:Bool}{nm:Str}{paths:List Str}{es:List (Str×A)}{ep:Nat}{ds:List D}{k:Nat}
theorem Zif (I:IsX G w) (hG:c.G=G) {n:Nat}(hF:c.fuel=n) (hn:25≤n) (hk:k<3) (hns:ns.length=9) (hpl:paths.length=2) (hpt:∀p∈paths,TxtOk 200 p) (hd:ds.length≤100) (hes:es.length≤100) (hnew:nm∉es.map (·.1)) {t:Option D}(h:Zgr xs ns pats k nm paths es ds P) :
 wp c Zj5 ⟨LT tm nm (.d (ZM ns)) paths,cR xs (some k) (.d (.list (pats.map XG))) (t.map .d) es ep (ds.map .d),[]⟩ P:=by
 refine Ze (ZB (ZaA hk)) ?_;refine Ze (WO (n:=2*k+1) rfl (by lia) (by lia)) ?_;generalize ns.getD (2*k+1) 0=m;have d1:=Int.fmod_nonneg_of_pos m (b:=2) (by decide);have d2:=Int.fmod_lt_of_pos m (b:=2) (by decide);refine oza (ZcA (f:=D.str) (d:="") d1 (show m.fmod 2<paths.length by lia)) fun hpm g=>?_;refine Ze (ZaX d1 (by lia) g) ?_;generalize paths.getD (m.fmod 2).toNat ""=pa at hpm;refine ZiT (XA (hpt pa hpm)) ?_;refine WB I.k hG hF (ZaH I.k _) (by kd_p) (by lia) ?_;refine Ze (Xp (Ug (Int.fmod_nonneg_of_pos _ (by decide)) (Int.fmod_lt_of_pos _ (by decide)))) ?_;refine Zb (ZmJ (m.fdiv 192)) fun j hj ej=>?_;have key:∀(t1 t2:Str) (i:Int),t1.length≤4→t2.length≤4→i=(j:Int)→wp c (.o (.st (.c 4)) <| .mark [8,7,6,0,3,5] ZeL) ⟨(8,.d (.int m))::LT tm nm (.d (ZM ns)) paths,cR xs (some k) (.d (.list (pats.map XG))) (t.map .d) es ep (ds.map .d),[.d (.list (cut [D.str t1,D.str t2] none (some (1+i))))]⟩ P:=by
  rintro t1 t2 u y1 y2 rfl;have ecut:cut [D.str t1,D.str t2] none (some (1+(j:Int)))=(([t1,t2]:List Str).take (j+1)).map .str:=by
   rw [show ((1+(j:Int)):Int)=(((j+1):Nat):Int) by lia,ZbE,List.map_take];rfl
  rw [ecut];refine Zoa I hG hF hn ?_ ?_ hpl hpt hd hes hnew h
  ·rw [List.length_take];exact Nat.min_le_right _ _
  ·intro t ht
   have:=List.mem_of_mem_take ht;rcases List.mem_cons.mp this with rfl | h1
   ·exact y1
   ·rw [List.mem_singleton] at h1;subst h1;exact y2
 refine key _ _ _ ?_ ?_ ej
 ·exact Kr (Zbm _ _ _) (Zd7 _)
 ·show 1≤4;decide
theorem ZgR (I:IsX G w) (hG:c.G=G) {n:Nat}(hF:c.fuel=n) (hn:25≤n) (hk:k<3) (hns:ns.length=9) (hp3:pats.length=3) (hpo:∀p∈pats,WD p) (hpl:paths.length=2) (hpt:∀p∈paths,TxtOk 200 p) (hd:ds.length≤100) (hes:es.length≤100) (hnew:nm∉es.map (·.1)) {t:Option D}(h:Zgr xs ns pats k nm paths es ds P) :
 wp c ZjW ⟨(6,.d (.str nm))::LR (.d (ZM ns)) paths,cR xs (some k) (.d (.list (pats.map XG))) (t.map .d) es ep (ds.map .d),[]⟩ P:=by
 refine Ze (ZB (ZaA hk)) ?_;refine Ze (WO (n:=2*k) rfl (by lia) (by lia)) ?_;refine oza (ZcA (f:=XG) (d:=none) (Int.natCast_nonneg k) (show (k:Int)<pats.length by lia)) fun hpm g=>?_;refine Ze (ZaX (Int.natCast_nonneg k) (by lia) g) ?_;have hpk:=hpo _ hpm;generalize pats.getD (k:Int).toNat none=pt at hpk g;induction pt with
 | none=>exact Zif I hG hF hn hk hns hpl hpt hd hes hnew h
 | some ps =>
  refine Yq (hpk ps rfl) fun q1 q2 q3=>?_;exact Znh I hG hF hn hk g q3 q1 hpl hpt hd hes hnew h
end
end
section
variable {G:Gx}{w:World}
theorem Zn0 {m:Nat}{own:List O}{t:Option D}:ZgA m own (.cell (t.map .d))=some (.cell (t.map .d)):=by cases t <;> rfl
theorem Zi5 {m n:Nat}{own:List O}:∀es:List (Str×D),Zw (UV (XU m n own)) (es.map fun e=>(e.1,A.d e.2))=some es
 | []=>rfl
 | e::es=>ZN (by show Option.map _ (XU m n own (.d e.2))=_;rw [ZjD];rfl) (Zi5 es)
theorem Zja {m i ep:Nat}{own:List O}{es:List (Str×D)}(hm:m≤i) (h:own[i]?=some (.dict (es.map fun e=>(e.1,A.d e.2)) ep)):Wu m own (.own i)=some (.d (.dict es)):=by
 show (if i<m then _ else _)=_;rw [if_neg (Zaq hm)];show Option.map A.d (ifO _ _)=_;rw [ZB hm,show Wo own i=none by unfold Wo;rw [h],show Wh own i=some _ by unfold Wh;rw [h]];show Option.map A.d (Option.map D.dict (Zw _ _))=_;rw [Zi5];rfl
noncomputable abbrev eR (rs:List RoleX):List (Str×A):=(Yo ["a"] rs).map fun e=>(e.1,.d e.2)
theorem Zhs {rs:List RoleX}:(eR rs).map (·.1)=rs.map RoleX.nm:=by
 unfold eR Yo;rw [List.map_map,List.map_map];rfl
section
variable {c:Cx}{P:Fw→St→Prop}{xs ns:List Int}{pats:List PatX}{paths:List Str}{kc:Option Int}
def Af6 (xs ns:List Int) (pats:List PatX) (paths:List Str) (st:St):Prop:=∃(rs:List RoleX) (kc:Option Int) (t:Option D),rs.map RoleX.nm=(["p","q","r"]:List Str)∧(∀r∈rs,r.Ok∧r.Small)∧Wl [0,3,5] 6 st=some ⟨[(0,.d (ZM ns)),(3,.d (.list (paths.map .str))),(5,.d (.list (rs.map (trD paths))))],cO xs kc (some (.d (.list (pats.map XG)))) (some (.d (.dict (Yo ["a"] rs)))) (t.map .d) none,[]⟩
theorem ZnG (I:IsX G w) (hG:c.G=G) {n:Nat}(hF:c.fuel=n) (hn:25≤n) (hns:ns.length=9) (hp3:pats.length=3) (hpo:∀p∈pats,WD p) (hpl:paths.length=2) (hpt:∀p∈paths,TxtOk 200 p) (h:∀st,Af6 xs ns pats paths st→P .next st) :
 wp c ZfK ⟨[(0,.d (ZM ns)),(3,.d (.list (paths.map .str)))],cP xs kc pats,[]⟩ P:=by
 refine .mk (β:=List RoleX×Option Int×Option D×Nat) pqr (fun q=>.d (.tuple [.int (q.1:Int),.str q.2])) (fun j=>LR (.d (ZM ns)) paths) (fun b=>cR xs b.2.1 (.d (.list (pats.map XG))) (b.2.2.1.map .d) (eR b.1) b.2.2.2 ((b.1.map (trD paths)).map .d)) [] (fun ks b=>b.1.map RoleX.nm++ks.map (·.2)=(["p","q","r"]:List Str)∧(∀q∈ks,q.1<3)∧∀r∈b.1,r.Ok∧r.Small) ([],kc,none,0) rfl (ZH (Zq rfl) rfl rfl) ⟨rfl,by decide,fun j h=>nomatch h⟩ (fun j j=>trivial) ?_ ?_
 ·rintro ⟨k,nm⟩ ks ⟨rs,kc,t,ep⟩ ⟨h1,h2,h3⟩;have h1:rs.map RoleX.nm++nm::ks.map (·.2)=(["p","q","r"]:List Str):=h1;have hlen:rs.length≤3:=by
   have:=congrArg List.length h1;rw [List.length_append,List.length_map] at this;exact Kr (Ko _ _) (Nat.le_of_eq this)
  refine ZgR I hG hF hn (h2 _ (.head _)) hns hp3 hpo hpl hpt (by rw [List.length_map];lia) (by rw [List.length_map];unfold Yo;rw [List.length_map];lia) ?_ fun r t' ep' L hr hok hL=>?_
  ·rw [Zhs];have:(rs.map RoleX.nm++nm::ks.map (·.2)).Nodup:=by rw [h1];decide
   exact fun hm=>(List.nodup_append.mp this).2.2 _ hm _ (.head _) rfl
  ·have hr:r.nm=nm:=hr;refine ⟨(rs++[r],some (k:Int),t',ep'),⟨?_,fun q hq=>h2 q (.tail _ hq),fun r' hr'=>(Z8 hr').elim (h3 r') fun hr'=>ZaI hr'▸hok⟩,ZH hL ?_ rfl⟩
   ·rw [List.map_append,List.append_assoc,←h1,←hr];rfl
   ·show cR xs (some k) _ (t'.map .d) _ ep' _=cR xs (some k) _ (t'.map .d) (eR (rs++[r])) ep' (((rs++[r]).map (trD paths)).map .d);rw [←hr];unfold eR Yo;rw [List.map_append,List.map_append,List.map_append,List.map_append];rfl
 ·rintro ⟨rs,kc,t,ep⟩ ⟨h1,j,h3⟩;refine h _ ⟨rs,kc,t,(List.append_nil _).symm.trans h1,h3,ZaR (Ko 6 2) rfl (ZN rfl (ZN rfl (ZN (congrArg (Option.map fun a=>(5,a)) (Zbb (by decide) rfl)) rfl))) (ZN rfl (ZN ZeM (ZN rfl (ZN (congrArg (Option.map fun a=>O.cell (some a)) (Zja (Kq _) rfl)) (ZN Zn0 rfl)))))⟩
end
end
section
variable {G:Gx}{w:World}
theorem Zbc {o:List O}{es:List (Str×D)}{ep:Nat}:Frz (o++[.dict (es.map fun e=>(e.1,A.d e.2)) ep]) o.length (.own o.length) (.dict es) :=
 .dict (Kq _) (by rw [Km (Kq _),Nat.sub_self];rfl) (ZlR rfl)
section
variable {c:Cx}{P:Fw→St→Prop}
theorem Zoc (I:IsX G w) (hG:c.G=G) {n:Nat}(hF:c.fuel=n) (hn:25≤n) {H:Hi}(X:EnvOk c (EK (kk2 w.params) 402 0 H)) {rs:List RoleX}(hrn:rs.map RoleX.nm=(["p","q","r"]:List Str)) (hr:∀r∈rs,r.Ok∧r.Small) {d0 d3 d5:D}{a0 a2 a4:Option A}{kc:Option Int}
 (h:wp c Zcw ⟨[(0,.d d0),(3,.d d3),(5,.d d5),(9,.d (ZaO rs)),(10,.d (ZaO rs))],[.cell a0,kcO kc,.cell a2,.cell (some (.d (.dict (Yo ["a"] rs)))),.cell a4,.cell none],[]⟩ P) :
 wp c Zgm ⟨[(0,.d d0),(3,.d d3),(5,.d d5)],[.cell a0,kcO kc,.cell a2,.cell (some (.d (.dict (Yo ["a"] rs)))),.cell a4,.cell none],[]⟩ P:=by
 have hrl:rs.length=3:=by have:=congrArg List.length hrn;rwa [List.length_map] at this
 have sk:Zr G (.ref 70) 3 [.str "a",.str "t",.str "s",.dict [("public",.str "pa")]] fun d=>d=Zg7.d:=ZfJ I.k (Zp5 w) (ZdL I.k);refine Zjv (Zjc hrn hr) fun r0 r1 r2 er k0 k1 k2=>?_;have ed:ZaO rs=dlD r0 r1 r2:=congrArg (WJ (Zed [Zg7])) er;rw [ed] at h;rw [er] at h ⊢;intro e1;refine ⟨_,_,.dict [("public",.str "pa")],rfl,Zbc (es:=[("public",.str "pa")]),?_⟩;refine Zfs (args:=[.str "a",.str "t",.str "s",.dict [("public",.str "pa")]]) I hG hF sk (by kd_p) (by lia) rfl ?_;intro e2;refine ⟨_,_,.dict (Zed [Zg7]),rfl,Zbc (es:=Zed [Zg7]),?_⟩;refine Zfs (args:=[.dict (Zed [Zg7]),.dict [("p",r0.d "p"),("q",r1.d "q"),("r",r2.d "r")]]) I hG hF (ZbG I) (by kd_p) (by lia) rfl ?_;refine Stop.mk (Yg (ZbB (Zdg I hG (by lia) k0 k1 k2 (X.l "delegations" 9 (by kd_p)) rfl (X.g "Delegations" _ (by kd_p) (X.gl _ _ (by kd_p))) (by kd_p1) (by kd_p1) ?_) ?_))
 ·refine Z1 (X.l "again" 10 (by kd_p)) (Z5 ?_);exact h
 ·exact rfl
end
end
section
variable {G:Gx}{w:World}
noncomputable abbrev cL (a0:Option A) (kc:Option Int) (a2:Option A) (rs:List RoleX) (a4:Option A) (pc:Option A):List O:=[.cell a0,kcO kc,.cell a2,.cell (some (.d (.dict (Yo ["a"] rs)))),.cell a4,.cell pc]
noncomputable abbrev LL (ns:List Int) (paths:List Str) (rs:List RoleX):List (Nat×A):=[(0,.d (ZM ns)),(3,.d (.list (paths.map .str))),(5,.d (.list (rs.map (trD paths)))),(9,.d (ZaO rs)),(10,.d (ZaO rs))]
theorem ZiX {path:Str}(rs:List RoleX):fitLB 20 (Yv path rs) (Yv path rs)=true:=by
 unfold Yv;generalize rs.filter _=qs;induction qs with
 | nil=>rfl
 | cons r qs ih=>exact ih
theorem Zk7 {path:Str}(rs:List RoleX):Zhu .NotEq (.d (.list (Yv path rs))) (.d (.list (Yv path rs)))=some false:=by
 have h1:=ZiX (path:=path) rs;have h2:=(ZeI (path:=path) rs).2;induction h:Yv path rs using LLc with
 | nil=>rfl
 | cons x xs =>
  rw [h] at h1 h2;show Option.map _ (ifO _ _)=_;rw [ZB h1,h2];rfl
theorem ZhN {paths:List Str}{rs:List RoleX}:(rs.map (trD paths)).all ZnQ=true:=by
 rw [List.all_map];exact List.all_eq_true.mpr fun j j=>rfl
section
variable {l:List (Nat×A)}{o:List O}{r:List A}
theorem ZiN {f:Str→Bool}{paths:List Str}{p:Str}(hp:p∈paths):Yt (.cmp .In) ⟨l,o,.d (.list ((paths.filter f).map .str))::.d (.str p)::r⟩=some ⟨l,o,.d (.bool (f p))::r⟩:=by
 refine Zie ?_;show (XV _).map _=_;rw [Zbh];exact congrArg some (Zjq hp)
end
section
variable {c:Cx}{P:Fw→St→Prop}{ns:List Int}{paths:List Str}{rs:List RoleX}{p:Str}{a0 a2 a4:Option A}{kc:Option Int}
theorem Zlr (hp:p∈paths) (hrl:rs.length=3) (h:P .next ⟨LL ns paths rs++[(13,.d (.list (Yv p rs)))],cL a0 kc a2 rs a4 (some (.d (.str p))),[]⟩):wp c ZcV ⟨LL ns paths rs++[(13,.d (.list (Yv p rs)))],cL a0 kc a2 rs a4 (some (.d (.str p))),[]⟩ P:=by
 refine Ze (ZB ZhN) ?_;refine Zbe rs (fun r=>.d (trD paths r)) (fun r=>if YC p r.pats r.texts=true then some (.tuple [.str r.nm,.bool r.tm]) else none) rfl List.map_map (by lia) (fun c' j j r hr l ys cl hcl=>?_) ?_
 ·refine Ze rfl ?_;refine Ze (ZiN hp) ?_;exact Zl (fun h=>⟨_,cl,(if_pos h).symm,rfl,rfl,hcl⟩) (fun h=>⟨(if_neg (Kv h)).symm,rfl,cl,rfl,hcl⟩)
 rw [UH];refine Ze (Zie (Zk7 rs)) ?_;refine Xc (rs.filter fun r=>YC p r.pats r.texts) (fun r=>.d (.tuple [.str r.nm,.bool r.tm])) (fun j=>none) rfl ?_ (Kr (List.length_filter_le _ _) (by lia)) (fun c' j j r hr l ys cl hcl=>?_) ?_
 ·exact List.map_map
 ·refine Stop.mk (Zjl ?_);exact ⟨rfl,rfl,cl,rfl,hcl⟩
 ·rw [show (rs.filter fun r=>YC p r.pats r.texts).filterMap (fun j=>(none:Option D))=[] by simp];exact h
end
end
section
theorem ZdV {G:Gx}{w:World}(I:IsX G w) {ks:List (Str×D)}{ids:List Str}{rs:List RoleX}{path:Str}(hp:PathOk path) (hr:∀r∈rs,r.Ok):Zet G (.ref 321) 24 [WJ ks (Yo ids rs),.str path,.val (.ref 356)] (Yv path rs):=by
 refine ZpH I.k fun cx hG hf hcel H hco A₁ g₀=>?_;have hK:=kIn I.k hG;have L0:=H.l0;have L3:=H.l3;refine ZcZ (Zp4 (Uh (Wx (Zm L0 rfl (X5 (d:=.dict (Yo ids rs)) hK rfl (by kd_p) rfl (Zcl (Zeg rfl (YT ⟨fun j=>?_,fun h=>Bool.noConfusion h⟩))))) rfl) rfl));refine ZcZ (Zp3 (Zcf (Y6 (Wx (Zm L0 rfl (X5 (d:=.dict (Yo ids rs)) hK rfl (by kd_p) rfl (Zbt (ZaU ?_)))) rfl) rfl rfl)) (fun j=>rfl));refine UG ?_ (fun j j=>rfl);have e1:((Yo ids rs).map fun e=>e.2).map A.d=rs.map fun r=>A.d (r.d ids):=by simp [Yo]
 have e2:Yv path rs=(rs.map fun r=>if YC path r.pats r.texts=true then [D.tuple [.str r.nm,.bool r.tm]] else []).flatten:=by
  clear hr e1;unfold Yv;induction rs with
  | nil=>rfl
  | cons r rs ih =>
   simp only [List.filter_cons,List.map_cons,List.flatten_cons];induction YC path r.pats r.texts with
   | true=>simp only [if_true,List.map_cons,List.cons_append,List.nil_append];rw [ih]
   | false=>simp only [Bool.false_eq_true,if_false,List.nil_append];rw [ih]
 rw [e1,e2];refine ZgZ (L:=[(1,.d (.str path)),(2,.d (.val (.ref 356)))]) (ow:=[]) (fun j=>trivial) rs _ (fun r hr' ys'=>?_) ⟨XY (by first | rfl | simp [ZD]) (XY (by first | rfl | simp [ZD]) ZcD),rfl,rfl⟩ (fun l hl=>Zch (Zch rfl));have hK1:Zr cx.G (.ref 198) 22 [r.d ids,.str path,.val (.ref 356)] (fun d=>d = .bool (YC path r.pats r.texts)):=by rw [hG];exact Zgf I hp (hr r hr').pt (hr r hr').one
 have k1:∀h,cx.G.lib.B h→ZF cx (.ref 198) h:=ZaS I.k (by kd_p) hG;refine Yi (Z1 L3 fun wr pn g₁=>?_);refine ZcZ (Zp4 (ZfF (Zax (Zm L3 rfl (WX hK (md1 w) (by kd_p) (ZY (Zm H.l1 rfl (ZY (Zm H.l2 rfl (XQ ?_)) rfl)) rfl))) rfl rfl rfl rfl) (by with_unfolding_all (intro j;rfl))));refine ZkZ hK1 k1 (by lia) ?_;rintro j rfl;refine YT ?_;refine ⟨fun h=>?_,fun h=>?_⟩
 ·rw [if_pos h];refine ZcZ (Zl4 (Zgu (by decide) (ZY (Wx (Zm L3 rfl (X5 (d:=.str r.nm) hK rfl (by kd_p) rfl (ZY (Wx (Zm L3 rfl (X5 (d:=.bool r.tm) hK rfl (by kd_p) rfl (XQ ?_))) rfl) rfl))) rfl) rfl)) hco);refine ⟨_,_,rfl,?_⟩;refine ⟨_,_,rfl,rfl,?_⟩;refine Zch ?_;refine Zch ?_;refine ⟨rfl,?_⟩;exact ⟨XY (by first | rfl | simp [ZD]) (XY (by first | rfl | simp [ZD]) ZcD),rfl,rfl⟩
 ·rw [if_neg (by rw [h];trivial)];refine Zch ?_;refine Zch ?_;refine ⟨rfl,?_⟩;exact ⟨XY (by first | rfl | simp [ZD]) (XY (by first | rfl | simp [ZD]) ZcD),rfl,rfl⟩
end
section
variable {G:Gx}{w:World}
section
variable {c:Cx}
theorem Zm1 {l:List (Nat×A)}{o:List O}{k:List A}{QM:Nat→St→Prop}{ids:List Str}{r:RoleX}(hK:KIn c (kk2 w.params)) (q:QM 1 ⟨l,o,.d (r.d ids)::.d (.val (.ref 198))::k⟩):MJ c "is_delegated_path" ⟨l,o,.d (r.d ids)::k⟩ QM:=by
 revert q
 exact fun q=>WX (f:=198) hK (md1 _) (by (simp only [Yj,YH,ZdD,String.reduceEq,decide_true,decide_false,List.any_cons,List.any_nil,List.map_cons,List.map_nil,Bool.false_or,Bool.or_false,Bool.true_or,Bool.or_true,Bool.false_eq_true,if_true,if_false,↓reduceIte,List.cons_append,List.nil_append,List.find?_cons,List.find?_nil,Option.map_some,Option.map_none])) q
noncomputable def rdD (r:RoleX):D:=.dict (Zbg r.nm r.tm ["a"] (r.pats.map (·.map YL)) r.texts)
theorem md3 (w:World):ZcP (kk2 w.params) 324 321 "get_roles_for_target"=true:=by kd_p
theorem ZnN {l:List (Nat×A)}{o:List O}{k:List A}{QM:Nat→St→Prop}{rs:List RoleX}(hK:KIn c (kk2 w.params)) (q:QM 1 ⟨l,o,.d (ZaO rs)::.d (.val (.ref 321))::k⟩):MJ c "get_roles_for_target" ⟨l,o,.d (ZaO rs)::k⟩ QM:=by
 revert q
 exact fun q=>WX (f:=321) hK (md3 _) (by (simp only [Yj,YH,ZdD,String.reduceEq,decide_true,decide_false,List.any_cons,List.any_nil,List.map_cons,List.map_nil,Bool.false_or,Bool.or_false,Bool.true_or,Bool.or_true,Bool.false_eq_true,if_true,if_false,↓reduceIte,List.cons_append,List.nil_append,List.find?_cons,List.find?_nil,Option.map_some,Option.map_none])) q
end
section
variable {c:Cx}{P:Fw→St→Prop}{ns:List Int}{paths:List Str}{rs:List RoleX}{p:Str}{a0 a2 a4:Option A}{kc:Option Int}
theorem Zoo (I:IsX G w) (hG:c.G=G) {n:Nat}(hF:c.fuel=n) (hn:25≤n) {H:Hi}(X:EnvOk c (EK (kk2 w.params) 402 0 H)) (hns:ns.length=9) {k:Nat}(hp:p∈paths) (hpt:TxtOk 200 p) (hr:∀r∈rs,r.Ok∧r.Small) (hrl:rs.length=3) (h:∀L,Le (LL ns paths rs) L→P .next ⟨L,cL a0 (some k) a2 rs a4 (some (.d (.str p))),[]⟩) :
 wp c Zfo ⟨LL ns paths rs,cL a0 (some k) a2 rs a4 (some (.d (.str p))),[]⟩ P:=by
 have key:wp c (.o (.st (.l 12)) <| .raw [YV (fAt pw2 25) [10,2]] <| .mark [0,3,5,9,10,13] ZcV) ⟨LL ns paths rs,cL a0 (some k) a2 rs a4 (some (.d (.str p))),[.d (ZaO rs)]⟩ P:=by
  have L12:IsL c "told" 12:=X.l _ _ (by kd_p);have L13:IsL c "pairs" 13:=X.l _ _ (by kd_p);have C5:IsC c "path" 5:=X.k _ _ (XC (by kd_p)) (by kd_p);have k5:c.env.kindOf "path"=some .cell:=X.kd _ (by kd_p);have G4:IsG c "_law_digest" (.ref 356):=X.g _ _ (by kd_p) (X.gl _ _ (by kd_p));have hcel:c.cel=celL:=X.cel.trans (by kd_p);have kg:∀h,c.G.lib.B h→ZF c (.ref 321) h:=ZaS I.k (by kd_p) hG;have sg:Zet c.G (.ref 321) 24 [ZaO rs,.str p,.val (.ref 356)] (Yv p rs):=by rw [hG];exact ZdV I (XA hpt) fun r h=>(hr r h).1
  have htl:=ZhK (path:=p) rs;refine Stop.mk (Yg (ZgL (jx:=1) L13 (Zby hcel (by kd_p)) (ZjP ?_ (fun j j=>rfl) (by kd_p1) (by kd_p1) (by kd_p1) (by kd_p1)) (ZfB L13 (by kd_p) (by kd_p1)) (fun j=>rfl)));refine Zm L12 rfl (ZnN (kIn I.k hG) ?_);refine ZY (Zjd C5 rfl (ZY (Z2 G4 (XQ ?_)) rfl)) rfl;refine ⟨_,_,[ZaO rs,.str p,.val (.ref 356)],Yv p rs,⟨_,_,[]⟩,sg,kg,by lia,rfl,rfl,Yv p rs,rfl,rfl,by lia,rfl,fun c' H'=>ZjH H' (by kd_p),Z5 ?_⟩;exact Zlr hp hrl (h _ (Zq rfl))
 refine Ze (WO (n:=8) rfl (by lia) (by decide)) ?_;exact Zl (fun j=>key) (fun j=>key)
end
end
section
variable {G:Gx}{w:World}
section
variable {c:Cx}{l:List (Nat×A)}{o:List O}{s:List A}
noncomputable abbrev rdE (r:RoleX):List (Str×D):=Zbg r.nm r.tm ["a"] (r.pats.map (·.map YL)) r.texts
theorem Zf0 (I:IsX G w) (hG:c.G=G) (hf:5≤c.fuel) {r:RoleX}(hr:r.Ok) {P:D→Prop}{k:C}{Q:Fw→St→Prop}(q:wp c k ⟨l,o,.d (rdD r)::s⟩ Q) :
 Stop (MJ c "to_dict" ⟨l,o,.d (r.d ["a"])::s⟩ fun m st1=>wp c .nil st1 (nx fun st2=>CJ c (m+0) st2 fun st3=>wp c .nil st3 (nx fun st1=>∃os x d,st1=⟨l,o++os,x::s⟩∧Frz (o++os) o.length x d∧wp c k ⟨l,o,.d d::s⟩ Q))):=⟨by
 have k1:∀h,c.G.lib.B h→ZF c (.ref 181) h:=ZaS I.k (by kd_p) hG;refine WX (f:=181) (kIn I.k hG) (by kd_p) (by kd_p) ?_;refine Zc6 (args:=[r.d ["a"]]) (by rw [hG];exact (Wj I (nm:=r.nm) (tm:=r.tm) (ids:=["a"]) (p:=r.pats.map (·.map YL)) (h:=r.texts) (by have:=hr.one;simpa using this))) k1 hf rfl ?_;rintro j os' ⟨rfl,ep1,rfl⟩;refine ⟨[.dict ((rdE r).map fun e=>(e.1,A.d e.2)) ep1],.own o.length,rdD r,?_,Zbc,q⟩;have e2:List.map (Xy fun x=>o.length+x) [O.dict ((rdE r).map fun e=>(e.1,A.d e.2)) ep1]=[O.dict ((rdE r).map fun e=>(e.1,A.d e.2)) ep1]:=by
  show [O.dict (Zdd _ _) ep1]=[O.dict _ ep1];unfold Zdd;rw [List.map_map];rfl
 rw [e2];rfl⟩
end
section
variable {c:Cx}{P:Fw→St→Prop}{ns:List Int}{paths:List Str}{rs:List RoleX}{a0 a2 a4:Option A}{kc:Option Int}
theorem Znn (I:IsX G w) (hG:c.G=G) {n:Nat}(hF:c.fuel=n) (hn:25≤n) (hrn:rs.map RoleX.nm=(["p","q","r"]:List Str)) (hr:∀r∈rs,r.Ok∧r.Small) {pc:Option A}:wp c ZfW ⟨[(10,.d (ZaO rs))],cL a0 kc a2 rs a4 pc,[]⟩ (YF fun d=>d = .bool true):=by
 have hnd:(rs.map RoleX.nm).Nodup:=by rw [hrn];decide
 have hrl:rs.length=3:=by have:=congrArg List.length hrn;rwa [List.length_map] at this
 refine Stop.mk (Zbt (ZaU ?_));refine Xc rs (fun r=>.d (r.d ["a"])) (fun r=>some (rdD r)) rfl ?_ (by lia) (fun c' hG' hF' r hr' l ys cl hcl=>?_) ?_
 ·exact (congrArg _ List.map_map).trans List.map_map
 ·refine Zf0 (P:=fun j=>True) I (hG'.trans hG) (by rw [hF',hF];lia) (hr r hr').1 ?_;exact ⟨_,cl,rfl,rfl,rfl,hcl⟩
 rw [List.filterMap_eq_map'];refine Xc rs (fun r=>.d (.str r.nm)) (fun r=>some (rdD r)) rfl ?_ (by lia) (fun c' hG' hF' r hr' l ys cl hcl=>?_) ?_
 ·have:=congrArg (List.map fun s:Str=>A.d (.str s)) hrn;rw [List.map_map] at this;exact this.symm
 ·refine Ze (ZcG (U0 (ids:=["a"]) hnd hr')) ?_;refine Zf0 (P:=fun j=>True) I (hG'.trans hG) (by rw [hF',hF];lia) (hr r hr').1 ?_;exact ⟨_,cl,rfl,rfl,rfl,hcl⟩
 rw [List.filterMap_eq_map'];obtain ⟨r1,rs,rfl⟩:∃r rs',rs=r::rs':=by induction rs using LLc with
  | nil=>cases hrl
  | cons r rs=>exact ⟨r,rs,rfl⟩
 have he:RcT c.G 4 (.list ((r1::rs).map rdD)) (.list ((r1::rs).map rdD)):=RcT.list (need:=3) (ZbN fun d hd=>by
  refine Zb (List.mem_map.mp hd) fun r j zo1=>?_;subst zo1;exact Zll)
 refine Stop.mk (ZqC he (by lia) ?_);exact rfl
theorem Zml (I:IsX G w) (hG:c.G=G) {n:Nat}(hF:c.fuel=n) (hn:25≤n) {H:Hi}(X:EnvOk c (EK (kk2 w.params) 402 0 H)) (hns:ns.length=9) (hpl:paths.length=2) (hpt:∀p∈paths,TxtOk 200 p) (hrn:rs.map RoleX.nm=(["p","q","r"]:List Str)) (hr:∀r∈rs,r.Ok∧r.Small):wp c Zcw ⟨LL ns paths rs,cL a0 kc a2 rs a4 none,[]⟩ (YF fun d=>d = .bool true):=by
 have hnd:(rs.map RoleX.nm).Nodup:=by rw [hrn];decide
 have hrl:rs.length=3:=by have:=congrArg List.length hrn;rwa [List.length_map] at this
 refine .mk (β:=Option Int×Option A) paths.zipIdx (fun q=>.d (.tuple [.int (q.2:Int),.str q.1])) (fun j=>LL ns paths rs) (fun b=>cL a0 b.1 a2 rs a4 b.2) [] (fun ks j=>∀q∈ks,q.1∈paths) (kc,none) ?_ (ZH (Zq rfl) rfl rfl) (fun q hq=>(List.mem_zipIdx' hq).2▸List.getElem_mem _) (fun j j=>trivial) ?_ ?_
 ·rw [List.zipIdx_map,List.map_map,List.map_map];rfl
 ·rintro ⟨p,k⟩ ks ⟨kc,pc⟩ hq;have hp:p∈paths:=hq _ (.head _);refine Ze rfl ?_;refine Ze (ZB ZhN) ?_;refine .mk (β:=Unit) rs (fun r=>.d (trD paths r)) (fun j=>LL ns paths rs) (fun j=>cL a0 (some k) a2 rs a4 (some (.d (.str p)))) [] (fun ks j=>∀r∈ks,r∈rs) () List.map_map (ZH (Zq rfl) rfl rfl) (fun j h=>h) (fun j j=>trivial) ?_ ?_
  ·rintro r ks2 j hq2;have hrr:=hq2 r (.head _);refine oza (hr r hrr) fun r1 r2=>?_;refine Ze rfl ?_;refine Ze (ZcG (U0 (ids:=["a"]) hnd hrr)) ?_;refine Stop.mk (Zm1 (kIn I.k hG) ?_);refine (ZbU (args:=[r.d ["a"],.str p,.val (.ref 356)]) I.k hG hF (Zgf I (XA (hpt p hp)) r1.pt r1.one) (by kd_p) (by lia) rfl ?_).out;rintro j rfl;refine Ze (ZiN hp) ?_;refine Zl (fun h=>?_) (fun j=>⟨(),fun r hr=>hq2 r (.tail _ hr),ZH (Zq rfl) rfl rfl⟩);have h:(YC p r.pats r.texts != YC p r.pats r.texts)=true:=h;simp at h
  ·intro j j;refine Zoo I hG hF hn X hns hp (hpt p hp) hr hrl fun L hL=>?_;exact ⟨(some k,some (.d (.str p))),fun q h=>hq q (.tail _ h),ZH hL rfl rfl⟩
 ·rintro ⟨kc,pc⟩ _;exact Znn I hG hF hn hrn hr
end
end
section
section
variable {G:Gx}{w:World}
theorem Zqn (I:IsX G w) {xs:List Int}(hx:xs.length≤63):Zr G (.ref 402) 26 [ZM xs] (fun d=>d = .bool true) :=
 Zrn I.k (need:=25) (own':=[.cell (some (.d (ZM xs))),.cell none,.cell none,.cell none,.cell none,.cell none]) (Z3 (n:=1) (names:=["script"]) I.k (by kd_p) (ln1 fun b0 S=>by kd_p)) (ZqV w) UC (by kd_p) fun c hG hF X=>by
  have hn:25≤25:=Kq _;refine ZoN hx fun ns hns=>?_;refine ZoH I.k hG hF hn hns fun st zq0=>?_;refine Zc zq0 fun pats kc hp3 hpo e=>?_;refine Ze e ?_;refine ZnR I.k hG hF hn hns hp3 hpo fun st zq1=>?_;refine Zx zq1 fun paths hpl hpt e=>?_;refine Ze e ?_;refine ZnG I hG hF hn hns hp3 hpo hpl hpt fun st zq2=>?_;refine Zdj zq2 fun rs kc t hrn hr e=>?_;refine Ze e ?_;refine Zoc I hG hF hn X hrn hr ?_;exact Zml I hG hF hn X hns hpl hpt hrn hr
end
end
section
open PySem.W
section
variable {G:Gx}{w:World}
theorem ZkJ (I:IsX G w) {xs:List Int}(hx:xs.length≤63):Zr G (.ref 402) 26 [ZM xs] (fun d=>d = .bool true):=Zqn I hx
end
def Zqo (h:Heap):Prop:=∃m bm o,h.Ns mainGlobals m∧m "__builtins__"=some (.ref bm)∧bm≠builtinsNs∧h.get? bm=some o∧o.cls = .type "module"∧o.dict=some builtinsNs∧o.data = .plain
def B2 (w:World) (h:Heap):Prop:=(kk2 w.params).In h∧(∃q loose mg mb,TopRead q loose mg mb h)∧Zqo h
noncomputable def L2 (w:World):Lib where
 B:=B2 w
 mono:=fun g g' x h=>⟨h.1.keeps x,Zc5 h.2.1 fun q loose mg mb h2=>⟨q,loose,mg,mb,h2.keeps x⟩,XN h.2.2 fun m bm h=>oze h fun o h=>⟨m,bm,o,h.1.keeps x,h.2.1,h.2.2.1,x _ _ h.2.2.2.1,h.2.2.2.2⟩⟩
 nolimit:=fun g h=>Zc5 h.2.1 fun j j j j h2=>h2.nolimit
 low:=fun g h=>Zc5 h.2.1 fun j j j j h2=>ZZ h2.g fun o j j e j=>⟨o,e⟩
noncomputable def GG2 (w:World):Gx:=⟨pw2,w,L2 w,[Yu 152,Yu 287]⟩
theorem Zrp (w:World):IsX (GG2 w) w where
 k:=⟨fun h hB=>⟨hB.1,hB.2.1⟩,rfl⟩
 p:=rfl
 gen:=⟨fun h hB=>hB.1,fun r hr=>by
  rcases ZQ hr with rfl | hr
  ·exact ⟨_,rfl⟩
  ·rw [List.mem_singleton] at hr;subst hr;exact ⟨_,rfl⟩,fun h hB=>hB.2.2,fun r hr=>by
  rcases ZQ hr with rfl | hr
  ·decide
  ·rw [List.mem_singleton] at hr;subst hr;decide⟩
 r1:=.head _
 r2:=.tail _ (.head _)
noncomputable abbrev ZeJ (h:Heap):Heap:=hideAll h [152,287]
theorem Zcq {h:Heap}{a:Addr}{m:Str→Option Value}(x:h.Ns a m) (ha:a∉([152,287]:List Addr)):(ZeJ h).Ns a m :=
 ZZ x fun o es ep e r=>⟨o,es,ep,hideAll_get _ e ha,r⟩
theorem ZkY {w:World}{h:Heap}(X:(kk2 w.params).In h):(kk2 w.params).In (ZeJ h):=fun a o e=>by
 refine hideAll_get _ (X a o e) fun hm=>?_;rcases ZQ hm with rfl | hm
 ·have:(kk2 w.params).lookup 152=none:=by kd_p
  rw [this] at e;exact Zo e
 ·rw [List.mem_singleton] at hm;subst hm;have:(kk2 w.params).lookup 287=none:=by kd_p
  rw [this] at e;exact Zo e
theorem Zcz {h:Heap}(x:h.NoLimit):(ZeJ h).NoLimit:=by
 refine Zb x fun m h1 h2=>?_;exact ⟨m,Zcq h1 (by decide),h2⟩
theorem Zk4 {w:World}{h:Heap}(X:(kx2 w.params).In h):(kk2 w.params).In h:=fun a o e=>X a o (by
 unfold kx2;rw [List.lookup_append];rw [e];rfl)
theorem ZkN {w:World}{h:Heap}(X:(kx2 w.params).In h):h.get? 4=some {cls:=.type "module",dict:=some 0}∧h.get? 152=some {cls:=.none,data:=.fields #[]}∧h.get? 287=some {cls:=.none,data:=.fields #[]} :=
 ⟨X 4 _ (by kd_p),X 152 _ (by kd_p),X 287 _ (by kd_p)⟩
theorem Zot {w:World}{s:Shared}{q:Program}{loose:List Str}{mg mb:Str→Option Value}(X:(kx2 w.params).In s.heap) (T:TopRead q loose mg mb s.heap) (hg:s.gens=#[]):HS (GG2 w) ⟨ZeJ s.heap,[],#[],s.os,[]⟩ s (ZeJ s.heap) where
 base:=by
  refine Yq (ZkN X) fun x4 j j=>?_;have K:=ZkY (Zk4 X);have Tg:=Zcq T.g (by decide);refine ⟨K,⟨q,loose,mg,mb,Tg,Zcq T.b (by decide),Zcz T.nolimit,T.builtins,T.free⟩,mg,4,_,Tg,W.mg_of K Tg (by kd_p),by decide,hideAll_get _ x4 (by decide),rfl,rfl,rfl⟩
 g0:=Sub.refl _
 keep:=fun j j e=>of_hideAll _ e
 reg:=fun r hr=>by
  refine Yq (ZkN X) fun j x1 x2=>?_;rcases ZQ hr with rfl | hr
  ·exact ⟨hideAll_none _ (by decide),_,x1,#[],rfl,trivial⟩
  ·rw [List.mem_singleton] at hr;subst hr;exact ⟨hideAll_none _ (by decide),_,x2,#[],rfl,trivial⟩
 hid:=fun j h=>nomatch h
 gens:=fun i y h=>by simp at h
 bare:=by rw [hg];exact AllBare.empty
 os:=rfl
theorem ZqM {w:World}{F:Fz}{s s':Shared}{g':Heap}(X:(kx2 w.params).In s.heap) (H:HS (GG2 w) F s' g') (hs:Sub (ZeJ s.heap) g'):OldK s.heap s'.heap:=by
 refine Yq (ZkN X) fun j x1 x2=>?_;have tab:∀(P:Addr),Yu P∈(GG2 w).reg→s.heap.get? P=some {cls:=.none,data:=.fields #[]}→isCodeTable s.heap P→asItWas s.heap s'.heap P {cls:=.none,data:=.fields #[]}:=fun P hP e ht=>by
  obtain ⟨j,o,e2,ps,e3,j⟩:=H.reg _ hP;refine .inr (.inl ⟨ht,rfl,#[],ps,rfl,?_⟩);rw [show s'.heap.get? P=some o from e2,e3];simp
 have there:∀b o,s.heap.get? b=some o→b∉([152,287]:List Addr)→s'.heap.get? b=some o:=fun b o e hb=>H.keep _ _ (hs _ _ (hideAll_get _ e hb));refine ⟨fun b o e=>?_,fun b o e=>?_⟩
 ·by_cases hb:b∈([152,287]:List Addr)
  ·rcases ZQ hb with rfl | hb
   ·rw [x1] at e;obtain rfl:=Kc e;exact tab 152 (.head _) x1 (Heap.TableAt.isCodeTable (WW (cda:=156) (Zk4 X) (by kd_p) x1))
   ·rw [List.mem_singleton] at hb;subst hb;rw [x2] at e;obtain rfl:=Kc e;exact tab 287 (.tail _ (.head _)) x2 (Heap.TableAt.isCodeTable (WW (cda:=291) (Zk4 X) (by kd_p) x2))
  ·exact .inl (there b o e hb)
 ·by_cases hb:b∈([152,287]:List Addr)
  ·rcases ZQ hb with rfl | hb
   ·refine YM (H.reg (Yu 152) (.head _)) fun j o e2 j=>?_;exact ⟨o,e2⟩
   ·rw [List.mem_singleton] at hb;subst hb;refine YM (H.reg (Yu 287) (.tail _ (.head _))) fun j o e2 j=>?_;exact ⟨o,e2⟩
  ·exact ⟨o,there b o e hb⟩
theorem Zl3 {p:Program}{w:World}{g:Heap}{vs:List Value}{xs:List Int}(h:IntsAre vs xs):VRs p w g (xs.map .int) vs:=by
 induction h with
 | nil=>rfl
 | cons n t h ih=>exact ⟨_,_,rfl,⟨t,rfl⟩,ih⟩
theorem ZpO:WalkO Wg UX (XL Wg []) UB.says row2.row.toRowW ZmL [] fun f vs=>PySem.call f vs:=by
 intro w s₀ s₁ mg mb Gd Y fa o pm cd doc dV kV ho hd hcd hD hmg hgens args vals as hpre hlay hrd hwl hlo;have X:(kx2 w.params).In s₁.heap:=Y;have TR:=topRead_of Gd.T;have hfa:mg "law"=some (.ref 402):=W.mg_of (Zk4 X) TR.g (by kd_p);have e402:fa=402:=by
  have:mg "law"=some (.ref fa):=hmg;rw [hfa] at this;cases this;rfl
 subst e402
 wrow_args hpre hlay hrd hwl hlo
 rename_i xs0 _ _ _ _ _ _ _ a0 vs0 _ hL _ _ _ hI _ hc _;have hlen:xs0.length≤63:=by lia
 have ha0:a0∉([152,287]:List Addr):=fun hm=>by
  refine Yq (ZkN X) fun _ x1 x2=>?_;refine Zx hL fun ol e1 e2 _=>?_;rcases ZQ hm with rfl | hm
  ·rw [x1] at e1;obtain rfl:=Kc e1;cases e2
  ·rw [List.mem_singleton] at hm;subst hm;rw [x2] at e1;obtain rfl:=Kc e1;cases e2
 have hv:VRs (GG2 w).p (GG2 w).w (ZeJ s₁.heap) [ZM xs0] [.ref a0]:=by
  refine Zb hL fun ol e1 e2=>?_;exact ⟨_,_,rfl,⟨a0,vs0,rfl,⟨ol,hideAll_get _ e1 ha0,e2⟩,Zl3 hI⟩,rfl⟩
 refine Kb (ZkJ (Zrp w) hlen callerA _ [.ref a0] s₁ _ rfl (by decide) (by decide) (Zot X TR hgens) hv) (fun v s' zq0=>?_) fun _ _ x=>x.elim;obtain ⟨g',d,H',hs,hvr,hd⟩:=zq0;subst hd;subst hvr;refine ⟨.inl ⟨_,.bool true,[],rfl,?_,ReadsW.bool true,?_,fun _=>⟨List.nodup_nil,fun _ hm=>nomatch hm⟩⟩,ZqM X H' hs,H'.os,H'.bare⟩
 ·intro cls;rfl
 ·wrow_post
theorem law2_holds:row2.Holds:=ZpF ZpO
end
end MP
theorem PySem.Challenge.cw_jk0046_02_holds : PySem.Challenge.rw_jk0046_02.Holds :=
  MP.law2_holds
