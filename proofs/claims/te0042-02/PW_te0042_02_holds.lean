import PyProof.Rows.All
import OpenK.AllK
import Lean
import Wide.All
import KE.KEqDict
import KE.KDictOf
import Wide.FinOn
import PySem.Challenge.RW_te0042_02
open PySem PySem.W PyProof.Rows
set_option Elab.async false
set_option maxRecDepth 100000
set_option maxHeartbeats 0
set_option bootstrap.genMatcherCode false
set_option genSizeOf false
set_option genInjectivity false
set_option genCtorIdx false
set_option backward.match.sparseCases false
set_option compiler.extract_closed false
set_option linter.all false
set_option tactic.hygienic false
local macro_rules (kind:=Lean.Parser.Command.declaration)
 |x=>if !["def","abbrev"].contains x[1][0].getAtomVal||!x[0][4].isNone then throw .unsupportedSyntax else if x[1][0].getAtomVal=="abbrev"||x[1][1][0].getId.getString!.front.isUpper then return x.setArg 0 (x[0].setArg 4 (Lean.mkNullNode #[.node .none `Lean.Parser.Command.noncomputable #[Lean.mkAtom "noncomputable"]]))else return x.setArg 1 (.node .none `Lean.Parser.Command.theorem #[Lean.mkAtom "theorem",x[1][1],.node .none `Lean.Parser.Command.declSig #[x[1][2][0],x[1][2][1][0]],x[1][3]])
set_option linter.defProp false
namespace Mine
set_option backward.match.sparseCases true
theorem Za (h : a ∈ [b]) : a = b := List.mem_singleton.mp h
theorem Zb (h : a ∈ b :: l) : a = b ∨ a ∈ l := List.mem_cons.mp h
theorem Zc {p : α → Prop} (h : p a ∧ ∀ x ∈ l, p x) : ∀ x ∈ a :: l, p x := List.forall_mem_cons.mpr h
theorem Zd (h : List.all l p = true) : ∀ x ∈ l, p x = true := List.all_eq_true.mp h
theorem Ze {l : List α} (h : l.isEmpty = true) : l = [] := List.isEmpty_iff.mp h
def Zf:=@Option.some.inj
def Zg:=@List.length_append
def Zh:=@Nat.le_trans
def Zi:=@if_neg
def Zj:=@List.length_cons
def Zk:=@if_pos
def Zl:=@List.mem_singleton
def Zm:=@of_decide_eq_true
def Zn:=@wpAny_bind
def Zo:=@List.append_assoc
def Zp:=@Bool.and_eq_true
def Zq:=@Nat.le_refl
def Zr:=@decide_eq_true
def Zs:=@decide_eq_false
def Zt:=@List.mem_cons
def Zu:=@List.append_nil
def Zv:=@List.all_eq_true
def Zw:=@Heap.get?_push_of_some
def Zx:=@List.forall_mem_cons
def Zy:=@List.getElem?_eq_getElem
def Zz:=@Nat.le_of_eq
def ZA:=@of_decide_eq_false
def ZC:=@Nat.eq_of_beq_eq_true
def ZD:=@List.length_map
def ZE:=@wpAny_pure
def ZF:=@Nat.zero_le
def ZG:=@List.length_take
def ZH:=@Nat.add_le_add_left
def ZI:=@List.cons.inj
def ZJ:=@Nat.lt_of_lt_of_le
def ZK:=@Nat.le_of_add_right_le
def ZL:=@Heap.get?_push_size
def ZM:=@List.length_drop
def ZN:=@Nat.le_of_lt_succ
def ZO:=@Nat.min_eq_left
def ZP:=@List.size_toArray
def ZQ:=@Nat.le_of_ble_eq_true
def ZR:=@Nat.le_add_right
def ZS:=@List.isEmpty_iff
def ZT:=@wpAny_mono
def ZU:=@Nat.eq_or_lt_of_le
def ZV:=@Nat.add_le_add_right
def ZW:=@List.length_nil
def ZX:=@Nat.ble_eq_true_of_le
def ZY:=@wpAny_holding
def ZZ:=@Nat.add_right_comm
def Z0:=@Nat.le_add_left
def Z1:=@Nat.succ_le_succ
def Z2:=@List.takeWhile_cons
def Z3:=@Nat.ne_of_lt
def Z4:=@Nat.lt_succ_self
def Z5:=@List.takeWhile_prefix
def Z6:=@Array.getElem?_eq_getElem
def Z7:=@List.map_append
def Z8:=@Bool.not_eq_true'
def Z9:=@Nat.add_le_add
def Yb:=@Nat.lt_of_le_of_lt
def Yc:=@List.take_append_drop
def Yd:=@List.length_replicate
def Ye:=@List.map_cons
def Yg:=@Nat.mul_le_mul_left
def Yh:=@List.drop_eq_getElem_cons
def Yi:=@List.mem_append
def Yj:=@Nat.le_of_succ_le
def Yk:=@Heap.lt_size
def Yl:=@List.not_mem_nil
def Ym:=@List.prefix_iff_eq_take
def Yn:=@Nat.add_assoc
def Yo:=@Nat.le_of_lt
def Yp:=@List.drop_zero
def Yq:=@Bool.or_eq_true
def Yr:=@Array.getElem?_setIfInBounds
def Ys:=@Option.bind_some
def Yt:=@Nat.min_le_right
def Yu:=@decide_eq_true_eq
def Yv:=@Int.toNat_natCast
def Yw:=@beq_iff_eq
def Yx:=@Int.natCast_nonneg
def Yy:=@List.getD_eq_getElem?_getD
def Yz:=@wpAny_standAt
def YA:=@Nat.lt_irrefl
def YB:=@Nat.succ_pos
def YC:=@List.take_length
def YD:=@List.drop_eq_nil_of_le
def YE:=@sizeLine_eq
def YF:=@List.eq_nil_of_length_eq_zero
def YH:=@List.getElem?_toArray
def YI:=@List.drop_drop
def YJ:=@Nat.succ_add_eq_add_succ
def YK:=@Nat.le_antisymm
def YL:=@List.nil_append
def YM:=@wpAny_toks
def YN:=@Nat.not_lt
def YO:=@Nat.lt_add_right
def YQ:=@Nat.add_sub_cancel_left
def YR:=@List.all_cons
def YS:=@Eq.symm
def YT:=@Nat.lt_or_ge
def YU:=@List.drop_left
def YV:=@Nat.add_sub_of_le
def YW:=@Nat.lt_of_add_right_lt
def YX:=@Nat.le_succ
def YZ:=@wpAny_loadPart'
def Y0:=@Decidable.byContradiction
def Y1:=@List.cons_prefix_cons
def Y2:=@List.cons_append
def Y3:=@List.mem_map
def Y4:=@Nat.le_succ_of_le
def Y5:=@beq_eq_false_iff_ne
def Y6:=@List.dropWhile_cons
def Y7:=@Int.ofNat_add_ofNat
def Y8:=@Array.length_toList
def Y9:=@List.map_map
def Xa:=@Int.ofNat_lt
def Xb:=@Nat.ne_of_beq_eq_false
def Xc:=@Nat.le_of_succ_le_succ
def Xd:=@Nat.le_add_right_of_le
def Xe:=@Array.getElem?_eq_none
def Xf:=@beq_self_eq_true
def Xg:=@List.lookup_cons
def Xh:=@List.getElem_mem
def Xi:=@List.takeWhile_cons_of_pos
def Xj:=@List.isPrefixOf_iff_prefix
def Xk:=@Nat.le_of_add_left_le
def Xl:=@List.mem_append_right
def Xm:=@List.getElem?_eq_none
def Xn:=@List.cons_lt_cons_iff
def Xo:=@Option.isNone_iff_eq_none
def Xp:=@Nat.add_comm
def Xq:=@List.getElem?_map
def Xr:=@List.mem_map_of_mem
def Xu:=@wpAny_execs_cons
def Xv:=@Nat.succ_lt_succ
def Xw:=@List.getLast?_eq_some_getLast
def Xx:=@Nat.lt_of_le_of_ne
def Xy:=@List.append_eq_nil_iff
def Xz:=@Calls.callWith_builtin
def XA:=@congrFun
def XB:=@Bool.true_and
def XC:=@Nat.sub_le_iff_le_add
def XD:=@Nat.le_of_sub_eq_zero
def XE:=@List.lookup_cons_self
def XF:=@wpAny_truthy_bool
def XG:=@List.flatten_cons
def XH:=@Fast.te17119622794617984870
def XI:=@wpAny_call
def XJ:=@Nat.not_succ_le_zero
def XM:=@List.mem_append_left
def XN:=@List.takeWhile_cons_of_neg
def XO:=@Calls.Name_function_global
def XQ:=@Int.le_trans
def XR:=@Nat.le_of_not_lt
def XS:=@List.take_prefix
def XT:=@List.prefix_refl
def XU:=@List.cons_ne_nil
def XW:=@List.length_pos_iff
def XY:=@Int.toNat_of_nonneg
def XZ:=@seg_execs_nil
def X0:=@Int.ofNat_inj
def X2:=@Int.neg_ofNat_le_natCast
def X3:=@wpAny_execs_nil
def X4:=@Nat.not_lt_zero
def X5:=@Nat.min_le_left
def X6:=@List.find?_cons
def X7:=@wpAny_of_eq
def X8:=@List.getLast?_cons_cons
def X9:=@List.filter_cons_of_pos
def Wa:=@List.filter_cons_of_neg
def Wb:=@Nat.zero_add
def Wc:=@seg_execs_cons
def We:=@List.take_left
def Wf:=@List.drop_take
def Wg:=@Bool.false_and
def Wh:=@Nat.lt_of_succ_lt_succ
def Wi:=@Nat.add_lt_of_lt_sub'
def Wj:=@List.take_eq_take_min
def Wk:=@typeIs_str
def Wl:=@Nat.sub_le
def Wm:=@List.any_eq_true
def Wn:=@List.take_nil
def Wo:=@Int.lt_irrefl
def Wp:=@Bool.or_false
def Wq:=@Nat.le_zero
def Ws:=@Nat.sub_le_sub_right
def Wt:=@List.drop_append_of_le_length
abbrev Wu:=PySem.Str
abbrev Wv:=PySem.Value
abbrev Ww:=PySem.Shared
abbrev Wx:=PySem.Params
abbrev Wy:=PySem.World
abbrev Wz:=PySem.Around
abbrev WA:=PySem.Program
abbrev WB:=PySem.OsState
abbrev WC:=PySem.DictEntry
abbrev WD:=PySem.Addr
abbrev WE:=PySem.Expr
abbrev WG:=PySem.Stmt
abbrev WH:=PySem.Heap
abbrev WI:=PySem.Keyword
abbrev WJ:=List Nat
@[elab_as_elim] def af {p:α->Prop} (h:a=b) (e:p b):p a:=h▸e
@[elab_as_elim] def ai {p:α->Prop} (h:a=b) (e:p a):p b:=h▸e
def j1{A:α->β->Prop}(x:α)(y:β)(a:A x y):∃x y,A x y:=⟨x,y,a⟩
def ip{A:α->β->Prop}{P:Prop}(h:∃x y,A x y)(k:∀x y,A x y->P):P:=h.elim λx h=>h.elim (k x)
def gp{A:α->β->γ->Prop}(x:α)(y:β)(z:γ)(a:A x y z):∃x y z,A x y z:=⟨x,j1 y z a⟩
def pD{A:α->β->γ->Prop}{P:Prop}(h:∃x y z,A x y z)(k:∀x y z,A x y z->P):P:=h.elim λx h=>ip h (k x)
def bu{A:α->β->γ->δ->Prop}{P:Prop}(h:∃x y z u,A x y z u)(k:∀x y z u,A x y z u->P):P:=h.elim λx h=>pD h (k x)
def bR{A:α->β->γ->δ->Prop}(x:α)(y:β)(z:γ)(u:δ)(a:A x y z u):∃x y z u,A x y z u:=⟨x,gp y z u a⟩
def zb{A:α->β->γ->δ->ε->Prop}{P:Prop}(h:∃x y z u v,A x y z u v)(k:∀x y z u v,A x y z u v->P):P:=h.elim λx h=>bu h (k x)
def zc{A:α->β->γ->δ->ε->Prop}(x:α)(y:β)(z:γ)(u:δ)(v:ε)(a:A x y z u v):∃x y z u v,A x y z u v:=⟨x,bR y z u v a⟩
def nj{A:α->β->γ->δ->ε->ζ->Prop}(x:α)(y:β)(z:γ)(u:δ)(v:ε)(w:ζ)(a:A x y z u v w):∃x y z u v w,A x y z u v w:=⟨x,zc y z u v w a⟩
def ng{A:α->β->γ->δ->ε->ζ->Prop}{P:Prop}(h:∃x y z u v w,A x y z u v w)(k:∀x y z u v w,A x y z u v w->P):P:=h.elim λx h=>zb h (k x)
def qR{A:α->β->γ->δ->ε->ζ->η->Prop}{P:Prop}(h:∃x y z u v w r,A x y z u v w r)(k:∀x y z u v w r,A x y z u v w r->P):P:=h.elim λx h=>ng h (k x)
def qS{A:α->β->γ->δ->ε->ζ->η->Prop}(x:α)(y:β)(z:γ)(u:δ)(v:ε)(w:ζ)(r:η)(a:A x y z u v w r):∃x y z u v w r,A x y z u v w r:=⟨x,nj y z u v w r a⟩
def aA{A B:α->Prop}{P:Prop}(h:∃x,A x/\B x)(k:∀x,A x->B x->P):P:=h.elim λx j=>k x j.1 j.2
def zA{A B:Prop}{P:Prop}(h:A/\B)(k:A->B->P):P:=k h.1 h.2
def aO{A B:α->Prop}(x:α)(a:A x)(b:B x):∃x,A x/\B x:=⟨x,⟨a,b⟩⟩
def yE{A:α->Prop}(x:α)(a:A x):∃x,A x:=⟨x,a⟩
def zE{A:α->Prop}{P:Prop}(h:∃x,A x)(k:∀x,A x->P):P:=h.elim λx h=>k x h
def ay{A B:α->β->γ->Prop}(x:α)(y:β)(z:γ)(a:A x y z)(b:B x y z):∃x y z,A x y z/\B x y z:=(gp x y z ⟨a,b⟩)
def aU{A B:α->β->Prop}(x:α)(y:β)(a:A x y)(b:B x y):∃x y,A x y/\B x y:=(j1 x y ⟨a,b⟩)
def aX{A B:α->β->Prop}{P:Prop}(h:∃x y,A x y/\B x y)(k:∀x y,A x y->B x y->P):P:=ip h λx y j=>k x y j.1 j.2
def cu{A B C:Prop}{P:Prop}(h:A/\B/\C)(k:A->B->C->P):P:=k h.1 h.2.1 h.2.2
def aY{A B C D:α->Prop}(x:α)(a:A x)(b:B x)(c:C x)(d:D x):∃x,A x/\B x/\C x/\D x:=⟨x,⟨a,b,c,d⟩⟩
def bM{A B C:α->Prop}{P:Prop}(h:∃x,A x/\B x/\C x)(k:∀x,A x->B x->C x->P):P:=h.elim λx j=>k x j.1 j.2.1 j.2.2
def a8{A B C:α->β->Prop}(x:α)(y:β)(a:A x y)(b:B x y)(c:C x y):∃x y,A x y/\B x y/\C x y:=(j1 x y ⟨a,b,c⟩)
def bA{A B C:α->β->Prop}{P:Prop}(h:∃x y,A x y/\B x y/\C x y)(k:∀x y,A x y->B x y->C x y->P):P:=ip h λx y j=>k x y j.1 j.2.1 j.2.2
def bY{A B C D:Prop}{P:Prop}(h:A/\B/\C/\D)(k:A->B->C->D->P):P:=k h.1 h.2.1 h.2.2.1 h.2.2.2
def ck{A B C:α->Prop}(x:α)(a:A x)(b:B x)(c:C x):∃x,A x/\B x/\C x:=⟨x,⟨a,b,c⟩⟩
def aK{A B C D E:α->β->γ->Prop}{P:Prop}(h:∃x y z,A x y z/\B x y z/\C x y z/\D x y z/\E x y z)(k:∀x y z,A x y z->B x y z->C x y z->D x y z->E x y z->P):P:=pD h λx y z j=>k x y z j.1 j.2.1 j.2.2.1 j.2.2.2.1 j.2.2.2.2
def bC{A B:α->β->γ->Prop}{P:Prop}(h:∃x y z,A x y z/\B x y z)(k:∀x y z,A x y z->B x y z->P):P:=pD h λx y z j=>k x y z j.1 j.2
def cV{A B:Prop}{C:α->Prop}{P:Prop}(h:A/\B/\∃x,C x)(k:A->B->∀x,C x->P):P:=h.2.2.elim λx j=>k h.1 h.2.1 x j
def aM{A B C D E:α->β->γ->Prop}(x:α)(y:β)(z:γ)(a:A x y z)(b:B x y z)(c:C x y z)(d:D x y z)(e:E x y z):∃x y z,A x y z/\B x y z/\C x y z/\D x y z/\E x y z:=(gp x y z ⟨a,b,c,d,e⟩)
def bO{A B C D:α->Prop}{P:Prop}(h:∃x,A x/\B x/\C x/\D x)(k:∀x,A x->B x->C x->D x->P):P:=h.elim λx j=>k x j.1 j.2.1 j.2.2.1 j.2.2.2
def bj{A B C D E:α->β->Prop}(x:α)(y:β)(a:A x y)(b:B x y)(c:C x y)(d:D x y)(e:E x y):∃x y,A x y/\B x y/\C x y/\D x y/\E x y:=(j1 x y ⟨a,b,c,d,e⟩)
def bG{A B C D:α->β->Prop}(x:α)(y:β)(a:A x y)(b:B x y)(c:C x y)(d:D x y):∃x y,A x y/\B x y/\C x y/\D x y:=(j1 x y ⟨a,b,c,d⟩)
def eX{A:Prop}{B C:α->Prop}{P:Prop}(h:A/\∃x,B x/\C x)(k:A->∀x,B x->C x->P):P:=h.2.elim λx j=>k h.1 x j.1 j.2
def bI{A:Prop}{B C D E:α->β->Prop}{P:Prop}(h:A/\∃x y,B x y/\C x y/\D x y/\E x y)(k:A->∀x y,B x y->C x y->D x y->E x y->P):P:=ip h.2 λx y j=>k h.1 x y j.1 j.2.1 j.2.2.1 j.2.2.2
def b4{A B C:α->β->γ->Prop}(x:α)(y:β)(z:γ)(a:A x y z)(b:B x y z)(c:C x y z):∃x y z,A x y z/\B x y z/\C x y z:=(gp x y z ⟨a,b,c⟩)
def cH{A B C:α->β->γ->Prop}{P:Prop}(h:∃x y z,A x y z/\B x y z/\C x y z)(k:∀x y z,A x y z->B x y z->C x y z->P):P:=pD h λx y z j=>k x y z j.1 j.2.1 j.2.2
def cg{A B C D:α->β->γ->Prop}(x:α)(y:β)(z:γ)(a:A x y z)(b:B x y z)(c:C x y z)(d:D x y z):∃x y z,A x y z/\B x y z/\C x y z/\D x y z:=(gp x y z ⟨a,b,c,d⟩)
def iW{A:α->Prop}{B:α->β->Prop}{P:Prop}(h:∃x,A x/\∃y,B x y)(k:∀x,A x->∀y,B x y->P):P:=h.elim λx j=>j.2.elim λy U=>k x j.1 y U
def bQ{A:Prop}{B C D E F:α->β->Prop}{P:Prop}(h:A/\∃x y,B x y/\C x y/\D x y/\E x y/\F x y)(k:A->∀x y,B x y->C x y->D x y->E x y->F x y->P):P:=ip h.2 λx y j=>k h.1 x y j.1 j.2.1 j.2.2.1 j.2.2.2.1 j.2.2.2.2
def bg{A B C D E F:α->β->γ->δ->ε->ζ->η->Prop}{P:Prop}(h:∃x y z u v w r,A x y z u v w r/\B x y z u v w r/\C x y z u v w r/\D x y z u v w r/\E x y z u v w r/\F x y z u v w r)(k:∀x y z u v w r,A x y z u v w r->B x y z u v w r->C x y z u v w r->D x y z u v w r->E x y z u v w r->F x y z u v w r->P):P:=qR h λx y z u v w r j=>k x y z u v w r j.1 j.2.1 j.2.2.1 j.2.2.2.1 j.2.2.2.2.1 j.2.2.2.2.2
def j2{A:α->Prop}{B:α->β->Prop}(x:α)(a:A x)(y:β)(b:B x y):∃x,A x/\∃y,B x y:=⟨x,⟨a,⟨y,b⟩⟩⟩
def dZ{A B C D:α->β->Prop}{P:Prop}(h:∃x y,A x y/\B x y/\C x y/\D x y)(k:∀x y,A x y->B x y->C x y->D x y->P):P:=ip h λx y j=>k x y j.1 j.2.1 j.2.2.1 j.2.2.2
def bk{A B C D E F:α->β->γ->δ->ε->ζ->η->Prop}(x:α)(y:β)(z:γ)(u:δ)(v:ε)(w:ζ)(r:η)(a:A x y z u v w r)(b:B x y z u v w r)(c:C x y z u v w r)(d:D x y z u v w r)(e:E x y z u v w r)(f:F x y z u v w r):∃x y z u v w r,A x y z u v w r/\B x y z u v w r/\C x y z u v w r/\D x y z u v w r/\E x y z u v w r/\F x y z u v w r:=(qS x y z u v w r ⟨a,b,c,d,e,f⟩)
def bJ{A B C D E:α->β->γ->δ->ε->ζ->Prop}(x:α)(y:β)(z:γ)(u:δ)(v:ε)(w:ζ)(a:A x y z u v w)(b:B x y z u v w)(c:C x y z u v w)(d:D x y z u v w)(e:E x y z u v w):∃x y z u v w,A x y z u v w/\B x y z u v w/\C x y z u v w/\D x y z u v w/\E x y z u v w:=(nj x y z u v w ⟨a,b,c,d,e⟩)
def cI{A B C D:α->β->γ->δ->Prop}(x:α)(y:β)(z:γ)(u:δ)(a:A x y z u)(b:B x y z u)(c:C x y z u)(d:D x y z u):∃x y z u,A x y z u/\B x y z u/\C x y z u/\D x y z u:=(bR x y z u ⟨a,b,c,d⟩)
def gF{A B:α->Prop}{C:α->β->Prop}(x:α)(a:A x)(b:B x)(y:β)(c:C x y):∃x,A x/\B x/\∃y,C x y:=⟨x,⟨a,b,⟨y,c⟩⟩⟩
def dH{A B C D E:α->β->Prop}{P:Prop}(h:∃x y,A x y/\B x y/\C x y/\D x y/\E x y)(k:∀x y,A x y->B x y->C x y->D x y->E x y->P):P:=ip h λx y j=>k x y j.1 j.2.1 j.2.2.1 j.2.2.2.1 j.2.2.2.2
def iq{A B C D E:Prop}{P:Prop}(h:A/\B/\C/\D/\E)(k:A->B->C->D->E->P):P:=k h.1 h.2.1 h.2.2.1 h.2.2.2.1 h.2.2.2.2
def cF{A B C D E F:α->β->γ->Prop}(x:α)(y:β)(z:γ)(a:A x y z)(b:B x y z)(c:C x y z)(d:D x y z)(e:E x y z)(f:F x y z):∃x y z,A x y z/\B x y z/\C x y z/\D x y z/\E x y z/\F x y z:=(gp x y z ⟨a,b,c,d,e,f⟩)
def fL{A B C D E:α->Prop}(x:α)(a:A x)(b:B x)(c:C x)(d:D x)(e:E x):∃x,A x/\B x/\C x/\D x/\E x:=⟨x,⟨a,b,c,d,e⟩⟩
def dY{A B C D:α->β->γ->δ->Prop}{P:Prop}(h:∃x y z u,A x y z u/\B x y z u/\C x y z u/\D x y z u)(k:∀x y z u,A x y z u->B x y z u->C x y z u->D x y z u->P):P:=bu h λx y z u j=>k x y z u j.1 j.2.1 j.2.2.1 j.2.2.2
def fg{A B C D:α->β->γ->Prop}{P:Prop}(h:∃x y z,A x y z/\B x y z/\C x y z/\D x y z)(k:∀x y z,A x y z->B x y z->C x y z->D x y z->P):P:=pD h λx y z j=>k x y z j.1 j.2.1 j.2.2.1 j.2.2.2
def gE{A:α->Prop}{B C:α->β->γ->Prop}(x:α)(a:A x)(y:β)(z:γ)(b:B x y z)(c:C x y z):∃x,A x/\∃y z,B x y z/\C x y z:=⟨x,⟨a,j1 y z ⟨b,c⟩⟩⟩
def cX{A B C D E:α->β->γ->δ->ε->ζ->Prop}{P:Prop}(h:∃x y z u v w,A x y z u v w/\B x y z u v w/\C x y z u v w/\D x y z u v w/\E x y z u v w)(k:∀x y z u v w,A x y z u v w->B x y z u v w->C x y z u v w->D x y z u v w->E x y z u v w->P):P:=ng h λx y z u v w j=>k x y z u v w j.1 j.2.1 j.2.2.1 j.2.2.2.1 j.2.2.2.2
def eD{A B C D E F:α->β->γ->Prop}{P:Prop}(h:∃x y z,A x y z/\B x y z/\C x y z/\D x y z/\E x y z/\F x y z)(k:∀x y z,A x y z->B x y z->C x y z->D x y z->E x y z->F x y z->P):P:=pD h λx y z j=>k x y z j.1 j.2.1 j.2.2.1 j.2.2.2.1 j.2.2.2.2.1 j.2.2.2.2.2
def nh{A B:α->Prop}{C:α->β->Prop}{P:Prop}(h:∃x,A x/\B x/\∃y,C x y)(k:∀x,A x->B x->∀y,C x y->P):P:=h.elim λx j=>j.2.2.elim λy U=>k x j.1 j.2.1 y U
def lG{A:α->Prop}{B C:α->β->γ->Prop}{P:Prop}(h:∃x,A x/\∃y z,B x y z/\C x y z)(k:∀x,A x->∀y z,B x y z->C x y z->P):P:=h.elim λx j=>ip j.2 λy z U=>k x j.1 y z U.1 U.2
def eY{A B C D E F G H:α->β->Prop}(x:α)(y:β)(a:A x y)(b:B x y)(c:C x y)(d:D x y)(e:E x y)(f:F x y)(g:G x y)(i:H x y):∃x y,A x y/\B x y/\C x y/\D x y/\E x y/\F x y/\G x y/\H x y:=(j1 x y ⟨a,b,c,d,e,f,g,i⟩)
def nk{A:α->Prop}{B C D E:α->β->Prop}(x:α)(a:A x)(y:β)(b:B x y)(c:C x y)(d:D x y)(e:E x y):∃x,A x/\∃y,B x y/\C x y/\D x y/\E x y:=⟨x,⟨a,⟨y,⟨b,c,d,e⟩⟩⟩⟩
def pC{A B C D E:α->β->γ->δ->Prop}{P:Prop}(h:∃x y z u,A x y z u/\B x y z u/\C x y z u/\D x y z u/\E x y z u)(k:∀x y z u,A x y z u->B x y z u->C x y z u->D x y z u->E x y z u->P):P:=bu h λx y z u j=>k x y z u j.1 j.2.1 j.2.2.1 j.2.2.2.1 j.2.2.2.2
def SV(n:Nat):WJ:=Nat.rec (motive:=λZ=>Nat->WJ) (λZ=>[]) (λZ Q n=>Bool.rec (n % 256::Q (n / 256)) [] (Nat.beq n 0)) 64 n
abbrev Qz:WJ:=SV 0x73726574636172616843
abbrev Tb:WJ:=SV 0x737265746361726168436563617053
abbrev Tc:WJ:=SV 0x6761547472617453
abbrev Td:WJ:=SV 0x676154646e45
abbrev Te:WJ:=SV 0x746e656d6d6f43
abbrev Tf:WJ:=SV 0x726f7272456573726150
abbrev Tg:WJ:=SV 0x65707974
abbrev Th:WJ:=SV 0x61746164
abbrev Ti:WJ:=SV 0x656d616e
abbrev Tj:WJ:=SV 0x676e69736f6c43666c6573
abbrev Tn:WJ:=SV 0x64656764656c776f6e6b6341676e69736f6c43666c6573
abbrev To:WJ:=SV 0x746e696f7065646f632d64696c61766e69
abbrev Tp:WJ:=SV 0x656d616e2d6761742d6465746365707865
abbrev Tq:WJ:=SV 0x666f652d746f672d7475622d6761742d676e69736f6c632d6465746365707865
abbrev Tr:WJ:=SV 0x726168632d746f672d7475622d6761742d676e69736f6c632d6465746365707865
abbrev Ts:WJ:=SV 0x656d616e2d6761742d6e692d666f65
abbrev Tt:WJ:=SV 0x666f652d746f672d7475622d656d616e2d6574756269727474612d6465746365707865
abbrev Tu:WJ:=SV 0x6761742d6e692d737564696c6f732d72657466612d464f452d64657463657078656e75
abbrev Tv:WJ:=SV 0x7372617661746164
theorem Re{α:Type _}{motive:List α->Prop}(t:List α)(nil:motive [])(cons:∀a l,motive (a::l)):motive t:=List.casesOn t nil cons
abbrev TK:=Option WJ
abbrev TL:=List WJ
abbrev TM:=Option Wv
abbrev TN:=List Wv
abbrev TO:=List (Wu×Wv)
abbrev TP:=List Wu
abbrev TQ:=Option Obj
abbrev TR:=Bool->Prop
abbrev TU:=Nat->Bool
abbrev TV:=List Obj
abbrev TX:=Option Nat
abbrev TY:=Option Bool
abbrev TZ:=Option Int
def T3:=@congrArg
def T4:=@absurd
end Mine
local macro_rules
 | `(tactic| rewrite[$x:rwRule, $u,*]) => `(tactic| (rewrite[$x]; rewrite[$u,*]))
 |`(tactic|change $t)=>`(tactic|refine (?_:$t))
 |`(tactic|show $t)=>`(tactic|refine $t)
 |`(tactic|ext)=>`(tactic|decide)
 |`(tactic|left)=>`(tactic|kernel_rfl!)
 | `(tactic| rewrite[$x:rwRule]) => do
  let h ← `(_)
  let s ← `(?_)
  let r ← (Array.range 5).mapM fun n => `(tacticSeq| refine $(Lean.Syntax.mkApp (Lean.mkIdent (if x.raw[0].isNone then `Mine.af else `Mine.ai)) #[Lean.Syntax.mkApp ⟨x.raw[1]⟩ (Array.replicate n h), s]))
  `(tactic| first $[| $(r.push (← `(tacticSeq| rewrite (occs := .all) [$x])))]*)
open Nat(beq ble)
namespace Mine.A
inductive FV where
 |Ak
 |Ae (b:Bool)
 |int (i:Int)
 |str (s:WJ)
 |tup (l:List FV)
 |lst (l:List FV)
 |An (l:List (WJ×FV))
inductive V where
 |c (f:FV)
 |ob (i:Nat)
 |st (a:Nat)
 |E9 (f i:Nat)
inductive AO where
 |lst (l:List FV)
 |An (l:List (WJ×V))
 |inst (C:Nat) (d:List (Nat×V))
 |Av (f:FV)
inductive X where
 |bad
 |k (f:FV)
 |loc (n:Nat)
 |BR (v:V)
 |Bb (o:X) (n:Nat)
 |sub (o i:X)
 |Cj (o lo hi:X)
 |rev (o:X)
 |neg (a:X)
 |bin (op:Nat) (a b:X)
 |cmp (op:Nat) (a b:X)
 |Gf (a b c:X)
 |and (a b:X)
 |or (a b:X)
 |not (a:X)
 |Gi (c a b:X)
 |fn (id:Nat) (args:X)
 |call (f:Nat) (args:X)
 |new (C:Nat) (args:X)
 |Al (o:X) (n:Nat) (args:X) (kws:WJ)
 |rep (o:X) (a b:WJ)
 |tup (l:X)
 |lst (l:X)
 |An (l:X)
 |lcm (n:Nat) (fs:WJ) (it cd e:X)
 |nil
 |cons (a b:X)
inductive S where
 |bad
 |skip
 |seq (a b:S)
 |ex (e:X)
 |Aj (n:Nat) (e:X)
 |Bi (o:X) (n:Nat) (e:X)
 |Jk (o i e:X)
 |GC (ts:List (Option X×Nat)) (e:X)
 |DI (n op:Nat) (e:X)
 |Gb (o:X) (n op:Nat) (e:X)
 |Kk (o i:X) (op:Nat) (e:X)
 |Kl (o:X) (n:Nat) (e:X)
 |iff (c:X) (a b:S)
 |wh (label:Nat) (c:X) (b:S)
 |fr (label:Nat) (ns:WJ) (it:X) (b:S)
 |NV (n:Nat) (args:X) (b:S)
 |ret (e:X)
 |brk
 |cont
 |Mh (c:X)
 |prim (label:Nat)
structure St where
 L:List (Nat×V)
 H:List (Nat×AO)
 m:Nat
 vl:Bool
inductive Fl where
 |AZ|brk|cnt|ret (v:V)
structure G where
 call:Nat->List V->WJ->List (Nat×AO)->(V->List (Nat×AO)->Prop)->Prop
 loop:Nat->List V->St->(Fl->St->Prop)->Prop
 own:Nat->TU
 cls:Nat->Nat->TX
 Gy:Nat->Nat->Option V
 FA:Nat->Nat->Option V
 Gp:Nat->Nat->TX
 FI:Nat->Nat
 Jy:Nat->TX
 canon:Nat->Nat
 con:Nat->TX
 fn:TU
abbrev Tw:=List (Nat×V)
abbrev Tx:=List (Nat×AO)
abbrev Tz:=List FV
abbrev TA:=List V
abbrev TB:=Fl->St->Prop
abbrev TC:=V->St->Prop
abbrev TF:=St->Prop
abbrev TG:=List (WJ×FV)
abbrev TH:=List (WJ×V)
abbrev TJ:=Option FV
noncomputable section
@[reducible] def S7 (b:Bool) (x y:Prop):Prop:=Bool.rec y x b
def Sx{y:Type}(n:Nat)(l:List (Nat×y)):Option y:=
 List.rec none (λp Z Q=>Bool.rec Q (some p.2) (beq n p.1)) l
noncomputable def put{y:Type}(n:Nat)(v:y)(l:List (Nat×y)):List (Nat×y):=
 List.rec [(n,v)] (λp t Q=>Bool.rec (p::Q) ((n,v)::t) (beq n p.1)) l
def DK{y:Type}(n:Nat)(l:List (Nat×y)):List (Nat×y):=
 List.rec [] (λp Z Q=>Bool.rec (p::Q) Q (beq n p.1)) l
noncomputable def lo(H:Tx):Tx:=List.rec [] (λp Z Q=>Bool.rec Q (p::Q) (Nat.blt p.1 64)) H
noncomputable def hi(H:Tx):Tx:=List.rec [] (λp Z Q=>Bool.rec (p::Q) Q (Nat.blt p.1 64)) H
def Cn(a:WJ):WJ->Bool:=
 List.rec (motive:=λZ=>WJ->Bool) (λb=>List.rec true (λZ Z Z=>false) b) (λx Z Q b=>List.rec false (λy P Z=>Bool.rec false (Q P) (beq x y)) b) a
@[reducible] noncomputable def one (k:TC) (l:TA) (s:St):Prop:=
 List.rec (motive:=λZ=>Prop) False (λv t Z=>List.rec (motive:=λZ=>Prop) (k v s) (λZ Z Z=>False) t) l
def Hr(n:Nat)(p:Prop):Prop:=n<=16777216/\p
def Ab{y:Type}(o:Option y)(k:y->Prop):Prop:=Option.rec (motive:=λZ=>Prop) False k o
def BK{y j:Type}(o:Option y)(f:y->j):Option j:=Option.rec none (λa=>some (f a)) o
def Af{y j:Type}(o:Option y)(f:y->Option j):Option j:=Option.rec none f o
noncomputable def aI(f:FV):TZ:=FV.casesOn (motive_1:=λZ=>TZ) f (none) (λZ=>none) (λi=>some i) (λZ=>none) (λZ=>none) (λZ=>none) (λZ=>none)
noncomputable def aS(f:FV):TK:=FV.casesOn (motive_1:=λZ=>TK) f (none) (λZ=>none) (λZ=>none) (λi=>some i) (λZ=>none) (λZ=>none) (λZ=>none)
noncomputable def aL(f:FV):Option Tz:=FV.casesOn (motive_1:=λZ=>Option Tz) f (none) (λZ=>none) (λZ=>none) (λZ=>none) (λZ=>none) (λi=>some i) (λZ=>none)
def S8(f:FV):Option Tz:=FV.casesOn (motive_1:=λZ=>Option Tz) f (none) (λZ=>none) (λZ=>none) (λZ=>none) (λi=>some i) (λZ=>none) (λZ=>none)
def Ta(f:FV):Option TG:=FV.casesOn (motive_1:=λZ=>Option TG) f (none) (λZ=>none) (λZ=>none) (λZ=>none) (λZ=>none) (λZ=>none) (λi=>some i)
def I5(f:FV):Bool:=FV.casesOn (motive_1:=λZ=>Bool) f (true) (λZ=>false) (λZ=>false) (λZ=>false) (λZ=>false) (λZ=>false) (λZ=>false)
noncomputable def aC(v:V):TJ:=V.casesOn (motive:=λZ=>TJ) v (λf=>some f) (λZ=>none) (λZ=>none) (λZ Z=>none)
def MD(v:V):TX:=V.casesOn (motive:=λZ=>TX) v (λZ=>none) (λi=>some i) (λZ=>none) (λZ Z=>none)
def Sp{y:Type}(l:List y):Option y:=List.rec none (λa t Z=>List.rec (some a) (λZ Z Z=>none) t) l
def FU(f:FV):TX:=Option.rec none (λs=>Sp s) (aS f)
def So{j:Type}(l:Tz)(k:FV->FV->j):Option j:=List.rec none (λa t Z=>BK (Sp t) λb=>k a b) l
def GW(l:Tz)(k:FV->FV->FV->Prop):Prop:=
 List.rec (motive:=λZ=>Prop) False (λa t Z=>List.rec (motive:=λZ=>Prop) False (λb t Z=>Ab (Sp t) λc=>k a b c) t) l
def CE(H:Tx)(v:V):TJ:=
 V.casesOn (motive:=λZ=>TJ) v (λf=>some f) (λi=>Af (Sx i H) λo=>AO.casesOn (motive:=λZ=>TJ) o (λl=>some (.lst l)) (λZ=>none) (λZ Z=>none) λf=>some f) (λZ=>none) (λZ Z=>none)
def G1(y:TH):Option TG:=List.rec (some []) (λe Z Q=>Af (aC e.2) λf=>BK Q λl=>(e.1,f)::l) y
def HS(H:Tx)(v:V):Option (FV×Tx):=
 V.casesOn (motive:=λZ=>Option (FV×Tx)) v (λf=>some (f,H)) (λi=>Af (Sx i H) λo=>AO.casesOn (motive:=λZ=>Option (FV×Tx)) o (λl=>some (.lst l,put i (.Av (.lst l)) H)) (λy=>BK (G1 y) λl=>(.An l,put i (.Av (.An l)) H)) (λZ Z=>none) λf=>some (f,H)) (λZ=>none) (λZ Z=>none)
def HR(y:TH):Tx->Option (TG×Tx):=
 List.rec (motive:=λZ=>Tx->Option (TG×Tx)) (λH=>some ([],H))
  (λe Z Q H=>Af (HS H e.2) λr=>BK (Q r.2) λq=>((e.1,r.1)::q.1,q.2)) y
def Av(H:Tx)(v:V):Option (FV×Tx):=
 V.casesOn (motive:=λZ=>Option (FV×Tx)) v (λf=>some (f,H)) (λi=>Af (Sx i H) λo=>AO.casesOn (motive:=λZ=>Option (FV×Tx)) o (λl=>some (.lst l,put i (.Av (.lst l)) H)) (λy=>BK (HR y H) λr=>(.An r.1,put i (.Av (.An r.1)) r.2)) (λZ Z=>none) λf=>some (f,H)) (λZ=>none) (λZ Z=>none)
def Ja(Z:TA):Tx->Option (Tz×Tx):=
 List.rec (motive:=λa=>Tx->Option (Tz×Tx)) (λH=>some ([],H))
  (λv a Q H=>Af (Av H v) λr=>BK (Q r.2) λq=>(r.1::q.1,q.2)) Z
def BE{y:Type}(l:List y):Bool:=List.rec false (λZ Z Z=>true) l
noncomputable def ft(f:FV):Bool:=FV.casesOn (motive_1:=λZ=>Bool) f (false) (λb=>b) (λi=> !decide (i=0)) (λs=>BE s) (λs=>BE s) (λs=>BE s) (λs=>BE s)
def Am(H:Tx)(v:V):TY:=
 V.casesOn (motive:=λZ=>TY) v (λf=>some (ft f)) (λi=>Af (Sx i H) λo=>AO.casesOn (motive:=λZ=>TY) o (λl=>some (BE l)) (λl=>some (BE l)) (λZ Z=>none) λf=>some (ft f)) (λZ=>none) (λZ Z=>some true)
def Qo(b:FV):TY:=FV.casesOn (motive_1:=λZ=>TY) b (some true) (λZ=>none) (λZ=>some false) (λZ=>some false) (λZ=>none) (λZ=>none) (λZ=>none)
def Qn(x:WJ)(b:FV):TY:=FV.casesOn (motive_1:=λZ=>TY) b (some false) (λZ=>none) (λZ=>some false) (λy=>some (Cn x y)) (λZ=>none) (λZ=>none) (λZ=>none)
def Qp(x:Int)(b:FV):TY:=FV.casesOn (motive_1:=λZ=>TY) b (some false) (λZ=>none) (λy=>some (decide (x=y))) (λZ=>some false) (λZ=>none) (λZ=>none) (λZ=>none)
def Qq(x:Bool)(b:FV):TY:=FV.casesOn (motive_1:=λZ=>TY) b (none) (λy=>some (Bool.rec (!y) y x)) (λZ=>none) (λZ=>none) (λZ=>none) (λZ=>none) (λZ=>none)
def Iq(a b:FV):TY:=FV.casesOn (motive_1:=λZ=>TY) a (Qo b) (λx=>Qq x b) (λx=>Qp x b) (λx=>Qn x b) (λZ=>none) (λZ=>none) (λZ=>none)
def Fs(n:Nat):FV->Bool:=
 Nat.rec (motive:=λZ=>FV->Bool) (λZ=>false) (λZ Q f=>FV.casesOn (motive_1:=λZ=>Bool) f (true) (λZ=>true) (λZ=>true) (λZ=>true) (λl=>l.all Q) (λl=>l.all Q) λZ=>false) n
def Dz(n:Nat):FV->Bool:=
 Nat.rec (motive:=λZ=>FV->Bool) (λZ=>false) (λZ Q f=>FV.casesOn (motive_1:=λZ=>Bool) f (true) (λZ=>true) (λZ=>true) (λZ=>true) (λl=>l.all Q) (λl=>l.all Q) λl=>l.all λp=>Q p.2) n
def KX(a b:FV)(k:TR):Prop:=
 FV.casesOn (motive_1:=λZ=>Prop) a (Ab (Iq a b) k) (λZ=>Ab (Iq a b) k) (λZ=>Ab (Iq a b) k) (λZ=>Ab (Iq a b) k) (λx=>Ab (S8 b) λy=>(x=y/\Fs 12 (.tup x)=true)/\k true) (λx=>Ab (aL b) λy=>(x=y/\Fs 12 (.lst x)=true)/\k true) (λZ=>Ab (Iq a b) k)
def P6(a b:FV)(k:TR):Prop:=
 FV.casesOn (motive_1:=λZ=>Prop) a (KX a b k) (λZ=>KX a b k) (λZ=>KX a b k) (λZ=>KX a b k) (λZ=>KX a b k) (λx=>Ab (aL b) λy=>(x=y/\(Fs 12 (.lst x)=true\/Dz 8 (.lst x)=true))/\k true) (λZ=>KX a b k)
def CT(a:FV)(l:Tz):TY:=
 List.rec (some false) (λx Z Q=>Af (Iq x a) λp=>BK Q λq=>Bool.rec q true p) l
noncomputable def sel{y:Type}(a:WJ)(l:List (WJ×y)):Option y:=
 List.rec none (λx Z Q=>Bool.rec Q (some x.2) (Cn a x.1)) l
def Gu{y:Type}(a:WJ)(v:y)(l:List (WJ×y)):List (WJ×y):=
 List.rec [(a,v)] (λx t Q=>Bool.rec (x::Q) ((x.1,v)::t) (Cn a x.1)) l
def BB{y:Type}(a:WJ)(l:List (WJ×y)):Bool:=
 List.rec false (λx Z Q=>Bool.rec Q true (Cn a x.1)) l
def Hq(a:WJ):WJ->Bool:=
 List.rec (motive:=λZ=>WJ->Bool) (λb=>List.rec false (λZ Z Z=>true) b) (λx Z Q b=>List.rec false (λy P Z=>Bool.rec (Bool.rec false (Q P) (beq x y)) true (Nat.blt x y)) b) a
def Co{y:Type}(l:List y)(i:Int):Option y:=
 Bool.rec (Bool.rec none l[(i+l.length).toNat]? (decide (0<=i+l.length))) l[i.toNat]? (decide (0<=i))
def DL(n:Nat)(i:Int):Nat:=Bool.rec (i+n).toNat (min i.toNat n) (decide (0<=i))
noncomputable def slice{y:Type}(l:List y)(a b:TZ):List y:=(l.take (Option.rec l.length (λj=>DL l.length j) b)).drop (Option.rec 0 (λi=>DL l.length i) a)
def Ly(f:FV):Option TZ:=FV.casesOn (motive_1:=λZ=>Option TZ) f (some none) (λZ=>none) (λi=>some (some i)) (λZ=>none) (λZ=>none) (λZ=>none) (λZ=>none)
def G3(a b:FV)(k:FV->Prop):Prop:=
 FV.casesOn (motive_1:=λZ=>Prop) a (False) (λZ=>False) (λx=>Ab (aI b) λy=>k (.int (x+y))) (λx=>Ab (aS b) λy=>Hr (x.length+y.length) (k (.str (x++y)))) (λZ=>False) (λZ=>False) (λZ=>False)
def Og(D:Nat)(a b:FV)(k:FV->Prop):Prop:=
 match D with
 |0=>G3 a b k
 |1=>Ab (aI a) λx=>Ab (aI b) λy=>k (.int (x-y))
 |3=>Ab (aI a) λx=>Ab (aI b) λy=>(y≠0/\Builtin.divisionGoesByPylong x y=false)/\k (.int (Int.fdiv x y))
 |4=>Ab (aI a) λx=>Ab (aI b) λy=>(y≠0/\Builtin.divisionGoesByPylong x y=false)/\k (.int (Int.fmod x y))
 |_=>False
def Ce(o:AO)(s:St)(k:TC):Prop:=k (.ob s.m) ⟨s.L,(s.m,o)::s.H,s.m+1,s.vl⟩
def As(s:St)(H:Tx):St:=⟨s.L,H,s.m,s.vl⟩
def Bv(s:St)(L:Tw):St:=⟨L,s.H,s.m,s.vl⟩
def Qk(x y:FV)(s:St)(k:TC):Prop:=
 FV.casesOn (motive_1:=λZ=>Prop) x (G3 x y λr=>k (.c r) s) (λZ=>G3 x y λr=>k (.c r) s) (λZ=>G3 x y λr=>k (.c r) s) (λZ=>G3 x y λr=>k (.c r) s) (λp=>Ab (S8 y) λq=>(and (BE p) (BE q)=true/\p.length+q.length<=16777216)/\k (.c (.tup (p++q))) s) (λp=>Ab (aL y) λq=>Hr (p.length+q.length) (Ce (.lst (p++q)) s k)) (λZ=>G3 x y λr=>k (.c r) s)
def Fv(D:Nat)(a b:V)(s:St)(k:TC):Prop:=
 Ab (CE s.H a) λx=>Ab (CE s.H b) λy=>
  match D with
  |0=>Qk x y s k
  |2=>Ab (aL x) λp=>Ab (aI y) λn=>((-(2 ^ 63:Int)<=n/\n<2 ^ 63)/\p.length*n.toNat<=16777216)/\Ce (.lst (List.replicate n.toNat p).flatten) s k
  |op=>Og D x y λr=>k (.c r) s
def DZ(v:V):TY:=V.casesOn (motive:=λZ=>TY) v (λf=>some (I5 f)) (λZ=>some false) (λZ=>some false) (λZ Z=>some false)
def Nr(D:Nat)(i j:Int)(k:TR):Prop:=
 match D with
 |2=>k (decide (i<j))
 |3=>k (decide (i<=j))
 |4=>k (decide (j<i))
 |5=>k (decide (j<=i))
 |_=>False
def Nq(D:Nat)(p q:WJ)(k:TR):Prop:=
 match D with
 |2=>k (Hq p q)
 |3=>k (!Hq q p)
 |4=>k (Hq q p)
 |5=>k (!Hq p q)
 |_=>False
def QW(D:Nat)(x y:FV)(k:TR):Prop:=
 FV.casesOn (motive_1:=λZ=>Prop) x (False) (λZ=>False) (λi=>Ab (aI y) λj=>Nr D i j k) (λp=>Ab (aS y) λq=>Nq D p q k) (λZ=>False) (λZ=>False) (λZ=>False)
def BN(D:Nat)(a b:V)(s:St)(k:TR):Prop:=
 match D with
 |6=>Ab (DZ b) λz=>S7 z (Ab (DZ a) k) False
 |7=>Ab (DZ b) λz=>S7 z (Ab (DZ a) λr=>k (!r)) False
 |op=>Ab (CE s.H a) λx=>Ab (CE s.H b) λy=>fin D x y k
where
 fin (D:Nat) (x y:FV) (k:TR):Prop:=
  match D with
  |0=>P6 x y k
  |1=>KX x y λr=>k (!r)
  |8=>mem x y k
  |9=>mem x y λr=>k (!r)
  |op=>QW D x y k
 mem (x y:FV) (k:TR):Prop:=
  match y with
  | .tup l=>Ab (CT x l) k
  | .lst l=>Ab (CT x l) k
  | .An l=>Ab (aS x) λa=>k (BB a l)
  | .str b=>Ab (FU x) λq=>k (decide (q∈b))
  |_=>False
def Ln(x f:FV)(k:FV->Prop):Prop:=
 FV.casesOn (motive_1:=λZ=>Prop) x (False) (λZ=>False) (λZ=>False) (λl=>Ab (aI f) λj=>Ab (Co l j) λr=>k (.str [r])) (λl=>Ab (aI f) λj=>Ab (Co l j) k) (λl=>Ab (aI f) λj=>Ab (Co l j) k) (λl=>Ab (aS f) λa=>Ab (sel a l) k)
def DO(o i:V)(s:St)(k:TC):Prop:=
 Ab (aC i) λf=>V.casesOn (motive:=λZ=>Prop) o (λx=>Ln x f λr=>k (.c r) s) (λn=>Ab (Sx n s.H) λo=>AO.casesOn (motive:=λZ=>Prop) o (λl=>Ab (aI f) λj=>Ab (Co l j) λr=>k (.c r) s) (λy=>Ab (aS f) λa=>Ab (sel a y) λv=>k v s) (λZ Z=>False) λx=>Ln x f λr=>k (.c r) s) (λZ=>False) (λZ Z=>False)
def Gn(o a b:V)(s:St)(k:TC):Prop:=
 Ab (CE s.H o) λx=>Ab (CE s.H a) λp=>Ab (CE s.H b) λq=>Ab (Ly p) λi=>Ab (Ly q) λj=>
  FV.casesOn (motive_1:=λZ=>Prop) x (False) (λZ=>False) (λZ=>False) (λl=>k (.c (.str (slice l i j))) s) (λZ=>False) (λl=>Ce (.lst (slice l i j)) s k) (λZ=>False)
def G5(g:G)(i n:Nat)(s:St)(k:TC)(C:Nat)(d:Tw):Prop:=
 Option.rec (Option.rec (Ab (g.Gy C n) λv=>k v s) (λf=>k (.E9 f i) s) (g.cls C n)) (λv=>S7 (g.own C n) (k v s) False) (Sx n d)
def GB(g:G)(o:V)(n:Nat)(s:St)(k:TC):Prop:=
 V.casesOn (motive:=λZ=>Prop) o (λZ=>False) (λi=>Ab (Sx i s.H) λo=>AO.casesOn (motive:=λZ=>Prop) o (λZ=>False) (λZ=>False) (λC d=>G5 g i n s k C d) λZ=>False) (λa=>Ab (g.FA a n) λv=>k v s) (λZ Z=>False)
def Qr(v:V):TZ:=Af (aC v) aI
def Pr(c:TA)(A:Int->Prop)(k2:Int->Int->Prop):Prop:=
 List.rec (motive:=λZ=>Prop) False (λv t Z=>Ab (Qr v) λa=>List.rec (motive:=λZ=>Prop) (A a) (λw t Z=>Ab (Qr w) λb=>List.rec (motive:=λZ=>Prop) (k2 a b) (λZ Z Z=>False) t) t) c
def LQ(f:FV):TX:=FV.casesOn (motive_1:=λZ=>TX) f (none) (λZ=>none) (λZ=>none) (λl=>some l.length) (λl=>some l.length) (λl=>some l.length) (λl=>some l.length)
def RX(id:Nat)(a b:Int)(s:St)(k:TC):Prop:=Bool.rec (k (.c (.int (if b<a then b else a))) s) (k (.c (.int (if a<b then b else a))) s) (beq id 5)
def Mx(id:Nat)(e:TA)(s:St)(k:TC):Prop:=
 S7 (ble 5 id) (Pr e (λZ=>False) λa b=>RX id a b s k) <| Ab (Sp e) λv=>Nat.casesOn (motive:=λZ=>Prop) id (Ab (CE s.H v) λx=>Ab (LQ x) λn=>k (.c (.int n)) s) λid=>Nat.casesOn (motive:=λZ=>Prop) id (Ab (aC v) λf=>Ab (FU f) λc=>k (.c (.int c)) s) λid=>Nat.casesOn (motive:=λZ=>Prop) id (Ab (aC v) λf=>Ab (aI f) λi=>(0<=i/\i<=1114111)/\k (.c (.str [i.toNat])) s) λid=>Nat.casesOn (motive:=λZ=>Prop) id False λid=>Nat.casesOn (motive:=λZ=>Prop) id (Ab (CE s.H v) λf=>Ab (aL f) λl=>S7 (BE l) False (k (.c (.An [])) s)) λZ=>False
def B0(z:WJ)(l:Tz):TK:=
 List.rec (some []) (λx t Q=>Option.rec none (λy=>Option.rec none (λr=>some (List.rec (motive:=λZ=>WJ) y (λZ Z Z=>y++z++r) t)) Q) (aS x)) l
def AQ(y z:WJ):Nat->WJ->WJ
 |_,[]=>[]
 |0,c::r=>if y.isPrefixOf (c::r)then z++AQ y z (y.length-1) r else c::AQ y z 0 r
 |n+1,_::r=>AQ y z n r
def Dn(c:Nat):WJ->Int
 | []=> -1
 |x::r=>if 0<=Dn c r then Dn c r+1 else if x=c then 0 else-1
def Mz(c:Nat)(x:WJ)(a:Nat):Int:=Option.rec (-1) (λi=>((a+i:Nat):Int)) ((x.drop a).findIdx? λy=>beq y c)
def Ag(c:Nat):WJ->TL
 | []=>[[]]
 |x::r=>if x=c then []::Ag c r else match Ag c r with
  |h::t=>(x::h)::t
  | []=>[[x]]
def DF(c:Nat):Nat:=if 65<=c/\c<=90 then c+32 else c
def Bp(l:WJ):WJ:=l.map DF
def Lo(n:Nat)(x:WJ)(Z:Tz)(s:St)(k:TC):Prop:=
 match n with
 |2=>Ab (Sp Z) λf=>Ab (aL f) λl=>Ab (B0 x l) λr=>Hr (r.length+l.length*x.length+x.length) (k (.c (.str r)) s)
 |4=>GW Z λf g h=>Ab (FU f) λc=>Ab (aI g) λa=>Ab (aI h) λb=>(a=0/\0<=b/\b<2 ^ 63)/\k (.c (.int ((x.take b.toNat).count c))) s
 |5=>GW Z λf g h=>Ab (FU f) λc=>Ab (aI g) λa=>Ab (aI h) λb=>(a=0/\0<=b/\b<2 ^ 63)/\k (.c (.int (Dn c (x.take b.toNat)))) s
 |6=>Ab (Sp Z) λf=>Ab (FU f) λc=>Hr (x.length+2) (Ce (.lst ((Ag c x).map .str)) s k)
 |7=>S7 (BE Z) False ((x.all λc=>or (Nat.blt c 128) (beq c 233))=true/\k (.c (.str (Bp x))) s)
 |9=>Ab (Sp Z) λf=>Ab (aS f) λp=>k (.c (.Ae (p.isPrefixOf x))) s
 |10=>Ab (So Z λa b=>(a,b)) λp=>Ab (FU p.1) λc=>Ab (aI p.2) λa=>(0<=a/\a.toNat<=x.length)/\k (.c (.int (Mz c x a.toNat))) s
 |_=>False
def FJ(o:Option AO):Option Tz:=Af o λo=>AO.casesOn (motive:=λZ=>Option Tz) o (λl=>some l) (λZ=>none) (λZ Z=>none) (λZ=>none)
def HZ(o:Option AO):Option (Nat×Tw):=Af o λo=>AO.casesOn (motive:=λZ=>Option (Nat×Tw)) o (λZ=>none) (λZ=>none) (λC d=>some (C,d)) (λZ=>none)
noncomputable def hd{y:Type}(l:List y):Option y:=List.rec none (λa Z Z=>some a) l
def NK(n i:Nat)(l:Tz)(Z:TA)(s:St)(k:TC):Prop:=
 match n with
 |0=>Ab (Sp Z) λv=>Ab (Av s.H v) λr=>Ab (FJ (Sx i r.2)) λl=>Hr (l.length+1) (k (.c .Ak) (As s (put i (.lst (l++[r.1])) r.2)))
 |1=>S7 (BE Z) (Ab (Sp Z) λv=>Ab (aC v) λf=>Ab (aI f) λj=>S7 (decide (j=0)) (Ab (hd l) λx=>k (.c x) (As s (put i (.lst l.tail) s.H))) False)
   (Ab l.getLast? λr=>k (.c r) (As s (put i (.lst l.dropLast) s.H)))
 |_=>False
def Je(H:Tx)(Z:TA):Option Tz:=
 List.rec (some []) (λv a Q=>Af (CE H v) λf=>BK Q λr=>f::r) Z
def Rl(Z:TA):Option Tz:=List.rec (some []) (λv a Q=>Af (aC v) λf=>BK Q λr=>f::r) Z
def E8(P:TU)(v:V):Bool:=V.casesOn (motive:=λZ=>Bool) v (λZ=>true) P (λZ=>true) (λZ i=>P i)
def Hm(P:TU)(o:AO):Bool:=AO.casesOn (motive:=λZ=>Bool) o (λZ=>true) (λy=>y.all λp=>E8 P p.2) (λZ d=>d.all λp=>E8 P p.2) (λZ=>true)
abbrev FD:V->Bool:=E8 λi=>Nat.blt i 64
abbrev Dc:AO->Bool:=Hm λi=>Nat.blt i 64
def BL(g:G)(f:Nat)(Z:TA)(z:WJ)(s:St)(k:TC):Prop:=
 S7 (and (g.fn f) (and (Z.all FD) ((lo s.H).all λp=>Dc p.2))) (g.call f Z z (lo s.H) λv H=>k v (As s (H++hi s.H))) False
def FH(g:G)(D:Nat)(a b:V)(s:St)(k:Bool->TF):Prop:=
 V.casesOn (motive:=λZ=>Prop) b (λZ=>BN D a b s λv=>k v s) (λZ=>BN D a b s λv=>k v s) (λx=>S7 (beq D 8) (Ab (g.con x) λf=>BL g f [.st x,a] [] s λv s=>Ab (Am s.H v) λt=>k t s) False) (λZ Z=>BN D a b s λv=>k v s)
inductive M where
 |fn (f:Nat) (v:V)
 |own (f j:Nat)
 |str (x:WJ)
 |lst (i:Nat)
 |dg (l:TG)
def IX(g:G)(i n:Nat)(C:Nat)(d:Tw):Option M:=
 Option.rec (BK (g.cls C n) λf=>.fn f (.ob i)) (λv=>V.casesOn (motive:=λZ=>Option M) v (λZ=>none) (λZ=>none) (λZ=>none) λf j=>Bool.rec none (some (.own f j)) (g.own C n)) (Sx n d)
def C4(g:G)(o:V)(n:Nat)(z:WJ)(s:St):Option M:=
 V.casesOn (motive:=λZ=>Option M) o (λf=>Bool.rec (Af (aS f) λx=>Bool.rec none (some (.str x)) (and (!BE z) (and (ble 2 n) (ble n 10)))) (Af (Ta f) λl=>Bool.rec none (some (.dg l)) (!BE z)) (beq n 11)) (λi=>Af (Sx i s.H) λo=>AO.casesOn (motive:=λZ=>Option M) o (λZ=>Bool.rec none (some (.lst i)) (and (!BE z) (ble n 1))) (λZ=>none) (λC d=>IX g i n C d) λZ=>none) (λa=>BK (g.Gp a n) λf=>.fn f (.st a)) (λZ Z=>none)
def CL(g:G)(o:M)(n:Nat)(Z:TA)(z:WJ)(s:St)(k:TC):Prop:=
 M.casesOn (motive:=λc=>Prop) o (λf v=>BL g f (v::Z) z s k) (λf j=>BL g f (.ob j::Z) z s k) (λx=>Ab (Je s.H Z) λy=>Lo n x y s k) (λi=>Ab (FJ (Sx i s.H)) λl=>NK n i l Z s k) (λl=>Ab (Rl Z) λy=>Ab (So y λa b=>(a,b)) λp=>Ab (aS p.1) λa=>k (.c (Option.rec p.2 (λv=>v) (sel a l))) s)
def LK(v:V):Bool:=V.casesOn (motive:=λZ=>Bool) v (λf=>I5 f) (λZ=>false) (λZ=>false) (λZ Z=>false)
def HN(g:G)(C:Nat)(Z:TA)(s:St)(k:TC):Prop:=
 Option.rec (Ab (g.Jy C) λf=>BL g f (.ob (g.FI C)::Z) [] (As s (s.H++[(g.FI C,.inst C [])])) λv j=>S7 (LK v) (k (.ob (g.FI C)) j) False) (λa=>False) (Sx (g.FI C) s.H)
def HT(Z:TA):Option TH:=
 (List.rec (motive:=λa=>Option TH×Option TH) (some [],none) (λv t Q=>
  (Option.rec none (λw=>Option.rec none (λf=>Option.rec none (λf=>Option.rec none (λr=>some ((f,w)::r)) Q.2) (aS f)) (aC v)) (hd t),Q.1)) Z).1
def Nu(y:TH):TH:=y.foldl (λj p=>Gu p.1 p.2 j) []
def OQ(f:FV):Option Tz:=FV.casesOn (motive_1:=λZ=>Option Tz) f (none) (λZ=>none) (λZ=>none) (λl=>some (l.map λx=>.str [x])) (λl=>some l) (λl=>some l) (λl=>Bool.rec none (some (l.map λp=>.str p.1)) (l.all λp=>ble p.1.length 1000))
def PW(i:Nat)(s:St)(o:AO):Option (Tz×St):=
 AO.casesOn (motive:=λZ=>Option (Tz×St)) o (λl=>some (l,As s (put i (.Av (.lst l)) s.H))) (λZ=>none) (λZ Z=>none) (λf=>BK (OQ f) λl=>(l,s))
def Io(v:V)(s:St):Option (Tz×St):=
 V.casesOn (motive:=λZ=>Option (Tz×St)) v (λf=>BK (OQ f) λl=>(l,s)) (λi=>Af (Sx i s.H) (PW i s)) (λZ=>none) (λZ Z=>none)
def F8(y:WJ)(L:Tw):Tw:=List.rec [] (λn Z Q=>Option.rec Q (λv=>(n,v)::Q) (Sx n L)) y
def I2(n:Nat)(y:Tw)(N O:St->(TA->TF)->Prop)(l:Tz):Tz->St->TC->Prop:=
 List.rec (motive:=λZ=>Tz->St->TC->Prop) (λj s k=>Ce (.lst j) s k)
  (λx Z Q j s k=>N (Bv s (put n (.c x) y)) (one λc s=>Ab (Am s.H c) λt=>
   S7 t (O s (one λe s=>Ab (Av s.H e) λr=>Hr (j.length+1) (Q (j++[r.1]) (As s r.2) k))) (Q j s k))) l
def Sn{j:Type}(l:Tz)(k:FV->FV->FV->j):Option j:=List.rec none (λa t Z=>So t λb c=>k a b c) l
def C3(O:WJ)(x:FV)(L:Tw):Option Tw:=
 List.rec none (λn t Z=>List.rec (some (put n (.c x) L)) (λm t Z=>Af (S8 x) λl=>List.rec (So l λa b=>put m (.c b) (put n (.c a) L))
  (λo t Z=>List.rec (Sn l λa b c=>put o (.c c) (put m (.c b) (put n (.c a) L))) (λZ Z Z=>none) t) t) t) O
def Lp(b:St->TB->Prop)(k:TB)(u:Fl)(s:St):Prop:=Fl.casesOn (motive:=λZ=>Prop) u (b s k) (k u s) (k u s) (λZ=>k u s)
def P2(Q:St->TB->Prop)(k:TB)(u:Fl)(s:St):Prop:=Fl.casesOn (motive:=λZ=>Prop) u (Q s k) (k .AZ s) (Q s k) (λv=>k (.ret v) s)
def Pg(P:TF)(k:TB)(u:Fl)(s:St):Prop:=Fl.casesOn (motive:=λZ=>Prop) u (P s) (k .AZ s) (P s) (λv=>k (.ret v) s)
def Dd(A:St->TB->Prop)(a:FV->Tw->Option Tw)(l:Tz):St->TB->Prop:=
 List.rec (motive:=λZ=>St->TB->Prop) (λs k=>k .AZ s)
  (λx Z Q s k=>Ab (a x s.L) λL=>A (Bv s L) (P2 Q k)) l
def En(a:Int)(n:Nat):Tz:=(List.range n).map λ(i:Nat)=>FV.int (a+(i:Int))
def M5(a b:WJ)(o:V)(s:St)(F:TC):Prop:=Ab (aC o) λf=>Ab (aS f) λx=>
 (and (BE a) (!Cn a b)=true/\x.length<=1048576)/\F (.c (.str (AQ a b 0 x))) s
def SU(g:G)(x:X):St->(TA->TF)->Prop:=
 X.rec (motive:=λZ=>G->St->(TA->TF)->Prop)
  (λZ Z Z=>False)
  (λf g s k=>k [.c f] s)
  (λn g s k=>Ab (Sx n s.L) λv=>k [v] s)
  (λv g s k=>k [v] s)
  (λZ n l g s k=>l g s (one λo s=>GB g o n s λv s=>k [v] s))
  (λZ Z l P g s k=>l g s (one λo s=>P g s (one λi s=>DO o i s λv s=>k [v] s)))
  (λZ Z Z l d A g s k=>l g s (one λo s=>d g s (one λa s=>A g s (one λb s=>Gn o a b s λv s=>k [v] s))))
  (λZ Z Z Z Z=>False)
  (λZ d g s k=>d g s (one λa s=>Ab (aC a) λf=>Ab (aI f) λi=>k [.c (.int (-i))] s))
  (λD Z Z d A g s k=>d g s (one λa s=>A g s (one λb s=>Fv D a b s λv s=>k [v] s)))
  (λD Z Z d A g s k=>d g s (one λa s=>A g s (one λb s=>FH g D a b s λv s=>k [.c (.Ae v)] s)))
  (λZ Z Z d A N g s k=>d g s (one λa s=>A g s (one λb s=>BN 3 a b s λt=>
   S7 t (N g s (one λc s=>BN 3 b c s λu=>k [.c (.Ae u)] s)) (k [.c (.Ae false)] s))))
  (λZ Z d A g s k=>d g s (one λa s=>Ab (Am s.H a) λt=>S7 t (A g s k) (k [a] s)))
  (λZ Z d A g s k=>d g s (one λa s=>Ab (Am s.H a) λt=>S7 t (k [a] s) (A g s k)))
  (λZ d g s k=>d g s (one λa s=>Ab (Am s.H a) λt=>k [.c (.Ae (!t))] s))
  (λZ Z Z N d A g s k=>N g s (one λc s=>Ab (Am s.H c) λt=>S7 t (d g s k) (A g s k)))
  (λid Z d g s k=>d g s λe s=>Mx id e s λv s=>k [v] s)
  (λf Z d g s k=>d g s λe s=>BL g f e [] s λv s=>k [v] s)
  (λC Z d g s k=>d g s λe s=>HN g C e s λv s=>k [v] s)
  (λZ n Z z l d g s k=>l g s (one λo s=>Ab (C4 g o n z s) λm=>d g s λe s=>CL g m n e z s λv s=>k [v] s))
  (λZ a b l g s k=>l g s (one λo s=>M5 a b o s λv s=>k [v] s))
  (λZ d g s k=>d g s λe s=>Ab (Ja e s.H) λr=>S7 (ble r.1.length 1000) (k [.c (.tup r.1)] (As s r.2)) False)
  (λZ d g s k=>d g s λe s=>Ab (Ja e s.H) λr=>S7 (ble r.1.length 1000) (Ce (.lst r.1) (As s r.2) λv s=>k [v] s) False)
  (λZ d g s k=>d g s λe s=>Ab (HT e) λy=>Ce (.An (Nu y)) s λv s=>k [v] s)
  (λn h Z Z Z d N O g s k=>d g s (one λv s=>Ab (Io v s) λr=>I2 n (F8 h s.L) (N g) (O g) r.1 [] (Bv r.2 []) λv j=>k [v] (Bv j s.L)))
  (λg s k=>k [] s)
  (λZ Z d A g s k=>d g s (one λa s=>A g s λe s=>k (a::e) s))
  x g
def BI(g:G)(x:X)(s:St)(k:TC):Prop:=SU g x s (one k)
def QZ(c:Nat)(v:V)(s:St)(k:TC):Prop:=
 Bool.rec (V.casesOn (motive:=λZ=>Prop) v (λZ=>k v s) (λi=>Bool.rec (k v s) (Ab (Sx i s.H) λo=>Option.rec (k (.ob c) (As s (DK i s.H++[(c,o)]))) (λZ=>False) (Sx c s.H)) (ble 64 i)) (λZ=>k v s) λZ Z=>k v s) (k v s) (beq c 0)
def OP(c:Nat)(v:V)(s:St)(k:TC):Prop:=
 Bool.rec (QZ c v s k) (Ab (Av s.H v) λr=>k (.c r.1) (As s r.2)) (beq c 63)
def Cy(g:G)(o:V)(n:Nat)(v:V)(s:St)(k:TF):Prop:=
 Ab (MD o) λi=>OP (g.canon n) v s λv s=>Ab (HZ (Sx i s.H)) λp=>S7 (and (g.own p.1 n) (ble p.2.length 900)) (k (As s (put i (.inst p.1 (put n v p.2)) s.H))) False
def Rp(o:AO):Option TH:=AO.casesOn (motive:=λZ=>Option TH) o (λZ=>none) (λl=>some l) (λZ Z=>none) (λZ=>none)
def Ro(o:AO):TJ:=AO.casesOn (motive:=λZ=>TJ) o (λZ=>none) (λZ=>none) (λZ Z=>none) (λf=>some f)
def NT(v:V)(s:St)(k:TF):Prop:=Ab (MD v) λj=>Ab (Af (Sx j s.H) Rp) λy=>Ab (HR y s.H) λr=>k (As s (put j (.An (r.1.map λp=>(p.1,.c p.2))) r.2))
abbrev DW(i:Nat):Bool:= !beq i 32
def KQ(i n:Nat)(v:V)(s:St)(k:TF):Prop:=Ab (HZ (Sx i s.H)) λp=>Ab (Sx n p.2) λA=>
 Bool.rec (k s) (Ab (MD A) λZ=>Ab (Af (Sx 32 s.H) Ro) λf=>S7 (and (E8 DW v) (and (s.L.all λq=>E8 DW q.2) ((DK 32 (put i (.inst p.1 (put n (.c f) p.2)) s.H)).all λq=>Hm DW q.2))) (k (As s (DK 32 (put i (.inst p.1 (put n (.c f) p.2)) s.H)))) False) (!E8 DW A)
def GP(g:G)(o:V)(n:Nat)(v:V)(s:St)(k:TF):Prop:=Ab (MD o) λi=>KQ i n v s λs=>NT v s λs=>Cy g o n v s k
def El(o i v:V)(s:St)(k:TF):Prop:=
 Ab (MD o) λn=>Ab (aC i) λf=>Ab (Sx n s.H) λo=>AO.casesOn (motive:=λZ=>Prop) o (λZ=>False) (λy=>Ab (aS f) λa=>S7 (ble y.length 900) (k (As s (put n (.An (Gu a v y)) s.H))) False) (λZ Z=>False) (λZ=>False)
def Ms(g:G)(y:List (Option X×Nat)):Tz->St->TF->Prop:=
 List.rec (motive:=λZ=>Tz->St->TF->Prop)
  (λl s k=>List.rec (motive:=λZ=>Prop) (k s) (λZ Z Z=>False) l)
  (λt Z Q l s k=>List.rec (motive:=λZ=>Prop) False (λf r Z=>Option.rec (motive:=λZ=>Prop) (Q r (Bv s (put t.2 (.c f) s.L)) k) (λo=>BI g o s λo s=>Cy g o t.2 (.c f) s λs=>Q r s k) t.1) l) y
def Dh(D:Nat)(a b:V)(s:St)(k:TC):Prop:=
 Ab (CE s.H a) λx=>Ab (CE s.H b) λy=>Og D x y λr=>k (.c r) s
def Es(D:Nat)(a b:V)(s:St)(k:TC):Prop:=
 Bool.rec (Dh D a b s k) (V.casesOn (motive:=λZ=>Prop) a (λZ=>Dh D a b s k) (λi=>Option.rec (Dh D a b s k) (λo=>AO.casesOn (motive:=λZ=>Prop) o (λl=>Ab (CE s.H b) λy=>Ab (aL y) λq=>Hr (l.length+q.length) (k (.ob i) (As s (put i (.lst (l++q)) s.H)))) (λZ=>Dh D a b s k) (λZ Z=>Dh D a b s k) λZ=>Dh D a b s k) (Sx i s.H)) (λZ=>Dh D a b s k) λZ Z=>Dh D a b s k) (beq D 0)
def R7(g:G)(y:List (Option X×Nat))(v:V)(s:St)(k:TF):Prop:=Ab (aC v) λf=>Ab (S8 f) λl=>S7 (beq y.length l.length) (Ms g y l s k) False
noncomputable def ex(g:G)(x:S):St->TB->Prop:=
 S.rec (motive:=λZ=>G->St->TB->Prop)
  (λZ Z Z=>False)
  (λg s k=>k .AZ s)
  (λZ Z d A g s k=>d g s (Lp (A g) k))
  (λe g s k=>BI g e s λZ s=>k .AZ s)
  (λn e g s k=>BI g e s λv s=>k .AZ (Bv s (put n v s.L)))
  (λo n e g s k=>BI g e s λv s=>BI g o s λo s=>Cy g o n v s λs=>k .AZ s)
  (λo i e g s k=>BI g e s λv s=>BI g o s λo s=>BI g i s λi s=>El o i v s λs=>k .AZ s)
  (λy e g s k=>BI g e s λv s=>R7 g y v s λs=>k .AZ s)
  (λn D e g s k=>Ab (Sx n s.L) λa=>BI g e s λb s=>Es D a b s λv s=>k .AZ (Bv s (put n v s.L)))
  (λo n D e g s k=>BI g o s λo s=>GB g o n s λa s=>BI g e s λb s=>Es D a b s λv s=>Cy g o n v s λs=>k .AZ s)
  (λo i D e g s k=>BI g o s λo s=>BI g i s λi s=>DO o i s λa s=>BI g e s λb s=>Es D a b s λv s=>El o i v s λs=>k .AZ s)
  (λo n e g s k=>BI g e s λv s=>BI g o s λo s=>GP g o n v s λs=>k .AZ s)
  (λc Z Z d A g s k=>BI g c s λv s=>Ab (Am s.H v) λt=>S7 t (d g s k) (A g s k))
  (λZ c Z A g s k=>∀P:TF,(∀s,(BI g c s λv s=>Ab (Am s.H v) λt=>S7 t (A g s (Pg P k)) (k .AZ s))->P s)->P s)
  (λl O z Z A g s k=>BI g z s λv s=>Option.rec (g.loop l [v] s k) (λr=>Dd (A g) (C3 O) r.1 r.2 k) (Io v s))
  (λn U Z A g s k=>SU g U s λf s=>Pr f (λb=>(-1000000<=b/\b<=1000000)/\Dd (A g) (C3 [n]) (En 0 b.toNat) s k)
   λa b=>((-1000000<=a/\a<=1000000)/\(-1000000<=b/\b<=1000000))/\Dd (A g) (C3 [n]) (En a (b-a).toNat) s k)
  (λe g s k=>BI g e s λv s=>k (.ret v) s)
  (λg s k=>k .brk s)
  (λg s k=>k .cnt s)
  (λc g s k=>BI g c s λv s=>Ab (Am s.H v) λt=>S7 t (k .AZ s) False)
  (λl g s k=>g.loop l [] s k)
  x g
end
def cps{P:Prop}(h:∀Q:Prop,(P->Q)->Q):P:=h P id
structure CP where
 Hn:TP
 gen:TU
 Gw:Wu->Option V
 NR:TU
 blt:Wu->TX
def Fu(x:Wu):TP->Nat->TX
 | [],_=>none
 |y::r,i=>if x=y then some i else Fu x r (i+1)
noncomputable def CP.code(p:CP)(x:Wu):TX:=Fu x p.Hn 0
def Fn(O:Scope)(x:Wu):Bool:=O.names.lookup x==some .local
def BH(O:Scope)(x:Wu):Bool:=Fn O x||O.names.lookup x==some .cell
def B8(O:Scope)(x:Wu):Bool:=O.names.lookup x==some .globalImplicit
def S4(c:Const):X:=
 match c with
 | .none=>.k .Ak
 | .bool b=>.k (.Ae b)
 | .int i=>.k (.int i)
 | .str s=>if s.length<=10000 then .k (.str s.cps.toList)else .bad
 |_=>.bad
def Mb(o:Operator):TX:=
 match o with
 | .Add=>some 0| .Sub=>some 1| .Mult=>some 2| .FloorDiv=>some 3| .Mod=>some 4|_=>none
def Ga(o:CmpOp):Nat:=
 match o with
 | .Eq=>0| .NotEq=>1| .Lt=>2| .LtE=>3| .Gt=>4| .GtE=>5| .Is=>6| .IsNot=>7| .In=>8| .NotIn=>9
def AU(e:WE):Bool:=
 match e with
 | .Name .. | .Attribute .. | .Subscript .. | .Constant .. | .List .. | .BinOp .. =>true
 | .Call (.Attribute ..) _ _ _=>true
 | .Call (.Name x _) _ _ _=>x !="super"
 |_=>false
def G0(O cs:Scope):Bool:=cs.kind== .function&&cs.names.all λx=>(x.2 != .free||(O.kind== .function&&O.names.lookup x.1==some .cell))&&x.2 != .cell&&cs.names.lookup x.1==some x.2
def Pw(O cs:Scope):Scope:= {cs with names:=cs.names.map λ(n,k)=>if(k== .free&&O.kind== .function&&O.names.lookup n==some .cell)then(n,.cell)else(n,k)}
def Dv(e:WE):Bool:=
 match e with
 | .Dict .. =>true
 |_=>false
def BU(e:WE):Bool:=
 match e with
 | .Starred .. =>false
 |_=>true
def Eo(e:WE):Bool:=
 match e with
 | .Set .. =>true
 |_=>false
def HD(e:WE):Option (Option WE×Option WE×Option WE):=
 match e with
 | .Slice lo hi st _=>some (lo,hi,st)
 |_=>none
def J8(e:WE):TZ:=
 match e with
 | .Constant c _ _=>match c with
  | .int i=>some i
  |_=>none
 |_=>none
def Iz(e:WE):Option Wu:=
 match e with
 | .Constant c _ _=>match c with
  | .str s=>some s
  |_=>none
 |_=>none
def Ka(l:List Comprehension):Option (Wu×WE×List WE):=
 match l with
 | []=>none
 |h::r=>if r.isEmpty&&h.is_async==0 then match h.target with
  | .Name x _=>some (x,h.iter,h.ifs)
  |_=>none
  else none
def I6(o:CmpOp):Bool:=
 match o with
 | .LtE=>true
 |_=>false
def JW(x:Wu)(O:List WE)(y:List WI):Option (Wu×Wu):=
 if x=="replace"&&y.isEmpty then match O with
  | []=>none
  |a::r=>match r with
   | []=>none
   |b::t=>if t.isEmpty then match Iz a with
    |none=>none
    |some s=>match Iz b with
     |none=>none
     |some z=>some (s,z)
    else none
  else none
def Hk{y:Type}(o:Option y)(k:y->X):X:=
 match o with
 |some a=>k a
 |none=>.bad
def R3(p:CP)(O:Scope)(x:Wu):X:=
 if BH O x then Hk (p.code x) .loc else if B8 O x then Hk (p.Gw x) .BR else .bad
def Rc(o:UnaryOp)(a:WE)(x:X):X:=
 match o with
 | .Not=>.not x
 | .USub=>match J8 a with
  |some i=>.k (.int (-i))
  |none=>.neg x
 |_=>.bad
def Rh(z:List CmpOp)(j:List WE)(A:X)(E:WE->X):X:=
 match z with
 | []=>.bad
 |o::z=>match j with
  | []=>.bad
  |b::j=>match z with
   | []=>match j with
    | []=>if behindInMarks o b then .bad else .cmp (Ga o) A (E b)
    |_::_=>.bad
   |u::z=>match j with
    | []=>.bad
    |c::j=>if I6 o&&(I6 u&&(z.isEmpty&&j.isEmpty))then .Gf A (E b) (E c)else .bad
def Rf(s:Option (Option WE×Option WE×Option WE))(o i:X)(j:Option WE->X):X:=
 match s with
 |none=>.sub o i
 |some t=>if t.2.2.isNone then .Cj o (j t.1) (j t.2.1)else .bad
def Kf(p:CP)(cs:Scope):TK:=List.rec (some []) (λx Z Q=>if x.2== .free then Af (p.code x.1) λi=>BK Q λl=>i::l else Q) cs.names
def Rg(p:CP)(O cs:Scope)(go:Option (Wu×WE×List WE))(I E:WE->X)(e:WE):X:=
 Hk go λt=>if G0 O cs&&(Fn cs t.1&& !Eo t.2.1)then Hk (p.code t.1) λi=>Hk (Kf p cs) λy=>match t.2.2 with
  | []=>.lcm i y (I t.2.1) (.k (.Ae true)) (E e)
  |c::r=>if r.isEmpty then .lcm i y (I t.2.1) (E c) (E e)else .bad
  else .bad
def Qe(p:CP)(x:Wu)(L:X):X:=
 match p.Gw x with
 |some v=>match v with
  | .st a=>if p.NR a then .new a L else .call a L
  |_=>.bad
 |none=>Hk (p.blt x) λi=>if i<3||(3<i&&i<7)then .fn i L else .bad
def Mc(p:CP)(l:List WI):TK:=List.rec (some []) (λk Z Q=>Af k.arg λx=>Af (p.code x) λi=>BK Q λl=>i::l) l
def Ri(p:CP)(a:Scope)(f:WE)(O:List WE)(y:List WI)(pos:Pos)(E:WE->X)(L:List WE->X):X:=
 match f with
 | .Name x _=>if y.isEmpty&&(B8 a x&&O.all BU)then Qe p x (L O)else .bad
 | .Attribute o x q=>if AU o&&q.endLine==pos.line then match JW x O y with
   |some t=>if t.1.cps.size<14&&t.2.cps.size<14 then .rep (E o) t.1.cps.toList t.2.cps.toList else .bad
   |none=>if O.length+y.length<29&&(O++y.map (·.value)).all BU then Hk (p.code x) λi=>Hk (Mc p y) λl=>.Al (E o) i (L (O++y.map (·.value))) l else .bad
  else .bad
 |_=>.bad
mutual
noncomputable def cE(p:CP)(O:Scope):Nat->WE->X
 |0,_=>.bad
 |n+1,e=>
  match e with
  | .Constant c _ _=>S4 c
  | .Name x _=>R3 p O x
  | .UnaryOp o a _=>Rc o a (cE p O n a)
  | .BoolOp o l _=>match o with
   | .And=>cA p O n l
   | .Or=>cR p O n l
  | .Compare a ops bs _=>Rh ops bs (cE p O n a) λe=>cE p O n e
  | .BinOp a op b _=>Hk (Mb op) λo=>.bin o (cE p O n a) (cE p O n b)
  | .IfExp t a b _=>.Gi (cE p O n t) (cE p O n a) (cE p O n b)
  | .Attribute o x _=>if AU o then Hk (p.code x) λi=>.Bb (cE p O n o) i else .bad
  | .Subscript o i _=>Rf (HD i) (cE p O n o) (cE p O n i) λo=>cO p O n o
  | .Tuple es _ _=>if es.all BU then .tup (cL p O n es)else .bad
  | .List es _=>if es.all BU then .lst (cL p O n es)else .bad
  | .Dict ks vs _=>if ks.isEmpty&&vs.isEmpty then .An .nil else if ks.all (·.isSome)&&ks.length==vs.length&&ks.length<=15&& !ks.isEmpty then .An (cD p O n ks vs)else .bad
  | .ListComp e gs cs _=>Rg p O cs (Ka gs) (λe=>cE p O n e) (λe=>cE p (Pw O cs) n e) e
  | .Call f as ks pos=>Ri p O f as ks pos (λe=>cE p O n e) λl=>cL p O n l
  |_=>.bad
noncomputable def cO(p:CP)(O:Scope):Nat->Option WE->X
 |0,_=>.bad
 |n+1,o=>match o with
  |none=>.k .Ak
  |some e=>cE p O n e
noncomputable def cL(p:CP)(O:Scope):Nat->List WE->X
 |0,_=>.bad
 |n+1,l=>match l with
  | []=>.nil
  |e::r=>.cons (cE p O n e) (cL p O n r)
noncomputable def cA(p:CP)(O:Scope):Nat->List WE->X
 |0,_=>.bad
 |n+1,l=>match l with
  | []=>.bad
  |e::r=>if r.isEmpty then cE p O n e else .and (cE p O n e) (cA p O n r)
noncomputable def cR(p:CP)(O:Scope):Nat->List WE->X
 |0,_=>.bad
 |n+1,l=>match l with
  | []=>.bad
  |e::r=>if r.isEmpty then cE p O n e else .or (cE p O n e) (cR p O n r)
noncomputable def cD(p:CP)(O:Scope):Nat->List (Option WE)->List WE->X
 |0,_,_=>.bad
 |n+1,ks,vs=>match ks with
  | []=>match vs with
   | []=>.nil
   |_::_=>.bad
  |k::ks=>match vs with
   | []=>.bad
   |v::vs=>Hk k λk=>.cons (cE p O n k) (.cons (cE p O n v) (cD p O n ks vs))
end
def Ci(e:WE):Bool:=
 match e with
 | .ListComp .. | .SetComp .. | .DictComp .. =>true
 |_=>false
def I4(e:WE):Bool:=
 match e with
 | .Tuple .. =>true
 |_=>false
def S0(p:CP)(O:Scope)(n:Nat):List WE->Option (List (Option X×Nat))
 | []=>some []
 |e::r=>match e with
  | .Name x _=>if BH O x then Af (p.code x) λi=>Af (S0 p O n r) λl=>some ((none,i)::l)else none
  | .Attribute o x _=>Af (p.code x) λi=>Af (S0 p O n r) λl=>some ((some (cE p O n o),i)::l)
  |_=>none
def Ij{y:Type}(o:Option y)(k:y->S):S:=
 match o with
 |some a=>k a
 |none=>.bad
def OW(p:CP)(O:Scope)(n:Nat)(t e:WE):S:=
 match t with
 | .Name x _=>if BH O x then Ij (p.code x) λi=>.Aj i (cE p O n e)else .bad
 | .Attribute o x _=>Ij (p.code x) λi=>if Dv e then .Kl (cE p O n o) i (cE p O n e)else .Bi (cE p O n o) i (cE p O n e)
 | .Subscript o i _=>.Jk (cE p O n o) (cE p O n i) (cE p O n e)
 | .Tuple ts _ _=>if I4 e then .bad else Ij (S0 p O n ts) λl=>.GC l (cE p O n e)
 |_=>.bad
def Rj(p:CP)(O:Scope)(n:Nat)(t:WE)(D:Operator)(e:WE):S:=
 Ij (Mb D) λo=>if o<2 then match t with
  | .Name x _=>if BH O x then Ij (p.code x) λi=>.DI i o (cE p O n e)else .bad
  | .Attribute b x _=>Ij (p.code x) λi=>.Gb (cE p O n b) i o (cE p O n e)
  | .Subscript b i _=>if(HD i).isSome then .bad else .Kk (cE p O n b) (cE p O n i) o (cE p O n e)
  |_=>.bad
  else .bad
def Kj(p:CP)(O:Scope)(k:Nat)(z:WE):Option (List WE):=
 match z with
 | .Call f as ks _=>match f with
  | .Name x _=>if ks.isEmpty&&(B8 O x&&(p.blt x==some k&&((p.Gw x).isNone&&as.all BU)))then some as else none
  |_=>none
 |_=>none
def LC(O:Scope)(e:WE):Option Wu:=
 match e with
 | .Name x _=>if BH O x then some x else none
 |_=>none
def Qf(p:CP)(O:Scope)(n:Nat)(t z:WE)(d:Nat)(B:S):S:=
 match t with
 | .Name x _=>if BH O x then Ij (p.code x) λi=>match Kj p O 3 z with
   |some c=>.NV i (cL p O n c) B
   |none=>if Eo z then .bad else .fr d [i] (cE p O n z) B
  else .bad
 | .Tuple es _ _=>match es with
  | []=>.bad
  |a::es=>match es with
   | []=>.bad
   |b::es=>if es.isEmpty then Ij (LC O a) λy=>Ij (LC O b) λx=>Ij (p.code y) λi=>Ij (p.code x) λj=>if Eo z then .bad else .fr d [i,j] (cE p O n z) B
    else .bad
 |_=>.bad
mutual
noncomputable def cS(p:CP)(O:Scope):Nat->WG->S
 |0,_=>.bad
 |n+1,st=>
  match st with
  | .Pass _=>.skip
  | .Break _=>.brk
  | .Continue _=>.cont
  | .Return o _=>match o with
   |none=>.ret (.k .Ak)
   |some e=>.ret (cE p O n e)
  | .Expr e _=>if Ci e then .bad else .ex (cE p O n e)
  | .Assign ts e _=>match ts with
   | []=>.bad
   |t::r=>if r.isEmpty&& !Ci e then OW p O n t e else .bad
  | .AugAssign t op e _=>Rj p O n t op e
  | .If t a b _=>.iff (cE p O n t) (cB p O n a) (cB p O n b)
  | .While t b o pos=>if o.isEmpty then .wh pos.line (cE p O n t) (cB p O n b)else .bad
  | .For t it b o pos=>if o.isEmpty then Qf p O n t it pos.line (cB p O n b)else .bad
  | .Assert t m _=>if m.isNone then .Mh (cE p O n t)else .bad
  | .Try _ _ _ _ pos=>.prim pos.line
  |_=>.bad
noncomputable def cB(p:CP)(O:Scope):Nat->List WG->S
 |0,_=>.bad
 |n+1,l=>match l with
  | []=>.skip
  |s::r=>.seq (cS p O n s) (cB p O n r)
end
section
def fN{M:Model}(h:Runs M D p t y s e j):s.toks<=j.toks:=by
 induction h with
 |done=>show Zq _
 |raise=>show Zq _
 |yield=>show Zq _
 |again _ _ Q=>show Q
 |rule _ Q=>show Q
 |«at» _ Q=>show Q
 |load _ _ Q=>show Q
 |update _ _ Q=>show Q
 |loadIfAlive _ Q=>show Q
 |point _ Q=>show Q
 |alloc _ Q=>show Q
 |fresh _ Q=>show Zh (YX _) Q
 |ask _ Q=>show Q
 |choose _ _ Q=>show Q
 |os _ Q=>show Q
 |handled _ Q=>show Q
 |genState _ _ Q=>show Q
 |stack _ Q=>show Q
 |thread _ Q=>show Q
 |newGen _ Q=>show Q
 |call _ _ d z=>show Zh d z
 |callSusp _ d=>show d
 |resumeFresh _ _ _ _ d z=>show Zh d z
 |resumeSuspended _ _ _ _ d z=>show Zh d z
 |resumeJustStarted _ _ _ Q=>show Q
 |resumeThrowFresh _ _ Q=>show Q
 |resumeRunning _ _ Q=>show Q
 |resumeFinished _ _ Q=>show Q
 |segRet _ _ d z=>show Zh d z
 |segGen _ _ d z=>show Zh d z
 |segSuspOut _ _ d=>show d
 |segSuspGen _ _ _ _ d z=>show Zh d z
def lJ{M:Model}(h:Wakes M D p g r s d j):s.toks<=j.toks:=by
 unfold Wakes at h;split at h
 ·show h.elim
 ·split at h
  ·obtain⟨e,l,h,_,_,rfl⟩:=h;show((fN h:(s.setGen g .running).toks<=l.toks))
  ·obtain⟨_,rfl⟩:=h;show Zq _
  ·obtain⟨_,rfl⟩:=h;show Zq _
 ·obtain⟨e,l,h,_,_,rfl⟩:=h;show((fN h:(s.setGen g .running).toks<=l.toks))
 ·obtain⟨_,rfl⟩:=h;show Zq _
 ·obtain⟨_,rfl⟩:=h;show Zq _
def u7{y:Type}{M:Model}{Q:y->Pos->Ww->Prop}:∀(t:Sem y) (p:Pos) (s:Ww) (n:Nat),n<=s.toks->Sem.wp M D t (λa P B=>n<=B.toks->Q a P B) E p s->Sem.wp M D t Q E p s:=by
 intro t;induction t with
 |pure a=>intro p s n j h;show h j
 |raise e=>intro p s n j h;show h
 |unsupported _|finish _|yield|fork|await|register=>intro p s n j h;show h.elim
 |rule Z k b=>intro p s n j h;show b _ p s n j h
 |«at» P k b=>intro p s n j h;show b _ P s n j h
 |load a z k b=>intro p s n j h;show aA h λo x h=>(aO o x (b _ p s n j h))
 |update a z f k b=>intro p s n j h;show⟨h.1,b _ p _ n j h.2⟩
 |loadIfAlive a k b=>intro p s n j h;show b _ p s n j h
 |point l k b=>intro p s n j h;show b _ p s n j h
 |alloc o k b=>intro p s n j h;show b _ p _ n j h
 |fresh k b=>intro p s n j h;show b _ p _ n (Y4 j) h
 |ask k b=>intro p s n j h;show b _ p s n j h
 |choose A m k b=>intro p s n j h;show⟨h.1,b _ p _ n j h.2⟩
 |os q l k b=>intro p s n j h;show b _ p _ n j h
 |call c u g l k b=>intro p s n j h;show aX h λr i U N=>(aU r i U (b _ p i n (Zh j (fN U)) N))
 |handled O k b=>intro p s n j h;show b _ p s n j h
 |genState g k b=>intro p s n j h;show aA h λo x h=>(aO o x (b _ p s n j h))
 |newGen c k b=>intro p s n j h;show b _ p _ n j h
 |resume g r l k b=>intro p s n j h;show aX h λd i U N=>(aU d i U (b _ p i n (Zh j (lJ U)) N))
 |stack k b=>intro p s n j h;show b _ p s n j h
 |thread k b=>intro p s n j h;show b _ p s n j h
def aN{y:Type}{M:Model}{t:Sem y}{Q:y->Ww->Prop}(b:0<s.toks)(h:wpAny M A t (λa j=>0<j.toks->Q a j) E s):wpAny M A t Q E s:=
 λD p d=>u7 t p s 1 b (h D p d)
def CH(l:WJ):Wu:=⟨l.toArray⟩
structure Gh where
 F:WD->TQ
 φ:Nat->Option (WD×List WD)
abbrev FE(C:WD)(u:Option WD):Obj:= {cls:=.ref C,dict:=u,data:=.plain}
abbrev LD(f a:WD):Obj:= {cls:=.type "method",data:=.fields #[.ref f,.ref a]}
def Ca(T:String)(o:Obj)(vs:TN):Prop:=∃n,o= {cls:=.type T,data:=.seq vs.toArray n}
def Di{K:Type}[DecidableEq K]{pG:WA}{w:Wy}(knd:KeyKind pG w K)(o:Obj)(U:List (K×Wv)):Prop:=
 ∃y D,o.ExactDict/\o.data=.dict y D/\KeysOf knd y/\Pairs knd y.toList U/\(U.map (·.1)).Nodup
section
variable (pG:WA)(w:Wy)
mutual
inductive RF (F:WD->TQ):Wv->FV->Prop
 |Ak:RF F .none .Ak
 |Ae (b:Bool):RF F (.bool b) (.Ae b)
 |int (i:Int) (t:Tok):RF F (.int i t) (.int i)
 |str (l:WJ) (t:Tok) (b:l.length<=16777216):RF F (.str ⟨l.toArray⟩ t) (.str l)
 |tup {a:WD} {vs:TN} {o:Obj} {l:Tz}:F a=some o->Ca "tuple" o vs->Ba F vs l->l.length<=16777216->RF F (.ref a) (.tup l)
 |lst {a:WD} {vs:TN} {o:Obj} {l:Tz}:F a=some o->Ca "list" o vs->Ba F vs l->l.length<=16777216->RF F (.ref a) (.lst l)
 |An {a:WD} {o:Obj} {kvs:TO} {l:TG}:F a=some o->a≠sysModules->Di (strKind pG w) o kvs->Eh F kvs l->l.length<=16777216->RF F (.ref a) (.An l)
inductive Ba (F:WD->TQ):TN->Tz->Prop
 |nil:Ba F [] []
 |cons {v:Wv} {vs:TN} {f:FV} {l:Tz}:RF F v f->Ba F vs l->Ba F (v::vs) (f::l)
inductive Eh (F:WD->TQ):TO->TG->Prop
 |nil:Eh F [] []
 |cons {v:Wv} {vs:TO} {k:WJ} {f:FV} {l:TG}:RF F v f->Eh F vs l->Eh F ((CH k,v)::vs) ((k,f)::l)
end
end
def Sub(F l:WD->TQ):Prop:=∀a o,F a=some o->l a=some o
section
variable {pG:WA}{w:Wy}
def RF.mono(h:Sub F l)(r:RF pG w F v f):RF pG w l v f:=
 RF.rec
  .Ak .Ae .int .str (λe q Z b Q=>.tup (h _ _ e) q Q b) (λe q Z b Q=>.lst (h _ _ e) q Q b) (λe n q Z b Q=>.An (h _ _ e) n q Q b) .nil (λZ Z a r=>.cons a r) .nil (λZ Z a r=>.cons a r) r
def Ba.mono(h:Sub F l)(r:Ba pG w F v f):Ba pG w l v f:=
 Ba.rec
  .Ak .Ae .int .str (λe q Z b Q=>.tup (h _ _ e) q Q b) (λe q Z b Q=>.lst (h _ _ e) q Q b) (λe n q Z b Q=>.An (h _ _ e) n q Q b) .nil (λZ Z a r=>.cons a r) .nil (λZ Z a r=>.cons a r) r
def Eh.mono(h:Sub F l)(r:Eh pG w F v f):Eh pG w l v f:=
 Eh.rec
  .Ak .Ae .int .str (λe q Z b Q=>.tup (h _ _ e) q Q b) (λe q Z b Q=>.lst (h _ _ e) q Q b) (λe n q Z b Q=>.An (h _ _ e) n q Q b) .nil (λZ Z a r=>.cons a r) .nil (λZ Z a r=>.cons a r) r
end
section
variable {pG:WA}{w:Wy}{F:WD->TQ}{v:Wv}{vs:TN}
inductive K7 (v:Wv) (l:WJ):Prop
 |mk (t:Tok) (e:v=.str ⟨l.toArray⟩ t) (b:l.length<=16777216)
inductive K8 (pG:WA) (w:Wy) (F:WD->TQ) (n:String) (v:Wv) (l:Tz):Prop
 |mk (a:WD) (vs:TN) (o:Obj) (e:v=.ref a) (h:F a=some o) (q:Ca n o vs) (r:Ba pG w F vs l) (b:l.length<=16777216)
inductive OB (pG:WA) (w:Wy) (F:WD->TQ) (v:Wv) (l:TG):Prop
 |mk (a:WD) (o:Obj) (kvs:TO) (e:v=.ref a) (h:F a=some o) (n:a≠sysModules) (q:Di (strKind pG w) o kvs) (r:Eh pG w F kvs l) (b:l.length<=16777216)
def R5(pG:WA)(w:Wy)(F:WD->TQ)(v:Wv)(f:FV):Prop:=match f with
 | .Ak=>v=.none
 | .Ae b=>v=.bool b
 | .int i=>∃t,v=.int i t
 | .str l=>K7 v l
 | .tup l=>K8 pG w F "tuple" v l
 | .lst l=>K8 pG w F "list" v l
 | .An l=>OB pG w F v l
def RF.x(h:RF pG w F v f):R5 pG w F v f:=by
 cases h with
 |Ak=>show rfl
 |Ae b=>show rfl
 |int i t=>show⟨t,rfl⟩
 |str l t b=>show⟨t,rfl,b⟩
 |tup e q r b=>show⟨_,_,_,rfl,e,q,r,b⟩
 |lst e q r b=>show⟨_,_,_,rfl,e,q,r,b⟩
 |An e n q r b=>show⟨_,_,_,rfl,e,n,q,r,b⟩
def a7{P:Prop}(h:false=true):P:=by cases h
def aw{y:Type}{a:y}{P:Prop}(h:none=some a):P:=by cases h
def afL{i:Int}(e:Mine.A.aI f=some i):f=.int i:=by
 induction f using FV.casesOn with
 |int j=>show T3 FV.int (Zf e)
 |_=>show aw e
def xI{l:Tz}(e:S8 f=some l):f=.tup l:=by
 induction f using FV.casesOn with
 |tup j=>show T3 FV.tup (Zf e)
 |_=>show aw e
def m7{l:Tz}(e:aL f=some l):f=.lst l:=by
 induction f using FV.casesOn with
 |lst j=>show T3 FV.lst (Zf e)
 |_=>show aw e
def qN{l:WJ}(e:Mine.A.aS f=some l):f=.str l:=by
 induction f using FV.casesOn with
 |str j=>show T3 FV.str (Zf e)
 |_=>show aw e
def RF.aI(h:RF pG w F v f)(e:Mine.A.aI f=some i):∃t,v=.int i t:=(afL e▸h).x
def RF.aS(h:RF pG w F v f)(e:Mine.A.aS f=some l):K7 v l:=(qN e▸h).x
def aZ{y j:Type}{o:Option y}{f:y->j}{b:j}(h:BK o f=some b):∃a,o=some a/\f a=b:=by
 induction o using Option.casesOn with
 |none=>show aw h
 |some a=>show(aO a rfl (Zf h))
def ax{y j:Type}{o:Option y}{f:y->Option j}{b:j}(h:Af o f=some b):∃a,o=some a/\f a=some b:=by
 induction o using Option.casesOn with
 |none=>show aw h
 |some a=>show(aO a rfl h)
def mo{y:Type}{l:List y}{a:y}(h:Sp l=some a):l=[a]:=by
 induction l using Re with
 |nil=>show aw h
 |cons b t=>
  induction t using Re with
  |nil=>show T3 (λx=>[x]) (Zf h)
  |cons _ _=>show aw h
def afM{l:TG}(e:Ta f=some l):f=.An l:=by
 induction f using FV.casesOn with
 |An j=>show T3 FV.An (Zf e)
 |_=>show aw e
def f7{f:FV}(h:aC x=some f):x=.c f:=by
 induction x using V.casesOn with
 |c g=>show T3 V.c (Zf h)
 |_=>show aw h
def lC{i:Nat}(h:MD x=some i):x=.ob i:=by
 induction x using V.casesOn with
 |ob g=>show T3 V.ob (Zf h)
 |_=>show aw h
def uT{l:Tz}(h:FJ o=some l):o=some (.lst l):=by
 show aA (ax h) λo Q h=>?_;subst Q;induction o using AO.casesOn with
 |lst m=>show T3 (λl=>some (AO.lst l)) (Zf h)
 |_=>show aw h
def uU{p:Nat×Tw}(h:HZ o=some p):o=some (.inst p.1 p.2):=by
 show aA (ax h) λo Q h=>?_;subst Q;induction o using AO.casesOn with
 |inst C d=>obtain rfl:=Zf h;rfl
 |_=>show aw h
theorem RF.FU{f:FV}{c:Nat}(h:RF pG w F v f)(e:Mine.A.FU f=some c):∃t,v=.str ⟨[c].toArray⟩ t:=by
 cases A:Mine.A.aS f with
 |none=>unfold Mine.A.FU at e;replace e:=A▸e;show aw e
 |some l=>
  unfold Mine.A.FU at e;replace e:=A▸e;obtain rfl:=mo e;obtain⟨t,rfl,_⟩:=h.aS A;show⟨t,rfl⟩
inductive OA (pG:WA) (w:Wy) (F:WD->TQ) (vs:TN) (f:FV) (l:Tz):Prop
 |mk (v:Wv) (r:TN) (e:vs=v::r) (h:RF pG w F v f) (t:Ba pG w F r l)
def Ba.inv(h:Ba pG w F vs l):match (generalizing:=false) l with| []=>vs=[]|f::l=>OA pG w F vs f l:=by
 cases h with
 |nil=>rfl
 |cons a r=>show⟨_,_,rfl,a,r⟩
def Ba.one{l:Tz}{f:FV}(h:Ba pG w F vs l)(e:Sp l=some f):∃v,vs=[v]/\RF pG w F v f:=by
 obtain rfl:=mo e;obtain⟨v,r,rfl,N,D⟩:=h.inv;clear h;obtain rfl:=D.inv;show(aO v rfl N)
def aab{l:Tz}{k:FV->FV->FV->Prop}(e:Mine.A.GW l k):∃f g z,l=[f,g,z]/\k f g z:=by
 induction l using Re with
 |nil=>show e.elim
 |cons f t=>
  induction t using Re with
  |nil=>show e.elim
  |cons g t=>
   have e:Ab (Sp t) λc=>k f g c:=e;cases A:Sp t with
   |none=>replace e:=A▸e;show e.elim
   |some z=>show(ay f g z (by rw[mo A]) (by replace e:=A▸e;show e))
theorem Ba.GW(h:Ba pG w F vs l)(e:Mine.A.GW l k):∃x f u g q z,vs=[x,u,q]/\RF pG w F x f/\RF pG w F u g/\RF pG w F q z/\k f g z:=by
 show cps λD d=>?_;show bC (aab e) λf g z a e=>?_;subst a;obtain⟨v,r,rfl,b,U⟩:=h.inv;obtain⟨u,r,rfl,Z,N⟩:=U.inv;show aA (N.one rfl) λq Q SG=>?_;clear N U h;subst Q;show d (bJ v f u g q z rfl b Z SG e)
end
def RV(pG:WA)(w:Wy)(g:Gh)(v:Wv):V->Prop
 | .c f=>RF pG w g.F v f
 | .ob i=>∃a ft,g.φ i=some (a,ft)/\v=.ref a
 | .st a=>v=.ref a
 | .E9 f i=>∃q a ft,v=.ref q/\g.F q=some (LD f a)/\g.φ i=some (a,ft)
inductive Cw (pG:WA) (w:Wy) (g:Gh):TN->TA->Prop
 |nil:Cw pG w g [] []
 |cons {v:Wv} {vs:TN} {f:V} {l:TA}:RV pG w g v f->Cw pG w g vs l->Cw pG w g (v::vs) (f::l)
inductive Oz (pG:WA) (w:Wy) (g:Gh) (vs:TN) (f:V) (l:TA):Prop
 |mk (v:Wv) (r:TN) (e:vs=v::r) (h:RV pG w g v f) (t:Cw pG w g r l)
def Cw.inv{pG:WA}(h:Cw pG w g vs l):match (generalizing:=false) l with| []=>vs=[]|f::l=>Oz pG w g vs f l:=by
 cases h with
 |nil=>rfl
 |cons a r=>show⟨_,_,rfl,a,r⟩
def Cw.one{pG:WA}{g:Gh}{l:TA}{f:V}(h:Cw pG w g vs l)(e:Sp l=some f):∃v,vs=[v]/\RV pG w g v f:=by
 obtain rfl:=mo e;obtain⟨v,r,rfl,N,D⟩:=h.inv;clear h;obtain rfl:=D.inv;show(aO v rfl N)
inductive RD (pG:WA) (w:Wy) (g:Gh):TO->TH->Prop
 |nil:RD pG w g [] []
 |cons {v:Wv} {vs:TO} {k:WJ} {f:V} {l:TH}:RV pG w g v f->RD pG w g vs l->RD pG w g ((CH k,v)::vs) ((k,f)::l)
inductive RI (pG:WA) (w:Wy) (nm:Nat->Wu) (g:Gh):List WC->Tw->Prop
 |nil:RI pG w nm g [] []
 |cons {e:WC} {es:List WC} {n:Nat} {t:Tok} {f:V} {l:Tw}:e.key=.str (nm n) t->RV pG w g e.val f->RI pG w nm g es l->RI pG w nm g (e::es) ((n,f)::l)
structure Le (b:Bool) (g g':Gh):Prop where
 F:Sub g.F g'.F
 φ:∀i a ft,g.φ i=some (a,ft)->(b=true->i≠32/\i≠33)->∃ft',g'.φ i=some (a,ft')
def Le.refl(b:Bool)(g:Gh):Le b g g:=⟨λZ Z e=>e,λZ Z ft e Z=>⟨ft,e⟩⟩
def Le.trans(h:Le b g Q)(k:Le c Q j):Le (b||c) g j:=
 ⟨λa o e=>k.F a o (h.F a o e),λi a ft e n=>by
  show zE (h.φ i a ft e λx=>n (by show x.symm▸ ?_;rfl)) λl A=>?_;show k.φ i a l A λx=>n (by show x.symm▸ ?_;show Bool.or_true b)⟩
def Le.f(h:Le false g P){ft:List WD}(e:g.φ i=some (a,ft)):∃l,P.φ i=some (a,l):=h.φ i a ft e λx=>a7 x
def RV.mono{pG:WA}(h:Le false g P){x:V}(r:RV pG w g v x):RV pG w P v x:=by
 induction x using V.casesOn with
 |c _=>show RF.mono h.F r
 |ob i=>show aX r λa ft e q=>?_;show zE (h.f e) λl A=>(aU a l A q)
 |st _=>show r
 |E9 _ i=>show cH r λq a ft e k p=>?_;show zE (h.f p) λl A=>(b4 q a l e (h.F _ _ k) A)
def Cw.mono{pG:WA}(h:Le false g P)(r:Cw pG w g vs l):Cw pG w P vs l:=by
 induction r with
 |nil=>show .nil
 |cons a _ Q=>show .cons (a.mono h) Q
def RD.mono{pG:WA}(h:Le false g P)(r:RD pG w g vs l):RD pG w P vs l:=by
 induction r with
 |nil=>show .nil
 |cons a _ Q=>show .cons (a.mono h) Q
def RI.mono{pG:WA}(h:Le false g P)(r:RI pG w nm g vs l):RI pG w nm P vs l:=by
 induction r with
 |nil=>show .nil
 |cons a c _ Q=>show .cons a (c.mono h) Q
def RO(pG:WA)(w:Wy)(nm:Nat->Wu)(g:Gh)(h:WH)(a:WD)(ft:List WD):AO->Prop
 | .lst l=>ft=[a]/\∃o vs,h.get? a=some o/\Ca "list" o vs/\Ba pG w g.F vs l/\l.length<=16777216
 | .An l=>ft=[a]/\∃o U,h.get? a=some o/\a≠sysModules/\Di (strKind pG w) o U/\RD pG w g U l/\l.length<=16777216
 | .inst C d=>∃u y n,ft=[a,u]/\a≠u/\h.get? a=some (FE C (some u))/\h.get? u=some (dictOf y n)/\RI pG w nm g y d
 | .Av f=>ft=[]/\RF pG w g.F (.ref a) f
def RO.step{pG:WA}{ft:List WD}(L:Le false g P)(k:∀x∈ft,∀o,h.get? x=some o->l.get? x=some o)
  {o:AO} (r:RO pG w nm g h a ft o):RO pG w nm P l a ft o:=by
 induction o using AO.casesOn with
 |lst _=>show bI r λe o vs q z r b=>?_;show⟨e,bG o vs (k a (e▸ .head _) _ q) z (Ba.mono L.F r) b⟩
 |An _=>show bQ r λe o U q z d r b=>?_;show⟨e,bj o U (k a (e▸ .head _) _ q) z d (r.mono L) b⟩
 |inst _ _=>show aK r λu y n e j q A r=>?_;show(aM u y n e j (k a (e▸ .head _) _ q) (k u (e▸ .tail _ (.head _)) _ A) (r.mono L))
 |Av _=>show⟨r.1,r.2.mono L.F⟩
structure Cx where
 Aa:WA
 w:Wy
 nm:Nat->Wu
 inj:∀i j,nm i=nm j->i=j
 base:WH
 G4:2<=base.objs.size
def AD(g:Gh)(x:WD):Prop:=∃i a ft,g.φ i=some (a,ft)/\x∈ft
structure Loc where
 ns:WD
 D0:Option (Wu×WD)
 own:Bool
 up:List WD
 vl:Bool
 tp:Option Env
abbrev Loc.all(L:Loc):List WD:=L.ns::L.up
def Loc.CN(L:Loc)(x:WD):Prop:=x∈L.all\/∃n,L.D0=some (n,x)
def Loc.Wr(L:Loc)(x:WD):Prop:=x∈L.all\/L.own=true/\∃n,L.D0=some (n,x)
def Loc.Wr.has{L:Loc}(h:L.Wr x):L.CN x:=h.imp_right And.right
def Loc.Sh(L:Loc)(h:WH)(m:Wu->TM)(x:Wu)(w:Wv):Prop:=(∃a,L.D0=some (x,a)/\h.IsCell a (some w))\/((∀a,L.D0≠some (x,a))/\m x=some w)
def B4(o D:Obj):Prop:=∃P,D= {o with slots:=P}
def GD(h:WH)(u:WD):Prop:=∃o y n,h.get? u=some o/\o.data=.dict y n
structure B3 (c:Cx) (g:Gh) (L:Loc) (Lc:Tw) (h:WH):Prop where
 nm:∃m,h.Ns L.ns m/\∀n v,Sx n Lc=some v->∃w,L.Sh h m (c.nm n) w/\RV c.Aa c.w g w v
 cell:∀n a,L.D0=some (n,a)->∃u,h.IsCell a u
 up:∀u∈L.up,GD h u
 nu:L.ns∉L.up
def GD.step(x:GD h u)(k:∀o,h.get? u=some o->∃D,l.get? u=some D/\B4 o D):GD l u:=by
 show bC x λo y n e d=>?_;show iW (k o e) λZ A P z=>?_;subst z;show(ay _ y n A d)
def bF{h l:WH}(x:h.IsCell a u)(k:∀o,h.get? a=some o->∃D,l.get? a=some D/\B4 o D):l.IsCell a u:=by
 show aA x λo e d=>?_;show iW (k o e) λZ A P z=>?_;subst z;show(aO _ A d)
def fw{h l:WH}(x:h.Ns a m)(k:∀o,h.get? a=some o->∃D,l.get? a=some D/\B4 o D):l.Ns a m:=by
 show bC x λo y b e r=>?_;show iW (k o e) λZ A P z=>?_;subst z;show(ay _ y b A r)
def B3.step{g P:Gh}(x:B3 c g L Lc h)(A:Le false g P)(k:∀y,L.CN y->∀o,h.get? y=some o->∃D,l.get? y=some D/\B4 o D):B3 c P L Lc l:=by
 show aA x.nm λm N O=>⟨aO m (fw N (k _ (.inl (.head _)))) λn v e=>?_,λn a e=>?_,λu Z=>(x.up u Z).step (k u (.inl (.tail _ Z))),x.nu⟩
 ·show aA (O n v e) λw b z=>(aO w (b.imp_left λ⟨a,U,f⟩=>(aO a U (bF f (k a (.inr (yE _ U)))))) (z.mono A))
 ·show(x.cell n a e).elim λu Z=>(yE u (bF Z (k a (.inr (yE n e)))))
def B3.there(x:B3 c g L Lc h)(P:L.CN y):∃o,h.get? y=some o:=by
 rcases P with P|⟨n,e⟩
 ·rcases Zb P with rfl|P
  ·show aA x.nm λm Q Z=>?_;obtain⟨o,_,_,e,_⟩:=Q;show⟨o,e⟩
  ·show bC (x.up y P) λo Z Z e Z=>⟨o,e⟩
 ·show aX (x.cell n y e) λu o e Z=>⟨o,e⟩
def av{h l:WH}(k:∀o,h.get? y=some o->l.get? y=some o):∀o,h.get? y=some o->∃D,l.get? y=some D/\B4 o D:=λo e=>(j2 o (k o e) o.slots rfl)
structure Rel (c:Cx) (g:Gh) (L:Loc) (J:St) (s:Ww):Prop where
 Av:∀a o,g.F a=some o->s.heap.get? a=some o
 obs:∀i o,Sx i J.H=some o->∃a ft,g.φ i=some (a,ft)/\RO c.Aa c.w c.nm g s.heap a ft o
 sep:∀i j a ft b ft',g.φ i=some (a,ft)->g.φ j=some (b,ft')->i≠j->∀x∈ft,x∉ft'
 off:∀x,AD g x->g.F x=none/\¬L.CN x/\∃o,s.heap.get? x=some o
 nL:∀x,L.CN x->g.F x=none
 loc:B3 c g L J.L s.heap
 new:∀i,J.m<=i->g.φ i=none
 DY:64<=J.m
 CZ:∀i p,g.φ i=some p->i<64->∃o,Sx i J.H=some o
 base:∀a o,c.base.get? a=some o->g.F a=some o
 Lb:c.base.objs.size<=L.ns
 tk:0<s.toks
def Rel.ob{ft:List WD}{o:AO}(r:Rel c g L J s)(e:g.φ i=some (a,ft))(q:Sx i J.H=some o):RO c.Aa c.w c.nm g s.heap a ft o:=
 (r.obs i o q).elim λZ h=>h.elim λZ h=>by cases Zf (e.symm.trans h.1);show h.2
structure GK (a b:Array GenState):Prop where
 old:∀(i:Nat) (q:GenState),a[i]? =some q->b[i]? =some q
 new:∀(i:Nat) (q:GenState),b[i]? =some q->a[i]? =some q\/q.bare=true
def GK.refl(a:Array GenState):GK a a:=⟨λZ Z e=>e,λZ Z e=>.inl e⟩
def GK.trans(x:GK a b)(y:GK b c):GK a c:=
 ⟨λi q e=>y.old i q (x.old i q e),λi q e=>(y.new i q e).elim (x.new i q) .inr⟩
def JD(U:List WD)(h l:WH):Prop:=∀x∈U,∀o,h.get? x=some o->∃D,l.get? x=some D/\B4 o D
def JD.refl(U:List WD)(h:WH):JD U h h:=λZ Z o e=>(j2 o e o.slots rfl)
def JD.of{U:List WD}(k:∀x∈U,∀o,h.get? x=some o->l.get? x=some o):JD U h l:=λx P=>av (k x P)
def JD.trans(a:JD U h y)(b:JD U y u):JD U h u:=λx P o e=>by
 show iW (a x P o e) λZ c i z=>?_;subst z;show iW (b x P _ c) λZ f A z=>?_;subst z;show(j2 _ f A rfl)
structure Ext (b:Bool) (L:Loc) (g:Gh) (s:Ww) (g':Gh) (s':Ww):Prop where
 le:Le b g g'
 keep:∀x o,s.heap.get? x=some o->¬L.Wr x->¬AD g x->s'.heap.get? x=some o
 EN:JD L.up s.heap s'.heap
 fp:∀x,AD g' x->AD g x\/s.heap.get? x=none
 fF:∀x o,g'.F x=some o->g.F x=some o\/AD g x\/s.heap.get? x=none
 gens:GK s.gens s'.gens
 os:s'.os=s.os
 drawn:s'.drawn=s.drawn
def Ext.refl(b:Bool)(L:Loc)(g:Gh)(s:Ww):Ext b L g s g s:=
 ⟨.refl b g,λZ Z e Z Z=>e,.refl _ _,λZ h=>.inl h,λZ Z h=>.inl h,GK.refl _,rfl,rfl⟩
def Ext.w(x:Ext false L g s P j):Ext b L g s P j:=⟨⟨x.le.F,λi a ft e Z=>x.le.φ i a ft e λh=>a7 h⟩,x.keep,x.EN,x.fp,x.fF,x.gens,x.os,x.drawn⟩
def Ext.vv(x:Ext (b||b) L g s P j):Ext b L g s P j:=Bool.or_self b▸x
def Ext.o(x:Ext (b||false) L g s P j):Ext b L g s P j:=Wp b▸x
def c9{h l:WH}{x:WD}(k:∀o,h.get? x=some o->∃D,l.get? x=some D)(e:l.get? x=none):h.get? x=none:=by
 cases q:h.get? x with
 |none=>rfl
 |some o=>show zE (k o q) λD A=>?_;rw[e]at A;show aw A
def Rel.there(r:Rel c g L J s)(h:L.CN x):∃o,s.heap.get? x=some o:=r.loc.there h
def Ext.trans'{L:Loc}{U:St}{s l a:Ww}(f:Rel c Q L U l)(x:Ext b L g s Q l)(y:Ext d L Q l j a):Ext (b||d) L g s j a:=by
 have A:∀z,l.heap.get? z=none->AD g z\/s.heap.get? z=none:=λz e=>by
  by_cases P:AD g z
  ·show .inl P
  ·show .inr ?_;cases q:s.heap.get? z with
   |none=>rfl
   |some o=>
    by_cases D:L.Wr z
    ·show zE (f.there D.has) λi w=>?_;replace w:=e▸w;show aw w
    ·replace e:=(x.keep z o q D P)▸e;cases e
 show⟨x.le.trans y.le,λz o e D P=>y.keep z o (x.keep z o e D P) D λu=>?_,x.EN.trans y.EN,λz P=>?_,λz o P=>?_,x.gens.trans y.gens,y.os.trans x.os,y.drawn.trans x.drawn⟩
 ·rcases x.fp z u with h|h
  ·show P h
  ·replace h:=e▸h;cases h
 ·rcases y.fp z P with h|h
  ·show x.fp z h
  ·show A z h
 ·rcases y.fF z o P with h|h|h
  ·show x.fF z o h
  ·show .inr (x.fp z h)
  ·show .inr (A z h)
def Ext.trans(_:Rel c g L J s)(a:Rel c Q L U l)(x:Ext b L g s Q l)(y:Ext d L Q l j P):Ext (b||d) L g s j P:=Ext.trans' a x y
section
def bW(n:Nat):beq n n=true:=Nat.beq_refl n
def bX{n m:Nat}(h:n≠m):beq n m=false:=by
 cases e:beq n m with
 |false=>rfl
 |true=>show T4 (ZC e) h
section
variable {α:Type}
def aq(n:Nat)(p:Nat×α)(l:List (Nat×α)):Sx n (p::l)=if n=p.1 then some p.2 else Sx n l:=by
 change(Bool.rec (Sx n l) (some p.2) (beq n p.1):Option α)=_;by_cases h:n=p.1
 ·rw[Zk h,h,bW]
 ·rw[Zi h,bX h]
def ko(n:Nat)(v:α)(p:Nat×α)(l:List (Nat×α)):put n v (p::l)=if n=p.1 then(n,v)::l else p::put n v l:=by
 change(Bool.rec (p::put n v l) ((n,v)::l) (beq n p.1):List (Nat×α))=_;by_cases h:n=p.1
 ·rw[Zk h,h,bW]
 ·rw[Zi h,bX h]
def ao(n m:Nat)(v:α):∀l:List (Nat×α),Sx n (put m v l)=if n=m then some v else Sx n l:=by
 intro l;induction l with
 |nil=>
  rw[aq]
 |cons p l Q=>
  rw[ko];by_cases h:m=p.1
  ·rw[Zk h,aq,aq];by_cases k:n=m
   ·simp[k]
   ·rw[Zi k,Zi k,Zi (by show h▸ ?_;show k)]
  ·rw[Zi h,aq,aq,Q];by_cases k:n=p.1
   ·rw[Zk k,Zk k,Zi (by show k▸ ?_;show λe=>h e.symm)]
   ·rw[Zi k,Zi k]
end
noncomputable def Gh.at(g:Gh)(i:Nat)(p:WD×List WD):Gh:=⟨g.F,λj=>if j=i then some p else g.φ j⟩
def Gh.bf{g:Gh}:(g.at i p).φ i=some p:=Zk rfl
def Gh.bc{g:Gh}(h:¬j=i):(g.at i p).φ j=g.φ j:=Zi h
noncomputable def Gh.add(g:Gh)(a:WD)(o:Obj):Gh:=⟨λb=>if b=a then some o else g.F b,g.φ⟩
variable {c:Cx}{g:Gh}{L:Loc}{J:St}{s:Ww}
def AD.at_{i:Nat}(h:AD (g.at i p) x):x∈p.2\/∃j a ft,j≠i/\g.φ j=some (a,ft)/\x∈ft:=by
 show cps λD d=>bC h λj a ft e P=>d ?_;by_cases Q:j=i
 ·have:=Gh.bf.symm.trans (Q▸e);clear h d e;obtain rfl:=Zf this;show .inl P
 ·show .inr (b4 j a ft Q ((Gh.bc Q).symm.trans e) P)
def Rel.lt(r:Rel c g L J s)(h:g.φ i=some p):i<J.m:=by
 rcases YT i J.m with k|k
 ·show k
 ·rw[r.new i k]at h;show aw h
def Loc.cx:L.CN L.ns:=.inl (.head _)
def Rel.dT(r:Rel c g L J s):∃o,s.heap.get? L.ns=some o:=r.there Loc.cx
def Rel.free(r:Rel c g L J s)(e:s.heap.get? x=none):g.F x=none/\¬L.CN x/\¬AD g x:=by
 show⟨?_,λq=>?_,λq=>?_⟩
 ·cases z:g.F x with
  |none=>rfl
  |some o=>have w:=r.Av x o z;replace w:=e▸w;show aw w
 ·show zE (r.there q) λo w=>?_;replace w:=e▸w;show aw w
 ·show cV (r.off x q) λZ Z o w=>?_;replace w:=e▸w;show aw w
def Rel.toks(r:Rel c g L J s)(h:0<n):Rel c g L J {s with toks:=n}:=⟨r.Av,r.obs,r.sep,r.off,r.nL,r.loc,r.new,r.DY,r.CZ,r.base,r.Lb,h⟩
def Rel.dX(r:Rel c g L J s):Rel c g L J {s with toks:=s.toks+1}:=r.toks (YB _)
def Rel.acd(r:Rel c g L J s):Rel c g L J {s with toks:=s.toks+1+1}:=r.toks (YB _)
def Ext.toks(b:Bool)(n:Nat):Ext b L g s g {s with toks:=n}:=⟨.refl b g,λZ Z e Z Z=>e,.refl _ _,λZ h=>.inl h,λZ Z h=>.inl h,GK.refl _,rfl,rfl⟩
def B3.via(x:B3 c g L Lc h)(N:l.Ns L.ns m)(O:∀n v,Sx n Lc=some v->∃w,L.Sh h m (c.nm n) w/\RV c.Aa c.w g w v)
  (k:∀y,L.CN y->y≠L.ns->∀o,h.get? y=some o->l.get? y=some o):B3 c g L Lc l:=by
 have f:∀ {n:Wu} {a:WD} {u:TM},L.D0=some (n,a)->h.IsCell a u->l.IsCell a u:=λ{n a u} e i=>by
  by_cases q:a=L.ns
  ·show aA x.nm λp Q p=>?_;obtain⟨o,r,D,U,d,_⟩:=Q;show aA i λSo Z P=>?_;replace Z:=q▸Z;replace Z:=U▸Z;cases Z;replace P:=d▸P;cases P
  ·show bF i (av (k a (.inr (yE n e)) q))
 show⟨aO m N λn v e=>(O n v e).elim λw h=>(aO w (h.1.imp_left λ⟨a,U,Z⟩=>(aO a U (f U Z))) h.2),λn a e=>(x.cell n a e).elim λu b=>(yE u (f e b)),λu b=>(x.up u b).step (av (k u (.inl (.tail _ b)) λq=>x.nu (q▸b))),x.nu⟩
def Rel.change(r:Rel c g L J s){a:WD}{ft ft':List WD}{o':AO}{tk:Nat}(W:0<tk)(hi:g.φ i=some (a,ft))
  (C:∀x o,x≠L.ns->s.heap.get? x=some o->x∉ft->h'.get? x=some o) (E:∀x∈ft',x∈ft\/s.heap.get? x=none) (B:∀x∈ft',∃o,h'.get? x=some o)
  (n:B3 c g L J.L h')
  (M:RO c.Aa c.w c.nm (g.at i (a,ft')) h' a ft' o'):
  Rel c (g.at i (a,ft')) L (As J (put i o' J.H)) {s with heap:=h',toks:=tk}/\Ext false L g s (g.at i (a,ft')) {s with heap:=h',toks:=tk}:=by
 have G:Le false g (g.at i (a,ft')):=⟨λZ Z e=>e,λj b l e Z=>by
  by_cases q:j=i
  ·clear M;subst q;replace e:=hi▸e;cases e;show(yE ft' (Gh.bf))
  ·show(yE l ((Gh.bc (q)).trans e))⟩
 have O:=λx B=>r.off x (ay i a ft hi B);have I:∀ {x},¬L.CN x->x≠L.ns:=λh q=>h (q▸Loc.cx);show⟨⟨λx o e=>C x o (λq=>by have e:g.F x=some o:=e;rw[q,r.nL _ Loc.cx]at e;show aw e) (r.Av x o e) λq=>?_,λj o Q=>?_,λj k b l d fd Q t D x m N=>?_,λx f=>?_,r.nL,?_,λj Q=>?_,r.DY,λj p Q H=>?_,r.base,r.Lb,W⟩,
  ⟨G,λx o e T R=>C x o (λq=>T (.inl (q▸ .head _))) e λq=>R (ay i a ft hi q),λx f o e=>?_,λx f=>?_,λx o e=>.inl e,GK.refl _,rfl,rfl⟩⟩
 ·have:=(O x q).1;replace this:=e▸this;cases this
 ·have P:Sx j (put i o' J.H)=some o:=Q;rw[ao]at P;by_cases q:j=i
  ·rw[Zk q]at P;clear Q;obtain rfl:=Zf P;show(aU a ft' (by show q▸ ?_;show Gh.bf) M)
  ·rw[Zi q]at P;show aX (r.obs j o P) λb l e S=>(aU b l ((Gh.bc (q)).trans e) (S.step G λx B o V=>C x o (I (r.off x (ay j b l e B)).2.1) V λz=>r.sep i j a ft b l hi e (λw=>q w.symm) x z B))
 ·by_cases q:j=i<;>by_cases A:k=i
  ·show D (q.trans A.symm)
  ·have U:some (a,ft')=some (b,l):=Gh.bf.symm.trans (q▸Q);have F:g.φ k=some (d,fd):=(Gh.bc A).symm.trans t;cases U;rcases E x m with z|z
   ·show r.sep i k a ft d fd hi F (λw=>A w.symm) x z N
   ·show zE (r.off x (ay k d fd F N)).2.2 λo y=>?_;rw[z]at y;show aw y
  ·have U:g.φ j=some (b,l):=(Gh.bc q).symm.trans Q;have F:some (a,ft')=some (d,fd):=Gh.bf.symm.trans (A▸t);cases F;rcases E x N with z|z
   ·show r.sep j i b l a ft U hi q x m z
   ·show zE (r.off x (ay j b l U m)).2.2 λo y=>?_;rw[z]at y;show aw y
  ·have U:g.φ j=some (b,l):=(Gh.bc q).symm.trans Q;show r.sep j k b l d fd U (show g.φ k=some (d,fd) from(Gh.bc A).symm.trans t) D x m N
 ·rcases f.at_ with z|⟨j,b,l,Q,e,z⟩
  ·rcases E x z with y|y
   ·show⟨(O x y).1,(O x y).2.1,B x z⟩
   ·show⟨(r.free y).1,(r.free y).2.1,B x z⟩
  ·show cV (r.off x (ay j b l e z)) λu v o w=>⟨u,v,yE o (C x o (I v) w λq=>r.sep i j a ft b l hi e (λw=>Q w.symm) x q z)⟩
 ·show n.step G λZ Z=>av λZ e=>e
 ·have:j≠i:=λq=>by have:=r.lt hi;replace Q:=q▸Q;show YA _ (ZJ this Q)
  change(if j=i then _ else g.φ j)=none;show(Zi this)▸(r.new j Q)
 ·change∃o,Sx j (put i o' J.H)=some o;rw[ao];by_cases q:j=i
  ·show(yE o' (by rw[Zk q]))
  ·rw[Zi q];show r.CZ j p ((Gh.bc q).symm.trans Q) H
 ·show(j2 o (C x o (λq=>n.nu (q▸f)) e ((show∀ {x},L.CN x->x∉ft from λh q=>(O _ q).2.1 h) (.inl (.tail _ f)))) o.slots rfl)
 ·rcases f.at_ with z|⟨j,b,l,_,e,z⟩
  ·rcases E x z with y|y
   ·show .inl (ay i a ft hi y)
   ·show .inr y
  ·show .inl (ay j b l e z)
def aF{h:WH}{x:WD}(e:h.objs.size<=x):h.get? x=none:=by
 cases q:h.get? x with
 |none=>rfl
 |some o=>show T4 (Yk q) (YN.mpr e)
def Rel.alloc(r:Rel c g L J s){o:Obj}(U:o.isFreed=false)
  (M:RO c.Aa c.w c.nm (g.at J.m (s.heap.objs.size,[s.heap.objs.size])) (s.heap.push o) s.heap.objs.size [s.heap.objs.size] o'):
  Rel c (g.at J.m (s.heap.objs.size,[s.heap.objs.size])) L ⟨J.L,(J.m,o')::J.H,J.m+1,J.vl⟩ {s with heap:=s.heap.push o}/\
  Ext false L g s (g.at J.m (s.heap.objs.size,[s.heap.objs.size])) {s with heap:=s.heap.push o}:=by
 have G:∀ {j:Nat} {p:WD×List WD},g.φ j=some p->j≠J.m:=λe q=>by rw[q,r.new J.m (Zq _)]at e;show aw e
 have n:Le false g (g.at J.m (s.heap.objs.size,[s.heap.objs.size])):=⟨λZ Z e=>e,λj b l e Z=>(yE l ((Gh.bc (G e)).trans e))⟩
 have D:∀x N,s.heap.get? x=some N->(s.heap.push o).get? x=some N:=λx N e=>Zw _ e;have C:s.heap.get? s.heap.objs.size=none:=aF (Zq _);show⟨⟨λx N e=>D x N (r.Av x N e),λj N Q=>?_,λj k b l d fd Q a m x f i=>?_,λx h=>?_,r.nL,?_,λj Q=>?_,Y4 r.DY,λj p Q t=>?_,r.base,r.Lb,r.tk⟩,
  ⟨n,λx N e Z Z=>D x N e,.of λx Z=>D x,λx h=>?_,λx N e=>.inl e,GK.refl _,rfl,rfl⟩⟩
 ·have P:=Q;rw[aq]at P;by_cases q:j=J.m
  ·rw[Zk q]at P;clear Q;obtain rfl:=Zf P;show(aU _ _ (by show q▸ ?_;show Gh.bf) M)
  ·rw[Zi q]at P;show aX (r.obs j N P) λb l e F=>(aU b l ((Gh.bc (q)).trans e) (F.step n λx B o H=>D x o H))
 ·have O:∀ {j:Nat} {b:WD} {l:List WD},g.φ j=some (b,l)->∀x∈l,x≠s.heap.objs.size:=λe x B q=>by
   show zE (r.off x (ay _ _ _ e B)).2.2 λo y=>YA _ (q▸Yk y)
  by_cases q:j=J.m<;>by_cases A:k=J.m
  ·show m (q.trans A.symm)
  ·have I:some (s.heap.objs.size,[s.heap.objs.size])=some (b,l):=Gh.bf.symm.trans (q▸Q);cases I;show O (show g.φ k=some (d,fd) from(Gh.bc A).symm.trans a) x i (Za f)
  ·have E:some (s.heap.objs.size,[s.heap.objs.size])=some (d,fd):=Gh.bf.symm.trans (A▸a);cases E;show O (show g.φ j=some (b,l) from(Gh.bc q).symm.trans Q) x f (Za i)
  ·show r.sep j k b l d fd (show g.φ j=some (b,l) from(Gh.bc q).symm.trans Q) (show g.φ k=some (d,fd) from(Gh.bc A).symm.trans a) m x f i
 ·rcases h.at_ with z|⟨j,b,l,_,e,z⟩
  ·obtain rfl:=Za z;have w:=r.free C;show⟨w.1,w.2.1,yE o (ZL _ U)⟩
  ·show cV (r.off x (ay j b l e z)) λu v o w=>⟨u,v,yE o (D x o w)⟩
 ·show r.loc.step n λx Z=>av (D x)
 ·change(if j=J.m then _ else g.φ j)=none;rw[Zi (show j≠J.m from Nat.ne_of_gt (Nat.lt_of_succ_le Q))];show r.new j (Yj Q)
 ·change∃o,Sx j ((J.m,o')::J.H)=some o;rw[aq];by_cases q:j=J.m
  ·show(yE o' (by rw[Zk q]))
  ·rw[Zi q];show r.CZ j p ((Gh.bc q).symm.trans Q) t
 ·rcases h.at_ with z|⟨j,b,l,_,e,z⟩
  ·show .inr (by show(Za z)▸ ?_;show C)
  ·show .inl (ay j b l e z)
def Rel.aeg(r:Rel c g L J s){i:Nat}(m:0<i)(Q:s.heap.get? D=none)(p:l.get? D=some o)(f:∀x N,s.heap.get? x=some N->l.get? x=some N):
  Rel c (g.add D o) L J {s with heap:=l,toks:=i}/\Ext false L g s (g.add D o) {s with heap:=l,toks:=i}:=by
 have h:Le false g (g.add D o):=⟨λx N e=>by
   change(if x=_ then _ else g.F x)=some N;rw[Zi λq=>by rw[q,(r.free Q).1]at e;show aw e];show e,λj b k e Z=>(yE k e)⟩
 show⟨⟨λx N e=>?_,λj N n=>?_,r.sep,λx P=>?_,λx P=>?_,?_,r.new,r.DY,r.CZ,λa N e=>h.F a N (r.base a N e),r.Lb,m⟩,
  ⟨h,λx N e Z Z=>f x N e,.of λx Z=>f x,λx P=>.inl P,λx N e=>?_,GK.refl _,rfl,rfl⟩⟩
 ·have A:(if x=D then some o else g.F x)=some N:=e;by_cases q:x=D
  ·rw[Zk q]at A;obtain rfl:=Zf A;show q▸p
  ·rw[Zi q]at A;show f x N (r.Av x N A)
 ·show aX (r.obs j N n) λb k e t=>(aU b k e (t.step h λx Z o A=>f x o A))
 ·show cV (r.off x P) λu v N w=>⟨?_,v,yE N (f x N w)⟩
  change(if x=_ then _ else g.F x)=none;rw[Zi λq=>by(rw[q]at w;replace w:=Q▸w);cases w];show u
 ·change(if x=_ then _ else g.F x)=none;show zE (r.there P) λN w=>?_;rw[Zi λq=>by rw[q,Q]at w;show aw w];show r.nL x P
 ·show r.loc.step h λx Z=>av (f x)
 ·have A:(if x=D then some o else g.F x)=some N:=e;by_cases q:x=D
  ·show .inr (.inr (by show q▸ ?_;show Q))
  ·rw[Zi q]at A;show .inl A
def Rel.mZ(r:Rel c g L J s){o:Obj}(U:o.isFreed=false):
  Rel c (g.add s.heap.objs.size o) L J {s with heap:=s.heap.push o}/\Ext false L g s (g.add s.heap.objs.size o) {s with heap:=s.heap.push o}:=
 r.aeg r.tk (aF (Zq _)) (ZL _ U) λZ Z e=>Zw _ e
def Rel.freeze(r:Rel c g L J s)(hi:g.φ i=some (a,[a]))(T:s.heap.get? a=some o)
  (I:∀P,Le false g P->P.F a=some o->RF c.Aa c.w P.F (.ref a) f):
  ∃P,Rel c P L (As J (put i (.Av f) J.H)) s/\Ext false L g s P s/\RF c.Aa c.w P.F (.ref a) f:=by
 have E:=r.off a (ay i a [a] hi (.head _))
 let P:Gh:=(g.add a o).at i (a,[])
 have F:Le false g P:=⟨λx N e=>by
   change(if x=a then _ else g.F x)=some N;rw[Zi λq=>by(replace e:=q▸e;rw[E.1]at e);show aw e];show e,λj b l e Z=>by
  by_cases q:j=i
  ·subst q;replace e:=hi▸e;cases e;show(yE [] (Gh.bf))
  ·show(yE l (by simpa[P,Gh.at,Gh.add,q] using e))⟩
 have M:P.F a=some o:=by change(if a=a then _ else _)=_;rw[Zk rfl]
 have y:∀ {j:Nat},j≠i->P.φ j=g.φ j:=λ{j} q=>by change(if j=i then _ else _)=_;rw[Zi q];rfl
 have t:P.φ i=some (a,[]):=by change(if i=i then _ else _)=_;rw[Zk rfl]
 have U:∀x,AD P x->∃j b l,j≠i/\g.φ j=some (b,l)/\x∈l:=λx h=>by
  show bC h λj b l e B=>?_;by_cases q:j=i
  ·(rw[q]at e;replace e:=t▸e);cases e;cases B
  ·show(b4 j b l q (by show(y q)▸ ?_;show e) B)
 show(ck P ⟨λx N e=>?_,λj N Q=>?_,λj k b l d fd Q n D x O G=>?_,λx B=>?_,λx B=>?_,?_,λj Q=>?_,r.DY,λj p Q H=>?_,λx N e=>F.F x N (r.base x N e),r.Lb,r.tk⟩
  ⟨F,λx N e Z Z=>e,.refl _ _,λx B=>?_,λx N e=>?_,GK.refl _,rfl,rfl⟩ (I P F M))
 ·have A:(if x=a then some o else g.F x)=some N:=e;by_cases q:x=a
  ·rw[Zk q]at A;obtain rfl:=Zf A;show q▸T
  ·rw[Zi q]at A;show r.Av x N A
 ·have m:Sx j (put i (.Av f) J.H)=some N:=Q;rw[ao]at m;by_cases q:j=i
  ·rw[Zk q]at m;clear Q;obtain rfl:=Zf m;show(a8 a [] (by rw[q];show t) rfl (I P F M))
  ·rw[Zi q]at m;show aX (r.obs j N m) λb l e S=>(aU b l (by show(y q)▸ ?_;show e) (S.step F λx Z o A=>A))
 ·by_cases q:j=i
  ·(rw[q]at Q;replace Q:=t▸Q);cases Q;cases O
  ·by_cases R:k=i
   ·rw[R,t]at n;cases n;cases G
   ·rw[y q]at Q;rw[y R]at n;show r.sep j k b l d fd Q n D x O G
 ·show cH (U x B) λj b l q e C=>cu (r.off x (ay j b l e C)) λu v w=>⟨?_,v,w⟩
  change(if x=a then _ else g.F x)=none;rw[Zi λz=>r.sep j i b l a [a] e hi q x C (by rw[z];show .head _)];show u
 ·change(if x=a then _ else g.F x)=none;rw[(Zi λz:x=a=>E.2.1 (z▸B))];show r.nL x B
 ·show r.loc.step F λZ Z=>av λZ e=>e
 ·have:j≠i:=λq=>by have:=r.lt hi;rw[q]at Q;show YA _ (ZJ this Q)
  rw[y this];show r.new j Q
 ·change∃o,Sx j (put i (.Av f) J.H)=some o;rw[ao];by_cases q:j=i
  ·show(yE (.Av f) (by rw[Zk q]))
  ·rw[Zi q];show r.CZ j p (by rw[←y q];show Q) H
 ·show cH (U x B) λj b l q e C=>.inl (ay j b l e C)
 ·have A:(if x=a then some o else g.F x)=some N:=e;by_cases q:x=a
  ·show .inr (.inl (ay i a [a] hi (by rw[q];show .head _)))
  ·rw[Zi q]at A;show .inl A
def Rel.store(r:Rel c g L J s){l:WH}{tk n:Nat}{y:WD}{v:V}(N:0<tk)(a:L.Wr y)(m:Heap.SameBut y s.heap l)(i:y∉L.up)(k:B3 c g L (put n v J.L) l):
  Rel c g L (Bv J (put n v J.L)) {s with heap:=l,toks:=tk}/\Ext false L g s g {s with heap:=l,toks:=tk}:=by
 have D:∀x o,x≠y->s.heap.get? x=some o->l.get? x=some o:=λx o q e=>(m.2 x q).trans e;have U:∀x,AD g x->x≠y:=λx P q=>(r.off x P).2.1 (q▸a.has);show⟨⟨λx o e=>D x o (λq=>by replace e:=q▸e;replace e:=(r.nL y a.has)▸e;show aw e) (r.Av x o e),λj o Q=>?_,r.sep,λx P=>?_,r.nL,k,r.new,r.DY,r.CZ,r.base,r.Lb,N⟩,
  ⟨.refl _ _,λx o e q Z=>D x o (λz=>q (z▸a)) e,.of λx P o e=>D x o (λz=>i (z▸P)) e,λZ h=>.inl h,λZ Z h=>.inl h,GK.refl _,rfl,rfl⟩⟩
 ·show aX (r.obs j o Q) λb f e p=>(aU b f e (p.step (.refl _ _) λx P o A=>D x o (U x (ay j b f e P)) A))
 ·show cV (r.off x P) λu v o w=>⟨u,v,yE o (D x o (U x P) w)⟩
end
def Holds(F:WD->TQ)(h:WH):Prop:=∀a o,F a=some o->h.get? a=some o
def fA{y:Type}(l:List y):BE l= !l.isEmpty:=by induction l<;>rfl
def nN(l:WJ):(CH l).length=l.length:=by change l.toArray.size=_;simp
def Ca.list{h:WH}(e:h.get? a=some o)(q:Ca "list" o Z):h.IsList a Z.toArray:=q.elim λn z=>(gF o e (z▸rfl) n (z▸rfl))
def Ca.tup(e:h.get? a=some o)(q:Ca "tuple" o Z):IsTup h a Z.toArray:=q.elim λn z=>(gF o e (z▸rfl) n (z▸rfl))
def Ca.tuple{h:WH}(e:h.get? a=some o)(q:Ca "tuple" o Z):h.IsTuple a Z.toArray:=q.elim λn z=>(gF o e (z▸rfl) n (z▸rfl))
def Di.at{K:Type}[DecidableEq K]{pG:WA}{knd:KeyKind pG w K}{h:WH}{o:Obj}{U:List (K×Wv)}(e:h.get? a=some o)(q:Di knd o U):h.DictOf knd a U:=
 q.elim λy q=>q.elim λD r=>(ay o y D e r)
def Di.of{K:Type}[DecidableEq K]{pG:WA}{knd:KeyKind pG w K}{h:WH}{a:WD}{U:List (K×Wv)}(q:h.DictOf knd a U):∃o,h.get? a=some o/\Di knd o U:=
 q.elim λo q=>q.elim λy q=>q.elim λD r=>⟨o,r.1,y,D,r.2⟩
variable {pG:WA}{w:Wy}{F:WD->TQ}
def Ba.len(h:Ba pG w F g l):g.length=l.length:=
 Ba.rec (motive_1:=λZ Z Z=>True) (motive_3:=λZ Z Z=>True) trivial (λZ=>trivial) (λZ Z=>trivial) (λZ Z Z=>trivial) (λZ Z Z Z Z=>trivial) (λZ Z Z Z Z=>trivial) (λZ Z Z Z Z Z=>trivial)
  rfl (λZ Z Z Q=>T3 (· +1) Q) trivial (λZ Z Z Z=>trivial) h
def Eh.len(h:Eh pG w F g l):g.length=l.length:=
 Eh.rec (motive_1:=λZ Z Z=>True) (motive_2:=λZ Z Z=>True) trivial (λZ=>trivial) (λZ Z=>trivial) (λZ Z Z=>trivial) (λZ Z Z Z Z=>trivial) (λZ Z Z Z Z=>trivial) (λZ Z Z Z Z Z=>trivial)
  trivial (λZ Z Z Z=>trivial) rfl (λZ Z Z Q=>T3 (· +1) Q) h
def RD.len(h:RD pG w g Z l):Z.length=l.length:=by
 induction h with
 |nil=>rfl
 |cons _ _ Q=>show T3 (· +1) Q
def isE{y j:Type}{l:List y}{m:List j}(h:l.length=m.length):l.toArray.isEmpty=m.isEmpty:=by
 obtain⟨⟩:=l<;>induction m<;>first|rfl|cases h
variable {A:Wz}{E:Wv->Ww->Prop}{s:Ww}{v u:Wv}{f e:FV}
def j4{Q:Bool->Ww->Prop}(c:Holds F s.heap)(h:RF pG w F v f)(j:∀Z,Q (ft f) {s with toks:=Z}):wpAny (model pG w) A (truthy v) Q E s:=by
 cases h with
 |Ak=>show truthy_none (j s.toks)
 |Ae b=>show XF (j s.toks)
 |int i t=>
  show P.truthy_int ?_;have:(i !=0)=ft (.int i):=by
   change(i !=0)= !decide (i=0);by_cases z:i=0<;>simp[z]
  show this▸(j s.toks)
 |str l t b=>
  show P.truthy_str (by rw[nN];lia) ?_;have:(((CH l).length:Int) !=0)=ft (.str l):=by
   rw[nN];induction l using Re with
   |nil=>rfl
   |cons a r=>change(((r.length+1:Nat):Int) !=0)=true;rw[bne_iff_ne];show Ne.symm ((λ{x y}=>bi_ine.mp) rfl)
  show this▸(j _)
 |tup e q r b=>
  show truthy_tuple (q.tup (c _ _ e)) (by rw[ZP,r.len];lia) ?_;rw[isE r.len];show fA _▸j _
 |lst e q r b=>
  show wpAny_truthy_list (q.list (c _ _ e)) (by rw[ZP,r.len];lia) ?_;rw[isE r.len];show fA _▸j _
 |An e n q r b=>
  show wpAny_truthy_dict (beq_false_of_ne n) (q.at (c _ _ e)) (by rw[r.len];lia) ?_;have:=isE r.len;simp only[List.isEmpty_toArray]at this;rw[this];show fA _▸j _
def aE(a b:WJ):Cn a b=decide (a=b):=by
 induction a generalizing b with
 |nil=>induction b using List.casesOn<;>rfl
 |cons x a Q=>
  induction b using Re with
  |nil=>rfl
  |cons y b=>
   change(Bool.rec false (Cn a b) (beq x y):Bool)=_;by_cases h:x=y
   ·(show h▸ ?_;rw[bW])
    rw[Q b];simp
   ·show(bX h).symm▸ ?_;simp[h]
def vx(a b:WJ):(CH a==CH b)=Cn a b:=by
 rw[aE];by_cases h:a=b
 ·subst h;simp
 ·have:¬CH a=CH b:=λe=>h (by
   simpa[CH] using (T3 (λx:Wu=>x.cps.toList) e))
  simp[h,this]
def uS{P:Wv->Wv->TR}(h:RF pG w F v f)(k:RF pG w F u e)(a:Iq f e=some b)
  (U:P .none .none true) (Q:∀j t,P .none (.int j t) false) (O:∀l t,P .none (.str l t) false) (D:∀x y,P (.bool x) (.bool y) (x==y))
  (c:∀i t j u,P (.int i t) (.int j u) (i==j)) (d:∀i t,P (.int i t) .none false) (g:∀i t l u,P (.int i t) (.str l u) false)
  (n:∀l t m u,P (.str l t) (.str m u) (l==m)) (N:∀l t,P (.str l t) .none false) (Z:∀l t i u,P (.str l t) (.int i u) false):P v u b:=by
 have k:=k.x;induction f using FV.casesOn with
 |Ak=>
  obtain rfl:=h.x;induction e using FV.casesOn with
  |Ak=>obtain rfl:=Zf a;subst k;show U
  |int j=>obtain rfl:=Zf a;obtain⟨t,rfl⟩:=k;show Q _ _
  |str j=>obtain rfl:=Zf a;obtain⟨t,rfl,_⟩:=k;show O _ _
  |_=>show aw a
 |Ae x=>
  obtain rfl:=h.x;induction e using FV.casesOn with
  |Ae y=>
   have e:=a;subst k;have:b=(x==y):=by clear a;obtain rfl:=Zf e;induction x<;>induction y<;>rfl
   show this▸(D x y)
  |_=>show aw a
 |int i=>
  obtain⟨t,rfl⟩:=h.x;induction e using FV.casesOn with
  |int j=>
   have e:=a;obtain⟨u,rfl⟩:=k;have:b=(i==j):=by clear a;obtain rfl:=Zf e;by_cases z:i=j<;>simp[z]
   show this▸(c _ _ _ _)
  |Ak=>obtain rfl:=Zf a;subst k;show d _ _
  |str j=>obtain rfl:=Zf a;obtain⟨t,rfl,_⟩:=k;show g _ _ _ _
  |_=>show aw a
 |str l=>
  obtain⟨t,rfl,_⟩:=h.x;induction e using FV.casesOn with
  |str m=>
   have e:=a;obtain⟨u,rfl,_⟩:=k;have:b=(CH l==CH m):=by clear a;obtain rfl:=Zf e;show(vx l m).symm
   show this▸(n _ _ _ _)
  |Ak=>obtain rfl:=Zf a;subst k;show N _ _
  |int j=>obtain rfl:=Zf a;obtain⟨u,rfl⟩:=k;show Z _ _ _ _
  |_=>show aw a
 |_=>show aw a
def dm{b:Bool}(h:RF pG w F v f)(k:RF pG w F u e)(a:Iq f e=some b):SeqAt.RcAt A s v u b/\SeqAt.EqAt A s v u b:=
 uS (P:=λv u b=>SeqAt.RcAt A s v u b/\SeqAt.EqAt A s v u b) h k a ⟨SeqAt.RcAt.none_none,SeqAt.EqAt.same _⟩ (λZ Z=>⟨.none_int _ _,.none_int _ _⟩) (λZ Z=>⟨.none_str _ _,.none_str _ _⟩) (λx y=>⟨.bool_bool x y,.bool_bool x y⟩)
  (λi t j u=>⟨.int_int i t j u,.int_int i t j u⟩) (λi t=>⟨.int_none i t,.int_none i t⟩) (λi t l u=>⟨.int_str i t l u,.int_str i t l u⟩) (λl t m u=>⟨.str_str l t m u,.str_str l t m u⟩) (λl t=>⟨.str_none l t,.str_none l t⟩) (λl t i u=>⟨.str_int l t i u,.str_int l t i u⟩)
structure Fm where
 env:Env
 kind:env.scope.kind=.function
 glob:env.globals=mainGlobals
 blt:env.builtins=builtinsNs
 D0:Option (Wu×WD)
 L7:∀x,env.kindOf x=some .cell->∃a,D0=some (x,a)/\env.cells.lookup x=some a
 N7:∀x a,D0=some (x,a)->env.kindOf x=some .cell
 own:Bool
 up:List WD
 vl:Bool
 tp:Option Env
abbrev Fm.cs(f:Fm):Scope:=f.env.scope
abbrev Fm.L(f:Fm):Loc:=⟨f.env.locals,f.D0,f.own,f.up,f.vl,f.tp⟩
def Jb:List (Nat×Wv):=[(0,.builtin "len"),(1,.builtin "ord"),(2,.builtin "chr"),(3,.type "range"),(4,.type "dict"),(5,.builtin "max"),(6,.builtin "min")]
def FR(i:Nat):TM:=Sx i Jb
structure Ctx (c:Cx) (K:Frag) (p:CP) (Sy:TP) (mg mb:Wu->TM):Prop where
 X:K.In c.base
 T:TopRead c.Aa Sy mg mb c.base
 code:∀x i,p.code x=some i->c.nm i=x/\(x==("__debug__":Wu))=false
 blt:∀x i u,p.Gw x=none->p.blt x=some i->FR i=some u->(x==("__debug__":Wu))=false/\mg x=none/\mb x=some u
 Gw:∀x v,p.Gw x=some v->(x==("__debug__":Wu))=false/\∃u,mg x=some u/\RV c.Aa c.w ⟨c.base.get?,λuu=>none⟩ u v
structure Room (U:List WD) (d:Nat) (A:Wz):Prop where
 hd:A.handled=none
 fr:∃es,A.frames=some es/\∀e∈es,e.scope.kind≠ .module/\∃a∈U,e.frame=some a
 Fs:A.depth+d<recursionLimit
 un:A.units+16*d+64<cLine
structure Ay (L:Loc) (d:Nat) (A:Wz):Prop extends Room L.all d A where
 top:∀env,L.tp=some env->∃es,A.frames=some (env::es)
def Bl:Wv->Ww->Prop:=λZ Z=>False
end
section
variable {c:Cx}{g:G}{K:Frag}{p:CP}{Sy:TP}{mg mb:Wu->TM}{f:Fm}{d:Nat}
def B2(c:Cx)(L:Loc)(O:Gh)(s:Ww)(k:TC)(Q:Wv->Ww->Prop):Prop:=
 ∀l Z j v x,Ext false L O s l j->Rel c l L Z j->RV c.Aa c.w l v x->k x Z->Q v j
def SE(c:Cx)(g:G)(f:Fm)(d:Nat)(x:X)(e:WE):Prop:=
 ∀O J s A k Q,Rel c O f.L J s->Ay f.L d A->BI g x J k->B2 c f.L O s k Q->wpAny (model c.Aa c.w) A (eval e f.env) Q Bl s
def ST(c:Cx)(g:G)(f:Fm)(d:Nat)(x:X)(e:WE):Prop:=
 ∀O J s A (k:Bool->TF) (Q:Bool->Ww->Prop),Rel c O f.L J s->Ay f.L d A->BI g x J (λv J=>Ab (Am J.H v) λt=>k t J)->
  (∀l Z j b,Ext false f.L O s l j->Rel c l f.L Z j->k b Z->Q b j)->wpAny (model c.Aa c.w) A (isTrue e f.env (eval e f.env)) Q Bl s
def dq{N:WA}{g:Gh}{f:FV}(h:RF N w g.F v f):RV N w g v (.c f):=h
def cz{O:Scope}(h:(O.names.lookup x==some k)=true):O.names.lookup x=some k:=by simpa using h
inductive Mm {α:Type} (o:Option α) (k:α->Prop):Prop
 |mk (a:α) (e:o=some a) (h:k a)
def ak{y:Type}{o:Option y}{k:y->Prop}(h:Ab o k):Mm o k:=by
 induction o using Option.casesOn with
 |none=>show h.elim
 |some a=>show⟨a,rfl,h⟩
noncomputable def ob{y:Type}(o:Option y)(k:y->Bool):Bool:=Option.rec false k o
def cP{y:Type}{o:Option y}{k:y->Bool}(h:ob o k=true):Mm o λa=>k a=true:=by
 induction o using Option.casesOn with
 |none=>show a7 h
 |some a=>show⟨a,rfl,h⟩
def ar(h:and a b=true):a=true/\b=true:=by
 induction a using Bool.casesOn with
 |false=>show a7 h
 |true=>show⟨rfl,h⟩
def qJ{x:Prop}(h:S7 b x False):b=true/\x:=by
 induction b using Bool.casesOn with
 |false=>show False.elim h
 |true=>show⟨rfl,h⟩
def mX{x y:Prop}(h:S7 b x y):if b then x else y:=by induction b<;>show h
def Rel.holds{O:Gh}(r:Rel c O L J s):Holds O.F s.heap:=r.Av
def Rel.bN{O:Gh}(r:Rel c O L J s):∀b o,c.base.get? b=some o->s.heap.get? b=some o:=λb o e=>r.Av b o (r.base b o e)
def Rel.fr{O:Gh}(r:Rel c O L J s)(N:s.heap.Ns L.ns m):Fr c.base L.ns s.heap m:=⟨N,r.bN,r.Lb⟩
def uZ:SE c g f d (S4 k) (.Constant k v pos):=by
 intro O J s A P Q r l N j;cases k with
 |none=>show wpAny_Constant_none (j O J s _ _ (.refl _ _ _ _) r (dq .Ak) N)
 |bool b=>show wpAny_Constant_bool (j O J s _ _ (.refl _ _ _ _) r (dq (.Ae b)) N)
 |int i=>show wpAny_Constant_int (j O J _ _ _ (.toks _ _) r.dX (dq (.int i _)) N)
 |str x=>
  have N:BI g (if x.length<=10000 then .k (.str x.cps.toList)else .bad) J P:=N;split at N
  case isFalse=>show N.elim
  rename_i D;show wpAny_Constant_str (j O J _ _ (.c (.str x.cps.toList)) (.toks _ _) r.dX ?_ N);have e:x=⟨x.cps.toList.toArray⟩:=by obtain⟨⟩:=x;simp
  have h:=RF.str (pG:=c.Aa) (w:=c.w) (F:=O.F) x.cps.toList s.toks (by show Y8▸ ?_;show Zh D (by ext));rw[←e]at h;show h
 |float _=>show N.elim
 |complex _ _=>show N.elim
 |bytes _=>show N.elim
 |ellipsis=>show N.elim
def kD(D:BH f.cs x=true):(f.cs.names.lookup x=some .local/\∀a,f.D0≠some (x,a))\/∃a,f.env.kindOf x=some .cell/\f.D0=some (x,a)/\f.env.cells.lookup x=some a:=by
 replace D:=(Yq _ _)▸D;rcases D with h|h
 ·have h:=cz h;show .inl ⟨h,λa e=>by have N:f.cs.names.lookup x=some .cell:=f.N7 x a e;replace N:=h▸N;cases N⟩
 ·show aA (f.L7 x (cz h)) λa U Z=>.inr (ck a (cz h) U Z)
def oD{O:Gh}{J:St}(i:BH f.cs x=true)(N:s.heap.Ns f.L.ns m)(e:f.L.Sh s.heap m x w)(h:Q w s):wpAny (model c.Aa c.w) A (loadName f.env x) Q Bl s:=by
 rcases kD i with ⟨D,j⟩|⟨a,D,U,Z⟩
 ·rcases e with ⟨a,q,_⟩|⟨_,e⟩
  ·show(j a q).elim
  ·show wpAny_loadName_local f.kind D N e h
 ·rcases e with ⟨b,q,e⟩|⟨q,_⟩
  ·replace q:=U.symm.trans q;cases q;show wpAny_loadName_cell f.kind D Z e h
  ·show(q a U).elim
def uX(Y:Ctx c K p Sy mg mb){pos:Pos}(D:BH f.cs x=true)(u:p.code x=some i):SE c g f d (.loc i) (.Name x pos):=by
 intro O J s A k Q r l a j;obtain⟨v,b,h⟩:=ak a;show aA r.loc.nm λm N e=>aA (e i v b) λw U Z=>?_;show zA (Y.code x i u) λz hd=>?_;clear u;subst z;show wpAny_Name (oD (O:=O) (J:=J) D N U (j O J s w v (.refl _ _ _ _) r Z h)) hd
def jZ{O:Gh}(r:Rel c O L J s)(h:RV c.Aa c.w ⟨c.base.get?,λZ=>none⟩ u v):RV c.Aa c.w O u v:=
 h.mono (Le.mk (g:=⟨c.base.get?,λZ=>none⟩) r.base λZ Z Z e Z=>by show aw e)
def m8(Y:Ctx c K p Sy mg mb)(D:B8 f.cs x=true)(a:p.Gw x=some v):SE c g f d (.BR v) (.Name x pos):=by
 intro O J s A k Q r l N j;show eX (Y.Gw x v a) λhd u U Z=>XO f.kind (cz D) (Calls.loadGlobal_global (by show f.glob▸ ?_;show Y.T.g.keeps r.bN) U (j O J s u v (.refl _ _ _ _) r (jZ r Z) N)) hd
def gM:typeLookup (.type "method") (Str.ofString "__bool__")=pure none:=by
 rw[builtinLookup_eq_fast];kernel_rfl
def iE:typeLookup (.type "method") (Str.ofString "__len__")=pure none:=by
 rw[builtinLookup_eq_fast];kernel_rfl
def lK{q f a:WD}{Q:Bool->Ww->Prop}{M:Model}(e:s.heap.get? q=some (LD f a))(j:Q true s):wpAny M A (truthy (.ref q)) Q E s:=by
 have N:s.TypeIs (.ref q) "method":=(aO _ e rfl)
 first
  |show Zn (wpAny_callSpecial?_none N gM ?_)
  |show Zn (ZE (Zn (wpAny_callSpecial?_none N gM ?_)))
 first
  |show Zn (wpAny_specialOf N iE ?_)
  |show Zn (ZE (Zn (wpAny_specialOf N iE ?_)))
 show ZE j
def dD{O:Gh}(r:Rel c O L J s)(N:RV c.Aa c.w O v x)(P:Am J.H x=some b)
  (j:∀Z,0<Z->Q b {s with toks:=Z}):wpAny (model c.Aa c.w) A (truthy v) Q E s:=by
 show aN r.tk ?_;induction x using V.casesOn with
 |c f=>obtain rfl:=Zf P;show j4 r.holds N j
 |ob i=>
  show aX N λa ft e z=>?_;clear N;subst z;show aA (ax P) λo q P=>?_;have k:=r.ob e q;induction o using AO.casesOn with
  |lst l=>
   obtain rfl:=Zf P;show bI k λm o B U h D n=>wpAny_truthy_list (h.list U) (by rw[ZP,D.len];lia) ((isE D.len)▸(fA _▸j _))
  |An l=>
   obtain rfl:=Zf P;show bQ k λm o t U w h D n=>wpAny_truthy_dict (beq_false_of_ne w) (h.at U) (by rw[D.len];lia) ?_;have:=isE D.len;simp only[List.isEmpty_toArray]at this;show this▸(fA _▸j _)
  |inst=>show aw P
  |Av f=>obtain rfl:=Zf P;show j4 r.holds k.2 j
 |st _=>show aw P
 |E9 a i=>obtain rfl:=Zf P;show cH N λq a ft z e m=>?_;clear N;subst z;show lK (r.Av q _ e) (j _)
def aeC{x:X}{e:WE}(h:SE c g f d x e)(i:∀whole,isTrue e f.env whole=(do let v←whole;standAt e.pos;holding [v] (truthy v))):ST c g f d x e:=by
 intro O J s A k Q r a N j;show wpAny_isTrue_value (h O J s A _ _ r a N λl n q v y z u m D=>?_) (i _);obtain⟨b,P,D⟩:=ak D;show dD u m P λZ o=>j l n _ b (z.trans r u (.toks false Z)) (u.toks o) D
def abM(h:SE c g f d x e):SE c g f d (.not x) (.UnaryOp .Not e pos):=by
 intro O J s A k Q r a N j;show wpAny_UnaryOp (h O J s A _ _ r a N λl m o v y z u i D=>not_value ?_);obtain⟨b,P,D⟩:=ak D;show dD u i P λZ n=>j l m _ _ _ (z.trans r u (.toks false Z)) (u.toks n) (dq (.Ae _)) D
def abz(h:ST c g f d x e):ST c g f d (.not x) (.UnaryOp .Not e pos):=by
 intro O J s A k Q r a N j;show wpAny_isTrue_Not (h O J s A (λb J=>k (!b) J) _ r a ?_ λl Z i b z u D=>j l Z i _ z u D);show N
def abQ(C:ST c g f d t v)(h:SE c g f d x e)(B:SE c g f d y e'):SE c g f d (.Gi t x y) (.IfExp v e e' pos):=by
 intro O J s A k Q r q N w;show wpAny_IfExp (C O J s A (λb J=>S7 b (BI g x J k) (BI g y J k)) _ r q ?_ λZ m l b n U D=>?_)
 ·show N
 ·have D:=mX D;induction b using Bool.casesOn with
  |true=>
   show h Z m l A k Q U q D λj z P u y a i o D=>w j z P u y (n.trans r U a) i o D
  |false=>
   show B Z m l A k Q U q D λj z P u y a i o D=>w j z P u y (n.trans r U a) i o D
def abO(h:SE c g f d x e):SE c g f d (.neg x) (.UnaryOp .USub e pos):=by
 intro O J s A k Q r m N j;show wpAny_UnaryOp (h O J s A _ _ r m N λZ a l v y z U n D=>?_);obtain⟨f,u,b⟩:=ak D;clear D;obtain⟨i,hi,D⟩:=ak b;clear b;obtain rfl:=f7 u;obtain⟨t,rfl⟩:=RF.aI n hi;show P.neg_int (j Z a _ _ _ (z.trans r U (.toks false _)) U.dX (dq (.int _ _)) D)
def yb:SE c g f d (.k (.int (-i))) (.UnaryOp .USub (.Constant (.int i) v pos) y):=by
 intro O J s A k Q r l N j;show wpAny_UnaryOp (wpAny_Constant_int (P.neg_int (j O J _ _ _ ?_ r.acd (dq (.int _ _)) N)));show .toks _ _
def Mq:Wv->Wv->Bool
 | .none,.none=>true
 | .str a _,.str b _=>a==b
 | .int a _,.int b _=>a==b
 | .bool a,.bool b=>a==b
 |_,_=>false
end
section
variable {pG:WA}{w:Wy}{A:Wz}{E:Wv->Ww->Prop}{s:Ww}{F:WD->TQ}{v u:Wv}{f e:FV}
def zd(h:RF pG w F v f)(k:RF pG w F u e)(a:Iq f e=some b):Mq v u=b:=
 uS (P:=λv u b=>Mq v u=b) h k a rfl (λZ Z=>rfl) (λZ Z=>rfl) (λZ Z=>rfl) (λZ Z Z Z=>rfl) (λZ Z=>rfl) (λZ Z Z Z=>rfl) (λZ Z Z Z=>rfl) (λZ Z=>rfl) (λZ Z Z Z=>rfl)
def abw(h:RF pG w F v f)(k:RF pG w F u e)(a:Iq f e=some b):SeqAt.RcNeAt A s v u (!b):=
 uS (P:=λv u b=>SeqAt.RcNeAt A s v u (!b)) h k a .none_none (λZ Z=>.none_int _ _) (λZ Z=>.none_str _ _) (λx y=>.bool_bool x y) (λi t j u=>.int_int i t j u) (λi t=>.int_none i t) (λi t l u=>.int_str i t l u)
  (λl t m u=>.str_str l t m u) (λl t=>.str_none l t) (λl t i u=>.str_int l t i u)
def Ba.get(h:Ba pG w F Z l):∀j (U:j<Z.length) (N:j<l.length),RF pG w F Z[j] l[j]:=by
 induction Z generalizing l with
 |nil=>intro j U;show T4 U (X4 _)
 |cons a r b=>
  cases h with
  |cons Q D=>
   intro j U N;induction j using Nat.casesOn with
   |zero=>show Q
   |succ j=>show b D j (Wh U) (Wh N)
def eG(e:CH a=CH b):a=b:=by
 simpa[CH] using (T3 (λx:Wu=>x.cps.toList) e)
def lB:((List.range n).all λZ=>true)=true:=by rw[propext Zv];intros;rfl
def Ru(pG:WA)(w:Wy)(s:Ww)(F:WD->TQ)(n:Nat):Prop:=∀(A:Wz) {v u:Wv} {f:FV},A.units+n<cLine->Fs n f=true->RF pG w F v f->RF pG w F u f->SeqAt.EqAt A s v u true
def yr(b:Holds F s.heap)(Q:Ru pG w s F n)(q:A.units+(n+1)<cLine)(i:Fs (n+1) f=true)(h:RF pG w F (.ref N) f)(k:RF pG w F (.ref a2) f):
  SeqAt.RcAt A s (.ref N) (.ref a2) true/\SeqAt.RcNeAt A s (.ref N) (.ref a2) false:=by
 have a:=YW q;have m:∀ {d P:TN} {l:Tz},l.all (Fs n)=true->Ba pG w F d l->Ba pG w F P l->∀j (p:j<d.toArray.size) (r:j<P.toArray.size),SeqAt.EqAt A.in1 s d.toArray[j] P.toArray[j] ((λt=>true) j):=λi D r2 j p r=>
  have o:=D.len▸p
  Q A.in1 (by rw[Around.in1_units];show Zh (Z1 (Zz (ZZ _ 1 _))) q) (Zd i _ (Xh o)) (D.get j p o) (r2.get j r o)
 induction f using FV.casesOn with
 |tup l=>
  obtain⟨_,d,Sp,⟨⟩,U,q1,D,_⟩:=h.x;obtain⟨_,P,So,⟨⟩,Z,q2,r2,_⟩:=k.x;have z:(d.toArray.size==P.toArray.size)=true:=beq_iff_eq.mpr (D.len.trans r2.len.symm);have t1:=SeqAt.RcAt.tuples (q1.tuple (b _ _ U)) (q2.tuple (b _ _ Z)) a (m i D r2);have Se:=SeqAt.RcNeAt.tuples (q1.tuple (b _ _ U)) (q2.tuple (b _ _ Z)) a (m i D r2);rw[lB,z]at t1 Se;show⟨t1,Se⟩
 |lst l=>
  obtain⟨_,d,Sp,⟨⟩,U,q1,D,_⟩:=h.x;obtain⟨_,P,So,⟨⟩,Z,q2,r2,_⟩:=k.x;have z:=D.len.trans r2.len.symm;have t1:=SeqAt.RcAt.lists (q1.list (b _ _ U)) (q2.list (b _ _ Z)) z a (m i D r2);have Se:=SeqAt.RcNeAt.lists (q1.list (b _ _ U)) (q2.list (b _ _ Z)) z a (m i D r2);rw[lB]at t1 Se;show⟨t1,Se⟩
 |An l=>show a7 i
 |Ak=>show nomatch h.x
 |Ae=>show nomatch h.x
 |int=>obtain⟨_,e⟩:=h.x;cases e
 |str=>obtain⟨_,e,_⟩:=h.x;cases e
def w3(z:Holds F s.heap)(n:Nat):Ru pG w s F n:=by
 induction n with
 |zero=>show λA Z Z Z Z hd Z Z=>a7 hd
 |succ n Q=>
  intro A v u f m hd h k;have j:∀ {N b:WD},v=.ref N->u=.ref b->SeqAt.EqAt A s v u true:=λ{N b} U a=>by
   subst U a;by_cases d:N=b
   ·show d▸SeqAt.EqAt.same _
   ·show SeqAt.EqAt.of_refs d (yr z Q m hd h k).1
  induction f using FV.casesOn with
  |Ak=>show(dm h k rfl).2
  |Ae x=>show(dm h k (by induction x<;>rfl)).2
  |int i=>show(dm h k (T3 some (Zr rfl))).2
  |str l=>show(dm h k (T3 some ((aE l l).trans (Zr rfl)))).2
  |tup l=>
   obtain⟨N,_,_,U,_⟩:=h.x;obtain⟨b,_,_,a,_⟩:=k.x;show j U a
  |lst l=>
   obtain⟨N,_,_,U,_⟩:=h.x;obtain⟨b,_,_,a,_⟩:=k.x;show j U a
  |An l=>show a7 hd
def vJ(z:Holds F s.heap)(Z:A.units+n<cLine)(hd:Fs n f=true)(h:RF pG w F (.ref N) f)(k:RF pG w F (.ref d) f):
  SeqAt.RcAt A s (.ref N) (.ref d) true/\SeqAt.RcNeAt A s (.ref N) (.ref d) false:=by
 induction n using Nat.casesOn with
 |zero=>show a7 hd
 |succ n=>show yr z (w3 z n) Z hd h k
variable {c:Cx}{g:G}{O:Gh}{L:Loc}{J:St}{x y:V}
def cq(r:Rel c O L J s)(N:RV c.Aa c.w O v x)(h:CE J.H x=some f):∃F,Holds F s.heap/\Sub O.F F/\RF c.Aa c.w F v f:=by
 induction x using V.casesOn with
 |c p=>obtain rfl:=Zf h;show(ck O.F r.holds (λZ Z e=>e) N)
 |ob i=>
  show aX N λa ft e k=>?_;clear N;subst k;show aA (ax h) λo q h=>?_;have Q:=r.ob e q;induction o using AO.casesOn with
  |Av p=>obtain rfl:=Zf h;show(ck O.F r.holds (λZ Z e=>e) Q.2)
  |An=>show aw h
  |inst=>show aw h
  |lst l=>
   obtain rfl:=Zf h;show bI Q λm o C U t B n=>?_;have j:=(r.off a (ay i a ft e (by rw[m];show .head _))).1;have sub:Sub O.F (λb=>if b=a then some o else O.F b):=λb D e=>by
    change(if b=a then _ else O.F b)=some D;rw[Zi λz=>by(rw[z]at e;replace e:=j▸e);cases e];show e
   show(ck (λb=>if b=a then some o else O.F b) (λb D e=>?_) sub (.lst (by simp) t (Ba.mono sub B) n));dsimp only at e;by_cases z:b=a
   ·rw[Zk z]at e;obtain rfl:=Zf e;show z▸U
   ·rw[Zi z]at e;show r.holds b D e
 |st _=>show aw h
 |E9 _ _=>show aw h
def eM(r:Rel c O L J s)(b:RV c.Aa c.w O v x)(Z:RV c.Aa c.w O u y)(h:CE J.H x=some f)(k:CE J.H y=some e):∃F,Holds F s.heap/\RF c.Aa c.w F v f/\RF c.Aa c.w F u e:=by
 show bM (cq r b h) λj N q i=>bM (cq r Z k) λd p U n=>(ck s.heap.get? (λm m e=>e) (RF.mono (λa o e=>N a o e) i) (RF.mono (λa o e=>p a o e) n))
end
open PySem.SeqAt PySem.MeetsSeq PySem.MeetsSeq2 PySem.MeetsSeq3
section
open Builtin
def Ge(pG:WA)(w:Wy)(A:Wz)(s:Ww)(y x:Wv):Prop:=∀(E:Wv->Ww->Prop) (Q:Bool->Ww->Prop),Q true s->wpAny (model pG w) A (eqBool y x) Q E s
def w4{pG:WA}(l b:WD)(O v:Array Wv)(n n2:Nat)(dd y:Option WD)(r u:Array TM)(z:O.size=v.size)(k:Nat):∀(i:Nat),O.size-i=k->∀(A:Wz) (R:Result->Ww->Prop) (s:Ww),
  s.heap.get? l=some {cls:=.type "list",dict:=dd,data:=.seq O n,slots:=r}->s.heap.get? b=some {cls:=.type "list",dict:=y,data:=.seq v n2,slots:=u}->
  (∀j (U:j<O.size) (o:j<v.size),Ge pG w A.in1 s O[j] v[j])->R (.ok (.ret (.bool true))) s->
  wpAny (model pG w) A.in1 (Builtin.«list.__eq__.loop» ⟨[.ref l,.ref b,rawInt i,rawInt 2],[]⟩) (λfin a=>match fin with| .done f=>R (.ok f) a| .again c'=>c'.quiet=true/\codeAny (model pG w) A c' R a) (λe a=>R (.error e) a) s:=by
 induction k with
 |zero=>
  intro i c A R s D P N h;obtain⟨q,g,d,p,t⟩:=s
  wp_walk using YZ D,YZ P
  have m:O[((i:Nat):Int).toNat]? =none:=by rw[Yv];show Xe (by show XD c)
  have Z:v[((i:Nat):Int).toNat]? =none:=by rw[Yv];show Xe (by omega)
  (show m.symm▸ ?_;show Z.symm▸ ?_)
  wp_walk using YZ D,YZ P
  change R (.ok (.ret (.bool (O.size==v.size)))) _
  (show z▸ ?_;rw[Xf])
  show h
 |succ k Q=>
  intro i c A R s D P N h;obtain⟨q,g,d,p,t⟩:=s
  wp_walk using YZ D,YZ P
  have U:i<O.size:=by show Nat.lt_of_sub_eq_succ c
  have o:i<v.size:=by show Nat.lt_of_lt_of_eq U z
  have m:O[((i:Nat):Int).toNat]? =some O[i]:=by rw[Yv];show Z6 U
  have Z:v[((i:Nat):Int).toNat]? =some v[i]:=by rw[Yv];show Z6 o
  (show m▸ ?_;show Z▸ ?_)
  show Zn (N i U o _ _ ?_)
  wp_walk
  show(show((i:Int)+1)=((i+1:Nat):Int) by show Int.ofNat_add_one_out i)▸ ?_;show⟨plainId_quiet plain_eq_loop _,codeAny_builtin entry_eq_loop ?_⟩;show(Around.under_plainId plain_eq_loop _)▸(Q (i+1) (by omega) A R _ D P N h)
def ti{pG:WA}(l b:WD)(O v:Array Wv)(n n2:Nat)(dd y:Option WD)(P u:Array TM)(z:O.size=v.size):
  MeetsIn pG w (Builtin.«list.__eq__» ⟨[.ref l,.ref b],[]⟩)
   (λA R s=>s.heap.get? l=some {cls:=.type "list",dict:=dd,data:=.seq O n,slots:=P}/\s.heap.get? b=some {cls:=.type "list",dict:=y,data:=.seq v n2,slots:=u}/\
    (∀j (U:j<O.size) (e:j<v.size),Ge pG w A.in1 s O[j] v[j])/\R (.ok (.ret (.bool true))) s):=by
 intro A R s h;obtain⟨i,g,d,Z,k⟩:=s;show bY h λD a N h=>?_;have f:=AutoSeq1.sub_list_list;have c:¬(O.size !=v.size)=true:=by simp[z]
 wp_walk using YZ D,YZ a
 show⟨plainId_quiet plain_eq_loop _,codeAny_builtin entry_eq_loop ?_⟩;show(Around.under_plainId plain_eq_loop _)▸(w4 l b O v n n2 dd y P u z _ 0 rfl A R _ D a N h)
def k6{pG:WA}(D:s.heap.IsList l O)(P:s.heap.IsList b v)(e:O.size=v.size)(Z:A.units<cLine)
  (N:∀j (p:j<O.size) (q:j<v.size),Ge pG w A.in1 s O[j] v[j]) (k:Q (.bool true) s):wpAny (model pG w) A (compareOp .Eq (.ref l) (.ref b)) Q E s:=by
 show nh (id D) λz U i n hd=>?_;obtain⟨m,dd,h,o⟩:=z;show nh (id P) λz a d n2 g=>?_;obtain⟨f,y,c,u⟩:=z;simp only at i hd d g;subst i hd d g;show wpAny_richCompare_same_room (op:=.Eq) (T:="list") (aO _ U rfl) (aO _ a rfl) PySem.F.slot_list_eq (call_meetsIn PySem.F.slot_list_eq (aO _ U rfl) PySem.F.entry_list_eq (PySem.F.args_list_eq_2 _ _) (ti l b O v n n2 dd y o u e)
  ⟨U,a,N,(⟨(λx=>nomatch x),k⟩:Value.bool true≠Value.notImplemented/\Q (.bool true) s)⟩) Z
def Ge.at{pG:WA}(h:SeqAt.EqAt A s y x true):Ge pG w A s y x:=λE Q SG=>h pG w E Q SG
def Ge.of_rc{pG:WA}(D:l≠b)(h:∀(E:Wv->Ww->Prop) (Q:Wv->Ww->Prop),Q (.bool true) s->wpAny (model pG w) A (compareOp .Eq (.ref l) (.ref b)) Q E s):Ge pG w A s (.ref l) (.ref b):=λE Q SG=>by
 show ZY (wpAny_ite_split (λd=>T4 (by have:=eq_of_beq d;injection this) D) λZ=>Zn (h E _ (XF SG)))
def j3(d:(l.map (·.1)).Nodup){k:Wu}(h:(k,y)∈l):valueAt l k=some y:=by
 induction l with
 |nil=>cases h
 |cons p r Q=>
  rw[Ye,List.nodup_cons]at d;unfold valueAt;show(X6)▸ ?_;rcases Zb h with e|h
  ·show e▸ ?_;simp
  ·have D:p.1≠k:=λe=>d.1 (e▸Xr (f:=(·.1)) h);show(Zs D)▸(Q d.2 h)
def pH{pG:WA}(l b:WD)(O v:Array Wv)(n n2:Nat)(dd e:Option WD)(t u:Array TM)(z:O.size=v.size):
  MeetsIn pG w (Builtin.«tuple.__eq__» ⟨[.ref l,.ref b],[]⟩)
   (λA R s=>s.heap.get? l=some {cls:=.type "tuple",dict:=dd,data:=.seq O n,slots:=t}/\s.heap.get? b=some {cls:=.type "tuple",dict:=e,data:=.seq v n2,slots:=u}/\
    (∀j (c:j<O.size) (m:j<v.size),Ge pG w A.in1 s O[j] v[j])/\R (.ok (.ret (.bool true))) s):=by
 intro A R s h;obtain⟨q,g,d,Z,C⟩:=s;show bY h λD r B h=>?_;have G:=AutoSeq1.sub_tuple_tuple;have Q:(O.toList.zip v.toList).length=O.size:=by simp[z]
 wp_walk using YZ D,YZ r,wpAny_forIn_list _ (λa b f=>b.1=none/\f=⟨q,g,d,Z,C⟩/\∃i,a=(O.toList.zip v.toList).drop i) _
 case turn=>
  rintro ⟨y,x⟩ a b f ⟨U,rfl,i,P⟩;have N:i<(O.toList.zip v.toList).length:=by
   rcases YT i (O.toList.zip v.toList).length with k|k
   ·show k
   ·replace P:=(List.drop_of_length_le k)▸P;cases P
  have c:i<O.size:=Q▸N;have m:i<v.size:=z▸c;replace P:=(Yh N)▸P;injection P with hyx hrest;have o:y=O[i]:=by have:=T3 Prod.fst hyx;simpa using this
  have p:x=v[i]:=by have:=T3 Prod.snd hyx;simpa using this
  subst o p;show Zn (B i c m _ _ ?_)
  wp_walk
  show⟨rfl,rfl,i+1,hrest⟩
 case fin=>
  rintro ⟨F,H⟩ f ⟨U,rfl,i,P⟩;simp only at U;subst U
  wp_walk
  change R (.ok (.ret (.bool (O.size==v.size)))) _
  (show z▸ ?_;rw[Xf])
  show h
 case h=>show⟨rfl,rfl,0,rfl⟩
def Ge.tup{pG:WA}(D:l≠b)(k:s.heap.IsTuple l O)(P:s.heap.IsTuple b v)(e:O.size=v.size)(Z:A.units<cLine)
  (N:∀j (q:j<O.size) (r:j<v.size),Ge pG w A.in1 s O[j] v[j]):Ge pG w A s (.ref l) (.ref b):=.of_rc D λE Q m=>by
 show nh (id k) λz U i n hd=>?_;obtain⟨o,dd,h,p⟩:=z;show nh (id P) λz a d n2 g=>?_;obtain⟨f,y,c,u⟩:=z;simp only at i hd d g;subst i hd d g;show wpAny_richCompare_same_room (op:=.Eq) (T:="tuple") (aO _ U rfl) (aO _ a rfl) PySem.F.slot_tuple_eq (call_meetsIn PySem.F.slot_tuple_eq (aO _ U rfl) PySem.F.entry_tuple_eq (PySem.F.args_tuple_eq_2 _ _) (pH l b O v n n2 dd y p u e)
  ⟨U,a,N,(⟨(λx=>nomatch x),m⟩:Value.bool true≠Value.notImplemented/\Q (.bool true) s)⟩) Z
section
variable {pG:WA}{w:Wy}{K:Type} [DecidableEq K] {knd:KeyKind pG w K}{A:Wz}{E:Wv->Ww->Prop}{s:Ww}
def qA(ha:(a==sysModules)=false)(hb:(b==sysModules)=false)
  (da:s.heap.DictOf knd a ka) (db:s.heap.DictOf knd b kb) (hl:ka.length=kb.length) (G:∀p∈ka,∃y,valueAt kb p.1=some y/\Ge pG w A s p.2 y) (h:Q true s):
  wpAny (model pG w) A (Builtin.Dict.samePairs nm a b) Q E s:=by
 show eD da λoa n ep z H U T o H=>eD db λob Z ep' c H f r D H=>?_;have F:ka.length=n.size:=by rw[←o.length];show Y8
 have C:kb.length=Z.size:=by rw[←D.length];show Y8
 have d:∀k,findBy knd.is Z k=valueAt kb k:=λk=>by
  rw[←D.find k];clear C D r f c;obtain⟨l⟩:=Z;simp[findBy]
 unfold Builtin.Dict.samePairs Builtin.Dict.showsAll;rw[Zi (show¬(a==sysModules)=true by rw[ha];show Bool.false_ne_true),Zi (show¬(b==sysModules)=true by rw[hb];show Bool.false_ne_true)];show Zn (ZE (Zn (ZE (Zn (wpAny_dictEntries z U ?_)))));dsimp only;show Zn (wpAny_dictEntries c f ?_);have X:n.size=Z.size:=by rw[←F, ←C];show hl
 rw[Zi (by rw[X];simp)];show Zn (wpAny_dictEpoch z U (Zn ?_));rw[Std.Legacy.Range.forIn_eq_forIn_range'];simp only[Std.Legacy.Range.size,Nat.sub_zero,Nat.add_sub_cancel,Nat.div_one];show wpAny_forIn_list _ (λO q I=>I=s/\q=(none,())/\∀x∈O,x<n.size) _ ?_ ?_ _ _ ⟨rfl,rfl,λx R=>by simpa using R⟩
 ·rintro x O q I ⟨rfl,rfl,hm⟩;have N:=hm x (.head _);show Zn (wpAny_dictEntries z U ?_);rw[Z6 N];have g:x<ka.length:=by rw[F];show N
  obtain⟨k,v,t⟩:∃k v,ka[x]=(k,v):=(j1 _ _ rfl)
  show zA (o.get? (i:=x) (e:=n[x]) (k:=k) (v:=v) (by rw[Array.getElem?_toList];show Z6 N) (by rw[Zy g,t])) λm B=>?_;show aA (T n[x] (Array.getElem_mem N)) λk' M Y=>?_;have W:k'=k:=knd.inj _ _ _ M m;rw[W]at Y;show aA (G (k,v) (t▸Xh g)) λy P L=>?_;change wpAny _ _ (holding [n[x].key,n[x].val] _>>=_) _ _ _;rw[Y];show Zn (ZY (Zn (wpAny_dictFind_of m c f r ?_)));cases S:Z.findIdx? λe=>knd.is k e.key with
  |none=>
   have hn:valueAt kb k=none:=by rw[←d k,findBy_of_findIdx?,S]
   rw[hn]at P;show nomatch P
  |some j=>
   show aA (Array.findIdx?_eq_some_iff_getElem.mp S) λu H H=>?_;have V:valueAt kb k=some Z[j].val:=by
    rw[←d k,findBy_of_findIdx?,S];simp[Z6 u]
   show Zn (wpAny_dictEntries c f ?_);rw[Z6 u];have ey:Z[j].val=y:=Zf (V.symm.trans P);replace L:Ge pG w A I v y:=L;rw[←ey, ←B]at L;show ZY (L _ _ ?_);change wpAny _ _ (if(!true)=true then _ else _) _ _ _;rw[Zi (by ext)];show Zn (wpAny_dictEpoch z U ?_);rw[Zi (by simp)];show ZE ⟨rfl,rfl,λx R=>hm x (.tail _ R)⟩
 ·rintro q I ⟨rfl,rfl,_⟩;show ZE h
def Ge.dict(d:a≠b)(c:(a==sysModules)=false)(P:(b==sysModules)=false)
  (N:s.heap.DictOf knd a g) (O:s.heap.DictOf knd b l) (Z:A.units<cLine) (D:g.length=l.length) (u:∀p∈g,∃y,valueAt l p.1=some y/\Ge pG w A.in1 s p.2 y):Ge pG w A s (.ref a) (.ref b):=.of_rc d λE Q h=>by
 show wpAny_richCompare_same_room (op:=.Eq) N.typeIs O.typeIs PySem.F.slot_dict_eq (wpAny_call_entry PySem.F.slot_dict_eq N.typeIs PySem.F.entry_dict_eq ?_ (PySem.F.args_dict_eq_2 _ _)) Z;change wpAny _ _ (Builtin.Dict.dictSlotArgs "__eq__" ⟨[.ref a,.ref b],[]⟩>>=_) _ _ s;show Zn (Zn (wpAny_notOrdered_dict N.typeIs ?_));change wpAny _ _ (pure (Value.ref a,Value.ref b)) _ _ s;show ZE (Zn (wpAny_isInstance (T:="dict") O.typeIs PySem.F.sub_dict_dict ?_));simp only[Bool.not_true,Bool.false_eq_true,if_false];show Zn (ZE (Zn (ZE (Zn (qA c P N O D u (ZE (ck _ rfl (λx=>nomatch x) h)))))))
end
end
def fC:∀a b:WJ,Hq a b=decide (a<b)
 | [],[]=>by show Bool.le_antisymm (λa=>a) λa=>a
 | [],_::_=>by show Bool.le_antisymm (XA rfl) (XA rfl)
 |_::_,[]=>by show Bool.le_antisymm (λa=>a) λa=>a
 |x::a,y::b=>by
  change(Bool.rec (Bool.rec false (Hq a b) (beq x y)) true (Nat.blt x y):Bool)=_;rw[Bool.eq_iff_iff,Yu,Xn];rcases Nat.lt_trichotomy x y with h|h|h
  ·show(Nat.blt_eq.mpr h).symm▸⟨λZ=>.inl h,λZ=>rfl⟩
  ·subst h
   (show((by rw[propext Bool.eq_false_iff];intro z;show YA _ (Nat.blt_eq.mp z):Nat.blt x x=false)).symm▸ ?_;rw[bW])
   rw[fC a b,Yu];show⟨λz=>.inr ⟨rfl,z⟩,λz=>z.elim (λw=>T4 w (YA _)) (·.2)⟩
  ·rw[(by rw[propext Bool.eq_false_iff];intro z;show Nat.lt_asymm h (Nat.blt_eq.mp z):Nat.blt x y=false),bX λe=>YA _ (e▸h)];show⟨λz=>(nomatch z),λz=>z.elim (λw=>T4 w (Nat.lt_asymm h)) λw=>T4 w.1 λe=>YA _ (e▸h)⟩
def qc(h:CT a (x::l)=some b):∃p q,Iq x a=some p/\CT a l=some q/\b=(p||q):=by
 show aA (ax h) λp e h=>?_;show aA (aZ h) λq f P=>?_;clear h;subst P;show(a8 p q e f (by induction p<;>rfl))
section
variable {pG:WA}{w:Wy}{A:Wz}{s:Ww}{F:WD->TQ}
def oA(N:RF pG w F v a):∀ {Z:TN} {b:Bool},Ba pG w F Z l->CT a l=some b->(Z.any λy=>Mq y v)=b/\∀y∈Z,SeqAt.EqAt A s y v (Mq y v):=by
 induction l with
 |nil=>intro Z b h e;obtain rfl:=h.inv;obtain rfl:=Zf e;show⟨rfl,λk P=>(Yl P).elim⟩
 |cons x l Q=>
  intro Z b h e;obtain⟨u,r,rfl,f,D⟩:=h.inv;show bA (qc e) λp q U i j=>?_;clear e;subst j;show zA (Q D i) λd z=>?_;have SG:=zd f N U;show⟨by rw[List.any_cons,d,SG],λy P=>?_⟩;rcases Zb P with rfl|P
  ·show SG▸(dm f N U).2
  ·show z y P
def Eh.inv{pG:WA}(h:Eh pG w F Z l):match (generalizing:=false) l with| []=>Z=[]|f::l=>∃v r,Z=(CH f.1,v)::r/\RF pG w F v f.2/\Eh pG w F r l:=by
 cases h with
 |nil=>rfl
 |cons a r=>show(a8 _ _ rfl a r)
def tJ{pG:WA}(a:WJ):∀ {U:TO},Eh pG w F U l->BB a l=(valueAt U (CH a)).isSome:=by
 induction l with
 |nil=>intro U h;obtain rfl:=h.inv;rfl
 |cons f l Q=>
  intro U h;show bA h.inv λv r P Z D=>?_;clear h;subst P;have Q:=Q D;change(Bool.rec (BB a l) true (Cn a f.1):Bool)=_;rw[aE];unfold valueAt;rw[X6];by_cases z:a=f.1
  ·clear Q;subst z;simp
  ·simp only[z,show¬CH f.1=CH a from λe=>z (eG e).symm];show Q
variable {c:Cx}{g:G}{O:Gh}{L:Loc}{J:St}{E:Wv->Ww->Prop}{v u:Wv}{x y:V}
def fU{pG:WA}(a:WJ)(t:Tok):(strKind pG w).is (CH a) (.str ⟨a.toArray⟩ t)=true:=strKind_is pG w (CH a) t
def pI(h:a≠sysModules):(a==sysModules)=false:=beq_false_of_ne h
def sF{M:Model}(h:wpAny M A (compareOp .In v u) (λr s=>∀b,r=.bool b->Q (.bool (!b)) s) E s):wpAny M A (compareOp .NotIn v u) Q E s:=λD p d=>by
 have h:=h D p d;rw[show compareOp .In v u=contains u v>>=λb=>pure (.bool b) from rfl,Sem.wp_bind']at h;rw[Sem.wp_bind' _ _ _ _ _ _ _ _];show Sem.wp_mono M D _ (λb P j l=>l b rfl) (λZ Z Z l=>l) p s h
def sj(z:Holds F s.heap)(N:RF c.Aa c.w F v fx)(Z:RF c.Aa c.w F u U)
  (h:BN.mem fx U k) (j:∀b G,k b->Q (.bool b) {s with toks:=G}):wpAny (model c.Aa c.w) A (compareOp .In v u) Q E s:=by
 induction U using FV.casesOn with
 |tup l=>
  show cps λf d=>?_;obtain⟨b,p,D⟩:=ak h;obtain⟨a,I,o,rfl,e,q,r,_⟩:=Z.x;show zA (oA N r p) λi B=>d (SeqAt.in_tupleAt (λy=>Mq y v) (q.tuple (z _ _ e)) (λy P=>B y (by simpa using P)) ?_);rw[List.any_toArray,i];show j b s.toks D
 |lst l=>
  show cps λf d=>?_;obtain⟨b,p,D⟩:=ak h;obtain⟨a,I,o,rfl,e,q,r,_⟩:=Z.x;show zA (oA N r p) λi B=>d (SeqAt.in_listAt (λy=>Mq y v) (q.list (z _ _ e)) (λy P=>B y (by simpa using P)) ?_);rw[List.any_toArray,i];show j b s.toks D
 |An l=>
  show cps λf d=>?_;obtain⟨a,C,D⟩:=ak h;obtain⟨t,rfl,_⟩:=N.aS C;obtain⟨_,o,H,rfl,e,n,q,r,_⟩:=Z.x;show d (wpAny_in_of (fU _ _) (pI n) (q.at (z _ _ e)).mapOf ?_);show(tJ a r)▸(j _ _ D)
 |str bl=>
  show cps λf d=>?_;obtain⟨q,SG,D⟩:=ak h;show zE (N.FU SG) λt m=>?_;subst m;obtain⟨M,rfl,_⟩:=Z.x;show d (SB.contains ?_);have:=j _ s.toks D;rw[←(StrLaws.found_one ⟨bl.toArray⟩ q)]at this;show this
 |_=>show h.elim
def sk(z:Holds F s.heap)(N:RF c.Aa c.w F v l)(Z:RF c.Aa c.w F u U)(d:A.units+16<cLine)
  (h:KX l U k):∃b,k b/\SeqAt.RcAt A s v u b/\SeqAt.RcNeAt A s v u (!b):=by
 have lF:Ab (Iq l U) k->∃b,k b/\SeqAt.RcAt A s v u b/\SeqAt.RcNeAt A s v u (!b):=λh=>by
  obtain⟨b,P,D⟩:=ak h;show(ck b D (dm N Z P).1 (abw N Z P))
 have Q:∀ {a b:WD},v=.ref a->u=.ref b->l=U->Fs 12 l=true->k true->∃b,k b/\SeqAt.RcAt A s v u b/\SeqAt.RcNeAt A s v u (!b):=λm o n hd D=>by
  subst m o n;show(aO true D (vJ z (Yb (ZH (by decide:12<=16) _) d) hd N Z))
 induction l using FV.casesOn with
 |tup x=>
  show cps λi f=>?_;obtain⟨y,e,⟨rfl,hd⟩,D⟩:=ak h;obtain rfl:=xI e;show f ?_;obtain⟨a,_,_,SU,_⟩:=N.x;obtain⟨b,_,_,j,_⟩:=Z.x;show Q SU j rfl hd D
 |lst x=>
  show cps λi f=>?_;obtain⟨y,e,⟨rfl,hd⟩,D⟩:=ak h;obtain rfl:=m7 e;show f ?_;obtain⟨a,_,_,SU,_⟩:=N.x;obtain⟨b,_,_,j,_⟩:=Z.x;show Q SU j rfl hd D
 |_=>show lF h
def t9(z:Holds F s.heap)(n:Nat):∀ {A:Wz} {v u:Wv} {f:FV},A.units+n<cLine->Dz n f=true->RF c.Aa c.w F v f->RF c.Aa c.w F u f->Ge c.Aa c.w A s v u:=by
 induction n with
 |zero=>show λZ hd Z Z=>a7 hd
 |succ n W=>
  intro A v u f T hd h k;have m:=YW T;have q:A.in1.units+n<cLine:=by rw[Around.in1_units];show Zh (Z1 (Zz (ZZ _ 1 _))) T
  have R:∀ {a P:TN} {l:Tz},l.all (Dz n)=true->Ba c.Aa c.w F a l->Ba c.Aa c.w F P l->∀j (U:j<a.toArray.size) (r:j<P.toArray.size),Ge c.Aa c.w A.in1 s a.toArray[j] P.toArray[j]:=λhd D r2 j U r=>
   have G:=D.len▸U
   W q (Zd hd _ (Xh G)) (D.get j U G) (r2.get j r G)
  induction f using FV.casesOn with
  |Ak=>show .at (dm h k rfl).2
  |Ae x=>show .at (dm h k (by induction x<;>rfl)).2
  |int i=>show .at (dm h k (T3 some (Zr rfl))).2
  |str l=>show .at (dm h k (T3 some ((aE l l).trans (Zr rfl)))).2
  |tup l=>
   obtain⟨N,a,Sp,rfl,M,q1,D,_⟩:=h.x;obtain⟨o,P,So,rfl,C,q2,r2,_⟩:=k.x;by_cases d:N=o
   ·show d▸ .at (SeqAt.EqAt.same _)
   ·show .tup d (q1.tuple (z _ _ M)) (q2.tuple (z _ _ C)) (D.len.trans r2.len.symm) m (R hd D r2)
  |lst l=>
   obtain⟨N,a,Sp,rfl,M,q1,D,_⟩:=h.x;obtain⟨o,P,So,rfl,C,q2,r2,_⟩:=k.x;by_cases d:N=o
   ·show d▸ .at (SeqAt.EqAt.same _)
   ·show .of_rc d λE Q hQ=>k6 (q1.list (z _ _ M)) (q2.list (z _ _ C)) (D.len.trans r2.len.symm) m (R hd D r2) hQ
  |An es=>
   obtain⟨x1,Sp,k1,rfl,d1,n1,p1,S,_⟩:=h.x;obtain⟨x2,So,k2,rfl,d2,n2,X,V,_⟩:=k.x;by_cases d:x1=x2
   ·show d▸ .at (SeqAt.EqAt.same _)
   ·have I:(k2.map (·.1)).Nodup:=by show dH X λZ Z Z Z Z Z I=>?_;show I
    show .dict d (pI n1) (pI n2) (p1.at (z _ _ d1)) (X.at (z _ _ d2)) m (S.len.trans V.len.symm) ?_;have go:∀ {l:TG} {B t:TO},Eh c.Aa c.w F B l->Eh c.Aa c.w F t l->(∀p∈t,p∈k2)->(l.all λp=>Dz n p.2)=true->∀p∈B,∃y,valueAt k2 p.1=some y/\Ge c.Aa c.w A.in1 s p.2 y:=by
     intro l;induction l with
     |nil=>intro B t h _ _ _ p e;obtain rfl:=h.inv;cases e
     |cons f l H=>
      intro B t U r Y hd p e;show bA U.inv λv1 t1 b N D=>?_;clear U;subst b;show bA r.inv λv2 Se b o r2=>?_;clear r;subst b;rw[YR,Zp]at hd;rcases Zb e with rfl|e
      ·show(aO v2 (j3 I (Y _ (.head _))) (W q hd.1 N o))
      ·show H D r2 (λp e=>Y p (.tail _ e)) hd.2 p e
    show go S V (λZ h=>h) hd
def aaj(a:Holds F s.heap)(N:RF c.Aa c.w F v fx)(Z:RF c.Aa c.w F u fy)(d:A.units+16<cLine)
  (h:P6 fx fy k) (m:∀b,k b->Q (.bool b) s):wpAny (model c.Aa c.w) A (compareOp .Eq v u) Q E s:=by
 have z:=λh=>by
  show bM (sk a N Z d h) λb D t1 B=>t1 c.Aa c.w E Q (m _ D)
 induction fx using FV.casesOn with
 |lst l=>
  obtain⟨y,e,⟨rfl,hd⟩,D⟩:=ak h;obtain rfl:=m7 e;rcases hd with hd|hd
  ·show z ⟨⟨rfl,hd⟩,D⟩
  ·obtain⟨r,o,Sp,rfl,p,q1,i,_⟩:=N.x;obtain⟨t,P,So,rfl,n,q2,r2,_⟩:=Z.x;show k6 (q1.list (a _ _ p)) (q2.list (a _ _ n)) (i.len.trans r2.len.symm) (YW d) (λj U q=>?_) (m true D);have f:j<l.length:=i.len▸U;show t9 a 7 (by rw[Around.in1_units];lia) (Zd hd _ (Xh f)) (i.get j U f) (r2.get j q f)
 |_=>show z h
def lu{K:FV->FV->Prop}{P:Prop}(r:Rel c O L J s)(N:RV c.Aa c.w O v x)(Z:RV c.Aa c.w O u y)(h:Ab (CE J.H x) λx=>Ab (CE J.H y) λy=>K x y)
  (i:∀ {F:WD->TQ} {l U:FV},Holds F s.heap->RF c.Aa c.w F v l->RF c.Aa c.w F u U->K l U->P):P:=
 by
 obtain⟨_,b,h⟩:=ak h;obtain⟨_,a,h⟩:=ak h;show bM (eM r N Z b a) λk z f e=>i z f e h
def nY{P:Wv->Wv->Prop}(U:RF c.Aa c.w F v l)(N:RF c.Aa c.w F u d)(h:QW D l d k)
  (hi:∀i t j z,Nr D i j k->P (.int i t) (.int j z)) (a:∀p t q z,Nq D p q k->P (.str ⟨p.toArray⟩ t) (.str ⟨q.toArray⟩ z)):P v u:=by
 induction l using FV.casesOn with
 |int i=>
  obtain⟨j,e,h⟩:=ak h;show zE U.x λt Q=>?_;clear U;subst Q;show zE (N.aI e) λz Q=>?_;subst Q;show hi _ _ _ _ h
 |str i=>
  obtain⟨j,e,h⟩:=ak h;obtain⟨t,rfl,_⟩:=U.x;obtain⟨z,rfl,_⟩:=N.aS e;show a _ _ _ _ h
 |_=>show h.elim
def mA(N:RV c.Aa c.w O v x)(h:DZ x=some b):(v==Value.none)=b:=by
 induction x using V.casesOn with
 |c f=>
  have N:=RF.x N;obtain rfl:=Zf h;induction f using FV.casesOn with
  |Ak=>subst N;rfl
  |Ae=>subst N;rfl
  |int=>show zE N λZ Q=>?_;clear N;subst Q;rfl
  |str=>obtain⟨_,rfl,_⟩:=N;rfl
  |_=>obtain⟨_,_,_,rfl,_⟩:=N;rfl
 |ob i=>show aX N λa ft Z z=>?_;subst z;obtain rfl:=Zf h;rfl
 |st a=>subst N;obtain rfl:=Zf h;rfl
 |E9 a i=>show bC N λq a ft z Z=>?_;subst z;obtain rfl:=Zf h;rfl
def sG{P:Prop}(N:RV c.Aa c.w O v x)(h:Ab (DZ x) λz=>S7 z P False):v=.none/\P:=by
 obtain⟨b,a,h⟩:=ak h;induction b using Bool.casesOn with
 |false=>show h.elim
 |true=>show⟨eq_of_beq (mA N a),h⟩
def yB{k:TR}(h:k (Hq p q)):k (decide (p<q)):=fC p q▸h
def yA{k:TR}(h:k (!Hq p q)):k (!decide (p<q)):=fC p q▸h
def vS{Q:Wv->Ww->Prop}(r:Rel c O L J s)(f:RV c.Aa c.w O v x)(a:RV c.Aa c.w O u y)(d:A.units+16<cLine)
  (h:BN (Ga l) x y J k) (j:∀b m,k b->Q (.bool b) {s with toks:=m}):wpAny (model c.Aa c.w) A (compareOp l v u) Q E s:=by
 cases l with
 |Is=>show zA (sG a h) λi h=>?_;subst i;obtain⟨b,n,D⟩:=ak h;show is_none_gen (mA f n▸j b s.toks D)
 |IsNot=>show zA (sG a h) λi h=>?_;subst i;obtain⟨b,n,D⟩:=ak h;show isnot_none_gen (mA f n▸j _ s.toks D)
 |Eq=>show lu r f a h λz U N h=>aaj z U N d h λb D=>j _ s.toks D
 |NotEq=>show lu r f a h λz U N h=>(sk z U N d h).elim λb t=>t.2.2 c.Aa c.w E Q (j _ s.toks t.1)
 |In=>show lu r f a h λz U N h=>sj z U N h j
 |NotIn=>show lu r f a h λz U N h=>sF (sj z U N h λb m D o e=>by cases e;show j (!b) m D)
 |Lt=>show lu r f a h λz U N h=>nY (P:=λv u=>wpAny (model c.Aa c.w) A (compareOp .Lt v u) Q E s) U N h (λZ Z Z Z h=>P.lt_int (j _ s.toks h)) (λZ Z Z Z h=>P.lt_str (j _ s.toks (yB h)))
 |LtE=>show lu r f a h λz U N h=>nY (P:=λv u=>wpAny (model c.Aa c.w) A (compareOp .LtE v u) Q E s) U N h (λZ Z Z Z h=>P.le_int (j _ s.toks h)) (λZ Z Z Z h=>P.le_str (j _ s.toks (yA h)))
 |Gt=>show lu r f a h λz U N h=>nY (P:=λv u=>wpAny (model c.Aa c.w) A (compareOp .Gt v u) Q E s) U N h (λZ Z Z Z h=>P.gt_int (j _ s.toks h)) (λZ Z Z Z h=>P.gt_str (j _ s.toks (yB h)))
 |GtE=>show lu r f a h λz U N h=>nY (P:=λv u=>wpAny (model c.Aa c.w) A (compareOp .GtE v u) Q E s) U N h (λZ Z Z Z h=>P.ge_int (j _ s.toks h)) (λZ Z Z Z h=>P.ge_str (j _ s.toks (yA h)))
def gJ(r:Rel c O L J s)(N:RV c.Aa c.w O v x)(a:RV c.Aa c.w O u y)(d:A.units+16<cLine)
  (h:BN (Ga D) x y J k) (j:∀b Z,0<Z->k b->Q (.bool b) {s with toks:=Z}):wpAny (model c.Aa c.w) A (compareOp D v u) Q E s:=
 aN r.tk (vS r N a d h λb Z e f=>j b Z f e)
end
section
variable {c:Cx}{g:G}{K:Frag}{p:CP}{Sy:TP}{mg mb:Wu->TM}{f:Fm}{d:Nat}
def Room.u16(l:Room U d A):A.units+16<cLine:=by have:=l.un;show Yb (Z9 (ZR _ _) (by decide:16<=64)) this
def Ku(c:Cx)(g:G)(L:Loc)(d:Nat):Prop:=
 ∀O J s A x y (P:V) v (k:Bool->TF) (Q:Bool->Ww->Prop),Rel c O L J s->Ay L d A->RV c.Aa c.w O v P->g.con x=some y->BL g y [.st x,P] [] J (λv s=>Ab (Am s.H v) λt=>k t s)->
  (∀l Z j b,Ext false L O s l j->Rel c l L Z j->k b Z->Q b j)->wpAny (model c.Aa c.w) A (contains (.ref x) v) Q Bl s
def aef(h:beq (Ga D) 8=true):D=.In:=by induction D<;>first|rfl|show a7 h
def oj{O:Gh}(P:Ku c g L d)(r:Rel c O L J s)(e:Ay L d A)(N:RV c.Aa c.w O v x)(m:RV c.Aa c.w O u y)
  (h:FH g (Ga op) x y J k) (n:∀l Z j b,Ext false L O s l j->Rel c l L Z j->k b Z->Q (.bool b) j):wpAny (model c.Aa c.w) A (compareOp op v u) Q Bl s:=by
 have z:BN (Ga op) x y J (λv=>k v J)->wpAny (model c.Aa c.w) A (compareOp op v u) Q Bl s:=λh=>
  gJ r N m e.u16 h λt o E D=>n O J _ t (.toks false o) (r.toks E) D
 induction y using V.casesOn with
 |st a=>
  have h:=mX h;split at h
  ·rename_i U;clear z;obtain rfl:=aef U;obtain⟨C,w,D⟩:=ak h;subst m;show Zn (P O J s A a C x v k _ r e N w D λl Z j b q B D=>ZE (n l Z j b q B D))
  ·show h.elim
 |c f=>show z h
 |ob i=>show z h
 |E9 f i=>show z h
def abS(G:Ku c g f.L d)(h:SE c g f d x e)(M:SE c g f d y e')(R:behindInMarks op e'=false):SE c g f d (.cmp (Ga op) x y) (.Compare e [op] [e'] pos):=by
 intro O J s A k Q r w B L;show wpAny_Compare1 (h O J s A _ _ r w B λZ n q v a z U I o=>M Z n q A _ _ U w o λj E F u b N D H o=>?_) R;show oj G D w (I.mono N.le) H o λi l C t m P o=>L i l _ _ (.c (.Ae t)) ((z.trans r U N).trans r D m) P (dq (.Ae t)) o
def abB(H:Ku c g f.L d)(h:SE c g f d x e)(R:SE c g f d y e')(S:behindInMarks op e'=false):ST c g f d (.cmp (Ga op) x y) (.Compare e [op] [e'] pos):=by
 intro O J s A k Q r w B M;show wpAny_isTrue_Compare1 (h O J s A _ _ r w B λZ o q v a z U L m=>R Z o q A _ _ U w m λj F G u b N D I m=>?_) S;show oj H D w (L.mono N.le) I m λi l E t n P m=>XF ?_;obtain⟨T,C,m⟩:=ak m;obtain rfl:=Zf C;show M i l _ t ((z.trans r U N).trans r D n) P m
set_option tactic.hygienic true in
def lm{A j:WE}:lastMarks [.LtE,.LtE] [A,j]=false:=by
 obtain⟨⟩:=j<;>first|rfl|(rename_i a k b;change((k==0&&_)&&_)=false;cases k==0<;>rfl)
def abK(h:SE c g f d x e)(h':SE c g f d y e')(H:SE c g f d z e''):SE c g f d (.Gf x y z) (.Compare e [.LtE,.LtE] [e',e''] pos):=by
 intro O J s A k Q r E I V;show Compare_chain (h O J s A _ _ r E I λZ C G v a F o hv m=>chain_link (h' Z C G A _ _ o E m λj n W u b N i T m=>?_)) lm;show gJ i (hv.mono N.le) T E.u16 m λt tk R m=>XF ?_;have m:=mX m;have D:=(F.trans r o N).trans r i (.toks false tk);induction t using Bool.casesOn with
 |false=>show V j n _ _ (.c (.Ae false)) D (i.toks R) (dq (.Ae false)) m
 |true=>
  show chain_last (H j n _ A _ _ (i.toks R) E m λB l S w q U P hw m=>gJ P (T.mono U.le) hw E.u16 m λY L M m=>V B l _ _ (.c (.Ae Y)) ((D.trans r (i.toks R) U).trans r P (.toks false L)) (P.toks M) (dq (.Ae Y)) m)
def aby(h:SE c g f d x e)(h':SE c g f d y e')(H:SE c g f d z e''):ST c g f d (.Gf x y z) (.Compare e [.LtE,.LtE] [e',e''] pos):=by
 intro O J s A k Q r E I V;show isTrue_chain (h O J s A _ _ r E I λZ C G v a F o hv m=>test_link (h' Z C G A _ _ o E m λj n W u b N i T m=>?_)) lm;show gJ i (hv.mono N.le) T E.u16 m λt Y R m=>XF ?_;have m:=mX m;have D:=(F.trans r o N).trans r i (.toks false Y);induction t using Bool.casesOn with
 |false=>show V j n _ false D (i.toks R) m
 |true=>
  show test_last (H j n _ A _ _ (i.toks R) E m λB l S w q U P hw m=>gJ P (T.mono U.le) hw E.u16 m λt' L M m=>XF (V B l _ t' ((D.trans r (i.toks R) U).trans r P (.toks false L)) (P.toks M) m))
def wG{K:Int->Int->Prop}{P:Wv->Wv->Prop}(N:RF c.Aa c.w F v l)(Z:RF c.Aa c.w F u U)(h:Ab (aI l) λx=>Ab (aI U) λy=>K x y)
  (O:∀x t y z,K x y->P (.int x t) (.int y z)):P v u:=by
 obtain⟨x,e,h⟩:=ak h;obtain⟨y,A,h⟩:=ak h;show zE (N.aI e) λt Q=>?_;subst Q;show zE (Z.aI A) λz Q=>?_;clear Z;subst Q;show O x t y z h
def vT{O:Gh}{L:Loc}{J:St}
  (N:RF c.Aa c.w F v fx) (a:RF c.Aa c.w F u U) (h:G3 fx U k)
  (j:∀w r Z,(∀l,RF c.Aa c.w l w r)->k r->Q w {s with toks:=Z}):wpAny (model c.Aa c.w) A (binaryOp .Add v u) Q E s:=by
 induction fx using FV.casesOn with
 |str x=>
  obtain⟨y,e,b,D⟩:=ak h;obtain⟨t,rfl,_⟩:=N.x;obtain⟨i,rfl,_⟩:=a.aS e;show SB.add (λz Z=>?_) (by rw[YE];show b);have e:(⟨x.toArray⟩:Wu)++⟨y.toArray⟩=⟨(x++y).toArray⟩:=by change PySem.Str.mk (x.toArray++y.toArray)=_;simp
  show e▸(j _ _ Z (λl=>.str (x++y) z (by rw[Zg];show b)) D)
 |int x=>
  obtain⟨y,e,D⟩:=ak h;obtain⟨t,rfl⟩:=N.x;obtain⟨i,rfl⟩:=a.aI e;show P.add_int (j _ _ _ (λl=>.int _ _) D)
 |_=>show h.elim
def aak{O:Gh}{L:Loc}{J:St}{k:FV->Prop}{Q:Wv->Ww->Prop}
  (U:Mb D=some o) (N:RF c.Aa c.w F v z) (a:RF c.Aa c.w F u y) (h:Og o z y k)
  (j:∀w r b,(∀l,RF c.Aa c.w l w r)->k r->Q w {s with toks:=b}):wpAny (model c.Aa c.w) A (binaryOp D v u) Q E s:=by
 cases D with
 |Add=>obtain rfl:=Zf U;show vT (O:=O) (L:=L) (J:=J) N a h j
 |Sub=>obtain rfl:=Zf U;show wG (P:=λv u=>wpAny (model c.Aa c.w) A (binaryOp .Sub v u) Q E s) N a h λZ Z Z Z h=>P.sub_int (j _ _ _ (λl=>.int _ _) h)
 |Mod=>obtain rfl:=Zf U;show wG (P:=λv u=>wpAny (model c.Aa c.w) A (binaryOp .Mod v u) Q E s) N a h λZ Z Z Z h=>mod_int' h.1.1 (j _ _ _ (λl=>.int _ _) h.2)
 |FloorDiv=>obtain rfl:=Zf U;show wG (P:=λv u=>wpAny (model c.Aa c.w) A (binaryOp .FloorDiv v u) Q E s) N a h λZ Z Z Z h=>floordiv_int h.1.1 (j _ _ _ (λl=>.int _ _) h.2) (.inl h.1.2)
 |Mult=>obtain rfl:=Zf U;show h.elim
 |_=>cases U
def abT(V:Mb op=some o)(h:SE c g f d x e)(T:SE c g f d y e')
  (I:∀O J s A k Q v u a b,Rel c O f.L J s->Ay f.L d A->RV c.Aa c.w O v a->RV c.Aa c.w O u b->Fv o a b J k->B2 c f.L O s k Q->wpAny (model c.Aa c.w) A (binaryOp op v u) Q Bl s):
  SE c g f d (.bin o x y) (.BinOp e op e' pos):=by
 intro O J s A k Q r G H R;show wpAny_BinOp (h O J s A _ _ r G H λZ t F v a E U M B=>T Z t F A _ _ U G B λj q P u b N D L B=>I j q P A _ Q v u a b D G (M.mono N.le) L B λi l m w z n C S B=>R i l m w z ((E.trans r U N).trans r D n) C S B)
def ju{y:Type}{l:List y}{a:y}(h:Co l i=some a):∃j,seqIndex? i l.length=some j/\l[j]? =some a/\ -(l.length:Int)<=i/\i<l.length:=by
 unfold Co at h;by_cases b:0<=i
 ·replace h:=(Zr b)▸h;have h:=h;have D:i.toNat<l.length:=by
   rcases YT i.toNat l.length with z|z
   ·show z
   ·rw[Xm z]at h;show aw h
  show(aY i.toNat ?_ h (by lia) ((Int.toNat_lt b).mp D));unfold seqIndex?;simp only[show¬i<0 by show Int.not_lt_of_ge b,if_false];rw[Zk (by simp;show⟨b,(Int.toNat_lt b).mp D⟩)]
 ·rw[Zs b]at h;have h:=h;by_cases U:0<=i+l.length
  ·rw[Zr U]at h;have h:=h;have D:(i+l.length).toNat<l.length:=by
    rcases YT (i+l.length).toNat l.length with z|z
    ·show z
    ·rw[Xm z]at h;show aw h
   show(aY (i+l.length).toNat ?_ h (Int.add_nonneg_iff_neg_le.mp U) (Int.lt_of_lt_of_le (Int.lt_of_add_lt_add_right (Int.lt_of_lt_of_le (Int.lt_of_le_of_lt (Int.self_le_toNat _) (Xa.mpr D)) (Int.le_of_eq (Int.zero_add _).symm))) (Yx _)));unfold seqIndex?;simp only[show i<0 by show Int.lt_of_not_ge b,if_true];rw[Zk (by simp;show⟨U,(Int.toNat_lt U).mp D⟩)]
  ·rw[Zs U]at h;show aw h
def Ba.get?{N:WA}:∀ {Z:TN} {j:Nat} {a:FV},Ba N w F Z l->l[j]? =some a->∃v,Z[j]? =some v/\RF N w F v a:=by
 induction l with
 |nil=>intro Z j a _ h;show aw h
 |cons x l b=>
  intro Z j a h e;obtain⟨v,r,rfl,Q,D⟩:=h.inv;induction j using Nat.casesOn with
  |zero=>show(aO v rfl (Zf e▸Q))
  |succ j=>show b (j:=j) D e
def zM{N:WA}(a:WJ):∀ {U:TO},Eh N w F U l->sel a l=some r->∃v,valueAt U (CH a)=some v/\RF N w F v r:=by
 induction l with
 |nil=>intro _ _ h;show aw h
 |cons f l b=>
  intro U h Q;show bA h.inv λv t P i D=>?_;clear h;subst P;have Q:(Bool.rec (sel a l) (some f.2) (Cn a f.1):TJ)=some r:=Q;replace Q:=(aE _ _)▸Q;unfold valueAt at b⊢;show(X6)▸ ?_;by_cases z:a=f.1
  ·clear b;subst z;simp only[decide_true]at Q⊢;obtain rfl:=Zf Q;show(aO _ rfl i)
  ·simp only[z,show¬CH f.1=CH a from λe=>z (eG e).symm]at Q⊢;show b D Q
def vw{O:Gh}{N:WA}(a:WJ)(h:RD N w O U l)(Q:sel a l=some r):∃v,valueAt U (CH a)=some v/\RV N w O v r:=by
 induction h with
 |nil=>show aw Q
 | @cons v Z k x l i D b=>
  have Q:(Bool.rec (sel a l) (some x) (Cn a k):Option V)=some r:=Q;replace Q:=(aE _ _)▸Q;unfold valueAt at b⊢;show(X6)▸ ?_;by_cases z:a=k
  ·subst z;simp only[decide_true]at Q⊢;clear b;obtain rfl:=Zf Q;show(aO _ rfl i)
  ·simp only[z,show¬CH k=CH a from λe=>z (eG e).symm]at Q⊢;show b Q
section
variable {O:Gh}{L:Loc}{J:St}{s:Ww}{A:Wz}{E:Wv->Ww->Prop}{v u:Wv}{x y:V}
def iJ(D:s.heap.IsList a Z.toArray)(m:Ba c.Aa c.w F Z l)(P:l.length<=16777216)
  (hi:Co l i=some r) (h:∀v,RF c.Aa c.w F v r->Q v s):wpAny (model c.Aa c.w) A (PySem.getItem (.ref a) (.int i t)) Q E s:=by
 show bO (ju hi) λj U N o q=>aA (m.get? N) λv k n=>?_;unfold seqIndex? at U;have b:=m.len;by_cases e:i<0
 ·simp only[e,if_true]at U;split at U
  ·obtain rfl:=Zf U;show wpAny_getItem_list_neg D e (by rw[ZP,b];show o) (by lia) ?_ (h v n);rw[ZP,b,YH];show k
  ·cases U
 ·simp only[e,if_false]at U;split at U
  ·obtain rfl:=Zf U;show wpAny_getItem_list D (Int.not_lt.mp e) (by lia) ?_ (h v n);rw[YH];show k
  ·cases U
def nZ(B:Holds F s.heap)(N:RF c.Aa c.w F v fx)(Z:RF c.Aa c.w F u fy)(h:Ln fx fy k)
  (G:∀v r T,RF c.Aa c.w F v r->k r->Q v {s with toks:=T}):SubscriptOn (model c.Aa c.w) A v u Q E s:=by
 induction fx using FV.casesOn with
 |str l=>
  obtain⟨i,C,h⟩:=ak h;obtain⟨r,D,w⟩:=ak h;show bO (ju D) λj U M Y X=>?_;obtain⟨t,rfl,b⟩:=N.x;show zE (Z.aI C) λR m=>?_;subst m;show(a8 "str" _ PySem.F.slot_str_getitem.lookup rfl (P.getItem_str ?_ ?_ (G _ _ _ (.str [r] _ (by simp)) w)))
  ·rw[propext Bool.or_eq_false_iff,propext decide_eq_false_iff_not];show⟨by lia,by lia⟩
  ·have:(⟨l.toArray⟩:Wu).length=l.length:=by change l.toArray.size=_;simp
   rw[this,U,Ys];rw[YH];show M
 |lst l=>
  obtain⟨i,C,h⟩:=ak h;obtain⟨r,D,w⟩:=ak h;obtain⟨a,W,o,rfl,e,q,rr,b⟩:=N.x;show zE (Z.aI C) λR m=>?_;subst m;show(a8 "list" _ PySem.F.slot_list_getitem.lookup (aO _ (B _ _ e) (by show zE q λn z=>?_;rw[z])) (iJ (q.list (B _ _ e)) rr b D λv N=>G v r s.toks N w))
 |tup l=>
  obtain⟨i,C,h⟩:=ak h;obtain⟨r,D,w⟩:=ak h;show bO (ju D) λj U M Y X=>?_;obtain⟨a,W,o,rfl,e,q,rr,b⟩:=N.x;show zE (Z.aI C) λR m=>?_;clear Z;subst m;show aA (rr.get? M) λv I H=>(a8 "tuple" _ PySem.F.slot_tuple_getitem.lookup (aO _ (B _ _ e) (by show zE q λn z=>?_;rw[z])) (getItem_tuple (j:=j) (q.tup (B _ _ e)) (by lia) (by lia) ?_ ?_ (G v r s.toks H w)))
  ·rw[ZP,rr.len];show U
  ·show(YH)▸ ?_;show I
 |An l=>
  obtain⟨a,S,h⟩:=ak h;obtain⟨r,D,w⟩:=ak h;obtain⟨_,o,V,rfl,e,n,q,rr,b⟩:=N.x;obtain⟨t,rfl,_⟩:=Z.aS S;show aA (zM a rr D) λv I H=>(a8 "dict" _ PySem.F.slot_dict_getitem.lookup (q.at (B _ _ e)).typeIs (wpAny_getItem_of (fU a t) (q.at (B _ _ e)).mapOf I (G v r _ H w)))
 |_=>show h.elim
def vN(r:Rel c O L J s)(m:RV c.Aa c.w O v x)(b:RV c.Aa c.w O u y)(h:DO x y J k)
  (j:∀v z Z,RV c.Aa c.w O v z->k z J->Q v {s with toks:=Z}):SubscriptOn (model c.Aa c.w) A v u Q E s:=by
 obtain⟨f,I,M⟩:=ak h;obtain rfl:=f7 I;clear h I;have h:=M;clear M;induction x using V.casesOn with
 |ob n=>
  show aX m λa ft e w=>?_;subst w;obtain⟨o,q,h⟩:=ak h;have C:=r.ob e q;induction o using AO.casesOn with
  |An es=>
   obtain⟨H,S,h⟩:=ak h;obtain⟨z,P,D⟩:=ak h;show bQ C λuu o T U h0 N F G=>?_;obtain⟨t,rfl,_⟩:=RF.aS b S;show aA (vw H F P) λv Y R=>(a8 "dict" _ PySem.F.slot_dict_getitem.lookup (N.at U).typeIs (wpAny_getItem_of (fU H t) (N.at U).mapOf Y (j v z _ R D)))
  |lst l=>
   obtain⟨i,W,h⟩:=ak h;obtain⟨z,P,D⟩:=ak h;show bI C λuu o vs U N F G=>?_;show zE (RF.aI b W) λt B=>?_;subst B;show(a8 "list" _ PySem.F.slot_list_getitem.lookup (aO _ U (by show zE N λn z=>?_;rw[z])) (iJ (N.list U) F G P λv m=>j v (.c z) s.toks m D))
  |Av X=>show nZ r.holds C.2 b h λv z Z P D=>j v (.c z) Z P D
  |inst _ _=>show h.elim
 |c X=>show nZ r.holds m b h λv z Z P D=>j v (.c z) Z P D
 |_=>show h.elim
def rj(e:0<s.toks)(h:SubscriptOn (model c.Aa c.w) A v u (λa j=>0<j.toks->Q a j) E s):SubscriptOn (model c.Aa c.w) A v u Q E s:=by
 show bA h λT id a b z=>(a8 T id a b (aN e z))
def sh(r:Rel c O L J s)(N:RV c.Aa c.w O v x)(a:RV c.Aa c.w O u y)(h:DO x y J k)
  (j:∀v z Z,0<Z->RV c.Aa c.w O v z->k z J->Q v {s with toks:=Z}):SubscriptOn (model c.Aa c.w) A v u Q E s:=
 rj r.tk (vN r N a h λv z Z N D b=>j v z Z b N D)
end
def sD(h:(match i with| .Slice .. =>false|_=>true)=true)(o v:Wv):subscripted i false o v=operate [o,v] (getItem o v):=by
 obtain⟨⟩:=i<;>first|rfl|cases h
def rk{M:Model}{N:WA}(m:(match i with| .Slice .. =>false|_=>true)=true)
  (h:wpAny (model N w) A (eval z env) (λo l=>wpAny (model N w) A (eval i env) (λv P=>SubscriptOn (model N w) A o v Q E P) E l) E s):
  wpAny (model N w) A (eval (.Subscript z i pos) env) Q E s:=by
 rw[arm_eval_Subscript];show Zn (ZT h (λo l a=>Zn (ZY (ZT a (λv P b=>Zn (Yz ?_)) λZ Z x=>x))) λZ Z x=>x);show bA b λT id D j k=>Zn ((getitemInPython_of_ne j.not_modules)▸(Zn (wpAny_specialOf j D (ZE ?_))));rw[sD m];show Zn (wpAny_operating (ZT k (λr e U=>Zn (wpAny_letTemporaryGo (ZE U))) λZ Z x=>x))
def abI(R:(match e' with| .Slice .. =>false|_=>true)=true)(h:SE c g f d x e)(I:SE c g f d y e'):SE c g f d (.sub x y) (.Subscript e e' pos):=by
 intro O J s A k Q r t q G;show rk (M:=model c.Aa c.w) R (h O J s A _ _ r t q λZ m l v a o U F n=>I Z m l A _ _ U t n λj i P u b N D C n=>sh D (F.mono N.le) C n λw z B S H n=>G j i _ w z ((o.trans r U N).trans r D (.toks false B)) (D.toks S) H n)
end
structure CO (K:Frag) (C:WD):Prop where
 ga:findIn K (.ref C) "__getattribute__"=some (some (.builtin "object.__getattribute__"))
 gk:findIn K (.ref C) "__getattr__"=some none
 sa:findIn K (.ref C) "__setattr__"=some (some (.builtin "object.__setattr__"))
 po:plainOver K C=true
 hd:(clsIn K C).any (·.hasDict)=true
structure Hv (K:Frag) (C f:WD) (x:Wu):Prop where
 fi:findIn K (.ref C) x=some (some (.ref f))
 ty:typeIn K (.ref f)=some (.type "function")
 ge:specialIn K (.ref f) "__get__"=some (some (.builtin "function.__get__"))
 ta:takesIn K (.ref f)=some false
 co:copiedNames.contains x=false
 fn:fnIn K f=true
def Fk:TP:=["append","pop","join","replace","count","rfind","split","lower","upper","startswith","find","get","update","index","keys","has_"]
structure FX (c:Cx) (K:Frag) (g:G):Prop where
 own:∀C n,g.own C n=true->CO K C/\findIn K (.ref C) (c.nm n)=some none
 cls:∀C n f,g.cls C n=some f->CO K C/\Hv K C f (c.nm n)
 Gy:∀C n v,g.Gy C n=some v->CO K C/\copiedNames.contains (c.nm n)=false/\∃u,findIn K (.ref C) (c.nm n)=some (some u)/\specialIn K u "__get__"=some none/\handedIn u=true/\
  RV c.Aa c.w ⟨c.base.get?,λuu=>none⟩ u v
 FA:∀a n v,g.FA a n=some v->∃C dx od u,K.lookup a=some (FE C (some dx))/\K.lookup dx=some od/\CO K C/\findObj K C (some od) (c.nm n)=some (.value u)/\handedIn u=true/\
  RV c.Aa c.w ⟨c.base.get?,λuu=>none⟩ u v
 Gp:∀a n f,g.Gp a n=some f->∃C dx od,K.lookup a=some (FE C (some dx))/\K.lookup dx=some od/\CO K C/\Hv K C f (c.nm n)/\shadowIn (some od) (c.nm n)=some false
 con:∀a f,g.con a=some f->∃C dx od,K.lookup a=some (FE C (some dx))/\K.lookup dx=some od/\findIn K (.ref C) "__contains__"=some (some (.ref f))/\isFn K (.ref f)=true
 Jy:∀C f,g.Jy C=some f->makesIn K C=true/\findIn K (.ref C) "__init__"=some (some (.ref f))/\typeIn K (.ref f)=some (.type "function")/\keepIn K (.ref C)=true/\g.FI C<64
 fn:∀f,g.fn f=true->fnIn K f=true
 mn:∀n,n<16->c.nm n=Fk.getD n ""
def qP{N:WA}(h:RF N w F v f):handedIn v=true:=by cases h<;>rfl
def qO{N:WA}(h:RV N w g v x):handedIn v=true:=by
 induction x using V.casesOn with
 |c f=>show qP h
 |ob i=>show aX h λa ft Z z=>?_;clear h;subst z;rfl
 |st a=>subst h;rfl
 |E9 a i=>show bC h λq a ft z Z=>?_;clear h;subst z;rfl
section
variable {c:Cx}{O:Gh}
def kH:Value.isStr (.str (c.nm m) t) (c.nm n)=decide (n=m):=by
 change(c.nm m==c.nm n)=_;by_cases h:n=m
 ·subst h;simp
 ·simp[h,show¬c.nm m=c.nm n from λe=>h (c.inj _ _ e).symm]
def iM(D:e.key=.str (c.nm m) t):getL (c.nm n) (e::y)=if n=m then some (some e.val)else getL (c.nm n) y:=by
 have a:(e::y).any (·.refKey)=y.any (·.refKey):=by rw[List.any_cons,(by unfold DictEntry.refKey;show af D rfl:e.refKey=false)];rfl
 unfold getL;rw[X6,D,kH];by_cases z:n=m
 ·simp only[z,decide_true,if_true]
 ·simp only[z,decide_false,if_false,a]
def fV(h:RI c.Aa c.w c.nm O y l)(D:Sx n l=some v):∃u,getL (c.nm n) y=some (some u)/\RV c.Aa c.w O u v:=by
 induction h with
 |nil=>show aw D
 | @cons e y m t f l a N b Q=>
  rw[aq]at D;rw[iM a];by_cases z:n=m
  ·rw[Zk z]at D⊢;show(aO _ rfl (Zf D▸N))
  ·rw[Zi z]at D⊢;show Q D
def fW(h:RI c.Aa c.w c.nm O y l)(D:Sx n l=none):getL (c.nm n) y=some none:=by
 induction h with
 |nil=>rfl
 | @cons e y m t f l a N b Q=>
  replace D:=(aq _ _ _)▸D;rw[iM a];by_cases z:n=m
  ·replace D:=(Zk z)▸D;cases D
  ·rw[Zi z]at D⊢;show Q D
def RI.len(h:RI c.Aa c.w c.nm O y l):y.length=l.length:=by
 induction h with
 |nil=>rfl
 |cons _ _ _ Q=>show T3 (· +1) Q
def abY(Z:RV c.Aa c.w O u v)(h:RI c.Aa c.w c.nm O y l):
  RI c.Aa c.w c.nm O (putL (c.nm n) N (.str (c.nm n) t) u y) (put n v l):=by
 induction h with
 |nil=>show .cons rfl Z .nil
 | @cons e y m i f l D a b Q=>
  rw[ko];unfold putL;rw[D,kH];by_cases z:n=m
  ·rw[Zk z];simp only[z,if_true];show .cons rfl Z b
  ·rw[Zi z];simp only[z,decide_false];show .cons D a Q
variable {g:G}{K:Frag}{L:Loc}{J:St}{s:Ww}{A:Wz}{v:Wv}{x:V}
def jt(U:h.get? a=some (FE C (some u)))(N:h.get? u=some (dictOf y n)):InstAt h a (FE C (some u)) C (some (dictOf y n)):=⟨U,rfl,rfl,N⟩
def CO.cd(h:CO K C):∃cd,clsIn K C=some cd/\cd.hasDict=true:=any_some h.hd
def kP(h:CO K C)(j:findIn K (.ref C) nm=some none)(Q:getL nm y=some (some u)):findObj K C (some (dictOf y n)) nm=some (.value u):=by
 show aA h.cd λcd U N=>?_;unfold findObj;rw[U,j,Ys];unfold W.ownOf;rw[Zk N];change(lookIn nm (dictOf y n)).bind _=_;rw[lookIn_dict,Q];rfl
def tW(h:CO K C)(m:Hv K C f nm)(Q:getL nm y=some none):findObj K C (some (dictOf y n)) nm=some (.bind (.builtin "function.__get__") (.ref f)):=by
 show aA h.cd λcd U N=>?_;unfold findObj;rw[U,m.fi,Ys,Ys];dsimp only;rw[m.ge,Ys];dsimp only
 (show m.ta▸ ?_;rw[Ys])
 unfold W.ownOf;rw[Zk N];change(lookIn nm (dictOf y n)).bind _=_;rw[lookIn_dict,Q,Ys];show m.co▸ ?_;rfl
def tX(h:CO K C)(e:copiedNames.contains nm=false)(j:findIn K (.ref C) nm=some (some u))(b:specialIn K u "__get__"=some none)(a:handedIn u=true)
  (Q:getL nm y=some none):findObj K C (some (dictOf y n)) nm=some (.value u):=by
 show aA h.cd λcd U N=>?_;unfold findObj;rw[U,j,Ys,Ys];dsimp only;rw[b,Ys];rw[Ys];unfold W.ownOf;rw[Zk N];change(lookIn nm (dictOf y n)).bind _=_;rw[lookIn_dict,Q,Ys];show e▸ ?_;simp[a]
def sr(X:K.In c.base)(Y:FX c K g)(r:Rel c O L J s)(N:RV c.Aa c.w O v x)(h:GB g x n J k)(j:B2 c L O s k Q):
  wpAny (model c.Aa c.w) A (getAttr v (c.nm n) b) Q Bl s:=by
 have l:=X.keeps r.bN;induction x using V.casesOn with
 |c f=>show False.elim h
 |E9 f i=>show False.elim h
 |st a=>
  subst N;obtain⟨z,P,B⟩:=ak h;obtain⟨C,G,od,u,U,E,D,h4,M,h6⟩:=Y.FA a n z P;show get_value l (show InstAt s.heap a (FE C (some G)) C (some od) from⟨l _ _ U,rfl,rfl,l _ _ E⟩) D.ga h4 M (j O J _ u z (.toks _ _) r.dX (jZ r h6) B)
 |ob i=>
  show aX N λa ft e w=>?_;clear N;subst w;obtain⟨o,q,h⟩:=ak h;induction o using AO.casesOn with
  |inst C dd=>
   show aK (r.ob e q) λG es m hft R U E D=>?_;have I:=jt U E;have h:G5 g i n J k C dd:=h;unfold G5 at h;cases P:Sx n dd with
   |some z=>
    rw[P]at h;show zA (qJ h) λho h=>zA (Y.own C n ho) λZ p=>aA (fV D P) λu g1 g2=>get_value l I Z.ga (kP Z p g1) (qO g2) (j O J _ u z (.toks _ _) r.dX g2 h)
   |none=>
    rw[P]at h;have F:=fW D P;cases t:g.cls C n with
    |some y=>
     rw[t]at h;show zA (Y.cls C n y t) λZ p=>get_bind l I Z.ga (tW Z p F) Z.gk (XI (fn_get l p.ty ?_));change wpAny _ _ (handedOut (.ref s.heap.objs.size)) _ _ _;rw[handedOut_of rfl];show ZE (zA (r.dX.mZ rfl) λr1 T=>j _ J _ _ (.E9 y i) ((Ext.toks false (s.toks+1)).trans r r.dX T) r1 (b4 _ a ft rfl (Zk rfl) e) h)
    |none=>
     rw[t]at h;obtain⟨z,d,B⟩:=ak h;obtain⟨Z,p,u,S,W,H,c6⟩:=Y.Gy C n z d;show get_value l I Z.ga (tX Z p S W H F) H (j O J _ u z (.toks _ _) r.dX (jZ r c6) B)
  |_=>show h.elim
end
def GV(h:WH)(j:List WD):List (WD×Obj):=(List.range h.objs.size).filterMap λa=>if a∈j then none else(h.get? a).map λo=>(a,o)
def dK:p∈GV h j↔p.1∉j/\h.get? p.1=some p.2:=by
 rw[propext List.mem_filterMap];constructor
 ·rintro ⟨a,_,e⟩;split at e
  ·show aw e
  ·rename_i q;show aA (Option.map_eq_some_iff.mp e) λo U P=>?_;clear e;subst P;show⟨q,U⟩
 ·rintro ⟨b,N⟩;show(aO p.1 (List.mem_range.mpr (Yk N)) ?_)
  (rw[Zi b];show N▸ ?_);rfl
def fr0(N:h.Ns L m):Fr {} L h m:=⟨N,λb o e=>by simp[Heap.get?]at e,ZF _⟩
def adu(a:WD):({}:WH).get? a=none:=by simp[Heap.get?]
def yx(v:L∈bad):News {} L h (GV h bad):=λp j=>
 have h:=dK.mp j;⟨h.2,λe=>h.1 (e▸v),adu _⟩
def za{ft:List WD}(l:List WD)(e:g.φ i=some (a,ft)):Le false g (g.at i (a,l)):=
 ⟨λf f e=>e,λj b h Z f=>by
  by_cases z:j=i
  ·subst z;replace Z:=e▸Z;cases Z;show⟨l,by show Gh.bf⟩
  ·show⟨h,(Gh.bc (z)).trans Z⟩⟩
def rY(x:Wu)(N:Int)(k v:Wv):∀y:List WC,(putL x N k v y).length<=y.length+1:=by
 intro y;induction y with
 |nil=>
  show Zq _
 |cons e r Q=>
  unfold putL;split
  ·simp
  ·simpa using Q
section
variable {c:Cx}{g:G}{K:Frag}{O:Gh}{L:Loc}{J:St}{s:Ww}{A:Wz}
def aae(X:K.In c.base){a C:WD}{ft:List WD}{d:Tw}{v:V}{Q:Unit->Ww->Prop}(r:Rel c O L J s)(e:O.φ i=some (a,ft))(q:Sx i J.H=some (.inst C d))
  (G:CO K C) (c2:findIn K (.ref C) (c.nm n)=some none) (hw:RV c.Aa c.w O u v) (hdl:d.length<=900)
  (hQ:∀l S,Ext false L O s l S->Rel c l L (As J (put i (.inst C (put n v d)) J.H)) S->Q () S):wpAny (model c.Aa c.w) A (setAttr (.ref a) (c.nm n) u) Q Bl s:=by
 have W:=X.keeps r.bN;show aK (r.ob e q) λk F m Z D U Y B=>?_;have I:=jt U Y;show aA r.loc.nm λmm N hm=>?_;have M:∀ {x},¬L.CN x->x≠L.ns:=λh q=>h (q▸Loc.cx);have E:(lookIn (c.nm n) (dictOf F m)).isSome=true:=by
  rw[lookIn_dict];cases z:Sx n d with
  |none=>rw[fW B z];rfl
  |some v=>show aA (fV B z) λu g1 uu=>?_;rw[g1];rfl
 have j:=r.off k (ay i a ft e (by rw[Z];show .tail _ (.head _)));have N0:News {} L.ns s.heap ([]++(k,dictOf F m)::GV s.heap [k,L.ns]):=λp t=>by
  rcases Zb (t)with rfl|t
  ·show⟨Y,M j.2.1,adu _⟩
  ·show yx (.tail _ (.head _)) p t
 show set_plain W I G.sa (osa_dict (fr0 N) N0 W I rfl G.po (by unfold takerIn;show c2.symm▸ ?_;rfl) G.hd E (λuu h=>(Yl h).elim) (λp t=>?_)
  (putName_dict _ _ _ _ _ _) rfl (Zh (rY _ _ _ _ F) (by show B.len.symm▸ ?_;lia)) λh' F' T=>?_)
 ·intro z;show((dK.mp t).1) (by show z.symm▸ ?_;show .head _)
 ·have w:∀x o,x≠L.ns->x≠k->s.heap.get? x=some o->h'.get? x=some o:=λx o H b R=>
   (T (x,o) (Xl _ (.tail _ (dK.mpr ⟨by simp[H,b],R⟩)))).1
  have b:=(T (k,_) (Xl _ (.head _))).1;have f:=r.off a (ay i a ft e (by rw[Z];show .head _));show zA (r.change (o':=.inst C (put n v d)) (ft':=ft) (tk:=s.toks+1+1) (YB _) e
   (λx o H R P=>w x o H (λz=>P (by(rw[Z];show z▸ ?_);show .tail _ (.head _))) R) (λx P=>.inl P)
   (λx P=>by
    replace P:=Z▸P;rcases Zb P with rfl|P
    ·show(yE _ (w _ _ (M f.2.1) D U))
    ·show(Za P)▸(yE _ b))
   (r.loc.via F'.ns hm λy hy q o e=>w y o q (λz=>j.2.1 (z▸hy)) e)
   (aM k _ _ Z D (w _ _ (M f.2.1) D U) b ((abY hw B).mono (za ft e)))) λr1 x1=>?_
  show hQ _ _ x1 r1
def cQ(h:AU o=true)(n:Wu)(env:Env)(t:Sem Wv):attributeBase o n env t=t:=by
 cases o with
 |Call f U z pos=>
  cases f with
  |Name x q=>
   cases U with
   |nil=>cases z with
    |nil=>
     change(if(x !="super"||_||_||_)=true then(do return←t)else _)=t;rw[show(x !="super")=true from h,Zk rfl]
    |cons _ _=>rfl
   |cons _ _=>rfl
  |_=>first|rfl|cases h
 |_=>first|rfl|cases h
variable {f:Fm}{d:Nat}
def abU(t:K.In c.base)(Y:FX c K g)(F:AU e=true)(q:c.nm n=nm)(h:SE c g f d x e):SE c g f d (.Bb x n) (.Attribute e nm pos):=by
 intro O J s A k Q r E o C;rw[arm_eval_Attribute,cQ F, ←q];show Zn (h O J s A _ _ r E o λZ p l v a i U B m=>Zn (Yz (Zn (ZY (sr t Y U B m λj z P u b N D w m=>Zn (wpAny_letTemporaryGo (ZE (C j z P u b (i.trans r U N) D w m))))))))
def SL(c:Cx)(g:G)(f:Fm)(d:Nat)(x:X)(y:List WE):Prop:=
 ∀O J s A (k:TA->TF) (Q:TN->Ww->Prop) pos,Rel c O f.L J s->Ay f.L d A->SU g x J k->
  (∀l Z j a u,Ext false f.L O s l j->Rel c l f.L Z j->Cw c.Aa c.w l a u->k u Z->Q a j)->wpAny (model c.Aa c.w) A (spliced (backTo pos (starEach y f.env))) Q Bl s
def eE(h:BU e=true)(y:List WE)(env:Env):starEach (e::y) env=(false,eval e env)::starEach y env:=by
 obtain⟨⟩:=e<;>first|rfl|cases h
def abG:SL c g f d .nil []:=by
 intro O J s A k Q pos r l N j;show wpAny_items_nil (j O J s [] [] (.refl _ _ _ _) r .nil N)
def ya(C:BU e=true)(h:SE c g f d x e)(B:SL c g f d y es):SL c g f d (.cons x y) (e::es):=by
 intro O J s A k Q pos r p o w;rw[eE C];show Zn (h O J s A _ _ r p o λZ b l v a i U q n=>Zn (ZE (Zn (ZY (B Z b l A _ _ pos U p n λj z P t u N D m n=>ZE (w j z P (v::t) (a::u) (i.trans r U N) D (.cons (q.mono N.le) m) n))))))
def abZ{O:Gh}:∀ {U:TO} {l:TG},RD c.Aa c.w O U y->G1 y=some l->Eh c.Aa c.w O.F U l:=by
 induction y with
 |nil=>
  intro U l Sh h;cases Sh;obtain rfl:=Zf h;show .nil
 |cons e y Q=>
  intro U l Sh h;cases Sh with
  |cons N D=>
   show aA (ax h) λf a h=>?_;show aA (aZ h) λu Z P=>?_;clear h;subst P;obtain rfl:=f7 a;show .cons N (Q D Z)
def ja{O:Gh}(r:Rel c O L J s)(N:RV c.Aa c.w O v x)(h:HS J.H x=some p):
  ∃b,Ext false L O s b s/\Rel c b L (As J p.2) s/\RF c.Aa c.w b.F v p.1:=by
 induction x using V.casesOn with
 |c f=>obtain rfl:=Zf h;show(ck O (.refl _ _ _ _) r N)
 |st _=>show aw h
 |E9 _ _=>show aw h
 |ob i=>
  show aX N λa ft e k=>?_;clear N;subst k;show aA (ax h) λo q h=>?_;have Q:=r.ob e q;induction o using AO.casesOn with
  |Av f=>obtain rfl:=Zf h;show(ck O (.refl _ _ _ _) r Q.2)
  |lst l=>
   obtain rfl:=Zf h;show bI Q λz o Z U B D A=>?_;clear Q;subst z;show bM (r.freeze e U λP w m=>.lst m B (Ba.mono w.F D) A) λP u t j=>(ck P t u j)
  |An y=>
   show aA (aZ h) λl G n=>?_;clear h;subst n;show bQ Q λz o E U F B D A=>?_;clear Q;subst z;have C:=abZ D G;show bM (r.freeze e U λP w m=>.An m F B (Eh.mono w.F C) (by rw[←C.len,D.len];show A)) λP u t j=>(ck P t u j)
  |_=>show aw h
def mG(h:HS H x=some p)(hi:Sx i H=some (.An l))(a:G1 l=none):Sx i p.2=some (.An l):=by
 induction x using V.casesOn with
 |c f=>obtain rfl:=Zf h;show hi
 |st _=>show aw h
 |E9 _ _=>show aw h
 |ob j=>
  show aA (ax h) λo q h=>?_;induction o using AO.casesOn with
  |Av f=>obtain rfl:=Zf h;show hi
  |lst u=>
   obtain rfl:=Zf h;rw[ao];by_cases z:i=j
   ·replace hi:=z▸hi;replace hi:=q▸hi;show aw (T3 FJ hi.symm)
   ·show(Zi z).trans hi
  |An u=>
   show aA (aZ h) λA U P=>?_;clear h;subst P;rw[ao];by_cases z:i=j
   ·replace hi:=z▸hi;replace hi:=q▸hi;cases hi;replace U:=a▸U;show aw U
   ·show(Zi z).trans hi
  |_=>show aw h
def kN:∀ {l:TG} {H:Tx} {p:TG×Tx},G1 y=some l->HR y H=some p->p.2=H:=by
 induction y with
 |nil=>intro l H p _ h;obtain rfl:=Zf h;rfl
 |cons e y Q=>
  intro l H p b h;show aA (ax b) λf U u=>aA (aZ u) λi Z m=>aA (ax h) λq D a=>?_;show aA (aZ a) λz N P=>?_;clear h a;subst P;obtain⟨k,v⟩:=e;obtain rfl:=f7 U;obtain rfl:=Zf D;show Q (p:=z) Z N
def oi:∀ {J:St} {p:TG×Tx} {O:Gh} {U:TO},Rel c O L J s->RD c.Aa c.w O U y->HR y J.H=some p->
  ∃a,Ext false L O s a s/\Rel c a L (As J p.2) s/\Eh c.Aa c.w a.F U p.1/\(∀i l,Sx i J.H=some (.An l)->G1 l=none->Sx i p.2=some (.An l)):=by
 induction y with
 |nil=>
  intro J p O U rel Sh h;cases Sh;obtain rfl:=Zf h;show(aY O (.refl _ _ _ _) rel .nil λZ Z e Z=>e)
 |cons e y o=>
  intro J p O U rel Sh h;cases Sh with
  |cons N D=>
   show aA (ax h) λq n h=>?_;show aA (aZ h) λz r P=>?_;clear h;subst P;show bM (ja rel N n) λg1 k j Q=>bO (o j (D.mono k.le) r) λg2 m A b k2=>(aY g2 (k.trans rel j m) A (.cons (RF.mono m.le.F Q) b) λi l hi u=>k2 i l (mG n hi u) u)
def eI{O:Gh}(r:Rel c O L J s)(N:RV c.Aa c.w O v x)(h:Av J.H x=some p):
  ∃b,Ext false L O s b s/\Rel c b L (As J p.2) s/\RF c.Aa c.w b.F v p.1:=by
 induction x using V.casesOn with
 |c f=>show ja r N h
 |st _=>show aw h
 |E9 _ _=>show aw h
 |ob i=>
  show aA (ax h) λo q k=>?_;induction o using AO.casesOn with
  |Av f=>show ja r N ((T3 (λo=>Af o _) q).trans k)
  |lst l=>show ja r N ((T3 (λo=>Af o _) q).trans k)
  |inst=>show aw k
  |An m=>
   show aA (aZ k) λz U P=>?_;obtain⟨rr,j⟩:=z;clear h k;subst P;show aX N λa ft e n=>?_;clear N;subst n;show bQ (r.ob e q) λR o I G W h2 E T=>bO (oi r E U) λg1 w D Q A=>?_;have A:Sx i j=some (.An m):=by
    cases C:G1 m with
    |none=>show A i m q C
    |some l=>
     rw[show j=J.H from kN C U];show q
   show bA (D.obs i _ A) λa2 F Z y uu=>zE (w.le.f e) λM t=>?_;replace Z:=t▸Z;cases Z;subst y;show bM (D.freeze t G λB X H=>.An H W h2 (Eh.mono X.F Q) (by rw[←Q.len,E.len];show T)) λB u S Y=>(ck B (w.trans r D S) u Y)
def oh:∀ {J:St} {p:Tz×Tx} {O:Gh} {Z:TN},Rel c O L J s->Cw c.Aa c.w O Z u->Ja u J.H=some p->
  ∃l,Ext false L O s l s/\Rel c l L (As J p.2) s/\Ba c.Aa c.w l.F Z p.1:=by
 induction u with
 |nil=>
  intro J p O Z rel Sh h;cases Sh;obtain rfl:=Zf h;show(ck O (.refl _ _ _ _) rel .nil)
 |cons x u e=>
  intro J p O Z rel Sh h;obtain⟨v,t,rfl,N,D⟩:=Sh.inv;show aA (ax h) λq U h=>?_;show aA (aZ h) λz i P=>?_;clear h;subst P;show bM (eI rel N U) λg1 a j Q=>bM (e j (D.mono a.le) i) λg2 b A y=>(ck g2 (a.trans rel j b) A (.cons (RF.mono b.le.F Q) y))
def bz{n m:Nat}(h:ble n m=true):n<=m:=ZQ h
def abH(h:SL c g f d x v):SE c g f d (.tup x) (.Tuple v j pos):=by
 intro O J s A k Q r o N n;show wpAny_Tuple (h O J s A _ _ pos r o N λZ b l q t z U y D=>?_);obtain⟨p,a,D⟩:=ak D;show bM (oh U y a) λg2 i r2 e=>zA (qJ D) λu D=>?_
 ·have u:=bz u;show⟨by rw[e.len,YE];lia,?_⟩;show zA (r2.mZ rfl) λm P=>n _ _ _ _ (.c (.tup p.1)) ((z.trans r U i).trans r r2 P) m (dq (.tup ?_ ⟨0,rfl⟩ (Ba.mono P.le.F e) (by lia))) D;change(if l.heap.objs.size=l.heap.objs.size then _ else _)=_;rw[Zk rfl]
def abP(h:SL c g f d x v):SE c g f d (.lst x) (.List v pos):=by
 intro O J s A k Q r o N n;show wpAny_List (h O J s A _ _ pos r o N λZ U l m q z a y D=>?_);obtain⟨p,b,D⟩:=ak D;show bM (oh a y b) λg2 e r2 j=>zA (qJ D) λu D=>?_
 ·have u:=bz u;show⟨by rw[j.len,YE];lia,?_⟩;show zA (r2.alloc (o':=.lst p.1) rfl
   ⟨rfl,bG _ m (ZL _ rfl) (yE 0 rfl) j (by lia)⟩) λi P=>?_
  show n _ _ _ _ (.ob U.m) ((z.trans r a e).trans r r2 P) i (aU l.heap.objs.size [l.heap.objs.size] ?_ rfl) D;change(if U.m=U.m then _ else _)=_;rw[Zk rfl]
def RD.stored(a:RV c.Aa c.w O u x)(h:RD c.Aa c.w O U l)(j:(U.map (·.1)).Nodup):
  RD c.Aa c.w O (stored U (CH k) u) (Gu k x l):=by
 induction h with
 |nil=>show .cons a .nil
 | @cons v Z P y l N D Q=>
  replace j:=Ye▸j;replace j:=(propext List.nodup_cons)▸j;change RD _ _ _ _ (Bool.rec ((P,y)::Gu k x l) ((P,x)::l) (Cn k P):TH);rw[aE];by_cases z:k=P
  ·subst z;unfold PySem.stored;rw[Zk (by simp),Ye,Zk rfl,map_store_of_not_mem Z (CH k) u j.1];simp only[decide_true];show .cons a D
  ·have A:=λe=>z (eG e).symm;have e:PySem.stored ((CH P,v)::Z) (CH k) u=(CH P,v)::PySem.stored Z (CH k) u:=by
    unfold PySem.stored;rw[List.any_cons,Zs A,Bool.false_or];split
    ·rw[Ye,Zi A]
    ·rfl
   simp only[z,decide_false];rw[e];show .cons N (Q j.2)
def iZ{k:Wu}(h:(U.map (·.1)).Nodup):((PySem.stored U k v).map (·.1)).Nodup:=by
 unfold PySem.stored;split
 ·have:(U.map λu=>if u.1=k then(u.1,v)else u).map (·.1)=U.map (·.1):=by
   rw[Y9];show List.map_congr_left λx Z=>?_;change(if x.1=k then(x.1,v)else x).1=x.1;split<;>rfl
  rw[this];show h
 ·rename_i j;rw[Z7,propext List.nodup_append];show⟨h,by show kwDistinct_nodup rfl,λa Q b i=>?_⟩;obtain rfl:b=k:=by simpa using i
  intro e;clear i;subst e;show aA (Y3.mp Q) λp m P=>?_;subst P;show j (Wm.mpr (aO p m (of_decide_eq_self_eq_true p.fst)))
def RD.merged(h:RD c.Aa c.w O more y):∀ {kvs:TO} {l:TH},RD c.Aa c.w O kvs l->(kvs.map (·.1)).Nodup->
  RD c.Aa c.w O (merged kvs more) (y.foldl (λa p=>Gu p.1 p.2 a) l)/\((merged kvs more).map (·.1)).Nodup:=by
 induction h with
 |nil=>intro kvs l h j;show⟨h,j⟩
 | @cons v Z k x y N D Q=>
  intro kvs l h j;show Q (h.stored N j) (iZ j)
def Rel.push(r:Rel c O L J s)(o:Obj):Rel c O L J {s with heap:=s.heap.push o}:=by
 have D:∀x N,s.heap.get? x=some N->(s.heap.push o).get? x=some N:=λx N e=>Zw _ e;show⟨λx N e=>D x N (r.Av x N e),λj N Q=>?_,r.sep,λx P=>?_,r.nL,r.loc.step (.refl _ _) λx Z=>av (D x),r.new,r.DY,r.CZ,r.base,r.Lb,r.tk⟩
 ·show aX (r.obs j N Q) λb l e a=>(aU b l e (a.step (.refl _ _) λx Z o A=>D x o A))
 ·show cV (r.off x P) λu v N w=>⟨u,v,yE N (D x N w)⟩
def Ext.push(o:Obj):Ext false L O s O {s with heap:=s.heap.push o}:=
 ⟨.refl _ _,λZ Z e Z Z=>Zw _ e,.of λZ Z Z e=>Zw _ e,λZ h=>.inl h,λZ Z h=>.inl h,GK.refl _,rfl,rfl⟩
def Rel.adopt(r:Rel c O L J s){tk:Nat}(X:0<tk)(Y:∃o,s.heap.get? D=some o)(E:O.F D=none)(F:¬L.CN D)(H:¬AD O D)(V:Heap.SameBut D s.heap h')(t:∃o,h'.get? D=some o)
  (W:RO c.Aa c.w c.nm (O.at J.m (D,[D])) h' D [D] o'):
  Rel c (O.at J.m (D,[D])) L ⟨J.L,(J.m,o')::J.H,J.m+1,J.vl⟩ {s with heap:=h',toks:=tk}/\Le false O (O.at J.m (D,[D]))/\
   (∀x o,s.heap.get? x=some o->x≠D->h'.get? x=some o):=by
 have R:∀ {j:Nat} {p:WD×List WD},O.φ j=some p->j≠J.m:=λe q=>by rw[q,r.new J.m (Zq _)]at e;show aw e
 have B:Le false O (O.at J.m (D,[D])):=⟨λG G e=>e,λj b l e G=>(yE l ((Gh.bc (R e)).trans e))⟩
 have n:∀x N,s.heap.get? x=some N->x≠D->h'.get? x=some N:=λx N e q=>(V.2 x q).trans e;have U:∀ {j:Nat} {b:WD} {l:List WD},O.φ j=some (b,l)->∀x∈l,x≠D:=λe x m q=>H (ay _ _ _ e (q▸m));show⟨⟨λx N e=>n x N (r.Av x N e) λq=>?_,λj N Q=>?_,λj k b l d fd Q y i x a h=>?_,λx C=>?_,r.nL,?_,λj Q=>?_,Y4 r.DY,λj p Q Z=>?_,r.base,r.Lb,X⟩,B,n⟩
 ·have e:O.F x=some N:=e;rw[q,E]at e;show aw e
 ·have P:=Q;rw[aq]at P;by_cases q:j=J.m
  ·rw[Zk q]at P;clear Q;obtain rfl:=Zf P;show(aU _ _ (by show q▸ ?_;show Gh.bf) W)
  ·rw[Zi q]at P;show aX (r.obs j N P) λb l e M=>(aU b l ((Gh.bc (q)).trans e) (M.step B λx m o S=>n x o S (U e x m)))
 ·by_cases q:j=J.m<;>by_cases A:k=J.m
  ·show i (q.trans A.symm)
  ·have T:=Gh.bf.symm.trans (q▸Q);cases T;show U (show O.φ k=some (d,fd) from(Gh.bc A).symm.trans y) x h (Za a)
  ·have I:some (D,[D])=some (d,fd):=Gh.bf.symm.trans (A▸y);cases I;show U (show O.φ j=some (b,l) from(Gh.bc q).symm.trans Q) x a (Za h)
  ·show r.sep j k b l d fd (show O.φ j=some (b,l) from(Gh.bc q).symm.trans Q) (show O.φ k=some (d,fd) from(Gh.bc A).symm.trans y) i x a h
 ·rcases C.at_ with z|⟨j,b,l,_,e,z⟩
  ·show(Za z).symm▸⟨E,F,t⟩
  ·show cV (r.off x (ay j b l e z)) λu v o w=>⟨u,v,yE o (n x o w (U e x z))⟩
 ·show r.loc.step B λx m=>av λo e=>n x o e λq=>F (q▸m)
 ·change(if j=J.m then _ else O.φ j)=none;rw[Zi (show j≠J.m from Nat.ne_of_gt (Nat.lt_of_succ_le Q))];show r.new j (Yj Q)
 ·change∃o,Sx j ((J.m,o')::J.H)=some o;rw[aq];by_cases q:j=J.m
  ·show(yE o' (by rw[Zk q]))
  ·rw[Zi q];show r.CZ j p ((Gh.bc q).symm.trans Q) Z
end
inductive RP (pG:WA) (w:Wy) (g:Gh):List (Wv×Wv)->TA->Prop
 |nil:RP pG w g [] []
 |cons {k v:Wv} {ps:List (Wv×Wv)} {a b:V} {xs:TA}:RV pG w g k a->RV pG w g v b->RP pG w g ps xs->RP pG w g ((k,v)::ps) (a::b::xs)
def qH(h:HT (a::b::u)=some y):∃k r,a=.c (.str k)/\HT u=some r/\y=(k,b)::r:=by
 show aA (ax (f:=λf=>Af (aS f) λk=>BK (HT u) λr=>(k,b)::r) h) λf e h=>aA (ax h) λk U h=>aA (aZ h) λr Z h=>(a8 k r ((f7 e).trans (T3 V.c (qN U))) Z h.symm)
def RP.xw{N:WA}(h:RP N w g D u):∀ {y:TH},HT u=some y->
  ∃U,Carries (PySem.strKind N w) D U/\RD N w g U y:=by
 induction h with
 |nil=>intro y h;obtain rfl:=Zf h;show(aO [] trivial .nil)
 | @cons k v D a b u Q i o m=>
  intro y h;show bA (qH h) λk r P e j=>?_;clear h;subst P j;show aA (m e) λU Z n=>?_;obtain⟨t,rfl,_⟩:=RF.x Q;show(aO ((CH k,v)::U) ⟨fU k t,rfl,Z⟩ (.cons i n))
section
variable {c:Cx}{g:G}{K:Frag}{f:Fm}{d:Nat}
def SP(c:Cx)(g:G)(f:Fm)(d:Nat)(x:X)(y:List (Option WE))(a:List WE):Prop:=
 ∀O J s A (k:TA->TF) (Q:List (Wv×Wv)->Ww->Prop) pos,Rel c O f.L J s->Ay f.L d A->SU g x J k->
  (∀l Z j D u,Ext false f.L O s l j->Rel c l f.L Z j->RP c.Aa c.w l D u->k u Z->Q D j)->wpAny (model c.Aa c.w) A (evalPairs (pairTrees y a f.env pos)) Q Bl s
def abF:SP c g f d .nil [] []:=by
 intro O J s A k Q pos r l N j;show ZE (j O J s [] [] (.refl _ _ _ _) r .nil N)
def xZ(h:SE c g f d x e)(R:SE c g f d y e')(C:SP c g f d z ks vs):SP c g f d (.cons x (.cons y z)) (some e::ks) (e'::vs):=by
 intro O J s A k Q pos r E G L;show Zn (h O J s A _ _ r E G λZ p B u a w i H q=>Zn (ZY (Zn (R Z p B A _ _ i E q λj o P v b N D I q=>Zn (Yz (ZE (Zn (ZY (C j o P A _ _ pos D E q λm l n S M U t F q=>ZE ?_)))))))));show L m l n _ (a::b::M) ((w.trans r i N).trans r D U) t (.cons (H.mono (N.trans i D U).le) (I.mono U.le) F) q
def abR(v:y.all (·.isSome)=true)(G:y.length=vs.length)(h0:y≠[])(u:y.length<=15)(h:SP c g f d x y vs):
  SE c g f d (.An x) (.Dict y vs pos):=by
 intro O J s A k Q r rm hev hp;have H:s.heap.get? s.heap.objs.size=none:=aF (Zq _);have t:(s.heap.push emptyDict).get? s.heap.objs.size=some emptyDict:=ZL _ rfl;show cu (r.free H) λhF0 E p=>wpAny_Dict_any v G h0 u (ZT (wpAny_evalPairs_len (h O J _ A _ _ pos (r.push emptyDict) rm hev λZ U m ps xs a i B D=>(cg Z U xs a i B D))) (λps m hh=>?_) λF F z=>z);obtain⟨N,Z,U,xs,a,i,B,D⟩:=hh;rw[pairTrees_length y vs f.env pos v G]at N;obtain⟨es,hes,D⟩:=ak D;show aA (B.xw hes) λn cc Sh=>?_;have P:=a.keep _ _ t (λz=>E z.has) p;have T:Z.F s.heap.objs.size=none:=by
  cases q:Z.F s.heap.objs.size with
  |none=>rfl
  |some o=>
   rcases a.fF _ o q with z|z|z
   ·rw[hF0]at z;show aw z
   ·show(p z).elim
   ·replace z:=t▸z;cases z
 have hf1:¬AD Z s.heap.objs.size:=λz=>by
  rcases a.fp _ z with z|z
  ·show p z
  ·replace z:=t▸z;cases z
 have I:n.length<=15:=by rw[cc.length,N];show u
 show wpAny_storeAll (knd:=PySem.strKind c.Aa c.w) ps n [] m _ cc (show m.heap.DictOf (PySem.strKind c.Aa c.w) s.heap.objs.size [] from(cF emptyDict (#[]) 0 P ⟨rfl,rfl,rfl⟩ rfl (λF he=>by simp at he) .nil List.nodup_nil)) (by rw[YE];simp;lia) λh' R W=>aA (Di.of R) λo C L=>zA (Sh.merged (kvs:=[]) (l:=[]) .nil List.nodup_nil) λm1 m2=>?_;have Y:(Nu es).length<=16777216:=by
  have e1:=m1.len;have e2:=merged_length_le ([]:TO) n;unfold Nu;simp only[ZW]at e2;show Zh (Zz e1.symm) (Zh e2 (Zh (Zz (Wb _)) (Zh I (by ext))))
 have lea:Le false Z (Z.at U.m (s.heap.objs.size,[s.heap.objs.size])):=⟨λF F e=>e,λj b S e F=>(yE S (by
  have:j≠U.m:=λq=>by rw[q,i.new U.m (Zq _)]at e;show aw e
  show(Gh.bc (this)).trans e))⟩
 have hsm:s.heap.objs.size≠sysModules:=by
  show zE r.dT λo hL=>?_;show Nat.ne_of_gt (ZJ (ZJ (by decide:1<2) c.G4) (Zh r.Lb (Yo (Yk hL))))
 show cu (i.adopt (o':=.An (Nu es)) (tk:=m.toks+ps.length) (ZJ i.tk (ZR _ _)) (yE _ P) T E hf1 W (yE o C) ⟨rfl,bj o _ C hsm L (m1.mono lea) Y⟩) λr2 l2 k2=>hp _ _ _ (.ref s.heap.objs.size) (.ob U.m) ⟨a.le.trans l2,λx o e G hn=>?_,λx M o e=>?_,λx M=>?_,λx o e=>?_,a.gens,a.os,a.drawn⟩ r2 (aU s.heap.objs.size [s.heap.objs.size] ?_ rfl) D
 ·show k2 x o (a.keep x o (Zw _ e) G hn) λz=>?_;rw[z,H]at e;show aw e
 ·show aA (a.EN x M o (Zw _ e)) λV e' sl=>?_;show(aO V (k2 x V e' λz=>(by rw[z,H]at e;show aw e)) sl)
 ·rcases M.at_ with z|⟨j,b,S,_,e,z⟩
  ·rw[Za z];show .inr H
  ·rcases a.fp x (ay j b S e z)with w|w
   ·show .inl w
   ·show .inr (c9 (λo C=>(yE o (Zw _ C))) w)
 ·rcases a.fF x o e with w|w|w
  ·show .inl w
  ·show .inr (.inl w)
  ·show .inr (.inr (c9 (λo C=>(yE o (Zw _ C))) w))
 ·change(if U.m=U.m then _ else _)=_;rw[Zk rfl]
def RL(N:WA)(w:Wy)(g:Gh)(a:Flow)(b:Fl):Prop:=
 Fl.casesOn (motive:=λZ=>Prop) b (a=.next) (a=.brk) (a=.cont) λx=>∃v,a=.ret v/\RV N w g v x
variable {p:CP}{Sy:TP}{mg mb:Wu->TM}
def FW(c:Cx)(L:Loc)(O:Gh)(s:Ww)(k:TB)(Q:Flow->Ww->Prop):Prop:=
 ∀l Z j a b,Ext L.vl L O s l j->Rel c l L Z j->RL c.Aa c.w l a b->k b Z->Q a j
def SS(c:Cx)(g:G)(f:Fm)(d:Nat)(x:S)(st:WG):Prop:=
 ∀O J s A k Q,Rel c O f.L J s->Ay f.L d A->ex g x J k->FW c f.L O s k Q->wpAny (model c.Aa c.w) A (exec st f.env) Q Bl s
def SB(c:Cx)(g:G)(f:Fm)(d:Nat)(x:S)(l:List WG):Prop:=
 ∀O J s A k Q,Rel c O f.L J s->Ay f.L d A->ex g x J k->FW c f.L O s k Q->wpAny (model c.Aa c.w) A (execs l f.env) Q Bl s
def xN:SS c g f d .skip (.Pass pos):=by
 intro O J s A k Q r l N j;show wpAny_Pass (j O J s .next .AZ (.refl _ _ _ _) r rfl N)
def abE:SS c g f d .brk (.Break pos):=by
 intro O J s A k Q r l N j;show wpAny_Break (j O J s .brk .brk (.refl _ _ _ _) r rfl N)
def xO:SS c g f d .cont (.Continue pos):=by
 intro O J s A k Q r l N j;show wpAny_Continue (j O J s .cont .cnt (.refl _ _ _ _) r rfl N)
def abC(h:SE c g f d x e):SS c g f d (.ret x) (.Return (some e) pos):=by
 intro O J s A k Q r i N j;show wpAny_Return_some (h O J s A _ _ r i N λZ U l v a z b m D=>j Z U l (.ret v) (.ret a) z.w b (aO v rfl m) D)
def xM:SS c g f d (.ret (.k .Ak)) (.Return none pos):=by
 intro O J s A k Q r l N j;show wpAny_Return_none (j O J s (.ret .none) (.ret (.c .Ak)) (.refl _ _ _ _) r (aO _ rfl (dq .Ak)) N)
def adj(f:Fm):interactive f.env=false:=by
 change((f.cs.kind== .module)&&_)=false;show f.kind▸ ?_;rfl
def zv(h:Ci e=false)(n:Nat)(env:Env):swapsWith e none n env=pure false:=by
 obtain⟨⟩:=e<;>first|rfl|cases h
def eZ(h:Ci e=false)(t:WE)(n:Nat)(env:Env):swapsWith e (some t) n env=pure false:=by
 obtain⟨⟩:=e<;>first|rfl|cases h
def aeE(u:Ci e=false)(h:SE c g f d x e):SS c g f d (.ex x) (.Expr e pos):=by
 intro O J s A k Q r i N j;show wpAny_Expr_any (h O J s A _ _ r i N λZ U l v a z b m D=>j Z U l .next .AZ z.w b rfl D) (adj f) (zv u _ _)
def Hu(f:Fm)(x:Wu):Prop:=f.own=true/\BH f.cs x=true\/Fn f.cs x=true
def Hu.loc(h:Hu f x):BH f.cs x=true:=h.elim And.right λh=>by unfold BH;rw[h];rfl
def cN(Y:Ctx c K p Sy mg mb){O:Gh}(W:Hu f x)(C:p.code x=some n)(r:Rel c O f.L J s)(X:RV c.Aa c.w O v a)
  (hQ:∀j,Ext false f.L O s O j->Rel c O f.L (Bv J (put n a J.L)) j->Q () j):wpAny (model c.Aa c.w) A (storeName f.env x v) Q Bl s:=by
 show zA (Y.code x n C) λH uu=>?_;subst H;show aA r.loc.nm λm N hm=>?_;have F:∀ {t:WH} {G:Wu->TM} {w:Wv},f.L.Sh t G (c.nm n) w->RV c.Aa c.w O w a->(∀l k,l≠n->Sx l J.L=some k->∃w,f.L.Sh t G (c.nm l) w/\RV c.Aa c.w O w k)->∀l k,Sx l (put n a J.L)=some k->∃w,f.L.Sh t G (c.nm l) w/\RV c.Aa c.w O w k:=λ{t G w} U Z S l k e=>by
  replace e:=(ao _ _ _ _)▸e;by_cases q:l=n
  ·replace e:=(Zk q)▸e;obtain rfl:=Zf e;show(aO w (q.symm▸U) Z)
  ·replace e:=(Zi q)▸e;show S l k q e
 rcases kD W.loc with ⟨D,hn⟩|⟨b,D,U,Z⟩
 ·show wpAny_storeName_local D N (λt hN B=>?_) (by show f.kind▸ ?_;rfl);have kc:∀ {x:Wu} {b:WD} {u:TM},f.D0=some (x,b)->s.heap.IsCell b u->t.IsCell b u:=λ{x b u} e C=>by
   by_cases q:b=f.env.locals
   ·show cH N λo T ep U d uu=>aA C λSo Z P=>?_;replace Z:=q▸Z;cases U.symm.trans Z;replace P:=d▸P;cases P
   ·show bF C (av λo e=>(B.2 b q).trans e)
  show zA (r.store (tk:=s.toks+1) (YB _) (.inl (.head _)) B r.loc.nu
   ⟨aO _ hN (F (.inr ⟨hn,Zk rfl⟩) X λl k q e=>(hm l k e).elim λw h=>(aO w (h.1.imp (λ⟨b,U,Z⟩=>(aO b U (kc U Z))) λ⟨U,Z⟩=>⟨U,(Zi λz=>q (c.inj _ _ z)).trans Z⟩) h.2)),
    λx b e=>(r.loc.cell x b e).elim λu i=>(yE u (kc e i)),λu i=>(r.loc.up u i).step (av λo e=>(B.2 u λz:u=f.L.ns=>r.loc.nu (z▸i)).trans e),r.loc.nu⟩) λL I=>?_
  show hQ _ I L
 ·have S:f.own=true:=by
   rcases W with h|h
   ·show h.1
   ·have R:f.cs.names.lookup (c.nm n)=some .cell:=D;replace R:=(cz h)▸R;cases R
  show zE (r.loc.cell _ b U) λu i=>wpAny_storeName_cell f.kind D Z i λt C B=>?_;have M:b≠f.env.locals:=λq=>by
   show cH N λo T ep U d uu=>aA i λSo Z P=>?_;replace Z:=q▸Z;cases U.symm.trans Z;replace P:=d▸P;cases P
  have ne:∀l y,l≠n->f.L.D0≠some (c.nm l,y):=λl y q e=>q (c.inj _ _ (T3 Prod.fst (Zf (e.symm.trans U))));have E:b∉f.up:=λq=>by
   show bC (r.loc.up b q) λo T ep U d=>aA i λSo Z P=>?_;cases U.symm.trans Z;replace P:=d▸P;cases P
  show zA (r.store (n:=n) (v:=a) (tk:=s.toks) r.tk (.inr ⟨S,yE _ U⟩) B E
   ⟨aO m (fw N (av λo e=>(B.2 _ M.symm).trans e)) (F (.inl (aO b U C)) X λl k q e=>(hm l k e).elim λw h=>(aO w (.inr ⟨λy e=>ne l y q e,h.1.elim (λ⟨y,z,_⟩=>(ne l y q z).elim) And.right⟩) h.2)),
    λx y e=>by cases U.symm.trans e;show(yE _ C),λu i=>(r.loc.up u i).step (av λo e=>(B.2 u λz=>E (z▸i)).trans e),r.loc.nu⟩) λL I=>?_
  show hQ _ I L
def xX(Y:Ctx c K p Sy mg mb)(u:Ci e=false)(o:Hu f nm)(j:p.code nm=some n)(h:SE c g f d x e):
  SS c g f d (.Aj n x) (.Assign [.Name nm P] e pos):=by
 intro O J s A k Q r m b t;show wpAny_Assign_Name (h O J s A _ _ r m b λZ i l v a z U q w=>?_) (eZ u _ _ _);show cN Y o j U q λB N D=>t Z _ B .next .AZ (z.trans r U N).w D rfl w
def abD(E:ST c g f d t e)(B:SB c g f d a as)(C:SB c g f d b bs):SS c g f d (.iff t a b) (.If e as bs pos):=by
 intro O J s A k Q r o q x;show wpAny_If (E O J s A (λy J=>S7 y (ex g a J k) (ex g b J k)) _ r o q λZ h l v m U i=>?_);have i:=mX i;induction v using Bool.casesOn with
 |true=>show B Z h l A k Q U o i λj z P u w N D n i=>x j z P u w (m.trans r U N) D n i
 |false=>show C Z h l A k Q U o i λj z P u w N D n i=>x j z P u w (m.trans r U N) D n i
def abW:SB c g f d .skip []:=by
 intro O J s A k Q r l N j;show X3 (j O J s .next .AZ (.refl _ _ _ _) r rfl N)
def yg{st:WG}(t:SS c g f d a st)(x:SB c g f d b y):SB c g f d (.seq a b) (st::y):=by
 intro O J s A k Q r q o n;show Xu (t O J s A _ _ r q o λZ e l u w z U h D=>?_);induction w using Fl.casesOn with
 |AZ=>
  subst h;show x Z e l A k Q U q D λj m P u w N i h D=>n j m P u w (z.trans r U N).vv i h D
 |brk=>subst h;show n Z e l .brk .brk z U rfl D
 |cnt=>subst h;show n Z e l .cont .cnt z U rfl D
 |ret a=>obtain⟨v,rfl,h⟩:=h;show n Z e l (.ret v) (.ret a) z U (aO v rfl h) D
def xT(i:ST c g f d t e):SS c g f d (.Mh t) (.Assert e none pos):=by
 intro O J s A k Q r h N j;show wpAny_Assert_holds (i O J s A (λy J=>S7 y (k .AZ J) False) _ r h N λZ U l v z a D=>?_);show zA (qJ D) λb D=>?_;subst b;show⟨rfl,j Z U l .next .AZ z.w a rfl D⟩
variable {α:Type}
def ur(n:Nat)(p:Nat×α)(l:List (Nat×α)):DK n (p::l)=if n=p.1 then DK n l else p::DK n l:=by
 change(Bool.rec (p::DK n l) (DK n l) (beq n p.1):List (Nat×α))=_;by_cases h:n=p.1
 ·rw[Zk h,h,bW]
 ·rw[Zi h,bX h]
def dN(n m:Nat):∀l:List (Nat×α),Sx n (DK m l)=if n=m then none else Sx n l:=by
 intro l;induction l with
 |nil=>
  split<;>rfl
 |cons p l Q=>
  rw[ur];by_cases h:m=p.1
  ·rw[Zk h,Q];by_cases k:n=m
   ·rw[Zk k,Zk k]
   ·rw[Zi k,Zi k,aq,Zi (by show h▸ ?_;show k)]
  ·rw[Zi h,aq,Q,aq];by_cases k:n=p.1
   ·rw[Zk k,Zk k,Zi (by show k▸ ?_;show λe=>h e.symm)]
   ·rw[Zi k,Zi k]
variable {O:Gh}{L:Loc}{J:St}{s:Ww}
def Gh.IY(g:Gh)(i Q:Nat)(a:WD)(ft:List WD):Gh:=⟨g.F,λj=>if j=Q then some (a,ft)else if j=i then some (a,[])else g.φ j⟩
def jk{α:Type}(n:Nat)(o:α){H:List (Nat×α)}(h:Sx n H=none)(j:Nat):Sx j ((n,o)::H)=Sx j (H++[(n,o)]):=by
 induction H with
 |nil=>rfl
 |cons p H Q=>
  replace h:=(aq _ _ _)▸h;by_cases q:n=p.1
  ·replace h:=(Zk q)▸h;cases h
  ·replace h:=(Zi q)▸h;rw[aq j p, ←Q h,aq,aq,aq];by_cases a:j=n
   ·rw[Zk a,Zi λe=>q (a.symm.trans e),Zk a]
   ·rw[Zi a,Zi (a)]
def Rel.nM(r:Rel c O L (As J H) s)(e:∀i,Sx i H=Sx i Q):Rel c O L (As J Q) s:=
 ⟨r.Av,λi o h=>r.obs i o ((e i).trans h),r.sep,r.off,r.nL,r.loc,r.new,r.DY,λi p h Z=>(r.CZ i p h Z).elim λo q=>⟨o,(e i).symm.trans q⟩,r.base,r.Lb,r.tk⟩
def Rel.move(r:Rel c O L J s){ft:List WD}(hi:O.φ i=some (a,ft))(V:Sx i J.H=some o)(hc:Sx Q J.H=none)(X:Q<64)(h2:64<=i):
  Rel c (O.IY i Q a ft) L (As J ((Q,o)::DK i J.H)) s/\Ext false L O s (O.IY i Q a ft) s:=by
 have u:O.φ Q=none:=by
  cases q:O.φ Q with
  |none=>rfl
  |some p=>show zE (r.CZ Q p q X) λo e=>?_;rw[hc]at e;show aw e
 have E:i≠Q:=λe=>by lia
 have t:(O.IY i Q a ft).φ Q=some (a,ft):=by simp[Gh.IY]
 have C:(O.IY i Q a ft).φ i=some (a,[]):=by simp[Gh.IY,E]
 have v:∀ {j:Nat},j≠i->j≠Q->(O.IY i Q a ft).φ j=O.φ j:=λ{j} q1 q2=>by simp[Gh.IY,q1,q2]
 have A:Le false O (O.IY i Q a ft):=⟨λZ Z e=>e,λj b l e Z=>by
  by_cases q1:j=i
  ·clear V h2 E t v;subst q1;replace e:=hi▸e;cases e;show(yE [] C)
  ·by_cases q2:j=Q
   ·rw[q2,u]at e;show aw e
   ·show(yE l (by rw[v q1 q2];show e))⟩
 have U:∀ {j:Nat} {b:WD} {l:List WD} {x:WD},(O.IY i Q a ft).φ j=some (b,l)->x∈l->(j=Q/\x∈ft)\/(j≠Q/\j≠i/\O.φ j=some (b,l)):=λ{j b l x} e n=>by
  by_cases q2:j=Q
  ·(rw[q2]at e;replace e:=t▸e);cases e;show .inl ⟨q2,n⟩
  ·by_cases q1:j=i
   ·(rw[q1]at e;replace e:=C▸e);cases e;cases n
   ·rw[v q1 q2]at e;show .inr ⟨q2,q1,e⟩
 have D:∀x,AD (O.IY i Q a ft) x->AD O x:=λx h=>by
  show bC h λj b l e n=>?_;rcases U e n with ⟨_,z⟩|⟨_,_,z⟩
  ·show(ay i a ft hi z)
  ·show(ay j b l z n)
 show⟨⟨r.Av,λj N m=>?_,λj k b l d fd m y F x w B=>?_,λx n=>r.off x (D x n),r.nL,?_,λj m=>?_,r.DY,λj p m R=>?_,r.base,r.Lb,r.tk⟩,
  ⟨A,λZ Z e Z Z=>e,.refl _ _,λx n=>.inl (D x n),λZ Z e=>.inl e,GK.refl _,rfl,rfl⟩⟩
 ·have P:Sx j ((Q,o)::DK i J.H)=some N:=m;rw[aq]at P;by_cases q2:j=Q
  ·rw[Zk q2]at P;clear m;obtain rfl:=Zf P;show aX (r.obs i o V) λa' Y M I=>?_;replace M:=hi▸M;cases M;show(aU a ft (by show q2.symm▸ ?_;show t) (I.step A λZ Z Z e=>e))
  ·(replace P:=(Zi q2)▸P;rw[dN]at P)
   by_cases q1:j=i
   ·rw[Zk q1]at P;show aw P
   ·rw[Zi q1]at P;show aX (r.obs j N P) λb l e I=>(aU b l (by show(v q1 q2)▸ ?_;show e) (I.step A λZ Z Z e=>e))
 ·rcases U m w with ⟨S,H⟩|⟨S,y1,H⟩<;>rcases U y B with ⟨T,G⟩|⟨T,W,G⟩
  ·show F (S.trans T.symm)
  ·show r.sep i k a ft d fd hi G (λe=>W e.symm) x H B
  ·show r.sep j i b l a ft H hi y1 x w G
  ·show r.sep j k b l d fd H G F x w B
 ·show r.loc.step A λZ Z=>av λZ e=>e
 ·have q1:j≠i:=λe=>by have h3:=r.lt hi;have h4:J.m<=j:=m;lia
  have q2:j≠Q:=λe=>by have h3:=r.DY;have h4:J.m<=j:=m;lia
  show(v q1 q2)▸(r.new j m)
 ·change∃N,Sx j ((Q,o)::DK i J.H)=some N;rw[aq];by_cases q2:j=Q
  ·show(yE o (by rw[Zk q2]))
  ·rw[Zi q2,dN];have q1:j≠i:=λe=>by lia
   rw[Zi q1];show r.CZ j p (by rw[←v q1 q2];show m) R
def aag(q:n<64)(r:Rel c O L J s)(N:RV c.Aa c.w O v x)(h:QZ n x J k):
  ∃l b y,Ext false L O s l s/\Rel c l L b s/\RV c.Aa c.w l v y/\k y b:=by
 have A:k x J->∃l b y,Ext false L O s l s/\Rel c l L b s/\RV c.Aa c.w l v y/\k y b:=λh=>(cg O J x (.refl _ _ _ _) r N h)
 have h:Bool.rec (V.casesOn (motive:=λZ=>Prop) x (λZ=>k x J) (λi=>Bool.rec (k x J) (Ab (Sx i J.H) λo=>Option.rec (k (.ob n) (As J (DK i J.H++[(n,o)]))) (λZ=>False) (Sx n J.H)) (ble 64 i)) (λZ=>k x J) λZ Z=>k x J) (k x J) (beq n 0):=h;cases j:beq n 0 with
 |true=>rw[j]at h;show A h
 |false=>
  rw[j]at h;induction x using V.casesOn with
  |ob i=>
   have h:S7 (ble 64 i) (Ab (Sx i J.H) λo=>Option.rec (k (.ob n) (As J (DK i J.H++[(n,o)]))) (λZ=>False) (Sx n J.H)) (k (.ob i) J):=h;cases P:ble 64 i with
   |false=>rw[P]at h;show A h
   |true=>
    rw[P]at h;obtain⟨o,U,h⟩:=ak h;cases u:Sx n J.H with
    |some _=>rw[u]at h;show h.elim
    |none=>
     rw[u]at h;show aX N λa ft e z=>?_;clear N A;subst z;show zA (r.move e U u q (bz P)) λD m=>(cg _ _ (.ob n) m (D.nM (jk n o (by rw[dN,u];show ite_self _))) (aU a ft (Zk rfl) rfl) h)
  |_=>show A h
def aah(j:n<64)(r:Rel c O L J s)(N:RV c.Aa c.w O v x)(h:OP n x J k):
  ∃l Z y,Ext false L O s l s/\Rel c l L Z s/\RV c.Aa c.w l v y/\k y Z:=by
 unfold OP at h;cases P:beq n 63 with
 |false=>rw[P]at h;show aag j r N h
 |true=>
  rw[P]at h;obtain⟨q,u,D⟩:=ak h;show bM (eI r N u) λg2 z r2 a=>(cg g2 _ (.c q.1) z r2 a D)
def eH(C:K.In c.base)(Y:FX c K g)(u:∀n,g.canon n<64)(r:Rel c O L J s)(U:RV c.Aa c.w O ov ox)(N:RV c.Aa c.w O v x)
  (h:Cy g ox n x J k) (G:∀l Z j,Ext false L O s l j->Rel c l L Z j->k Z->Q () j):wpAny (model c.Aa c.w) A (setAttr ov (c.nm n) v) Q Bl s:=by
 obtain⟨i,I,h⟩:=ak h;obtain rfl:=lC I;show fg (aah (u n) r N h) λE M y o t m D=>?_;show aX (U.mono o.le) λa ft e z=>?_;clear U;subst z;obtain⟨p,q,D⟩:=ak D;show zA (qJ D) λP D=>?_;rw[Zp]at P;show zA (Y.own p.1 n P.1) λB H=>aae C t e (uU q) B H m (bz P.2) λb F w r2=>G b _ F (o.trans r t w) r2 D
def xY(R:K.In c.base)(Y:FX c K g)(t:∀n,g.canon n<64)(hc:Ci e=false)(M:c.nm n=nm)(h:SE c g f d x e)(W:SE c g f d y o):
  SS c g f d (.Bi y n x) (.Assign [.Attribute o nm P] e pos):=by
 intro O J s A k Q r H F V;show plainObj_wpAny_Assign_Attribute (h O J s A _ _ r H F λZ q C v a z U T w=>W Z q C A _ _ U H w λE G I u b N D S w=>?_) (eZ hc _ _ _);show M▸(eH R Y t D S (T.mono N.le) w λi l j m B w=>V i l j .next .AZ ((z.trans r U N).trans r D m).w B rfl w)
def MH(c:Cx)(d:Nat)(L:Loc)(D:Operator)(o:Nat):Prop:=
 ∀O J s A k Q v u a b,Rel c O L J s->Ay L d A->RV c.Aa c.w O v a->RV c.Aa c.w O u b->Es o a b J k->B2 c L O s k Q->wpAny (model c.Aa c.w) A (inplaceOp D v u) Q Bl s
def xR(Y:Ctx c K p Sy mg mb)(H:Hu f nm)(F:p.code nm=some n)(hi:MH c d f.L op o)(h:SE c g f d x e):
  SS c g f d (.DI n o x) (.AugAssign (.Name nm P) op e pos):=by
 intro O J s A k Q r I i T;obtain⟨a,M,i⟩:=ak i;show aA r.loc.nm λm N hm=>aA (hm n a M) λu e1 R=>?_;show wpAny_AugAssign_Name (oD (O:=O) (J:=J) H.loc N (by rw[←((Y.code nm n F).1)];show e1) (h O J s A _ _ r I i λZ B l v b z U S E=>hi Z B l A _ _ u v a b U I (R.mono z.le) S E λj G L w y t D V E=>cN Y H F D V λW q C=>T j _ W .next .AZ ((z.trans r U t).trans r D q).w C rfl E))
def xS(XK:K.In c.base)(Y:FX c K g)(H:∀n,g.canon n<64)(hn:c.nm n=nm)(hi:MH c d f.L op o)(h:SE c g f d x e)(h':SE c g f d y b):
  SS c g f d (.Gb y n o x) (.AugAssign (.Attribute b nm pos') op e pos):=by
 intro O J s A k Q r W hev hp;show hn▸(wpAny_AugAssign_AttributeAny (h' O J s A _ _ r W hev λT J₁ s₁ ov oa S U ho D=>sr XK Y U ho D λj F L u a N q hu D=>h j F L A _ _ q W D λZ l C v z m P hv D=>hi Z l C A _ _ u v a z P W (hu.mono m.le) hv D λV J₄ s₄ w y I t hw D=>?_));have i:=(N.trans U q m).trans U P I;show eH XK Y H t (ho.mono i.le) hw D λB R E G M D=>hp B R E .next .AZ ((S.trans r U i).trans r t G).w M rfl D
variable {A:Wz}
def vO{a:WD}{ft:List WD}(r:Rel c O L J s)(e:O.φ i=some (a,ft))(q:Sx i J.H=some (.An es))
  (G:RV c.Aa c.w O u v) (b:es.length<=900)
  (H:∀l j,Ext false L O s l j->Rel c l L (As J (put i (.An (Gu key v es)) J.H)) j->Q () j):wpAny (model c.Aa c.w) A (setItem (.ref a) (.str ⟨key.toArray⟩ t) u) Q Bl s:=by
 have w:=r.ob e q;show bQ w λm o U E M B p T=>?_;clear w;subst m;have R:(U.map (·.1)).Nodup:=by show dH B λZ Z Z Z Z Z z=>?_;show z
 show wpAny_setItem_pairs (fU key t) (B.at E) (λW h N=>?_) (by rw[p.len,YE];lia);show aA (Di.of h) λD f d=>?_;have Sh:=(p.stored (k:=key) G R)
 show zA (r.change (o':=.An (Gu key v es)) (tk:=s.toks+1) (YB _) e
  (λx o S n P=>(N.2 x λz=>P (by show z▸ ?_;show .head _)).trans n) (λx P=>.inl P)
  (λx P=>by show(Za P)▸ ?_;show(yE D f))
  (r.loc.step (.refl _ _) λy C=>av λo n=>(N.2 y λz=>(r.off a (ay i a [a] e (.head _))).2.1 (z▸C)).trans n)
  ⟨rfl,bj D _ f M d (Sh.mono (za [a] e)) (by show Sh.len▸ ?_;have:=stored_length_le U (CH key) u;replace this:=p.len▸this;show Zh this (Zh (Z1 b) (by ext)))⟩) λI F=>?_
 show H _ _ F I
def yh:MH c d L .Sub 1:=by
 intro O J s A k Q v u a b r l N f h j;have h:=h;obtain⟨x,i,h⟩:=ak h;obtain⟨y,e,h⟩:=ak h;show bM (eM r N f i e) λF z U m=>wG (P:=λv u=>wpAny (model c.Aa c.w) A (inplaceOp .Sub v u) Q Bl s) U m h λZ Z Z Z h=>P.isub_int (j O J _ _ (.c (.int _)) (.toks _ _) r.dX (dq (.int _ _)) h)
def tF:seqSlot? (.type "list") (dunderI "add")=pure (some (.builtin "list.__iadd__")):=PySem.seqSlot_of PySem.F.slot_list_iadd.lookup (by decide+kernel)
def qm:fillsInplaceSlot (.type "list") "add" (Operator.Add== .Add)=pure false:=by
 rw[PySem.F.slot_list_iadd.lookup];rfl
end
section
variable {pG:WA}{w:Wy}{A:Wz}{E:Wv->Ww->Prop}{s:Ww}
def mC(D:s.heap.get? l=some {cls:=.type "list",data:=.seq O n})(a:s.heap.get? b=some {cls:=.type "list",data:=.seq v n2})
  (P:O.size+v.size<=sizeLine) (h:Q (.ref l) {s with heap:=s.heap.update l (Obj.mapSeq λx=>x++v)}):wpAny (model pG w) A (inplaceOp .Add (.ref l) (.ref b)) Q E s:=by
 have d:s.TypeIs (.ref l) "list":=(aO _ D rfl)
 show ZY (Zn (wpAny_typeOf d (Zn (X7 qm ?_))));rw[Zi Bool.false_ne_true];show Zn (wpAny_binaryOp1_none d (show s.TypeIs (.ref b) "list" from(aO _ a rfl)) PySem.noFill_list_add (Zn (X7 tF (Zn (wpAny_rule (call_meets PySem.F.slot_list_iadd d PySem.F.entry_list_iadd (PySem.F.args_list_iadd_2 _ _) (AutoSeq1.list___iadd___list_list_0 l O n b v n2 (by rw[Zp,propext not_and];intro _;rw[Yu];show YN.mpr P) (ZK P) (Xd P)) ⟨D,a,h⟩))))))
variable {c:Cx}{d:Nat}{L:Loc}
def Ba.append{N:WA}(k:Ba N w F z m):∀ {Z:TN},Ba N w F Z l->Ba N w F (Z++z) (l++m):=by
 induction l with
 |nil=>intro Z h;obtain rfl:=h.inv;show k
 |cons f l Q=>intro Z h;obtain⟨v,r,rfl,a,D⟩:=h.inv;show .cons a (Q D)
def cG{O:Gh}(r:Rel c O L J s)(N:RV c.Aa c.w O v x)(h:CE J.H x=some (.lst q)):
  ∃a o Z,v=.ref a/\s.heap.get? a=some o/\Ca "list" o Z/\Ba c.Aa c.w O.F Z q/\q.length<=16777216:=by
 have closed:∀ {v:Wv},RF c.Aa c.w O.F v (.lst q)->∃a o Z,v=.ref a/\s.heap.get? a=some o/\Ca "list" o Z/\Ba c.Aa c.w O.F Z q/\q.length<=16777216:=λh=>by
  obtain⟨a,Z,o,SU,e,z,rr,b⟩:=h.x;show(aM a o Z SU (r.holds _ _ e) z rr b)
 induction x using V.casesOn with
 |c f=>obtain rfl:=Zf h;show closed N
 |st _=>show aw h
 |E9 _ _=>show aw h
 |ob i=>
  show aX N λa ft e k=>?_;subst k;show aA (ax h) λo m h=>?_;have Q:=r.ob e m;induction o using AO.casesOn with
  |Av j=>obtain rfl:=Zf h;show closed Q.2
  |lst l=>
   have h:some (FV.lst l)=some (.lst q):=h;cases h;show bI Q λp o Z U n D A=>(aM a o Z rfl U n D A)
  |_=>cases h
def Rel.gr{O:Gh}(r:Rel c O L J s){a:WD}{ft:List WD}{b:WH}{D:Obj}{Z:Nat}(N:0<Z)(e:O.φ i=some (a,ft))(q:Sx i J.H=some (.lst l))
  (h:Heap.SameBut a s.heap b) (U:b.get? a=some D) (SG:Ca "list" D j) (m:Ba c.Aa c.w O.F j u) (n:u.length<=16777216):
  Rel c (O.at i (a,[a])) L (As J (put i (.lst u) J.H)) {s with heap:=b,toks:=Z}/\Ext false L O s (O.at i (a,[a])) {s with heap:=b,toks:=Z}:=by
 have Q:=r.ob e q;show bI Q λf o w p B C A=>?_;clear Q;subst f;show r.change N e
  (λx o t U P=>(h.2 x λz=>P (by show z▸ ?_;show .head _)).trans U) (λx P=>.inl P)
  (λx P=>by show(Za P)▸ ?_;show(yE D U))
  (r.loc.step (.refl _ _) λy k=>av λo U=>(h.2 y λz=>(r.off a (ay i a [a] e (.head _))).2.1 (z▸k)).trans U) ⟨rfl,bG D j U SG m n⟩
def kJ{O:Gh}(r:Rel c O L J s)(U:RF c.Aa c.w F v x)(N:RF c.Aa c.w F u y)
  (h:Og 0 x y λr=>k (.c r) J) (a:B2 c L O s k Q):wpAny (model c.Aa c.w) A (inplaceOp .Add v u) Q Bl s:=by
 induction x using FV.casesOn with
 |int i=>
  obtain⟨j,e,h⟩:=ak h;obtain⟨t,rfl⟩:=U.x;obtain⟨b,rfl⟩:=N.aI e;show P.iadd_int (a O J _ _ (.c (.int (i+j))) (.toks _ _) r.dX (dq (.int _ _)) h)
 |str l=>
  obtain⟨m,e,D,f⟩:=ak h;obtain⟨t,rfl,_⟩:=U.x;obtain⟨b,rfl,_⟩:=N.aS e;show aN r.tk (SB.iadd (λz Z n=>?_) (by rw[YE];show D));have e:(⟨l.toArray⟩:Wu)++⟨m.toArray⟩=⟨(l++m).toArray⟩:=by change PySem.Str.mk (l.toArray++m.toArray)=_;simp
  rw[e];show a O J _ _ (.c (.str (l++m))) (.toks _ _) (r.toks n) (dq (.str (l++m) z (by rw[Zg];show D))) f
 |_=>show False.elim h
def yi:MH c d L .Add 0:=by
 intro O J s A k Q v u a b r X N t h B;have closed:Dh 0 a b J k->wpAny (model c.Aa c.w) A (inplaceOp .Add v u) Q Bl s:=λh=>by
  obtain⟨x,E,h⟩:=ak h;obtain⟨y,P,h⟩:=ak h;show bM (eM r N t E P) λF W U S=>kJ r U S h B
 induction a using V.casesOn with
 |ob i=>
  have h:Option.rec (Dh 0 (.ob i) b J k) (λo=>AO.casesOn (motive:=λZ=>Prop) o (λl=>Ab (CE J.H b) λy=>Ab (aL y) λq=>Hr (l.length+q.length) (k (.ob i) (As J (put i (.lst (l++q)) J.H)))) (λZ=>Dh 0 (.ob i) b J k) (λZ Z=>Dh 0 (.ob i) b J k) λZ=>Dh 0 (.ob i) b J k) (Sx i J.H):=h;cases D:Sx i J.H with
  |none=>rw[D]at h;show closed h
  |some o=>
   rw[D]at h;induction o using AO.casesOn with
   |lst l=>
    obtain⟨y,P,h⟩:=ak h;obtain⟨q,e,m,R⟩:=ak h;clear h;obtain rfl:=m7 e;show aX N λa ft e z=>?_;clear N closed;subst z;show bI (r.ob e D) λI o H U j C Y=>?_;obtain⟨n,rfl⟩:=j;show aK (cG r t P) λT So w z g1 p g3 SR=>?_;subst z;obtain⟨n2,rfl⟩:=p;show mC U g1 (by rw[congr (T3 HAdd.hAdd C.len) g3.len];show m) ?_;show zA (r.gr r.tk e D (Heap.SameBut.update ..) (show(s.heap.update a (Obj.mapSeq λx=>x++w.toArray)).get? a=some (Obj.mapSeq (λx=>x++w.toArray) {cls:=.type "list",data:=.seq H.toArray n}) from Heap.get?_update_self _ U rfl) (yE _ (by simp[Obj.mapSeq];rfl)) (Ba.append g3 C) (by show Zg.symm▸ ?_;show m)) λM G=>?_;show B _ _ _ _ (.ob i) G M (aU a [a] (Gh.bf) rfl) R
   |_=>show closed h
 |c f=>show closed h
 |st _=>show closed h
 |E9 _ _=>show closed h
def Gh.Sz(P:TU)(g:Gh):Gh:=⟨g.F,λi=>if P i=true then g.φ i else none⟩
abbrev Gh.low(g:Gh):Gh:=g.Sz λi=>Nat.blt i 64
def Gh.GJ(a g:Gh):Gh:=⟨a.F,λi=>if i<64 then a.φ i else g.φ i⟩
structure Cp (c:Cx) (g:Gh) (U:List WD) (H:Tx) (s:Ww):Prop where
 Av:∀a o,g.F a=some o->s.heap.get? a=some o
 obs:∀i o,Sx i H=some o->∃a ft,g.φ i=some (a,ft)/\RO c.Aa c.w c.nm g s.heap a ft o
 sep:∀i j a ft b ft',g.φ i=some (a,ft)->g.φ j=some (b,ft')->i≠j->∀x∈ft,x∉ft'
 off:∀x,AD g x->g.F x=none/\x∉U/\∃o,s.heap.get? x=some o
 ups:∀u∈U,g.F u=none/\GD s.heap u
 CZ:∀i p,g.φ i=some p->i<64/\∃o,Sx i H=some o
 base:∀a o,c.base.get? a=some o->g.F a=some o
 G4:c.base.objs.size<=s.heap.objs.size
 tk:0<s.toks
structure G8 (b:Bool) (U:List WD) (g:Gh) (s:Ww) (g':Gh) (s':Ww):Prop where
 le:Le b g g'
 keep:∀x o,s.heap.get? x=some o->x∉U->¬AD g x->s'.heap.get? x=some o
 EN:JD U s.heap s'.heap
 fp:∀x,AD g' x->AD g x\/s.heap.get? x=none
 fF:∀x o,g'.F x=some o->g.F x=some o\/AD g x\/s.heap.get? x=none
 gens:GK s.gens s'.gens
 os:s'.os=s.os
 drawn:s'.drawn=s.drawn
def eg(i:Nat):∀H:Tx,Sx i (lo H)=if i<64 then Sx i H else none:=by
 intro H;induction H with
 |nil=>
  split<;>rfl
 |cons p H Q=>
  change Sx i (Bool.rec (lo H) (p::lo H) (Nat.blt p.1 64):Tx)=_;cases e:Nat.blt p.1 64 with
  |true=>
   rw[aq,aq,Q];by_cases q:i=p.1
   ·rw[Zk q,Zk q,Zk (lt_of_eq_of_lt q (ZJ (Z4 _) (bz e)))]
   ·rw[Zi q,Zi q]
  |false=>
   have Z:¬p.1<64:=λh=>by
    have:Nat.blt p.1 64=true:=Nat.ble_eq.mpr h;rw[e]at this;show a7 this
   rw[Q,aq];split
   ·rw[Zi λq=>Z (by lia)]
   ·rfl
def iI(i:Nat):∀H:Tx,Sx i (hi H)=if i<64 then none else Sx i H:=by
 intro H;induction H with
 |nil=>
  split<;>rfl
 |cons p H Q=>
  change Sx i (Bool.rec (p::hi H) (hi H) (Nat.blt p.1 64):Tx)=_;cases e:Nat.blt p.1 64 with
  |true=>
   have Z:=ZJ (Z4 _) (bz e);rw[Q,aq];split
   ·rfl
   ·rw[Zi λq=>by lia]
  |false=>
   have Z:¬p.1<64:=λh=>by
    have:Nat.blt p.1 64=true:=Nat.ble_eq.mpr h;rw[e]at this;show a7 this
   rw[aq,aq,Q];by_cases q:i=p.1
   ·rw[Zk q,Zk q,Zi (Eq.mpr_not (XA (T3 LT.lt q) 64) Z)]
   ·rw[Zi q,Zi q]
def di(i:Nat)(H Q:Tx):Sx i (H++Q)=(Sx i H).or (Sx i Q):=by
 induction H with
 |nil=>rfl
 |cons p H a=>
  rw[aq,aq];split
  ·rfl
  ·show a
def eK{g:Gh}(e:(g.Sz P).φ i=some p):P i=true/\g.φ i=some p:=by
 have e:(if P i=true then g.φ i else none)=some p:=e;split at e
 ·rename_i h;show⟨h,e⟩
 ·show aw e
def iL{g:Gh}(h:P i=true)(e:g.φ i=some p):(g.Sz P).φ i=some p:=(Zk h).trans e
def cb(e:Nat.blt a b=true):a<b:=ZJ (Z4 _) (bz e)
def cn{g:Gh}(e:g.low.φ i=some p):i<64/\g.φ i=some p:=(eK e).imp_left cb
def gP{g:Gh}(h:i<64)(e:g.φ i=some p):g.low.φ i=some p:=iL (Nat.blt_eq.mpr h) e
variable {g:Gh}{P:TU}
def iV(h:RV pG w g v x)(D:E8 P x=true):RV pG w (g.Sz P) v x:=by
 induction x using V.casesOn with
 |c f=>show h
 |ob i=>show aX h λa ft e q=>?_;show(aU a ft (iL D e) q)
 |st a=>show h
 |E9 f i=>show cH h λq a ft U N b=>?_;show(b4 q a ft U N (iL D b))
def u0(h:Cw pG w g Z u)(D:u.all (E8 P)=true):Cw pG w (g.Sz P) Z u:=by
 induction h with
 |nil=>show .nil
 |cons a _ Q=>
  rw[YR,Zp]at D;show .cons (iV a D.1) (Q D.2)
def aeJ(h:RD pG w g Z u)(D:(u.all λp=>E8 P p.2)=true):RD pG w (g.Sz P) Z u:=by
 induction h with
 |nil=>show .nil
 |cons a _ Q=>
  rw[YR,Zp]at D;show .cons (iV a D.1) (Q D.2)
def aeH(h:RI pG w nm g Z u)(D:(u.all λp=>E8 P p.2)=true):RI pG w nm (g.Sz P) Z u:=by
 induction h with
 |nil=>show .nil
 |cons k a _ Q=>
  rw[YR,Zp]at D;show .cons k (iV a D.1) (Q D.2)
def y9{ft:List WD}(r:RO pG w nm g h a ft o)(D:Hm P o=true):RO pG w nm (g.Sz P) h a ft o:=by
 induction o using AO.casesOn with
 |An _=>show bQ r λe o U q z d r b=>?_;show⟨e,bj o U q z d (aeJ r D) b⟩
 |inst _ _=>show aK r λu y n e j q A r=>?_;show(aM u y n e j q A (aeH r D))
 |_=>show r
def jj{y:Type}{o:y}{H:List (Nat×y)}(h:Sx i H=some o):(i,o)∈H:=by
 induction H with
 |nil=>show aw h
 |cons p H Q=>
  rw[aq]at h;by_cases q:i=p.1
  ·rw[Zk q]at h;clear Q;obtain rfl:=Zf h;show q▸ .head _
  ·rw[Zi q]at h;show .tail _ (Q h)
def uR(h:(H.all λp=>Hm P p.2)=true){i:Nat}{o:AO}(e:Sx i H=some o):Hm P o=true:=Zd h _ (jj e)
end
section
variable {c:Cx}{g:G}{K:Frag}{f:Fm}{d:Nat}{O:Gh}{L:Loc}{J:St}{s:Ww}
def Rel.ups(r:Rel c O L J s)(Z:u∈L.all):O.F u=none/\GD s.heap u:=by
 show⟨r.nL u (.inl Z),?_⟩;rcases Zb Z with rfl|Z
 ·show aA r.loc.nm λm Q a=>?_;obtain⟨o,y,D,e,d,_⟩:=Q;show(ay o y D e d)
 ·show r.loc.up u Z
def Rel.toC(r:Rel c O L J s)(m:((lo J.H).all λp=>Dc p.2)=true):Cp c O.low L.all (lo J.H) s:=by
 show⟨r.Av,λi o h=>?_,λi j a ft b l U N D=>r.sep i j a ft b l (cn U).2 (cn N).2 D,λx k=>?_,λu Z=>r.ups Z,λi p e=>?_,r.base,by show zE r.dT λo e=>?_;show Zh r.Lb (Yo (Yk e)),r.tk⟩
 ·have Q:=uR m h;rw[eg]at h;split at h
  ·rename_i hi;show aX (r.obs i o h) λa ft e t=>(aU a ft (gP hi e) (y9 t Q))
  ·show aw h
 ·show bC k λi a ft e k=>?_;have u:=r.off x (ay i a ft (cn e).2 k);show⟨u.1,λq=>u.2.1 (.inl q),u.2.2⟩
 ·show zA (cn e) λhi e=>zE (r.CZ i p e hi) λo n=>⟨hi,yE o (by rw[eg,Zk hi];show n)⟩
def bL(h:AD O.low x):AD O x:=by
 show bC h λi a ft e b=>(ay i a ft (cn e).2 b)
def Rel.ofC(r:Rel c O L J s){l:Gh}(x:G8 false L.all O.low s l s')(I:Cp c l L.all Q s'):
  Rel c (l.GJ O) L (As J (Q++hi J.H)) s'/\Ext false L O s (l.GJ O) s'/\Le false l (l.GJ O):=by
 have U:∀ {i:Nat},i<64->(l.GJ O).φ i=l.φ i:=λ{i} h=>by change(if i<64 then _ else _)=_;rw[Zk h]
 have n:∀ {i:Nat},¬i<64->(l.GJ O).φ i=O.φ i:=λ{i} h=>by change(if i<64 then _ else _)=_;rw[Zi h]
 have S:Le false l (l.GJ O):=⟨λZ Z e=>e,λi a ft e Z=>(yE ft (by rw[U (I.CZ i _ e).1];show e))⟩
 have le:Le false O (l.GJ O):=⟨x.le.F,λi a ft e W=>by
  by_cases h:i<64
  ·show zE (x.le.φ i a ft (gP h e) W) λE e'=>(yE E (by show(U h)▸ ?_;show e'))
  ·show(yE ft (by rw[n h];show e))⟩
 have N:∀ {j:Nat} {b:WD} {C:List WD} {y:WD},¬j<64->O.φ j=some (b,C)->y∈C->¬AD O.low y:=λ{j b C y} V e m h=>by
  show bC h λi a ft X t=>zA (cn X) λhi X=>r.sep i j a ft b C X e (λq=>V (q▸hi)) y t m
 have B:∀ {y:WD},L.CN y->¬AD O.low y:=λm h=>(r.off _ (bL h)).2.1 m;have F:∀y,AD (l.GJ O) y->AD l y\/∃j b C,¬j<64/\O.φ j=some (b,C)/\y∈C:=λy h=>by
  show bC h λj b C e m=>?_;by_cases h:j<64
  ·rw[U h]at e;show .inl (ay j b C e m)
  ·rw[n h]at e;show .inr (b4 j b C h e m)
 show⟨⟨I.Av,λi o h=>?_,λi j a ft b E H M R y G t=>?_,λy m=>?_,λy m=>?_,?_,λi hi=>?_,r.DY,λi p e hi=>?_,I.base,r.Lb,I.tk⟩,
  ⟨le,λy o e hl W=>x.keep y o e (λh=>hl (.inl h)) λh=>W (bL h),λy m=>x.EN y (.tail _ m),λy m=>?_,λy o e=>?_,x.gens,x.os,x.drawn⟩,S⟩
 ·have h:Sx i (Q++hi J.H)=some o:=h;rw[di]at h;cases q:Sx i Q with
  |some D=>
   replace h:=q▸h;obtain rfl:=Zf (show some D=some o from h);show aX (I.obs i _ q) λa ft e Y=>(aU a ft (by rw[U (I.CZ i _ e).1];show e) (Y.step S λZ Z Z e=>e))
  |none=>
   rw[q]at h;have h:Sx i (hi J.H)=some o:=h;rw[iI]at h;split at h
   ·cases h
   ·rename_i hi;show aX (r.obs i o h) λa ft e Y=>(aU a ft (by rw[n hi];show e) (Y.step le λy m o ho=>x.keep y o ho (λq=>(r.off y (ay i a ft e m)).2.1 (.inl q)) (N hi e m)))
 ·by_cases A:i<64<;>by_cases k2:j<64
  ·rw[U A]at H;rw[U k2]at M;show I.sep i j a ft b E H M R y G t
  ·rw[U A]at H;rw[n k2]at M;rcases x.fp y (ay i a ft H G)with z|z
   ·show N k2 M t z
   ·show cV (r.off y (ay j b E M t)) λZ Z o w=>?_;rw[z]at w;show aw w
  ·rw[n A]at H;rw[U k2]at M;rcases x.fp y (ay j b E M t)with z|z
   ·show N A H G z
   ·show cV (r.off y (ay i a ft H G)) λZ Z o w=>?_;rw[z]at w;show aw w
  ·rw[n A]at H;rw[n k2]at M;show r.sep i j a ft b E H M R y G t
 ·rcases F y m with z|⟨j,b,C,V,e,T⟩
  ·show cu (I.off y z) λu Z w=>⟨u,λq=>?_,w⟩
   rcases x.fp y z with k|k
   ·show B q k
   ·show zE (r.there q) λo e=>?_;rw[k]at e;show aw e
  ·show cV (r.off y (ay j b C e T)) λu v o w=>⟨?_,v,yE o (x.keep y o w (λq=>v (.inl q)) (N V e T))⟩
   change l.F y=none;cases q:l.F y with
   |none=>rfl
   |some D=>
    rcases x.fF y D q with k|k|k
    ·have k:O.F y=some D:=k;rw[u]at k;show aw k
    ·show(N V e T k).elim
    ·rw[w]at k;cases k
 ·change l.F y=none;cases q:l.F y with
  |none=>rfl
  |some D=>
   rcases x.fF y D q with k|k|k
   ·have k:O.F y=some D:=k;rw[r.nL y m]at k;show aw k
   ·show(B m k).elim
   ·show zE (r.there m) λo e=>?_;rw[k]at e;show aw e
 ·show r.loc.step le λy m=>?_;by_cases q:y∈L.all
  ·show x.EN y q
  ·show av λo e=>x.keep y o e q (B m)
 ·have h64:=r.DY;have hi:J.m<=i:=hi;rw[n (by lia)];show r.new i hi
 ·rw[U hi]at e;show zE (I.CZ i p e).2 λo ho=>(yE o (by change Sx i (Q++_)=_;rw[di,ho];rfl))
 ·rcases F y m with z|⟨j,b,C,_,e,T⟩
  ·rcases x.fp y z with k|k
   ·show .inl (bL k)
   ·show .inr k
  ·show .inl (ay j b C e T)
 ·rcases x.fF y o e with k|k|k
  ·show .inl k
  ·show .inr (.inl (bL k))
  ·show .inr (.inr k)
def Bj(c:Cx)(Z:TN)(z:WJ):Args:=⟨Z.take (Z.length-z.length),(z.map c.nm).zip (Z.drop (Z.length-z.length))⟩
def aR(Z:TN):Bj c Z []=⟨Z,[]⟩:=by simp[Bj]
def AB(b:Bool)(c:Cx)(a:WD)(d:Nat)(D:TA->WJ->Tx->(V->Tx->Prop)->Prop):Prop:=
 ∀U O H s A Z u z k R,Cp c O U H s->Cw c.Aa c.w O Z u->Room U d A->D u z H k->
  (∀l j v y Q,G8 b U O s l j->Cp c l U Q j->RV c.Aa c.w l v y->k y Q->R (.ok (.ret v)) j)->
  codeAny (model c.Aa c.w) A (.call (.ref a) (Bj c Z z)) R s
def Room.mono(h:Room U e A)(l:d<=e):Room U d A:=⟨h.hd,h.fr,by have:=h.Fs;show Yb (ZH l _) this,by have:=h.un;show Yb (ZV (ZH (Yg 16 l) _) _) this⟩
def AB.mono{spec}(h:AB b c y d spec)(l:d<=e):AB b c y e spec:=
 λU O H s A Z u z k R r N a=>h U O H s A Z u z k R r N (a.mono l)
def eJ(C:AB false c fa d (g.call fa))(r:Rel c O L J s)(b:Room L.all d A)(N:Cw c.Aa c.w O vs u)
  (h:BL g fa u z J k) (m:∀l Z j v x,Ext false L O s l j->Rel c l L Z j->RV c.Aa c.w l v x->k x Z->R (.ok (.ret v)) j):codeAny (model c.Aa c.w) A (.call (.ref fa) (Bj c vs z)) R s:=by
 show zA (qJ h) λa h=>?_
 ·rw[Zp,Zp]at a;replace a:=a.2;show C L.all O.low (lo J.H) s A vs u z _ R (r.toC a.2) (u0 N a.1) b h λl j v y Q x i U D=>cu (r.ofC x i) λr2 e l2=>m _ _ j v y e r2 (U.mono l2) D
def ib(h:BL g y u z J k):g.fn y=true:=by
 have h:=(qJ h).1;rw[Zp]at h;show h.1
set_option backward.match.sparseCases true
def MZ(v:V)(H:Tx):Option (V×Tx):=
 V.casesOn (motive:=λZ=>Option (V×Tx)) v (λZ=>some (v,H)) (λi=>Bool.rec (some (v,H)) (BK (Av H v) λr=>(.c r.1,r.2)) (ble 64 i)) (λZ=>some (v,H)) (λZ Z=>some (v,H))
def Q5(u:Fl):V:=Fl.casesOn (motive:=λZ=>V) u (.c .Ak) (.c .Ak) (.c .Ak) λv=>v
noncomputable def fin(k:V->Tx->Prop)(u:Fl)(s:St):Prop:=
 Ab (MZ (Q5 u) s.H) λr=>S7 (and (FD r.1) ((lo r.2).all λp=>Dc p.2)) (k r.1 (lo r.2)) False
end
set_option backward.match.sparseCases true
section
variable {c:Cx}{g:G}{K:Frag}{p:CP}{Sy:TP}{mg mb:Wu->TM}{d:Nat}{O:Gh}
def Cp.enter(r:Cp c O U H s){N:Tw}{Z:Nat}(k:0<Z)(f:∀y,L.CN y->y∈U\/s.heap.get? y=none)(t:c.base.objs.size<=L.ns)
  (D:∀b o,s.heap.get? b=some o->A.get? b=some o) (m:B3 c O L N A):Rel c O L ⟨N,H,64,false⟩ {s with heap:=A,toks:=Z}:=by
 show⟨λa o e=>D a o (r.Av a o e),λi o h=>?_,r.sep,λx P=>?_,λx P=>?_,m,λi hi=>?_,Zq _,λi p e n=>(r.CZ i p e).2,r.base,t,k⟩
 ·show aX (r.obs i o h) λa ft e Q=>(aU a ft e (Q.step (.refl _ _) λx n o e=>D x o e))
 ·show cV (r.off x P) λu v o w=>⟨u,λq=>(f x q).elim v λz=>(by rw[z]at w;show aw w),yE o (D x o w)⟩
 ·rcases f x P with z|z
  ·show(r.ups x z).1
  ·cases q:O.F x with
   |none=>rfl
   |some o=>have:=r.Av _ o q;rw[z]at this;show aw this
 ·cases q:O.φ i with
  |none=>rfl
  |some p=>have B:=(r.CZ i p q).1;lia
def Cp.leave(r:Cp c O L.up H s){h:Nat}(v:∀y,L.CN y->y∈L.up\/s.heap.get? y=none)(D:∀b o,s.heap.get? b=some o->A.get? b=some o){b:Bool}
  (x:Ext b L O {s with heap:=A,toks:=h} l j) (w:Rel c l L Q j) (t:((lo Q.H).all λp=>Dc p.2)=true):
  G8 b L.up O s l.low j/\Cp c l.low L.up (lo Q.H) j:=by
 have back:=λy e=>c9 (λo U=>⟨o,D y o U⟩) e;have N:=w.toC t;show⟨⟨⟨x.le.F,λi a ft e n=>?_⟩,λy o e Z m=>x.keep y o (D y o e) (λq=>(v y q.has).elim Z λz=>by rw[z]at e;show aw e) m,λy P o e=>x.EN y P o (D y o e),λy P=>?_,λy o e=>?_,x.gens,x.os,x.drawn⟩,
  ⟨N.Av,N.obs,N.sep,λy P=>?_,λu Z=>N.ups u (.tail _ Z),N.CZ,N.base,N.G4,N.tk⟩⟩
 ·show zE (x.le.φ i a ft e n) λf B=>⟨f,gP (r.CZ i _ e).1 B⟩
 ·rcases x.fp y (bL P)with k|k
  ·show .inl k
  ·show .inr (back y k)
 ·rcases x.fF y o e with k|k|k
  ·show .inl k
  ·show .inr (.inl k)
  ·show .inr (.inr (back y k))
 ·have z:=N.off y P;show⟨z.1,λq=>z.2.1 (.tail _ q),z.2.2⟩
def vP{x:V}{p:V×Tx}(r:Rel c O L J s)(N:RV c.Aa c.w O v x)(h:MZ x J.H=some p):
  ∃l,Ext false L O s l s/\Rel c l L (As J p.2) s/\RV c.Aa c.w l v p.1:=by
 have A:some (x,J.H)=some p->∃l,Ext false L O s l s/\Rel c l L (As J p.2) s/\RV c.Aa c.w l v p.1:=λh=>by
  obtain rfl:=Zf h;show(ck O (.refl _ _ _ _) r N)
 induction x using V.casesOn with
 |ob i=>
  have h:(Bool.rec (some (.ob i,J.H)) (BK (Av J.H (.ob i)) λr=>(.c r.1,r.2)) (ble 64 i):Option (V×Tx))=some p:=h;cases a:ble 64 i with
  |false=>replace h:=a▸h;show A h
  |true=>
   replace h:=a▸h;show aA (aZ h) λq e P=>?_;clear h A;subst P;show eI r N e
 |_=>show A h
def abX{N:WA}{O:Gh}(D:RL N w O a y):RV N w O (match (generalizing:=false) a with| .ret v=>v|_=>.none) (Q5 y):=by
 induction y with
 |ret x=>show aA D λv Q h=>?_;clear D;subst Q;show h
 |_=>subst D;show dq .Ak
def Room.deeper(l:Room U (d+1) A)(D:env.scope.kind=.function)(u:env.frame=some L):Room (L::U) d (A.deeper env):=by
 show aA l.fr λy e h=>⟨l.hd,aO (env::y) (by change A.frames.map _=_;rw[e];rfl) λx P=>?_,by have:=l.Fs;change A.depth+1+d<_;show Zh (Z1 (Zz (ZZ _ 1 _))) this,by have:=l.un;change A.units+3+16*d+64<_;show Yb (ZV (Zh (Zz (ZZ _ 3 _)) (ZH (by decide:3<=16) _)) _) this⟩
 rcases Zb P with rfl|P
 ·show⟨by rw[D];show(λq=>nomatch q),aO L (.head _) u⟩
 ·show eX (h x P) λb a N f=>⟨b,aO a (.tail _ N) f⟩
def Room.xm{f:Fm}(l:Room f.up (d+1) A)(j:f.tp=some f.env)(u:f.env.frame=some f.env.locals):Ay f.L d (A.deeper f.env):=
 ⟨l.deeper f.kind u,λenv e=>by
  have e:f.tp=some env:=e;rw[j]at e;obtain rfl:=Zf e;show aA l.fr λy h Z=>⟨y,by change A.frames.map _=_;rw[h];rfl⟩⟩
def fZ{f:Fm}(q:f.tp=some f.env)(C:f.env.frame=some f.env.locals){s:Ww}(i:∀y,f.L.CN y->y∈f.up\/s.heap.get? y=none)(T:c.base.objs.size<=f.env.locals){tk:Nat}(ht:0<tk){N:Tw}{x:S}{k:V->Tx->Prop}{R:Result->Ww->Prop}{E:Wv->Ww->Prop}
  (M:∀O J s A k Q,Rel c O f.L J s->Ay f.L d A->ex g x J k->FW c f.L O s k Q->wpAny (model c.Aa c.w) A (execs body f.env) Q Bl s)
  (r:Cp c O f.up H s) (I:Room f.up (d+1) A) (B:∀b o,s.heap.get? b=some o->h₀.get? b=some o) (n:B3 c O f.L N h₀) (z:ex g x ⟨N,H,64,false⟩ (fin k))
  (G:∀l j v y t,G8 f.vl f.up O s l j->Cp c l f.up t j->RV c.Aa c.w l v y->k y t->R (.ok (.ret v)) j):
  wpAny (model c.Aa c.w) (A.deeper f.env) (execs body f.env) (λX j=>R (.ok (.ret (match X with| .ret v=>v|_=>.none))) j) E {s with heap:=h₀,toks:=tk}:=by
 have w:=r.enter ht i T B n;show ZT (M O _ _ _ (fin k) _ w (I.xm q C) z λl J' j a y L u n e=>?_) (λZ Z h=>h) λZ Z h=>h.elim;obtain⟨p,Y,e⟩:=ak e;show zA (qJ e) λm e=>?_;rw[Zp]at m;show bM (vP u (abX n) Y) λW F r2 D=>zA (r.leave i B (L.trans w u F) r2 m.2) λP U=>?_;rw[Wp]at P;show G _ j _ p.1 _ P U (iV D m.1) e
def De(fd:FuncData)(L a:WD)(U:List WD)(j:Bool)(D:fd.scope.kind=.function)(Q:fd.globals=mainGlobals)(P:fd.builtins=builtinsNs)(l:∀x∈fd.scope.names,x.2≠ .cell):Fm:=
 ⟨callEnv fd L a,D,Q,P,none,λx h=>(l _ (mem_of_lookup (n:=x) h) rfl).elim,λZ Z h=>aw h,true,U,j,some (callEnv fd L a)⟩
def KW(fd:FuncData)(L a:WD)(U:List WD)(j:Bool)(D:fd.scope.kind=.function)(Q:fd.globals=mainGlobals)(P:fd.builtins=builtinsNs)(z:Wu)(b:cellsFrom (L+1) fd.scope.names []=[(z,L+1)])(N:∀x,fd.scope.names.lookup x=some .cell↔x=z):Fm:=
 ⟨callEnvC fd L a,D,Q,P,some (z,L+1),λx h=>by obtain rfl:=(N x).mp h;show⟨L+1,rfl,?_⟩;change List.lookup x (cellsFrom (L+1) fd.scope.names [])=_;rw[b];simp,λx a h=>by cases h;show(N _).mpr rfl,true,U,j,some (callEnvC fd L a)⟩
section
variable {fa:WD}{o:Obj}{fd:FuncData}{body:List WG}{x:S}{spec:TA->WJ->Tx->(V->Tx->Prop)->Prop}{bind:TA->WJ->Option Tw}
def nc(T:TopRead c.Aa Sy mg mb c.base)
  (hk:fd.scope.kind=.function) (hg:fd.globals=mainGlobals) (hb:fd.builtins=builtinsNs) (V:fd.scope.isCoroutine=false) (q:fd.scope.isGenerator=false)
  (ho:c.base.get? fa=some o) (m:o.data=.func fd) (h:fd.body=.stmts body) (F:c.base.CodeRec fd.code fd.qualname) (l:∀x∈fd.scope.names,x.2≠ .cell)
  (D:∀O s w f z N,Holds O.F s.heap->(∀a o,c.base.get? a=some o->s.heap.get? a=some o)->Cw c.Aa c.w O w f->bind f z=some N->∃j,BindsTo s fd (Bj c w z) j/\(∀x∈j,fd.scope.names.lookup x.1=some .local)/\
   ∀n v,Sx n N=some v->∃u,j.reverse.lookup (c.nm n)=some u/\RV c.Aa c.w O u v)
  (hS:∀L U,SB c g (De fd L fa U b hk hg hb l) d x body)
  (i:∀f z H k,spec f z H k->Ab (bind f z) λN=>ex g x ⟨N,H,64,false⟩ (fin k)):AB b c fa (d+1) spec:=by
 intro U O H s A w f z k R r hv rm W hp;obtain⟨N,E,S⟩:=ak (i f z H k W);have B:=λa o e=>r.Av a o (r.base a o e);show bM (D O s w f z N r.Av B hv E) λj hB Q I=>?_;have hs:s.heap.get? s.heap.objs.size=none:=aF (Zq _);show codeAny_call_def (by show YW rm.Fs) (B _ _ ho) m (T.nolimit.keeps B) ?_ h hB l Q (λh₀ hn Y=>?_) V q hk
 ·show dY F λcc oc C t X G e3 e4=>(cI cc oc C t X (B _ _ G) e3 e4)
 ·show fZ rfl rfl (λy P=>?_) r.G4 (ZJ r.tk (ZR _ _)) (hS _ U) r rm Y ⟨aO _ hn λn v e=>?_,λZ Z e=>aw e,λu M=>?_,λM=>?_⟩ S hp
  ·rcases P with P|⟨_,e⟩
   ·show(Zb P).elim (λe=>.inr (e▸hs)) .inl
   ·show aw e
  ·show aA (I n v e) λu X G=>(aO u (.inr ⟨λZ e=>aw e,X⟩) G)
  ·show(r.ups u M).2.step (av (Y u))
  ·show bC (r.ups _ M).2 λo Z Z e Z=>aw (hs.symm.trans e)
def uM:∀ {j:TO} {m:Wu->TM},(∀x∈j,A x.1=some .local)->bindL A j m z=(j.reverse.lookup z).or (m z):=by
 intro j;induction j with
 |nil=>intro m _;rfl
 |cons p r Q=>
  intro m h;unfold bindL;rw[Zk (h p (.head _)),Q λx P=>h x (.tail _ P),List.reverse_cons,List.lookup_append];cases r.reverse.lookup z with
  |some _=>rfl
  |none=>
   rw[Xg];by_cases q:z=p.1
   ·rw[Zk q,beq_iff_eq.mpr q];rfl
   ·rw[Zi q,beq_eq_false_iff_ne.mpr q];rfl
def lD(T:TopRead c.Aa Sy mg mb c.base)
  (hk:fd.scope.kind=.function) (hg:fd.globals=mainGlobals) (hb:fd.builtins=builtinsNs) (hco:fd.scope.isCoroutine=false) (C:fd.scope.isGenerator=false) (B:fd.closure=[])
  (ho:c.base.get? fa=some o) (w:o.data=.func fd) (i:fd.body=.stmts body) (h:c.base.CodeRec fd.code fd.qualname) (z:Wu) (h1:∀L,cellsFrom (L+1) fd.scope.names []=[(z,L+1)]) (h2:∀x,fd.scope.names.lookup x=some .cell↔x=z)
  (D:∀O s Z f b N,Holds O.F s.heap->(∀a o,c.base.get? a=some o->s.heap.get? a=some o)->Cw c.Aa c.w O Z f->bind f b=some N->∃j,BindsTo s fd (Bj c Z b) j/\(∀x∈j,fd.scope.names.lookup x.1=some .local)/\
   ∀n v,Sx n N=some v->∃u,j.reverse.lookup (c.nm n)=some u/\RV c.Aa c.w O u v)
  (hS:∀L U,SB c g (KW fd L fa U false hk hg hb z (h1 L) h2) d x body)
  (m:∀f b H k,spec f b H k->Ab (bind f b) λN=>ex g x ⟨N,H,64,false⟩ (fin k)):AB false c fa (d+1) spec:=by
 intro U O H s A Z f b k R r hv rm hsp hp;obtain⟨N,I,Y⟩:=ak (m f b H k hsp);have E:=λa o e=>r.Av a o (r.base a o e);show bM (D O s Z f b N r.Av E hv I) λj hB Q S=>?_;have hs:s.heap.get? s.heap.objs.size=none:=aF (Zq _);have h:s.heap.CodeRec fd.code fd.qualname:=by
  show dY h λcc oc G t F M e3 e4=>(cI cc oc G t F (E _ _ M) e3 e4)
 show codeAny_call_function (by have:=rm.Fs;show Yb (ZR _ _) this) (E _ _ ho) w hco C i h (hB _ _ _ _ ?_);rw[B];show aN r.tk (wpAny_newFunctionEnv_cells hk (λx hx=>.inl (Q x hx)) λenv' he s' x V=>?_);subst he;have l:=x.toInCall.keep;show⟨(T.nolimit.keeps E).keeps l,codeAny_func ?_⟩;show aX x.done λh₁ tk W uu=>?_;subst W;show fZ rfl rfl (λy P=>?_) r.G4 V (hS _ U) r rm l ⟨aO _ x.toInCall.ns λn v e=>?_,λn a e=>?_,λu X=>?_,λX=>?_⟩ Y hp
 ·rcases P with P|⟨_,e⟩
  ·show(Zb P).elim (λe=>.inr (e▸hs)) .inl
  ·cases e;show .inr (show s.heap.get? (s.heap.objs.size+1)=none from aF (YX _))
 ·show aA (S n v e) λu F M=>(aO u (.inr ⟨λa q=>?_,?_⟩) M)
  ·have q1:=Q _ (List.mem_reverse.mp (mem_of_lookup F));have q2:=(h2 _).mpr (T3 Prod.fst (Zf q)).symm;replace q2:=q1▸q2;cases q2
  ·rw[uM Q,F];rfl
 ·cases e;show(yE _ (x.cell z _ (by change List.lookup z (cellsFrom (s.heap.objs.size+1) fd.scope.names [])=_;rw[h1];simp)))
 ·show(r.ups u X).2.step (av (l u))
 ·show bC (r.ups _ X).2 λo uu uu e uu=>aw (hs.symm.trans e)
end
variable {f:Fm}
inductive Row (c:Cx) (g:G) (f:Fm) (d:Nat):X->List WE->Prop
 |nil:Row c g f d .nil []
 |bad {es:List WE}:es.all BU=true->Row c g f d .bad es
 |cons {x y:X} {e:WE} {es:List WE}:BU e=true->SE c g f d x e->Row c g f d y es->Row c g f d (.cons x y) (e::es)
theorem Row.SL(h:Row c g f d x y):SL c g f d x y:=by
 induction h with
 |nil=>show abG
 |bad _=>intro O J s A k Q pos r l N j;show N.elim
 |cons a b _ e=>show ya a b e
def Cw.app{N:WA}{O:Gh}(h:Cw N w O Z u)(l:Cw N w O z P):Cw N w O (Z++z) (u++P):=by
 induction h with
 |nil=>show l
 |cons a _ Q=>show .cons a Q
def pQ(y:List WE):∀ {x:X} {O:Gh} {J:St} {s:Ww} {A:Wz} {k:TA->TF} {Q:TN->Ww->Prop} {pos:Pos},Row c g f d x (y++es')->Rel c O f.L J s->Ay f.L d A->SU g x J k->
  (∀l G F Z o n,Ext false f.L O s l F->Rel c l f.L G F->Cw c.Aa c.w l Z o->Z.length=y.length->Row c g f d n es'->SU g n G (λL J=>k (o++L) J)->Q Z F)->
  wpAny (model c.Aa c.w) A (spliced (backTo pos (starEach y f.env))) Q Bl s:=by
 induction y with
 |nil=>
  intro x O J s A k Q pos D r B N w;show wpAny_items_nil (w O J s [] [] x (.refl _ _ _ _) r .nil rfl D N)
 |cons e y R=>
  intro x O J s A k Q pos D r B N w;have D:=D;cases D with
  |bad _=>show N.elim
  |cons S h D=>
   rw[eE S];show Zn (h O J s A _ _ r B N λt H I v a m U M E=>Zn (ZE (Zn (ZY (R D U B E λj z P Z o n b i q u C E=>ZE (w j z P (v::Z) (a::o) n (m.trans r U b) i (.cons (M.mono b.le) q) (T3 (· +1) u) C E))))))
def vy(z:List WI):∀ {x:X} {O:Gh} {J:St} {s:Ww} {A:Wz} {k:TA->TF} {Q:TN->Ww->Prop},Row c g f d x (z.map (·.value))->Rel c O f.L J s->Ay f.L d A->SU g x J k->
  (∀l G F Z t,Ext false f.L O s l F->Rel c l f.L G F->Cw c.Aa c.w l Z t->Z.length=z.length->k t G->Q Z F)->
  wpAny (model c.Aa c.w) A (evalAll ((backToKw pos (keywordEach z f.env)).map (·.2))) Q Bl s:=by
 induction z with
 |nil=>
  intro x O J s A k Q D r C N B;have D:=D;cases D with
  |bad _=>show N.elim
  |nil=>show wpAny_evalAll_nil (B O J s [] [] (.refl _ _ _ _) r .nil rfl N)
 |cons R z M=>
  intro x O J s A k Q D r C N B;obtain⟨n,e,q⟩:=R;have D:=D;cases D with
  |bad _=>show N.elim
  |cons S h D=>
   show wpAny_evalAll_cons (Zn (h O J s A _ _ r C N λw H I v a o U L E=>Zn (Yz (ZE (M D U C E λj m P Z t b i y u E=>B j m P (v::Z) (a::t) (o.trans r U b) i (.cons (L.mono b.le) y) (T3 (· +1) u) E)))))
def fE(Y:Ctx c K p Sy mg mb)(pos:Pos)(env:Env):∀ {y:WJ},Mc p z=some y->(backToKw pos (keywordEach z env)).all (·.1.isSome)=true/\(backToKw pos (keywordEach z env)).any (·.1.isNone)=false/\
  (backToKw pos (keywordEach z env)).filterMap (·.1)=y.map c.nm/\y.length=z.length:=by
 induction z with
 |nil=>intro y h;obtain rfl:=Zf h;show⟨rfl,rfl,rfl,rfl⟩
 |cons k r n=>
  intro y h;obtain⟨a,e,q⟩:=k;show aA (ax h) λx Q h=>aA (ax h) λi U h=>?_;show aA (aZ h) λl m P=>?_;clear h;subst P;obtain rfl:a=some x:=Q;show bY (n m) λN u b O=>⟨N,u,?_,T3 (· +1) O⟩
  change x::(backToKw pos (keywordEach r env)).filterMap _=_;rw[b,Ye,(Y.code x i U).1]
def a6(pos:Pos)(env:Env)(h:y.all BU=true):(backTo pos (starEach y env)).any (·.1)=false:=by
 induction y with
 |nil=>rfl
 |cons e y Q=>
  rw[YR,Zp]at h;rw[eE h.1];show Q h.2
def Row.cZ(h:Row c g f d x (y++Z)):y.all BU=true:=by
 induction y generalizing x with
 |nil=>rfl
 |cons e y i=>
  have h:Row c g f d x (e::(y++Z)):=h;cases h with
  |bad Q=>
   rw[YR,Zp]at Q;have:=Q.2;rw[List.all_append,Zp]at this;rw[YR,Q.1,this.1];rfl
  |cons a _ b=>rw[YR,a,i b];rfl
def bS{O:Gh}(Y:Ctx c K p Sy mg mb)(D:Mc p kws=some ks)
  (E:Row c g f d x (args++kws.map (·.value))) (r:Rel c O f.L J s) (L:Ay f.L d A) (t:SU g x J k)
  (T:∀m H F b h,ks.length<=b.length->Ext false f.L O s m F->Rel c m f.L H F->Cw c.Aa c.w m b h->k h H->Q (Bj c b ks) F):
  wpAny (model c.Aa c.w) A (evalArgs fv true (backTo pos (starEach args f.env)) (backToKw pos (keywordEach kws f.env))) Q Bl s:=by
 show bY (fE Y pos f.env D) λG W S I=>?_;have last:∀ {Z U l b h w},Ext false f.L O s Z l->Rel c Z f.L U l->Cw c.Aa c.w Z b h->Row c g f d w (kws.map (·.value))->SU g w U (λB J=>k (h++B) J)->
   wpAny (model c.Aa c.w) A (evalAll ((backToKw pos (keywordEach kws f.env)).map (·.2))) (λn P=>Q ⟨b,((backToKw pos (keywordEach kws f.env)).filterMap (·.1)).zip n⟩ P) Bl l:=λ{Z U l b h w} z a y i D=>by
  show vy kws i a L D λj q P n B N o C u D=>?_;have:=T j q P (b++n) (h++B) (by((show Zg▸ ?_;show I▸ ?_);show u▸ ?_);show Z0 n.length b.length) (z.trans r a N) o ((y.mono N.le).app C) D;have e:Bj c (b++n) ks=⟨b,((backToKw pos (keywordEach kws f.env)).filterMap (·.1)).zip n⟩:=by
   unfold Bj;rw[S,Zg,I, ←u,Nat.add_sub_cancel,We,YU]
  rw[e]at this;show this
 induction args using Re with
 |nil=>show evalArgs_kw_nil G (last (.refl _ _ _ _) r .nil E (by simpa using t))
 |cons e R=>
  have M:=E.cZ;rw[YR,Zp]at M;have v:=pQ (e::R) (pos:=pos) E r L t
   λZ U l b h w z a y uu i D=>last z a y i D
  rw[eE M.1]at v⊢;show evalArgs_kw G v
def H0(Q:Wv->Ww->Prop)(r:Result)(j:Ww):Prop:=match r with| .ok (.ret v)=>Q v j| .ok _=>False| .error e=>Bl e j
def js(h:fnIn K y=true):keepIn K (.ref y)=true:=by
 unfold fnIn at h;unfold keepIn;dsimp only;cases q:K.lookup y with
 |none=>rw[q]at h;show a7 h
 |some o=>
  rw[q]at h;obtain⟨Sp,So,Sn,j⟩:=o;cases Sn<;>first|rfl|show a7 h
def gm(v:Wv)(h:y.length<=Z.length):Bj c (v::Z) y=⟨v::(Bj c Z y).pos,(Bj c Z y).kw⟩:=by
 unfold Bj;rw[Nat.sub_add_comm h,List.take_succ_cons,List.drop_succ_cons]
def ye(Y:Ctx c K p Sy mg mb)(S:FX c K g){e:Nat}(C:AB false c e d (g.call e))(M:B8 f.cs nm=true)(T:p.Gw nm=some (.st e))(h:Row c g f d x U):
  SE c g f d (.call e x) (.Call (.Name nm pos') U [] pos):=by
 intro O J s A k Q r B E R;show wpAny_Call_Name_kw (m8 (g:=g) Y M T O J s A (λv J=>v=.st e/\SU g (.call e x) J (one k)) _ r B ⟨rfl,E⟩ λt G L v z n a w h=>?_);obtain⟨rfl,b⟩:=h;subst w;have H:Row c g f d x (U++([]:List WI).map (·.value)):=by simpa using h
 have b:=b;show callWith_of (P:=λh=>K.In h/\fnIn K e=true) (by show(a6 pos f.env H.cZ).symm▸ ?_;rfl)
  (λh u=>keeps_K (js u.2) h u.1) (bS Y rfl H a B b λq F I V W uu N D o b=>⟨⟨Y.X.keeps D.bN,S.fn _ (ib b)⟩,?_⟩)
 show XI (eJ C D B.toRoom o b λZ l j v y i m w b=>R Z l j v y ((n.trans r a N).trans r D i) m w b)
set_option backward.match.sparseCases false
def HY(n:Nat):String:=["list.append","list.pop","str.join","str.replace","str.count","str.rfind","str.split","str.lower","str.upper","str.startswith","str.find","dict.get"].getD n ""
def vk(n:Nat)(N:2<=n)(y:n<=10):Slot "str" (Fk.getD n "") (HY n)/\typeOf (.builtin (HY n))=pure (.type "method_descriptor"):=by
 rcases ZU y with rfl|y; · show⟨F.slot_str_find,F.type_str_find⟩
 rcases ZU (ZN y)with rfl|y; · show⟨F.slot_str_startswith,F.type_str_startswith⟩
 rcases ZU (ZN y)with rfl|y; · show⟨F.slot_str_upper,F.type_str_upper⟩
 rcases ZU (ZN y)with rfl|y; · show⟨F.slot_str_lower,F.type_str_lower⟩
 rcases ZU (ZN y)with rfl|y; · show⟨F.slot_str_split,F.type_str_split⟩
 rcases ZU (ZN y)with rfl|y; · show⟨F.slot_str_rfind,F.type_str_rfind⟩
 rcases ZU (ZN y)with rfl|y; · show⟨F.slot_str_count,F.type_str_count⟩
 rcases ZU (ZN y)with rfl|y; · show⟨F.slot_str_replace,F.type_str_replace⟩
 obtain rfl:=YK (ZN y) N;show⟨F.slot_str_join,F.type_str_join⟩
def wj(n:Nat)(h:n<=1):Slot "list" (Fk.getD n "") (HY n)/\typeOf (.builtin (HY n))=pure (.type "method_descriptor"):=by
 rcases ZU h with rfl|h; · show⟨F.slot_list_pop,F.type_list_pop⟩
 obtain rfl:=Wq.mp (ZN h);show⟨F.slot_list_append,F.type_list_append⟩
def jd{l:WJ}(h:(!BE l)=true):l=[]:=by induction l<;>first|rfl|show a7 h
def MR(c:Cx)(O:Gh)(n:Nat)(z:WJ)(N:Wv)(first:TN)(m:M):Prop:=
 M.casesOn (motive:=λZ=>Prop) m (λf v=>N=.ref f/\∃u,first=[u]/\RV c.Aa c.w O u v) (λf j=>first=[]/\∃q a ft,N=.ref q/\O.F q=some (LD f a)/\O.φ j=some (a,ft))
  (λx=>N=.builtin (HY n)/\z=[]/\2<=n/\n<=10/\∃u,first=[u]/\RF c.Aa c.w O.F u (.str x)) (λi=>N=.builtin (HY n)/\z=[]/\n<=1/\∃a ft,first=[.ref a]/\O.φ i=some (a,ft)) (λl=>N=.builtin "dict.get"/\z=[]/\∃u,first=[u]/\RF c.Aa c.w O.F u (.An l))
def kg(Q:getL nm y=some none):shadowIn (some (dictOf y n)) nm=some false:=by
 change(lookIn nm (dictOf y n)).map _=_;rw[lookIn_dict,Q];rfl
def oR{nm:Wu}{id:String}(P:Slot "str" nm id)(D:typeOf (.builtin id)=pure (.type "method_descriptor"))
  (N:RF c.Aa c.w j v (.str x)) (h:Q (.builtin id,[v]) s):wpAny (model c.Aa c.w) A (getMethod v nm pl) Q E s:=by
 obtain⟨y,t,rfl⟩:∃y t,v=.str y t:=by obtain⟨t,e,_⟩:=N.x;show⟨_,t,e⟩
 show getMethod_builtin (Wk _ _ _) F.plainAttrs_str P D (λZ e=>nomatch e) h
def mi(XK:K.In c.base)(Y:FX c K g){O:Gh}(r:Rel c O L J s)(N:RV c.Aa c.w O ov o)
(h:C4 g o n z J=some m) (G:∀w s' R first,Ext false L O s w s'->Rel c w L J s'->MR c w n z R first m->Q (R,first) s'):wpAny (model c.Aa c.w) A (getMethod ov (c.nm n) pl) Q Bl s:=by
 have H:=XK.keeps r.bN;induction o using V.casesOn with
 |E9 f i=>show aw h
 |c R=>
  have k:(Bool.rec (Af (aS R) λx=>Bool.rec none (some (.str x)) (and (!BE z) (and (ble 2 n) (ble n 10)))) (Af (Ta R) λl=>Bool.rec none (some (.dg l)) (!BE z)) (beq n 11):Option M)=some m:=h;clear h;cases E:beq n 11 with
  |true=>
   replace k:=E▸k;show aA (ax k) λl e h=>?_;clear k;obtain rfl:=afM e;cases P:(!BE z)with
   |false=>replace h:=P▸h;show aw h
   |true=>
    replace h:=P▸h;obtain rfl:=Zf h;obtain rfl:=ZC E;have N:=N;obtain⟨a,o,kvs,rfl,e1,n1,q,rr,_⟩:=N.x;show getMethod_builtin ((q.at (r.Av _ _ e1)).typeIs) F.plainAttrs_dict (by rw[Y.mn 11 (by ext)];show F.slot_dict_get) F.type_dict_get (λb e=>by cases e;show(aO o (r.Av _ _ e1) (q.elim λuu h=>h.elim λuu h=>h.1.2.1))) (G O s _ _ (.refl _ _ _ _) r ⟨rfl,jd P,aO _ rfl N⟩)
  |false=>
  replace k:=E▸k;show aA (ax k) λx e h'=>?_;clear k;obtain rfl:=qN e;have h:=h';cases P:and (!BE z) (and (ble 2 n) (ble n 10))with
  |false=>replace h:=P▸h;show aw h
  |true=>
   replace h:=P▸h;clear h';obtain rfl:=Zf h;replace P:=(Zp _ _)▸P;replace P:=(Zp _ _)▸P;show zA (vk n (bz P.2.1) (bz P.2.2)) λB X=>?_;replace B:=(YS (Y.mn n (Yb (bz P.2.2) (by ext))))▸B;show oR B X N (G O s _ _ (.refl _ _ _ _) r ⟨rfl,jd P.1,bz P.2.1,bz P.2.2,aO _ rfl N⟩)
 |st a=>
  subst N;show aA (aZ h) λy W t=>?_;clear h;subst t;show aK (Y.Gp a n y W) λC dx od U h2 D h4 h5=>?_;show method_fn H (show InstAt s.heap a (FE C (some dx)) C (some od) from⟨H _ _ U,rfl,rfl,H _ _ h2⟩) D.ga D.gk h4.fi h4.ty h5 (G O s _ _ (.refl _ _ _ _) r ⟨rfl,aO _ rfl rfl⟩)
 |ob i=>
  show aX N λa ft e zq3=>?_;clear N;subst zq3;show aA (ax h) λo q h=>?_;have ro:=r.ob e q;induction o using AO.casesOn with
  |inst C dd=>
   show aK ro λdx es mm hft hne U h2 D=>?_;have I:=jt U h2;have h:IX g i n C dd=some m:=h;unfold IX at h;cases k:Sx n dd with
   |some v=>
    replace h:=k▸h;induction v using V.casesOn with
    |E9 y j=>
     have h:=h;cases ho:g.own C n with
     |false=>replace h:=ho▸h;show aw h
     |true=>
      replace h:=ho▸h;obtain rfl:=Zf h;show zA (Y.own C n ho) λZ S=>?_;obtain⟨u,g1,qa,b,ft2,rfl,T,k2⟩:=fV D k;show method_usual H I Z.ga Z.gk S rfl (get_value H I Z.ga (kP Z S g1) rfl (G O _ _ _ (.toks _ _) r.dX ⟨rfl,b4 qa b ft2 rfl T k2⟩))
    |_=>show aw h
   |none=>
    replace h:=k▸h;show aA (aZ h) λy W t=>?_;clear h;subst t;show zA (Y.cls C n y W) λZ S=>method_fn H I Z.ga Z.gk S.fi S.ty (kg (fW D k)) (G O s _ _ (.refl _ _ _ _) r ⟨rfl,gE _ rfl a ft e rfl⟩)
  |lst l=>
   have h:=h;cases P:and (!BE z) (ble n 1)with
   |false=>replace h:=P▸h;show aw h
   |true=>
    replace h:=P▸h;obtain rfl:=Zf h;replace P:=(Zp _ _)▸P;show zA (wj n (bz P.2)) λB X=>?_;replace B:=(YS (Y.mn n (Yb (bz P.2) (by ext))))▸B;show bI ro λhft o vs T zq4 k3 k4=>?_;obtain⟨nn,rfl⟩:=zq4;show getMethod_builtin (aO _ T rfl) F.plainAttrs_list B X (λb e=>by cases e;show(aO _ T rfl)) (G O s _ _ (.refl _ _ _ _) r ⟨rfl,jd P.1,bz P.2,aU a ft rfl e⟩)
  |_=>show aw h
def K4(c:Cx)(L:Loc):Prop:=∀n O J s A k Q v x Z y,2<=n->n<=10->Rel c O L J s->A.handled=none->RF c.Aa c.w O.F v (.str x)->Ba c.Aa c.w s.heap.get? Z y->Lo n x y J k->B2 c L O s k Q->wpAny (model c.Aa c.w) A (PySem.call (.builtin (HY n)) (v::Z)) Q Bl s
def K6(c:Cx)(L:Loc):Prop:=∀n O J s A k Q i a ft l Z u,n<=1->Rel c O L J s->O.φ i=some (a,ft)->Sx i J.H=some (.lst l)->Cw c.Aa c.w O Z u->NK n i l u J k->B2 c L O s k Q->wpAny (model c.Aa c.w) A (PySem.call (.builtin (HY n)) (.ref a::Z)) Q Bl s
def qI{O:Gh}(r:Rel c O L J s)(h:Cw c.Aa c.w O Z u):∀ {y:Tz},Je J.H u=some y->Ba c.Aa c.w s.heap.get? Z y:=by
 induction h with
 |nil=>intro y h;obtain rfl:=Zf h;show .nil
 |cons Q _ k=>
  intro y h;show aA (ax h) λf U h=>?_;show aA (aZ h) λt m P=>?_;clear h;subst P;show bM (cq r Q U) λF i n b=>.cons (RF.mono (λa o e=>i a o e) b) (k m)
def jR{O:Gh}(_:Rel c O L J s)(h:Cw c.Aa c.w O Z u):∀ {y:Tz},Rl u=some y->Ba c.Aa c.w O.F Z y:=by
 induction h with
 |nil=>intro y h;obtain rfl:=Zf h;show .nil
 |cons Q _ a=>
  intro y h;show aA (ax h) λf U h=>?_;show aA (aZ h) λt b P=>?_;clear h;subst P;clear h;obtain rfl:=f7 U;show .cons Q (a b)
def jq(h:Mc p z=some []):z=[]:=by
 induction z using Re with
 |nil=>rfl
 |cons k r=>
  show aA (ax h) λx Z h=>aA (ax h) λi Z h=>aA (aZ h) λl Z h=>?_;cases h
def aaN{N:WA}(a:WJ){d:Wv}{f:FV}(hd:RF N w F d f):∀ {U:TO},Eh N w F U l->RF N w F ((valueAt U (CH a)).getD d) (Option.rec f (λv=>v) (sel a l)):=by
 induction l with
 |nil=>intro U h;obtain rfl:=h.inv;show hd
 |cons p l Q=>
  intro U h;show bA h.inv λv r P b D=>?_;clear h;subst P;change RF _ _ _ _ (Option.rec f (λv=>v) (Bool.rec (sel a l) (some p.2) (Cn a p.1):TJ));rw[aE];unfold valueAt;rw[X6];by_cases z:a=p.1
  ·clear Q;subst z;simpa using b
  ·simp only[z,show¬CH p.1=CH a from λe=>z (eG e).symm];show Q D
def vR{O:Gh}(r:Rel c O L J s)(B:RF c.Aa c.w O.F u (.An l))(N:Ba c.Aa c.w O.F vs y)
  (h:Ab (So y λa b=>(a,b)) λp=>Ab (aS p.1) λa=>k (.c (Option.rec p.2 (λv=>v) (sel a l))) J) (j:B2 c L O s k Q):wpAny (model c.Aa c.w) A (PySem.call (.builtin "dict.get") (u::vs)) Q Bl s:=by
 obtain⟨p,e,h⟩:=ak h;obtain⟨a,G,E⟩:=ak h;obtain⟨f,t,rfl,Z⟩:∃f t,y=f::t/\BK (Sp t) (λb=>(f,b))=some p:=by
  cases y with
  |nil=>show aw e
  |cons f t=>show(aU f t rfl e)
 show aA (aZ Z) λb m P=>?_;clear h Z e;subst P;obtain⟨I,M,rfl,U,D⟩:=N.inv;show aA (D.one m) λC i H=>?_;clear D N;subst i;obtain⟨z,rfl,_⟩:=U.aS G;obtain⟨x,o,w,rfl,n,n1,q,rr,_⟩:=B.x;have dd:=q.at (r.Av _ _ n);show call_meetsIn F.slot_dict_get dd.typeIs F.entry_dict_get (F.args_dict_get_3 _ _ _) (meets_dict_get_default (strKind c.Aa c.w) x (fU a z) (pI n1) C) (aO _ dd.mapOf (j O J _ _ _ (.toks _ _) r.dX (dq (aaN a H rr)) E))
def yc(Y:Ctx c K p Sy mg mb)(YG:FX c K g)(hS:K4 c f.L)(hL:K6 c f.L)(C:∀fa,AB false c fa d (g.call fa))
  (hb:AU o=true) (hline:(apos.endLine==pos.line)=true) (hfew:args.length+kws.length<29) (hn:c.nm n=nm) (D:Mc p kws=some ks) (h:SE c g f d xo o) (hr:Row c g f d x (args++kws.map (·.value))):
  SE c g f d (.Al xo n x ks) (.Call (.Attribute o nm apos) args kws pos):=by
 intro O J s A k Q r rm hev hp;rw[arm_eval_Call _ _ _ _ _ _ _,cQ hb, ←hn];show Zn (h O J s A _ _ r rm hev λgh₁ J₁ s₁ ov oa x₁ r₁ ho T=>?_);obtain⟨m,hm,T⟩:=ak T;show bY (fE Y pos f.env D) λa1 a2 a3 a4=>?_;have hst:(backTo pos (starEach args f.env)).all (λx=> !x.1)=true:=by
  have:=a6 pos f.env hr.cZ;rw[List.any_eq_false]at this;rw[propext Zv];intro y hy;simpa using this y hy
 have W:methodCallForm (args.length+kws.length) (backTo pos (starEach args f.env)) (backToKw pos (keywordEach kws f.env))=true:=by
  unfold methodCallForm;rw[hst,a1];simp only[XB,Yu];split<;>omega
 have hpos:methodCallPos true o f.env apos pos=pure pos:=by unfold methodCallPos;simp[hline]
 unfold methodCall;show W▸(Zn (Yz (Zn (ZY (mi Y.X YG r₁ ho hm λgh₂ s₂ fv first x₂ w V=>Zn (X7 hpos ?_))))));have S:((backTo pos (starEach args f.env)).any (·.1)||(backToKw pos (keywordEach kws f.env)).any (·.1.isNone))=false:=by(show(a6 pos f.env hr.cZ).symm▸ ?_;show a2.symm▸ ?_);rfl
 have t:=x₁.trans r r₁ x₂;induction m using M.casesOn with
 |fn fa v=>
  show eX V λzq0 u zq2 hu=>?_;clear V;subst zq0 zq2;show callWith_of (P:=λh=>K.In h/\fnIn K fa=true) S (λh hh=>keeps_K (js hh.2) h hh.1) (bS Y D hr w rm T λZ G H vs xs I U b L D=>⟨⟨Y.X.keeps b.bN,YG.fn _ (ib D)⟩,?_⟩);show XI ?_;have:=eJ (A:=A) (R:=H0 Q) (vs:=u::vs) (C fa) b rm.toRoom (.cons (hu.mono U.le) L) D λe E B v y N F hv D=>hp e E B v y ((t.trans r w U).trans r b N) F hv D;rw[gm (c:=c) u I]at this;show this
 |own fa j=>
  obtain⟨rfl,q,a,ft,rfl,k1,k2⟩:=V;show callWith_of (P:=λh=>MethP K q fa (.ref a) h/\fnIn K fa=true) S (λh hh=>keeps_M hh.2 h hh.1) (bS Y D hr w rm T λZ G H vs xs I U b L D=>⟨⟨⟨b.Av _ _ (U.le.F _ _ k1),Y.X.keeps b.bN⟩,YG.fn _ (ib D)⟩,?_⟩);show XI (method_call (b.Av _ _ (U.le.F _ _ k1)) ?_);show zE (U.le.φ j a ft k2 λx=>a7 x) λft' k3=>?_;have:=eJ (A:=A) (R:=H0 Q) (vs:=.ref a::vs) (C fa) b rm.toRoom (.cons (show RV c.Aa c.w Z (.ref a) (.ob j) from(aU a ft' k3 rfl)) L) D λe E B v y N F hv D=>hp e E B v y ((t.trans r w U).trans r b N) F hv D;rw[gm (c:=c) (.ref a) I]at this;show this
 |str z=>
  obtain⟨rfl,rfl,h2,h9,u,rfl,hu⟩:=V;obtain rfl:=jq D;show Xz (a6 pos f.env hr.cZ) (bS (kws:=[]) Y D hr w rm T λZ G H vs xs I U b L D=>?_);rw[aR];obtain⟨fs,hfs,D⟩:=ak D;show hS n Z G H A _ Q u z vs fs h2 h9 b rm.hd (RF.mono U.le.F hu) (qI b L hfs) D λe E B v y N F hv D=>hp e E B v y ((t.trans r w U).trans r b N) F hv D
 |dg z=>
  obtain⟨rfl,rfl,u,rfl,hu⟩:=V;clear hfew a1 a2 W S a3 a4;obtain rfl:=jq D;show Xz (a6 pos f.env hr.cZ) (bS (kws:=[]) Y D hr w rm T λZ G H vs xs I U b L D=>?_);rw[aR];obtain⟨fs,hfs,D⟩:=ak D;show vR (k:=k) b (RF.mono U.le.F hu) (jR b L hfs) D λe E B v y N F hv D=>hp e E B v y ((t.trans r w U).trans r b N) F hv D
 |lst i=>
  obtain⟨rfl,rfl,h1,a,ft,rfl,ha⟩:=V;obtain rfl:=jq D;show Xz (a6 pos f.env hr.cZ) (bS (kws:=[]) Y D hr w rm T λZ G H vs xs I U b L D=>?_);rw[aR];obtain⟨l,hl,D⟩:=ak D;have hl:=uT hl
  ·show zE (U.le.f ha) λft' e'=>hL n Z G H A _ Q i a ft' l vs xs h1 b e' hl L D λe E B v y N F hv D=>hp e E B v y ((t.trans r w U).trans r b N) F hv D
def yI(X:K.In c.base)(F:FX c K g)(C:∀a,AB false c a d (g.call a)):Ku c g L d:=by
 intro O J s A x a W v k Q r E w n h B;show fg (F.con x a n) λD H S o T V G=>aA r.loc.nm λm N Y=>?_;have e:=X.keeps r.bN;show contains_K (r.fr N) X (show InstAt s.heap x (FE D (some H)) D (some S) from⟨e _ _ o,rfl,rfl,e _ _ T⟩) V G (XI ?_);have:=eJ (R:=H0 λi I=>wpAny (model c.Aa c.w) A (truthy i) Q Bl I) (C a) r E.toRoom (.cons (show RV c.Aa c.w O (.ref x) (.st x) from rfl) (.cons w .nil)) h λZ l j i y U P z b=>?_
 ·rw[aR]at this;show this
 obtain⟨t,M,b⟩:=ak b;show dD P z M λq u=>B Z l _ t (U.trans r P (.toks false q)) (P.toks u) b
def Rel.give{O:Gh}(r:Rel c O L J s){ft:List WD}{o:AO}(t:O.φ i=none)(hi:i<J.m)(n:∀x∈ft,O.F x=none/\¬L.CN x/\¬AD O x/\∃o,s.heap.get? x=some o)
  (S:RO c.Aa c.w c.nm (O.at i (a,ft)) s.heap a ft o):Rel c (O.at i (a,ft)) L (As J ((i,o)::J.H)) s/\Le false O (O.at i (a,ft)):=by
 have I:∀ {j:Nat} {p:WD×List WD},O.φ j=some p->j≠i:=λe q=>by rw[q,t]at e;show aw e
 have C:Le false O (O.at i (a,ft)):=⟨λZ Z e=>e,λj b l e Z=>(yE l ((Gh.bc (I e)).trans e))⟩
 have U:∀ {j:Nat} {b:WD} {l:List WD} {x:WD},O.φ j=some (b,l)->x∈l->x∉ft:=λe F q=>(n _ q).2.2.1 (ay _ _ _ e F);show⟨⟨r.Av,λj N Q=>?_,λj k b l d fd Q y D x h m=>?_,λx B=>?_,r.nL,?_,λj Q=>?_,r.DY,λj p Q E=>?_,r.base,r.Lb,r.tk⟩,C⟩
 ·have P:Sx j ((i,o)::J.H)=some N:=Q;rw[aq]at P;by_cases q:j=i
  ·rw[Zk q]at P;clear Q;obtain rfl:=Zf P;show(aU _ _ (by show q▸ ?_;show Gh.bf) S)
  ·rw[Zi q]at P;show aX (r.obs j N P) λb l e H=>(aU b l ((Gh.bc (q)).trans e) (H.step C λx Z o M=>M))
 ·by_cases q:j=i<;>by_cases A:k=i
  ·show D (q.trans A.symm)
  ·have R:=Gh.bf.symm.trans (q▸Q);cases R;show U ((Gh.bc A).symm.trans y) m h
  ·have G:=Gh.bf.symm.trans (A▸y);cases G;show U ((Gh.bc q).symm.trans Q) h m
  ·show r.sep j k b l d fd (show O.φ j=some (b,l) from(Gh.bc q).symm.trans Q) (show O.φ k=some (d,fd) from(Gh.bc A).symm.trans y) D x h m
 ·rcases B.at_ with z|⟨j,b,l,_,e,z⟩
  ·show bY (n x z) λu v Z w=>⟨u,v,w⟩
  ·show r.off x (ay j b l e z)
 ·show r.loc.step C λZ Z=>av λZ e=>e
 ·have:j≠i:=λq=>by have Q:J.m<=j:=Q;lia
  change(if j=i then _ else O.φ j)=none;rw[Zi this];show r.new j Q
 ·change∃N,Sx j ((i,o)::J.H)=some N;rw[aq];by_cases q:j=i
  ·show(yE o (by rw[Zk q]))
  ·rw[Zi q];show r.CZ j p ((Gh.bc q).symm.trans Q) E
def Room.make(h:Room U (d+1) A)(C:WD)(Z:TN)(P:TO):Room U d (A.under (.builtin "type.__call__" ⟨.ref C::Z,P⟩)):=
 ⟨h.hd,by show aA h.fr λy e h=>?_;show(aO y (by change pushEnvs [] A.frames=_;rw[e];rfl) h),by have:=h.Fs;change A.depth+1+d<_;show Zh (Z1 (Zz (ZZ _ 1 _))) this,by have:=h.un;change A.units+1+16*d+64<_;lia⟩
def sJ(h:HN g C u J k):Sx (g.FI C) J.H=none/\Mm (g.Jy C) λf=>BL g f (.ob (g.FI C)::u) [] (As J (J.H++[(g.FI C,.inst C [])])) λv j=>S7 (LK v) (k (.ob (g.FI C)) j) False:=by
 unfold HN at h;cases q:Sx (g.FI C) J.H with
 |none=>rw[q]at h;show⟨rfl,ak h⟩
 |some _=>rw[q]at h;show h.elim
def aaF{O:Gh}(h:LK y=true)(N:RV c.Aa c.w O v y):v=.none:=by
 induction y using V.casesOn with
 |c f=>
  induction f using FV.casesOn with
  |Ak=>show RF.x N
  |_=>show a7 h
 |_=>show a7 h
def aaf(XK:K.In c.base)(Y:FX c K g){A:Wz}{C:WD}{O:Gh}{k:TC}{Q:Wv->Ww->Prop}(CC:∀fa,AB false c fa d (g.call fa))(r:Rel c O L J s)(rm:Room L.all (d+1) A)
  (I:Cw c.Aa c.w O Z xs) (h:HN g C xs J k) (hp:B2 c L O s k Q):codeAny (model c.Aa c.w) A (.call (.ref C) ⟨Z,[]⟩) (H0 Q) s:=by
 show zA (sJ h) λU G=>?_;obtain⟨T,H,h⟩:=G;show iq (Y.Jy C T H) λm1 m2 m3 m4 m5=>?_;have l:=XK.keeps r.bN;have M:O.φ (g.FI C)=none:=by
  cases q:O.φ (g.FI C)with
  |none=>rfl
  |some p=>show zE (r.CZ _ p q m5) λo e=>?_;rw[U]at e;show aw e
 have r2:=(r.push emptyDict).push (instObj C s.heap.objs.size);have u:s.heap.get? s.heap.objs.size=none:=aF (Zq _);have B:s.heap.get? (s.heap.objs.size+1)=none:=aF (YX _);have hD:((s.heap.push emptyDict).push (instObj C s.heap.objs.size)).get? s.heap.objs.size=some emptyDict:=Zw _ (ZL _ rfl);have X:((s.heap.push emptyDict).push (instObj C s.heap.objs.size)).get? (s.heap.objs.size+1)=some (instObj C s.heap.objs.size):=by
  have:=ZL (s.heap.push emptyDict) (o:=instObj C s.heap.objs.size) rfl
  rwa [Heap.size_push]at this
 show zA (r2.give (o:=.inst C []) (a:=s.heap.objs.size+1) (ft:=[s.heap.objs.size+1,s.heap.objs.size]) M (ZJ m5 r.DY)
  (λx P=>by
   rcases Zb P with rfl|P
   ·have w:=r.free B;show⟨w.1,w.2.1,w.2.2,yE _ X⟩
   ·obtain rfl:=Za P;have w:=r.free u;show⟨w.1,w.2.1,w.2.2,yE _ hD⟩)
  (aM s.heap.objs.size [] 0 rfl (Nat.succ_ne_self _) X hD .nil)) λW l3=>?_
 have x3:Ext false L O s (O.at (g.FI C) (s.heap.objs.size+1,[s.heap.objs.size+1,s.heap.objs.size])) {s with heap:=(s.heap.push emptyDict).push (instObj C s.heap.objs.size)}:=by
  show⟨l3,λx o e F F=>Zw _ (Zw _ e),.of λF F F e=>Zw _ (Zw _ e),λx P=>?_,λx o e=>.inl e,GK.refl _,rfl,rfl⟩;rcases P.at_ with z|⟨j,b,fb,_,e,z⟩
  ·rcases Zb z with rfl|z
   ·show .inr B
   ·show(Za z).symm▸(.inr u)
  ·show .inl (ay j b fb e z)
 have m:RV c.Aa c.w (O.at (g.FI C) (s.heap.objs.size+1,[s.heap.objs.size+1,s.heap.objs.size])) (.ref (s.heap.objs.size+1)) (.ob (g.FI C)):=(aU _ _ Gh.bf rfl)
 obtain⟨hh,gs,dr,tk,os⟩:=s;show make_core (makes_of l m1) (looks_findIn l m2) (λn=>bind_fn l n m3) (.inl rfl) ?_;have:=eJ (A:=A.under (.builtin "type.__call__" ⟨.ref C::Z,[]⟩)) (R:=InitBack (hh.objs.size+1) (H0 Q)) (CC T) (W.nM (jk _ _ U)) (rm.make C Z []) (.cons m (I.mono l3)) h λi t D v y N E I S=>?_
 ·rw[aR]at this;show this
 ·show zA (qJ S) λhz S=>?_
  ·obtain rfl:v=.none:=aaF hz I;show⟨rfl,hp i t D _ (.ob (g.FI C)) (x3.trans r (W.nM (jk _ _ U)) N) E (show RV c.Aa c.w i (.ref (hh.objs.size+1)) (.ob (g.FI C)) from RV.mono N.le m) S⟩
def abN(Y:Ctx c K p Sy mg mb)(M:FX c K g)(V:∀L,AB false c L d (g.call L))(W:B8 f.cs nm=true)(hc:p.Gw nm=some (.st C))(h:Row c g f (d+1) x U):
  SE c g f (d+1) (.new C x) (.Call (.Name nm pos') U [] pos):=by
 intro O J s A k Q r E F hp;show wpAny_Call_Name_kw (m8 (g:=g) Y W hc O J s A (λv J=>v=.st C/\SU g (.new C x) J (one k)) _ r E ⟨rfl,F⟩ λt H S v z m a B h=>?_);obtain⟨rfl,b⟩:=h;subst B;have I:Row c g f (d+1) x (U++([]:List WI).map (·.value)):=by simpa using h
 have b:=b;show callWith_of (P:=λh=>K.In h/\keepIn K (.ref C)=true) (by show(a6 pos f.env I.cZ).symm▸ ?_;rfl)
  (λh u=>keeps_K u.2 h u.1) (bS Y rfl I a E b λq G R vs xs uu N D n b=>⟨⟨Y.X.keeps D.bN,?_⟩,?_⟩)
 ·show zA (sJ b) λuu o=>?_;obtain⟨T,w,_⟩:=o;show(M.Jy C T w).2.2.2.1
 ·rw[aR];show XI (aaf Y.X M V D E.toRoom n b λZ l j v y e i B b=>hp Z l j v y ((m.trans r a N).trans r D e) i B b)
variable {L:Loc}{J:St}{s:Ww}
def iC(r:Rel c O L J s)(U:RV c.Aa c.w O y ox)(hi:RV c.Aa c.w O D ix)(m:RV c.Aa c.w O v x)
  (h:El ox ix x J k) (B:∀l Z j,Ext false L O s l j->Rel c l L Z j->k Z->Q () j):wpAny (model c.Aa c.w) A (setItem y D v) Q Bl s:=by
 obtain⟨n,u,b⟩:=ak h;clear h;obtain rfl:=lC u;obtain⟨f,u,N⟩:=ak b;clear b;obtain rfl:=f7 u;obtain⟨o,q,h⟩:=ak N;clear N;show aX U λa ft e z=>?_;clear U;subst z;induction o using AO.casesOn with
 |An C=>
  obtain⟨key,u,h⟩:=ak h;show zA (qJ h) λP h=>?_;obtain⟨t,rfl,_⟩:=RF.aS hi u;show vO r e q m (bz P) λl j i w=>B _ _ _ i w h
 |_=>show h.elim
def xV(hc:Ci e=false)(h:SE c g f d x e)(h':SE c g f d y o)(M:SE c g f d z i):
  SS c g f d (.Jk y z x) (.Assign [.Subscript o i pos'] e pos):=by
 intro O J s A k Q r S V hp;show wpAny_Assign_Subscript (h O J s A _ _ r S V λZ E l v a I U hv t=>h' Z E l A _ _ U S t λj B G u b N D hu t=>M j B G A _ _ D S t λT W Y iv ia n P R t=>?_) (eZ hc _ _ _);have m:=N.trans U D n;show iC P (hu.mono n.le) R (hv.mono m.le) t λq C w F H t=>hp q C w .next .AZ ((I.trans r U m).trans r P F).w H rfl t
def vj{M:Model}(h:SubscriptOn M A o i Q E s):wpAny M A (getItem o i) Q E s:=h.elim λZ h=>h.elim λZ h=>h.2.2
def qL(h:(match i with| .Slice .. =>false|_=>true)=true)(y D new:Wv):augStore i y D new=(do holding [new,y,D] (setItem y D new);release [new,y,D] [];pure .next):=by
 obtain⟨⟩:=i<;>first|rfl|cases h
def xP(hs:(match i with| .Slice .. =>false|_=>true)=true)(hi:MH c d f.L op q)(h:SE c g f d x e)(h':SE c g f d y o)(h'':SE c g f d z i):
  SS c g f d (.Kk y z q x) (.AugAssign (.Subscript o i pos') op e pos):=by
 intro O J s A k Q r rm hev hp;show wpAny_AugAssign_SubscriptAny (h' O J s A _ _ r rm hev λZ I Y ov oa W t ho n=>h'' Z I Y A _ _ t rm n λj H s₂ iv ia N D R n=>?_) (qL hs);show vj (sh D (ho.mono N.le) R n λw z tk ht hw n=>h j H _ A _ _ (D.toks ht) rm n λE l F v a U P hv n=>hi E l F A _ _ w v z a P rm (hw.mono U.le) hv n λgh₄ J₄ s₄ u b S B hu n=>?_)
 ·have m:=(Ext.trans' (D.toks ht) (Ext.toks false tk) U).trans D P S;show iC B ((ho.mono N.le).mono m.le) (R.mono m.le) hu n λC V G M T n=>hp C V G .next .AZ (((W.trans r t N).trans r D m).trans r B M).w T rfl n
def Rel.more(r:Rel c O L J s){l:WH}{a:Nat}(i:0<a)(D:∀x o,s.heap.get? x=some o->l.get? x=some o):Rel c O L J {s with heap:=l,toks:=a}/\Ext false L O s O {s with heap:=l,toks:=a}:=by
 show⟨⟨λx N e=>D x N (r.Av x N e),λj N Q=>?_,r.sep,λx P=>?_,r.nL,r.loc.step (.refl _ _) λx Z=>av (D x),r.new,r.DY,r.CZ,r.base,r.Lb,i⟩,⟨.refl _ _,λZ Z e Z Z=>D _ _ e,.of λx Z=>D x,λZ h=>.inl h,λZ Z h=>.inl h,GK.refl _,rfl,rfl⟩⟩
 ·show aX (r.obs j N Q) λb k e m=>(aU b k e (m.step (.refl _ _) λx Z o A=>D x o A))
 ·show cV (r.off x P) λu v N w=>⟨u,v,yE N (D x N w)⟩
inductive TS (c:Cx) (g:G) (f:Fm) (d:Nat) (p:CP):List (Option X×Nat)->List WE->Prop
 |nil:TS c g f d p [] []
 |nm {n:Nat} {x:Wu} {pos:Pos} {ts:List (Option X×Nat)} {es:List WE}:Hu f x->p.code x=some n->TS c g f d p ts es->TS c g f d p ((none,n)::ts) (.Name x pos::es)
 |Bb {n:Nat} {x:X} {o:WE} {nm:Wu} {pos:Pos} {ts:List (Option X×Nat)} {es:List WE}:c.nm n=nm->SE c g f d x o->TS c g f d p ts es->TS c g f d p ((some x,n)::ts) (.Attribute o nm pos::es)
def TS.each(h:TS c g f d p v y)(env:Env):(assignEach y env).length=y.length/\(assignEach y env).findIdx? (·.1)=none/\v.length=y.length:=by
 induction h with
 |nil=>show⟨rfl,rfl,rfl⟩
 |nm _ _ _ Q=>
  show cu Q λa b d=>⟨T3 (· +1) a,?_,T3 (· +1) d⟩
  rw[List.findIdx?_cons,b];rfl
 |Bb _ _ _ Q=>
  show cu Q λa b d=>⟨T3 (· +1) a,?_,T3 (· +1) d⟩
  rw[List.findIdx?_cons,b];rfl
def aac(Y:Ctx c K p Sy mg mb)(YG:FX c K g)(u:∀n,g.canon n<64)(rm:Ay f.L d A)(h:TS c g f d p ts y):
  ∀ {O:Gh} {J:St} {s:Ww} {Z:TN} {l:Tz} {k:TF} {Q:Unit->Ww->Prop},Rel c O f.L J s->Ba c.Aa c.w O.F Z l->Ms g ts l J k->
   (∀e m j,Ext false f.L O s e j->Rel c e f.L m j->k m->Q () j)->wpAny (model c.Aa c.w) A (assignInOrder ((assignEach y f.env).map (·.2)) Z) Q Bl s:=by
 induction h with
 |nil=>
  intro O J s Z l k Q r q a t;induction l using Re with
  |nil=>obtain rfl:=q.inv;show ZE (t O J s (.refl _ _ _ _) r a)
  |cons _ _=>show False.elim a
 | @nm n x pos ts y hl hc _ F=>
  intro O J s Z l k Q r q a t;induction l using Re with
  |nil=>show False.elim a
  |cons W l=>
   obtain⟨v,Z,rfl,w,E⟩:=q.inv;show Zn (ZY (PyProof.Rows.assign_Name (cN Y hl hc r (dq w) λs1 x1 R=>F R E a λe m j G H i=>t e m j (x1.trans r R G) H i)))
 | @Bb n x o nm pos ts y T V _ F=>
  intro O J s Z l k Q r q a t;induction l using Re with
  |nil=>show False.elim a
  |cons W l=>
   obtain⟨v,Z,rfl,w,E⟩:=q.inv;show Zn (ZY ?_);show Zn (ZY (V O J s A _ _ r rm a λC M S ov oa z U ho i=>Zn (Yz (Zn (ZY (T▸(eH Y.X YG u U ho (dq (RF.mono z.le.F w)) i λB I P N D i=>?_)))))));have b:=z.trans r U N;show wpAny_release (F D (Ba.mono b.le.F E) i λe m j G H i=>t e m j (b.trans r D G) H i)
def iY(h:I4 z=false)(env:Env):swappedStores [.Tuple y j Q] z env=pure none:=by
 obtain⟨⟩:=z<;>first|rfl|cases h
def xU(Y:Ctx c K p Sy mg mb)(W:FX c K g)(u:∀n,g.canon n<64)(hc:Ci e=false)(ht:I4 e=false)(P:TS c g f d p ts y)(h:SE c g f d x e):
  SS c g f d (.GC ts x) (.Assign [.Tuple y j tpos] e pos):=by
 intro O J s A k Q r i N T;show PyProof.Rows.Assign_Tuple (h O J s A _ _ r i N λZ B F v a z U S D=>?_) (eZ hc (.Tuple y j tpos) pos.line f.env) (iY ht _);obtain⟨q,t,w⟩:=ak D;clear D;obtain rfl:=f7 t;obtain⟨l,t,E⟩:=ak w;clear w;obtain rfl:=xI t;show zA (qJ E) λb D=>?_;clear E;obtain⟨a,vs,o,rfl,he,⟨n,rfl⟩,C,hb⟩:=RF.x S;show cu (P.each f.env) λe1 R M=>assign_Tuple_tuple i.hd (gF _ (U.Av _ _ he) rfl n rfl) ?_ R λh' H=>?_
 ·rw[e1,ZP,C.len, ←(ZC b),M]
 ·show zA (U.more U.tk λx o e=>H x o (Z3 (Yk e)) e) λr2 G=>aac Y W u i P r2 C D λm I s' V r' D=>T m I s' .next .AZ ((z.trans r U G).trans r r2 V).w r' rfl D
def Rel.vZ(r:Rel c O L J s){a:Nat}(k:0<a)(D:∀x o,x≠L.ns->s.heap.get? x=some o->l.get? x=some o)(B:l.Ns L.ns m)(t:∀n v,Sx n J.L=some v->∃w,L.Sh s.heap m (c.nm n) w/\RV c.Aa c.w O w v):
  Rel c O L J {s with heap:=l,toks:=a}/\Ext false L O s O {s with heap:=l,toks:=a}:=by
 have U:∀ {x},¬L.CN x->x≠L.ns:=λh q=>h (q▸Loc.cx);show⟨⟨λx N e=>D x N (λq=>by replace e:=q▸e;replace e:=(r.nL _ Loc.cx)▸e;show aw e) (r.Av x N e),λj N Q=>?_,r.sep,λx P=>?_,r.nL,r.loc.via B t λy Z q o e=>D y o q e,r.new,r.DY,r.CZ,r.base,r.Lb,k⟩,
  ⟨.refl _ _,λZ Z e q Z=>D _ _ (λz=>q (.inl (z▸ .head _))) e,.of λx P o e=>D x o (λq=>r.loc.nu (q▸P)) e,λZ h=>.inl h,λZ Z h=>.inl h,GK.refl _,rfl,rfl⟩⟩
 ·show aX (r.obs j N Q) λb i e C=>(aU b i e (C.step (.refl _ _) λx P o A=>D x o (U (r.off x (ay j b i e P)).2.1) A))
 ·show cV (r.off x P) λu v N w=>⟨u,v,yE N (D x N (U v) w)⟩
def Ba.rep{N:WA}(h:Ba N w F Z l):∀n,Ba N w F (List.replicate n Z).flatten (List.replicate n l).flatten:=by
 intro n;induction n with
 |zero=>
  show .nil
 |succ n Q=>
  (((show List.replicate_succ▸ ?_;show List.replicate_succ▸ ?_);show XG▸ ?_);show XG▸ ?_)
  show Ba.append Q h
def tU(Z:TN):∀(n:Nat) (a:Array Wv),List.foldl (λP z=>P++z) a (List.replicate n Z.toArray)=a++(List.replicate n Z).flatten.toArray:=by
 intro n;induction n with
 |zero=>
  intro a;simp
 |succ n Q=>
  intro a;rw[Q,XG];simp
def OD(c:Cx)(d:Nat)(L:Loc)(D:Operator)(o:Nat):Prop:=
 ∀O J s A k Q v u a b,Rel c O L J s->Ay L d A->RV c.Aa c.w O v a->RV c.Aa c.w O u b->Fv o a b J k->B2 c L O s k Q->wpAny (model c.Aa c.w) A (binaryOp D v u) Q Bl s
def qV(z:Holds F s.heap)(h:RF c.Aa c.w F v (.tup l)):∃a Z n,v=.ref a/\s.heap.get? a=some {cls:=.type "tuple",data:=.seq Z n}/\Ba c.Aa c.w F Z.toList l:=by
 obtain⟨a,Z,o,rfl,e,⟨n,rfl⟩,r,b⟩:=h.x;show(b4 a Z.toArray n rfl (z _ _ e) (by simpa using r))
def o8(r:Rel c O L J s)(N:RV c.Aa c.w O v x)(h:CE J.H x=some (.tup q)):RF c.Aa c.w O.F v (.tup q):=by
 induction x using V.casesOn with
 |c f=>obtain rfl:=Zf h;show N
 |st _=>show aw h
 |E9 _ _=>show aw h
 |ob i=>
  show aX N λa ft e z=>?_;clear N;subst z;show aA (ax h) λo A h=>?_;induction o using AO.casesOn with
  |Av j=>obtain rfl:=Zf h;show(r.ob e A).2
  |lst l=>show aw (T3 (λo=>Af o S8) h)
  |_=>show aw h
def dU(t:Mb D=some o)(r:Rel c O L J s)(N:RV c.Aa c.w O v a)(Z:RV c.Aa c.w O u b)(e:CE J.H a=some l)(P:CE J.H b=some U)
  (h:Og o l U λr=>k (.c r) J) (j:B2 c L O s k Q):wpAny (model c.Aa c.w) A (binaryOp D v u) Q Bl s:=by
 show bM (eM r N Z e P) λF C n m=>aN r.tk (aak (O:=O) (L:=L) (J:=J) t n m h λw z B i q x=>j O J _ w (.c z) (.toks _ _) (r.toks x) (i _) q)
def e8(N:0<Z)(r:Rel c O L J s)(a:Ba c.Aa c.w O.F v l)(D:l.length<=16777216)(h:Ce (.lst l) J k)(j:B2 c L O s k Q):
  Q (.ref s.heap.objs.size) {s with heap:=s.heap.push {cls:=.type "list",data:=.seq v.toArray},toks:=Z}:=by
 show zA ((r.toks N).alloc (o':=.lst l) rfl
  ⟨rfl,bG _ v (ZL _ rfl) (yE 0 rfl) (Ba.mono (λb b e=>e) a) D⟩) λU P=>?_
 show j _ _ _ _ (.ob J.m) ((Ext.toks false Z).trans r (r.toks N) P) U (aU s.heap.objs.size [s.heap.objs.size] ?_ rfl) h;change(if J.m=J.m then _ else _)=_;rw[Zk rfl]
def aex(r:Rel c O L J s)(N:RV c.Aa c.w O v a)(Z:RV c.Aa c.w O u b)(h:CE J.H a=some (.lst x))(e:CE J.H b=some (.lst y))
  (l:x.length+y.length<=16777216) (n:Ce (.lst (x++y)) J k) (j:B2 c L O s k Q):wpAny (model c.Aa c.w) A (binaryOp .Add v u) Q Bl s:=by
 show aK (cG r N h) λo Sp w z i U D t=>?_;subst z;obtain⟨n1,rfl⟩:=U;show aK (cG r Z e) λC So q z m U r2 B=>?_;subst z;obtain⟨n2,rfl⟩:=U;show P.add_list i m ?_ (by rw[ZP,ZP,D.len,r2.len,YE];show l);rw[List.append_toArray];show e8 r.tk r (Ba.append r2 D) (by rw[Zg];show l) n j
def aew(r:Rel c O L J s)(N:RV c.Aa c.w O v a)(Z:RV c.Aa c.w O u b)(t:CE J.H a=some (.tup x))(o:CE J.H b=some (.tup y))
  (m:and (BE x) (BE y)=true) (i:x.length+y.length<=16777216) (E:k (.c (.tup (x++y))) J) (C:B2 c L O s k Q):wpAny (model c.Aa c.w) A (binaryOp .Add v u) Q Bl s:=by
 have m:=(Zp _ _).mp m;show cH (qV r.holds (o8 r N t)) λG M n1 z F D=>?_;clear N;subst z;show cH (qV r.holds (o8 r Z o)) λH I n2 z B r2=>?_;clear Z;subst z;have l1:=D.len;have l2:=r2.len;rw[Y8]at l1 l2;have j:∀ {l:Tz} {w:Array Wv},BE l=true->w.size=l.length->¬w.isEmpty=true:=λ{l w} h e q=>by
  induction l using Re with
  |nil=>show a7 h
  |cons _ _=>replace e:=(Array.isEmpty_iff_size_eq_zero.mp q)▸e;cases e
 show P.add_tuple F B (j m.1 l1) (j m.2 l2) ?_ (by((show l1▸ ?_;show l2▸ ?_);show YE▸ ?_);show i);show zA (r.mZ rfl) λU n=>C _ _ _ _ (.c (.tup (x++y))) n U (dq (.tup (Zk rfl) ⟨0,by simp⟩ (Ba.mono n.le.F (Ba.append r2 D)) (by show Zg▸ ?_;show i))) E
def acT{k:TC}{Q:Wv->Ww->Prop}(r:Rel c O L J s)(S:RV c.Aa c.w O v a)(hx:CE J.H a=some (.lst x))
  (M: -(2 ^ 63:Int)<=n) (B:n<2 ^ 63) (l:x.length*n.toNat<=16777216) (hk:Ce (.lst (List.replicate n.toNat x).flatten) J k) (hp:B2 c L O s k Q):wpAny (model c.Aa c.w) A (binaryOp .Mult v (.int n t)) Q Bl s:=by
 show aK (cG r S hx) λa1 Sp Z F W U D b1=>?_;clear S;subst F;obtain⟨n1,rfl⟩:=U;show aA r.loc.nm λm N hm=>mul_list (fr0 N) (yx (bad:=[L.ns]) (.head _)) W M B (by rw[ZP,D.len];show l) λh' F' C=>?_;have w:=(C _ (.head _)).1;show zA (r.vZ r.tk (λy o P ho=>(C (y,o) (.tail _ (dK.mpr ⟨by show notIn_one P,ho⟩))).1) F'.ns hm) λr2 i=>?_;have u:s.heap.get? s.heap.objs.size=none:=aF (Zq _);show cu (r.free u) λH I G=>?_;have h:(List.foldl (λx1 i=>x1++i) #[] (List.replicate (if Z.toArray.isEmpty=true then 0 else n.toNat) Z.toArray))=(List.replicate n.toNat Z).flatten.toArray:=by
  rw[tU];split
  ·rename_i T;have:Z=[]:=by simpa using T
   clear D W C w T;subst this;simp
  ·simp
 have R:Le false O (O.at J.m (s.heap.objs.size,[s.heap.objs.size])):=⟨λX X e=>e,λj b E e X=>(yE E (by
  have:j≠J.m:=λq=>by rw[q,r.new J.m (Zq _)]at e;show aw e
  show(Gh.bc (this)).trans e))⟩
 show cu (r2.adopt (o':=.lst (List.replicate n.toNat x).flatten) (tk:=s.toks) r.tk (yE _ w) H I G (Heap.SameBut.refl _ _) (yE _ w)
  ⟨rfl,bG _ (List.replicate n.toNat Z).flatten w (yE 0 (by rw[h])) (Ba.mono R.F (Ba.rep D _)) (by rw[show((List.replicate n.toNat x).flatten).length=n.toNat*x.length from lm_len_rep_flat x n.toNat,Nat.mul_comm];show l)⟩) λr3 l3 k3=>?_
 show hp _ _ _ _ (.ob J.m) ⟨l3,λy o e hl Y=>i.keep y o e hl Y,i.EN,λy P=>?_,λy o e=>.inl e,GK.refl _,rfl,rfl⟩ r3 (aU s.heap.objs.size [s.heap.objs.size] ?_ rfl) hk
 ·rcases P.at_ with z|⟨j,b,E,_,e,z⟩
  ·rw[Za z];show .inr u
  ·show .inl (ay j b E e z)
 ·change(if J.m=J.m then _ else _)=_;rw[Zk rfl]
def ab0(m:Mb op=some o):OD c d L op o:=by
 intro O J s A k Q v u a b r I N Z h j;obtain⟨H,i,U⟩:=ak h;obtain⟨M,P,U⟩:=ak U;clear h;cases op with
 |Add=>
  cases m;induction H using FV.casesOn with
  |lst x=>
   obtain⟨y,e,l,D⟩:=ak U;clear U;obtain rfl:=m7 e;show aex r N Z i P l D j
  |tup x=>
   obtain⟨y,e,⟨G,l⟩,D⟩:=ak U;clear U;obtain rfl:=xI e;show aew r N Z i P G l D j
  |_=>show dU rfl r N Z i P U j
 |Mult=>
  obtain rfl:=Zf m;obtain⟨x,e,U⟩:=ak U;obtain⟨n,E,⟨⟨B,q⟩,l⟩,D⟩:=ak U;obtain rfl:=m7 e;show bM (cq r Z P) λF z R C=>?_;show zE (C.aI E) λt w=>?_;clear Z C;subst w;show acT r N i B q l D j
 |Sub=>obtain rfl:=Zf m;show dU rfl r N Z i P U j
 |Mod=>obtain rfl:=Zf m;show dU rfl r N Z i P U j
 |FloorDiv=>obtain rfl:=Zf m;show dU rfl r N Z i P U j
 |_=>cases m
end
set_option backward.match.sparseCases false
section
open Builtin.Str
def abl(n:Nat)(i:Int):DL n i<=n:=by
 unfold DL;by_cases h:0<=i
 ·rw[Zr h];show Yt _ _
 ·rw[Zs h];lia
def o9(n:Nat)(i:Int):max 0 (min (if i<0 then i+n else i) (n:Int))=(DL n i:Int):=by
 unfold DL;by_cases h:0<=i
 ·rw[Zi (Int.not_lt_of_ge h)];show zE (Int.eq_ofNat_of_zero_le h) λk Q=>?_;subst Q;rw[Yv];rcases Nat.le_total k n with q|q
  ·rw[ZO q,Int.min_eq_left (Int.ofNat_le.mpr q)];show Int.max_eq_right (Yx k)
  ·rw[Nat.min_eq_right q,Int.min_eq_right (Int.ofNat_le.mpr q)];show Int.max_eq_right (Yx n)
 ·rw[Zs h,Zk (Int.lt_of_not_ge h)];rw[Int.min_eq_left (by lia),Int.ofNat_toNat,Int.max_comm]
def Il(n:Nat)(a:TZ):Nat:=Option.rec 0 (λi=>DL n i) a
def Jz(n:Nat)(b:TZ):Nat:=Option.rec n (λj=>DL n j) b
def cM{y:Type}(l:List y)(a b:TZ):slice l a b=(l.take (Jz l.length b)).drop (Il l.length a):=rfl
def mD(n:Nat)(b:TZ):Jz n b<=n:=by
 induction b using Option.casesOn with
 |none=>show Zq _
 |some j=>show abl n j
def kn(lo hi:Nat):sliceRange (lo:Int) (hi:Int) 1=(List.range (hi-lo)).map (λk=>lo+k):=by
 simp only[sliceRange,(by show eq_true_of_decide rfl:((1:Int)>0)=True),if_true];by_cases N:(lo:Int)<hi
 ·have D:(((hi:Int)-lo+1-1) / 1).toNat=hi-lo:=by rw[Int.add_sub_cancel,Int.ediv_one];show Int.toNat_sub hi lo
  simp only[N,if_true,D];show List.map_congr_left λk Z=>?_;show T3 (λz=>Int.toNat ((_:Nat)+z)) (Int.one_mul _)
 ·have:hi-lo=0:=Nat.sub_eq_zero_of_le (Int.ofNat_le.mp (Int.not_lt.mp N));simp[N,this]
def nV{y:Type}(l:List y)(a b:TZ):((List.range (Jz l.length b-Il l.length a)).map λk=>Il l.length a+k).filterMap (l[·]?)=slice l a b:=by
 rw[cM];have h:=mD l.length b;by_cases k:Il l.length a<=Jz l.length b
 ·rw[StrLaws.picks l _ _ (Zh (Zz (YV k)) h),Wf]
 ·rw[show Jz l.length b-Il l.length a=0 from Nat.sub_eq_zero_of_le (Nat.le_of_not_le k),YD (by rw[ZG];show Zh (X5 _ _) (Nat.le_of_not_le k))];rfl
def nG(l:WJ)(a b:TZ):strSliceIndices a b 1 (⟨l.toArray⟩:Wu).length=(List.range (Jz l.length b-Il l.length a)).map (λk=>Il l.length a+k):=by
 rw[←kn];have D:(⟨l.toArray⟩:Wu).length=l.length:=by change l.toArray.size=_;simp
 rw[D];unfold strSliceIndices Il Jz;induction a<;>induction b<;>simp only[o9]<;>rfl
def rl(l:WJ)(a b:TZ):((strSliceIndices a b 1 (⟨l.toArray⟩:Wu).length).filterMap ((⟨l.toArray⟩:Wu).cps[·]?)).toArray=(slice l a b).toArray:=by
 rw[nG];show(nV l a b)▸ ?_;rw[show((⟨l.toArray⟩:Wu).cps[·]?)=λx:Nat=>l[x]? from funext λx=>by simp]
def qd(Z:TN)(a b:TZ):slicePick Z.toArray a b none=(slice Z a b).toArray:=by
 unfold slicePick;have e:sliceRange (sliceBounds a b none Z.toArray.size).1 (sliceBounds a b none Z.toArray.size).2.1 (sliceBounds a b none Z.toArray.size).2.2=(List.range (Jz Z.length b-Il Z.length a)).map (λk=>Il Z.length a+k):=by
  rw[←kn,ZP];unfold sliceBounds Il Jz;induction a<;>induction b<;>simp only[o9]<;>rfl
 rw[e, ←nV Z a b];rw[show(Z.toArray[·]?)=λx:Nat=>Z[x]? from funext λx=>by simp]
def kf{y:Type}{l:List y}(h:(slice l a b).length=l.length):slice l a b=l:=by
 rw[cM]at h⊢;have u:=mD l.length b;rw[ZM,ZG]at h;induction l using Re with
 |nil=>simp
 |cons x r=>
  have U:Il (x::r).length a=0:=by simp only[Zj]at h⊢;show Nat.eq_zero_of_not_pos λq=>Nat.not_le_of_gt (Nat.sub_lt (YB _) q) (Zh (Zz h.symm) (Ws (Yt _ _) _))
  have N:Jz (x::r).length b=(x::r).length:=by simp only[Zj]at h u⊢;show YK u (Zh (Zz h.symm) (Zh (Wl _ _) (X5 _ _)))
  rw[U,N,Yp,YC]
def pW:(strSliceIndices a b 1 (⟨l.toArray⟩:Wu).length).length=(slice l a b).length:=by
 rw[nG,ZD,List.length_range,cM,ZM,ZG];rw[ZO (mD l.length b)]
def iy{y:Type}(l:List y)(a b:TZ):(slice l a b).length<=l.length:=by
 rw[cM,ZM,ZG];show Zh (Wl _ _) (Yt _ _)
def Ba.take{N:WA}:∀ {Z:TN} (n:Nat),Ba N w F Z l->Ba N w F (Z.take n) (l.take n):=by
 induction l with
 |nil=>intro Z n h;obtain rfl:=h.inv;rw[Wn,Wn];show .nil
 |cons f l Q=>
  intro Z n h;obtain⟨v,r,rfl,a,D⟩:=h.inv;induction n using Nat.casesOn with
  |zero=>show .nil
  |succ n=>show .cons a (Q n D)
def Ba.drop{N:WA}:∀ {Z:TN} (n:Nat),Ba N w F Z l->Ba N w F (Z.drop n) (l.drop n):=by
 induction l with
 |nil=>intro Z n h;obtain rfl:=h.inv;rw[List.drop_nil,List.drop_nil];show .nil
 |cons f l Q=>
  intro Z n h;obtain⟨v,r,rfl,a,D⟩:=h.inv;induction n using Nat.casesOn with
  |zero=>show .cons a D
  |succ n=>show Q n D
def Ba.slice{N:WA}(a b:TZ)(h:Ba N w F Z l):Ba N w F (slice Z a b) (slice l a b):=by
 (rw[cM];show h.len▸ ?_)
 show Ba.drop _ (Ba.take _ h)
def nX{N:WA}(h:RF N w F v p)(e:Ly p=some i):IsPart v i/\∃q:Option (Int×Tok),v=partValue q/\q.map (·.1)=i:=by
 induction p using FV.casesOn with
 |Ak=>obtain rfl:=h.x;obtain rfl:=Zf e;show⟨.none,aO none rfl rfl⟩
 |int j=>show zE h.x λt Q=>?_;subst Q;obtain rfl:=Zf e;show⟨.int j t,aO (some (j,t)) rfl rfl⟩
 |_=>show aw e
section
variable {c:Cx}{g:G}{K:Frag}{p:CP}{Sy:TP}{mg mb:Wu->TM}{f:Fm}{d:Nat}{O:Gh}{L:Loc}{J:St}{s:Ww}
def SO(c:Cx)(g:G)(f:Fm)(d:Nat)(x:X)(e:Option WE):Prop:=
 ∀O J s A k Q,Rel c O f.L J s->Ay f.L d A->BI g x J k->B2 c f.L O s k Q->wpAny (model c.Aa c.w) A (evalPart e f.env) Q Bl s
def x9:SO c g f d (.k .Ak) none:=by
 intro O J s A k Q r l N j;show ZE (j O J s _ (.c .Ak) (.refl _ _ _ _) r (dq .Ak) N)
def x8(h:SE c g f d x e):SO c g f d x (some e):=h
def C6(l u:Wv):Obj:= {cls:=.type "slice",data:=.fields #[l,u,.none]}
def aad{o a b:V}(r:Rel c O L J s)(N:RV c.Aa c.w O v o)(D:RV c.Aa c.w O l a)(I:RV c.Aa c.w O u b)(h:Gn o a b J k)
  (M:B2 c L O s k Q):∃T id,typeLookup (.type T) "__getitem__"=pure (some (.builtin id))/\({s with heap:=s.heap.push (C6 l u)}:Ww).TypeIs v T/\
   wpAny (model c.Aa c.w) A (PySem.getItem v (.ref s.heap.objs.size)) Q Bl {s with heap:=s.heap.push (C6 l u)}:=by
 obtain⟨fo,C,h⟩:=ak h;obtain⟨fa,h2,h⟩:=ak h;obtain⟨fb,h3,h⟩:=ak h;obtain⟨i,h4,h⟩:=ak h;obtain⟨j,h5,h⟩:=ak h;show bM (cq r D h2) λZ Z Z E=>bM (cq r I h3) λZ Z Z W=>?_;show eX (nX E h4) λp1 q1 P m1=>?_;clear D E;subst P;show eX (nX W h5) λp2 q2 P m2=>?_;clear I W;subst P;have q:=r.push (C6 (partValue q1) (partValue q2));have H:Ext false L O s O {s with heap:=s.heap.push (C6 (partValue q1) (partValue q2))}:=.push _;induction fo using FV.casesOn with
 |str x=>
  show bM (cq r N C) λF hF Z rf=>?_;obtain⟨t,rfl,bb⟩:=rf.x
  ·show(a8 "str" _ PySem.F.slot_str_getitem.lookup rfl (wpAny_getItem_str_slice (st:=none) (ck _ (ZL _ rfl) rfl rfl) rfl ?_));have m:=Zh (iy x i j) bb;have key:=λt' tk ht=>
    M O J _ _ (.c (.str (slice x i j))) (H.trans r q (.toks false tk)) (q.toks ht) (dq (.str _ t' m)) h
   have n:((slicePicked ⟨x.toArray⟩ q1 q2 none).filterMap ((⟨x.toArray⟩:Wu).cps[·]?)).toArray=(slice x i j).toArray:=by
    unfold slicePicked
    (show m1.symm▸ ?_;show m2.symm▸ ?_)
    show rl x i j
   unfold sliceMade;split
   ·rename_i Y;rw[Zp]at Y;have hw:(slice x i j)=x:=by
     have B:=beq_iff_eq.mp Y.2;unfold slicePicked at B;rw[m1,m2]at B;show kf ((pW (l:=x) (a:=i) (b:=j)).symm.trans (B.trans ?_));change x.toArray.size=_;simp
    have:=key t s.toks r.tk;replace this:=hw▸this;show this
   ·show n▸⟨by change(slice x i j).toArray.size<=_;rw[YE];show m,key _ _ (YB _)⟩
 |lst G=>
  show aK (cG r N C) λa1 Sp w z X U R S=>?_;subst z;obtain⟨n1,rfl⟩:=U;have y:s.heap.IsList a1 w.toArray:=(gF _ X rfl n1 rfl)
  show(a8 "list" _ list_getitem_lookup (aO _ (Zw _ X) rfl) (wpAny_getItem_list_slice (y.push _) (Heap.IsSliceOf.new ..) p1 p2 .none (by show Ne.symm (Option.some_ne_none 0)) ?_ (by rw[ZP,R.len,YE];show S)));rw[qd];show zA (q.alloc (o:=({cls:=.type "list",data:=.seq (slice w i j).toArray}:Obj)) (o':=.lst (slice G i j)) rfl
   ⟨rfl,bG _ (slice w i j) (ZL _ rfl) (yE 0 rfl) (Ba.mono (λZ Z e=>e) (Ba.slice i j R)) (Zh (iy G i j) S)⟩) λr3 x3=>?_
  show M _ _ _ _ (.ob J.m) (H.trans r q x3) r3 (aU _ [(s.heap.push (C6 (partValue q1) (partValue q2))).objs.size] ?_ rfl) h;change(if J.m=J.m then _ else _)=_;rw[Zk rfl]
 |_=>show h.elim
def abJ{lo hi:Option WE}(h:SE c g f d x e)(h':SO c g f d y lo)(S:SO c g f d z hi):SE c g f d (.Cj x y z) (.Subscript e (.Slice lo hi none pos') pos):=by
 intro O J s A k Q r W hev hp;rw[arm_eval_Subscript];show Zn (h O J s A _ _ r W hev λZ E R v a M U hv o=>Zn (ZY (wpAny_Slice (h' Z E R A _ _ U W o λj B G l b N D hl o=>S j B G A _ _ D W o λY J₃ q u b' m P hu o=>ZE ?_))));have i:=N.trans U D m;show bA (aad (A:=A) P (hv.mono i.le) (hl.mono m.le) hu o λn C t w b F I hw o=>hp n C t w b ((M.trans r U i).trans r P F) I hw o) λT id V hT hg=>Zn (Yz (Zn ((getitemInPython_of_ne hT.not_modules)▸(Zn (wpAny_specialOf hT V (ZE (Zn ?_)))))));show wpAny_operating (ZT hg (λr q H=>Zn (wpAny_letTemporaryGo (ZE H))) λuu uu x=>x)
end
end
section
open Builtin
def qe:typeLookup (.type "list") (Str.ofString "keys")=pure none:=by rw[typeLookup_type,builtinLookup_eq_fast];kernel_rfl
def kF{N:WA}
  (P:s.heap.get? a=some {cls:=.type "list",data:=.seq u k}) (U:A.handled=none)
  (h:∀c Z,(∀b o,s.heap.get? b=some o->c.get? b=some o)->Q none {s with heap:=c,toks:=Z}):wpAny (model N w) A (getAttr? (.ref a) "keys") Q E s:=by
 obtain⟨f,g,d,Z,i⟩:=s;have j:∀y,(⟨f,g,d,y,i⟩:Ww).TypeIs (.ref a) "list":=λq=>(aO _ P rfl)
 have n:=sub_AttributeError;have m:=F.slot_list_getattribute.lookup;have O:=F.slot_list_getattribute.bind (.ref a);have D:=am_list_getattr_none
 repeat (any_goals (first|assumption|show j _|((with_reducible change wpAny _ _ (call (Value.builtin "list.__getattribute__") _ _) _ _ _);show call_meets F.slot_list_getattribute (j _) am_entry_list_getattribute (F.args_list_getattribute_2 _ _) (meets_getattribute_miss_list a u k #[] (Str.ofString "keys") _ qe (by decide+kernel) (by size_fits)) ⟨P,U,λc y e l=>?_⟩)|wp_step))
 show ip l.there λz v p=>?_;change wpAny _ _ (getattributeRaised _ _ _ _ _ _ _) _ _ _
 repeat (any_goals (first|assumption|wp_step))
 show h _ _ l.of.keeps
def fJ:entryFor table "dict.update.loop"=some Builtin.«dict.update.loop»:=entryFor_of_tree (by kernel_rfl)
def c7:plainId "dict.update.loop"=true:=by decide+kernel
def lj{t:WA}
  (P:s.heap.get? a=some {cls:=.type "list",data:=.seq #[] k}) (f:A.handled=none)
  (h:∀c r,c.get? s.heap.objs.size=some {cls:=.type "dict",data:=.dict #[]}->(∀b o,s.heap.get? b=some o->c.get? b=some o)->Q (.ref s.heap.objs.size) {s with heap:=c,toks:=r}):
  wpAny (model t w) A (call (.type "dict") [.ref a]) Q E s:=by
 show callType_codes (Q₁:=λd l=>d=.ref s.heap.objs.size/\l= {s with heap:=s.heap.push {cls:=.type "dict",data:=.dict #[]}}) F.kt_called_dict (F.kt_typeCall_dict_1 _) F.entry_dict_init (kt_code_dict_new _ ⟨rfl,rfl⟩) ?_;rintro d l ⟨rfl,rfl⟩;have i:(s.heap.push {cls:=.type "dict",data:=.dict #[]}).get? s.heap.objs.size=some {cls:=.type "dict",data:=.dict #[]}:=ZL _ rfl;have g:({s with heap:=s.heap.push {cls:=.type "dict",data:=.dict #[]}}:Ww).TypeIs (.ref s.heap.objs.size) "dict":=(aO _ i rfl)
 have O:(s.heap.push {cls:=.type "dict",data:=.dict #[]}).get? a=some {cls:=.type "list",data:=.seq #[] k}:=Zw _ P;show⟨g,F.args_dict_init_2 _ _,?_⟩;show Zn (Zn (wpAny_notOrdered_dict g ?_));show ZE ?_;change wpAny _ _ (Builtin.Dict.updateFrom "dict.__init__" s.heap.objs.size (.ref a) [] .none) _ _ _;show Zn (wpAny_typeOf (T:="list") (aO _ O rfl) ?_);rw[Zk (by ext)];show Zn (kF O f λU j m=>?_);rw[Zk (by ext)];show Zn (wpAny_rule ?_);have N:=m _ _ O;have u:U.IsList a #[]:=(gF _ N rfl k rfl)
 show Zn (wpAny_pyIter_list u ?_);have q:(U.push {cls:=.type "list_iterator",data:=.fields #[.ref a,.int 0 0]}).IsListIter U.objs.size a 0:=(ck _ (ZL _ rfl) rfl rfl)
 show ZE ⟨plainId_quiet c7 _,codeAny_builtin fJ ?_⟩;rw[Around.under_plainId c7];show Zn (wpAny_pyNext_list_end f q (u.push _) rfl λp Z=>?_);have keep:∀b o,(s.heap.push {cls:=.type "dict",data:=.dict #[]}).get? b=some o->p.get? b=some o:=λb o e=>by
  have n:=m b o e;show Z b o (Z3 (Yk n)) (Zw _ n)
 change wpAny _ _ (Builtin.Dict.addKeywords s.heap.objs.size []>>=_) _ _ _;show Zn (ZE (ZE ⟨rfl,h p _ (keep _ _ i) λb o e=>keep b o (Zw _ e)⟩))
end
section
variable {c:Cx}{g:G}{K:Frag}{p:CP}{Sy:TP}{mg mb:Wu->TM}{f:Fm}{d:Nat}{O:Gh}{L:Loc}{J:St}{s:Ww}
def aai(z:Holds F s.heap)(N:RF c.Aa c.w F v x)
  (j:LQ x=some n) (h:∀t Z,Q (.int n t) {s with toks:=Z}):wpAny (model c.Aa c.w) A (PySem.call (.builtin "len") [v]) Q Bl s:=by
 induction x using FV.casesOn with
 |str l=>
  obtain⟨t,rfl,b⟩:=N.x;obtain rfl:=Zf j;have e:(⟨l.toArray⟩:Wu).length=l.length:=by change l.toArray.size=_;simp
  show P.len_str (by rw[e];lia) ?_;show e▸(h _ _)
 |tup l=>
  obtain⟨a,i,o,rfl,e,⟨m,rfl⟩,r,b⟩:=N.x;obtain rfl:=Zf j;show P.len_tuple (z _ _ e) (by rw[ZP,r.len];lia) ?_;rw[ZP,r.len];show h _ _
 |lst l=>
  obtain⟨a,i,o,rfl,e,q,r,b⟩:=N.x;obtain rfl:=Zf j;show PyProof.Rows.len_list (q.list (z _ _ e)) (by rw[ZP,r.len];lia) ?_;rw[ZP,r.len];show h _ _
 |An l=>
  obtain⟨a,o,U,rfl,e,k,q,r,b⟩:=N.x;obtain rfl:=Zf j;show call_len_dict (pI k) (q.at (z _ _ e)) (by rw[r.len];lia) ?_;show r.len▸(h _ _)
 |_=>cases j
def rQ{O:Gh}(h:Cw c.Aa c.w O Z j)(D:Pr j A k2):(∃a t,Z=[.int a t]/\A a)\/∃a t b u,Z=[.int a t,.int b u]/\k2 a b:=by
 have Sh:∀ {v:Wv} {x:V} {i:Int},RV c.Aa c.w O v x->Qr x=some i->∃t,v=.int i t:=λN e=>by
  show aA (ax e) λf U o=>?_;obtain rfl:=f7 U;show RF.aI N o
 induction j using Re with
 |nil=>show D.elim
 |cons x j=>
  obtain⟨v,r,rfl,k,m⟩:=h.inv;obtain⟨a,e,D⟩:=ak D;show zE (Sh k e) λt Q=>?_;clear k h;subst Q;induction j using Re with
  |nil=>obtain rfl:=m.inv;show .inl (aU a t rfl D)
  |cons y P=>
   obtain⟨u,q,rfl,n,l⟩:=m.inv;obtain⟨b,e,D⟩:=ak D;show zE (Sh n e) λz Q=>?_;subst Q;induction P using Re with
   |nil=>obtain rfl:=l.inv;show .inr ⟨a,t,b,z,rfl,D⟩
   |cons _ _=>show D.elim
def tV{id:Nat}(h:FR id=some u):(id=0/\u=.builtin "len")\/(id=1/\u=.builtin "ord")\/(id=2/\u=.builtin "chr")\/(id=3)\/(id=4/\u=.type "dict")\/(id=5/\u=.builtin "max")\/(id=6/\u=.builtin "min"):=by
 unfold FR Jb at h;by_cases j:id=0; · subst j;show .inl ⟨rfl,(Zf h).symm⟩
 by_cases q1:id=1; · subst q1;show .inr (.inl ⟨rfl,(Zf h).symm⟩)
 by_cases q2:id=2; · subst q2;show .inr (.inr (.inl ⟨rfl,(Zf h).symm⟩))
 by_cases y:id=3; · show .inr (.inr (.inr (.inl y)))
 by_cases Q:id=4; · subst Q;show .inr (.inr (.inr (.inr (.inl ⟨rfl,(Zf h).symm⟩))))
 by_cases A:id=5; · subst A;show .inr (.inr (.inr (.inr (.inr (.inl ⟨rfl,(Zf h).symm⟩)))))
 by_cases D:id=6; · subst D;show .inr (.inr (.inr (.inr (.inr (.inr ⟨rfl,(Zf h).symm⟩)))))
 rw[aq,Zi j,aq,Zi q1,aq,Zi q2,aq,Zi y,aq,Zi Q,aq,Zi A,aq,Zi D]at h;show aw h
def acN{id:Nat}{u:Wv}{S:TN}(I:A.handled=none)(hu:FR id=some u)(r:Rel c O L J s)(B:Cw c.Aa c.w O S xs)(h:Mx id xs J k)(j:B2 c L O s k Q):
  ((∃n,u=.builtin n)\/∃n,u=.type n)/\wpAny (model c.Aa c.w) A (PySem.call u S) Q Bl s:=by
 have z:∀ {m:Int} {t:Tok} {H:WH} {Z:Nat},(∀b o,s.heap.get? b=some o->H.get? b=some o)->0<Z->k (.c (.int m)) J->Q (.int m t) {s with heap:=H,toks:=Z}:=λ{m t H Z} D N hm=>by
  show zA (r.more N D) λW R=>j O J _ _ (.c (.int m)) R W (dq (.int m t)) hm
 rcases tV hu with ⟨rfl,rfl⟩|⟨rfl,rfl⟩|⟨rfl,rfl⟩|rfl|⟨rfl,rfl⟩|⟨rfl,rfl⟩|⟨rfl,rfl⟩
 ·obtain⟨x,w,h⟩:=ak h;show aA (B.one w) λv e G=>?_;clear B;subst e;obtain⟨y,E,U⟩:=ak h;obtain⟨n,hn,C⟩:=ak U;show bM (cq r G E) λF hF uu rf=>⟨.inl (yE _ rfl),aN r.tk (aai hF rf hn λt Z N=>j O J _ _ (.c (.int _)) (.toks _ _) (r.toks N) (dq (.int _ t)) C)⟩
 ·obtain⟨x,w,h⟩:=ak h;show aA (B.one w) λv e G=>?_;clear B;subst e;obtain⟨y,E,U⟩:=ak h;obtain⟨ch,hc,C⟩:=ak U;clear w h;obtain rfl:=f7 E;show zE (RF.FU G hc) λt e=>?_;subst e;show⟨.inl (yE _ rfl),P.ord_of_char (j O J _ _ (.c (.int ch)) (.toks _ _) r.dX (dq (.int _ _)) C)⟩
 ·obtain⟨x,w,h⟩:=ak h;show aA (B.one w) λv e G=>?_;clear B;subst e;obtain⟨y,E,U⟩:=ak h;obtain⟨i,hi,⟨C,Y⟩,T⟩:=ak U;clear w h;obtain rfl:=f7 E;show zE (RF.aI G hi) λt e=>?_;subst e;show⟨.inl (yE _ rfl),PyProof.Rows.chr_of_range C Y (j O J _ _ (.c (.str [i.toNat])) (.toks _ _) r.dX (dq (.str [i.toNat] _ (by change 1<=_;decide))) T)⟩
 ·obtain⟨x,w,h⟩:=ak h;show h.elim
 ·obtain⟨x,w,h⟩:=ak h;show aA (B.one w) λv e G=>?_;clear B;subst e;obtain⟨y,E,U⟩:=ak h;obtain⟨l,hl,C⟩:=ak U;clear U;obtain rfl:=m7 hl;show aK (cG r G E) λa o S M e1 X e3 uu=>?_;subst M;obtain⟨n,rfl⟩:=X;induction l using Re with
  |cons _ _=>show C.elim
  |nil=>
   obtain rfl:=e3.inv;show⟨.inr (yE _ rfl),aN r.tk (lj e1 I λH Z hD D N=>?_)⟩;show zA (r.aeg N (aF (Zq _)) hD D) λW R=>j _ _ _ _ (.c (.An [])) R W (dq (.An (Zk rfl) (λq=>?_) (bj (#[]) 0 ⟨rfl,rfl,rfl⟩ rfl (λuu he=>by simp at he) .nil List.nodup_nil) .nil (ZF _))) C;show zE r.dT λo hL=>?_;have Y:=Yk hL;have T:=r.Lb;have h5:=c.G4;rw[show sysModules=1 from rfl]at q;show T4 (Zh h5 (Zh T (Yj (Zh Y (Zz q))))) (by ext)
 ·obtain⟨a,t,b,u,rfl,h⟩:=(rQ B h).resolve_left λ⟨_,_,_,h⟩=>h;show⟨.inl (yE _ rfl),aN r.tk (max_two_ints I λH Z D N=>?_)⟩;have h:k (.c (.int (if a<b then b else a))) J:=h;by_cases q:a<b
  ·rw[Zk q]at h⊢;show z D N h
  ·rw[Zi q]at h⊢;show z D N h
 ·obtain⟨a,t,b,u,rfl,h⟩:=(rQ B h).resolve_left λ⟨_,_,_,h⟩=>h;show⟨.inl (yE _ rfl),aN r.tk (min_two_ints I λH Z D N=>?_)⟩;have h:k (.c (.int (if b<a then b else a))) J:=h;by_cases q:b<a
  ·rw[Zk q]at h⊢;show z D N h
  ·rw[Zi q]at h⊢;show z D N h
def aeF(Y:Ctx c K p Sy mg mb){id:Nat}{x:X}(S:B8 f.cs nm=true)(R:p.Gw nm=none)(E:p.blt nm=some id)(z:(id<3||(3<id&&id<7))=true)(h:Row c g f d x U):
  SE c g f d (.fn id x) (.Call (.Name nm P) U [] pos):=by
 intro O J s A k Q r H e V;have M:id<7:=by
  rw[Yq,Yu]at z;lia
 obtain⟨u,q⟩:∃u,FR id=some u:=by
  clear E;show Option.isSome_iff_exists.mp ((show∀i,i<7->(FR i).isSome=true by decide+kernel) id M)
 show cu (Y.blt nm id _ R E q) λhd W C=>?_;have B:Row c g f d x (U++([]:List WI).map (·.value)):=by simpa using h
 show wpAny_Call_Name_kw (XO f.kind (cz S) (Calls.loadGlobal_builtin (by rw[f.glob];show Y.T.g.keeps r.bN) W (by rw[f.blt];show Y.T.b.keeps r.bN) C ?_) hd);have fin:wpAny (model c.Aa c.w) A (evalArgs u true (backTo pos (starEach U f.env)) []) (λa o=>wpAny (model c.Aa c.w) A (PySem.call u ([]++a.pos) a.kw) Q Bl o) Bl s/\((∃n,u=.builtin n)\/∃n,u=.type n):=by
  show⟨bS Y rfl B r H e λw G I vs xs uu N D t F=>?_,?_⟩
  ·rw[aR];show(acN H.hd q D t F λZ l j v y b m T F=>V Z l j v y (N.trans r D b) m T F).2
  ·rcases tV q with ⟨_,h⟩|⟨_,h⟩|⟨_,h⟩|h|⟨_,h⟩|⟨_,h⟩|⟨_,h⟩<;>first|show .inl ⟨_,h⟩|show .inr ⟨_,h⟩|(clear E z e M;subst h;cases q;show .inr ⟨_,rfl⟩)
 rcases fin.2 with ⟨n,rfl⟩|⟨n,rfl⟩
 ·show Xz (a6 pos f.env B.cZ) fin.1
 ·show PySem.callWith_type (a6 pos f.env B.cZ) fin.1
end
section
open Builtin.Str
abbrev sO(l:WJ):Wu:=⟨l.toArray⟩
def bw(l:WJ):(sO l).length=l.length:=by change l.toArray.size=_;simp
def i9(y l:WJ):y.isPrefixOf l=true↔l.take y.length=y:=by
 rw[Xj,Ym];show eq_comm
def jX(l y:WJ)(hi k:Nat)(c:y≠[])(u:hi<=l.length):StrLaws.At (sO l) (sO y) hi k↔y.isPrefixOf ((l.take hi).drop k)=true:=by
 unfold StrLaws.At;rw[StrLaws.subAt_eq,propext (i9 _ _),bw];have U:=XW.mpr c;simp only[Yw,Wf];constructor
 ·rintro ⟨a,b⟩;rw[List.take_take,ZO (Nat.le_sub_of_add_le' a)];show b
 ·intro h;have D:=T3 List.length h;rw[ZG,ZG]at D;have P:=Zh (Zh (Zz D.symm) (Yt _ _)) (X5 _ _);clear D;show⟨Nat.add_le_of_le_sub' (Yo (Nat.lt_of_sub_pos (ZJ U P))) P,?_⟩;rw[List.take_take,ZO P]at h;show h
def rT(y z:WJ)(n:Nat):∀(l:WJ),AQ y z n l=AQ y z 0 (l.drop n):=by
 induction n with
 |zero=>intro l;rw[Yp]
 |succ n Q=>
  intro l;induction l using Re with
  |nil=>rw[List.drop_nil];rfl
  |cons c r=>show Q r
def i6(P:y≠[])(h:y.isPrefixOf l=true):AQ y z 0 l=z++AQ y z 0 (l.drop y.length):=by
 induction l using Re with
 |nil=>induction y using Re with
  |nil=>show T4 rfl P
  |cons _ _=>show a7 h
 |cons c r=>
  change(if y.isPrefixOf (c::r)then z++AQ y z (y.length-1) r else c::AQ y z 0 r)=_;rw[Zk h,rT];obtain⟨m,O⟩:∃m,y.length=m+1:=⟨y.length-1,by show(Nat.sub_eq_iff_eq_add (XW.mpr P)).mp rfl⟩
  (show O▸ ?_;rw[List.drop_succ_cons])
def dC(h:¬y.isPrefixOf (c::r)=true):AQ y z 0 (c::r)=c::AQ y z 0 r:=by
 change(if y.isPrefixOf (c::r)then z++AQ y z (y.length-1) r else c::AQ y z 0 r)=_;rw[Zi h]
def nP(n:Nat):∀(l:WJ),n<=l.length->(∀k,k<n->¬y.isPrefixOf (l.drop k)=true)->AQ y z 0 l=l.take n++AQ y z 0 (l.drop n):=by
 induction n with
 |zero=>intro l _ _;rw[Yp];rfl
 |succ n Q=>
  intro l h j;induction l using Re with
  |nil=>show T4 h (XJ n)
  |cons c r=>
   rw[dC (j 0 (YB _))];show T3 (c:: ·) (Q r (Xc h) λk D=>j (k+1) (Xv D))
def e9(z s:Wu)(h:P≠[]):(Str.join z (s::P)).cps.toList=s.cps.toList++z.cps.toList++(Str.join z P).cps.toList:=by
 induction P using Re with
 |nil=>show T4 rfl h
 |cons p r=>
  change((s.cps++z.cps)++(Str.join z (p::r)).cps).toList=_;simp
def pS(l y z:WJ)(P:y≠[]):∀(d:WJ) (a f:Nat),a<=l.length->StrLaws.ChainG (sO l) (sO y) l.length a d f->(∀k,f<=k->¬StrLaws.At (sO l) (sO y) l.length k)->
  (Str.join (sO z) (StrLaws.partsFrom (sO l) (sO y).length a d)).cps.toList=AQ y z 0 (l.drop a):=by
 intro d;induction d with
 |nil=>
  intro a f b h j;have e:=h;subst e;show(nP (z:=z) (l.drop f).length (l.drop f) (Zq _) λk Z q=>j (f+k) (ZR f k) ((jX l y l.length _ P (Zq _)).mpr (by(show YC▸ ?_;show YI▸ ?_);show q)))▸ ?_;rw[StrLaws.strSub_toList,List.drop_length,YC];rw[List.take_of_length_le (by show ZM▸ ?_;show Zq _)];simp[AQ]
 |cons c d Q=>
  intro a f b h j;show bY h λU N i A=>?_;have u:=(jX l y l.length c P (Zq _)).mp N;replace u:=YC▸u;have s:c+y.length<=l.length:=by have:=N.1;replace this:=(bw _)▸this;show this
  rw[nP (z:=z) (c-a) (l.drop a) (by rw[ZM];show Ws (ZK s) a) λk D q=>i (a+k) (ZR a k) (Wi D) ((jX l y l.length _ P (Zq _)).mpr (by(show YC▸ ?_;show YI▸ ?_);show q)),YI,show a+(c-a)=c by show YV U,i6 P u,YI];rw[e9 _ _ (by show ip (StrLaws.partsFrom_ne (sO l) (sO y).length (c+(sO y).length) d) λp r e=>?_;rw[e];simp),StrLaws.strSub_toList];have Q:=Q (c+(sO y).length) f (by rw[bw];show s) A j;rw[Q,bw];simp
def lN(h:x.cps.toList=l):x=sO l:=by obtain⟨⟩:=x;rw[←h]
def zV(l y z:WJ)(P:y≠[]):Txt.replace (sO l) (sO y) (sO z)=sO (AQ y z 0 l):=by
 have U:1<=(sO y).length:=by rw[bw];show XW.mpr P
 show aA (StrLaws.occ_tight (sO l) (sO y) U) λf u j=>?_;rw[bw]at u j;have key:=pS l y z P _ 0 f (ZF _) u j;replace key:=Yp▸key;unfold Txt.replace;have d:((sO y).length==0)=false:=by rw[bw];induction y<;>first|show T4 rfl P|rfl
 rw[d,Wp];rw[bw];split
 ·rename_i N;rw[show occurrences (sO l) (sO y) 0 l.length (l.length+1)=[] by simpa using N]at key;show key▸ ?_;change _=sO (strSub (sO l) 0 (sO l).length).cps.toList;rw[StrLaws.sub_whole]
 ·show lN ?_;rw[StrLaws.glued_eq_join,StrLaws.partsBetween_eq];show key
def lQ:∀(a:WJ) (t:WJ),c∉a->Ag c (a++c::t)=a::Ag c t:=by
 intro a;induction a with
 |nil=>
  intro t _;simp[Ag]
 |cons x a Q=>
  intro t h;rw[Zt,not_or]at h;have P:¬x=c:=λe=>h.1 e.symm;change(if x=c then []::Ag c (a++c::t)else match Ag c (a++c::t)with
   |h::t=>(x::h)::t
   | []=>[[x]])=_
  rw[Zi P,Q t h.2]
def lS:∀(a:WJ),c∉a->Ag c a=[a]:=by
 intro a;induction a with
 |nil=>
  intro _;show rfl
 |cons x a Q=>
  intro h;rw[Zt,not_or]at h;have P:¬x=c:=λe=>h.1 e.symm;unfold Ag;rw[Zi P,Q h.2]
def lO(j:d≠[])(h:∀p∈d,c∉p.cps.toList):Ag c (Str.join (sO [c]) d).cps.toList=d.map λp=>p.cps.toList:=by
 induction d with
 |nil=>show T4 rfl j
 |cons p r Q=>
  induction r using Re with
  |nil=>show lS _ (h p (.head _))
  |cons q r=>
   rw[e9 _ _ (XU q r)];rw[Zo,lQ _ _ (h p (.head _)),Q (XU q r) λx P=>h x (.tail _ P)];rfl
def rA(x y:Wu):Txt.split x y≠[]:=by
 unfold Txt.split;split
 ·simp
 ·split
  ·simp
  ·rw[StrLaws.partsBetween_eq];show ip (StrLaws.partsFrom_ne x y.length 0 (occurrences x y 0 x.length (x.length+1))) λp r e=>?_;rw[e];simp
def rB(l:WJ)(c:Nat):(Txt.split (sO l) (sO [c])).map (λp=>p.cps.toList)=Ag c l:=by
 have h:=lO (rA _ _) (StrLaws.split_free (sO l) c);rw[StrLaws.join_split]at h;show h.symm
def lU(c:Nat):∀l:WJ,(Ag c l).length<=l.length+1:=by
 intro l;induction l with
 |nil=>
  simp[Ag]
 |cons x r Q=>
  have Q:=Q;unfold Ag;split
  ·simp only[Zj];lia
  ·split
   ·rename_i h t e;rw[e]at Q;simp only[Zj]at Q⊢;show Xd Q
   ·simp
set_option tactic.hygienic true in
def ke(c:Nat):∀l:WJ,∀p∈Ag c l,p.length<=l.length:=by
 intro l;induction l with
 |nil=>
  intro p h;simp[Ag]at h;subst h;simp
 |cons x r Q=>
  intro p h;have Q:=Q;unfold Ag at h;split at h
  ·rcases Zb h with rfl|h
   ·simp
   ·have:=Q p h;simp only[Zj];lia
  ·split at h
   ·rename_i u t e;replace Q:=e▸Q;rcases Zb h with rfl|h
    ·show ZV (Q u (.head _)) 1
    ·show Xd (Q p (.tail _ h))
   ·show(Za h)▸ ?_;simp
def ff(l:WJ)(c hi k:Nat)(u:hi<=l.length):StrLaws.At (sO l) (sO [c]) hi k↔(l.take hi)[k]? =some c:=by
 rw[jX l [c] hi k (XU c []) u,Xj,Ym];have e:(l.take hi)[k]? =((l.take hi).drop k)[0]? :=by rw[List.getElem?_drop];rfl
 show e▸ ?_;cases (l.take hi).drop k with
 |nil=>simp
 |cons a r=>simp[eq_comm]
def mQ(l:WJ)(c hi:Nat)(u:hi<=l.length):∀(d:WJ) (a f:Nat),StrLaws.ChainG (sO l) (sO [c]) hi a d f->(∀k,f<=k->¬StrLaws.At (sO l) (sO [c]) hi k)->d.length=((l.take hi).drop a).count c:=by
 intro d;induction d with
 |nil=>
  intro a f h j;have e:=h;subst e
  symm
  change List.count c _=0;rw[List.count_eq_zero];intro O;obtain⟨i,A,e⟩:=List.mem_iff_getElem.mp O;show j (f+i) (ZR f i) ((ff l c hi _ u).mpr ?_);rw[←List.getElem?_drop,Zy A,e]
 |cons b d Q=>
  intro a f h j;show bY h λo n D m=>?_;have P:=(ff l c hi b u).mp n;have N:b<(l.take hi).length:=by
   rcases YT b (l.take hi).length with z|z
   ·show z
   ·rw[Xm z]at P;show aw P
  have U:(l.take hi).drop a=((l.take hi).drop a).take (b-a)++(l.take hi).drop b:=by
   have:=(Yc (b-a) ((l.take hi).drop a)).symm;rw[YI,show a+(b-a)=b by show YV o]at this;show this
  have Z:(l.take hi).drop b=c::(l.take hi).drop (b+1):=by
   rw[Yh N];congr 1;rw[Zy N]at P;show Zf P
  have s:(((l.take hi).drop a).take (b-a)).count c=0:=by
   rw[List.count_eq_zero];intro O;obtain⟨i,A,e⟩:=List.mem_iff_getElem.mp O;have g:i<b-a:=by rw[ZG]at A;show ZJ A (X5 _ _)
   show D (a+i) (ZR a i) (Wi g) ((ff l c hi _ u).mpr ((List.getElem?_drop)▸ ?_));have:(((l.take hi).drop a).take (b-a))[i]? =some c:=by rw[Zy A,e]
   rw[List.getElem?_take,Zk g]at this;show this
  (rw[U,List.count_append,s,Z,List.count_cons_self,Wb,Zj];show(Q (b+(sO [c]).length) f m j)▸ ?_)
  rfl
def uy(l:WJ)(c hi:Nat)(u:hi<=l.length):(occurrences (sO l) (sO [c]) 0 hi ((sO l).length+1)).length=(l.take hi).count c:=by
 rw[StrLaws.occ_eq _ _ _ _ _,bw];have key:=StrLaws.tight_run (sO l) (sO [c]) hi (l.length+1) 0 (Zq _) (hi+1-0) 0 (#[],0) rfl (λk Z h=>by lia) (by simp;show String.Pos.Raw.mk_le_mk.mp u);have:=mQ l c hi u _ 0 _ key.1 λk D U=>key.2 k D (by have:=U.1;show Zh (Z1 (ZK this)) (Zz (Wb _).symm)) U;replace this:=Yp▸this;show this
def ki(h:∀k:Nat,l[k]? ≠some c):Dn c l= -1:=by
 induction l with
 |nil=>rfl
 |cons x r Q=>
  unfold Dn;rw[Q λk=>h (k+1),Zi λe=>h 0 (T3 some e)]
def rP:∀ {a:Nat},l[a]? =some c->(∀k:Nat,a<k->l[k]? ≠some c)->Dn c l=a:=by
 induction l with
 |nil=>intro a h;show aw h
 |cons x r Q=>
  intro a h j;unfold Dn;induction a using Nat.casesOn with
  |zero=>rw[ki λk=>j (k+1) (YB _),Zk (Zf h)];rfl
  |succ a=>rw[Q h λk D=>j (k+1) (Xv D),Zk (Yx _)];rfl
def tx(l:WJ)(c hi:Nat)(u:hi<=l.length):(match lastOccurrence (sO l) (sO [c]) 0 hi with|some i=>(i:Int)|none=> -1)=Dn c (l.take hi):=by
 rw[StrLaws.last_eq];have key:=StrLaws.last_run (sO l) (sO [c]) hi (List.range' 0 (hi+1-0)) [] none (λZ h=>(Yl h).elim) (λZ h=>(Yl h).elim) (by simpa using List.pairwise_lt_range');have s:∀i,StrLaws.At (sO l) (sO [c]) hi i->i∈[]++List.range' 0 (hi+1-0):=λi A=>by simp[List.mem_range']<;>show YO 1 A.1
 cases D:(forIn (List.range' 0 (hi+1-0)) none (StrLaws.lastBody (sO l) (sO [c]) hi)).run with
 |none=>
  replace key:=D▸key;show(ki λk e=>by have U:=(ff l c hi k u).mpr e;show key k (s k U) U).symm
 |some a=>
  replace key:=D▸key;show(rP ((ff l c hi a u).mp key.1) λk b e=>by have U:=(ff l c hi k u).mpr e;show key.2 k (s k U) b U).symm
def wN(l:WJ)(c a:Nat)(p:a<=l.length):(match occurrences (sO l) (sO [c]) a (sO l).length 1 with|i::_=>(i:Int)| []=> -1)=Mz c l a:=by
 have lF:∀k,StrLaws.At (sO l) (sO [c]) (sO l).length k↔l[k]? =some c:=λk=>by
  rw[bw,ff l c l.length k (Zq _),YC]
 rw[StrLaws.occ_eq];unfold Mz;rcases StrLaws.occ_first (sO l) (sO [c]) (sO l).length 1 (Zq _) (List.range' a ((sO l).length+1-a)) a (λi hi=>(List.mem_range'_1.mp hi).1)with ⟨f,m⟩|⟨pre,b,g,e,f,P,m⟩
 ·rw (occs:=.all) [f,(List.findIdx?_eq_none_iff.mpr λx o=>?_:(l.drop a).findIdx? (λy=>beq y c)=none)]
  ·obtain⟨i,hi,rfl⟩:=List.mem_iff_getElem.mp o;rw[ZM]at hi;cases q:beq (l.drop a)[i] c with
   |false=>rfl
   |true=>
    show(m (a+i) (List.mem_range'_1.mpr ⟨ZR _ _,by rw[bw];show Nat.add_lt_add_left (ZJ hi (Ws (YX _) a)) a⟩) ((lF _).mpr ?_)).elim;rw[←List.getElem?_drop,Zy (by rw[ZM];show hi),ZC q]
 ·have P:=(lF b).mp P;have d:=(List.mem_range'_1.mp (e▸Xl _ (.head _))).1;have A:b<l.length:=by
   rcases YT b l.length with z|z
   ·show z
   ·rw[Xm z]at P;show aw P
  have s:(l.drop a).findIdx? (λy=>beq y c)=some (b-a):=by
   rw[List.findIdx?_eq_some_iff_getElem];show(aO (by rw[ZM];show Nat.sub_lt_sub_right d A) ?_ λj Q=>?_)
   ·rw[List.getElem_drop];have:l[a+(b-a)]? =some c:=by rw[show a+(b-a)=b by show YV d];show P
    rw[Zy (place_lt this)]at this;rw[Zf this];show bW c
   ·rw[List.getElem_drop];intro q;have O:a+j∈pre:=by
     have n:(List.range' a ((sO l).length+1-a)).Pairwise (· < ·):=List.pairwise_lt_range';rcases Yi.mp (show a+j∈pre++b::g from e▸List.mem_range'_1.mpr ⟨ZR _ _,by rw[bw];show Nat.add_lt_add_left (ZJ Q (Ws (Y4 (Yo A)) a)) a⟩)with h|h
     ·show h
     ·rw[e]at n;rcases Zb h with h|h
      ·lia
      ·have:=(List.pairwise_cons.mp ((List.pairwise_append.mp n).2.1)).1 _ h;lia
    show m _ O ((lF _).mpr ?_);rw[Zy (Nat.lt_trans (Wi Q) A),ZC q]
  rw[s];generalize (forIn (List.range' a ((sO l).length+1-a)) (#[],a) (StrLaws.occBody (sO l) (sO [c]) (sO l).length 1)).run.fst=arr at f;have U:arr.toList[0]? =some b:=by simpa using f
  cases v:arr.toList with
  |nil=>rw[v]at U;show aw U
  |cons x t=>
   rw[v]at U;obtain rfl:x=b:=by simpa using U
   change(x:Int)=((a+(x-a):Nat):Int)
   rw[show a+(x-a)=x by show YV d]
def wm:Unicode.lowerOf 233=[DF 233]:=by decide+kernel
def wk:∀c,c<128->Unicode.lowerOf c=[DF c]:=by
 intro c u;show eq_of_beq (Zd (show(List.range 128).all (λc=>Unicode.lowerOf c==[DF c])=true by decide+kernel) c (List.mem_range.mpr u))
def tc(l:WJ)(h:(l.all λc=>or (Nat.blt c 128) (beq c 233))=true):Txt.lower (sO l)=sO (Bp l):=by
 show lN ?_;unfold Txt.lower placed;have e:((sO l).cps.mapIdx λi Z=>(Unicode.lowerAt (sO l).cps i).toArray)=(l.map λc=> #[DF c]).toArray:=by
  show Array.ext (by simp) λi U N=>?_;have hi:i<l.length:=by simpa using U
  simp only[Array.getElem_mapIdx,List.getElem_toArray,List.getElem_map];have u:=((Yq _ _).mp (Zd h _ (Xh hi))).imp cb ZC;change(match (l.toArray)[i]? with|none=>[]|some c=>if c==0x3A3&&Unicode.endsWord _ i then [0x3C2]else Unicode.lowerOf c).toArray=_;rw[YH,Zy hi];have:(l[i]==0x3A3)=false:=by simp;show λq=>u.elim (λz=>T4 (q▸z) (by ext)) λz=>T4 (q.symm.trans z) (by ext)
  simp only[this,Wg,Bool.false_eq_true,if_false];rw[(u.elim (wk _) λe=>by rw[e];show wm:Unicode.lowerOf l[i]=[DF l[i]])]
 show e▸ ?_;have:∀l:WJ,((l.map λc=> #[DF c]).toArray.flatten).toList=l.map DF:=by
  intro l;induction l with
  |nil=>rfl
  |cons x r Q=>simp_all
 show this l
end
section
open Builtin.Str Builtin
def jz(x y:Wu)(i j:Int)(t u v w:Tok):Gives («str.count» ⟨[.str x t,.str y u,.int i v,.int j w],[]⟩) (.int (occurrences x y (fromIndex x.length i) (min (fromIndex x.length j) x.length) (x.length+1)).length):=by
 show .of_eq rfl
def jy(x y:Wu)(i j:Int)(t u v w:Tok):Gives («str.rfind» ⟨[.str x t,.str y u,.int i v,.int j w],[]⟩) (.int (match lastOccurrence x y (fromIndex x.length i) (min (fromIndex x.length j) x.length)with|some i=>(i:Int)|none=> -1)):=by
 change Gives (match lastOccurrence x y (fromIndex x.length i) (min (fromIndex x.length j) x.length)with|some i=>retInt i|none=>(do rule "str.rfind.not-found";retInt (-1))) _;cases lastOccurrence x y (fromIndex x.length i) (min (fromIndex x.length j) x.length)with
 |none=>show .rule (.of_eq rfl)
 |some i=>show .of_eq rfl
def tS(n:Nat):fromIndex n 0=0:=Nat.eq_zero_of_add_eq_zero_left rfl
def dk(n:Nat)(h:0<=b):fromIndex n b=b.toNat:=by
 unfold fromIndex;rw[Zi (Int.not_lt_of_ge h)];show(Int.le_total 0 _).elim (λh=>T3 _ (Int.max_eq_right h)) λh=>(T3 _ (Int.max_eq_left h)).trans (Int.toNat_of_nonpos h).symm
def j7(l:WJ)(n:Nat):l.take (min n l.length)=l.take n:=by
 rcases Nat.le_total n l.length with h|h
 ·rw[ZO h]
 ·rw[Nat.min_eq_right h,YC,List.take_of_length_le h]
def SD(z y r:WJ)(t:Tz):WJ:=List.casesOn (motive:=λZ=>WJ) t y λZ Z=>y++z++r
def mx(h:B0 z (x::t)=some r):∃y u,x=.str y/\B0 z t=some u/\r=SD z y u t:=by
 show aA (ax (f:=λy=>BK (B0 z t) λr=>SD z y r t) h) λy e h=>?_;show aA (aZ h) λu A h=>?_;show(a8 y u (qN e) A h.symm)
def vC(y z:WJ)(l:WJ):∀n:Nat,(AQ y z n l).length<=l.length*(z.length+1):=by
 induction l with
 |nil=>intro n;show ZF _
 |cons c r Q=>
  intro n;rw[Nat.succ_mul];induction n using Nat.casesOn with
  |zero=>
   change(if y.isPrefixOf (c::r)then z++AQ y z (y.length-1) r else c::AQ y z 0 r).length<=_;split
   ·rw[Zg];have:=Q (y.length-1);show Zh (Zz (Xp _ _)) (Z9 this (YX _))
   ·rw[Zj];have:=Q 0;show Z9 this (Z0 1 _)
  |succ n=>show Zh (Q n) (ZR _ _)
def qf{N:WA}:∀ {Z:TN} {r:WJ},Ba N w F Z l->B0 z l=some r->
  ∃P,StrsAre Z P/\(Str.join (sO z) P).cps.toList=r/\(P.map (·.length)).sum<=r.length/\P.length=l.length:=by
 induction l with
 |nil=>
  intro Z r h e;obtain rfl:=h.inv;obtain rfl:=Zf e;show(aY [] .nil rfl (Zq _) rfl)
 |cons x l n=>
  intro Z r h e;obtain⟨v,Z,rfl,Q,D⟩:=h.inv;show bA (mx e) λy u i U j=>?_;clear h;subst i j;show bO (n D U) λP m k o A=>?_;obtain⟨t,rfl,b⟩:=Q.x;show(aY (sO y::P) (.cons _ _ m) ?_ ?_ (by rw[Zj,A,Zj]))
  ·cases l with
   |nil=>
    have:=List.length_eq_zero_iff.mp A;subst this;rfl
   |cons a l=>
    rw[e9 _ _ (by intro e;replace A:=e▸A;cases A),k];rfl
  ·rw[Ye,List.sum_cons,bw];cases l with
   |nil=>
    have:=List.length_eq_zero_iff.mp A;subst this;simp[SD]
   |cons a l=>change _<=(y++z++u).length;simp only[Zg];show Z9 (ZR _ _) o
def u5{pG:WA}:∀(n:Nat) (D:TP),(∀p∈D,p.length<=16777216)->Ba pG w F (strsFrom n D) (D.map λp=>FV.str p.cps.toList):=by
 intro n D;induction D generalizing n with
 |nil=>
  intro _;show .nil
 |cons p r Q=>
  intro h;show .cons ?_ (Q (n+1) λq SG=>h q (.tail _ SG));have e:p=sO p.cps.toList:=by obtain⟨⟩:=p;simp
  have:=RF.str (pG:=pG) (w:=w) (F:=F) p.cps.toList n (by have:=h p (.head _);show Y8▸ ?_;show this);replace this:=(e.symm)▸this;show this
section
variable {c:Cx}{g:G}{K:Frag}{p:CP}{Sy:TP}{mg mb:Wu->TM}{f:Fm}{d:Nat}{O:Gh}{L:Loc}{J:St}{s:Ww}
def rq{v:Wv}{f:FV}(r:Rel c O L J s)(E:x.length<=16777216)(N:RF c.Aa c.w s.heap.get? v f)
  (h:Ab (aL f) λl=>Ab (B0 x l) λr=>Hr (r.length+l.length*x.length+x.length) (k (.c (.str r)) J)) (n:B2 c L O s k Q):wpAny (model c.Aa c.w) A (PySem.call (.builtin (HY 2)) [.str ⟨x.toArray⟩ t,v]) Q Bl s:=by
 obtain⟨l,e,U⟩:=ak h;obtain⟨rr,m,i,D⟩:=ak U;clear h;obtain rfl:=m7 e;obtain⟨a,F,o,rfl,e,q,j,b⟩:=N.x;show bO (qf j m) λP u y w B=>?_;show aN r.tk (PyProof.Rows.join_list (q.list e) (by simpa using u) (by rw[bw,B];show Zh (ZV w _) (ZK i)) λz Z C=>?_);have:Txt.join (sO x) P=sO rr:=by
  show lN ?_;unfold Txt.join;rw[StrLaws.glued_eq_join];show y
 show this▸ ?_;show n O J _ _ (.c (.str rr)) (.toks _ _) (r.toks C) (dq (.str rr z (ZK (ZK i)))) D
def pJ(h:A.handled=none)(r:Rel c O L J s)(y:x.length<=16777216)
  (l:x.length+2<=16777216) (D:Ce (.lst ((Ag ch x).map .str)) J k) (j:B2 c L O s k Q):wpAny (model c.Aa c.w) A (PySem.call (.builtin (HY 6)) [.str ⟨x.toArray⟩ t,.str ⟨[ch].toArray⟩ t1]) Q Bl s:=by
 have z:=rB x ch;have u:((Ag ch x).map FV.str).length<=16777216:=by rw[ZD];have:=lU ch x;lia
 have whole:Txt.split (sO x) (sO [ch])=[sO x]->Ag ch x=[x]:=λe=>by
  rw[e]at z;show z.symm
 have P:=λe=>by
  have D:=D;have u:=u;rw[whole e]at D u;show e8 r.tk r (.cons (.str x t y) .nil) u D j
 cases U:(decide ((sO x).length<(sO [ch]).length)||decide (strKind (sO x)<strKind (sO [ch])))
 ·cases a:(occurrences (sO x) (sO [ch]) 0 (sO x).length ((sO x).length+1)).isEmpty
  ·have v:Txt.split (sO x) (sO [ch])=partsBetween (sO x) (occurrences (sO x) (sO [ch]) 0 (sO x).length ((sO x).length+1)) (sO [ch]).length:=by
    unfold Txt.split;rw[U,a];rfl
   have N:(Txt.split (sO x) (sO [ch])).length<=16777216:=by((show(ZD (f:=λp:Wu=>p.cps.toList))▸ ?_;show z▸ ?_);show(ZD (f:=FV.str))▸ ?_);show u
   show call_meets F.slot_str_split (Wk _ _ _) F.entry_str_split (F.args_str_split_2 _ _) (meets_str_split_sep (sO x) (sO [ch]) t t1 U rfl a (by rw[YE];show y) (by(show v▸ ?_;rw[YE]);show N)) ?_;show v▸ ?_;show e8 (ZJ r.tk (ZR _ _)) r ?_ u D j;have:=u5 (pG:=c.Aa) (w:=c.w) (F:=O.F) s.toks (Txt.split (sO x) (sO [ch])) λp j=>by
    have b:p.cps.toList∈Ag ch x:=by show z▸ ?_;show Xr j
    have:=ke ch x _ b;change p.cps.size<=_;show Y8▸ ?_;show Zh this y
   rw[show((Txt.split (sO x) (sO [ch])).map λp=>FV.str p.cps.toList)=(Ag ch x).map FV.str by(show z▸ ?_;rw[Y9]);rfl]at this;show this
  ·show call_meets F.slot_str_split (Wk _ _ _) F.entry_str_split (F.args_str_split_2 _ _) (meets_str_split_not_found (sO x) (sO [ch]) t t1 U rfl a) (P (by unfold Txt.split;rw[U,a];rfl))
 ·show call_meets F.slot_str_split (Wk _ _ _) F.entry_str_split (F.args_str_split_2 _ _) (meets_str_split_cannot_occur (sO x) (sO [ch]) t t1 U) (P (by unfold Txt.split;rw[U];rfl))
def abe(P:0<=j):(occurrences (sO x) (sO [ch]) (fromIndex (sO x).length 0) (min (fromIndex (sO x).length j) (sO x).length) ((sO x).length+1)).length=(x.take j.toNat).count ch:=by
 rw[dk _ P,bw];have:=uy x ch (min j.toNat x.length) (Yt _ _);rw[j7]at this;show this
def zT(P:0<=j):(match lastOccurrence (sO x) (sO [ch]) (fromIndex (sO x).length 0) (min (fromIndex (sO x).length j) (sO x).length)with|some i=>(i:Int)|none=> -1)=Dn ch (x.take j.toNat):=by
 rw[dk _ P,bw];have:=tx x ch (min j.toNat x.length) (Yt _ _);rw[j7]at this;show this
def z6:(decide (0+(sO U).length<=(sO x).length)&&subAt (sO x) (sO U) 0)=U.isPrefixOf x:=by
 rw[Bool.eq_iff_iff,Zp,StrLaws.subAt_eq,i9,bw,bw];simp only[Yw,Yp];constructor
 ·show λh=>h.2
 ·intro h;show⟨?_,h⟩;have:=T3 List.length h;rw[ZG]at this;lia
def zC:K4 c L:=by
 intro n O J s A k Q v x vs H h2 o r X N y h q;obtain⟨t,rfl,G⟩:=N.x;rcases ZU o with rfl|o
 ·obtain⟨p,e,h⟩:=ak h;obtain⟨ch,U,h⟩:=ak h;obtain⟨a,Z,⟨Y,V⟩,D⟩:=ak h;obtain⟨f,fr,rfl,E⟩:∃f fr,H=f::fr/\BK (Sp fr) (λb=>(f,b))=some p:=by
   cases H with
   |nil=>show aw e
   |cons f fr=>show(aU f fr rfl e)
  show aA (aZ E) λb W P=>?_;clear h E;subst P;obtain⟨v1,vr,rfl,g1,T⟩:=y.inv;show aA (T.one W) λv2 m g2=>?_;clear T y;subst m;show zE (g1.FU U) λt1 m=>?_;subst m;show zE (g2.aI Z) λSe m=>?_;subst m;show call_gives F.slot_str_find (Wk _ _ _) F.entry_str_find (F.args_str_find_3 _ _ _) (gives_str_find_from _ _ _ _ _ _) ?_;change Q (.int (match occurrences (sO x) (sO [ch]) (fromIndex (sO x).length a) (sO x).length 1 with|k::_=>(k:Int)| []=> -1) s.toks) {s with toks:=s.toks+1};rw[dk _ Y,show(match occurrences (sO x) (sO [ch]) a.toNat (sO x).length 1 with|k::_=>(k:Int)| []=> -1)=Mz ch x a.toNat from wN x ch a.toNat V];show q O J _ _ (.c (.int _)) (.toks _ _) r.dX (dq (.int _ _)) D
 rcases ZU (ZN o)with rfl|o
 ·obtain⟨f,e,h⟩:=ak h;obtain⟨pf,U,D⟩:=ak h;show aA (y.one e) λv m N=>?_;clear y;subst m;obtain⟨t1,rfl,_⟩:=N.aS U;show call_gives F.slot_str_startswith (Wk _ _ _) F.entry_str_startswith (F.args_str_startswith_2 _ _) (gives_str_startswith _ _ _ _) ?_;show z6▸ ?_;show q O J s _ (.c (.Ae _)) (.refl _ _ _ _) r (dq (.Ae _)) D
 rcases ZU (ZN o)with rfl|o
 ·show h.elim
 rcases ZU (ZN o)with rfl|o
 ·induction H using Re with
  |cons _ _=>show h.elim
  |nil=>
   show zA h λC D=>?_;obtain rfl:=y.inv;have e:=tc x C;have S:(Bp x).length=x.length:=YS (len_of_map_eq rfl);show SC.lower (by rw[e,bw,S];show Zs (by show YE▸ ?_;show YN.mpr G)) ?_;rw[e];show q O J _ _ (.c (.str (Bp x))) (.toks _ _) r.dX (dq (.str (Bp x) _ (by show S▸ ?_;show G))) D
 rcases ZU (ZN o)with rfl|o
 ·obtain⟨f,e,h⟩:=ak h;obtain⟨ch,U,R,D⟩:=ak h;show aA (y.one e) λv m N=>?_;clear y;subst m;show zE (N.FU U) λt1 m=>?_;subst m;show pJ X r G R D q
 rcases ZU (ZN o)with rfl|o
 ·show cX (y.GW h) λa f b g z w B C I M h=>?_;subst B;obtain⟨ch,U,h⟩:=ak h;obtain⟨i,Z,h⟩:=ak h;obtain⟨j,E,⟨rfl,l,u⟩,D⟩:=ak h;show zE (C.FU U) λt1 m=>?_;clear C y;subst m;show zE (I.aI Z) λSe m=>?_;subst m;show zE (M.aI E) λt3 m=>?_;subst m;show call_gives F.slot_str_rfind (Wk _ _ _) F.entry_str_rfind (F.args_str_rfind_4 _ _ _ _) (jy _ _ _ _ _ _ _ _) ?_;rw[zT l];show q O J _ _ (.c (.int _)) (.toks _ _) r.dX (dq (.int _ _)) D
 rcases ZU (ZN o)with rfl|o
 ·show cX (y.GW h) λa f b g z w B C I M h=>?_;subst B;obtain⟨ch,U,h⟩:=ak h;obtain⟨i,Z,h⟩:=ak h;obtain⟨j,E,⟨rfl,l,u⟩,D⟩:=ak h;show zE (C.FU U) λt1 m=>?_;subst m;show zE (I.aI Z) λSe m=>?_;subst m;show zE (M.aI E) λt3 m=>?_;subst m;show call_gives F.slot_str_count (Wk _ _ _) F.entry_str_count (F.args_str_count_4 _ _ _ _) (jz _ _ _ _ _ _ _ _) ?_;rw[abe l];show q O J _ _ (.c (.int _)) (.toks _ _) r.dX (dq (.int _ _)) D
 rcases ZU (ZN o)with rfl|o
 ·show h.elim
 obtain rfl:=YK (ZN o) h2;obtain⟨f,e,h⟩:=ak h;show aA (y.one e) λv m N=>?_;subst m;show rq r G N h q
def abL(Y:Ctx c K p Sy mg mb)(hb:AU o=true)(i:(apos.endLine==pos.line)=true)(V:a.cps.size<14)(P:b.cps.size<14)(h:SE c g f d xo o):
  SE c g f d (.rep xo a.cps.toList b.cps.toList) (.Call (.Attribute o "replace" apos) [.Constant (.str a) k1 p1,.Constant (.str b) k2 p2] [] pos):=by
 intro O J s A k Q r rm G W;rw[arm_eval_Call _ _ _ _ _ _ _,cQ hb];show Zn (h O J s A _ _ r rm G λZ m l ov oa z U ho C=>?_);obtain⟨q,H,B⟩:=ak C;clear C;obtain rfl:=f7 H;obtain⟨x,H,⟨D,j⟩,C⟩:=ak B;clear B;obtain rfl:=qN H;replace D:=(Zp _ _)▸D;have M:a=sO a.cps.toList:=by cases a;simp
 have S:b=sO b.cps.toList:=by obtain⟨⟩:=b;simp
 have n:methodCallPos true o f.env apos pos=pure pos:=by unfold methodCallPos;simp[i]
 have v:methodCallForm ([Expr.Constant (.str a) k1 p1,Expr.Constant (.str b) k2 p2].length+([]:List WI).length) (backTo pos (starEach [.Constant (.str a) k1 p1,.Constant (.str b) k2 p2] f.env)) (backToKw pos (keywordEach [] f.env))=true:=rfl;unfold methodCall;show v▸ ?_;have w:=ho;show Zn (Yz (Zn (ZY (oR F.slot_str_replace F.type_str_replace w (Zn (X7 n ?_))))));show Xz rfl (Calls.evalArgs_plain (Calls.spliced_cons (wpAny_Constant_str (k:=k1) (pos:=p1) (Calls.spliced_cons (wpAny_Constant_str (k:=k2) (pos:=p2) (Calls.spliced_nil ?_))))));obtain⟨t,rfl,y⟩:=w.x
 ·have I:a.cps.toList≠[]:=λe=>by replace D:=e▸D;cases D.1
  have E:(a==b)=false:=by
   have N:=D.2;replace N:=(aE _ _)▸N;simp only[Z8,decide_eq_false_iff_not]at N;rw[Y5];intro e;show N (by rw[e])
  have u:(AQ a.cps.toList b.cps.toList 0 x).length<=16777216:=by
   have B:=vC a.cps.toList b.cps.toList x 0;have N:x.length*(b.cps.toList.length+1)<=x.length*14:=Yg _ (by show Y8▸ ?_;show Nat.succ_le_of_lt P);show Zh B (Zh N (Zh (Nat.mul_le_mul_right 14 j) (by ext)))
  change wpAny _ _ (PySem.call (.builtin "str.replace") [.str (sO x) t,.str a l.toks,.str b (l.toks+1)]) _ _ _;have r2:=U.acd;have R:=Ext.toks (L:=f.L) (g:=Z) (s:=l) false (l.toks+1+1);show aN r2.tk (SC.replaceW (by have:=U.tk;change l.toks≠0;show Nat.ne_zero_of_lt this) (Nat.succ_ne_zero _) (Z3 (Z4 _)) E (by rw[bw];show j) (Yo P) λt' T ht=>?_);have e:Txt.replace (sO x) a b=sO (AQ a.cps.toList b.cps.toList 0 x):=by
   have:=zV x a.cps.toList b.cps.toList I;replace this:=(YS M)▸this;replace this:=(YS S)▸this;show this
  show e▸ ?_;show W Z m _ _ (.c (.str _)) ((z.trans r U R).trans r r2 (.toks false T)) (r2.toks ht) (dq (.str _ t' u)) C
end
end
section
variable {c:Cx}{g:G}{K:Frag}{p:CP}{Sy:TP}{mg mb:Wu->TM}{f:Fm}{d:Nat}{O:Gh}{L:Loc}{J:St}{s:Ww}
def Ba.last{N:WA}{w:Wy}{F:WD->TQ}{Z:TN}{l:Tz}{x:FV}(h:Ba N w F Z l)(e:l.getLast?=some x):∃v,Z[Z.length-1]? =some v/\RF N w F v x/\Ba N w F Z.dropLast l.dropLast:=by
 rw[List.getLast?_eq_getElem?]at e;have D:=h.len;show aA (h.get? e) λv U a=>(ck v (by rw[D];show U) a ?_)
 rw[List.dropLast_eq_take,List.dropLast_eq_take,D];show Ba.take _ h
def wi{ft:List WD}{l1:Tz}(r:Rel c O L J s)(e:O.φ i=some (a,ft))(q:Sx i J.H=some (.lst l1))(h:RF c.Aa c.w O.F v N)(b:l1.length+1<=16777216)
  (x:k (.c .Ak) (As J (put i (.lst (l1++[N])) J.H))) (n:B2 c L O s k Q):wpAny (model c.Aa c.w) A (PySem.call (.builtin (HY 0)) [.ref a,v]) Q Bl s:=by
 show bI (r.ob e q) λZ o C U j D B=>?_;obtain⟨m,rfl⟩:=j;show wpAny_list_append_plain ⟨m,U⟩ (λE y w=>?_) (by rw[ZP,D.len,YE];omega);show zE y λt l=>zA (r.gr r.tk e q w l ⟨t,by simp⟩ (Ba.append (.cons h .nil) D) (by rw[Zg];show b)) λr2 z=>?_;show n _ _ _ _ (.c .Ak) z r2 (dq .Ak) x
def wg{ft:List WD}(r:Rel c O L J s)(e:O.φ i=some (a,ft))(q:Sx i J.H=some (.lst l))(P:l.getLast?=some x)
  (C:k (.c x) (As J (put i (.lst l.dropLast) J.H))) (B:B2 c L O s k Q):wpAny (model c.Aa c.w) A (PySem.call (.builtin (HY 1)) [.ref a]) Q Bl s:=by
 show bI (r.ob e q) λZ o N U j D h=>?_;obtain⟨m,w⟩:=j;subst w;show bM (D.last P) λv t n y=>?_;have z:N.toArray.size<=sizeLine:=by rw[ZP,D.len,YE];show h
 show call_meets F.slot_list_pop (aO _ U rfl) F.entry_list_pop (F.args_list_pop_1 _) (MeetsSeq.list_pop_last a N.toArray m v (by rw[YH];show t) z) ⟨U,?_⟩;have hd:N.toArray.eraseIdxIfInBounds (N.toArray.size-1)=N.dropLast.toArray:=by
  rw[List.eraseIdxIfInBounds_toArray,List.eraseIdx_length_sub_one]
 show zA (r.gr r.tk e q (Heap.SameBut.update ..) (show(s.heap.update a (Obj.mapSeq λu=>u.eraseIdxIfInBounds (N.toArray.size-1))).get? a=some (Obj.mapSeq (λu=>u.eraseIdxIfInBounds (N.toArray.size-1)) {cls:=.type "list",data:=.seq N.toArray m}) from Heap.get?_update_self _ U rfl) (yE _ (by simp only[Obj.mapSeq,hd];rfl)) y (by rw[List.length_dropLast];omega)) λr2 b=>B _ _ _ _ (.c x) b r2 (dq (RF.mono b.le.F n)) C
def sY{ft:List WD}{x:FV}(r:Rel c O L J s)(e:O.φ i=some (a,ft))(q:Sx i J.H=some (.lst (x::t)))
  (h:k (.c x) (As J (put i (.lst t) J.H))) (C:B2 c L O s k Q):wpAny (model c.Aa c.w) A (PySem.call (.builtin (HY 1)) [.ref a,.int 0 Z]) Q Bl s:=by
 show bI (r.ob e q) λE o N U j D b=>?_;obtain⟨m,B⟩:=j;obtain⟨v,N,rfl,w,y⟩:=D.inv;subst B;have z:(v::N).toArray.size<=sizeLine:=by rw[ZP,Zj,y.len];show b
 show call_meets F.slot_list_pop (aO _ U rfl) F.entry_list_pop (F.args_list_pop_2 _ _) (MeetsSeq.list_pop_at a (v::N).toArray m 0 _ 0 v (by ext) (by simp[seqIndex?]) (by simp) z) ⟨U,?_⟩;have hd:(v::N).toArray.eraseIdxIfInBounds 0=N.toArray:=by
  rw[List.eraseIdxIfInBounds_toArray];rfl
 show zA (r.gr r.tk e q (Heap.SameBut.update ..) (show(s.heap.update a (Obj.mapSeq λu=>u.eraseIdxIfInBounds 0)).get? a=some (Obj.mapSeq (λu=>u.eraseIdxIfInBounds 0) {cls:=.type "list",data:=.seq (v::N).toArray m}) from Heap.get?_update_self _ U rfl) (yE _ (by simp only[Obj.mapSeq,hd];rfl)) y (by replace b:=Zj▸b;omega)) λr2 n=>C _ _ _ _ (.c x) n r2 (dq (RF.mono n.le.F w)) h
def aau:K6 c L:=by
 intro n O J s A k Q i a ft l vs W w r e q m h C;rcases ZU w with rfl|w
 ·induction W using Re with
  |nil=>
   obtain⟨x,P,D⟩:=ak h;obtain rfl:=m.inv;show wg r e q P D C
  |cons y ys=>
   obtain⟨x,P,U⟩:=ak h;show aA (m.one P) λv b B=>?_;clear m;subst b;obtain⟨f,X,N⟩:=ak U;obtain⟨j,z,o⟩:=ak N;clear P U;obtain rfl:=f7 X;show zE (RF.aI B z) λt b=>?_;subst b;show zA (qJ o) λI o=>?_;obtain rfl:=Zm I;induction l using Re with
   |nil=>show o.elim
   |cons x t=>show sY r e q o C
 ·obtain rfl:=Wq.mp (ZN w);obtain⟨x,P,U⟩:=ak h;obtain⟨p,u,N⟩:=ak U;show aA (m.one P) λv b B=>?_;subst b;show bM (eI r B u) λg1 G H Y=>zE (G.le.f e) λT e1=>?_;obtain⟨l1,q1,F,D⟩:=ak N;show wi H e1 (uT q1) Y F D λE Z V v y R S M D=>C E Z V v y (G.trans r H R) S M D
def lI{N:WA}
  (h:wpAny (model N w) A (isTrue z env (eval z env)) (λb P=>
    if b then wpAny (model N w) A (execs y env) (λf j=>match f with
      | .next| .cont=>codeAny (model N w) A (.whileLoop z y [] env) R j
      | .brk=>R (.ok .next) j
      | .ret v=>R (.ok (.ret v)) j) Bl P
    else R (.ok .next) P) Bl s):codeAny (model N w) A (.whileLoop z y [] env) R s:=by
 show codeAny_of_tree ?_;show wpAny_noted ?_;show Zn (ZT h (λb P u=>?_) λZ Z l=>l.elim);induction b using Bool.casesOn with
 |false=>
  simp only[Bool.false_eq_true,if_false]at u⊢;show Zn (X3 (ZE u))
 |true=>
  simp only[if_true]at u⊢;show Zn (ZT u (λf j U=>?_) λZ Z l=>l.elim);cases f with
  |next=>show ZE ⟨rfl,U⟩
  |cont=>show ZE ⟨rfl,U⟩
  |brk=>show ZE U
  |ret v=>show ZE U
def kO{N:WA}
  (h:wpAny (model N w) A (pyNext z) (λr l=>match r with
   |none=>R (.ok .next) l
   |some v=>wpAny (model N w) A (letOwnedTupleGo D z v) (λZ O=>
     wpAny (model N w) A (assign D env v) (λZ P=>wpAny (model N w) A (execs y env) (λf j=>match f with
      | .next| .cont=>codeAny (model N w) A (.forLoop D z y [] env) R j
      | .brk=>R (.ok .next) j
      | .ret v=>R (.ok (.ret v)) j) Bl P) Bl O) Bl l) Bl s):codeAny (model N w) A (.forLoop D z y [] env) R s:=by
 show codeAny_of_tree ?_;show wpAny_noted ?_;show Zn (Yz (Zn (wpAny_onRaise (ZT h (λr l a=>?_) λZ Z b=>b.elim))));induction r using Option.casesOn with
 |none=>show ZE ⟨rfl,codeAny_block (X3 a)⟩
 |some v=>
  show Zn (ZT a (λZ O Q=>?_) λZ Z b=>b.elim);show Zn (ZT Q (λZ P u=>Zn (ZT u (λf j U=>?_) λZ Z b=>b.elim)) λZ Z b=>b.elim);cases f with
  |next=>show ZE ⟨rfl,U⟩
  |cont=>show ZE ⟨rfl,U⟩
  |brk=>show ZE U
  |ret v=>show ZE U
def aeD(M:ST c g f d x e)(L:SB c g f d b body):SS c g f d (.wh lb x b) (.While e body [] pos):=by
 intro O J s A k Q r H G E;show wpAny_While ?_;have key:=G (λB=>∀l n,Ext f.vl f.L O s l n->Rel c l f.L B n->codeAny (model c.Aa c.w) A (.whileLoop e body [] f.env) (λr n=>match r with| .ok f=>Q f n| .error e=>cameBackBy (model c.Aa c.w) A f.env Bl e n) n)
  λB C l n I F=>by
   show lI (M l B n A (λt J=>S7 t (ex g b J (Pg _ k)) (k .AZ J)) _ F H C λZ m q t o U i=>?_);have i:=mX i;induction t using Bool.casesOn with
   |false=>
    simp only[if_false]at i⊢;show E Z m q .next .AZ (I.trans r F o).o U rfl i
   |true=>
    simp only[if_true]at i⊢;show L Z m q A _ _ U H i λj z P u y N h w i=>?_;have D:=((I.trans r F o).o.trans r U N).vv;induction y using Fl.casesOn with
    |AZ=>subst w;show i j P D h
    |cnt=>subst w;show i j P D h
    |brk=>subst w;show E j z P .next .AZ D h rfl i
    |ret a=>obtain⟨v,rfl,w⟩:=w;show E j z P (.ret v) (.ret a) D h (aO v rfl w) i
 show key O s (.refl _ _ _ _) r
set_option backward.match.sparseCases true
def Gc(h:WH)(I:WD):Prop:=∃o T,h.get? I=some o/\o.cls=.type T/\["enumerate","zip","dict_itemiterator","dict_reverseitemiterator","odict_iterator","itertools.zip_longest","itertools.pairwise"].contains T=false
def adt{M:Model}(h:Gc s.heap I)(SG:Q () s):wpAny M A (letOwnedTupleGo D (.ref I) v) Q E s:=by
 show bA h λo T U N b=>?_;have k:wpAny M A (do
   let (.ref r,.ref a):=(Value.ref I,v)|return
   let o←load r
   match o.cls,o.data with
   | .type n,.fields Z=>
    if ["enumerate","zip","dict_itemiterator","dict_reverseitemiterator","odict_iterator","itertools.zip_longest","itertools.pairwise"].contains n&&Z[0]? ==some (rawInt a)then
     rule "for.unpacks-the-owned-tuple"
     updateField r 0 .none
   |_,_=>pure ()) Q E s:=by
  cases v with
  |ref a=>
   show Zn (wpAny_load U ?_);rw[N];cases o.data with
   |fields Z=>dsimp only;rw[b];show ZE SG
   |_=>show ZE SG
  |_=>show ZE SG
 cases D with
 |Tuple=>show k
 |List=>show k
 |_=>show ZE SG
structure Qu (c:Cx) (A:Wz) (F:WD->TQ) (I:WD) (fp wr:List WD) (items:Tz) (St:Nat->WH->Prop):Prop where
 W:∃P,Walks c.Aa c.w A I fp wr items.length P St/\∀i v,P i v->∃x,items[i]? =some x/\RF c.Aa c.w F v x
 live:∀i h,St i h->∀b∈fp,∃o,h.get? b=some o
 go:∀i h,St i h->Gc h I
structure Ef (g:Gh) (L:Loc) (fp wr:List WD):Prop where
 fp:∀b∈fp,¬L.CN b/\¬AD g b
 wr:∀b∈wr,g.F b=none
def Rel.turn(r:Rel c O L J s){tk:Nat}(k:0<tk)(u:Ef O L fp wr)(h:∀b∈wr,b∈fp)(D:∀b o,b∉wr->s.heap.get? b=some o->h'.get? b=some o):Rel c O L J {s with heap:=h',toks:=tk}:=by
 have m:∀x o,O.F x=some o->x∉wr:=λx o e P=>by replace e:=(u.wr x P)▸e;show aw e
 show⟨λx N e=>D x N (m x N e) (r.Av x N e),λj N Q=>?_,r.sep,λx P=>?_,r.nL,?_,r.new,r.DY,r.CZ,r.base,r.Lb,k⟩
 ·show aX (r.obs j N Q) λb l e n=>(aU b l e (n.step (.refl _ _) λx P o A=>D x o (λi=>(u.fp x (h x i)).2 (ay j b l e P)) A))
 ·show cV (r.off x P) λa v N w=>⟨a,v,yE N (D x N (λi=>(u.fp x (h x i)).2 P) w)⟩
 ·show r.loc.step (.refl _ _) λx P=>av λo e=>D x o (λi=>(u.fp x (h x i)).1 P) e
def Ext.turn(x:Ext b L A j Q l){tk:Nat}{wr:List WD}(v:∀b∈wr,j.heap.get? b=none)(D:∀b o,b∉wr->l.heap.get? b=some o->h'.get? b=some o):
  Ext b L A j Q {l with heap:=h',toks:=tk}:=
 ⟨x.le,λy o e i a=>D y o (λq=>by replace e:=(v y q)▸e;show aw e) (x.keep y o e i a),λy P o e=>(x.EN y P o e).elim λo' h=>(aO o' (D y o' (λq=>by replace e:=(v y q)▸e;show aw e) h.1) h.2),x.fp,x.fF,x.gens,x.os,x.drawn⟩
def Ef.ext{v wr:List WD}(u:Ef A L v wr)(x:Ext b L A j Q l)(N:∀b∈wr,b∈v)(D:∀b∈v,∃o,j.heap.get? b=some o):Ef Q L v wr:=by
 have U:∀b∈v,¬AD Q b:=λb P h=>by
  rcases x.fp b h with z|z
  ·show(u.fp b P).2 z
  ·show zE (D b P) λo e=>?_;rw[z]at e;show aw e
 show⟨λb P=>⟨(u.fp b P).1,U b P⟩,λb P=>?_⟩;cases q:Q.F b with
 |none=>rfl
 |some o=>
  rcases x.fF b o q with z|z|z
  ·rw[u.wr b P]at z;show aw z
  ·show((u.fp b (N b P)).2 z).elim
  ·show zE (D b (N b P)) λo e=>?_;rw[z]at e;show aw e
def Rel.fresh(r:Rel c O L J s):O.F s.heap.objs.size=none/\¬L.CN s.heap.objs.size/\¬AD O s.heap.objs.size:=r.free (aF (Zq _))
def Rel.closed(r:Rel c O L J s)(e:O.F a=some o):¬L.CN a/\¬AD O a:=
 ⟨λz=>(by replace e:=(r.nL a z)▸e;show aw e),λz=>(by have h:=(r.off a z).1;replace h:=e▸h;cases h)⟩
def BD(c:Cx)(A:Wz)(L:Loc)(O:Gh)(s:Ww)(l:Tz)(Z:St)(Q:Wv->Ww->Prop):Prop:=
 ∀a j I v wr St,Ext false L O s a j->Rel c a L Z j->Qu c A a.F I v wr l St->Ef a L v wr->(∀b∈wr,b∈v)->(∀b∈wr,s.heap.get? b=none)->(∀x o,s.heap.get? x=some o->j.heap.get? x=some o)->St 0 j.heap->Q (.ref I) j
def kG{Q:Wv->Ww->Prop}{St:Nat->WH->Prop}(r:Rel c O L J s)(e:O.F a=some o)(j:Ba c.Aa c.w O.F Z l)
  (W:Walks c.Aa c.w A s.heap.objs.size [s.heap.objs.size,a] [s.heap.objs.size] Z.toArray.size (λi v=>Z.toArray[i]? =some v) St) (y:∀i h,St i h->Gc h s.heap.objs.size/\∃o,h.get? a=some o) (n:St 0 (s.heap.push no)) (m:BD c A L O s l J Q):
  Q (.ref s.heap.objs.size) {s with heap:=s.heap.push no}:=by
 have u:s.heap.get? s.heap.objs.size=none:=aF (Zq _);show zA (r.free u) λt w=>?_;rw[show Z.toArray.size=l.length from j.len]at W;show m O _ s.heap.objs.size [s.heap.objs.size,a] [s.heap.objs.size] _ (.push _) (r.push _) ⟨aO _ W λi v hi=>?_,λi h st b P=>?_,λi h st=>(y i h st).1⟩ ⟨λb P=>?_,λb P=>?_⟩ (λb P=>?_) (λb P=>?_) (λk k e=>Zw _ e) n
 ·rw[YH]at hi;have N:i<l.length:=by
   rcases YT i Z.length with z|z
   ·rw[←j.len];show z
   ·rw[Xm z]at hi;show aw hi
  show aA (j.get? (Zy N)) λx U q=>?_;rw[hi]at U;obtain rfl:=Zf U;show(aO _ (Zy N) q)
 ·rcases Zb P with rfl|P
  ·show(y i h st).1.elim λo h=>h.elim λk h=>(yE o h.1)
  ·rw[Za P];show(y i h st).2
 ·rcases Zb P with rfl|P
  ·show w
  ·rw[Za P];show r.closed e
 ·rw[Za P];show t
 ·rw[Za P];show .head _
 ·rw[Za P];show u
def Rel.ne0(r:Rel c O L J s)(e:O.F a=some o):a≠s.heap.objs.size:=λz=>by have:=r.Av _ _ e;rw[z,aF (Zq _)]at this;show aw this
def qh(r:Rel c O L J s)(U:A.handled=none)(e:O.F a=some o)(q:Ca "list" o Z)(j:Ba c.Aa c.w O.F Z l)(b:BD c A L O s l J Q):
  wpAny (model c.Aa c.w) A (pyIter (.ref a)) Q Bl s:=by
 have D:=q.list (r.Av _ _ e);show wpAny_pyIter_list D (kG r e j (Walks.list U s.heap.objs.size a (r.ne0 e) Z.toArray) (λi h st=>⟨st.1.elim λo z=>(a8 o _ z.1 z.2.1 rfl),st.2.elim λo z=>(yE o z.1)⟩) ⟨ck _ (ZL _ rfl) rfl rfl,D.push _⟩ b)
def my(r:Rel c O L J s)(U:A.handled=none)(e:O.F a=some o)(q:Ca "tuple" o Z)(j:Ba c.Aa c.w O.F Z l)(b:BD c A L O s l J Q):
  wpAny (model c.Aa c.w) A (pyIter (.ref a)) Q Bl s:=by
 have D:=q.tuple (r.Av _ _ e);show wpAny_pyIter_tuple D (kG r e j (Walks.tuple U s.heap.objs.size a (r.ne0 e) Z.toArray) (λi h st=>⟨st.1.elim λo z=>(a8 o _ z.1 z.2.1 rfl),st.2.elim λo z=>(yE o z.1)⟩) ⟨ck _ (ZL _ rfl) rfl rfl,D.elim λo z=>(aO o (Zw _ z.1) z.2)⟩ b)
def tA{x:WJ}(r:Rel c O L J s)(m:A.handled=none)(n:BD c A L O s (x.map λy=>.str [y]) J Q):
  wpAny (model c.Aa c.w) A (pyIter (.str ⟨x.toArray⟩ t)) Q Bl s:=by
 show cu r.fresh λw B q=>?_;have l:∀i v,SignAt ⟨x.toArray⟩ i v->∃y,(x.map λy=>FV.str [y])[i]? =some y/\RF c.Aa c.w O.F v y:=λi v h=>by
  show aX h λch u U N=>?_;have U:=U;rw[YH]at U;clear h;subst N;show(aO (.str [ch]) (by rw[Xq,U];rfl) (.str [ch] u (by simp)))
 have go:∀(T:String),["enumerate","zip","dict_itemiterator","dict_reverseitemiterator","odict_iterator","itertools.zip_longest","itertools.pairwise"].contains T=false->(∀a:Wz,a.handled=none->Walks c.Aa c.w a s.heap.objs.size [s.heap.objs.size] [s.heap.objs.size] (⟨x.toArray⟩:Wu).cps.size (SignAt ⟨x.toArray⟩) λi h=>h.IsStrIter s.heap.objs.size T ⟨x.toArray⟩ t i)->
   Q (.ref s.heap.objs.size) {s with heap:=s.heap.push {cls:=.type T,data:=.fields #[.str ⟨x.toArray⟩ t,.int 0 0]}}:=λT j W=>by
  have W:=W A m;rw[show(⟨x.toArray⟩:Wu).cps.size=(x.map λy=>FV.str [y]).length by simp]at W;show n O _ s.heap.objs.size [s.heap.objs.size] [s.heap.objs.size] _ (.push _) (r.push _) ⟨aO _ W l,λi h st b P=>?_,λi h st=>st.elim λo z=>(a8 o _ z.1 z.2.1 j)⟩ ⟨λb P=>?_,λb P=>?_⟩ (λb P=>P) (λb P=>?_) (λZ Z e=>Zw _ e) (ck _ (ZL _ rfl) rfl rfl)
  ·rw[Za P];show aA st λo z Z=>(yE o z)
  ·rw[Za P];show⟨B,q⟩
  ·rw[Za P];show w
  ·rw[Za P];show show s.heap.get? s.heap.objs.size=none from aF (Zq _)
 cases k:(⟨x.toArray⟩:Wu).cps.all (· <128)
 ·show wpAny_pyIter_wide k (go _ rfl λa D=>Walks.strWide D _ _ _)
 ·show wpAny_pyIter_ascii k (go _ rfl λa D=>Walks.strAscii D _ _ _)
def BD.after(r:Rel c O L J s)(b:Rel c y L Z s)(x:Ext false L O s y s)(h:BD c A L O s l Z Q):BD c A L y s l Z Q:=
 λg2 a I e wr St z r2 i u j v D st=>h g2 a I e wr St (x.trans r b z) r2 i u j v D st
def Eh.get?{N:WA}(h:Eh N w F U l):∀ {i:Nat} {k:Wu} {v:Wv},U[i]? =some (k,v)->∃p,l[i]? =some p/\k=CH p.1:=by
 induction l generalizing U with
 |nil=>intro i k v e;obtain rfl:=h.inv;show aw e
 |cons p l Q=>
  intro i k v e;show bA h.inv λa r P Z D=>?_;clear h;subst P;cases i with
  |zero=>cases e;show(aO p rfl rfl)
  |succ i=>show Q D e
def qi(r:Rel c O L J s)(B:A.handled=none)(e:O.F a=some o)(n:a≠sysModules)(q:Di (strKind c.Aa c.w) o U)(j:Eh c.Aa c.w O.F U l)
  (P:(l.all λp=>ble p.1.length 1000)=true) (F:BD c A L O s (l.map λp=>.str p.1) J Q):wpAny (model c.Aa c.w) A (pyIter (.ref a)) Q Bl s:=by
 obtain⟨w,m⟩:=(q.at (r.Av _ _ e)).dictAt;obtain⟨G,H,C⟩:=r.fresh;have W:=Walks.dictKeys (knd:=PySem.strKind c.Aa c.w) B s.heap.objs.size a (r.ne0 e) U w;have u:(l.map λp=>FV.str p.1).length=U.length:=by rw[ZD,j.len]
 rw[←u]at W;show wpAny_pyIter_dict (pI n) m (F O _ s.heap.objs.size [s.heap.objs.size,a] [s.heap.objs.size] _ (.push _) (r.push _) ⟨aO _ W λi v hi=>?_,λi h st b P=>?_,λi h st=>st.1.elim λo z=>(a8 o _ z.1 z.2.1 rfl)⟩ ⟨λb P=>?_,λb P=>?_⟩ (λb P=>?_) (λb P=>?_) (λZ Z e=>Zw _ e) ⟨ck _ (ZL _ rfl) rfl ?_,m.push _⟩)
 ·obtain⟨k,x,E,N⟩:=hi;obtain⟨p,D,rfl⟩:=j.get? E;show(aO (.str p.1) (by rw[Xq,D];rfl) ?_);have I:=ZQ (Zd P p (List.mem_of_getElem? D));cases v with
  |str y t=>
   rw[show y=CH p.1 by simpa[PySem.strKind,PySem.Value.isStrOf] using N];show .str p.1 t (by lia)
  |_=>show a7 N
 ·rcases Zb P with rfl|P
  ·show st.1.elim λo z=>(yE o z.1)
  ·rw[Za P];show st.2.elim λo z=>z.elim λZ z=>(yE o z.1)
 ·rcases Zb P with rfl|P
  ·show⟨H,C⟩
  ·rw[Za P];show r.closed e
 ·rw[Za P];show G
 ·rw[Za P];show .head _
 ·rw[Za P];show show s.heap.get? s.heap.objs.size=none from aF (Zq _)
 ·rw[u];rfl
def ew{N:FV}(r:Rel c O L J s)(U:A.handled=none)(j:RF c.Aa c.w O.F v N)(e:OQ N=some l)(i:BD c A L O s l J Q):wpAny (model c.Aa c.w) A (pyIter v) Q Bl s:=by
 induction N using FV.casesOn with
 |str x=>obtain⟨t,rfl,b⟩:=j.x;obtain rfl:=Zf e;show tA r U i
 |tup l=>obtain⟨a,Z,o,rfl,h,q,rr,b⟩:=j.x;obtain rfl:=Zf e;show my r U h q rr i
 |lst l=>obtain⟨a,Z,o,rfl,h,q,rr,b⟩:=j.x;obtain rfl:=Zf e;show qh r U h q rr i
 |An l=>
  obtain⟨a,o,k,rfl,h,n,q,rr,b⟩:=j.x;have e:(Bool.rec none (some (l.map λp=>FV.str p.1)) (l.all λp=>ble p.1.length 1000):Option Tz)=some _:=e;cases P:(l.all λp=>ble p.1.length 1000)with
  |false=>rw[P]at e;show aw e
  |true=>rw[P]at e;obtain rfl:=Zf e;show qi r U h n q rr P i
 |_=>cases e
def og{p:Tz×St}(r:Rel c O L J s)(b:A.handled=none)(N:RV c.Aa c.w O v x)(h:Io x J=some p)(j:BD c A L O s p.1 p.2 Q):
  wpAny (model c.Aa c.w) A (pyIter v) Q Bl s:=by
 induction x using V.casesOn with
 |c H=>show aA (aZ h) λZ n P=>?_;subst P;show ew r b N n j
 |ob i=>
  show aX N λa ft e k=>?_;subst k;show aA (ax h) λo q U=>?_;have m:=r.ob e q;induction o using AO.casesOn with
  |lst I=>
   clear h;obtain rfl:=Zf U;show bI m λz o M U G D B=>?_;clear m;subst z;show bM (r.freeze e U λC E t=>.lst t G (Ba.mono E.F D) B) λC u w F=>ew u b F rfl (j.after r u w)
  |Av f=>show aA (aZ U) λZ n P=>?_;clear h U;subst P;show ew r b m.2 n j
  |_=>show aw U
 |_=>show aw h
def oV{A:Wz}{x:S}{R:Result->Ww->Prop}{I:WD}{fp wr:List WD}{h:Tz}{E:Nat->WH->Prop}{X:WD->TQ}
  (rm:Ay f.L d A) (hb:SB c g f d x body) (r₀:Rel c O f.L J s) (hp:FW c f.L O s k Q) (hR:∀fl s',Q fl s'->R (.ok fl) s') (it:Qu c A X I fp wr h E) (N:∀b∈wr,b∈fp) (hw:∀b∈wr,s.heap.get? b=none)
  (hasg:∀O J s v y L' (Q':Unit->Ww->Prop),Rel c O f.L J s->RF c.Aa c.w O.F v y->tk y J.L=some L'->(∀s',Ext false f.L O s O s'->Rel c O f.L (Bv J L') s'->Q' () s')->wpAny (model c.Aa c.w) A (assign D f.env v) Q' Bl s):
  ∀(m:Tz) (i:Nat),h.drop i=m->i<=h.length->∀Z U l,Ext f.vl f.L O s Z l->Rel c Z f.L U l->Sub X Z.F->Ef Z f.L fp wr->E i l.heap->Dd (ex g x) tk m U k->codeAny (model c.Aa c.w) A (.forLoop D (.ref I) body [] f.env) R l:=by
 show aA it.W λP W hP=>?_;intro m;induction m with
 |nil=>
  intro i hi hle Z U l M n hF u st r;have hn:i=h.length:=by
   have:=T3 List.length hi;rw[ZM]at this;simp at this;show YK hle (XD this)
  subst hn;show kO (aN n.tk (W.done l _ _ st λh' tk' t ht=>hR _ _ (hp Z U _ .next .AZ (M.turn hw t) (n.turn ht u N t) rfl r)))
 |cons y m ih=>
  intro i hi hle Z U l M n hF u st r;have H:i<h.length:=by
   have:=T3 List.length hi;rw[ZM]at this;simp at this;show Nat.lt_of_sub_eq_succ this
  have hy:h[i]? =some y:=by
   rw[Yh H]at hi;rw[Zy H,(ZI hi).1]
  have j:h.drop (i+1)=m:=by
   rw[Yh H]at hi;show(ZI hi).2
  show kO (aN n.tk (W.item i l _ _ H st λv h' tk' hpv Y t ht=>aA (hP i v hpv) λy' e1 rf=>?_));rw[hy]at e1;obtain rfl:=Zf e1;have r2:=n.turn ht u N t;show adt (it.go _ _ Y) ?_;obtain⟨L',hL',r⟩:=ak r;show hasg Z U _ v y L' _ r2 (RF.mono hF rf) hL' λs3 x3 r3=>hb Z _ s3 A _ _ r3 rm r λq C B a z x₄ G hl r=>?_;have T:=x3.trans r2 r3 x₄;have x14:=((M.turn (tk:=tk') hw t).trans r₀ r2 T).vv;have F:=λr=>by
   show ih (i+1) j H q C B x14 G (λa o e=>T.le.F a o (hF a o e)) (u.ext T N (it.live _ _ Y)) ?_ r;show W.frame (i+1) _ _ Y λb hb o e=>T.keep b o e (λz=>(u.fp b hb).1 z.has) (u.fp b hb).2
  induction z using Fl.casesOn with
  |AZ=>subst hl;show F r
  |cnt=>subst hl;show F r
  |brk=>subst hl;show hR _ _ (hp q C B .next .AZ x14 G rfl r)
  |ret b=>obtain⟨w,rfl,hl⟩:=hl;show hR _ _ (hp q C B (.ret w) (.ret b) x14 G (aO w rfl hl) r)
set_option backward.match.sparseCases false
def eC(Y:Ctx c K p Sy mg mb)(a:Hu f x)(u:p.code x=some n):
  ∀O J s v y U (N:Unit->Ww->Prop),Rel c O f.L J s->RF c.Aa c.w O.F v y->C3 [n] y J.L=some U->(∀j,Ext false f.L O s O j->Rel c O f.L (Bv J U) j->N () j)->wpAny (model c.Aa c.w) A (assign (.Name x pos) f.env v) N Bl s:=by
 intro O J s v y U N r e b h;obtain rfl:=Zf b;show PyProof.Rows.assign_Name (cN Y a u r (dq e) λZ P D=>h Z P D)
def G7(c:Cx)(g:G)(f:Fm)(d:Nat)(l:Nat)(D:WE)(y:List WG):Prop:=
 ∀O J s A k Q v x,Rel c O f.L J s->Ay f.L d A->RV c.Aa c.w O v x->g.loop l [x] J k->FW c f.L O s k Q->
  wpAny (model c.Aa c.w) A (pyIter v) (λz P=>codeAny (model c.Aa c.w) A (.forLoop D z y [] f.env) (λr j=>match r with| .ok f=>Q f j| .error e=>cameBackBy (model c.Aa c.w) A f.env Bl e j) P) Bl s
def mH(h:Eo z=false)(env:Env)(x:Wv):foldedSetIterable z env x=pure x:=by
 obtain⟨⟩:=z<;>first|rfl|cases h
def GG(c:Cx)(f:Fm)(Z:FV->Tw->Option Tw)(D:WE):Prop:=
 ∀(A:Wz) O J s v y U (N:Unit->Ww->Prop),A.handled=none->Rel c O f.L J s->RF c.Aa c.w O.F v y->Z y J.L=some U->(∀j,Ext false f.L O s O j->Rel c O f.L (Bv J U) j->N () j)->wpAny (model c.Aa c.w) A (assign D f.env v) N Bl s
def GG.name(Y:Ctx c K p Sy mg mb)(D:Hu f x)(u:p.code x=some n):GG c f (C3 [n]) (.Name x pos):=λZ O J s v y U N Z=>eC Y D u O J s v y U N
def afe{j:Type}{k:FV->FV->j}{z:j}(h:So l k=some z):∃a b,l=[a,b]/\k a b=z:=by
 induction l using Re with
 |nil=>show aw h
 |cons a t=>show aA (aZ h) λb e q=>?_;show(aU a b (by rw[mo e]) q)
def GG.pair(Y:Ctx c K p Sy mg mb){n m j:Nat}{S T Q:Pos}(R:Hu f x)(hc:p.code x=some n)(t:Hu f z)(u:p.code z=some m):GG c f (C3 [n,m]) (.Tuple [.Name x S,.Name z T] j Q):=by
 intro A O J s v y L' Q' w r rf b V;have b:=b;show aA (ax b) λl e b=>?_;obtain rfl:=xI e;show aX (afe b) λW F P i=>?_;clear b;subst P;clear b;subst i;obtain⟨a,vs,o,rfl,N,⟨q,rfl⟩,D,hb⟩:=rf.x;obtain⟨G,r1,rfl,H,h⟩:=D.inv;obtain⟨v2,r2,rfl,h2,k⟩:=h.inv;clear h D;obtain rfl:=k.inv;show assign_Tuple_tuple w (gF _ (r.Av _ _ N) rfl q rfl) rfl rfl λh' E=>zA (r.more r.tk λx o e=>E x o (Z3 (Yk e)) e) λr2 B=>?_;show Zn (ZY (eC Y R hc O J _ G W _ _ r2 H rfl λZ C U=>?_));show Zn (ZY (eC Y t u O _ Z v2 F _ _ U h2 rfl λX M I=>ZE (V X ((B.trans r r2 C).trans r U M) I)))
def uW(E:Eo it=false)(o:GG c f (C3 ns) D)(R:SE c g f d x it)(hb:SB c g f d b body)
  (B:G7 c g f d lb D body):SS c g f d (.fr lb ns x b) (.For D it body [] pos):=by
 intro O J s A k Q r l H W;show wpAny_For (R O J s A _ _ r l H λZ n F v a C U M m=>?_) (mH E _);have t:=λj z P u w N i T m=>W j z P u w (C.trans r U N) i T m;have m:=m;cases hi:Io a n with
 |none=>replace m:=hi▸m;show B Z n F A k Q v a U l M m t
 |some q=>
  replace m:=hi▸m;show og U l.hd M hi λj P I fp wr St N i Y u V hw G st=>oV l hb U t (λG G h=>h) Y V hw (λO J s v y L' Q'=>o A O J s v y L' Q' l.hd) q.1 0 rfl (ZF _) j q.2 P N.w i (λG G e=>e) u st m
def pR(U: -1000000<=a)(N:a<=1000000)(D: -1000000<=b)(A:b<=1000000):Builtin.Range.small a b 1=true/\Builtin.Range.rangeSize a b 1=((b-a).toNat:Int):=by
 have Q:Builtin.Range.rangeSize a b 1=((b-a).toNat):=by
  unfold Builtin.Range.rangeSize;by_cases h:a<b
  ·rw[Zk h,Int.ediv_one];show(Int.sub_add_cancel _ 1).trans (XY (Int.sub_nonneg_of_le (Int.le_of_lt h))).symm
  ·rw[Zi h];show T3 Int.ofNat (Int.toNat_of_nonpos (Int.sub_nonpos_of_le (Int.not_lt.mp h))).symm
 have u:∀i:Int, -3000000<=i->i<=3000000->Builtin.Range.rangeFitsLong i=true:=λi h l=>by
  rw[Zp,Yu];lia
 show⟨?_,Q⟩;unfold Builtin.Range.small;rw (occs:=.all) [Q,u a (by lia) (XQ N (by ext)),u b (by lia) (XQ A (by ext)),u 1 (Int.neg_ofNat_le_ofNat 3000000 1) (Int.le.intro_sub (3000000-Nat.succ 0) rfl),u ((b-a).toNat) (by show X2 3000000 (b-a).toNat) (by lia)];simp only[u (b+(1-1)) (by lia) (by lia)];simp
def mz(r:Rel c O L J s)(U:A.handled=none)(h:(-1000000<=a/\a<=1000000)/\(-1000000<=b/\b<=1000000))(D:IsRange s.heap y a b 1 t u v)
  (j:BD c A L O s (En a (b-a).toNat) J Q):wpAny (model c.Aa c.w) A (pyIter (.ref y)) Q Bl s:=by
 show cu h λz E m=>?_;obtain⟨q,N⟩:=z;show zA (pR q N E m) λB n=>?_;show cu r.fresh λx C o=>?_;have W:=Walks.range (prog:=c.Aa) (w:=c.w) U s.heap.objs.size a 1 (b-a).toNat;have k:(En a (b-a).toNat).length=(b-a).toNat:=by simp[En]
 rw[←k]at W;have l:∀i,i<(b-a).toNat->(En a (b-a).toNat)[i]? =some (.int (a+i)):=λi hi=>by
  rw[Xq,List.getElem?_range hi];rfl
 show wpAny_pyIter_range D B (j O _ s.heap.objs.size [s.heap.objs.size] [s.heap.objs.size] _ (.push _) (r.push _) ⟨aO _ W.bound λi v h=>(aO _ (l i (by have hi:=h.1;rw[k]at hi;show hi)) ?_),λi h st b P=>?_,λi h st=>(a8 _ _ st rfl rfl)⟩ ⟨λb P=>?_,λb P=>?_⟩ (λb P=>P) (λb P=>?_) (λZ Z e=>Zw _ e) ?_)
 ·obtain⟨_,t,rfl⟩:=h;rw[Int.mul_one];show .int _ t
 ·show(Za P)▸(yE _ st)
 ·show(Za P)▸⟨C,o⟩
 ·show(Za P)▸x
 ·show(Za P)▸(show s.heap.get? s.heap.objs.size=none from aF (Zq _))
 ·rw[n,k];simpa using (show(s.heap.push {cls:=.type "range_iterator",data:=.fields #[rawInt a,rawInt ((b-a).toNat:Int),rawInt 1]}).get? s.heap.objs.size=some {cls:=.type "range_iterator",data:=.fields #[rawInt a,rawInt ((b-a).toNat:Int),rawInt 1]} from ZL _ rfl)
def uV(Y:Ctx c K p Sy mg mb)(hl:Hu f nm)(hc:p.code nm=some n)(hfl:B8 f.cs fn=true)(hg:p.Gw fn=none)(T:p.blt fn=some 3)
  (hx:Row c g f d x args) (hb:SB c g f d b y):SS c g f d (.NV n x b) (.For (.Name nm pos') (.Call (.Name fn pf) args [] pc) y [] pos):=by
 intro O J s A k Q r rm hev hp;show cu (Y.blt fn 3 _ hg T rfl) λhd hm hmb=>?_;have hr:Row c g f d x (args++([]:List WI).map (·.value)):=by simpa using hx
 show wpAny_For (wpAny_Call_Name_kw (XO f.kind (cz hfl) (Calls.loadGlobal_builtin (by rw[f.glob];show Y.T.g.keeps r.bN) hm (by rw[f.blt];show Y.T.b.keeps r.bN) hmb ?_) hd)) (mH rfl _);show PyProof.Rows.callWith_type (a6 pc f.env hr.cZ) (bS Y rfl hr r rm hev λZ q l vs xs M R U V D=>?_);rw[aR];have go:∀(a o:Int) (t u v:Tok) (H:Nat),0<H->((-1000000<=a/\a<=1000000)/\(-1000000<=o/\o<=1000000))->Dd (ex g b) (C3 [n]) (En a (o-a).toNat) q k->
   wpAny (model c.Aa c.w) A (pyIter (.ref l.heap.objs.size)) (λit P=>codeAny (model c.Aa c.w) A (.forLoop (.Name nm pos') it y [] f.env) (λr s'=>match r with| .ok f=>Q f s'| .error e=>cameBackBy (model c.Aa c.w) A f.env Bl e s') P) Bl
    {l with heap:=l.heap.push {cls:=.type "range",data:=.fields #[.int a t,.int o u,.int 1 v]},toks:=H}:=λa o t u v H ht i D=>by
  have r2:=(U.push ({cls:=.type "range",data:=.fields #[.int a t,.int o u,.int 1 v]})).toks ht;have x2:Ext false f.L Z l Z {l with heap:=l.heap.push {cls:=.type "range",data:=.fields #[.int a t,.int o u,.int 1 v]},toks:=H}:=(Ext.push _).trans U (U.push _) (.toks false H);have hp2:=λB C E u w F m W D=>(λj z P u w N G W D=>hp j z P u w (R.trans r U N) G W D) B C E u w (x2.trans U r2 F) m W D;show mz r2 rm.hd i (ZL _ rfl) λj P I fp wr St N m ii u su hw M st=>?_;show oV rm hb r2 hp2 (λM M h=>h) ii su hw (eC Y hl hc) _ 0 rfl (ZF _) j q P N.w m (λM M e=>e) u st D
 rcases rQ V D with ⟨a,t,rfl,i,D⟩|⟨a,t,o,t',rfl,i,D⟩
 ·show call_range_1 (go 0 _ _ _ _ _ (YB _) ⟨⟨by ext,by ext⟩,i⟩ (by rw[Int.sub_zero];show D))
 ·show call_range_2 (go _ _ _ _ _ _ (YB _) i D)
def iQ{N:WA}
  (h:wpAny (model N w) A (pyNext z) (λr l=>match r with
   |none=>R (.ok .next) l
   |some v=>wpAny (model N w) A (assign D env v) (λZ P=>
     wpAny (model N w) A (forIn U true λc r=>if r=true then do let ok←isTrue c env (eval c env);pure (ForInStep.yield ok)else pure (ForInStep.yield r)) (λok j=>
      if ok=true then wpAny (model N w) A (eval elt env) (λx b=>
       wpAny (model N w) A (call (.builtin "list.append") [acc,x]) (λZ Q=>codeAny (model N w) A (.compLoop (.ListComp elt [⟨D,iter,U,0⟩] u pos) 0 z acc env) R Q) Bl b) Bl j
      else codeAny (model N w) A (.compLoop (.ListComp elt [⟨D,iter,U,0⟩] u pos) 0 z acc env) R j) Bl P) Bl l) Bl s)
  (n:∀v,letOwnedTupleGo D z v=pure ()):codeAny (model N w) A (.compLoop (.ListComp elt [⟨D,iter,U,0⟩] u pos) 0 z acc env) R s:=by
 show codeAny_of_tree ?_;show wpAny_noted ?_;rw[compTurn_list _ _ _ _ _ _ _ _ _];show Zn (Yz (Zn (ZT h (λr l y=>?_) λZ Z a=>a.elim)));induction r using Option.casesOn with
 |none=>show ZE y
 |some v=>
  show Zn (X7 (n v) (Zn (ZT y (λZ P m=>Zn (ZT m (λok j e=>?_) λZ Z a=>a.elim)) λZ Z a=>a.elim)));induction ok using Bool.casesOn with
  |false=>show ZE ⟨rfl,e⟩
  |true=>
   show Zn (Zn (ZT e (λx b k=>Zn (ZT k (λZ Q i=>ZE (ZE ⟨rfl,i⟩)) λZ Z a=>a.elim)) λZ Z a=>a.elim))
def Ei(c:Cx)(O:Gh)(L:Loc)(y:Tw)(h:WH):Prop:=∀n v,Sx n y=some v->∃a w,L.D0=some (c.nm n,a)/\h.IsCell a (some w)/\RV c.Aa c.w O w v
def Rel.abh(r:Rel c O L J s)(h:Ei c O L y s.heap):Rel c O L (Bv J y) s:=
 ⟨r.Av,r.obs,r.sep,r.off,r.nL,⟨r.loc.nm.elim λm z=>(aO m z.1 λn v e=>(h n v e).elim λa q=>q.elim λw q=>(aO w (.inl (aO a q.1 q.2.1)) q.2.2)),r.loc.cell,r.loc.up,r.loc.nu⟩,r.new,r.DY,r.CZ,r.base,r.Lb,r.tk⟩
def Rel.uA(r:Rel c O L J s)(e:L.D0=some (n,a)):a∉L.all:=λh=>by
 show bC (r.ups h).2 λo y D U d=>aX (r.loc.cell n a e) λu So Z P=>?_;cases U.symm.trans Z;replace P:=d▸P;cases P
def Ei.step(r:Rel c O L J s)(h:Ei c O L y s.heap)(b:L.own=false)(x:Ext false L O s l j):Ei c l L y j.heap:=λn v e=>by
 show bA (h n v e) λa w U Z D=>(a8 a w U (bF Z (av λo Q=>x.keep a o Q (λq=>q.elim (r.uA U) λq=>by rw[b]at q;show nomatch q.1) λu=>(r.off a u).2.1 (.inr (yE _ U)))) (D.mono x.le))
def Ei.turn(h:Ei c O L y s.heap)(u:Ef O L fp wr)(N:∀b∈wr,b∈fp)(i:∀b o,b∉wr->s.heap.get? b=some o->h'.get? b=some o):Ei c O L y h':=λn v e=>by
 show bA (h n v e) λa w U Z D=>(a8 a w U (bF Z (av λo Q=>i a o (λq=>(u.fp a (N a q)).1 (.inr (yE _ U))) Q)) D)
def Rel.inner(r:Rel c O L J s){tk:Nat}(t:0<tk)(D:∀x o,s.heap.get? x=some o->h'.get? x=some o)(k:s.heap.objs.size<=C.ns)(E:h'.Ns C.ns m)(U:C.up=L.all)(z:∀n a,C.D0=some (n,a)->L.D0=some (n,a)):
  Rel c O C (Bv J []) {s with heap:=h',toks:=tk}:=by
 have Q:=aF k;have has:∀ {y},C.CN y->y=C.ns\/L.CN y:=λ{y} h=>by
  rcases h with h|⟨n,e⟩
  ·rcases Zb h with h|h
   ·show .inl h
   ·show .inr (.inl (U▸h))
  ·show .inr (.inr (yE n (z n y e)))
 have there:∀ {y},C.CN y->(∃o,s.heap.get? y=some o)->L.CN y:=λh ⟨o,e⟩=>(has h).resolve_left λq=>by replace e:=q▸e;replace e:=Q▸e;show aw e
 show⟨λx N e=>D x N (r.Av x N e),λj N B=>?_,r.sep,λx P=>?_,λx P=>?_,⟨aO m E λi i e=>aw e,λn a e=>?_,λu Z=>?_,λZ=>?_⟩,r.new,r.DY,r.CZ,r.base,?_,t⟩
 ·show aX (r.obs j N B) λb l e F=>(aU b l e (F.step (.refl _ _) λx i o A=>D x o A))
 ·show cV (r.off x P) λu v N w=>⟨u,λq=>v (there q (yE N w)),yE N (D x N w)⟩
 ·rcases has P with q|q
  ·show q▸(r.free Q).1
  ·show r.nL x q
 ·show(r.loc.cell n a (z n a e)).elim λu Z=>(yE u (bF Z (av (D a))))
 ·show(r.ups (U▸Z)).2.step (av (D u))
 ·show bC (r.ups (U▸Z)).2 λo i i e i=>aw (Q.symm.trans e)
 ·show zE r.dT λo e=>Zh r.Lb (Zh (Yo (Yk e)) k)
def Rel.outer(r:Rel c O L J s)(N:s.heap.get? C.ns=none)(U:C.up=L.all)(n:C.own=false)(x:Ext false C O s l j)(a:Rel c l C Z j):
  Rel c l L (Bv Z J.L) j/\Ext false L O s l j:=by
 have b:∀ {y},L.CN y->¬AD O y:=λh i=>(r.off _ i).2.1 h;have A:∀ {y},C.Wr y->s.heap.get? y≠none->y∈L.all:=λ{y} h e=>by
  rcases h with h|h
  ·rcases Zb h with h|h
   ·show(e (h▸N)).elim
   ·show U▸h
  ·rw[n]at h;show nomatch h.1
 show⟨⟨a.Av,a.obs,a.sep,λy P=>?_,λy P=>?_,r.loc.step x.le λy P=>?_,a.new,a.DY,a.CZ,a.base,r.Lb,a.tk⟩,
  ⟨x.le,λy o e D m=>x.keep y o e (λq=>D (.inl (A q (by rw[e];show λz=>aw z.symm)))) m,λy P=>x.EN y (U▸ .tail _ P),x.fp,x.fF,x.gens,x.os,x.drawn⟩⟩
 ·show cu (a.off y P) λu t w=>⟨u,λq=>?_,w⟩
  rcases x.fp y P with k|k
  ·show b q k
  ·show zE (r.there q) λo e=>?_;rw[k]at e;show aw e
 ·cases q:l.F y with
  |none=>rfl
  |some o=>
   rcases x.fF y o q with k|k|k
   ·rw[r.nL y P]at k;show aw k
   ·show(b P k).elim
   ·show zE (r.there P) λo e=>?_;rw[k]at e;show aw e
 ·by_cases q:y∈L.all
  ·show x.EN y (U▸q)
  ·show av λo e=>x.keep y o e (λz=>q (A z (by rw[e];show λz=>aw z.symm))) (b P)
end
section
variable {c:Cx}{g:G}{K:Frag}{p:CP}{Sy:TP}{mg mb:Wu->TM}{d:Nat}
def Gd(c:Cx)(g:G)(f:Fm)(d:Nat)(x:X)(U:List WE):Prop:=
 ∀O J s A (k:Bool->TF) (Q:Bool->Ww->Prop),Rel c O f.L J s->Ay f.L d A->BI g x J (λv J=>Ab (Am J.H v) λt=>k t J)->
  (∀l Z j b,Ext false f.L O s l j->Rel c l f.L Z j->k b Z->Q b j)->
  wpAny (model c.Aa c.w) A (forIn U true λc r=>if r=true then do let ok←isTrue c f.env (eval c f.env);pure (ForInStep.yield ok)else pure (ForInStep.yield r)) Q Bl s
def ach:Gd c g f d (.k (.Ae true)) []:=by
 intro O J s A k Q r l N j;show wpAny_tests_nil (j O J s true (.refl _ _ _ _) r N)
def acg(h:ST c g f d x e):Gd c g f d x [e]:=by
 intro O J s A k Q r l N j;show wpAny_tests_one (h O J s A k Q r l N j)
def uz(Y:Ctx c K p Sy mg mb)
(ho:fc.own=false) (rm:Ay fc.L d A) (htest:Gd c g fc d cd ifs) (helt:SE c g fc d e elt) (hl:Fn fc.cs nm=true) (hc:p.code nm=some n) (it:Qu c A F₀ I fp wr O Q) (N:∀b∈wr,b∈fp) (hDfp:D∉fp) (hw:∀b∈D::wr,sB.heap.get? b=none)
  (hR:∀gh' J' s' G accF nD,Ext false fc.L gh₀ sB gh' s'->Rel c gh' fc.L J' s'->s'.heap.get? D=some {cls:=.type "list",data:=.seq G.toArray nD}->Ba c.Aa c.w gh'.F G accF->gh'.F D=none->¬AD gh' D->Ce (.lst accF) J' k->accF.length<=16777216->R (.ok .next) s'):
  ∀(f:Tz) (i:Nat),O.drop i=f->i<=O.length->∀Z U l G j nD,Ext false fc.L gh₀ sB Z l->Rel c Z fc.L U l->Ei c Z fc.L fs l.heap->Sub F₀ Z.F->Ef Z fc.L (D::fp) (D::wr)->Q i l.heap->
   l.heap.get? D=some {cls:=.type "list",data:=.seq G.toArray nD}->Ba c.Aa c.w Z.F G j->j.length<=16777216->I2 n fs (SU g cd) (SU g e) f j U k->
   codeAny (model c.Aa c.w) A (.compLoop (.ListComp elt [⟨.Name nm px,iter,ifs,0⟩] scope pos) 0 (.ref I) (.ref D) fc.env) R l:=by
 show aA it.W λP W hP=>?_;have hsub':∀b∈D::wr,b∈D::fp:=λb m=>by
  rcases Zb m with rfl|m
  ·show .head _
  ·show .tail _ (N b m)
 have L:=λh=>hDfp (N D h);intro f;induction f with
 |nil=>
  intro i hi hle Z U l G j nD x₁ C _ hF u st hD x hlen E;have hn:i=O.length:=by
   have:=T3 List.length hi;rw[ZM]at this;simp at this;show YK hle (XD this)
  clear hi hle;subst hn;show iQ (aN C.tk (W.done l _ _ st λh' tk' w ht=>?_)) λuu=>rfl;show hR Z U _ G j nD (x₁.turn (λb m=>hw b (.tail _ m)) w) (C.turn ht (show Ef Z fc.L fp wr from⟨λb m=>u.fp b (.tail _ m),λb m=>u.wr b (.tail _ m)⟩) N w) (w D _ L hD) x (u.wr D (.head _)) (u.fp D (.head _)).2 E hlen
 |cons y f ih=>
  intro i hi hle Z U l G j nD x₁ C cap hF u st hD x hlen E;have F:i<O.length:=by
   have:=T3 List.length hi;rw[ZM]at this;simp at this;show Nat.lt_of_sub_eq_succ this
  have hy:O[i]? =some y:=by
   replace hi:=(Yh F)▸hi;rw[Zy F,(ZI hi).1]
  have S:O.drop (i+1)=f:=by
   rw[Yh F]at hi;show(ZI hi).2
  have u':Ef Z fc.L fp wr:=⟨λb m=>u.fp b (.tail _ m),λb m=>u.wr b (.tail _ m)⟩
  show iQ (aN C.tk (W.item i l _ _ F st λv h' tk' hpv st' w ht=>?_)) λuu=>rfl;show aA (hP i v hpv) λy' e1 rf=>?_;rw[hy]at e1;obtain rfl:=Zf e1;have r2:=C.turn (tk:=tk') ht u' N w;have M:=cap.turn u' N w;have live:∀b∈D::fp,∃o,h'.get? b=some o:=λb m=>by
   rcases Zb m with rfl|m
   ·show⟨_,w _ _ L hD⟩
   ·show it.live _ _ st' b m
  show PyProof.Rows.assign_Name (cN Y (.inr hl) hc (r2.abh M) (dq (RF.mono hF rf)) λs3 x3 r3=>?_);have x03:=Ext.trans' r2 (x₁.turn (tk:=tk') (λb m=>hw b (.tail _ m)) w) x3;have E:SU g cd (Bv U (put n (.c y) fs)) (one λc s=>Ab (Am s.H c) λt=>S7 t (SU g e s (one λee s=>Ab (Av s.H ee) λr=>Hr (j.length+1) (I2 n fs (SU g cd) (SU g e) f (j++[r.1]) (As s r.2) k))) (I2 n fs (SU g cd) (SU g e) f j s k)):=E;show htest Z _ s3 A (λt s=>S7 t (SU g e s (one λee s=>Ab (Av s.H ee) λr=>Hr (j.length+1) (I2 n fs (SU g cd) (SU g e) f (j++[r.1]) (As s r.2) k))) (I2 n fs (SU g cd) (SU g e) f j s k)) _ r3 rm E λgh₄ J₄ s₄ t x4 r4 E=>?_;have T:=Ext.trans' r3 x3 x4;have x04:=Ext.trans' r3 x03 x4;have E:=mX E;have B:∀ {ghz:Gh} {sz:Ww},Ext false fc.L Z {l with heap:=h',toks:=tk'} ghz sz->Ef ghz fc.L (D::fp) (D::wr)/\Q (i+1) sz.heap/\sz.heap.get? D=some {cls:=.type "list",data:=.seq G.toArray nD}:=λ{ghz sz} xz=>
   ⟨u.ext xz hsub' live,W.frame (i+1) _ _ st' λb m o eo=>xz.keep b o eo (λz=>(u.fp b (.tail _ m)).1 z.has) (u.fp b (.tail _ m)).2,xz.keep D _ (w _ _ L hD) (λz=>(u.fp D (.head _)).1 z.has) (u.fp D (.head _)).2⟩
  induction t using Bool.casesOn with
  |false=>
   simp only[Bool.false_eq_true,if_false]at E⊢;show cu (B T) λu4 st4 hD4=>ih (i+1) S F gh₄ J₄ s₄ G j nD x04 r4 (M.step r2 ho T) (λa o e=>T.le.F a o (hF a o e)) u4 st4 hD4 (Ba.mono T.le.F x) hlen E
  |true=>
   simp only[if_true]at E⊢;show helt gh₄ J₄ s₄ A _ _ r4 rm E λgh₅ J₅ H SU ex x5 r5 hv E=>?_;obtain⟨q,hf,hfit,E⟩:=ak E;show bM (eI r5 hv hf) λSN x6 r6 rf6=>?_;have x36:=Ext.trans' r5 (Ext.trans' r4 T x5) x6;have x06:=Ext.trans' r5 (Ext.trans' r4 x04 x5) x6;show cu (B x36) λu6 st6 hD6=>wpAny_list_append_plain (items:=G.toArray) ⟨nD,hD6⟩ (λh7 hl7 hs7=>?_) (by have:=x.len;(show ZP▸ ?_;rw[YE]);lia);show zE hl7 λn7 hD7=>?_;have hk7:∀b o,b∉[D]->H.heap.get? b=some o->h7.get? b=some o:=λb o m eo=>(hs7.2 b λz=>m (by show z▸ ?_;show .head _)).trans eo;have uD:Ef SN fc.L [D] [D]:=⟨λb m=>by show(Za m)▸ ?_;show u6.fp D (.head _),λb m=>by show(Za m)▸ ?_;show u6.wr D (.head _)⟩
   show ih (i+1) S F SN _ _ (G++[SU]) (j++[q.1]) n7 (x06.turn (tk:=H.toks) (wr:=[D]) (λb m=>by show(Za m)▸ ?_;show hw D (.head _)) hk7) (r6.turn (tk:=H.toks) r6.tk uD (λuu h=>h) hk7) ((M.step r2 ho x36).turn uD (λuu h=>h) hk7) (λa o e=>x36.le.F a o (hF a o e)) u6 (W.frame (i+1) _ _ st6 λb m o eo=>hk7 b o (λz=>hDfp (by show(Za z)▸ ?_;show m)) eo) (by rw[hD7];simp) (Ba.append (.cons rf6 .nil) (Ba.mono x36.le.F x)) (by rw[Zg];show hfit) E
variable {f:Fm}
structure BF (sc cs:Scope):Prop where
 kind:cs.kind=.function
 free:∀x∈cs.names,x.2=.free->sc.kind=.function/\sc.names.lookup x.1=some .cell
 cell:∀x∈cs.names,x.2≠ .cell
 names:∀x∈cs.names,cs.names.lookup x.1=some x.2
def jP(h:G0 O cs=true):BF O cs:=by
 unfold G0 at h;rw[Zp]at h;have N:=Zd h.2;show⟨by simpa using h.1,λx P q=>?_,λx P=>?_,λx P=>?_⟩<;>
 ·have:=N x P;simp only[Zp,Yq,bne_iff_ne,Yw]at this
  first|show this.1.1.resolve_left (λz=>z q)|show this.1.2|show this.2
def mu{P:Wu->NameKind->Bool}:∀ {l:List (Wu×NameKind)},(l.map λ(n,k)=>if P n k=true then(n,.cell)else(n,k)).lookup x=(l.lookup x).map λk=>if P x k=true then .cell else k:=by
 intro l;induction l with
 |nil=>rfl
 |cons p l Q=>
  obtain⟨n,k⟩:=p;rw[Ye];by_cases q:x=n
  ·subst q;change List.lookup x ((if P x k=true then(x,NameKind.cell)else(x,k))::_)=_;by_cases h:P x k=true
   ·rw[Zk h,XE,XE];change _=some (if P x k=true then _ else _);rw[Zk h]
   ·rw[Zi h,XE,XE];change _=some (if P x k=true then _ else _);rw[Zi h]
  ·have e:=beq_eq_false_iff_ne.mpr q;change List.lookup x ((if P n k=true then(n,NameKind.cell)else(n,k))::_)=_;rw[Xg (as:=l),e, ←Q];by_cases h:P n k=true
   ·rw[Zk h,Xg,e]
   ·rw[Zi h,Xg,e]
def FT(env:Env):List (Wu×NameKind)->List (Wu×WD)->List (Wu×WD)
 | [],acc=>acc
 |x::r,acc=>FT env r (if(x.2== .free)=true then(x.1,(env.cells.lookup x.1).getD 0)::acc else acc)
def mS(h:∀x∈s.names,x.2=.free->(env.cells.lookup x.1).isSome=true):closureFor s env=pure (FT env s.names []):=by
 have go:∀(f:Wu×NameKind->List (Wu×WD)->Sem (ForInStep (List (Wu×WD)))),(∀n k r,f (n,k) r=if(k== .free)=true then cellOf env n>>=λa=>pure (.yield ((n,a)::r))else pure (.yield r))->
   ∀(l:List (Wu×NameKind)) (j:List (Wu×WD)),(∀x∈l,x.2=.free->(env.cells.lookup x.1).isSome=true)->forIn l j f=pure (FT env l j):=by
  intro f u l;induction l with
  |nil=>intro j _;rfl
  |cons x r b=>
   intro j h;rw[List.forIn_cons,u x.1 x.2];unfold FT;by_cases q:(x.2==NameKind.free)=true
   ·rw[Zk q,Zk q];show zE (Option.isSome_iff_exists.mp (h x (.head _) (eq_of_beq q))) λa Q=>?_;have e:cellOf env x.1=pure a:=by unfold cellOf;rw[Q]
    rw[e,Q];show b _ λy P=>h y (.tail _ P)
   ·rw[Zi q,Zi q];show b _ λy P=>h y (.tail _ P)
 change(forIn s.names [] _>>=λs=>pure s:Sem _)=_;rw[go _ (λZ Z Z=>rfl) s.names [] h];rfl
def abf(b:env.cells.lookup z=some a):∀ {l:List (Wu×NameKind)} {j:List (Wu×WD)},(∀x∈l,x.2=.free->x.1=z)->(j.lookup z=some a\/∃x∈l,x.2=.free)->(FT env l j).lookup z=some a:=by
 intro l;induction l with
 |nil=>intro j _ h;show h.resolve_right λ⟨_,h,_⟩=>nomatch h
 |cons x r Q=>
  intro j U N;show Q (λy P=>U y (.tail _ P)) ?_;by_cases q:(x.2==NameKind.free)=true
  ·rw[Zk q,U x (.head _) (eq_of_beq q),b,XE];show .inl rfl
  ·rw[Zi q];rcases N with N|⟨y,P,e⟩
   ·show .inl N
   ·rcases Zb P with rfl|P
    ·replace q:=e▸q;show(q rfl).elim
    ·show .inr (aO y P e)
def HV(cs:Scope):Bool:=cs.names.any λx=>x.2== .free
def BF.cap(H:BF f.cs cs)(P:x∈cs.names)(e:x.2=.free):∃a,f.D0=some (x.1,a)/\f.env.cells.lookup x.1=some a:=f.L7 _ (H.free x P e).2
def BF.rel{f:Fm}(H:BF f.cs cs)(x:Wu):(relabel cs f.env).names.lookup x=some .cell↔(x,NameKind.free)∈cs.names:=by
 rw[mu (P:=λn k=>k== .free&&f.env.scope.kind== .function&&f.env.kindOf n==some .cell)];constructor
 ·intro h;show aA (Option.map_eq_some_iff.mp h) λk e h=>?_;have O:=mem_of_lookup e;by_cases q:(k==NameKind.free&&f.env.scope.kind== .function&&f.env.kindOf x==some .cell)=true
  ·rw[Zp,Zp]at q;show(eq_of_beq q.1.1)▸O
  ·rw[Zi q]at h;show(H.cell _ O h).elim
 ·intro O;rw[H.names _ O];show zA (H.free _ O rfl) λU N=>?_;change some (if _ then _ else _)=_;rw[Zk];rw[Zp,Zp];show⟨⟨rfl,beq_iff_eq.mpr U⟩,beq_iff_eq.mpr N⟩
def JB(f:Fm)(cs:Scope)(H:BF f.cs cs)(C:WD):Fm where
 env:= {newEnv cs C f.env.globals (FT f.env cs.names []) f.env.qual none .none (some f.env) builtinsNs with scope:=relabel cs f.env}
 kind:=H.kind
 glob:=f.glob
 blt:=f.blt
 D0:=if HV cs=true then f.D0 else none
 L7:=λx h=>by
  have O:=(H.rel x).mp h;obtain⟨a,U,Z⟩:=H.cap O rfl;show⟨a,(Zk (show HV cs=true from Wm.mpr ⟨_,O,rfl⟩)).trans U,?_⟩;show abf Z (λy P q=>?_) (.inr ⟨_,O,rfl⟩);obtain⟨b,D,_⟩:=H.cap P q;show T3 (λq:Wu×WD=>q.1) (Zf (D.symm.trans U))
 N7:=λx a h=>by
  by_cases q:HV cs=true
  ·rw[Zk q]at h;obtain⟨y,P,e⟩:=Wm.mp q;have e:=eq_of_beq e;obtain⟨b,D,_⟩:=H.cap P e;obtain⟨n,k⟩:=y;obtain rfl:n=x:=T3 Prod.fst (Zf (D.symm.trans h));obtain rfl:k=.free:=e;show(H.rel _).mpr P
  ·rw[Zi q]at h;show aw h
 own:=false
 up:=f.L.all
 vl:=f.vl
 tp:=f.tp
def oX(h:(JB f cs H C).L.CN y):y=C\/f.L.CN y:=by
 rcases h with h|⟨n,e⟩
 ·show(Zb h).imp_right .inl
 ·have e:(if HV cs=true then f.D0 else none)=some (n,y):=e;split at e
  ·show .inr (.inr ⟨n,e⟩)
  ·show aw e
def xx(Y:Ctx c K p Sy mg mb):∀ {y:WJ},Kf p cs=some y->∀n∈y,(c.nm n,NameKind.free)∈cs.names:=by
 unfold Kf;generalize cs.names=l;induction l with
 |nil=>intro y h n j;obtain rfl:=Zf h;cases j
 |cons x r Q=>
  intro y h n j;have h:(if(x.2==NameKind.free)=true then Af (p.code x.1) λi=>BK (List.rec (motive:=λZ=>TK) (some []) (λx Z Q=>if(x.2==NameKind.free)=true then Af (p.code x.1) λi=>BK Q λl=>i::l else Q) r) λl=>i::l else _)=some y:=h;by_cases q:(x.2==NameKind.free)=true
  ·replace h:=(Zk q)▸h;show aA (ax h) λi U h=>?_;show aA (aZ h) λl e P=>?_;clear h;subst P;rcases Zb j with rfl|j
   ·obtain⟨a,b⟩:=x;obtain rfl:b=.free:=eq_of_beq q;rw[(Y.code _ _ U).1];show .head _
   ·show .tail _ (Q e n j)
  ·replace h:=(Zi q)▸h;show .tail _ (Q h n j)
def xy:∀ {y:WJ},Sx n (F8 y N)=some v->n∈y/\Sx n N=some v:=by
 intro y;induction y with
 |nil=>intro h;show aw h
 |cons m r Q=>
  intro h;have h:Sx n (Option.rec (F8 r N) (λv=>(m,v)::F8 r N) (Sx m N):Tw)=some v:=h;cases e:Sx m N with
  |none=>rw[e]at h;show(Q h).imp_left (.tail _)
  |some u=>
   rw[e]at h;have h:=h;rw[aq]at h;by_cases q:n=m
   ·rw[Zk q]at h;clear Q;obtain rfl:=Zf h;show⟨q▸ .head _,q▸e⟩
   ·rw[Zi q]at h;show(Q h).imp_left (.tail _)
def yF(h:Io v J=some q):q.2.L=J.L:=by
 induction v using V.casesOn with
 |c f=>show aA (aZ h) λl Z P=>?_;subst P;rfl
 |ob i=>
  show aA (ax h) λo Z h=>?_;induction o using AO.casesOn with
  |lst l=>obtain rfl:=Zf h;rfl
  |Av f=>show aA (aZ h) λl Z P=>?_;clear h;subst P;rfl
  |_=>show aw h
 |_=>show aw h
def uY(Y:Ctx c K p Sy mg mb)(hset:Eo iter=false)(H:BF f.cs cs)(hl:Fn cs nm=true)(hc:p.code nm=some n)(hfs:Kf p cs=some fs)(hx:SE c g f d x iter)
  (htest:∀C,Gd c g (JB f cs H C) d cd ifs) (helt:∀C,SE c g (JB f cs H C) d e elt):
  SE c g f d (.lcm n fs x cd e) (.ListComp elt [⟨.Name nm px,iter,ifs,0⟩] cs pos):=by
 intro O J s A k Q r rm hev hp;have hkind:=H.kind;rw[eval_ListComp];show wpAny_comprehension_free rfl (mH hset _) (mS λx hx e=>by show aA (H.cap hx e) λa V e2=>?_;rw[e2];rfl) hkind (λx hx hl=>(H.names x hx).trans (by rw[hl])) (hx O J s A _ _ r rm hev λZ J₁ l v a x₁ U hv hk=>?_);obtain⟨q,hi,hk⟩:=ak hk;rw[←yF hi]at hk;show og U rm.hd hv hi λt i I fp wr St₀ E S ii u su hw Dw st=>wpAny_newList ?_ (ZF _);show wpAny_newFunctionEnv H.cell (λV h=>(Yl h).elim) (λh' hN hsb=>?_) hkind;have L:(i.heap.push {cls:=.type "list",data:=.seq #[]}).objs.size=i.heap.objs.size+1:=Heap.size_push ..;have F:i.heap.get? i.heap.objs.size=none:=aF (Zq _);have G:i.heap.get? (i.heap.push {cls:=.type "list",data:=.seq #[]}).objs.size=none:=by rw[L];show aF (YX _)
 have M:=λy e=>c9 (λo ho=>(yE o (Dw y o ho))) e;have k24:∀y o,i.heap.get? y=some o->h'.get? y=some o:=λy o e=>(hsb.2 y λq=>by rw[q,G]at e;show aw e).trans (Zw _ (Zw _ e));have hD4:h'.get? i.heap.objs.size=some {cls:=.type "list",data:=.seq ([]).toArray 0}:=by
  show(hsb.2 _ ?_).trans (Zw _ (ZL _ rfl));show L▸(Z3 (Z4 _))
 have xC:Ext false (JB f cs H (i.heap.push {cls:=.type "list",data:=.seq #[]}).objs.size).L Z l t {i with heap:=h',toks:=i.toks}:=
  ⟨E.le,λy o e V V=>k24 y o (Dw y o e),.of λy V o e=>k24 y o (Dw y o e),E.fp,E.fF,E.gens,E.os,E.drawn⟩
 have T:∀b∈fp,∃o,i.heap.get? b=some o:=ii.live _ _ st;have hDfp:i.heap.objs.size∉fp:=λh=>by show zE (T _ h) λo e=>?_;rw[F]at e;show aw e
 show cu S.fresh λf1 f2 f3=>?_;have uC:Ef t (JB f cs H (i.heap.push {cls:=.type "list",data:=.seq #[]}).objs.size).L (i.heap.objs.size::fp) (i.heap.objs.size::wr):=by
  show⟨λb B=>?_,λb B=>?_⟩
  ·rcases Zb B with rfl|B
   ·show⟨λz=>(oX z).elim (λz=>by rw[L]at z;show Z3 (Z4 _) z) f2,f3⟩
   ·show⟨λq=>?_,(u.fp b B).2⟩;show zE (T b B) λo e=>?_;rcases oX q with q|q
    ·rw[q,G]at e;show aw e
    ·show(u.fp b B).1 q
  ·rcases Zb B with rfl|B
   ·show f1
   ·show u.wr b B
 have st4:St₀ 0 h':=by
  show aA ii.W λP W V=>W.frame 0 _ _ st λb B o e=>k24 b o e
 have cap4:Ei c t (JB f cs H (i.heap.push {cls:=.type "list",data:=.seq #[]}).objs.size).L (F8 fs q.2.L) h':=λn v e=>by
  show zA (xy e) λh1 h2=>?_;have hm:=xx Y hfs n h1;show aA (H.cap hm rfl) λa q1 q2=>aA S.loc.nm λm V z=>aA (z n v h2) λw q3 q4=>(a8 a w ((Zk ((Wm.mpr (aO _ hm rfl):HV cs=true))).trans q1) ?_ q4)
  rcases q3 with ⟨b,q3,q5⟩|⟨q3,_⟩
  ·obtain rfl:a=b:=T3 Prod.snd (Zf (q1.symm.trans q3));show bF q5 (av (k24 a))
  ·show(q3 a q1).elim
 have run:=uz (fc:=JB f cs H (i.heap.push {cls:=.type "list",data:=.seq #[]}).objs.size) (elt:=elt) (iter:=iter) (px:=px) (pos:=pos) (scope:=cs) (sB:=l) (gh₀:=Z) (I:=I) (D:=i.heap.objs.size) (F₀:=t.F) (k:=λv s'=>one k [v] (Bv s' q.2.L)) (fs:=F8 fs q.2.L) Y rfl ⟨⟨rm.hd,rm.fr.elim λes h=>(aO es h.1 λe he=>⟨(h.2 e he).1,(h.2 e he).2.elim λa q=>(aO a (.tail _ q.1) q.2)⟩),rm.Fs,rm.un⟩,rm.top⟩ (htest _) (helt _) (beq_iff_eq.mpr (lookup_relabel_local (cz hl))) hc ii su hDfp
  (λb B=>by
   rcases Zb B with rfl|B
   ·show M _ F
   ·show hw b B)
  (R:=compPost (model c.Aa c.w) A Bl none Q (.ref i.heap.objs.size) (i.heap.push {cls:=.type "list",data:=.seq #[]}).objs.size)
  (λgh' J' s' vs accF nD x' r' hD hacc hDF hDf hnew hlen=>?_) q.1 0 rfl (ZF _) t _ _ [] [] 0 xC (S.inner (h':=h') (C:=(JB f cs H (i.heap.push {cls:=.type "list",data:=.seq #[]}).objs.size).L) (tk:=i.toks) S.tk k24 (show i.heap.objs.size<=(i.heap.push {cls:=.type "list",data:=.seq #[]}).objs.size by rw[L];show YX _) hN rfl λn a e=>by have e:(if HV cs=true then f.D0 else none)=some (n,a):=e;split at e;show e;show aw e) cap4 (λV V e=>e) uC st4 hD4 .nil (ZF _) hk
 ·show aA ii.W λP W V=>codeAny_compStart_list run (W.self 0 _ _ _ st4 run)
 ·show aA r'.loc.nm λm N V=>(aO m N λh6 hs6=>?_)
  have hC1:l.heap.get? (i.heap.push {cls:=.type "list",data:=.seq #[]}).objs.size=none:=M _ G;show zA (U.outer hC1 rfl rfl x' r') λro xo=>?_;have hDC:i.heap.objs.size≠(i.heap.push {cls:=.type "list",data:=.seq #[]}).objs.size:=by rw[L];show Z3 (Z4 _)
  have hk6:∀b o,b∉[(i.heap.push {cls:=.type "list",data:=.seq #[]}).objs.size]->s'.heap.get? b=some o->h6.get? b=some o:=λb o B eo=>(hs6.2 b λz=>B (by show z▸ ?_;show .head _)).trans eo;have uC6:Ef gh' f.L [(i.heap.push {cls:=.type "list",data:=.seq #[]}).objs.size] [(i.heap.push {cls:=.type "list",data:=.seq #[]}).objs.size]:=by
   show⟨λb B=>?_,λb B=>?_⟩
   ·show(Za B)▸⟨(U.free hC1).2.1,λq=>(r'.off _ q).2.1 Loc.cx⟩
   ·show(Za B)▸(r'.nL _ Loc.cx)
  have x6:=xo.turn (tk:=s'.toks) (λb B=>by show(Za B)▸ ?_;show hC1) hk6;have hD6:h6.get? i.heap.objs.size=some {cls:=.type "list",data:=.seq vs.toArray nD}:=hk6 _ _ (λh=>hDC (Za h)) hD;have lea:Le false gh' (gh'.at J'.m (i.heap.objs.size,[i.heap.objs.size])):=⟨λV V e=>e,λj b fb e V=>(yE fb (by
   have:j≠J'.m:=λq=>by rw[q,r'.new J'.m (Zq _)]at e;show aw e
   show(Gh.bc (this)).trans e))⟩
  show cu ((ro.turn (tk:=s'.toks) ro.tk uC6 (λV h=>h) hk6).adopt (h':=h6) (o':=.lst accF) (tk:=s'.toks) ro.tk (yE _ hD6) hDF (show¬f.L.CN i.heap.objs.size from f2) hDf (Heap.SameBut.refl _ _) (yE _ hD6)
   ⟨rfl,bG _ vs hD6 (yE nD rfl) (Ba.mono lea.F hacc) hlen⟩) λr7 l7 k7=>?_
  have x7:Ext false f.L Z l (gh'.at J'.m (i.heap.objs.size,[i.heap.objs.size])) {s' with heap:=h6}:=by
   show⟨x6.le.trans l7,λy o e hl hn=>x6.keep y o e hl hn,x6.EN,λy hy=>?_,λy o e=>x6.fF y o e,x6.gens,x6.os,x6.drawn⟩;rcases hy.at_ with z|⟨j,b,fb,_,e,z⟩
   ·rw[Za z];show .inr (show l.heap.get? i.heap.objs.size=none from M _ F)
   ·show x6.fp y (ay j b fb e z)
  show hp _ _ _ _ (.ob J'.m) (x₁.trans r U x7) r7 (aU i.heap.objs.size [i.heap.objs.size] ?_ rfl) (yF hi▸hnew);change(if J'.m=J'.m then _ else _)=_;rw[Zk rfl]
set_option backward.match.sparseCases true
def Kr(c:Cx)(g:G)(f:Fm)(d:Nat)(D:BoolOp)(x:X)(y:List WE):Prop:=
 ∀O J s A k Q pos,Rel c O f.L J s->Ay f.L d A->BI g x J k->B2 c f.L O s k Q->wpAny (model c.Aa c.w) A (boolOp pos D (evalEach y f.env)) Q Bl s
def Kq(c:Cx)(g:G)(f:Fm)(d:Nat)(D:BoolOp)(x:X)(y:List WE):Prop:=
 ∀O J s A (k:Bool->TF) (Q:Bool->Ww->Prop),Rel c O f.L J s->Ay f.L d A->BI g x J (λv J=>Ab (Am J.H v) λt=>k t J)->
  (∀l Z j b,Ext false f.L O s l j->Rel c l f.L Z j->k b Z->Q b j)->wpAny (model c.Aa c.w) A (allTrue D y f.env) Q Bl s
def pB(h:SE c g f d x e):Kr c g f d D x [e]:=by
 intro O J s A k Q pos r l N j;show h O J s A k Q r l N j
def yf(h:SE c g f d x e)(G:Kr c g f d .And y (e'::es)):Kr c g f d .And (.and x y) (e::e'::es):=by
 intro O J s A k Q pos r l p w;show Zn (h O J s A _ _ r l p λZ a B v z o U t D=>Zn (Yz (Zn (ZY ?_))));obtain⟨b,F,D⟩:=ak D;show dD U t F λC q=>?_;have N:=o.trans r U (.toks false C);induction b using Bool.casesOn with
 |false=>show ZE (w Z a _ _ _ N (U.toks q) t D)
 |true=>show G Z a _ A k Q pos (U.toks q) l D λj m P u y i n E D=>w j m P u y (N.trans r (U.toks q) i) n E D
def abV(h:SE c g f d x e)(G:Kr c g f d .Or y (e'::es)):Kr c g f d .Or (.or x y) (e::e'::es):=by
 intro O J s A k Q pos r l p w;show Zn (h O J s A _ _ r l p λZ a B v z o U t D=>Zn (Yz (Zn (ZY ?_))));obtain⟨b,F,D⟩:=ak D;show dD U t F λC q=>?_;have N:=o.trans r U (.toks false C);induction b using Bool.casesOn with
 |true=>show ZE (w Z a _ _ _ N (U.toks q) t D)
 |false=>show G Z a _ A k Q pos (U.toks q) l D λj m P u y i n E D=>w j m P u y (N.trans r (U.toks q) i) n E D
def y8(h:Kr c g f d D x y):SE c g f d x (.BoolOp D y pos):=by
 intro O J s A k Q r l N j;show h O J s A k Q pos r l N j
def pA(h:ST c g f d x e):Kq c g f d v x [e]:=by
 intro O J s A k Q r i N j;cases v with
 |And=>
  show wpAny_allTrue_And_cons (h O J s A k _ r i N λZ U l b z a D=>?_);induction b using Bool.casesOn with
  |true=>show wpAny_allTrue_And_nil (j Z U l true z a D)
  |false=>show j Z U l false z a D
 |Or=>
  show wpAny_allTrue_Or_cons (h O J s A k _ r i N λZ U l b z a D=>?_);induction b using Bool.casesOn with
  |true=>show j Z U l true z a D
  |false=>show wpAny_allTrue_Or_nil (j Z U l false z a D)
def sg{P:Prop}{k:TR}(b:Bool):(Ab (Am H a) λt=>S7 t (Bool.rec P (Ab (Am H a) λt=>k t) b) (Bool.rec (Ab (Am H a) λt=>k t) P b))=(Ab (Am H a) λt=>S7 t (Bool.rec P (k true) b) (Bool.rec (k false) P b)):=by
 cases h:Am H a with
 |none=>rfl
 |some t=>induction t<;>induction b<;>rfl
def xJ(h:ST c g f d x e)(B:Kq c g f d .And y u):Kq c g f d .And (.and x y) (e::u):=by
 intro O J s A k Q r p N q;have N:BI g x J (λa s=>Ab (Am s.H a) λt=>S7 t (BI g y s λv J=>Ab (Am J.H v) λt=>k t J) (Ab (Am s.H a) λt=>k t s)):=N;have w:(λa s=>Ab (Am s.H a) λt=>S7 t (BI g y s λv J=>Ab (Am J.H v) λt=>k t J) (Ab (Am s.H a) λt=>k t s))=λa s=>Ab (Am s.H a) λt=>S7 t (BI g y s λv J=>Ab (Am J.H v) λt=>k t J) (k false s):=
  funext λa=>funext λs=>sg false
 rw[w]at N;show wpAny_allTrue_And_cons (h O J s A (λt s=>S7 t (BI g y s λv J=>Ab (Am J.H v) λt=>k t J) (k false s)) _ r p N λZ i l b z U o=>?_);induction b using Bool.casesOn with
 |true=>show B Z i l A k Q U p o λj m P b n D o=>q j m P b (z.trans r U n) D o
 |false=>show q Z i l false z U o
def abx(h:ST c g f d x e)(B:Kq c g f d .Or y u):Kq c g f d .Or (.or x y) (e::u):=by
 intro O J s A k Q r p N q;have N:BI g x J (λa s=>Ab (Am s.H a) λt=>S7 t (Ab (Am s.H a) λt=>k t s) (BI g y s λv J=>Ab (Am J.H v) λt=>k t J)):=N;have w:(λa s=>Ab (Am s.H a) λt=>S7 t (Ab (Am s.H a) λt=>k t s) (BI g y s λv J=>Ab (Am J.H v) λt=>k t J))=λa s=>Ab (Am s.H a) λt=>S7 t (k true s) (BI g y s λv J=>Ab (Am J.H v) λt=>k t J):=
  funext λa=>funext λs=>sg true
 rw[w]at N;show wpAny_allTrue_Or_cons (h O J s A (λt s=>S7 t (k true s) (BI g y s λv J=>Ab (Am J.H v) λt=>k t J)) _ r p N λZ i l b z U o=>?_);induction b using Bool.casesOn with
 |true=>show q Z i l true z U o
 |false=>show B Z i l A k Q U p o λj m P b n D o=>q j m P b (z.trans r U n) D o
def y7(h:Kq c g f d D x y):ST c g f d x (.BoolOp D y pos):=by
 intro O J s A k Q r l N j;show wpAny_isTrue_BoolOp (h O J s A k Q r l N j)
def abA(q:ST c g f d t u)(h:ST c g f d x e)(w:ST c g f d y e'):ST c g f d (.Gi t x y) (.IfExp u e e' pos):=by
 intro O J s A k Q r n o p;rw[arm_isTrue_IfExp _ _ _ _ _ _];show Zn (q O J s A (λb J=>S7 b (BI g x J λv J=>Ab (Am J.H v) λt=>k t J) (BI g y J λv J=>Ab (Am J.H v) λt=>k t J)) _ r n o λZ a l b i U m=>?_);induction b using Bool.casesOn with
 |true=>show h Z a l A k Q U n m λj z P b N D m=>p j z P b (i.trans r U N) D m
 |false=>show w Z a l A k Q U n m λj z P b N D m=>p j z P b (i.trans r U N) D m
set_option backward.match.sparseCases false
structure CV (c:Cx) (g:G) (K:Frag) (p:CP) (Sy:TP) (mg mb:Wu->TM) (d:Nat):Prop where
 Y:Ctx c K p Sy mg mb
 YG:FX c K g
 MB:∀n,g.canon n<64
 C:∀fa,AB false c fa d (g.call fa)
 Lz:∀lb,p.gen lb=false->∀v J k,¬g.loop lb v J k
def dF(h:SE c g f d x e)(N:∀whole,isTrue e f.env whole=(do let v←whole;standAt e.pos;holding [v] (truthy v))):SE c g f d x e/\ST c g f d x e:=⟨h,aeC h N⟩
def cf:SE c g f d .bad e/\ST c g f d .bad e:=⟨λZ Z Z Z Z Z Z Z N Z=>N.elim,λZ Z Z Z Z Z Z Z N Z=>N.elim⟩
def CV.nm(S:CV c g K p Sy mg mb d){x:Wu}{i:Nat}(h:p.code x=some i):c.nm i=x:=(S.Y.code x i h).1
theorem CV.C1(S:CV c g K p Sy mg mb d)(y:Nat):AB false c y (d+1) (g.call y):=(S.C y).mono (YX _)
def Qx(c:Cx)(g:G)(p:CP)(d:Nat)(n:Nat):Prop:=∀(f:Fm) e,SE c g f (d+1) (cE p f.cs n e) e/\ST c g f (d+1) (cE p f.cs n e) e
def Rr(c:Cx)(g:G)(p:CP)(d:Nat)(n:Nat):Prop:=∀(f:Fm) o,SO c g f (d+1) (cO p f.cs n o) o
def Rt(c:Cx)(g:G)(p:CP)(d:Nat)(n:Nat):Prop:=∀(f:Fm) y,y.all BU=true->Row c g f (d+1) (cL p f.cs n y) y
def Rw(c:Cx)(g:G)(p:CP)(d:Nat)(n:Nat):Prop:=∀(f:Fm) y,(Kr c g f (d+1) .And (cA p f.cs n y) y/\Kq c g f (d+1) .And (cA p f.cs n y) y)/\(Kr c g f (d+1) .Or (cR p f.cs n y) y/\Kq c g f (d+1) .Or (cR p f.cs n y) y)
def Rv(c:Cx)(g:G)(p:CP)(d:Nat)(n:Nat):Prop:=∀(f:Fm) y Z,SP c g f (d+1) (cD p f.cs n y Z) y Z
def jS:Kr c g f d D .bad y/\Kq c g f d D .bad y:=⟨λZ Z Z Z Z Z Z Z Z N Z=>N.elim,λZ Z Z Z Z Z Z Z N Z=>N.elim⟩
abbrev GF(c:Cx)(g:G)(f:Fm)(d:Nat)(x:X)(e:WE):Prop:=SE c g f d x e/\ST c g f d x e
def pO(h:HD e=some t):∃q,e=.Slice t.1 t.2.1 t.2.2 q:=by
 obtain⟨⟩:=e<;>first|show aw h|(cases h;show⟨_,rfl⟩)
def iz:HD e=none->(match e with| .Slice .. =>false|_=>true)=true:=by
 obtain⟨⟩:=e<;>intro h<;>first|rfl|cases h
set_option tactic.hygienic true in
def ql{e:WE}{i:Int}(h:J8 e=some i):∃k q,e=.Constant (.int i) k q:=by
 obtain⟨⟩:=e<;>first|show aw h|(rename_i c k q;induction c<;>first|show aw h|(cases h;show(j1 k q rfl)))
set_option tactic.hygienic true in
def iw{e:WE}{i:Wu}(h:Iz e=some i):∃k q,e=.Constant (.str i) k q:=by
 obtain⟨⟩:=e<;>first|show aw h|(rename_i c k q;induction c<;>first|show aw h|(cases h;show(j1 k q rfl)))
def qr(h:Ka l=some t):∃q,l=[⟨.Name t.1 q,t.2.1,t.2.2,0⟩]:=by
 induction l using Re with
 |nil=>show aw h
 |cons a r=>
  obtain⟨j,z,s,O⟩:=a;unfold Ka at h;dsimp only at h;split at h
  ·rename_i u;rw[Zp]at u;obtain rfl:=Ze u.1;obtain rfl:O=0:=beq_iff_eq.mp u.2;obtain⟨⟩:=j<;>first|show aw h|(cases h;show⟨_,rfl⟩)
  ·show aw h
def pT(h:JW x O y=some t):x="replace"/\y=[]/\∃A Z k2 D,O=[.Constant (.str t.1) A Z,.Constant (.str t.2) k2 D]:=by
 unfold JW at h;split at h
 ·rename_i u;rw[Zp]at u;show⟨beq_iff_eq.mp u.1,Ze u.2,?_⟩;induction O using Re with
  |nil=>show aw h
  |cons a r=>
   induction r using Re with
   |nil=>show aw h
   |cons b r=>
    dsimp only at h;split at h
    ·rename_i f;obtain rfl:=Ze f;cases Q:Iz a with
     |none=>rw[Q]at h;show aw h
     |some s=>
      cases e:Iz b with
      |none=>rw[Q,e]at h;show aw h
      |some z=>
       rw[Q,e]at h;obtain rfl:=Zf h;show ip (iw Q) λA Z P=>?_;clear Q;subst P;show ip (iw e) λk2 D P=>?_;clear e;subst P;show(bR A Z k2 D rfl)
    ·cases h
 ·show aw h
def df{y:Type}{o:Option y}{k:y->X}(h:∀a,o=some a->GF c g f d (k a) e):GF c g f d (Hk o k) e:=by
 induction o using Option.casesOn with
 |none=>show cf
 |some a=>show h a rfl
def b8(h:b=true->GF c g f d x e):GF c g f d (if b=true then x else .bad) e:=by
 induction b using Bool.casesOn with
 |false=>show cf
 |true=>show h rfl
def ab6(h:GF c g f d x a):GF c g f d (Rc o a x) (.UnaryOp o a q):=by
 cases o with
 |Not=>show⟨abM h.1,abz h.2⟩
 |USub=>
  change GF c g f d (match J8 a with
   |some i=>.k (.int (-i))
   |none=>.neg x) _
  cases e:J8 a with
  |none=>show dF (abO h.1) λZ=>rfl
  |some i=>
   show ip (ql e) λk A P=>?_;clear h e;subst P;show dF yb λZ=>rfl
 |_=>show cf
def sX(h:I6 o=true):o=.LtE:=by induction o<;>first|rfl|show a7 h
def ad1(S:CV c g K p Sy mg mb d)(Q:SE c g f (d+1) A a)(s:∀e,SE c g f (d+1) (E e) e):GF c g f (d+1) (Rh z j A E) (.Compare a z j q):=by
 induction z using Re with
 |nil=>show cf
 |cons o z=>
  induction j using Re with
  |nil=>show cf
  |cons b j=>
   induction z using Re with
   |nil=>
    induction j using Re with
    |nil=>
     change GF c g f (d+1) (if behindInMarks o b then .bad else .cmp (Ga o) A (E b)) _;cases O:behindInMarks o b with
     |true=>show cf
     |false=>show⟨abS (yI S.Y.X S.YG S.C1) Q (s b) O,abB (yI S.Y.X S.YG S.C1) Q (s b) O⟩
    |cons _ _=>show cf
   |cons u z=>
    induction j using Re with
    |nil=>show cf
    |cons U j=>
     show b8 λh=>?_;rw[Zp,Zp,Zp]at h;obtain⟨k,N,D,i⟩:=h;obtain rfl:=sX k;obtain rfl:=sX N;obtain rfl:=Ze D;obtain rfl:=Ze i;show⟨abK Q (s b) (s U),aby Q (s b) (s U)⟩
def acp{j:Option WE->X}(U:SE c g f d z o)(hi:SE c g f d l i)(u:∀e,SO c g f d (j e) e):GF c g f d (Rf (HD i) z l j) (.Subscript o i q):=by
 cases e:HD i with
 |none=>show dF (abI (iz e) U hi) λZ=>rfl
 |some t=>
  obtain⟨lo,A,st⟩:=t;show zE (pO e) λa Q=>?_;clear hi e;subst Q;induction st using Option.casesOn with
  |none=>show dF (abJ U (u lo) (u A)) λZ=>rfl
  |some _=>show cf
def ac9(S:CV c g K p Sy mg mb d){z:List Comprehension}{I E:WE->X}(P:∀e,SE c g f (d+1) (I e) e)(s:∀(b:BF f.cs cs) (C:WD) (e:WE),GF c g (JB f cs b C) (d+1) (E e) e):GF c g f (d+1) (Rg p f.cs cs (Ka z) I E e) (.ListComp e z cs q):=by
 show df λt N=>b8 λh=>df λi u=>df λy v=>?_;rw[Zp,Zp,Z8]at h;have H:=jP h.1;show zE (qr N) λA Q=>?_;clear N;subst Q;obtain⟨x,a,U⟩:=t;induction U using Re with
 |nil=>show dF (uY S.Y h.2.2 H h.2.1 u v (P a) (λC=>ach) λC=>(s _ C e).1) λZ=>rfl
 |cons cd r=>
  show b8 λD=>?_;obtain rfl:=Ze D;show dF (uY S.Y h.2.2 H h.2.1 u v (P a) (λC=>acg (s _ C cd).2) λC=>(s _ C e).1) λZ=>rfl
def yd:SE c g f d (.An .nil) (.Dict [] [] pos):=by
 intro O J s A k Q r l N j;have v:s.heap.objs.size≠sysModules:=by
  show zE r.dT λo b=>?_;show Nat.ne_of_gt (ZJ (ZJ (by ext) c.G4) (Zh r.Lb (Yo (Yk b))))
 show zA (r.alloc (o':=.An []) rfl ⟨rfl,bj emptyDict [] (ZL _ rfl) v (bj (#[]) 0 ⟨rfl,rfl,rfl⟩ rfl (λZ a=>by simp at a) .nil List.nodup_nil) .nil (ZF _)⟩) λD P=>?_;show wpAny_Dict_empty (j _ _ _ (.ref s.heap.objs.size) (.ob J.m) P D (aU s.heap.objs.size [s.heap.objs.size] (by change(if J.m=J.m then _ else _)=_;rw[Zk rfl]) rfl) N)
def adv(S:CV c g K p Sy mg mb d){O:List WE}{L:X}(D:B8 f.cs x=true)(h:Row c g f (d+1) L O):GF c g f (d+1) (Qe p x L) (.Call (.Name x q) O [] A):=by
 unfold Qe;cases Q:p.Gw x with
 |none=>
  show df λi P=>b8 λhi=>dF (aeF S.Y D Q P hi h) λZ=>rfl
 |some v=>
  induction v using V.casesOn with
  |st a=>
   change GF c g f (d+1) (if p.NR a=true then .new a L else .call a L) _;cases p.NR a with
   |true=>show dF (abN S.Y S.YG S.C D Q h) λZ=>rfl
   |false=>show dF (ye S.Y S.YG (S.C1 a) D Q h) λZ=>rfl
  |_=>show cf
def aeb(S:CV c g K p Sy mg mb d){O:List WE}{a:List WI}{q:Pos}(b:∀e,SE c g f (d+1) (E e) e)(v:∀y,y.all BU=true->Row c g f (d+1) (L y) y):GF c g f (d+1) (Ri p f.cs h O a q E L) (.Call h O a q):=by
 cases h with
 |Name x w=>
  show b8 λh=>?_;rw[Zp,Zp]at h;obtain⟨U,N,k⟩:=h;obtain rfl:=Ze U;show adv S N (v O k)
 |Attribute o x s=>
  show b8 λh=>?_;rw[Zp]at h;cases e:JW x O a with
  |some t=>
   obtain⟨rfl,rfl,m,n,k2,r,rfl⟩:=pT e;show b8 λA=>?_;rw[Zp,Yu,Yu]at A;show dF (abL S.Y h.1 h.2 A.1 A.2 (b o)) λZ=>rfl
  |none=>
   show b8 λA=>df λi u=>df λl D=>?_;rw[Zp,Yu]at A;show dF (yc S.Y S.YG zC aau S.C1 h.1 h.2 A.1 (S.nm u) D (b o) (v _ A.2)) λZ=>rfl
 |_=>show cf
def zD(S:CV c g K p Sy mg mb d)(s:Qx c g p d n)(E:Rr c g p d n)(w:Rt c g p d n)(O:Rw c g p d n)(G:Rv c g p d n):Qx c g p d (n+1):=by
 intro f e;cases e with
 |Constant k q V=>show dF uZ λZ=>rfl
 |Name x q=>
  change GF c g f (d+1) (if BH f.cs x=true then Hk (p.code x) .loc else if B8 f.cs x=true then Hk (p.Gw x) .BR else .bad) _;cases D:BH f.cs x with
  |true=>show df λi u=>dF (uX S.Y D u) λZ=>rfl
  |false=>show b8 λQ=>df λv u=>dF (m8 S.Y Q u) λZ=>rfl
 |UnaryOp o a q=>show ab6 (s f a)
 |BoolOp o l q=>
  cases o with
  |And=>show⟨y8 (O f l).1.1,y7 (O f l).1.2⟩
  |Or=>show⟨y8 (O f l).2.1,y7 (O f l).2.2⟩
 |Compare a H M q=>show ad1 S (s f a).1 λe=>(s f e).1
 |BinOp a T b q=>show df λo U=>dF (abT U (s f a).1 (s f b).1 (ab0 U)) λZ=>rfl
 |IfExp t a b q=>show⟨abQ (s f t).2 (s f a).1 (s f b).1,abA (s f t).2 (s f a).2 (s f b).2⟩
 |Attribute o x q=>show b8 λP=>df λi u=>dF (abU S.Y.X S.YG P (S.nm u) (s f o).1) λZ=>rfl
 |Subscript o i q=>show acp (s f o).1 (s f i).1 (E f)
 |Tuple m _ q=>show b8 λh=>dF (abH (w f m h).SL) λZ=>rfl
 |List m q=>show b8 λh=>dF (abP (w f m h).SL) λZ=>rfl
 |Dict y r q=>
  change GF c g f (d+1) (if(y.isEmpty&&r.isEmpty)=true then .An .nil else _) _;cases j:(y.isEmpty&&r.isEmpty)with
  |true=>
   rw[Zp]at j;obtain rfl:=Ze j.1;obtain rfl:=Ze j.2;show dF yd λZ=>rfl
  |false=>
  show b8 λh=>?_;rw[Zp,Zp,Zp,Z8,Yu]at h;show zA h λz A=>?_;obtain⟨⟨B,N⟩,I⟩:=z;show dF (abR B (beq_iff_eq.mp N) (List.isEmpty_eq_false_iff.mp A) I (G f y r)) λZ=>rfl
 |ListComp e L cs q=>show ac9 S (λe=>(s f e).1) λF C e=>s (JB f cs F C) e
 |Call h R y q=>show aeb S (λe=>(s f e).1) (w f)
 |_=>show cf
def bU(S:CV c g K p Sy mg mb d):∀n,Qx c g p d n/\Rr c g p d n/\Rt c g p d n/\Rw c g p d n/\Rv c g p d n:=by
 intro n;induction n with
 |zero=>
  show⟨λZ Z=>cf,λZ Z Z Z Z Z Z Z Z Z N Z=>N.elim,λZ Z h=>.bad h,λZ Z=>⟨jS,jS⟩,λZ Z Z Z Z Z Z Z Z Z Z Z N Z=>N.elim⟩
 |succ n Q=>
  show iq Q λs u i O m=>⟨zD S s u i O m,λf o=>?_,λf b h=>?_,λf b=>?_,λf y a=>?_⟩
  ·induction o using Option.casesOn with
   |none=>show x9
   |some e=>show x8 (s f e).1
  ·induction b using Re with
   |nil=>show .nil
   |cons e r=>
    rw[YR,Zp]at h;show .cons h.1 (s f e).1 (i f r h.2)
  ·induction b using Re with
   |nil=>show⟨jS,jS⟩
   |cons e r=>
    induction r using Re with
    |nil=>show⟨⟨pB (s f e).1,pA (s f e).2⟩,pB (s f e).1,pA (s f e).2⟩
    |cons A r=>show⟨⟨yf (s f e).1 (O f (A::r)).1.1,xJ (s f e).2 (O f (A::r)).1.2⟩,abV (s f e).1 (O f (A::r)).2.1,abx (s f e).2 (O f (A::r)).2.2⟩
  ·have j:∀ {y a},SP c g f (d+1) .bad y a:=λZ Z Z Z Z Z Z Z Z N Z=>N.elim;induction y using Re with
   |nil=>
    induction a using Re with
    |nil=>show abF
    |cons _ _=>show j
   |cons k y=>
    induction a using Re with
    |nil=>show j
    |cons v a=>
     induction k using Option.casesOn with
     |none=>show j
     |some k=>show xZ (s f k).1 (s f v).1 (m f y a)
def Fo(e:WE):Bool:=
 match e with
 | .Attribute .. =>true
 |_=>false
mutual
noncomputable def KI(p:CP):Nat->WG->List WG
 |0,_=>[]
 |n+1,st=>
  match st with
  | .If _ a b _=>Fe p n a++Fe p n b
  | .While _ b _ _=>Fe p n b
  | .For _ _ b _ pos=>if p.gen pos.line then [st]else Fe p n b
  | .Try _ _ _ _ _=>[st]
  | .Assign ts e _=>if ts.all Fo&&Dv e then [st]else []
  |_=>[]
noncomputable def Fe(p:CP):Nat->List WG->List WG
 |0,_=>[]
 |_+1,[]=>[]
 |n+1,s::r=>KI p n s++Fe p n r
end
section
variable {c:Cx}{g:G}{K:Frag}{p:CP}{Sy:TP}{mg mb:Wu->TM}{d:Nat}
def bP{st:WG}:SS c g f d .bad st:=λZ Z Z Z Z Z Z Z N Z=>N.elim
def abt{st:List WG}:SB c g f d .bad st:=λZ Z Z Z Z Z Z Z N Z=>N.elim
def de(j:f.own=true)(h:BH f.cs x=true):Hu f x:=.inl ⟨j,h⟩
def lM(S:CV c g K p Sy mg mb d)(j:f.own=true):∀ {y:List (Option X×Nat)},S0 p f.cs n s=some y->TS c g f (d+1) p y s:=by
 induction s with
 |nil=>intro y h;obtain rfl:=Zf h;show .nil
 |cons e r Q=>
  intro y h;cases e with
  |Name x q=>
   have h:(if BH f.cs x=true then Af (p.code x) λi=>Af (S0 p f.cs n r) λl=>some ((none,i)::l)else none)=some y:=h;cases D:BH f.cs x with
   |false=>replace h:=D▸h;show aw h
   |true=>
    replace h:=D▸h;replace h:=(Zk rfl)▸h;show aA (ax h) λi u U=>aA (ax U) λl a N=>?_;clear h U;obtain rfl:=Zf N;show .nm (de j D) u (Q a)
  |Attribute o x q=>
   show aA (ax h) λi u U=>aA (ax U) λl a N=>?_;clear h U;obtain rfl:=Zf N;show .Bb (S.nm u) ((bU S n).1 f o).1 (Q a)
  |_=>show aw h
def mB(U:Mb D=some o)(N:o<2):MH c d L D o:=by
 induction D<;>cases U<;>first|show yi|show yh|omega
def b5{y:Type}{o:Option y}{k:y->S}{st:WG}(h:∀a,o=some a->SS c g f d (k a) st):SS c g f d (Ij o k) st:=by
 induction o using Option.casesOn with
 |none=>show bP
 |some a=>show h a rfl
def dj{st:WG}(h:b=true->SS c g f d x st):SS c g f d (if b=true then x else .bad) st:=by
 induction b using Bool.casesOn with
 |false=>show bP
 |true=>show h rfl
def fX{st:WG}(h:b=false->SS c g f d x st):SS c g f d (if b=true then .bad else x) st:=by
 induction b using Bool.casesOn with
 |true=>show bP
 |false=>show h rfl
def aev(S:CV c g K p Sy mg mb d)(a:f.own=true)(j:Ci e=false)(hd:Fo t=true->Dv e=true->SS c g f (d+1) (OW p f.cs n t e) (.Assign [t] e q)):SS c g f (d+1) (OW p f.cs n t e) (.Assign [t] e q):=by
 have s:=(bU S n).1;cases t with
 |Name x A=>show dj λD=>b5 λi u=>xX S.Y j (de a D) u (s f e).1
 |Attribute o x A=>
  cases h:Dv e with
  |true=>show hd rfl h
  |false=>
   show b5 λi u=>?_;rw[Zi (by rw[h];decide)];show xY S.Y.X S.YG S.MB j (S.nm u) (s f e).1 (s f o).1
 |Subscript o i A=>show xV j (s f e).1 (s f o).1 (s f i).1
 |Tuple y k A=>show fX λN=>b5 λl D=>xU S.Y S.YG S.MB j N (lM S a D) (s f e).1
 |_=>show bP
def aet(S:CV c g K p Sy mg mb d)(j:f.own=true):SS c g f (d+1) (Rj p f.cs n t D e) (.AugAssign t D e q):=by
 have s:=(bU S n).1;show b5 λo U=>?_;by_cases N:o<2
 ·rw[Zk N];cases t with
  |Name x A=>show dj λa=>b5 λi u=>xR S.Y (de j a) u (mB U N) (s f e).1
  |Attribute b x A=>show b5 λi u=>xS S.Y.X S.YG S.MB (S.nm u) (mB U N) (s f e).1 (s f b).1
  |Subscript b i A=>show fX λQ=>xP (iz (Option.not_isSome_iff_eq_none.mp (by rw[Q];decide))) (mB U N) (s f e).1 (s f b).1 (s f i).1
  |_=>show bP
 ·rw[Zi N];show bP
def iT(h:Kj p s k z=some O):∃x q A,z=.Call (.Name x q) O [] A/\B8 s x=true/\p.blt x=some k/\p.Gw x=none/\O.all BU=true:=by
 cases z with
 |Call U j y q=>
  cases U with
  |Name x A=>
   have h:(if(y.isEmpty&&(B8 s x&&(p.blt x==some k&&((p.Gw x).isNone&&j.all BU))))=true then some j else none)=some O:=h;split at h
   ·rename_i u;obtain rfl:=Zf h;rw[Zp,Zp,Zp,Zp]at u;show iq u λU N D a Q=>?_;clear u h;obtain rfl:=Ze U;show(aM x A q rfl N (beq_iff_eq.mp D) (Xo.mp a) Q)
   ·show aw h
  |_=>show aw h
 |_=>show aw h
def iF(h:LC O e=some x):∃q,e=.Name x q/\BH O x=true:=by
 cases e with
 |Name y q=>
  have h:(if BH O y=true then some y else none)=some x:=h;split at h
  ·rename_i D;obtain rfl:=Zf h;show(aO q rfl D)
  ·show aw h
 |_=>show aw h
def adE(S:CV c g K p Sy mg mb d)(m:f.own=true)(h:p.gen q.line=false)(O:SB c g f (d+1) B b):SS c g f (d+1) (Qf p f.cs n t z q.line B) (.For t z b [] q):=by
 show iq (bU S n) λs Z v Z Z=>?_;have l:∀ {E:Nat} {t:WE} {b:List WG},p.gen E=false->G7 c g f (d+1) E t b:=λh Z Z Z Z Z Z Z Z Z Z Z D Z=>(S.Lz _ h _ _ _ D).elim;cases t with
 |Name x A=>
  show dj λD=>b5 λi u=>?_;cases G:Kj p f.cs 3 z with
  |some F=>
   show aK (iT G) λy q1 q2 o U I L H=>?_;subst o;show uV S.Y (de m D) u U L I (v f F H) O
  |none=>show fX λw=>uW w (.name S.Y (de m D) u) (s f z).1 O (l h)
 |Tuple e k A=>
  induction e using Re with
  |nil=>show bP
  |cons a e=>
   induction e using Re with
   |nil=>show bP
   |cons M e=>
    show dj λN=>b5 λy P=>b5 λx C=>b5 λi u=>b5 λj r=>fX λw=>?_;obtain rfl:=Ze N;show aA (iF P) λq1 Q l1=>?_;clear P;subst Q;show aA (iF C) λq2 Q l2=>?_;clear C;subst Q;show uW w (.pair S.Y (de m l1) u (de m l2) r) (s f z).1 O (l h)
 |_=>show bP
def rz(S:CV c g K p Sy mg mb d)(O:∀(f:Fm),f.own=true->∀l,(∀t∈Fe p n l,∀m,SS c g f (d+1) (cS p f.cs m t) t)->SB c g f (d+1) (cB p f.cs n l) l)(f:Fm)(j:f.own=true)(st:WG)
  (Q:∀t∈KI p (n+1) st,∀m,SS c g f (d+1) (cS p f.cs m t) t):SS c g f (d+1) (cS p f.cs (n+1) st) st:=by
 have s:=(bU S n).1;cases st with
 |Pass q=>show xN
 |Break q=>show abE
 |Continue q=>show xO
 |Return o q=>
  induction o using Option.casesOn with
  |none=>show xM
  |some e=>show abC (s f e).1
 |Expr e q=>show fX λh=>aeE h (s f e).1
 |Assign y e q=>
  induction y using Re with
  |nil=>show bP
  |cons t r=>
   show dj λh=>?_;rw[Zp,Z8]at h;obtain rfl:=Ze h.1;show aev S j h.2 λU w=>?_;show(show cS p f.cs (n+1) (.Assign [t] e q)=OW p f.cs n t e from Zk (by rw[h.2];rfl))▸(Q (.Assign [t] e q) (show _∈(if([t].all Fo&&Dv e)=true then [Stmt.Assign [t] e q]else []) by rw[Zk (by rw[YR,U,w];rfl)];show .head _) (n+1))
 |AugAssign t D e q=>show aet S j
 |If t a b q=>show abD (s f t).2 (O f j a λt N m=>Q t (XM _ N) m) (O f j b λt N m=>Q t (Xl _ N) m)
 |While t b o q=>
  show dj λh=>?_;obtain rfl:=Ze h;show aeD (s f t).2 (O f j b Q)
 |For t k b o q=>
  cases i:p.gen q.line with
  |true=>show Q _ (show _∈(if p.gen q.line=true then [Stmt.For t k b o q]else Fe p n b) by rw[Zk i];show .head _) (n+1)
  |false=>
   show dj λh=>?_;obtain rfl:=Ze h;show adE S j i (O f j b λz N m=>Q z (show z∈(if p.gen q.line=true then _ else Fe p n b) by rw[Zi (by show i▸ ?_;decide)];show N) m)
 |Assert t m q=>
  show dj λh=>?_;obtain rfl:=Xo.mp h;show xT (s f t).2
 |Try a b o u q=>show Q _ (.head _) (n+1)
 |_=>show bP
def cY(S:CV c g K p Sy mg mb d):∀(n:Nat) (f:Fm),f.own=true->∀l,(∀t∈Fe p n l,∀m,SS c g f (d+1) (cS p f.cs m t) t)->SB c g f (d+1) (cB p f.cs n l) l
 |0,f,_,l,_=>abt
 |n+1,f,_,[],_=>abW
 |n+1,f,j,st::r,h=>by
  show yg ?_ (cY S n f j r λt N m=>h t (Xl _ N) m);induction n using Nat.casesOn with
  |zero=>show bP
  |succ k=>show rz S (λf j l u=>cY S k f j l u) f j st (λt N m=>h t (XM _ N) m)
end
end
section
variable {b:Bool}{c:Cx}{O gh':Gh}{L C:Loc}{J J':St}{s s':Ww}
abbrev Fy(i:Nat):Bool:=and (!beq i 32) (!beq i 33)
def sH(h:Fy i=true):i≠32/\i≠33:=by
 show⟨λq=>?_,λq=>?_⟩<;>(subst q;show nomatch h)
def RV.gN{N:WA}(h:Le b g d)(P:b=true->E8 Fy x=true)(r:RV N w g v x):RV N w d v x:=by
 induction x using V.casesOn with
 |c _=>show RF.mono h.F r
 |ob i=>show aX r λa ft e p=>?_;show zE (h.φ i a ft e λq=>sH (P q)) λl A=>(aU a l A p)
 |st _=>show r
 |E9 _ i=>show cH r λq a ft e k p=>?_;show zE (h.φ i a ft p λq=>sH (P q)) λl A=>(b4 q a l e (h.F _ _ k) A)
def B3.nH(x:B3 c g L Lc h)(A:Le b g P)(f:b=true->∀n v,Sx n Lc=some v->E8 Fy v=true)(k:∀y,L.CN y->∀o,h.get? y=some o->∃D,l.get? y=some D/\B4 o D):B3 c P L Lc l:=by
 show aA x.nm λm N i=>⟨aO m (fw N (k _ (.inl (.head _)))) λn v e=>?_,λn a e=>?_,λu Z=>(x.up u Z).step (k u (.inl (.tail _ Z))),x.nu⟩
 ·show aA (i n v e) λw p z=>(aO w (p.imp_left λ⟨a,U,r⟩=>(aO a U (bF r (k a (.inr (yE _ U)))))) (z.gN A λq=>f q n v e))
 ·show(x.cell n a e).elim λu Z=>(yE u (bF Z (k a (.inr (yE n e)))))
structure Ir (c:Cx) (O:Gh) (C:Loc) (n0 i0:Nat) (s:Ww):Prop where
 ns:∃m,s.heap.Ns C.ns m/\∃a ft,O.φ i0=some (a,ft)/\m (c.nm n0)=some (.ref a)
 nF:O.F C.ns=none
 nf:¬AD O C.ns
 G4:c.base.objs.size<=C.ns
structure Above (L C:Loc) (i0:Nat):Prop where
 up:C.up=L.all
 D0:C.D0=none
 no:¬L.CN C.ns
 i0:Fy i0=true
variable {n0 i0:Nat}
def Above.has(B:Above L C i0)(h:C.CN y):y=C.ns\/y∈L.all:=by
 rcases h with h|⟨n,e⟩
 ·rcases Zb h with h|h
  ·show .inl h
  ·show .inr (B.up▸h)
 ·rw[B.D0]at e;show aw e
def Above.wr(B:Above L C i0)(h:L.CN y)(q:C.Wr y):y∈L.all:=(B.has q.has).resolve_left λz=>B.no (z▸h)
def Rel.wake(r:Rel c O L J s)(B:Above L C i0)(f:Ir c O C n0 i0 s):Rel c O C (Bv J [(n0,.ob i0)]) s:=by
 show⟨r.Av,r.obs,r.sep,λx P=>⟨(r.off x P).1,λe=>(B.has e).elim (λe=>f.nf (e▸P)) λe=>(r.off x P).2.1 (.inl e),(r.off x P).2.2⟩,λx P=>(B.has P).elim (λe=>e▸f.nF) λe=>r.nL x (.inl e),⟨?_,λn a e=>(by rw[B.D0]at e;show aw e),λu i=>(r.ups (B.up▸i)).2,λh=>B.no (.inl (B.up▸h))⟩,r.new,r.DY,r.CZ,r.base,f.G4,r.tk⟩;show lG f.ns λm N a ft U Z=>(aO m N λn v e=>?_)
 have e:(if n=n0 then some (V.ob i0)else none)=some v:=by
  rw[←e];rw[aq];rfl
 split at e
 ·rename_i q;obtain rfl:=Zf e;clear f;subst q;show(gE _ (.inr ⟨λz e=>(by rw[B.D0]at e;show aw e),Z⟩) a ft U rfl)
 ·cases e
def Rel.sleep(r:Rel c O L J s)(B:Above L C i0)(f:Ir c O C n0 i0 s)(t:b=true->∀n v,Sx n J.L=some v->E8 Fy v=true)(x:Ext b C O s gh' s')(i:Rel c gh' C J' s')(D:Sx n0 J'.L=some (.ob i0)):Rel c gh' L (Bv J' J.L) s'/\Ir c gh' C n0 i0 s':=by
 have j:∀ {y},L.CN y->¬AD O y:=λh p=>(r.off _ p).2.1 h;show⟨⟨i.Av,i.obs,i.sep,λy P=>?_,λy P=>?_,r.loc.nH x.le t λy P=>?_,i.new,i.DY,i.CZ,i.base,r.Lb,i.tk⟩,⟨?_,i.nL _ Loc.cx,λh=>(i.off C.ns h).2.1 Loc.cx,f.G4⟩⟩
 ·show cu (i.off y P) λu G w=>⟨u,λq=>?_,w⟩
  rcases x.fp y P with k|k
  ·show j q k
  ·show zE (r.there q) λo e=>?_;rw[k]at e;show aw e
 ·cases q:gh'.F y with
  |none=>rfl
  |some o=>
   rcases x.fF y o q with k|k|k
   ·rw[r.nL y P]at k;show aw k
   ·show(j P k).elim
   ·show zE (r.there P) λo e=>?_;rw[k]at e;show aw e
 ·by_cases q:y∈L.all
  ·show x.EN y (B.up▸q)
  ·show av λo e=>x.keep y o e (λz=>q (B.wr P z)) (j P)
 ·show aA i.loc.nm λm N F=>?_;show lG (F n0 _ D) λw E a ft Z U=>?_;subst U;show(gE m N a ft Z (E.elim (λ⟨z,e,_⟩=>(by rw[B.D0]at e;show aw e)) And.right))
def Ir.there(f:Ir c O C n0 i0 s):∃o,s.heap.get? C.ns=some o:=by
 show aA f.ns λm Q Z=>?_;obtain⟨g,_,_,v,_⟩:=Q;show⟨g,v⟩
def Ir.step(f:Ir c O C n0 i0 s)(B:Above L C i0)(x:Ext b L O s gh' s'):Ir c gh' C n0 i0 s':=by
 have z:=f.there;show⟨?_,?_,λh=>?_,f.G4⟩
 ·show lG f.ns λm N a ft U Z=>zE (x.le.φ i0 a ft U λi=>sH B.i0) λl D=>(gE m (fw N (av λo e=>x.keep C.ns o e (show¬L.Wr C.ns from λq=>B.no q.has) f.nf)) a l D Z)
 ·cases q:gh'.F C.ns with
  |none=>rfl
  |some o=>
   rcases x.fF C.ns o q with k|k|k
   ·rw[f.nF]at k;show aw k
   ·show(f.nf k).elim
   ·show zE z λo e=>?_;rw[k]at e;show aw e
 ·rcases x.fp C.ns h with k|k
  ·show f.nf k
  ·show zE z λo e=>?_;rw[k]at e;show aw e
def Ext.over(r:Rel c O L J s)(B:Above L C i0)(E:Ext d L l j O s)(N:j.heap.get? C.ns=none)(x:Ext e C O s gh' s'):Ext (d||e) L l j gh' s':=by
 have A:∀z,s.heap.get? z=none->AD l z\/j.heap.get? z=none:=λz e=>by
  by_cases P:AD l z
  ·show .inl P
  ·show .inr ?_;cases q:j.heap.get? z with
   |none=>rfl
   |some o=>
    by_cases D:L.Wr z
    ·show zE (r.there D.has) λg v=>?_;replace v:=e▸v;show aw v
    ·replace e:=(E.keep z o q D P)▸e;cases e
 show⟨E.le.trans x.le,λz o e D P=>x.keep z o (E.keep z o e D P) (λq=>?_) λu=>?_,λy f=>?_,λz P=>?_,λz o P=>?_,E.gens.trans x.gens,x.os.trans E.os,x.drawn.trans E.drawn⟩
 ·rcases B.has q.has with q|q
  ·replace e:=q▸e;replace e:=N▸e;show aw e
  ·show D (.inl q)
 ·rcases E.fp z u with h|h
  ·show P h
  ·replace h:=e▸h;cases h
 ·intro o e;show aA (E.EN y f o e) λSp U q1=>aA (x.EN y (B.up▸ .tail _ f) Sp U) λSo Z q2=>?_;show zE q1 λi Q=>?_;clear U q1;subst Q;show zE q2 λa Q=>?_;clear q2;subst Q;show(j2 _ Z a rfl)
 ·rcases x.fp z P with h|h
  ·show E.fp z h
  ·show A z h
 ·rcases x.fF z o P with h|h|h
  ·show E.fF z o h
  ·show .inr (E.fp z h)
  ·show .inr (A z h)
def Rel.setGen(r:Rel c O L J s)(i:Nat)(q:GenState):Rel c O L J (s.setGen i q):=⟨r.Av,r.obs,r.sep,r.off,r.nL,r.loc,r.new,r.DY,r.CZ,r.base,r.Lb,r.tk⟩
def Ir.setGen(f:Ir c O C n0 i0 s)(i:Nat)(q:GenState):Ir c O C n0 i0 (s.setGen i q):=⟨f.ns,f.nF,f.nf,f.G4⟩
end
section
variable {c:Cx}{g:G}{K:Frag}{p:CP}{Sy:TP}{mg mb:Wu->TM}{f:Fm}{d:Nat}{O:Gh}{L:Loc}{J:St}{s:Ww}
def Rel.yo(r:Rel c O L J s){ft:List WD}(hi:O.φ i=some (a,ft))(U:RO c.Aa c.w c.nm O s.heap a ft o):∃l,Ext false L O s l s/\Rel c l L (As J (put i o J.H)) s:=by
 have A:Le false O (O.at i (a,ft)):=⟨λZ Z e=>e,λj b k e Z=>by
  by_cases q:j=i
  ·subst q;replace e:=hi▸e;cases e;show(yE ft Gh.bf)
  ·show(yE k ((Gh.bc q).trans e))⟩
 show zA (r.change r.tk hi (λx o Z e Z=>e) (λx P=>.inl P) (λx P=>(r.off x (ay i a ft hi P)).2.2) r.loc (U.step A λZ Z Z e=>e)) λD h=>(aO _ h D)
def aeG{N:WA}{P:TU}:∀ {d:Tw} {y:List WC} {A:V},RI N w nm O y d->Sx n d=some A->(∀v,RV N w O v A->RV N w O v u)->RI N w nm O y (put n u d):=by
 intro d;induction d with
 |nil=>intro y A _ h;show aw h
 |cons q d Q=>
  intro y A h e Z;rw[aq]at e;obtain⟨m,v⟩:=q;cases h with
  |cons U a D=>
   change RI N w nm O _ (Bool.rec ((m,v)::put n u d) ((n,u)::d) (beq n m):Tw);by_cases k:n=m
   ·rw[Zk k]at e;obtain rfl:=Zf e;rw[k,bW];show .cons U (Z _ a) D
   ·rw[Zi k]at e;rw[bX k];show .cons U a (Q D e Z)
def Rel.aba(r:Rel c O L J s)(C:(J.L.all λq=>E8 DW q.2)=true)(t:((DK 32 J.H).all λq=>Hm DW q.2)=true):Rel c (O.Sz DW) L (As J (DK 32 J.H)) s/\Ext true L O s (O.Sz DW) s:=by
 have D:∀x,AD (O.Sz DW) x->AD O x:=λx ⟨i,a,ft,e,h⟩=>(ay i a ft (eK e).2 h)
 have y:∀ {i:Nat},i≠32->DW i=true:=λh=>by change(!beq _ 32)=true;rw[bX h];rfl
 show⟨⟨r.Av,λi o e=>?_,λi j a ft b l e A=>r.sep i j a ft b l (eK e).2 (eK A).2,λx P=>r.off x (D x P),r.nL,⟨?_,r.loc.cell,r.loc.up,r.loc.nu⟩,λi hi=>?_,r.DY,λi p e k=>?_,r.base,r.Lb,r.tk⟩,
  ⟨⟨λZ Z e=>e,λi a ft e n=>(yE ft (iL (y (n rfl).1) e))⟩,λZ Z e Z Z=>e,.refl _ _,λx P=>.inl (D x P),λZ Z e=>.inl e,GK.refl _,rfl,rfl⟩⟩
 ·have u:=e;have e:Sx i (DK 32 J.H)=some o:=e;rw[dN]at e;by_cases q:i=32
  ·rw[Zk q]at e;show aw e
  ·rw[Zi q]at e;show aX (r.obs i o e) λa ft U Q=>(aU a ft (iL (y q) U) (y9 Q (uR t u)))
 ·show aA r.loc.nm λm N B=>(aO m N λn v e=>aA (B n v e) λw U E=>(aO w U (iV E (Zd C _ (jj e)))))
 ·cases q:(O.Sz DW).φ i with
  |none=>rfl
  |some p=>have:=r.new i hi;rw[(eK q).2]at this;show aw this.symm
 ·show zA (eK e) λh e=>?_;rw[dN,Zi λq=>by subst q;show nomatch h];show r.CZ i p e k
def aez{f:FV}(h:Af o Ro=some f):o=some (.Av f):=by
 show aA (ax h) λo Q h=>?_;subst Q;induction o using AO.casesOn with
 |Av g=>show T3 (λx=>some (AO.Av x)) (Zf h)
 |_=>show aw h
def aeA(h:Af o Rp=some l):o=some (.An l):=by
 show aA (ax h) λo Q h=>?_;subst Q;induction o using AO.casesOn with
 |An g=>show T3 (λx=>some (AO.An x)) (Zf h)
 |_=>show aw h
def si{y:Wv}{k:TF}(r:Rel c O L J s)(E:RV c.Aa c.w O y (.ob i))(N:RV c.Aa c.w O v x)(h:KQ i n x J k):
  ∃l Z,Ext true L O s l s/\Rel c l L Z s/\RV c.Aa c.w l y (.ob i)/\RV c.Aa c.w l v x/\k Z:=by
 obtain⟨q,U,h⟩:=ak h;obtain⟨S,X,h⟩:=ak h;have U:=uU U;have h:=h;cases t:E8 DW S with
 |true=>replace h:=t▸h;show(bj O J (.refl _ _ _ _) r E N h)
 |false=>
  replace h:=t▸h;obtain⟨j,I,y1⟩:=ak h;clear h;obtain rfl:=lC I;obtain⟨f,w,M⟩:=ak y1;replace w:=aez w;show zA (qJ M) λB y3=>zA (ar B) λB F=>zA (ar F) λF h3=>?_;obtain rfl:j=32:=Y0 λq=>by
   have t:(!beq j 32)=false:=t;replace t:=(bX q)▸t;show nomatch t
  show aX E λa ft e z=>?_;clear E;subst z;show aX (r.obs 32 _ w) λa' Y A u=>?_;show aK (r.ob e U) λdx H m T z2 z3 W R=>?_;have ni:i≠32:=λq=>by replace U:=q▸U;replace U:=w▸U;show aw (T3 HZ U)
  show aA (r.yo (o:=.inst q.1 (put n (.c f) q.2)) e (aM dx H m T z2 z3 W (aeG (P:=DW) R X λv N=>by
   show aX N λb fb e5 z=>?_;clear N;subst z;replace A:=e5.symm.trans A;cases A;show u.2))) λg1 C D=>?_
  show zA (D.aba F h3) λr2 G=>zE (C.le.f e) λQ e6=>(bj _ _ (C.trans r D G) r2 (aU a Q (iL (by change(!beq i 32)=true;rw[bX ni];rfl) e6) rfl) (iV (N.mono C.le) B) y3)
def aeI{N:WA}(h:Eh N w O.F U l):RD N w O U (l.map λp=>(p.1,V.c p.2)):=by
 induction l generalizing U with
 |nil=>cases h;show .nil
 |cons q l Q=>cases h with|cons b a=>show .cons b (Q a)
def vQ{x:V}(r:Rel c O L J s)(N:RV c.Aa c.w O v x)(h:NT x J k):∃b n,Ext false L O s b s/\Rel c b L n s/\k n:=by
 obtain⟨j,T,I⟩:=ak h;obtain rfl:=lC T;obtain⟨i,Z,E⟩:=ak I;replace Z:=aeA Z;obtain⟨q,t,X⟩:=ak E;show aX N λa ft e z=>?_;clear N;subst z;show bQ (r.ob e Z) λM o U G S W B R=>bO (oi r B t) λg1 P D Q m=>?_;have m:Sx j q.2=some (.An i):=by
  cases w:G1 i with
  |none=>show m j i Z w
  |some l=>rw[kN w t];show Z
 show bA (D.obs j _ m) λY F u y uu=>zE (P.le.f e) λH A=>?_;replace u:=A▸u;cases u;subst y;show aA (D.yo (o:=.An (q.1.map λp=>(p.1,.c p.2))) A ⟨rfl,bj o U G S W (aeI Q) (by rw[ZD, ←Q.len,B.len];show R)⟩) λg2 C r2=>?_;show(a8 g2 _ (P.trans r D C) r2 X)
def pY(o:K.In c.base)(Y:FX c K g)(u:∀n,g.canon n<64)(r:Rel c O L J s)(H:RV c.Aa c.w O y ox)(N:RV c.Aa c.w O v x)
  (h:GP g ox n x J k) (B:∀l Z j,Ext true L O s l j->Rel c l L Z j->k Z->Q () j):wpAny (model c.Aa c.w) A (setAttr y (c.nm n) v) Q Bl s:=by
 obtain⟨i,F,w⟩:=ak h;clear h;obtain rfl:=lC F;show dH (si r H N w) λg1 I q D U z m=>bA (vQ D z m) λg2 M a r2 G=>eH o Y u r2 (U.mono a.le) (z.mono a.le) G λb C t P e E=>B b C t ((q.trans r D a).trans r r2 P) e E
def xW(S:K.In c.base)(Y:FX c K g)(t:∀n,g.canon n<64)(F:f.vl=true)(hc:Ci e=false)(R:c.nm n=nm)(h:SE c g f d x e)(h':SE c g f d y o):
  SS c g f d (.Kl y n x) (.Assign [.Attribute o nm P] e pos):=by
 intro O J s A k Q r I G W;show plainObj_wpAny_Assign_Attribute (h O J s A _ _ r I G λZ q C v a z U V w=>h' Z q C A _ _ U I w λE H M u b N D T w=>?_) (eZ hc _ _ _);show R▸(pY S Y t D T (V.mono N.le) w λi l j m B w=>?_);show W i l j .next .AZ (by change Ext f.vl _ _ _ _ _;rw[F];show(z.trans r U N).trans r D m) B rfl w
def xH(S:CV c g K p Sy mg mb d)(l:f.vl=true)(hd:Dv e=true)(m:Nat):SS c g f (d+1) (cS p f.cs m (.Assign [.Attribute o x A] e q)) (.Assign [.Attribute o x A] e q):=by
 induction m using Nat.casesOn with
 |zero=>show bP
 |succ n=>
  show dj λh=>?_;rw[Zp,Z8]at h;show b5 λi u=>?_;rw[Zk hd];show xW S.Y.X S.YG S.MB l h.2 (S.nm u) ((bU S n).1 f e).1 ((bU S n).1 f o).1
set_option backward.match.sparseCases true
def Fw(S:List WD)(h:WH):WH:=S.foldr (λa h=>h.update a λo=> {o with data:=.freed}) h
def qo(h:WH)(a:WD):(h.update a λo=> {o with data:=.freed}).get? a=none:=by
 obtain⟨j,l⟩:=h;change(match (j.modify a λo=> {o with data:=.freed})[a]? with|some ⟨_,_,.freed,_⟩=>none|o=>o)=none;rw[Array.getElem?_modify,Zk rfl];cases j[a]? <;>rfl
def dG:∀ {S:List WD},(Fw S h).get? y=if y∈S then none else h.get? y
 | []=>rfl
 |a::S=>by
  by_cases q:a=y
  ·rw[q,qo,Zk (List.mem_cons_self)]
  ·rw[Heap.get?_update_other _ _ q,dG];by_cases k:y∈S
   ·rw[Zk k,Zk (List.mem_cons_of_mem _ k)]
   ·rw[Zi k,Zi λz=>(Zb z).elim (λe=>q e.symm) k]
def ly(S:List WD)(h:WH):(Fw S h).StaysIn h:=λb o e=>by
 rw[dG]at e;by_cases k:b∈S
 ·rw[Zk k]at e;show aw e
 ·rwa [Zi k]at e
def gW{U:List WD}(j:∀u∈U,GD h u)(P:∀u∈U,Q.get? u=none):∀ {y:List Env},(∀e∈y,e.scope.kind≠ .module/\∃a∈U,e.frame=some a)->h.FunFrames Q y
 | [],_=>trivial
 |e::y,H=>by
  show eX (H e (.head _)) λk a N D=>bC (j a N) λo ds n A b=>⟨k,bG a o D (P a N) A λZ q=>(by replace q:=b▸q;cases q),gW j P λx i=>H x (.tail _ i)⟩
def gI(k:h.UpToSlots l)(P:GD h y):∀o,h.get? y=some o->∃D,l.get? y=some D/\B4 o D:=λo e=>by
 show bC P λSp ds n A Q=>?_;replace e:=A▸e;cases e;show zE (k y _ A λZ q=>(by replace q:=Q▸q;cases q)) λa b=>(j2 _ b a rfl)
def Cp.slots(r:Cp c O U H s){b:Nat}(N:0<b)(n:c.base.objs.size<=l.objs.size)(A:∀y o,y∉U->(O.F y≠none\/AD O y)->s.heap.get? y=some o->l.get? y=some o)
  (k2:∀y∈U,∀o,s.heap.get? y=some o->∃D,l.get? y=some D/\B4 o D):Cp c O U H {s with heap:=l,toks:=b}:=by
 have j:∀ {y o},O.F y=some o->y∉U:=λe q=>by rw[(r.ups _ q).1]at e;show aw e
 have m:∀ {y},AD O y->y∉U:=λe q=>(r.off _ e).2.1 q;show⟨λa o e=>A a o (j e) (.inl (by rw[e];show λz=>nomatch z)) (r.Av a o e),λi o h=>?_,r.sep,λx P=>?_,λu Z=>⟨(r.ups u Z).1,(r.ups u Z).2.step (k2 u Z)⟩,r.CZ,r.base,n,N⟩
 ·show aX (r.obs i o h) λa ft e Q=>(aU a ft e (Q.step (.refl _ _) λx P o k=>A x o (m (ay i a ft e P)) (.inr (ay i a ft e P)) k))
 ·show cV (r.off x P) λu v o w=>⟨u,v,yE o (A x o v (.inr P) w)⟩
def Rel.slots(r:Rel c O L J s){Z:Nat}(N:0<Z)(A:∀y o,y∉L.all->(O.F y≠none\/AD O y\/L.CN y)->s.heap.get? y=some o->l.get? y=some o)
  (k2:∀y∈L.all,∀o,s.heap.get? y=some o->∃D,l.get? y=some D/\B4 o D):Rel c O L J {s with heap:=l,toks:=Z}:=by
 have j:∀ {y o},O.F y=some o->y∉L.all:=λe q=>by replace e:=(r.nL _ (.inl q))▸e;show aw e
 have U:∀ {y},AD O y->y∉L.all:=λe q=>(r.off _ e).2.1 (.inl q);show⟨λa o e=>A a o (j e) (.inl (by rw[e];show λz=>nomatch z)) (r.Av a o e),λi o h=>?_,r.sep,λx P=>?_,r.nL,r.loc.step (.refl _ _) λy b=>?_,r.new,r.DY,r.CZ,r.base,r.Lb,N⟩
 ·show aX (r.obs i o h) λa ft e Q=>(aU a ft e (Q.step (.refl _ _) λx P o k=>A x o (U (ay i a ft e P)) (.inr (.inl (ay i a ft e P))) k))
 ·show cV (r.off x P) λu v o w=>⟨u,v,yE o (A x o (λq=>v (.inl q)) (.inr (.inl P)) w)⟩
 ·by_cases q:y∈L.all
  ·show k2 y q
  ·show av λo e=>A y o q (.inr (.inr b)) e
structure Qw (U:List WD) (O gh':Gh) (s:Ww) (es:List Env) (e:WD) (X:String) (s':Ww) (base:WH) (a0:Wv):Prop where
 P5:Heap.FlyingW base es e (.type X) a0 s'.heap
 base:∀y o,y∉U->(gh'.F y≠none\/AD gh' y\/(s.heap.get? y≠none/\¬AD O y))->s'.heap.get? y=some o->base.get? y=some o
def FY(c:Cx)(fa:WD)(d:Nat)(X:String)(spec:TA->Tx->Prop):Prop:=
 ∀U O H s A y Z u R,Cp c O U H s->Cw c.Aa c.w O Z u->Room U d A->A.frames=some y->spec u H->
  (∀l j e Q v,G8 false U O s l j->Cp c l U H j->Qw U O l s y e X j Q v->R (.error (.ref e)) j)->
  codeAny (model c.Aa c.w) A (.call (.ref fa) (Bj c Z [])) R s
def Jq(c:Cx)(f:Fm)(d:Nat)(X:String)(body:List WG)(pre:TF):Prop:=
 ∀O J s A (Q:Flow->Ww->Prop) (E:Wv->Ww->Prop),Rel c O f.L J s->Ay f.L d A->pre J->
  (∀l U j a e,Ext false f.L O s l j->Rel c l f.L (Bv J U) j->Heap.NewExc j.heap a e X->E (.ref e) {j with heap:=a})->wpAny (model c.Aa c.w) A (execs body f.env) Q E s
section
variable {fa:WD}{o:Obj}{fd:FuncData}{body:List WG}{X:String}{spec:TA->Tx->Prop}{pre:TF}{bind:TA->WJ->Option Tw}
def m9(T:TopRead c.Aa Sy mg mb c.base)
  (D:fd.scope.kind=.function) (Q:fd.globals=mainGlobals) (P:fd.builtins=builtinsNs) (hco:fd.scope.isCoroutine=false) (hgen:fd.scope.isGenerator=false)
  (ho:c.base.get? fa=some o) (hdata:o.data=.func fd) (V:fd.body=.stmts body) (hcd:c.base.CodeRec fd.code fd.qualname) (l:∀x∈fd.scope.names,x.2≠ .cell)
  (W:∀O s vs C kws E,Holds O.F s.heap->(∀a o,c.base.get? a=some o->s.heap.get? a=some o)->Cw c.Aa c.w O vs C->bind C kws=some E->∃bs,BindsTo s fd (Bj c vs kws) bs/\(∀x∈bs,fd.scope.names.lookup x.1=some .local)/\
   ∀n v,Sx n E=some v->∃u,bs.reverse.lookup (c.nm n)=some u/\RV c.Aa c.w O u v)
  (hS:∀L U,Jq c (De fd L fa U false D Q P l) d X body pre)
  (hspec:∀C H,spec C H->Ab (bind C []) λE=>pre ⟨E,H,64,false⟩/\((lo H).all λp=>Dc p.2)=true/\lo H=H):FY c fa (d+1) X spec:=by
 intro U O H s A es vs C R r hv rm Y hsp hp;obtain⟨E,hL0,hpre,hlow,hlo⟩:=ak (hspec C H hsp);have kb:=λa o e=>r.Av a o (r.base a o e);show bM (W O s vs C [] E r.Av kb hv hL0) λbs hB hloc hlk=>?_;have hs:s.heap.get? s.heap.objs.size=none:=aF (Zq _);show codeAny_call_def (by have:=rm.Fs;show YW this) (kb _ _ ho) hdata (T.nolimit.keeps kb) ?_ V hB l hloc (λh₀ M hx=>?_) hco hgen D
 ·show dY hcd λcc oc vs' t k w e3 e4=>(cI cc oc vs' t k (kb _ _ w) e3 e4)
 ·have G:∀y,(De fd s.heap.objs.size fa U false D Q P l).L.CN y->y∈U\/s.heap.get? y=none:=λy F=>by
   rcases F with F|⟨_,e⟩
   ·show(Zb F).elim (λe=>.inr (e▸hs)) .inl
   ·show aw e
  have hl:B3 c O (De fd s.heap.objs.size fa U false D Q P l).L E h₀:=by
   show⟨aO _ M λn v e=>?_,λuu uu e=>aw e,λu Z=>?_,λZ=>?_⟩
   ·show aA (hlk n v e) λu k w=>(aO u (.inr ⟨λuu e=>aw e,k⟩) w)
   ·show(r.ups u Z).2.step (av (hx u))
   ·show bC (r.ups _ Z).2 λo uu uu e uu=>aw (hs.symm.trans e)
  have rm':Ay (De fd s.heap.objs.size fa U false D Q P l).L d (A.deeper (callEnv fd s.heap.objs.size fa)):=⟨rm.deeper D rfl,λenv e=>(by obtain rfl:=Zf e;show(yE es (by change A.frames.map _=_;rw[Y];rfl)))⟩
  show hS s.heap.objs.size U O _ _ _ _ _ (r.enter (ZJ r.tk (ZR _ bs.length)) G r.G4 hx hl) rm' hpre λm L' j h' e x' I N=>?_;show zA (r.leave G hx x' I (show((lo (Bv (⟨E,H,64,false⟩:St) L').H).all λp=>Dc p.2)=true from hlow)) λB r3=>?_;have r3:Cp c m.low U H j:=hlo▸r3;show bA N.there λoe t he hcls hd=>?_;have hen:(Fw (De fd s.heap.objs.size fa U false D Q P l).L.all j.heap).get? e=none:=by
   rw[dG];split
   ·rfl
   ·show N.new
  have hff:h'.FunFrames (Fw (De fd s.heap.objs.size fa U false D Q P l).L.all j.heap) (callEnv fd s.heap.objs.size fa::es):=by
   show aA rm'.fr λes' k w=>?_;have:es'=callEnv fd s.heap.objs.size fa::es:=by
    have k:A.frames.map (callEnv fd s.heap.objs.size fa:: ·)=some es':=k;rw[Y]at k;show(Zf k).symm
   rw[←this];show gW (λu Z=>(I.ups Z).2.step (av (N.keeps u))) (show∀u∈(De fd s.heap.objs.size fa U false D Q P l).L.all,(Fw (De fd s.heap.objs.size fa U false D Q P l).L.all j.heap).get? u=none from λu Z=>by rw[dG,Zk Z]) w
  show wpAny_leaving_firstW (s:= {j with heap:=h'}) (by change A.frames.map _=_;rw[Y];rfl) hff rfl he (show(Fw (De fd s.heap.objs.size fa U false D Q P l).L.all j.heap).StaysIn h' from λb o e=>N.keeps b o (ly _ _ b o e)) hen hd rfl rfl λh'' hL=>?_;show bY hL λk1 zq1 k3 k4=>?_;obtain⟨_,_,k2⟩:=zq1;have kU:∀y∈U,∀o,j.heap.get? y=some o->∃o',h''.get? y=some o'/\B4 o o':=λy F o e=>by
   have hfr:=(I.ups (List.mem_cons_of_mem _ F)).2;show gI (λb o e M=>k4 b o (N.keeps b o e) M) hfr o e
  have i:∀y o,y∉U->y≠s.heap.objs.size->j.heap.get? y=some o->(Fw (De fd s.heap.objs.size fa U false D Q P l).L.all j.heap).get? y=some o:=λy o h1 h2 e=>by
   rw[dG];show(Zi λz=>(Zb z).elim h2 h1).trans e
  have hne:∀y,(m.low.F y≠none\/AD m.low y\/(s.heap.get? y≠none/\¬AD O y))->y≠s.heap.objs.size:=λy h q=>by
   rcases h with h|h|h
   ·show h (q▸I.nL _ Loc.cx)
   ·show(I.off y (bL h)).2.1 (q▸Loc.cx)
   ·show h.1 (q▸hs)
  have r4:Cp c m.low U H {j with heap:=h'',toks:=j.toks}:=r3.slots I.tk ?_ (λy o h1 h2 e=>k1 y o (i y o h1 (hne y (h2.imp_right .inl)) e)) kU;show hp m.low _ e _ t ⟨B.le,λy o e Z M=>?_,λy F o e=>?_,B.fp,B.fF,B.gens,B.os,B.drawn⟩ r4 ⟨⟨k1,hen,k2,hcls▸k3⟩,λy o Z hc e=>?_⟩
  ·show k1 y o (i y o Z (λq=>(by rw[q,hs]at e;show aw e)) (B.keep y o e Z M))
  ·show iW (B.EN y F o e) λSp k sl S=>?_;subst S;show iW (kU y F _ k) λSo w sl' S=>?_;subst S;show(j2 _ w sl' rfl)
  ·have ex:∃Sp,j.heap.get? y=some Sp:=by
    rcases hc with h|h|h
    ·cases q:m.low.F y with
     |none=>show(h q).elim
     |some Sp=>show(yE Sp (r3.Av y Sp q))
    ·show(r3.off y h).2.2
    ·cases q:s.heap.get? y with
     |none=>show(h.1 q).elim
     |some Sp=>show(yE Sp (B.keep y Sp q Z h.2))
   show zE ex λSp k=>?_;have w:=i y Sp Z (hne y hc) k;rw[w];show(k1 y Sp w).symm.trans e
  ·show zE I.dT λSp k=>aA (gI (λb o e M=>k4 b o (N.keeps b o e) M) (I.ups (List.mem_cons_self)).2 Sp k) λSo w uu=>Zh r.G4 (Yo (Yk w))
end
structure Js (L:Loc) (O gh':Gh) (s:Ww) (es:List Env) (e:WD) (X:String) (s':Ww) (base:WH) (a0:Wv):Prop where
 P5:Heap.FlyingW base es e (.type X) a0 s'.heap
 base:∀y o,y∉L.all->(gh'.F y≠none\/AD gh' y\/(s.heap.get? y≠none/\¬AD O y))->s'.heap.get? y=some o->base.get? y=some o
def ac8(H:Tx)(i:Nat):Sx i (lo H++hi H)=Sx i H:=by
 rw[di,eg,iI];by_cases q:i<64
 ·rw[Zk q,Zk q];cases Sx i H<;>rfl
 ·rw[Zi q,Zi q];rfl
def sm{X:String}{D:TA->Tx->Prop}(C:FY c fa d X D)(r:Rel c O L J s)(I:Room L.all d A)(P:A.frames=some es)(N:Cw c.Aa c.w O vs u)
  (G:u.all FD=true) (t:((lo J.H).all λp=>Dc p.2)=true) (v:D u (lo J.H))
  (H:∀l k e Q n,Ext false L O s l k->Rel c l L J k->Js L O l s es e X k Q n->R (.error (.ref e)) k):codeAny (model c.Aa c.w) A (.call (.ref fa) (Bj c vs [])) R s:=by
 show C L.all O.low (lo J.H) s A es vs u R (r.toC t) (u0 N G) I P v λl k e Q n x M B=>cu (r.ofC x M) λr2 F l2=>H _ k e Q n F (r2.nM (ac8 J.H)) ⟨B.P5,λy o E W e=>B.base y o E ?_ e⟩;rcases W with h|⟨j,b,m,U,h⟩|h
 ·show .inl h
 ·by_cases q:j<64
  ·have U:(if j<64 then l.φ j else O.φ j)=some (b,m):=U;replace U:=(Zk q)▸U;show .inr (.inl (ay j b m U h))
  ·have U:(if j<64 then l.φ j else O.φ j)=some (b,m):=U;replace U:=(Zi q)▸U;show cV (r.off y (ay j b m U h)) λT T Sp w=>.inr (.inr ⟨by rw[w];show Option.some_ne_none _,λ⟨i,a,ft,Z,S⟩=>?_⟩);show zA (cn Z) λhi Z=>r.sep i j a ft b m Z U (λz=>q (z▸hi)) y S h
 ·show .inr (.inr ⟨h.1,λz=>h.2 (bL z)⟩)
def Js.land{e:WD}{X:String}{Q:WH}{v:Wv}(F:Js L O l s es e X j Q v)(r:Rel c O L J s)(x:Ext false L O s l j)(u:Rel c l L Z j)(m:Q.StaysIn h6)(k2:j.heap.UpToSlots h6):
  Rel c l L Z {j with heap:=h6}/\Ext false L O s l {j with heap:=h6}:=by
 have k:∀y∈L.all,∀o,j.heap.get? y=some o->∃i,h6.get? y=some i/\B4 o i:=λy P=>gI k2 (u.ups P).2;show⟨u.slots u.tk (λy o U N e=>m y o (F.base y o U ?_ e)) k,
  ⟨x.le,λy o e D b=>m y o (F.base y o (λq=>D (.inl q)) (.inr (.inr ⟨by rw[e];show Option.some_ne_none _,b⟩)) (x.keep y o e D b)),λy P o e=>?_,x.fp,x.fF,x.gens,x.os,x.drawn⟩⟩
 ·rcases N with h|h|h
  ·show .inl h
  ·show .inr (.inl h)
  ·show .inr (.inr ((show∀y,L.CN y->s.heap.get? y≠none/\¬AD O y from λy h=>⟨λz=>(by show zE (r.there h) λo e=>?_;replace e:=z▸e;show aw e),λz=>(r.off y z).2.1 h⟩) y h))
 ·show iW (x.EN y P o e) λSp t w a=>?_;subst a;show iW (k y (.tail _ P) _ t) λSo n A a=>?_;subst a;show(j2 _ n A rfl)
structure Hw (mg mb:Wu->TM) (x:Wu) (X:String):Prop where
 DH:(x==("__debug__":Wu))=false
 LN:mg x=none
 h3:mb x=some (.type X)
def kX(Y:Ctx c K p Sy mg mb){X:String}(N:Hw mg mb x X)(D:B8 f.cs x=true)(r:Rel c O f.L J s)(h:Q (.type X) s):wpAny (model c.Aa c.w) A (eval (.Name x j) f.env) Q E s:=
 XO f.kind (cz D) (Calls.loadGlobal_builtin (by rw[f.glob];show Y.T.g.keeps r.bN) N.LN (by rw[f.blt];show Y.T.b.keeps r.bN) N.h3 h) N.DH
structure Ld (X:String):Prop where
 exc:isSubtype (.type X) (.type "BaseException")=pure true
 nt:isSubtype (.type ((Manifest.find? X).elim "type" λy=>y.metatype)) (.type "tuple")=pure false
 sub:isSubtype (.type X) (.type X)=pure true
def v8(Y:Ctx c K p Sy mg mb)(YG:FX c K g)
  (hb:AU o=true) (G:(apos.endLine==pos.line)=true) (hn:c.nm n=nm) (ho:SE c g f d xo o) (F:BU a=true) (ha:SE c g f d x a) (hfn:g.fn fa=true) (hm:∀J,C4 g w n [] J=some (.fn fa w))
  (r:Rel c O f.L J s) (rm:Ay f.L d A) (hw:∀k,k w J->BI g xo J k) (hev:BI g x J k)
  (hp:∀l J' j u v y,Ext false f.L O s l j->Rel c l f.L J' j->RV c.Aa c.w l u w->RV c.Aa c.w l v y->k y J'->codeAny (model c.Aa c.w) A (.call (.ref fa) (Bj c [u,v] [])) (λr j=>match r with| .ok (.ret v)=>Q v j| .ok _=>False| .error e=>E e j) j):
  wpAny (model c.Aa c.w) A (eval (.Call (.Attribute o nm apos) [a] [] pos) f.env) Q E s:=by
 have hr:Row c g f d (.cons x .nil) ([a]++([]:List WI).map (·.value)):=.cons F ha .nil;have B:Mc p []=some []:=rfl;rw[arm_eval_Call _ _ _ _ _ _ _,cQ hb, ←hn];show Zn (ZT (ho O J s A (λv s=>v=w/\s=J) _ r rm (hw _ ⟨rfl,rfl⟩) λgh₁ T s₁ ov oa x₁ q ho S=>?_) (λb b h=>h) λb b h=>h.elim);show zA S λz zq1=>?_;clear hw S;subst z zq1;show bY (fE Y pos f.env B) λa1 a2 a3 a4=>?_;have F:(backTo pos (starEach [a] f.env)).all (λx=> !x.1)=true:=by
  have:=a6 pos f.env hr.cZ;rw[List.any_eq_false]at this;rw[propext Zv];intro y hy;simpa using this y hy
 have H:methodCallForm ([a].length+([]:List WI).length) (backTo pos (starEach [a] f.env)) (backToKw pos (keywordEach [] f.env))=true:=by
  unfold methodCallForm;rw[F,a1];simp only[XB,Yu,Zj,ZW];split<;>omega
 have W:methodCallPos true o f.env apos pos=pure pos:=by unfold methodCallPos;simp[G]
 unfold methodCall;show H▸(Zn (Yz (Zn (ZY (ZT (mi Y.X YG q ho (hm _) λgh₂ s₂ fv first N D I=>?_) (λb b h=>h) λb b h=>h.elim)))));show Zn (X7 W ?_);have i:((backTo pos (starEach [a] f.env)).any (·.1)||(backToKw pos (keywordEach [] f.env)).any (·.1.isNone))=false:=by(show(a6 pos f.env hr.cZ).symm▸ ?_;show a2.symm▸ ?_);rfl
 show eX I λz u zq2 hu=>?_;clear I;subst z zq2;show callWith_of (P:=λh=>K.In h/\fnIn K fa=true) i (λh hh=>keeps_K (js hh.2) h hh.1) (ZT (bS Y B hr D rm (show SU g (.cons x .nil) T (one k) from hev) λZ m M vs xs hlen U C R B=>⟨⟨Y.X.keeps C.bN,YG.fn _ hfn⟩,?_⟩) (λb b h=>h) λb b h=>h.elim);obtain⟨y,rfl,B⟩:∃y,xs=[y]/\k y m:=by
  induction xs using Re with
  |nil=>show B.elim
  |cons y t=>
   induction t using Re with
   |nil=>show(aO y rfl B)
   |cons _ _=>show B.elim
 obtain⟨v,r,rfl,hv,hr'⟩:∃v r,vs=v::r/\RV c.Aa c.w Z v y/\r=[]:=by
  cases R with
  |cons h1 h2=>cases h2;show(a8 _ _ rfl h1 rfl)
 clear hlen R;subst hr';have:=hp Z m M u v y ((x₁.trans r q N).trans r D U) C (hu.mono U.le) hv B;rw[aR]at this⊢;show XI this
def xK(Y:Ctx c K p Sy mg mb)(YG:FX c K g)(hO:f.own=true)(htp:f.tp=some f.env)(hfm:f.env.frame=some f.env.locals){fa lb:Nat}{XX:String}{rspec:TA->Tx->Prop}(C:AB false c fa d (g.call fa))(CX:FY c fa d XX rspec)(hX:Ld XX){Sq xn nm:Wu}
  (hxn:Hw mg mb xn XX) (hxg:B8 f.cs xn=true) {o a:WE} {xo xa:X} {x2:S} {n ix:Nat} {st2:WG} {q l p1 q1 np p3 p4 q3 hpos pos:Pos} {kd:Nat} {w:V} (hb:AU o=true) (x:(q.endLine==l.line)=true) (hn:c.nm n=nm) (ho:SE c g f d xo o) (hst:BU a=true) (ha:SE c g f d xa a) (hfn:g.fn fa=true) (hm:∀J,C4 g w n [] J=some (.fn fa w))
  (hw:∀J k,k w J->BI g xo J k) (hl:BH f.cs Sq=true) (hc:p.code Sq=some ix) (h2:SS c g f d x2 st2) (H I:V->St->TB->Prop)
  (hN:∀v s k,H v s k->BL g fa [w,v] [] s λv' s2=>ex g x2 (Bv s2 (put ix v' s2.L)) λG s=>G=.AZ/\k .AZ s)
  (hR:∀v s k,I v s k->([w,v].all FD=true/\((lo s.H).all λp=>Dc p.2)=true)/\rspec [w,v] (lo s.H)/\k .AZ (Bv s (put ix (.c .Ak) s.L)))
  (E:∀J k,g.loop lb [] J k->BI g xa J λv s=>H v s k\/I v s k):
  SS c g f d (.prim lb) (.Try [.Assign [.Name Sq p1] (.Call (.Attribute o nm q) [a] [] l) q1,st2] [.ExceptHandler (some (.Name xn np)) none [.Assign [.Name Sq p3] (.Constant .none kd p4) q3] hpos] [] [] pos):=by
 intro O J s A k Q r M hev hp;show wpAny_Try_except (Xu (wpAny_Assign_Name ?_ (eZ rfl _ _ _)));show v8 Y YG hb x hn ho hst ha hfn hm r M (hw J) (E J k hev) λgh₁ J₁ s₁ u v y z U hu hv b=>?_;rcases b with b|b
 ·show eJ C U M.toRoom (.cons hu (.cons hv .nil)) (hN _ _ _ b) λj J₂ s₂ v' y' N D hv' b=>ZT (cN Y (.inl ⟨hO,hl⟩) hc D hv' λi m P=>?_) (λZ Z h=>h) λZ Z h=>h.elim;show Xu (ZT (h2 j _ i A _ _ P M b λF J₄ R G y x₄ r₄ hfl b=>?_) (λZ Z h=>h) λZ Z h=>h.elim);obtain⟨rfl,b⟩:=b;subst hfl;show X3 (X3 (hp F J₄ R .next .AZ ?_ r₄ rfl b));show(((z.trans r U N).trans r D m).trans r P x₄)
 ·show cu (hR _ _ _ b) λzq0 hsp b=>?_;obtain⟨l1,l2⟩:=zq0;show zE (M.top _ htp) λouter hes=>sm CX U M.toRoom hes (.cons hu (.cons hv .nil)) l1 l2 hsp λj s₂ e base a0 N D G=>wpAny_looks_onW hes hfm G.P5 λh4 B W=>wpAny_landsW B λh5 t T=>zA (G.land U N D t.1 (W.trans T)) λr5 Z=>aA t.there λob hob hobc=>wpAny_handleBy_builtin hX.exc hX.nt hX.sub (kX Y hxn hxg r5 ⟨rfl,aO ob hob hobc,?_⟩);rw[Zk rfl];show lands_againW t λh6 fl6 sm6=>zA (G.land U N D fl6.1 ((W.trans T).trans sm6)) λr6 x6=>Xu (wpAny_Assign_Name (wpAny_Constant_none ?_) (eZ rfl _ _ _));show ZT (cN Y (.inl ⟨hO,hl⟩) hc r6 (dq .Ak) λi m P=>?_) (λZ Z h=>h) λZ Z h=>h.elim;show X3 (hp j _ i .next .AZ ?_ P rfl b);show((z.trans r U x6).trans r r6 m).w
end
end Mine.A
namespace Mine.Head
section
abbrev pw:WA:=PySem.Challenge.pw_te0042_02
noncomputable def stmts:List WG:=pw.main.body
noncomputable def st(i:Nat):WG:=stmts.getD i default
def Jd:WG->List WG
 | .ClassDef _ _ _ b _ _ _ _ _ _ _=>b
 |_=>[]
def Ss(i j:Nat):WG:=(Jd (st i)).getD j default
abbrev S(s:String)(t:Nat):Wv:=.str (Str.ofString s) t
abbrev R(a:Nat):Wv:=.ref a
def E(P:Wx)(s:String)(t:Nat)(v:Wv):WC:=⟨PyData.keyHash P (Str.ofString s),.str (Str.ofString s) t,v⟩
def EI(h i:Int)(t:Nat)(v:Wv):WC:=⟨h,.int i t,v⟩
noncomputable def tp(l:TN):Obj:= {cls:=.type "tuple",data:=.seq l.toArray 0}
def Sw(l:TN)(n:Nat):Obj:= {cls:=.type "list",data:=.seq l.toArray n}
noncomputable def tb(l:TN):Obj:= {cls:=.none,data:=.fields l.toArray}
def SW(l:List WC)(n:Nat):Obj:= {cls:=.type "dict",data:=.dict l.toArray n}
def EX(d:WG):DefRec:=match d with
 | .FunctionDef name args body _ _ _ scope _ _ pos=>⟨name,args,body,scope,pos⟩
 |_=>⟨"",⟨[],[],none,[],[],none,[]⟩,[],⟨.function,[],false,false,[]⟩,default⟩
def P4(d:WG)(q:Str)(j u v s cd l:Wv):Obj:= {cls:=.type "function",data:=.func {name:=(EX d).name,qualname:=q,params:=(EX d).params,body:=.stmts (EX d).body,scope:=(EX d).scope,globals:=3,closure:=[],defaults:=j,kwdefaults:=u,doc:=v,pyModule:=s,code:=cd,closureTuple:=l}}
def Pz(d:WG)(q:Str):Obj:= {cls:=.none,data:=.func {name:=(EX d).name,qualname:=q,params:=(EX d).params,body:=.stmts (EX d).body,scope:=(EX d).scope,globals:=0,closure:=[],defaults:=.none,kwdefaults:=.none}}
abbrev fn(d:WG)(q:String):=P4 d (Str.ofString q)
abbrev pr(d:WG)(q:String):=Pz d (Str.ofString q)
def S6:Nat->TV->BT
 |0,_=>.nil
 |_+1,[]=>.nil
 |n+1,o::r=>.node o (S6 n (odds r)) (S6 n (evens r))
where
 odds:TV->TV
  | []=>[]
  | [a]=>[a]
  |a::_::r=>a::odds r
 evens:TV->TV
  | []=>[]
  | [_]=>[]
  |_::b::r=>b::evens r
def Sk(l:TV):List (Nat×Obj)->TV
 | []=>l
 |(i,o)::r=>Sk (l.set i o) r
abbrev M0:Wv:=S "html5lib._tokenizer" 827
abbrev M1:Wv:=S "html5lib._inputstream" 564
abbrev M2:Wv:=S "law_te0042_02" 1458
abbrev M3:Wv:=S "html5lib._trie.py" 738
abbrev M4:Wv:=S "__main__" 164
abbrev I(i:Nat)(t:Nat):Wv:=.int (Int.ofNat i) t
def ER(P:Wx)(s:String)(t v:Nat):WC:=E P s t (R v)
def ES(P:Wx)(s:String)(t:Nat)(v:String)(u:Nat):WC:=E P s t (S v u)
def EB(P:Wx)(s:String)(t:Nat):WC:=E P s t (.builtin s)
def ET(P:Wx)(s:String)(t:Nat):WC:=E P s t (.type s)
def Jx(d:WG):List Str:=((EX d).scope.names.filter λp=>p.2== .local).map (·.1)
def Lh:List Str->Nat->TN
 | [],_=>[]
 |s::r,t=>.str s t::Lh r (t+1)
def Py(c:String)(d:WG):Str:=⟨(Str.ofString c).cps++(EX d).name.cps⟩
def Sr(d:WG)(c:String)(a x p:Nat)(j m:Wv):TV:=
 [Pz d (Py c d),⟨.type "code",none,.fields [.str (EX d).name a,.str (Py c d) (a+1),S "/claim/cut.py" (a+2),I (EX d).pos.line 0,I (EX d).params.args.length 0,I 0 0,I 0 0,I 3 0,R x,.bool true,I 181 0,R (x+1),.none,R (x+2),R (x+3),R (x+4),I p 0,I (EX d).pos.line 0,S "/claim/cut.py" (p+1)].toArray,[].toArray⟩,P4 d (Py c d) j .none .none m (R (x+5)) .none]
def HO(f:Nat->WG)(c:String)(m:Wv):Nat->Nat->Nat->Nat->TV
 |0,_,_,_=>[]
 |n+1,j,a,x=>[tp [],tb [],tp (Lh (Jx (f j)) (a+3)),tp []]++(Sr (f j) c a x (a+3+(Jx (f j)).length) .none m++HO f c m n (j+1) (a+6+(Jx (f j)).length) (x+7))
def LU(P:Wx)(f:Nat->WG):Nat->Nat->Nat->Nat->List WC
 |0,_,_,_=>[]
 |n+1,j,a,x=>⟨PyData.keyHash P (EX (f j)).name,.str (EX (f j)).name (a+5+(Jx (f j)).length),R (x+6)⟩::LU P f n (j+1) (a+6+(Jx (f j)).length) (x+7)
def DP(r:Nat):Obj:=⟨.type "StopIteration",none,.fields [R r,.none,.none,.none,.bool false,.none].toArray,[].toArray⟩
def Po(n:Nat):Obj:=⟨.type "str_ascii_iterator",none,.fields [.none,.int n 0].toArray,[].toArray⟩
def Mw(a b c:Nat)(v:Wv):Obj:=⟨.type "frame",none,.plain,[some (R a),some (R b),some (R c),none,some v,none,some (R 0)].toArray⟩
def Oj(s:String)(v:Wv):Obj:=⟨.type "builtin_function_or_method",none,.fields [.builtin s,v].toArray,[].toArray⟩
def MA(s:String)(a l x b:Nat):Obj:=⟨.type "code",none,.fields [S s a,S s (a+1),S "/claim/cut.py" (a+2),.int l 0,.int 0 0,.int 0 0,.int 0 0,.int 0 0,R x,.bool false,.int b 0,R (x+1),.none,.none,.none,.none,.int (a+3:Nat) 0,.int l 0,S "/claim/cut.py" (a+4)].toArray,[].toArray⟩
def OU(a r:Nat):TV:=[⟨.type "getset_descriptor",none,.fields [S "__dict__" a,R r,.builtin "function.__dict__",.builtin "function.__dict__#set"].toArray,[].toArray⟩,⟨.type "getset_descriptor",none,.fields [S "__weakref__" (a+2),R r,.builtin "ExceptionGroup.__weakref__",.none].toArray,[].toArray⟩,⟨.type "super",none,.fields [R r,R r,R r].toArray,[].toArray⟩,Oj "object.__init_subclass__" (R r)]
def Jv{y:Type}(f:String->Nat->y)(d:Nat):List String->Nat->List y
 | [],_=>[]
 |s::r,t=>f s t::Jv f d r (t+d)
def ED(P:Wx)(k:String)(t:Nat)(v:String):WC:=E P k t (S v (t+1))
def MW{y:Type}(f:String->Nat->String->y)(d:Nat):List String->Nat->List y
 |k::v::r,t=>f k t v::MW f d r (t+d)
 |_,_=>[]
def QL:WJ->Nat->TN
 | [],_=>[]
 |c::r,t=>.str ⟨[c].toArray⟩ t::QL r (t+1)
def MV(s:String):=QL (Str.ofString s).cps.toList
def QJ:WJ->Nat->Nat->List WC
 | [],_,_=>[]
 |c::r,n,t=>EI n n t (.str ⟨[c].toArray⟩ (t+1))::QJ r (n+1) (t+3)
def QK(s:String):=QJ (Str.ofString s).cps.toList
def KP(f:Nat->WG)(j a:Nat):Nat->TN
 |0=>[]
 |n+1=>[I (EX (f j)).pos.line 0,I 4 0,R a]++KP f (j+1) (a+7) n
def CE(s:String)(r n a t u:Nat):Obj:=⟨.type "type",none,.cls {name:=s,bases:=[.type "object"],mro:=[R r,.type "object"],ns:=n,qualname:=s,slotNames:=[],subclasses:=[]},[some (R a),none,some (S s t),some (S s u),some (.builtin "object.__new__"),some (.bool true)].toArray⟩
def Sv(d:WG)(a x p:Nat)(m:Wv):TV:=
 [tp [],tb [],Pz d (EX d).name,⟨.type "code",none,.fields [.str (EX d).name a,.str (EX d).name (a+1),S "/claim/cut.py" (a+2),I (EX d).pos.line 0,I (EX d).params.args.length 0,I 0 0,I 0 0,I 3 0,R x,.bool true,I 181 0,R (x+1),.none,.none,.none,R (x+2),I p 0,I (EX d).pos.line 0,S "/claim/cut.py" (p+1)].toArray,[].toArray⟩,P4 d (EX d).name .none .none .none m (R (x+3)) .none]
def PB:TN:=(Jv S 3 ["AMP","AMP;","Eacute","Eacute;","Mopf;","ac;","acE;","acute","acute;","amp","amp;","ang;","angle;","bne;","copy","copy;","eacute","eacute;","frac12","frac12;","gt","gt;","lt","lt;","nbsp","nbsp;","not","not;","notin;","notni;","para","para;","parallel;","quot","quot;"] 299++Jv S 2 ["sup1","sup1;","sup2","sup2;","sup;","times","times;","timesb;"] 403)
def QY:TN:=(MV "abcdefghijklmnopqrstuvwxyzABCDEFGHIJKLMNOPQRSTUVWXYZ" 204)
def QX:TN:=(MV "0123456789abcdefABCDEF" 270)
def Ra(P:Wx):List WC:=(MW (ED P) 3 ["eacute;","é","frac12","½","frac12;","½","gt",">","gt;",">","lt","<","lt;","<","nbsp","\u00a0","nbsp;","\u00a0","not","¬","not;","¬","notin;","∉","notni;","∌","para","¶","para;","¶","parallel;","∥","quot","\""] 350)
def Q9(P:Wx):List WC:=(QK "\u008f\u0090‘’“”•–—˜™š›œ\u009džŸ" 143 480)
def Q8(P:Wx):List WC:=[E P "__firstlineno__" 623 (.int 29 622),E P "_defaultChunkSize" 625 (.int 10240 624)]++(LU P (Ss 15) 6 1 626 92++[ER P "readChunk" 690 141,ER P "characterErrorsUCS4" 699 148,ER P "charsUntil" 711 156,ER P "unget" 719 163,ER P "__static_attributes__" 730 164])
def Q7(P:Wx):List WC:=[E P "__firstlineno__" 763 (.int 144 762)]++(LU P (Ss 18) 6 0 764 186++[ER P "__static_attributes__" 819 228])
def Q6(P:Wx):List WC:=[E P "__firstlineno__" 855 (.int 182 854),ER P "__init__" 864 261,ER P "__iter__" 871 268,ER P "consumeNumberEntity" 886 275,ER P "consumeEntity" 901 283]++(LU P (Ss 21) 68 4 902 284++[ER P "__static_attributes__" 1450 760])
def SI(P:Wx):List WC:=[E P "__doc__" 166 .none,E P "__package__" 167 .none,E P "__loader__" 168 (.builtin "__main__.__loader__#opaque"),E P "__spec__" 169 .none,ER P "__annotations__" 170 6,ER P "__builtins__" 171 4,ES P "__file__" 173 "/claim/cut.py" 172,E P "__cached__" 174 .none,ER P "_wall" 193 21,E P "EOF" 196 .none,ER P "spaceCharacters" 202 22,ER P "asciiLetters" 256 27,ER P "digits" 268 32,ER P "hexDigits" 292 37,ER P "asciiLower" 298 42,ER P "entities" 428 43,ER P "replacementCharacters" 531 46,ER P "tokenTypes" 556 48,ER P "tagTokenTypes" 563 49,ER P "Text" 604 73,ER P "_is_invalid" 611 84,ER P "HTMLUnicodeInputStream" 737 166,ER P "bisect_left" 751 178,ER P "Trie" 826 230,ER P "entitiesTrie" 843 236,ER P "HTMLTokenizer" 1457 762,ER P "_law_PIECES" 1492 767,ER P "_law_KINDS" 1498 774,ER P "_law_STOPS" 1504 781,ER P "_law_BLANKS" 1510 788,ES P "_law_LETTERS" 1512 "abcdefghijklmnopqrstuvwxyzABCDEFGHIJKLMNOPQRSTUVWXYZ" 1511,ER P "_law_told" 1519 795,ER P "_law_chars" 1527 802,ER P "_law_reference" 1540 809,ER P "_law_letters" 1548 816,ER P "_law_between" 1554 821,ER P "_law_markup" 1570 828,ER P "_law_stop" 1582 835,ER P "law" 1588 840]
def Q3:TN:=[I 1 0,I 0 0,R 20,I 10 0,I 0 0,R 41,I 17 0,I 0 0,R 55,I 27 0,I 0 0,R 83,I 29 0,I 0 0,R 90,I 134 0,I 0 0,R 177,I 144 0,I 0 0,R 184,I 182 0,I 0 0,R 252,I 1291 0,I 0 0,R 773,I 1293 0,I 0 0,R 780,I 1295 0,I 0 0,R 787,I 1298 0,I 0 0,R 794,I 1300 0,I 0 0,R 801,I 1302 0,I 0 0,R 808,I 1318 0,I 0 0,R 815,I 1322 0,I 0 0,R 820,I 1343 0,I 0 0,R 827,I 1367 0,I 0 0,R 834,I 1375 0,I 0 0,R 839]
noncomputable def fin(P:Wx):TV:=
 [SW ([ES P "__name__" 1 "builtins" 160,E P "__doc__" 2 (.builtin "builtins.__doc__:str#opaque"),E P "__package__" 3 (.builtin "builtins.__package__:str#opaque"),E P "__loader__" 4 (.builtin "builtins.__loader__:shared#opaque"),E P "__spec__" 5 (.builtin "builtins.__spec__#opaque")]++(Jv (EB P) 1 ["__build_class__","__import__","abs","all","any","ascii","bin","breakpoint","callable","chr","compile","delattr","dir","divmod","eval","exec","format","getattr","globals","hasattr","hash","hex","id","input","isinstance","issubclass","iter","aiter","len","locals","max","min","next","anext","oct","ord","pow","print","repr","round","setattr","sorted","sum","vars"] 6++([E P "None" 50 .none,E P "Ellipsis" 51 .ellipsis,E P "NotImplemented" 52 .notImplemented,E P "False" 53 (.bool false),E P "True" 54 (.bool true)]++(Jv (ET P) 1 ["bool","memoryview","bytearray","bytes","classmethod","complex","dict","enumerate","filter","float","frozenset","property","int","list","map","object","range","reversed","set","slice","staticmethod","str","super","tuple","type","zip"] 55++([E P "__debug__" 81 (.bool true)]++(Jv (ET P) 1 ["BaseException","BaseExceptionGroup","Exception","GeneratorExit","KeyboardInterrupt","SystemExit","ArithmeticError","AssertionError","AttributeError","BufferError","EOFError","ImportError","LookupError","MemoryError","NameError","OSError","ReferenceError","RuntimeError","StopAsyncIteration","StopIteration","SyntaxError","SystemError","TypeError","ValueError","Warning","FloatingPointError","OverflowError","ZeroDivisionError","BytesWarning","DeprecationWarning","EncodingWarning","FutureWarning","ImportWarning","PendingDeprecationWarning","ResourceWarning","RuntimeWarning","SyntaxWarning","UnicodeWarning","UserWarning","BlockingIOError","ChildProcessError","ConnectionError","FileExistsError","FileNotFoundError","InterruptedError","IsADirectoryError","NotADirectoryError","PermissionError","ProcessLookupError","TimeoutError","IndentationError","_IncompleteInputError","IndexError","KeyError","ModuleNotFoundError","NotImplementedError","PythonFinalizationError","RecursionError","UnboundLocalError","UnicodeError","BrokenPipeError","ConnectionAbortedError","ConnectionRefusedError","ConnectionResetError","TabError","UnicodeDecodeError","UnicodeEncodeError","UnicodeTranslateError","ExceptionGroup"] 82++[E P "EnvironmentError" 151 (.type "OSError"),E P "IOError" 152 (.type "OSError"),EB P "open" 153,E P "quit" 154 (.builtin "builtins.quit#opaque"),E P "exit" 155 (.builtin "builtins.exit#opaque"),E P "copyright" 156 (.builtin "builtins.copyright#opaque"),E P "credits" 157 (.builtin "builtins.credits#opaque"),E P "license" 158 (.builtin "builtins.license#opaque"),E P "help" 159 (.builtin "builtins.help#opaque")])))))) 159,SW [ER P "builtins" 162 4,ER P "__main__" 163 5] 2,(⟨.none,none,.dict [].toArray 0,[].toArray⟩:Obj),SW (E P "__name__" 165 M2::SI P) 40,(⟨.type "module",some 0,.plain,[].toArray⟩:Obj),(⟨.type "module",some 3,.plain,[].toArray⟩:Obj),SW [] 0,tp [],tb [],MA "<module>" 176 1 7 175,Mw 9 3 3 M4,tp [],tb Q3,MA "<module>" 182 1 11 181,Mw 13 3 3 M4]++
 (HO st "" M4 1 0 187 15++
 (([tp (MV "\x09\x0a\x0c \x0d" 197),Sw QY 52,Po 52,tp [],DP 25,tp QY,Sw (MV "0123456789" 258) 10,Po 10,tp [],DP 30,tp (MV "0123456789" 258),Sw QX 22,Po 22,tp [],DP 35,tp QX]++(Sv (st 7) 293 38 296 (S "html5lib.constants" 194)++[SW ((MW (ED P) 3 ["AMP","&","AMP;","&","Eacute","É","Eacute;","É","Mopf;","𝕄","ac;","∾","acE;","∾̳","acute","´","acute;","´","amp","&","amp;","&","ang;","∠","angle;","∠","bne;","=⃥","copy","©","copy;","©","eacute","é"] 299)++(Ra P++(MW (ED P) 2 ["quot;","\"","sup1","¹","sup1;","¹","sup2","²","sup2;","²","sup;","⊃","times","×","times;","×","timesb;","⊠"] 401))) 43,SW (Ra P) 17,SW (MW (ED P) 2 ["quot;","\"","sup1","¹","sup1;","¹","sup2","²","sup2;","²","sup;","⊃","times","×","times;","×","timesb;","⊠"] 401) 9,SW (([EI 0 0 429 (S "�" 430),EI 13 13 432 (S "\x0d" 433)]++QK "€\u0081‚ƒ„…†‡ˆ‰Š‹Œ\u008dŽ" 128 435)++Q9 P) 34,SW (Q9 P) 17,SW [E P "Doctype" 532 (.int 0 533),E P "Characters" 534 (.int 1 535),E P "SpaceCharacters" 536 (.int 2 537),E P "StartTag" 538 (.int 3 539),E P "EndTag" 540 (.int 4 541),E P "EmptyTag" 542 (.int 5 543),E P "Comment" 544 (.int 6 545),E P "ParseError" 546 (.int 7 547)] 8,tp [I 3 539,I 4 541,I 5 543],tp [.type "object"],Oj "type.__prepare__" (.type "type"),SW [E P "__module__" 573 M1,ES P "__qualname__" 575 "Text" 574,E P "__firstlineno__" 577 (.int 17 576),ER P "__init__" 585 63,ER P "read" 594 70,ER P "__static_attributes__" 597 71] 6,tp [],tb (KP (Ss 13) 0 62 2),MA "Text" 568 17 53 181,Mw 55 3 52 M1]))++
 (HO (Ss 13) "Text." M1 2 0 578 57++
 ([tp [S "place" 595,S "text" 596],SW [E P "__module__" 573 M1,E P "__firstlineno__" 577 (.int 17 576),ER P "__init__" 585 63,ER P "read" 594 70,ER P "__static_attributes__" 597 71,ER P "__dict__" 599 74,ER P "__weakref__" 601 75,E P "__doc__" 602 .none] 4,CE "Text" 73 72 50 566 574]++
 (OU 598 73++
 (HO st "" M1 1 14 605 78++
 ([tp [.type "object"],Oj "type.__prepare__" (.type "type"),SW ([E P "__module__" 619 M1,ES P "__qualname__" 621 "HTMLUnicodeInputStream" 620]++Q8 P) 15,tp [],tb (KP (Ss 15) 1 97 6++(KP (Ss 15) 7 140 2++KP (Ss 15) 9 155 2)),MA "HTMLUnicodeInputStream" 614 29 88 181,Mw 90 3 87 M1]++
 (HO (Ss 15) "HTMLUnicodeInputStream." M1 6 1 626 92++
 ([tp [.none],tp [],tb [],tp (Lh (Jx (Ss 15 7)) 684),tp []]++
 (Sr (Ss 15 7) "HTMLUnicodeInputStream." 681 135 688 (R 134) M1++
 (HO (Ss 15) "HTMLUnicodeInputStream." M1 1 8 691 142++
 ([tp [.bool false],tp [],tb [],tp (Lh (Jx (Ss 15 9)) 703),tp []]++
 (Sr (Ss 15 9) "HTMLUnicodeInputStream." 700 150 709 (R 149) M1++
 (HO (Ss 15) "HTMLUnicodeInputStream." M1 1 10 712 157++
 ([tp (Jv S 1 ["_bufferedCharacter","chunk","chunkOffset","chunkSize","dataStream","errors","newLines","prevNumCols","prevNumLines","reportCharacterErrors"] 720),SW ([E P "__module__" 619 M1]++(Q8 P++[ER P "__dict__" 732 167,ER P "__weakref__" 734 168,E P "__doc__" 735 .none])) 4,CE "HTMLUnicodeInputStream" 166 165 85 612 620]++
 (OU 731 166++
 ([tp [I 0 740,.none],tp [],tb [],tp (Lh (Jx (st 17)) 744),tp []]++
 (Sr (st 17) "" 741 172 749 (R 171) M3++
 ([tp [.type "object"],Oj "type.__prepare__" (.type "type"),SW ([E P "__module__" 759 M3,ES P "__qualname__" 761 "Trie" 760]++Q7 P) 10,tp [],tb (KP (Ss 18) 0 191 6),MA "Trie" 754 144 182 181,Mw 184 3 181 M3]++
 (HO (Ss 18) "Trie." M3 6 0 764 186++
 ([tp (Jv S 1 ["_cachepoints","_cachestr","_data","_keys"] 815),SW ([E P "__module__" 759 M3]++(Q7 P++[ER P "__dict__" 821 231,ER P "__weakref__" 823 232,E P "__doc__" 824 .none])) 4,CE "Trie" 230 229 179 752 760]++
 (OU 820 230++
 ([SW [ER P "_data" 832 43,ER P "_keys" 834 243,ES P "_cachestr" 837 "" 835,ER P "_cachepoints" 842 246] 4,(⟨R 230,some 235,.plain,[].toArray⟩:Obj),(⟨.type "frame",none,.dict [E P "self" 829 (R 236),E P "data" 830 (R 43)].toArray 2,[].toArray⟩:Obj),(⟨.type "dict_keys",none,.fields [R 43].toArray,[].toArray⟩:Obj),Sw PB 45,(⟨.type "dict_keyiterator",none,.fields [.none,.int 43 0,.int 43 0,.int 43 0].toArray,[].toArray⟩:Obj),tp [],DP 241,Sw PB 2,tp PB,Sw [] 0,tp [I 0 838,I 43 840],tp [.type "object"],Oj "type.__prepare__" (.type "type"),SW ([E P "__module__" 851 M0,ES P "__qualname__" 853 "HTMLTokenizer" 852]++Q6 P) 76,tp [],tb (KP (Ss 21) 0 260 3++KP (Ss 21) 3 282 69),MA "HTMLTokenizer" 846 182 250 181,Mw 252 3 249 M0,tp [.none],tp [],tb [],tp (Lh (Jx (Ss 21 0)) 859),tp []]++
 (Sr (Ss 21 0) "HTMLTokenizer." 856 255 862 (R 254) M0++
 ([tp [],tb [],tp [S "self" 868],tp [],pr (Ss 21 1) "HTMLTokenizer.__iter__",(⟨.type "code",none,.fields [S "__iter__" 865,S "HTMLTokenizer.__iter__" 866,S "/claim/cut.py" 867,.int 193 0,.int 1 0,.int 0 0,.int 0 0,.int 35 0,R 262,.bool true,.int 181 0,R 263,.none,R 264,R 265,R 266,.int 869 0,.int 193 0,S "/claim/cut.py" 870].toArray,[].toArray⟩:Obj),fn (Ss 21 1) "HTMLTokenizer.__iter__" .none .none .none M0 (R 267) .none]++
 (HO (Ss 21) "HTMLTokenizer." M0 1 2 872 269++
 ([tp [.none,.bool false],tp [],tb [],tp (Lh (Jx (Ss 21 3)) 890),tp []]++
 (Sr (Ss 21 3) "HTMLTokenizer." 887 277 899 (R 276) M0++
 (HO (Ss 21) "HTMLTokenizer." M0 68 4 902 284++
 ([tp (Jv S 1 ["currentToken","escape","escapeFlag","lastFourChars","parser","state","stream","temporaryBuffer","tokenQueue"] 1441),SW ([E P "__module__" 851 M0]++(Q6 P++[ER P "__dict__" 1452 763,ER P "__weakref__" 1454 764,E P "__doc__" 1455 .none])) 4,CE "HTMLTokenizer" 762 761 247 844 852]++
 (OU 1451 762++
 ([Sw (Jv S 1 ["<title>","</title>","<STYLE/>","</style >","a","b c"," ","&amp;","<p>","</p>","<textarea >","</TEXTAREA>","<xmp>","</xmp>","<1","</1>","\x00","\x0d\x0a","\x01","&no;","&lt","</titles>","</sty>",">","<plaintext>","é","</title >","&","</style>","\x0d","&notin;","<Title/>"] 1460) 0]++
 (HO st "" M2 3 24 1493 768++
 (HO st "" M2 4 28 1513 789++
 ((Sv (st 32) 1549 817 1552 M2)++
 (HO st "" M2 2 33 1555 822++
 (Sv (st 35) 1583 836 1586 M2)))))))))))))))))))))))))))))))))))))
def SJ(P:Wx)(v:Wv)(n:Nat):Obj:=SW (E P "__name__" 165 v::(SI P).take n) (n+1)
def SH(n:Nat):Obj:=tb (Q3.take n)
noncomputable def env:Env:= {scope:=pw.main.scope,locals:=mainNs,globals:=mainNs,cells:=[],code:=(R 13),frame:=some 14}
noncomputable def cE:Code:=.body stmts env
def Pn(t:BT)(n k:Nat)(u:WB):SharedT:=⟨t,n, {}, #[], {},k,u⟩
def RJ(t:BT)(n k:Nat)(u:WB):Ww:=⟨absHeap t n {}, #[], {},k,u⟩
abbrev B:List Frame:=[topFrame ⟨0,0,0,0⟩]
set_option maxRecDepth 1000000
structure Bd where
 t:Wx->BT
 a:Nat
 k:Nat
 i:Nat
 p:Pos
def R8(n:Nat)(v:Wv)(g k:Nat)(P:Wx):BT:=S6 12 (Sk ((fin P).take n) [(3,SJ P v g),(12,SH k)])
def Nn:Bd:=⟨R8 15 M4 8 0,15,187,0,⟨0,0,0,0⟩⟩
def QV:Bd:=⟨R8 23 (S "html5lib.constants" 194) 11 3,23,203,4,⟨6,0,6,15⟩⟩
def QU:Bd:=⟨R8 28 (S "html5lib.constants" 194) 12 3,28,257,5,⟨7,0,7,12⟩⟩
def QT:Bd:=⟨R8 33 (S "html5lib.constants" 194) 13 3,33,269,6,⟨8,0,8,6⟩⟩
def QQ:Bd:=⟨R8 38 (S "html5lib.constants" 194) 14 3,38,293,7,⟨9,0,9,9⟩⟩
def QP:Bd:=⟨R8 43 (S "html5lib.constants" 194) 15 6,43,299,8,⟨10,0,11,78⟩⟩
def QO:Bd:=⟨R8 46 (S "html5lib.constants" 194) 16 6,46,429,9,⟨12,0,12,8⟩⟩
def QN:Bd:=⟨R8 48 (S "html5lib.constants" 194) 17 6,48,532,10,⟨13,0,13,21⟩⟩
def Nm:Bd:=⟨R8 49 (S "html5lib.constants" 194) 18 6,49,557,11,⟨14,0,14,10⟩⟩
def Nk:Bd:=⟨R8 50 (S "html5lib.constants" 194) 19 6,50,564,12,⟨15,0,15,13⟩⟩
def Nj:Bd:=⟨R8 50 M1 19 6,50,566,13,⟨16,0,16,8⟩⟩
def Ni:Bd:=⟨R8 78 M1 20 9,78,605,14,⟨17,0,26,19⟩⟩
def Nh:Bd:=⟨R8 85 M1 21 12,85,612,15,⟨27,0,28,210⟩⟩
def Ng:Bd:=⟨R8 171 M1 22 15,171,738,16,⟨29,0,132,59⟩⟩
def Nf:Bd:=⟨R8 179 M3 23 18,179,752,18,⟨134,0,143,14⟩⟩
def Nd:Bd:=⟨R8 235 M3 24 21,235,827,19,⟨144,0,179,30⟩⟩
def Nc:Bd:=⟨R8 235 M0 24 21,235,829,20,⟨180,0,180,8⟩⟩
def Nb:Bd:=⟨R8 247 M0 25 21,247,844,21,⟨181,0,181,12⟩⟩
def Na:Bd:=⟨R8 767 M0 26 24,767,1458,22,⟨182,0,1288,19⟩⟩
def M9:Bd:=⟨R8 789 M2 31 33,789,1513,28,⟨1297,0,1297,12⟩⟩
def M8:Bd:=⟨R8 822 M2 36 48,822,1555,33,⟨1322,0,1342,14⟩⟩
def MO(P:Wx):BT:=S6 12 (Sk ((fin P).take 841) [])
def HL:Bd:=⟨MO,841,1589,36,⟨1375,0,1410,114⟩⟩
abbrev QA(w:Wy)(u:WB)(n:Nat)(b:Bd)(j:Nat):=Fast.tw10110043849684766642 Fast.tw14364793385576792824 pw w 11 (some (R 6)) 1 n (Pn (b.t w.params) b.a b.k u) (piecesOf ((stmts.drop b.i).take j) env cE b.p B)
abbrev QR(w:Wy)(u:WB)(b:Bd):Option (Flow×SharedT×Code×Pos):=some (.next,Pn (b.t w.params) b.a b.k u,cE,b.p)
abbrev QS(w:Wy)(u:WB)(n:Nat)(b:Bd)(j:Nat):=segRunT treeTable pw w 11 (some (R 6)) 1 n (Pn (b.t w.params) b.a b.k u) (piecesOf ((stmts.drop b.i).take j) env cE b.p B)
def rr{n j:Nat}{x y:Bd}(h:∀w u,QA w u n x j=QR w u y):∀w u,QS w u n x j=QR w u y:=λw u=>by
 show Eq.trans ?_ (h w u);unfold QS QA;rw[Fast.te10110043849684766642,Fast.te14364793385576792824]
def r2{n j:Nat}{x y:Bd}(h:∀b w u,QA (World.withFollow w "special-get-raises" b) u n x j=QR (World.withFollow w "special-get-raises" b) u y):∀w u,QS w u n x j=QR w u y:=
 rr λw=>byRow2 "special-get-raises" (P:=λw=>∀u,QA w u n x j=QR w u y) (h false) (h true) w
def r_0:∀w u,QS w u 62 Nn 4=QR w u QV:=rr λw u=>by left
def r_4:∀w u,QS w u 784 QV 1=QR w u QU:=r2 λb w u=>by cases b<;>left
def r_5:∀w u,QS w u 196 QU 1=QR w u QT:=r2 λb w u=>by cases b<;>left
def r_6:∀w u,QS w u 364 QT 1=QR w u QQ:=r2 λb w u=>by cases b<;>left
def r_7:∀w u,QS w u 27 QQ 1=QR w u QP:=rr λw u=>by left
def r_8:∀w u,QS w u 826 QP 1=QR w u QO:=r2 λb w u=>by cases b<;>left
def r_9:∀w u,QS w u 563 QO 1=QR w u QN:=r2 λb w u=>by cases b<;>left
def afc:∀w u,QS w u 131 QN 1=QR w u Nm:=r2 λb w u=>by cases b<;>left
def afb:∀w u,QS w u 92 Nm 1=QR w u Nk:=r2 λb w u=>by cases b<;>left
def afa:∀w u,QS w u 10 Nk 1=QR w u Nj:=rr λw u=>by left
def ae9:∀w u,QS w u 261 Nj 1=QR w u Ni:=rr λw u=>by left
def ae8:∀w u,QS w u 30 Ni 1=QR w u Nh:=rr λw u=>by left
def ae7:∀w u,QS w u 550 Nh 1=QR w u Ng:=rr λw u=>by left
def ae6:∀w u,QS w u 45 Ng 2=QR w u Nf:=rr λw u=>by left
def ae5:∀w u,QS w u 393 Nf 1=QR w u Nd:=rr λw u=>by left
def ae4:∀w u,QS w u 10 Nd 1=QR w u Nc:=rr λw u=>by left
def ae3:∀w u,QS w u 1239 Nc 1=QR w u Nb:=r2 λb w u=>by cases b<;>left
def ae2:∀w u,QS w u 2518 Nb 1=QR w u Na:=rr λw u=>by left
def ae1:∀w u,QS w u 145 Na 6=QR w u M9:=rr λw u=>by left
def ae0:∀w u,QS w u 151 M9 5=QR w u M8:=rr λw u=>by left
def aeZ:∀w u,QS w u 99 M8 3=QR w u HL:=rr λw u=>by left
end
abbrev Cd:OpenLaw:=PySem.Challenge.rw_te0042_02
def uQ{tb:String->Option Builtin}{w:Wy}{d:Nat}{l:TM}{g:Pos}{n N:Nat}{s j:SharedT}{r:Ww}{i k:Nat}{c:Code}{u P:Pos}(h:segRunT tb pw w d l 1 n s (piecesOf ((stmts.drop i).take k) env c u [topFrame g])=some (.next,j,c,P))
  (x:topRun tb pw w d l N j.abs (restOf (stmts.drop (i+k)) env c P [topFrame g])=some r):topRun tb pw w d l (n+N) s.abs (restOf (stmts.drop i) env c u [topFrame g])=some r:=by
 have z:=piece_app (segRun_of h) x;have e:(stmts.drop i).take k++stmts.drop (i+k)=stmts.drop i:=by rw[←YI,Yc]
 rw[e]at z;show z
abbrev JP(w:Wy)(u:WB)(b:Bd):Ww:=RJ (b.t w.params) b.a b.k u
def on{w:Wy}{u:WB}{n j N:Nat}{x y:Bd}{r:Ww}(h:QS w u n x j=QR w u y)(z:topRun treeTable pw w 11 (some (R 6)) N (JP w u y) (restOf (stmts.drop (x.i+j)) env cE y.p B)=some r):
  topRun treeTable pw w 11 (some (R 6)) (n+N) (JP w u x) (restOf (stmts.drop x.i) env cE x.p B)=some r:=uQ h z
def ab2:behindTheImports pw=stmts:=by left
def acI(w:Wy)(u:WB):Fast.tw15667345088766844465 Fast.tw14364793385576792824 pw w 11 (some (R 6)) 12 ⟨boot_heap w.params,Array.mk [],boot_drawn,boot_toks,u⟩ (topStub pw)=some (JP w u Nn,⟨Fast.tw11892475500146522536 Fast.tw14364793385576792824 cE,cE,⟨0,0,0,0⟩,B⟩):=by left
def acH(w:Wy)(u:WB):topGo treeTable pw w 11 (some (R 6)) 12 ⟨boot_heap w.params,Array.mk [],boot_drawn,boot_toks,u⟩ (topStub pw)=some (JP w u Nn,⟨denote treeTable cE,cE,⟨0,0,0,0⟩,B⟩):=by
 have h:=acI w u;rw[←Fast.te15667345088766844465, ←Fast.te14364793385576792824, ←Fast.te11892475500146522536]at h;show h
def xD(w:Wy)(u:WB):segRun treeTable pw w 11 (some (R 6)) 1 1 (JP w u Nn) (blockOf stmts env cE ⟨0,0,0,0⟩ B)=some (.next,JP w u Nn,cE,⟨0,0,0,0⟩):=by left
def adF(w:Wy)(u:WB):topRun treeTable pw w 11 (some (R 6)) 2 (JP w u HL) (restOf (stmts.drop HL.i) env cE HL.p B)=some (JP w u HL):=by left
def run(w:Wy)(u:WB):topRun treeTable pw w 11 (some (R 6)) (12+(1+(62+(784+(196+(364+(27+(826+(563+(131+(92+(10+(261+(30+(550+(45+(393+(10+(1239+(2518+(145+(151+(99+2))))))))))))))))))))))) ⟨boot_heap w.params,Array.mk [],boot_drawn,boot_toks,u⟩ (topStub pw)=some (JP w u HL):=
 go_top (acH w u) (piece_block (xD w u) (on (r_0 w u) (on (r_4 w u) (on (r_5 w u) (on (r_6 w u) (on (r_7 w u) (on (r_8 w u) (on (r_9 w u) (on (afc w u) (on (afb w u) (on (afa w u) (on (ae9 w u) (on (ae8 w u) (on (ae7 w u) (on (ae6 w u) (on (ae5 w u) (on (ae4 w u) (on (ae3 w u) (on (ae2 w u) (on (ae1 w u) (on (ae0 w u) (on (aeZ w u) (adF w u)))))))))))))))))))))))
noncomputable def q:WA:= {pw with main:= {pw.main with body:=[st 35]}}
def Sy:List Str:=["_wall","EOF","spaceCharacters","asciiLetters","digits","hexDigits","asciiLower","entities","replacementCharacters","tokenTypes","tagTokenTypes","Text","_is_invalid","HTMLUnicodeInputStream","bisect_left","Trie","entitiesTrie","HTMLTokenizer","_law_PIECES","_law_KINDS","_law_STOPS","_law_BLANKS","_law_LETTERS","_law_told","_law_chars","_law_reference","_law_letters","_law_between","_law_markup","_law_stop"]
def H1(P:Wx):WH:=absHeap (MO P) 841 {}
def size(w:Wy):((boot_heap w.params).isNs mainGlobals&&(Array.mk []:Array GenState).size==0,(boot_heap w.params).objs.size,(boot_heap w.params).nsMap mainGlobals "__annotations__")=(true,11,some (R 6)):=by left
def acM(w:Wy):(fencedOpening treeTable pw w 20000).map (λs=>(s.heap,s.gens,s.drawn,s.toks))=some (boot_heap w.params,Array.mk [],boot_drawn,boot_toks):=boot_open (by left) (by decide+kernel) (λZ=>rfl) w
def afh:importedModules pw.main.body=[]:=by left
def ac7(w:Wy)(u:WB):(staticsOk [] (boot_heap w.params) (H1 w.params)&&namesBound pw (H1 w.params)&&gensDone ⟨H1 w.params, #[], {},1589,u⟩&&laidKept (boot_heap w.params) (H1 w.params))=true:=by left
def ac6(w:Wy)(u:WB):openSeen q Sy [] (λs=>recOk [] s) true ⟨H1 w.params, #[], {},1589,u⟩=openGood q loose:=by rw[Fast.te4187177175401517315];left
def left:LeftO pw q Sy (λs=>recOk [] s) (λs=>s.heap) (λw=>H1 w.params) 20000:=by
 show LeftO.of_pieces (H₁:=H1) acM size (λw u=>run w u) (by decide+kernel) λw=>?_;rw[afh];funext u;show Prod.ext (ac7 w u) (Prod.ext (ac6 w u) rfl)
def l1:sreFenced pw.main=true:=by rw[Fast.te11788848310118352699];decide+kernel
def l2:((moduleNames pw.main.body).isEmpty||lookedIntoSs (moduleNames pw.main.body) pw.main.body)=true:=by rw[Fast.te9807087744658564304,Fast.te12862048085361865435];decide+kernel
def l3:namesResolve pw=true:=by rw[Fast.te8377067652309620493];decide+kernel
def l4:(pw.boundNames.all λn=> !worldNames.contains n)=true:=by rw[Fast.te18344453789297297638,Fast.te14412699480532031325];simp only[Fast.te3471404346716756564];decide+kernel
def l5:noRoadLSs {strict:= !(importedModules pw.main.body).all cThrough.contains,foot:=none,bare:=(["vars","dir","locals"]:List Str).filter (readsOut pw pw.main.body)} pw.main.body=true:=by
 rw[Fast.te8326940854005059898,Fast.te5923862056798008813,Fast.te13343964577679436407];decide+kernel
def l6:(namesMeet pw pw.main.body λZ n=>attrL n)=true:=by
 rw[XH,Fast.te17868728402115742887];decide+kernel
def lo:looksOpen pw=true:=by
 unfold looksOpen;rw[l1,l2,l3,l4,l5,l6];rfl
def m1:Cd.row.partSaid=true:=by
 unfold OpenRow.partSaid;rw[show Cd.row.prog=pw from rfl,lo];decide+kernel
def m2:Cd.row.wellSaid=true:=by
 unfold OpenRow.wellSaid;rw[m1,Fast.te18344453789297297638,Fast.te12749700546528644094];decide+kernel
def n1:(decide (Cd.foot<=(behindTheImports Cd.prog).length)&&Cd.footing.all footLine)=true:=by rw[Fast.te10501279942588096481];decide+kernel
def n2:noClassBlock Cd.prog Cd.footing=true:=by rw[Fast.te8179353310426384613];decide+kernel
def n3:noRoadLSs {strict:=true,foot:=some Cd.bound',writes:=Cd.writes,may:=Cd.may} Cd.footing=true:=by
 rw[Fast.te8326940854005059898,Fast.te797321630700447069,Fast.te9572597257264208301];decide+kernel
def n4:defStands Cd.about Cd.above=true:=by rw[Fast.te9558739934217749035];decide+kernel
def n5:Cd.namesIt=true:=by rw[Fast.te16286561074155671207];decide+kernel
def n6:(Cd.bound'.all λn=> !builtinNamed n||Cd.about==[n]|| !Cd.reads n)=true:=by
 rw[Fast.te797321630700447069];simp only[Fast.te6984425678791042302];decide+kernel
def n7:(Cd.prog.main.body.flatMap importedNames).all (λn=> !Cd.reads n||(drawsOf n Cd.prog.main.body).all λd=>d.2 !=("attrgetter":Str)&&d.2 !=("methodcaller":Str))=true:=by decide+kernel
def n8:namesMeet Cd.prog Cd.footing (λO n=>(!(["type","isinstance","issubclass","getattr","hasattr"]:List Str).contains n||O.names.lookup n==some .globalImplicit)&&
  (Cd.may !=some n||O.kind== .module||O.names.lookup n==some .globalImplicit))=true:=by
 rw[XH];simp only[Fast.te9572597257264208301];decide+kernel
def n9:(Cd.own.contains Cd.name&&Cd.own.eraseDups.length==Cd.own.length&&Cd.own.all λn=> !builtinNamed n)=true:=by rw[Fast.te10792542408131684335];decide+kernel
def n10:namesMeet Cd.prog Cd.above (λZ n=> !Cd.own.contains n)=true:=by
 rw[XH];simp only[Fast.te10792542408131684335];decide+kernel
def n11:(namesMeet Cd.prog Cd.footing λO n=>O.kind== .module||O.names.lookup n !=some .globalExplicit)=true:=by
 rw[XH];decide+kernel
def n12:(Cd.most.all (λn=>decide (63<=n))&&Cd.bound.all λn=>decide (2 ^ 63<=n))=true:=by decide+kernel
def n13:(["type","isinstance","issubclass","getattr","hasattr"]:List String).all (λn=>Cd.about !=[(n:Str)])=true:=by decide+kernel
def aeO:Program.tablesWhole pw=true:=by decide+kernel
def zN:Cd.wellSaid=true:=by
 unfold OpenLaw.wellSaid;simp only[Zp];have N:=n1;have g:=n9;have d:=n12;simp only[Zp]at N g d;show⟨⟨⟨⟨⟨⟨⟨⟨⟨⟨⟨⟨⟨⟨⟨⟨⟨⟨m2,N.1⟩,N.2⟩,n2⟩,d.1⟩,d.2⟩,n3⟩,n4⟩,n5⟩,?_⟩,n6⟩,rfl⟩,n7⟩,n8⟩,g.1.1⟩,g.1.2⟩,g.2⟩,n10⟩,n11⟩;decide+kernel
def aeN:Cd.row.toRowW.promised:=⟨[.list []],by decide+kernel,by decide+kernel⟩
def YP(w:Wy)(h:WH):Prop:=∀b o,(H1 w.params).get? b=some o->h.get? b=some o
def I3:DefRec:=EX (st 35)
def bare:Cd.row.prog.bare:=⟨rfl,rfl,rfl,rfl,rfl,aeO⟩
def head(walk:WalkO q Sy (λZ Z=>True) YP Cd.row.toRowW I3 [] λf a=>PySem.call f a):Cd.Holds:=
 holds_law zN λg=>W.holds_open (r:=Cd.row) (q:=q) (loose:=Sy) (Xt:=λs=>recOk [] s) (XP:=λZ Z=>True) (Yf:=λs=>s.heap) (Ya:=λw=>H1 w.params) (YP:=YP) (d:=I3) (kwd:=[]) (N:=20000)
  left (λw s e b o x=>by rw[e];show x) (λw h l y k b o x=>k b o (y b o x)) (λZ Z=>trivial) (λZ Z Z Z Z=>trivial)
  (by left) (by left) (by left) (λs e=>recFacts_of e) (by decide+kernel) g (by decide+kernel) bare aeN walk
end Mine.Head
namespace Mine.B
section
open Mine.A
open Mine.Head
def kr:∀(l:TV) (k:Nat),(S6.odds l)[k]? =l[2*k]?
 | [],k=>by show(Option.map_inj_right λx y a=>a).mp rfl
 | [a],0=>rfl
 | [a],k+1=>by simp[S6.odds,Nat.mul_add]
 |a::b::r,0=>rfl
 |a::b::r,k+1=>by
  rw[kr r k,Nat.mul_add];rfl
def iP:∀(l:TV) (k:Nat),(S6.evens l)[k]? =l[2*k+1]?
 | [],k=>by show(Option.map_inj_right λx y a=>a).mp rfl
 | [a],k=>by simp[S6.evens]
 |a::b::r,0=>rfl
 |a::b::r,k+1=>by
  rw[iP r k,Nat.mul_add];rfl
def kq:∀l:TV,2*(S6.odds l).length<=l.length+1
 | []=>by show ZR (2*(S6.odds []).length) 1
 | [a]=>by show Z0 (2*(S6.odds [a]).length) [].length
 |a::b::r=>by have:=kq r;simp only[S6.odds,Zj];show ZV this 2
def iO:∀l:TV,2*(S6.evens l).length<=l.length
 | []=>by show ZQ rfl
 | [a]=>by show ZQ rfl
 |a::b::r=>by have:=iO r;simp only[S6.evens,Zj];show ZV this 2
def mW:∀(n:Nat) (l:TV),l.length<2 ^ n->∀i,(S6 n l).get i=l[i]?
 |0,l,h,i=>by
  have:=List.length_eq_zero_iff.mp (Nat.lt_one_iff.mp h);subst this;simp[S6,BT.get]
 |n+1,[],h,i=>by show(Option.map_inj_right λx y a=>a).mp rfl
 |n+1,o::r,h,i=>by
  rw[Nat.pow_succ,Zj]at h;have U:=kq r;have N:=iO r;rw[BT.get_node,mW n _ (by lia),mW n _ (Nat.lt_of_mul_lt_mul_right (a:=2) (Yb (Zh (Zz (Nat.mul_comm _ 2)) N) (Nat.lt_of_succ_lt h))),kr,iP];cases i with
  |zero=>rfl
  |succ i=>
   rw[Zi (Nat.succ_ne_zero i),List.getElem?_cons_succ];split
   ·congr 1;lia
   ·congr 1;lia
def oY(P:Wx):(fin P).length=841:=by left
noncomputable def whole(o:Obj):Bool:=match o.data with| .freed=>false|_=>true
def qs(P:Wx):(fin P).all whole=true:=by left
def Ck(P:Wx)(a:WD):Obj:=(fin P).getD a default
def bq(P:Wx)(h:a<841):(H1 P).get? a=some (Ck P a):=by
 have D:a<(fin P).length:=by rw[oY];show h
 have e:(fin P)[a]? =some (Ck P a):=by
  unfold Ck;rw[Yy,Zy D];rfl
 have v:=Zd (qs P) _ (List.mem_of_getElem? e);have Z:(H1 P).objs[a]? =some (Ck P a):=by
  rw[absHeap_at,Zk h];rw[mW 12 _ (by rw[ZG,oY];decide),e];rfl
 unfold Heap.get?;rw[Z];generalize Ck P a=o at v;obtain⟨Sp,So,Sn,j⟩:=o;cases Sn<;>first|rfl|cases v
def iU(P:Wx):(H1 P).objs.size=841:=absHeap_size _ _ _
def PA(i:Nat):Wu:=⟨(List.replicate (i+1000) 0).toArray⟩
abbrev dS(n:Nat):Wu:=⟨(SV n).toArray⟩
def RS:TL:=[SV 0x646e65707061,SV 0x706f70,SV 0x6e696f6a,SV 0x6563616c706572,SV 0x746e756f63,SV 0x646e696672,SV 0x74696c7073,SV 0x7265776f6c,SV 0x7265707075,SV 0x68746977737472617473,SV 0x646e6966,SV 0x746567,SV 0x657461647075,SV 0x7865646e69,SV 0x7379656b,SV 0x5f736168,[0],[1],[2],[3],[4],[5],[6],[7],[8],[9],[10],[11],[12],[13],[14],[15],SV 0x464f45,SV 0x72657a696e656b6f544c4d5448,SV 0x6d61657274537475706e4965646f63696e554c4d5448,SV 0x726f72724579654b,SV 0x74786554,[16],[17],[18],[19],SV 0x72657463617261684364657265666675625f,SV 0x73746e696f7065686361635f,SV 0x72747365686361635f,SV 0x617461645f,SV 0x657a69536b6e756843746c75616665645f,SV 0x64696c61766e695f73695f,SV 0x7379656b5f,SV 0x534b4e414c425f77616c5f,[20],[21],[22],[23],SV 0x53444e494b5f77616c5f,SV 0x5352455454454c5f77616c5f,[24],[25],[26],[27],[28],[29],SV 0x5345434549505f77616c5f,[30],[31],SV 0x53504f54535f77616c5f,[32],SV 0x6e6565777465625f77616c5f,SV 0x73726168635f77616c5f,[33],[34],[35],SV 0x7372657474656c5f77616c5f,SV 0x70756b72616d5f77616c5f,[36],[37],[38],SV 0x65636e6572656665725f77616c5f,[39],[40],[41],SV 0x706f74735f77616c5f,[42],SV 0x646c6f745f77616c5f,[43],[44],SV 0x6e6f697469736f705f,[45],[46],[47],[48],[49],[50],[51],[52],[53],[54],[55],SV 0x726168436465776f6c6c61,SV 0x6574616972706f72707061,SV 0x7372657474654c6969637361,SV 0x7265776f4c6969637361,SV 0x6574617453656d614e657475626972747461,[56],[57],[58],[59],[60],SV 0x6574617453656d614e65747562697274744165726f666562,[61],[62],[63],[64],[65],[66],SV 0x7466656c5f746365736962,SV 0x6b6e616c62,SV 0x6574617453746e656d6d6f437375676f62,[67],SV 0x63,SV 0x72616863,[68],SV 0x6b6361745372616863,SV 0x3453435573726f727245726574636172616863,SV 0x6174616463526e4965636e657265666552726574636172616863,SV 0x73726574636172616863,SV 0x7372616863,SV 0x6c69746e557372616863,[69],SV 0x726863,SV 0x6b6e756863,SV 0x74657366664f6b6e756863,SV 0x657a69536b6e756863,SV 0x65746174536e65704f67615465736f6c63,SV 0x676e69736f6c63,SV 0x746e696f7065646f63,SV 0x6c6f63,[70],[71],[72],[73],[74],[75],SV 0x797469746e45656d75736e6f63,SV 0x797469746e457265626d754e656d75736e6f63,SV 0x6e656b6f54746e6572727563,SV 0x61746164,SV 0x657461745361746164,SV 0x6d616572745361746164,SV 0x74636964,SV 0x737469676964,[76],[77],[78],[79],[80],[81],[82],SV 0x657564,SV 0x6e656b6f54746e657272754374696d65,[83],SV 0x646e65,[84],SV 0x7365697469746e65,SV 0x656972547365697469746e65,SV 0x657461745361746144797469746e65,SV 0x6874676e654c797469746e65,SV 0x656d614e797469746e65,[85],SV 0x73726f727265,SV 0x657061637365,SV 0x67616c46657061637365,[86],SV 0x746c756166,SV 0x79746c756166,[87],[88],SV 0x6574756269727474416d6f7266,SV 0x746f67,SV 0x7869666572705f687469775f7379656b5f736168,[89],SV 0x786568,SV 0x737469676944786568,SV 0x6968,SV 0x68676968,SV 0x69,[90],[91],[92],[93],[94],SV 0x79656b,SV 0x646e696b,SV 0x6e776f6e6b,[95],SV 0x737261684372756f467473616c,SV 0x736f50656e694c7473616c,SV 0x767473616c,[96],SV 0x6e656c,SV 0x656e696c,SV 0x73656e696c,SV 0x6f6c,SV 0x747365676e6f6c,SV 0x7869666572705f747365676e6f6c,SV 0x776f6c,[97],[98],SV 0x65746174536e65704f6e6f69746172616c63654470756b72616d,[100],SV 0x78616d,SV 0x6465646e656d,SV 0x656c6464696d,SV 0x6e696d,SV 0x6e,SV 0x73656e694c6e,SV 0x656d616e,SV 0x73656e694c77656e,[101],[102],SV 0x737265626d756e,[103],SV 0x74657366666f,SV 0x6d61657274536e65706f,[104],[106],SV 0x657469736f70706f,SV 0x64726f,[107],[108],SV 0x74757074756f,[109],SV 0x72696170,SV 0x726573726170,SV 0x74726170,[111],SV 0x6563656970,[112],SV 0x6563616c70,SV 0x6574617453747865746e69616c70,SV 0x6e6f697469736f70,SV 0x6e6d756c6f436e6f697469736f70,SV 0x656e694c6e6f697469736f70,SV 0x786966657270,SV 0x736c6f436d754e76657270,SV 0x73656e694c6d754e76657270,[113],[115],[116],SV 0x72,[117],SV 0x65676e6172,SV 0x776172,SV 0x6574617453656d614e676154646e4574786574776172,SV 0x65746174536e65704f676154646e4574786574776172,SV 0x65746174536e6769536e6168547373654c74786574776172,SV 0x657461745374786574776172,SV 0x6574617453656d614e676154646e45617461646372,SV 0x65746174536e65704f676154646e45617461646372,SV 0x65746174536e6769536e6168547373654c617461646372,SV 0x6574617453617461646372,SV 0x64616572,SV 0x6b6e75684364616572,[118],[119],SV 0x73726f72724572657463617261684374726f706572,SV 0x7465736572,[120],SV 0x776f72,SV 0x73776f72,SV 0x7672,[121],SV 0x656d6173,SV 0x747069726373,[122],[123],[124],[125],[126],[127],[128],[129],[130],[131],[132],[133],[134],[135],[136],[137],[138],[139],[140],SV 0x666c6573,SV 0x65746174536761547472617453676e69736f6c43666c6573,[141],SV 0x6e676973,SV 0x657a6973,SV 0x6873616c73,[142],SV 0x656372756f73,SV 0x737265746361726168436563617073,SV 0x7472617473,SV 0x6574617473,SV 0x706f7473,[143],SV 0x6d6165727473,SV 0x6574617453656d614e676174,SV 0x65746174536e65704f676174,SV 0x73657079546e656b6f54676174,[144],SV 0x726566667542797261726f706d6574,SV 0x74786574,SV 0x6e656b6f74,SV 0x65756575516e656b6f74,SV 0x657079546e656b6f74,SV 0x73657079546e656b6f74,SV 0x72657a696e656b6f74,SV 0x736e656b6f74,SV 0x646c6f74,[145],[146],SV 0x7465676e75,[147],[148],[149],[150],[151],[152]]
def Hn:TP:=RS.map λl=>⟨l.toArray⟩
abbrev AW:WJ:=(SV 0x5a595857565554535251504f4e4d4c4b4a4948474645444342417a797877767574737271706f6e6d6c6b6a696867666564636261)
def P8(l:WJ):V:=.c (.tup (l.map λc=>.str [c]))
def AA:V:=P8 AW
def Fp:V:=P8 [48,49,50,51,52,53,54,55,56,57]
def EL:V:=P8 (SV 0x46454443424166656463626139383736353433323130)
def NY:TG:=[([65,77,80],.str [38]),([65,77,80,59],.str [38]),([69,97,99,117,116,101],.str [201]),([69,97,99,117,116,101,59],.str [201]),([77,111,112,102,59],.str [120132]),([97,99,59],.str [8766]),([97,99,69,59],.str [8766,819]),([97,99,117,116,101],.str [180]),([97,99,117,116,101,59],.str [180]),([97,109,112],.str [38]),([97,109,112,59],.str [38]),([97,110,103,59],.str [8736]),([97,110,103,108,101,59],.str [8736]),([98,110,101,59],.str [61,8421]),([99,111,112,121],.str [169]),([99,111,112,121,59],.str [169]),([101,97,99,117,116,101],.str [233]),((SV 0x3b657475636165),.str [233]),([102,114,97,99,49,50],.str [189]),([102,114,97,99,49,50,59],.str [189]),([103,116],.str [62]),([103,116,59],.str [62]),([108,116],.str [60]),([108,116,59],.str [60]),([110,98,115,112],.str [160]),([110,98,115,112,59],.str [160]),([110,111,116],.str [172]),([110,111,116,59],.str [172]),((SV 0x3b6e69746f6e),.str [8713]),((SV 0x3b696e746f6e),.str [8716]),([112,97,114,97],.str [182]),([112,97,114,97,59],.str [182]),((SV 0x3b6c656c6c61726170),.str [8741]),([113,117,111,116],.str [34]),([113,117,111,116,59],.str [34]),([115,117,112,49],.str [185]),([115,117,112,49,59],.str [185]),([115,117,112,50],.str [178]),([115,117,112,50,59],.str [178]),([115,117,112,59],.str [8835]),([116,105,109,101,115],.str [215]),((SV 0x3b73656d6974),.str [215]),((SV 0x3b6273656d6974),.str [8864])]
def A0:V:=.c (.An NY)
def Ad:V:=.c (.An [((SV 0x65707974636f44),.int 0),(Qz,.int 1),(Tb,.int 2),(Tc,.int 3),(Td,.int 4),((SV 0x6761547974706d45),.int 5),(Te,.int 6),(Tf,.int 7)])
def Ih:TL:=[(SV 0x3e656c7469743c),(SV 0x3e656c7469742f3c),[60,83,84,89,76,69,47,62],(SV 0x3e20656c7974732f3c),[97],[98,32,99],[32],[38,97,109,112,59],[60,112,62],[60,47,112,62],(SV 0x3e2061657261747865743c),(SV 0x3e41455241545845542f3c),[60,120,109,112,62],[60,47,120,109,112,62],[60,49],[60,47,49,62],[0],[13,10],[1],[38,110,111,59],[38,108,116],(SV 0x3e73656c7469742f3c),[60,47,115,116,121,62],[62],(SV 0x3e747865746e69616c703c),[233],(SV 0x3e20656c7469742f3c),[38],(SV 0x3e656c7974732f3c),[13],(SV 0x3b6e69746f6e26),(SV 0x3e2f656c7469543c)]
def CU:V:=.c (.lst (Ih.map .str))
def Dx:V:=.c (.str AW)
def I9:List (Wu×V):=[
 (dS 0x464f45,.c .Ak),
 (dS 0x737265746361726168436563617073,.c (.tup [.str [9],.str [10],.str [12],.str [32],.str [13]])),
 (dS 0x7372657474654c6969637361,AA),
 (dS 0x737469676964,Fp),
 (dS 0x737469676944786568,EL),
 (dS 0x7265776f4c6969637361,.st 42),
 (dS 0x7365697469746e65,A0),
 (dS 0x73657079546e656b6f74,Ad),
 (dS 0x73657079546e656b6f54676174,.c (.tup [.int 3,.int 4,.int 5])),
 (dS 0x74786554,.st 73),
 (dS 0x64696c61766e695f73695f,.st 84),
 (dS 0x6d61657274537475706e4965646f63696e554c4d5448,.st 166),
 (dS 0x7466656c5f746365736962,.st 178),
 (dS 0x656972547365697469746e65,.st 236),
 (dS 0x72657a696e656b6f544c4d5448,.st 762),
 (dS 0x5345434549505f77616c5f,CU),
 (dS 0x53444e494b5f77616c5f,.st 774),
 (dS 0x53504f54535f77616c5f,.st 781),
 (dS 0x534b4e414c425f77616c5f,.st 788),
 (dS 0x5352455454454c5f77616c5f,Dx),
 (dS 0x646c6f745f77616c5f,.st 795),
 (dS 0x73726168635f77616c5f,.st 802),
 (dS 0x65636e6572656665725f77616c5f,.st 809),
 (dS 0x7372657474656c5f77616c5f,.st 816),
 (dS 0x6e6565777465625f77616c5f,.st 821),
 (dS 0x70756b72616d5f77616c5f,.st 828),
 (dS 0x706f74735f77616c5f,.st 835),
 (dS 0x77616c,.st 840)]
def NR(a:Nat):Bool:=[73,166,230,762].contains a
noncomputable def blt(x:Wu):TX:=Fu x [dS 0x6e656c,dS 0x64726f,dS 0x726863,dS 0x65676e6172,dS 0x74636964,dS 0x78616d,dS 0x6e696d,dS 0x746e69,dS 0x32676e72,dS 0x65746172656d756e65,dS 0x646574726f73] 0
def P0(n:Nat):Bool:=or (beq n 1398) (beq n 255)
def SY:CP:=⟨Hn,P0,λx=>I9.lookup x,NR,blt⟩
def LG:List (Nat×Nat):=[(260,70)]
def CB:List (Nat×Nat):=[(265,105),(222,112),(85,119),(239,126),(119,133),(261,141),(122,148),(126,156),(321,163)]
def IZ:List (Nat×Nat):=[(178,220),(203,227)]
def EW:List (Nat×Nat):=[(142,283),(158,297),(146,304),(164,311),(259,318),(123,325),(255,332),(238,346),(307,353),(132,360),(306,367),(258,374),(257,381),(256,388),(254,395),(253,402),(252,409),(107,535),(293,591),(116,598)]
def Ke:List (Nat×List (Nat×Nat)):=[(73,LG),(166,CB),(230,IZ),(762,EW),(236,IZ)]
def JO:List (Nat×Tw):=[(166,[(45,.c (.int 10240))]),
 (236,[(44,A0),(47,.c (.lst (NY.map λp=>.str p.1))),(43,.c (.str [])),(42,.c (.tup [.int 0,.int 43]))])]
def Dy:WJ:=[42,63,70,84,98,105,112,119,126,133,141,148,156,163,178,199,220,227,261,268,283,297,304,311,318,325,332,346,353,360,367,374,381,388,395,402,409,535,591,598,774,781,788,795,802,809,816,828,835,840]
def PV:WJ:=[73,72,166,165,230,229,762,761,236,235,821]++Dy
def IS:List (Nat×WJ):=[(73,[311,237]),(166,[264,216,147,129,131,130,168,244,243,41]),(762,[305,232,170,194,302,169,144,313,310])]
def Eu:List (Nat×Nat):=[(73,3),(166,2),(762,1)]
def I8:List (Nat×Nat):=[(73,63),(166,98),(762,261)]
def F9:List (Nat×Nat):=[(313,5),(168,6),(194,8),(216,9),(144,32)]
noncomputable def nm(i:Nat):Wu:=(Hn[i]?).getD (PA i)
def p6:(Hn.all λx=>Nat.blt x.cps.toList.length 1000)=true:=by decide+kernel
noncomputable def key(s:Wu):Nat:=s.cps.toList.foldl (λa c=>a*2097152+c+1) 0
def IW(l:WJ):Bool:=List.rec true (λx r Q=>and (r.all λy=> !beq x y) Q) l
def kx{y:Type}(f:y->Nat){l:List y}(h:IW (l.map f)=true):l.Nodup:=by
 induction l with
 |nil=>show .nil
 |cons x r Q=>
  show zA (ar h) λU N=>List.nodup_cons.mpr ⟨λO=>?_,Q N⟩;have:=Zd U (f x) (Xr O);replace this:=(Nat.beq_refl _)▸this;show a7 this
def ou:Hn.Nodup:=kx key (by decide+kernel)
def vX:(Hn.all λx=> !(x==("__debug__":Wu)))=true:=by decide+kernel
def sI(i j:Nat)(h:nm i=nm j):i=j:=by
 have len:∀i,i<Hn.length->(nm i).cps.toList.length<1000:=λi hi=>by
  show ZJ (Z4 _) (ZQ (Zd p6 (nm i) (by unfold nm;rw[Zy hi];show Xh hi)))
 have A:∀i,¬i<Hn.length->(nm i).cps.toList.length=i+1000:=λi hi=>by
  unfold nm;rw[Xm (YN.mp hi)];change(PA i).cps.toList.length=_;unfold PA;simp
 by_cases hi:i<Hn.length<;>by_cases Q:j<Hn.length
 ·unfold nm at h;rw[Zy hi,Zy Q]at h;have h:Hn[i]=Hn[j]:=h;rcases Nat.lt_trichotomy i j with l|l|l
  ·show T4 h (List.pairwise_iff_getElem.mp ou i j hi Q l)
  ·show l
  ·show T4 h.symm (List.pairwise_iff_getElem.mp ou j i Q hi l)
 ·have:=len i hi;rw[h,A j Q]at this;lia
 ·have:=len j Q;rw[←h,A i hi]at this;lia
 ·have:=A i hi;rw[h,A j Q]at this;show Nat.add_right_cancel (id (YS this))
def yJ:∀ {k i:Nat},Fu x l k=some i->k<=i/\l[i-k]? =some x:=by
 induction l with
 |nil=>intro k i h;show aw h
 |cons y r Q=>
  intro k i h;unfold Fu at h;by_cases e:x=y
  ·rw[Zk e]at h;obtain rfl:=Zf h;show⟨Zq _,by rw[Nat.sub_self,e];rfl⟩
  ·rw[Zi e]at h;show zA (Q h) λa b=>⟨Yj a,?_⟩
   rw[show i-k=(i-(k+1))+1 from(Nat.sub_add_cancel (Nat.sub_pos_of_lt a)).symm];show b
def xp(h:SY.code x=some i):nm i=x/\(x==("__debug__":Wu))=false:=by
 have e:=(yJ h).2;show⟨?_,?_⟩
 ·unfold nm;rw[show Hn[i]? =some x from e];rfl
 ·simpa using (Zd vX x (List.mem_of_getElem? e))
def Ai(w:Wy):Cx:=⟨pw,w,nm,sI,H1 w.params,by rw[iU];decide⟩
def GO(v:Wv):Option (Wu×Tok):=Value.casesOn (motive:=λZ=>Option (Wu×Tok)) v none none none (λZ=>none) (λZ Z=>none) (λZ Z=>none) (λs t=>some (s,t)) (λZ Z=>none) (λZ=>none) (λZ=>none) (λZ=>none)
def ML(v:Wv):Option (Int×Tok):=Value.casesOn (motive:=λZ=>Option (Int×Tok)) v none none none (λZ=>none) (λi t=>some (i,t)) (λZ Z=>none) (λZ Z=>none) (λZ Z=>none) (λZ=>none) (λZ=>none) (λZ=>none)
def JF(v:Wv):Option WD:=Value.casesOn (motive:=λZ=>Option WD) v none none none (λZ=>none) (λZ Z=>none) (λZ Z=>none) (λZ Z=>none) (λZ Z=>none) (λZ=>none) (λZ=>none) (λa=>some a)
def gG(h:GO v=some p):v=.str p.1 p.2:=by
 induction v using Value.casesOn with
 |str s t=>obtain rfl:=Zf h;rfl
 |_=>show aw h
def ze(h:ML v=some p):v=.int p.1 p.2:=by
 induction v using Value.casesOn with
 |int s t=>obtain rfl:=Zf h;rfl
 |_=>show aw h
def iX(h:JF v=some a):v=.ref a:=by
 induction v using Value.casesOn with
 |ref s=>show T3 Value.ref (Zf h)
 |_=>show aw h
def Kc(d:Data):Option (Array Wv×Nat):=Data.casesOn (motive:=λZ=>Option (Array Wv×Nat)) d none (λZ=>none) (λa n=>some (a,n)) (λZ Z=>none) (λZ Z Z=>none) (λZ Z=>none) (λZ=>none) (λZ=>none) (λZ=>none) (λZ=>none) none
def LV(d:Data):Option (Array WC×Nat):=Data.casesOn (motive:=λZ=>Option (Array WC×Nat)) d none (λZ=>none) (λZ Z=>none) (λa n=>some (a,n)) (λZ Z Z=>none) (λZ Z=>none) (λZ=>none) (λZ=>none) (λZ=>none) (λZ=>none) none
def Kd(d:Data):Option FuncData:=Data.casesOn (motive:=λZ=>Option FuncData) d none (λZ=>none) (λZ Z=>none) (λZ Z=>none) (λZ Z Z=>none) (λZ Z=>none) (λZ=>none) (λf=>some f) (λZ=>none) (λZ=>none) none
def NZ(d:Data):Option (Array Wv):=Data.casesOn (motive:=λZ=>Option (Array Wv)) d none (λZ=>none) (λZ Z=>none) (λZ Z=>none) (λZ Z Z=>none) (λZ Z=>none) (λZ=>none) (λZ=>none) (λZ=>none) (λa=>some a) none
def uv(h:Kc d=some p):d=.seq p.1 p.2:=by
 induction d using Data.casesOn with
 |seq s t=>obtain rfl:=Zf h;rfl
 |_=>show aw h
def abc(h:LV d=some p):d=.dict p.1 p.2:=by
 induction d using Data.casesOn with
 |dict s t=>obtain rfl:=Zf h;rfl
 |_=>show aw h
def uw(h:Kd d=some p):d=.func p:=by
 induction d using Data.casesOn with
 |func s=>show T3 Data.func (Zf h)
 |_=>show aw h
def ux(h:NZ d=some p):d=.fields p:=by
 induction d using Data.casesOn with
 |fields s=>show T3 Data.fields (Zf h)
 |_=>show aw h
def DG(e:WC):Wu:=Option.rec ⟨#[]⟩ (λp=>p.1) (GO e.key)
def Df(o:Obj):List WC:=Option.rec [] (λp=>p.1.toList) (LV o.data)
def J7(o:Obj)(n:String):Bool:=and (o.cls== .type n) (and o.dict.isNone o.slots.isEmpty)
def oK(h:J7 o n=true):o.cls=.type n/\o.dict=none/\o.slots= #[]:=by
 show zA (ar h) λU N=>zA (ar N) λN D=>⟨eq_of_beq U,Xo.mp N,Array.isEmpty_iff.mp D⟩
noncomputable def at_(P:Wx)(v:Wv)(n:String)(k:WD->Obj->Bool):Bool:=ob (JF v) λa=>and (Nat.blt a 841) (and (J7 (Ck P a) n) (k a (Ck P a)))
def Pm(P:Wx)(n:String)(len:Nat)(Q:TN->Bool)(v:Wv):Bool:=at_ P v n λZ o=>ob (Kc o.data) λp=>and (Q p.1.toList) (ble len 16777216)
def Jl{y j:Type}(p:y->j->Bool)(l:List y):List j->Bool:=List.rec (motive:=λZ=>List j->Bool) (λm=>m.isEmpty) (λa Z Q m=>List.rec false (λb t Z=>and (p a b) (Q t)) m) l
def Q1(Q:FV->Wv->Bool)(q:WJ×FV)(e:WC):Bool:=ob (GO e.key) λs=>and (Cn s.1.cps.toList q.1) (Q q.2 e.val)
def Rb(Q:FV->Wv->Bool)(l:TG)(a:WD)(o:Obj):Bool:=and (List.contains [43,48] a) (and (decide ((l.map (·.1)).Nodup)) (ob (LV o.data) λp=>and (Jl (Q1 Q) l p.1.toList) (ble l.length 16777216)))
def Pu(P:Wx)(n:Nat):FV->Wv->Bool:=
 Nat.rec (motive:=λZ=>FV->Wv->Bool) (λZ Z=>false) (λZ Q f v=>FV.casesOn (motive_1:=λZ=>Bool) f (v== .none) (λb=>v== .bool b) (λi=>ob (ML v) λp=>decide (p.1=i))
  (λl=>ob (GO v) λp=>and (Cn p.1.cps.toList l) (ble l.length 16777216)) (λl=>Pm P "tuple" l.length (Jl Q l) v) (λl=>Pm P "list" l.length (Jl Q l) v)
  (λl=>at_ P v "dict" (Rb Q l))) n
def gv(h:Cn s.cps.toList l=true):s=CH l:=by
 rw[aE]at h;obtain rfl:=Zm h;show(T3 PySem.Str.mk (Array.toArray_toList)).symm
def Mn(P:Wx):Prop:=∀a,List.contains [43,48] a=true->(Df (Ck P a)).map (·.hash)=(Df (Ck P a)).map λe=>PyData.keyHash P (DG e)
def aaM(P:Wx):Mn P:=by
 intro a h;have h:a=43\/a=48:=by simpa using h
 rcases h with rfl|rfl
 ·show show(Df (Ck P 43)).map (·.hash)=(Df (Ck P 43)).map λe=>PyData.keyHash P (DG e) by left
 ·show show(Df (Ck P 48)).map (·.hash)=(Df (Ck P 48)).map λe=>PyData.keyHash P (DG e) by left
def abb(Q:List.contains [43,48] a=true)(U:J7 (Ck w.params a) "dict"=true)(b:(Ck w.params a).data=.dict y s)
  (j:∀e∈y.toList,∃t,e.key=.str (DG e) t) (c:((y.toList.map λe=>(DG e,e.val)).map (·.1)).Nodup):Di (PySem.strKind (Ai w).Aa w) (Ck w.params a) (y.toList.map λe=>(DG e,e.val)):=by
 have u:=aaM w.params a Q;have N:Df (Ck w.params a)=y.toList:=by unfold Df;rw[b];rfl
 rw[N]at u;show(bj y s (oK U) b (λe O=>?_) ?_ c)
 ·have O:=Array.mem_toList_iff.mpr O;obtain⟨t,D⟩:=j e O;show(aO (DG e) (by rw[D];show Xf (DG e)) ?_);have:e.hash=PyData.keyHash w.params (DG e):=by
   obtain⟨i,hi,rfl⟩:=List.getElem_of_mem O;simpa[Xq,Zy hi] using (T3 (·[i]?) u)
  rw[this];rfl
 ·clear N u b c;generalize y.toList=l at j;induction l with
  |nil=>show .nil
  |cons e r f=>
   obtain⟨t,D⟩:=j e (.head _);show .cons ?_ rfl (f λe N=>j e (.tail _ N));rw[D];show Xf (DG e)
def aeu(h:at_ P v n k=true):∃a,v=.ref a/\a<841/\J7 (Ck P a) n=true/\k a (Ck P a)=true:=by
 obtain⟨a,e,h⟩:=cP h;show zA (ar h) λU h=>zA (ar h) λN h=>(aY a (iX e) (cb U) N h)
def yk(h:Pm w.params n len Q v=true):∃a Z o,v=.ref a/\(Ai w).base.get? a=some o/\Ca n o Z/\Q Z=true/\len<=16777216:=by
 obtain⟨a,rfl,f,c,h⟩:=aeu h;obtain⟨p,e,h⟩:=cP h;obtain⟨i,A⟩:=ar h;show(aM a p.1.toList _ rfl (bq w.params f) (yE p.2 ?_) i (bz A));obtain⟨U,b,D⟩:=oK c;have N:=uv e;generalize Ck w.params a=o at U b D N;obtain⟨Sp,So,Sn,j⟩:=o;subst U b D N;rfl
def oH(h:GO e.key=some p):DG e=p.1:=by unfold DG;rw[h]
def rR(hi:∀f v,Q f v=true->RF (Ai w).Aa w (Ai w).base.get? v f):∀ {Z:TN},Jl Q l Z=true->Ba (Ai w).Aa w (Ai w).base.get? Z l:=by
 induction l with
 |nil=>intro Z h;obtain rfl:=Ze h;show .nil
 |cons f l D=>
  intro Z h;induction Z using Re with
  |nil=>show a7 h
  |cons v Z=>show zA (ar h) λU N=>?_;show .cons (hi f v U) (D N)
def zS(hi:∀f v,Q f v=true->RF (Ai w).Aa w (Ai w).base.get? v f):∀ {y:List WC},Jl (Q1 Q) l y=true->
  (∀e∈y,∃t,e.key=.str (DG e) t)/\Eh (Ai w).Aa w (Ai w).base.get? (y.map λe=>(DG e,e.val)) l/\(y.map λe=>(DG e,e.val)).map (·.1)=(l.map (·.1)).map CH:=by
 induction l with
 |nil=>intro y h;obtain rfl:=Ze h;show⟨λZ h=>(Yl h).elim,.nil,rfl⟩
 |cons f l b=>
  intro y h;induction y using Re with
  |nil=>show a7 h
  |cons e y=>
   show zA (ar h) λa c=>cu (b c) λN u g=>?_;obtain⟨p,U,a⟩:=cP a;show zA (ar a) λi A=>?_;have D:=(oH U).trans (gv i);show⟨λx P=>?_,?_,congr (T3 List.cons D) g⟩
   ·rcases Zb P with rfl|P
    ·show⟨p.2,(gG U).trans (by rw[oH U])⟩
    ·show N x P
   ·rw[Ye,D];show .cons (hi _ _ A) u
def acD(w:Wy)(n:Nat):∀f v,Pu w.params n f v=true->RF (Ai w).Aa w (Ai w).base.get? v f:=by
 induction n with
 |zero=>intro f v h;show a7 h
 |succ n Q=>
  intro f v h;induction f using FV.casesOn with
  |Ak=>show eq_of_beq h▸ .Ak
  |Ae b=>show eq_of_beq h▸ .Ae b
  |int i=>obtain⟨p,e,h⟩:=cP h;show(ze e).trans (by rw[Zm h])▸ .int i p.2
  |str l=>
   obtain⟨p,e,h⟩:=cP h;show zA (ar h) λU N=>(gG e).trans (by rw[gv U])▸ .str l p.2 (bz N)
  |tup l=>show aK (yk h) λa Z o z U N D A=>?_;subst z;show .tup U N (rR Q D) A
  |lst l=>show aK (yk h) λa Z o z U N D A=>?_;subst z;show .lst U N (rR Q D) A
  |An l=>
   obtain⟨a,rfl,U,N,h⟩:=aeu (k:=Rb (Pu w.params n) l) h;obtain⟨u,h⟩:=ar h;obtain⟨j,h⟩:=ar h;obtain⟨p,e,h⟩:=cP h;show zA (ar h) λD A=>cu (zS Q D) λm q g=>.An (bq w.params U) (λe=>by replace u:=e▸u;show T4 u (by ext)) (abb u N (abc e) m ?_) q (bz A);rw[g];show List.Pairwise.map _ (λa b c e=>c (eG e)) (Zm j)
def K(P:Wx):Frag:=PV.map λa=>(a,Ck P a)
def aaE:(PV.all λa=>Nat.blt a 841)=true:=by decide+kernel
def afN(w:Wy):(K w.params).In (Ai w).base:=by
 have:∀l:WJ,(l.all λa=>Nat.blt a 841)=true->Frag.In (l.map λa=>(a,Ck w.params a)) (H1 w.params):=λl=>by
  induction l with
  |nil=>intro _ a o e;cases e
  |cons b r Q=>
   intro D a o e;show zA (ar D) λU N=>?_;rw[Ye,Xg]at e;cases q:a==b with
   |true=>rw[q]at e;obtain rfl:=Zf e;rw[eq_of_beq q];show bq _ (cb U)
   |false=>rw[q]at e;show Q N a o e
 show this PV aaE
noncomputable def g0:G where
 call:=λZ Z Z Z Z=>False
 loop:=λZ Z Z Z=>False
 own:=λC n=>and (Option.rec false (λZ=>true) (Sx C Eu)) (Option.rec false (λl=>l.any (beq n)) (Sx C IS))
 cls:=λC n=>Bool.rec none (Option.rec none (Sx n) (Sx C Ke)) (Option.rec false (λZ=>true) (Sx C Eu))
 Gy:=λC n=>Bool.rec none (Option.rec none (Sx n) (Sx C JO)) (Option.rec false (λZ=>true) (Sx C Eu))
 FA:=λC n=>Bool.rec none (Option.rec none (Sx n) (Sx C JO)) (beq C 236)
 Gp:=λC n=>Bool.rec none (Option.rec none (Sx n) (Sx C Ke)) (beq C 236)
 FI:=λC=>Option.rec 0 (λa=>a) (Sx C Eu)
 Jy:=λC=>Sx C I8
 canon:=λn=>Option.rec 0 (λa=>a) (Sx n F9)
 con:=λa=>Bool.rec none (some 199) (beq a 236)
 fn:=λa=>Dy.any (beq a)
def Jd(K:Frag)(C:Nat):Bool:=decide (findIn K (.ref C) "__getattribute__"=some (some (.builtin "object.__getattribute__"))/\findIn K (.ref C) "__getattr__"=some none/\findIn K (.ref C) "__setattr__"=some (some (.builtin "object.__setattr__"))/\
 plainOver K C=true/\(clsIn K C).any (·.hasDict)=true)
def jQ{K:Frag}{C:Nat}(h:Jd K C=true):CO K C:=
 have h:=Zm h;⟨h.1,h.2.1,h.2.2.1,h.2.2.2.1,h.2.2.2.2⟩
def Nt(K:Frag)(C f:Nat)(x:Wu):Bool:=decide (findIn K (.ref C) x=some (some (.ref f))/\typeIn K (.ref f)=some (.type "function")/\specialIn K (.ref f) "__get__"=some (some (.builtin "function.__get__"))/\takesIn K (.ref f)=some false/\copiedNames.contains x=false/\fnIn K f=true)
def oy{K:Frag}{C f:Nat}(h:Nt K C f x=true):Hv K C f x:=
 have h:=Zm h;⟨h.1,h.2.1,h.2.2.1,h.2.2.2.1,h.2.2.2.2.1,h.2.2.2.2.2⟩
def J9(C:Nat):Bool:=Option.rec false (λZ=>true) (Sx C Eu)
def afC(P:Wx):(Eu.all λp=>and (Jd (K P) p.1) (!beq p.1 236))=true:=by left
def ad2(P:Wx):Jd (K P) 230=true:=by left
def afB(P:Wx):(IS.all λp=>p.2.all λn=>decide (findIn (K P) (.ref p.1) (nm n)=some none))=true:=by left
def ad6(P:Wx):(Ke.all λp=>p.2.all λq=>Nt (K P) (Bool.rec p.1 230 (beq p.1 236)) q.2 (nm q.1))=true:=by left
def afA(P:Wx):(Dy.all λa=>fnIn (K P) a)=true:=by left
def afz(P:Wx):(I8.all λp=>decide (makesIn (K P) p.1=true/\findIn (K P) (.ref p.1) "__init__"=some (some (.ref p.2))/\typeIn (K P) (.ref p.2)=some (.type "function")/\keepIn (K P) (.ref p.1)=true/\g0.FI p.1<64))=true:=by left
def ON(P:Wx)(u:Wv)(v:V):Bool:=V.casesOn (motive:=λZ=>Bool) v (λf=>Pu P 8 f u) (λZ=>false) (λa=>u== .ref a) (λZ Z=>false)
def rM(h:ON w.params u v=true):RV (Ai w).Aa (Ai w).w ⟨(Ai w).base.get?,λZ=>none⟩ u v:=by
 induction v using V.casesOn with
 |c f=>show acD w 8 f u h
 |st a=>show eq_of_beq h
 |_=>show a7 h
def OJ(o:Option TM):Wv:=Option.rec .none (λo=>Option.rec .none (λu=>u) o) o
def Ob(P:Wx)(C n:Nat)(v:V):Bool:=and (decide (copiedNames.contains (nm n)=false/\findIn (K P) (.ref C) (nm n)=some (some (OJ (findIn (K P) (.ref C) (nm n))))/\specialIn (K P) (OJ (findIn (K P) (.ref C) (nm n))) "__get__"=some none/\handedIn (OJ (findIn (K P) (.ref C) (nm n)))=true)) (ON P (OJ (findIn (K P) (.ref C) (nm n))) v)
def QE(o:Option Builtin.ObjectAttr.Found):TM:=Af o λo=>match o with| .value u=>some u|_=>none
def ab7(h:QE o=some u):o=some (.value u):=by
 show aA (ax h) λo Q h=>?_;subst Q;cases o<;>first|show aw h|show T3 (λu=>some (Builtin.ObjectAttr.Found.value u)) (Zf h)
def MS(P:Wx)(n:Nat)(v:V):Bool:=ob (QE (findObj (K P) 230 (some (Ck P 235)) (nm n))) λu=>and (handedIn u) (ON P u v)
def fD{y:Type}{v:y}{l:List (Nat×y)}(h:Sx n l=some v):(n,v)∈l:=jj h
def jY{l:WJ}{n:Nat}(h:l.any (beq n)=true):n∈l:=by
 show aA (Wm.mp h) λx P e=>?_;rw[ZC e];show P
def bT{y:Type}{p:Nat×y->Bool}{l:List (Nat×y)}(h:l.all p=true){v:y}(e:Sx n l=some v):p (n,v)=true:=Zd h _ (jj e)
def lk2{y:Type}{l:List (Nat×List (Nat×y))}{v:y}(e:(Bool.rec none (Option.rec none (Sx m) (Sx n l)) b:Option y)=some v):b=true/\∃t,Sx n l=some t/\Sx m t=some v:=by
 cases b with
 |false=>show aw e
 |true=>
  show aA (ax e) λt U N=>⟨rfl,aO t U N⟩
def ad5(P:Wx):(JO.all λp=>Bool.rec (and (!J9 p.1) (p.2.all λq=>MS P q.1 q.2)) (and (!beq p.1 236) (p.2.all λq=>Ob P p.1 q.1 q.2)) (J9 p.1))=true:=by left
def uO(P:Wx):(K P).lookup 236=some (FE 230 (some 235)):=by left
def uP(P:Wx):(K P).lookup 235=some (Ck P 235):=by left
def acS(n:Nat)(h:n<16):nm n=Fk.getD n "":=by
 show beq_iff_eq.mp (Zd (show((List.range 16).all λn=>nm n==Fk.getD n "")=true by decide+kernel) n (List.mem_range.mpr h))
def mR{w:Wy}{C:Nat}(h:J9 C=true):CO (K w.params) C/\beq C 236=false:=by
 obtain⟨v,q,_⟩:=cP h;show zA (ar (bT (afC w.params) q)) λU N=>⟨jQ U,Z8 _▸N⟩
def ad4(P:Wx):decide (findIn (K P) (.ref 230) "__contains__"=some (some (.ref 199))/\isFn (K P) (.ref 199)=true)=true:=by left
def afv(P:Wx):(Ke.all λp=>p.2.all λq=>shadowIn (some (Ck P 235)) (nm q.1)==some false)=true:=by left
def yL(w:Wy):FX (Ai w) (K w.params) g0:=by
 show⟨λC n h=>?_,λC n f h=>?_,λC n v h=>?_,λa n v h=>?_,λa n f h=>?_,λa f h=>?_,λC f h=>?_,λf h=>Zd (afA w.params) f (jY h),acS⟩
 ·show zA (ar h) λU N=>?_;obtain⟨l,q,N⟩:=cP N;show⟨(mR U).1,Zm (Zd (bT (afB w.params) q) n (jY N))⟩
 ·show eX (lk2 h) λb l q h=>zA (mR (w:=w) b) λZ g=>?_;have N:=bT (bT (ad6 w.params) q) h;replace N:=g▸N;show⟨Z,oy N⟩
 ·show eX (lk2 h) λb l q h=>?_;have U:=bT (ad5 w.params) q;have b:J9 C=true:=b;replace U:=b▸U;show zA (ar (bT (ar U).2 h)) λN D=>?_;have N:=Zm N;show⟨(mR b).1,N.1,aY _ N.2.1 N.2.2.1 N.2.2.2 (rM D)⟩
 ·show eX (lk2 h) λb l q U=>?_;clear h;obtain rfl:=ZC b;obtain⟨u,e,N⟩:=cP (bT (ar (bT (ad5 w.params) q)).2 U);show zA (ar N) λD A=>⟨230,235,Ck w.params 235,u,uO _,uP _,jQ (ad2 _),ab7 e,D,rM A⟩
 ·show eX (lk2 h) λb l q U=>?_;clear h;obtain rfl:=ZC b;show(aM 230 235 (Ck w.params 235) (uO _) (uP _) (jQ (ad2 _)) (oy (bT (bT (ad6 w.params) q) U)) (eq_of_beq (bT (bT (afv w.params) q) U)))
 ·have h:(Bool.rec none (some 199) (beq a 236):TX)=some f:=h;cases b:beq a 236 with
  |false=>replace h:=b▸h;show aw h
  |true=>
   replace h:=b▸h;obtain rfl:=ZC b;obtain rfl:=Zf h;have O:=Zm (ad4 w.params);show(cg 230 235 (Ck w.params 235) (uO _) (uP _) O.1 O.2)
 ·have U:=Zm (bT (afz w.params) h);show⟨U.1,U.2.1,U.2.2.1,U.2.2.2.1,U.2.2.2.2⟩
def PZ(P:Wx)(x:Wu)(v:V):Bool:=and (!(x==("__debug__":Wu))) (ob (nsFind (Df (Ck P 3)).toArray x) λu=>ON P u v)
def afy(P:Wx):(I9.all λp=>PZ P p.1 p.2)=true:=by left
def Ji:TP:=["len","ord","chr","range","dict","max","min","int","rng2","enumerate","sorted"].map PySem.Str.ofString
def abo(h:blt x=some i):Ji[i]? =some x:=(yJ h).2
def afx(P:Wx):(Jb.all λp=>ob Ji[p.1]? λx=>and (!(x==("__debug__":Wu))) (and (nsFind (Df (Ck P 3)).toArray x).isNone (and (bootBuiltins x==some p.2) (!(x==("__name__":Wu))))))=true:=by left
def ns3{w:Wy}(N:(H1 w.params).Ns mainGlobals A)(x:Wu):A x=nsFind (Df (Ck w.params 3)).toArray x:=by
 show fg N λo y D U hd Z u=>?_;obtain rfl:=Zf (U.symm.trans (bq w.params (by ext)));rw[show(Df (Ck w.params 3)).toArray=y by unfold Df;rw[hd];rfl];show(u x).symm
def ctx{w:Wy}(T:TopRead pw Sy A O (H1 w.params)):Ctx (Ai w) (K w.params) SY Sy A O:=by
 have s:=ns3 T.g;show⟨afN w,T,λx i h=>xp h,λx i u U N D=>?_,λx v h=>?_⟩
 ·obtain⟨y,e,P⟩:=cP (bT (afx w.params) D);obtain rfl:=Zf (e.symm.trans (abo N));show zA (ar P) λa P=>zA (ar P) λg P=>zA (ar P) λb d=>⟨Z8 _▸a,(s y).trans (Xo.mp g),?_⟩
  rw[T.builtins y λz=>by rw[z]at d;show a7 d];show eq_of_beq b
 ·have m:(x,v)∈I9:=by
   have h:I9.lookup x=some v:=h;clear T s;revert h;generalize I9=l;intro h;induction l with
   |nil=>cases h
   |cons p r Q=>
    rw[Xg]at h;cases z:x==p.1 with
    |true=>rw[z]at h;clear Q;obtain rfl:=Zf h;rw[eq_of_beq z];show .head _
    |false=>rw[z]at h;show .tail _ (Q h)
  show zA (ar (Zd (afy w.params) _ m)) λU N=>?_;obtain⟨u,Z,D⟩:=cP N;show⟨Z8 _▸U,aO u ((s x).trans Z) (rM D)⟩
def LS(o:Obj):FuncData:=Option.rec default (λf=>f) (Kd o.data)
def OX(b:FuncBody):Option (List WG):=match b with| .stmts b=>some b|_=>none
def yZ(h:OX b=some l):b=.stmts l:=by
 cases b<;>first|show aw h|show T3 FuncBody.stmts (Zf h)
def Ap(fd:FuncData):List WG:=Option.rec [] (λb=>b) (OX fd.body)
noncomputable def fd(P:Wx)(a:Nat):FuncData:=LS (Ck P a)
def KZ(P:Wx)(cd:Wv)(q:Wu):Bool:=ob (JF cd) λc=>and (Nat.blt c 841) (ob (NZ (Ck P c).data) λZ=>ob (Af Z[1]? GO) λp=>Cn p.1.cps.toList q.cps.toList)
def NW(P:Wx)(a:Nat):Bool:=and (Nat.blt a 841) (ob (Kd (Ck P a).data) λfd=>and (decide (fd.scope.kind=.function/\fd.globals=3/\fd.builtins=0/\fd.scope.isCoroutine=false)) (and (fd.scope.names.all λx=>x.2 != .cell) (and (ob (OX fd.body) λZ=>true) (KZ P fd.code fd.qualname))))
def afw(P:Wx):Dy.all (NW P)=true:=by left
structure Qv (w:Wy) (a:Nat):Prop where
 lt:a<841
 data:(Ck w.params a).data=.func (fd w.params a)
 kind:(fd w.params a).scope.kind=.function
 glob:(fd w.params a).globals=mainGlobals
 blt:(fd w.params a).builtins=builtinsNs
 co:(fd w.params a).scope.isCoroutine=false
 cell:∀x∈(fd w.params a).scope.names,x.2≠ .cell
 body:(fd w.params a).body=.stmts (Ap (fd w.params a))
 code:(Ai w).base.CodeRec (fd w.params a).code (fd w.params a).qualname
def eV(w:Wy){a:Nat}(h:Dy.any (beq a)=true):Qv w a:=by
 show zA (ar (Zd (afw w.params) a (jY h))) λk h=>?_;obtain⟨f,u,h⟩:=cP h;have e:fd w.params a=f:=by unfold fd LS;rw[u]
 show zA (ar h) λU h=>zA (ar h) λn h=>zA (ar h) λD A=>?_;have U:=Zm U;obtain⟨b,P,_⟩:=cP D;show⟨cb k,?_,?_,?_,?_,?_,?_,?_,?_⟩<;>rw[e]
 ·show uw u
 ·show U.1
 ·show U.2.1
 ·show U.2.2.1
 ·show U.2.2.2
 ·show λx c=>bne_iff_ne.mp (Zd n x c)
 ·unfold Ap;rw[P];show yZ P
 ·obtain⟨O,o,Q⟩:=cP A;show zA (ar Q) λm l=>?_;obtain⟨Z,N,i⟩:=cP l;obtain⟨p,j,y⟩:=cP i;show aA (ax j) λv z j=>(cI O (Ck w.params O) Z p.2 (iX o) (bq _ (cb m)) (ux N) (by rw[z,gG j,gv y];show T3 (λs=>some (Value.str s p.2)) (T3 PySem.Str.mk Array.toArray_toList)))
def Hx(w:Wy)(c:Nat)(y:TA->WJ->Option Tw):Prop:=
 ∀O s Z b z N,Holds O.F s.heap->(∀a o,(Ai w).base.get? a=some o->s.heap.get? a=some o)->Cw (Ai w).Aa (Ai w).w O Z b->y b z=some N->∃j,BindsTo s (fd w.params c) (Bj (Ai w) Z z) j/\(∀x∈j,(fd w.params c).scope.names.lookup x.1=some .local)/\
   ∀n v,Sx n N=some v->∃u,j.reverse.lookup ((Ai w).nm n)=some u/\RV (Ai w).Aa (Ai w).w O u v
def gD{N:WA}(h:Cw N w g Z u):Z.length=u.length:=by
 induction h with
 |nil=>rfl
 |cons _ _ Q=>show T3 (· +1) Q
def te{Q:WJ}(hd:Q.Nodup){O:Gh}(N:Cw (Ai w).Aa (Ai w).w O Z A)(n:Nat)(v:V)(h:Sx n (Q.zip A)=some v):
  ∃u,((Q.map nm).zip Z).reverse.lookup (nm n)=some u/\RV (Ai w).Aa (Ai w).w O u v:=by
 have key:∀(l:TO) (k:Wu) (u:Wv),(l.map (·.1)).Nodup->(k,u)∈l->l.lookup k=some u:=by
  intro l k u j c;induction l with
  |nil=>show(Yl c).elim
  |cons p r f=>
   rw[Xg];rw[Ye,List.nodup_cons]at j;rcases Zb c with rfl|c
   ·rw[Xf]
   ·rw[(beq_eq_false_iff_ne.mpr λe=>j.1 (e▸Xr c):(k==p.1)=false)];show f j.2 c
 have s:∀(Q:WJ) (Z:TN) (A:TA),Cw (Ai w).Aa (Ai w).w O Z A->Sx n (Q.zip A)=some v->∃u,(nm n,u)∈(Q.map nm).zip Z/\RV (Ai w).Aa (Ai w).w O u v:=by
  intro Q;induction Q with
  |nil=>intro Z A _ h;show aw h
  |cons m Q f=>
   intro Z A N h;induction A using Re with
   |nil=>show aw h
   |cons x A=>
    obtain⟨u,r,rfl,a,i⟩:=N.inv;rw[List.zip_cons_cons,aq]at h;by_cases q:n=m
    ·rw[Zk q]at h;clear f;obtain rfl:=Zf h;show(aO u (q▸ .head _) a)
    ·rw[Zi q]at h;show aA (f _ _ i h) λu U o=>(aO u (.tail _ U) o)
 show aA (s Q Z A N h) λu c i=>(aO u (key _ _ _ ?_ (List.mem_reverse.mpr c)) i)
 rw[List.map_reverse];show List.pairwise_reverse.mpr (List.Pairwise.imp Ne.symm ?_);have:∀(l:TP) (Z:TN),(l.zip Z).map (·.1)=l.take Z.length:=by
  intro l;induction l with
  |nil=>intro Z;rw[Wn];rfl
  |cons a l f=>intro Z;induction Z using Re with
   |nil=>rfl
   |cons b Z=>show T3 (a:: ·) (f Z)
 rw[this];show List.Sublist.nodup (List.take_sublist _ _) (List.Pairwise.map _ (λa b D e=>D (sI _ _ e)) hd)
def Ah(Q:WJ)(u:TA)(z:WJ):Option Tw:=Bool.rec none (some (Q.zip u)) (and (!BE z) (beq u.length Q.length))
def CD(fd:FuncData)(Q:WJ):Bool:=and (IW Q) (Q.all λn=>decide (fd.scope.names.lookup (nm n)=some .local))
def p5(h:IW l=true):l.Nodup:=kx (λn=>n) (by rw[List.map_id'];show h)
def jT(D:CD (fd w.params y) Q=true){O:Gh}(N:Cw (Ai w).Aa (Ai w).w O Z A)(f:BindsTo s (fd w.params y) U ((Q.map nm).zip Z)):
  ∃j,BindsTo s (fd w.params y) U j/\(∀x∈j,(fd w.params y).scope.names.lookup x.1=some .local)/\∀n v,Sx n (Q.zip A)=some v->∃u,j.reverse.lookup ((Ai w).nm n)=some u/\RV (Ai w).Aa (Ai w).w O u v:=by
 show zA (ar D) λc b=>(ck _ f (λx P=>?_) λn v e=>te (p5 c) N n v e)
 show aA (Y3.mp (List.of_mem_zip P).1) λn a e=>e▸Zm (Zd b n a)
def pk(h:Ah Q u z=some N):z=[]/\u.length=Q.length/\N=Q.zip u:=by
 unfold Ah at h;cases q:and (!BE z) (beq u.length Q.length)with
 |false=>replace h:=q▸h;show aw h
 |true=>
  replace h:=q▸h;show zA (ar q) λU a=>⟨jd U,ZC a,(Zf h).symm⟩
def f6(Q:WJ)(D:CD (fd w.params y) Q=true)(H:∀Z:TN,Z.length=Q.length->bindArgs (fd w.params y) ⟨Z,[]⟩=pure ((Q.map nm).zip Z)):Hx w y (Ah Q):=by
 intro O s Z c b e _ _ N a;show cu (pk a) λz u P=>?_;clear a;subst z P;show jT D N (by rw[aR];show .of_eq (H Z ((gD N).trans u)))
section
variable {w:Wy}{mg mb:Wu->TM}{g:G}{d:Nat}
def uG(T:TopRead pw Sy mg mb (H1 w.params))(G:CV (Ai w) g (K w.params) SY Sy mg mb d){y:Nat}(v:Dy.any (beq y)=true)(P:cB SY (fd w.params y).scope 60 (Ap (fd w.params y))=x)
  (e:(fd w.params y).scope.isGenerator=false) (i:∀f:Fm,f.cs=(fd w.params y).scope->f.vl=b->f.own=true->(f.tp=some f.env/\f.env.frame=some f.env.locals)->∀t∈Fe SY 60 (Ap (fd w.params y)),∀m,SS (Ai w) g f (d+1) (cS SY f.cs m t) t)
  {c:TA->WJ->Option Tw} (C:Hx w y c)
  (l:∀u z H k,D u z H k->Ab (c u z) λB=>ex g x ⟨B,H,64,false⟩ (fin k)):AB b (Ai w) y (d+2) D:=by
 have F:=eV w v;show nc T F.kind F.glob F.blt F.co e (bq w.params F.lt) F.data F.body F.code F.cell C (λL U O J s A k Q r o N j=>?_) l;show(cY G 60 (De (fd w.params y) L y U b F.kind F.glob F.blt F.cell) rfl (Ap (fd w.params y)) (i _ rfl rfl rfl ⟨rfl,rfl⟩)) O J s A k Q r o ?_ λh Z I a b p q n E=>j h Z I a b p q n E;rw[P];show N
def N6:Nat:=821
def BP(k:NameKind):Bool:=k== .cell
def JC(fd:FuncData):Wu:=((fd.scope.names.filter λx=>BP x.2).map (·.1)).headD ""
def JX(fd:FuncData):Bool:=and (((fd.scope.names.filter λx=>BP x.2).map (·.1))==[JC fd]) (and (fd.scope.names.all λx=>or (!BP x.2) true) (and (fd.scope.names.all λx=>or (!(x.1==JC fd)) (BP x.2)) fd.closure.isEmpty))
def Jc(P:Wx)(a:Nat):Bool:=and (Nat.blt a 841) (ob (Kd (Ck P a).data) λfd=>and (decide (fd.scope.kind=.function/\fd.globals=3/\fd.builtins=0/\fd.scope.isCoroutine=false)) (and (JX fd) (and (ob (OX fd.body) λZ=>true) (KZ P fd.code fd.qualname))))
def ad3(P:Wx):Jc P N6=true:=by left
def iR:∀ {l:List (Wu×NameKind)} {n:Nat} {j:List (Wu×WD)},((l.filter λx=>BP x.2).map (·.1))=[z]->cellsFrom n l j=(z,n)::j:=by
 have none:∀ {l:List (Wu×NameKind)} {n:Nat} {j:List (Wu×WD)},((l.filter λx=>BP x.2).map (·.1))=[]->cellsFrom n l j=j:=by
  intro l;induction l with
  |nil=>intro n j _;rfl
  |cons x r Q=>
   intro n j h;obtain⟨x,k⟩:=x;change(if(k== .cell)=true then _ else cellsFrom n r j)=j;replace h:=List.filter_cons▸h;by_cases q:(k==NameKind.cell)=true
   ·replace h:=(Zk (q))▸h;cases h
   ·rw[Zi q];replace h:=(Zi (q))▸h;show Q h
 intro l;induction l with
 |nil=>intro n j h;cases h
 |cons x r Q=>
  intro n j h;obtain⟨x,k⟩:=x;change(if(k== .cell)=true then cellsFrom (n+1) r ((x,n)::j)else cellsFrom n r j)=_;replace h:=List.filter_cons▸h;by_cases q:(k==NameKind.cell)=true
  ·rw[Zk q];replace h:=(Zk (show BP (x,k).2=true from q))▸h;replace h:=Ye▸h;rw[none (ZI h).2];show T3 (λz=>(z,n)::j) (ZI h).1
  ·rw[Zi q];replace h:=(Zi (show¬BP (x,k).2=true from q))▸h;show Q h
def lx{fd:FuncData}(U:((fd.scope.names.filter λx=>BP x.2).map (·.1))=[JC fd])(N:(fd.scope.names.all λx=>or (!(x.1==JC fd)) (BP x.2))=true)(x:Wu):fd.scope.names.lookup x=some .cell↔x=JC fd:=by
 constructor
 ·intro h;have:x∈((fd.scope.names.filter λx=>BP x.2).map (·.1)):=Y3.mpr (aO _ (List.mem_filter.mpr ⟨mem_of_lookup h,rfl⟩) rfl);rw[U]at this;show Za this
 ·intro h;have:JC fd∈((fd.scope.names.filter λx=>BP x.2).map (·.1)):=by rw[U];show .head _
  show aA (Y3.mp this) λy P e=>?_;cases q:fd.scope.names.lookup x with
  |none=>
   exfalso;have:=List.lookup_eq_none_iff.mp q y ((List.mem_filter.mp P).1);rw[h, ←e]at this;have this:(!(y.1==y.1))=true:=this;rw[Xf]at this;show nomatch this
  |some k=>
   have D:=Zd N _ (mem_of_lookup (n:=x) q);rw[h,Xf]at D;show T3 some (eq_of_beq ((D:(k== .cell)=true)))
structure K9 (w:Wy) (a:Nat):Prop where
 lt:a<841
 data:(Ck w.params a).data=.func (fd w.params a)
 kind:(fd w.params a).scope.kind=.function
 glob:(fd w.params a).globals=mainGlobals
 blt:(fd w.params a).builtins=builtinsNs
 co:(fd w.params a).scope.isCoroutine=false
 CE:(fd w.params a).closure=[]
 one:(((fd w.params a).scope.names.filter λx=>BP x.2).map (·.1))=[JC (fd w.params a)]
 all:((fd w.params a).scope.names.all λx=>or (!(x.1==JC (fd w.params a))) (BP x.2))=true
 body:(fd w.params a).body=.stmts (Ap (fd w.params a))
 code:(Ai w).base.CodeRec (fd w.params a).code (fd w.params a).qualname
def aaO(w:Wy)(h:Jc w.params a=true):K9 w a:=by
 show zA (ar h) λk h=>?_;obtain⟨f,u,h⟩:=cP h;have e:fd w.params a=f:=by unfold fd LS;rw[u]
 show zA (ar h) λU h=>zA (ar h) λm h=>zA (ar h) λD A=>?_;have U:=Zm U;obtain⟨b,P,_⟩:=cP D;show zA (ar m) λQ O=>zA (ar O) λo l=>zA (ar l) λc y=>?_;show⟨cb k,?_,?_,?_,?_,?_,?_,?_,?_,?_,?_⟩<;>rw[e]
 ·show uw u
 ·show U.1
 ·show U.2.1
 ·show U.2.2.1
 ·show U.2.2.2
 ·show Ze y
 ·show eq_of_beq Q
 ·show c
 ·unfold Ap;rw[P];show yZ P
 ·obtain⟨i,n,Q⟩:=cP A;show zA (ar Q) λO l=>?_;obtain⟨Z,N,c⟩:=cP l;obtain⟨p,j,y⟩:=cP c;show aA (ax j) λv z j=>(cI i (Ck w.params i) Z p.2 (iX n) (bq _ (cb O)) (ux N) (by rw[z,gG j,gv y];show T3 (λs=>some (Value.str s p.2)) (T3 PySem.Str.mk Array.toArray_toList)))
def abj(T:TopRead pw Sy mg mb (H1 w.params))(E:CV (Ai w) g (K w.params) SY Sy mg mb d)(F:K9 w y)(P:cB SY (fd w.params y).scope 60 (Ap (fd w.params y))=x)
  (e:(fd w.params y).scope.isGenerator=false) (v:∀f:Fm,f.cs=(fd w.params y).scope->f.own=true->∀t∈Fe SY 60 (Ap (fd w.params y)),∀m,SS (Ai w) g f (d+1) (cS SY f.cs m t) t)
  {c:TA->WJ->Option Tw} (B:Hx w y c) {D:TA->WJ->Tx->(V->Tx->Prop)->Prop}
  (l:∀u z H k,D u z H k->Ab (c u z) λq=>ex g x ⟨q,H,64,false⟩ (fin k)):AB false (Ai w) y (d+2) D:=by
 show lD T F.kind F.glob F.blt F.co e F.CE (bq w.params F.lt) F.data F.body F.code (JC (fd w.params y)) (λL=>iR F.one) (lx F.one F.all) B (λL U O J s A k Q r n N j=>?_) l;show(cY E 60 (KW (fd w.params y) L y U false F.kind F.glob F.blt (JC (fd w.params y)) (iR F.one) (lx F.one F.all)) rfl (Ap (fd w.params y)) (v _ rfl rfl)) O J s A k Q r n ?_ λh Z G a b o p i C=>j h Z G a b o p i C;rw[P];show N
end
end
end Mine.B
namespace Mine.A
abbrev sq(g:G)(b:S)(K:TB):TB:=Lp (ex g b) K
section
variable {g:G}{s:St}{F:TC}{k:TA->TF}{K:TB}
def bh{x y:Prop}(U:b=true->x)(N:b=false->y):S7 b x y:=by cases b;show N rfl;show U rfl
def aW{x y:Prop}(h:b=true)(U:x):S7 b x y:=by subst h;show U
def bH{x y:Prop}(h:b=false)(U:y):S7 b x y:=by subst h;show U
def aa{y:Type}{o:Option y}{a:y}{k:y->Prop}(h:o=some a)(U:k a):Ab o k:=by subst h;show U
def aQ(h:F (.c f) s):SU g (.k f) s (one F):=h
def aj(h:Ab (Sx n s.L) λv=>F v s):SU g (.loc n) s (one F):=h
def bB(h:F v s):SU g (.BR v) s (one F):=h
def ba(h:SU g o s (one λo s=>GB g o n s F)):SU g (.Bb o n) s (one F):=h
def bK(h:SU g o s (one λo s=>SU g i s (one λi s=>DO o i s F))):SU g (.sub o i) s (one F):=h
def d6(h:SU g o s (one λo s=>SU g i s (one λi s=>SU g j s (one λj s=>Gn o i j s F)))):SU g (.Cj o i j) s (one F):=h
def cm(h:SU g a s (one λa s=>SU g b s (one λb s=>Fv D a b s F))):SU g (.bin D a b) s (one F):=h
def aH(h:SU g a s (one λa s=>SU g b s (one λb s=>FH g D a b s λv s=>F (.c (.Ae v)) s))):SU g (.cmp D a b) s (one F):=h
def gK(h:SU g a s (one λa s=>Ab (Am s.H a) λt=>S7 t (SU g b s (one F)) (F a s))):SU g (.and a b) s (one F):=h
def pZ(h:SU g a s (one λa s=>Ab (Am s.H a) λt=>S7 t (F a s) (SU g b s (one F)))):SU g (.or a b) s (one F):=h
def oq(h:SU g c s (one λc s=>Ab (Am s.H c) λt=>S7 t (SU g a s (one F)) (SU g b s (one F)))):SU g (.Gi c a b) s (one F):=h
def fO(h:SU g a s λZ s=>Mx i Z s F):SU g (.fn i a) s (one F):=h
def dh(h:SU g a s λZ s=>BL g f Z [] s F):SU g (.call f a) s (one F):=h
def aJ(h:SU g o s (one λo s=>Ab (C4 g o n P s) λm=>SU g a s λZ s=>CL g m n Z P s F)):SU g (.Al o n a P) s (one F):=h
def sC(h:SU g o s (one λo s=>M5 a b o s F)):SU g (.rep o a b) s (one F):=h
def dW(h:SU g l s λZ s=>Ab (Ja Z s.H) λr=>S7 (ble r.1.length 1000) (F (.c (.tup r.1)) (As s r.2)) False):SU g (.tup l) s (one F):=h
def d7(h:SU g l s λZ s=>Ab (Ja Z s.H) λr=>S7 (ble r.1.length 1000) (Ce (.lst r.1) (As s r.2) F) False):SU g (.lst l) s (one F):=h
def gb(h:SU g l s λZ s=>Ab (HT Z) λy=>Ce (.An (Nu y)) s F):SU g (.An l) s (one F):=h
def dt{F:Bool->TF}(h:BN D a (.c y) s λv=>F v s):FH g D a (.c y) s F:=h
def w_o{F:Bool->TF}(h:BN D a (.ob i) s λv=>F v s):FH g D a (.ob i) s F:=h
def w_s{x f:Nat}{a:V}{F:Bool->TF}(U:g.con x=some f)(h:BL g f [.st x,a] [] s λv s=>Ab (Am s.H v) λt=>F t s):FH g 8 a (.st x) s F:=aa U h
def eB(h:Sx i H=some (.lst l)):CE H (.ob i)=some (.lst l):=by
 change Af (Sx i H) _=_;rw[h];rfl
def au(h:k [] s):SU g .nil s k:=h
def ah(h:SU g a s (one λa s=>SU g b s λZ s=>k (a::Z) s)):SU g (.cons a b) s k:=h
def aB(h:K .AZ s):ex g .skip s K:=h
def rK(h:ex g a s (sq g b K)):ex g (.seq a b) s K:=h
def cU(h:ex g b s K):sq g b K .AZ s:=h
def q_r(h:K (.ret v) s):sq g b K (.ret v) s:=h
def d3(h:SU g e s (one λZ s=>ex g b s K)):ex g (.seq (.ex e) b) s K:=h
def aG(h:SU g e s (one λv s=>ex g b (Bv s (put n v s.L)) K)):ex g (.seq (.Aj n e) b) s K:=h
def i5(h:SU g e s (one λv s=>SU g o s (one λo s=>Cy g o n v s λs=>ex g b s K))):ex g (.seq (.Bi o n e) b) s K:=h
def fM(h:Ab (Sx n s.L) λa=>SU g e s (one λy s=>Es D a y s λv s=>ex g b (Bv s (put n v s.L)) K)):ex g (.seq (.DI n D e) b) s K:=h
def zP(h:SU g o s (one λo s=>GB g o n s λa s=>SU g e s (one λy s=>Es D a y s λv s=>Cy g o n v s λs=>ex g b s K))):ex g (.seq (.Gb o n D e) b) s K:=h
def bE(h:SU g c s (one λv s=>Ab (Am s.H v) λt=>S7 t (ex g x s (sq g b K)) (ex g y s (sq g b K)))):ex g (.seq (.iff c x y) b) s K:=h
def fk(h:SU g e s (one λv s=>K (.ret v) s)):ex g (.seq (.ret e) b) s K:=h
def aP{i n C:Nat}{d:Tw}{v:V}(U:Sx i s.H=some (.inst C d))(N:Sx n d=some v)(D:g.own C n=true)(h:F v s):GB g (.ob i) n s F:=by
 show aa U ?_;change G5 g i n s F C d;unfold G5;rw[N];show aW D h
def y6{d:Tw}(U:Sx i s.H=some (.inst C d))(N:Sx n d=none)(D:g.cls C n=some f)(h:F (.E9 f i) s):GB g (.ob i) n s F:=by
 show aa U ?_;change G5 g i n s F C d;unfold G5;rw[N,D];show h
def aey{v:V}(U:g.FA a n=some v)(h:F v s):GB g (.st a) n s F:=aa U h
def w_a{i n C:Nat}{v:V}{k:TF}(u:g.canon n=0)(U:Sx i s.H=some (.inst C d))(N:and (g.own C n) (ble d.length 900)=true)(h:k (As s (put i (.inst C (put n v d)) s.H))):Cy g (.ob i) n v s k:=by
 show aa rfl ?_;rw[u];change Ab (HZ (Sx i s.H)) _;rw[U];show aW N h
def w_m{i n C c j:Nat}{d:Tw}{k:TF}(a:g.canon n=c+1)(u:beq (c+1) 63=false)(Q:ble 64 j=true)(D:Sx j s.H=some o)(A:Sx (c+1) s.H=none)(U:Sx i (DK j s.H++[(c+1,o)])=some (.inst C d))(N:and (g.own C n) (ble d.length 900)=true)
  (h:k (As s (put i (.inst C (put n (.ob (c+1)) d)) (DK j s.H++[(c+1,o)])))):Cy g (.ob i) n (.ob j) s k:=by
 show aa rfl ?_;rw[a];unfold OP;rw[u];show aW Q (aa D ?_);rw[A];change Ab (HZ (Sx i (DK j s.H++[(c+1,o)]))) _;rw[U];show aW N h
def fT(u:g.fn f=true)(N:Z.all FD=true)(D:((lo s.H).all λp=>Dc p.2)=true)(h:g.call f Z P (lo s.H) λv H=>F v (As s (H++hi s.H))):BL g f Z P s F:=
 aW (by rw[u,N,D];rfl) h
def eR(h:BL g f (v::Z) P s F):CL g (.fn f v) n Z P s F:=h
def qK(h:F (.c (.int (a+b))) s):Fv 0 (.c (.int a)) (.c (.int b)) s F:=h
def uN(U:a.length+b.length<=16777216)(h:F (.c (.str (a++b))) s):Fv 0 (.c (.str a)) (.c (.str b)) s F:=⟨U,h⟩
def eW(h:F (.c (.int l.length)) s):Mx 0 [.c (.str l)] s F:=h
def gc(h:F (.ob s.m) ⟨s.L,(s.m,o)::s.H,s.m+1,s.vl⟩):Ce o s F:=h
def rL(h:SU g e s (one λv s=>R7 g y v s λs=>ex g b s K)):ex g (.seq (.GC y e) b) s K:=h
def aca{k:TF}(e:beq y.length l.length=true)(h:Ms g y l s k):R7 g y (.c (.tup l)) s k:=aW e h
def yj{k:TF}(h:k s):Ms g [] [] s k:=h
def gH{k:TF}(h:Ms g y l (Bv s (put n (.c f) s.L)) k):Ms g ((none,n)::y) (f::l) s k:=h
def zO(h:SU g z s (one λv s=>Option.rec (g.loop l [v] s (sq g c K)) (λr=>Dd (ex g b) (C3 O) r.1 r.2 (sq g c K)) (Io v s))):ex g (.seq (.fr l O z b) c) s K:=h
def wK(h:K .AZ s):Dd B Z [] s K:=h
abbrev fo(B:St->TB->Prop)(Z:FV->Tw->Option Tw)(l:Tz)(K:TB):TB:=P2 (Dd B Z l) K
def tT(h:Ab (Z x s.L) λL=>B (Bv s L) (fo B Z l K)):Dd B Z (x::l) s K:=h
abbrev wo(P:TF)(K:TB):TB:=Pg P K
def R6(g:G)(c:X)(b:S)(K:TB)(P:TF)(s:St):Prop:=SU g c s (one λv s=>Ab (Am s.H v) λt=>S7 t (ex g b s (wo P K)) (K .AZ s))
def i4(h:∀P:TF,(∀s,R6 g c b (sq g r K) P s->P s)->P s):ex g (.seq (.wh l c b) r) s K:=h
def aeU{k:TR}(h:k (decide (i=j))):BN 0 (.c (.int i)) (.c (.int j)) s k:=h
def acn{v:V}{b:Bool}{k:TR}(e:DZ v=some b)(h:k b):BN 6 v (.c .Ak) s k:=aa e h
def zt{k:TR}(h:k (decide (a=b))):BN 0 (.c (.str a)) (.c (.str b)) s k:=by
 rw[←aE]at h;show h
end
section
open Mine.B
structure Sm where
 raw:WJ
 place:Int
 Ac:WJ
 size:Int
 off:Int
 AH:Tz
 pl:Int
 pc:Int
 buf:FV
inductive Ct where
 |no
 |live (en:Bool) (n:WJ) (sc:Bool)
 |AM (en:Bool) (n:WJ) (sc:Bool)
abbrev Dp:WJ:=Tg
abbrev Cq:WJ:=Th
abbrev HP:WJ:=Ti
abbrev NN:WJ:=Tj
abbrev NO:WJ:=Tn
def OL(n:WJ)(d:FV)(O:Bool):TG:=[(Dp,.int 3),(HP,.str n),(Cq,d),(NN,.Ae O),(NO,.Ae false)]
def OT(n:WJ):TG:=[(Dp,.int 4),(HP,.str n),(Cq,.lst []),(NN,.Ae false)]
def JH(y:Bool)(n:WJ)(O:Bool):TG:=Bool.rec (OL n (.lst []) O) (OT n) y
def EO(y:Bool)(n:WJ)(O:Bool):TG:=Bool.rec (OL n (.An []) O) (OT n) y
structure Tm where
 state:Nat
 ct:Ct
 q:Option Tz
 tb:TK
def Sf(J:Sm):Tw:=[(264,.E9 148 2),(216,.ob 9),(147,.ob 3),(129,.c (.str J.Ac)),(131,.c (.int J.size)),(130,.c (.int J.off)),(168,.ob 6),(244,.c (.int J.pl)),(243,.c (.int J.pc)),(41,.c J.buf)]
def QG(q:Option Tz)(tb:TK):Tw:=match q with
 |none=>[]
 |some _=>(313,.ob 5)::match tb with
  |none=>[]
  |some b=>[(310,.c (.str b))]
def R1(c:Ct):V:=Ct.casesOn (motive:=λZ=>V) c (.c .Ak) (λZ Z Z=>.ob 32) λZ Z Z=>.ob 32
def PX(c:Ct):Tx:=Ct.casesOn (motive:=λZ=>Tx) c [] (λy n O=>[(32,.An ((JH y n O).map λp=>(p.1,.c p.2)))]) λy n O=>[(32,.Av (.An (EO y n O)))]
def R9(t:Tm):Tw:=(305,.ob 2)::(232,.c .Ak)::(170,.c (.Ae false))::(194,.ob 8)::(302,.E9 t.state 1)::(169,.c (.Ae false))::(144,R1 t.ct)::QG t.q t.tb
def SG(q:Option Tz)(c:Ct):Tx:=match q with
 |none=>PX c
 |some l=>(5,.lst l)::PX c
def Hp(J:Sm)(t:Tm):Tx:=(1,.inst 762 (R9 t))::(2,.inst 166 (Sf J))::(9,.lst [.int 0])::(3,.inst 73 [(311,.c (.str J.raw)),(237,.c (.int J.place))])::(6,.lst J.AH)::(8,.lst [])::SG t.q t.ct
def bZ(J:Sm)(t:Tm):lo (Hp J t)=Hp J t:=by
 obtain⟨st,l,q,tb⟩:=t;cases q<;>cases l<;>rfl
def aaA(c:Ct):((PX c).all λp=>Dc p.2)=true:=by
 cases c with
 |live y n O=>
  change and (((JH y n O).map λp=>(p.1,V.c p.2)).all λp=>FD p.2) true=true;rw[List.all_map,(Zv.mpr λZ Z=>rfl:(JH y n O).all ((λp:WJ×V=>FD p.2)∘λp=>(p.1,V.c p.2))=true)];rfl
 |_=>rfl
def yC(J:Sm)(t:Tm):((Hp J t).all λp=>Dc p.2)=true:=by
 obtain⟨st,l,q,tb⟩:=t;have h:=aaA l;cases l<;>cases q<;>first|show h|(cases tb<;>show h)
def gS(J:Sm)(t:Tm)(h:lo H=Hp J t):((lo H).all λp=>Dc p.2)=true:=by rw[h];show yC J t
def kQ(J:Sm)(t:Tm)(h:lo H=Hp J t)(D:k (.c f) (Hp J t)):fin k (.ret (.c f)) ⟨L,H,m,j⟩:=by
 show aa rfl (aW (gS J t h) ?_);rw[h];show D
def yM(J:Sm)(t:Tm)(h:lo H=Hp J t)(D:k (.c .Ak) (Hp J t)):fin k .AZ ⟨L,H,m,j⟩:=by
 show aa rfl (aW (gS J t h) ?_);rw[h];show D
def b9(J:Sm)(t:Tm)(D:k (.c f) (Hp J t)):fin k (.ret (.c f)) ⟨L,Hp J t,m,j⟩:=kQ J t (bZ J t) D
def jB(J:Sm)(t:Tm)(D:k (.c .Ak) (Hp J t)):fin k .AZ ⟨L,Hp J t,m,j⟩:=yM J t (bZ J t) D
def yN(h:((lo H).all λp=>Dc p.2)=true)(D:k (.c f) (lo H)):fin k (.ret (.c f)) ⟨L,H,m,j⟩:=
 aa rfl (aW h D)
def CQ:S:=.seq (.ret (.or (.Gf (.k (.int 1)) (.loc 134) (.k (.int 8))) (.or (.cmp 0 (.loc 134) (.k (.int 11))) (.or (.Gf (.k (.int 14)) (.loc 134) (.k (.int 31))) (.or (.Gf (.k (.int 127)) (.loc 134) (.k (.int 159))) (.or (.Gf (.k (.int 64976)) (.loc 134) (.k (.int 65007))) (.or (.cmp 8 (.bin 4 (.loc 134) (.k (.int 65536))) (.tup (.cons (.k (.int 65534)) (.cons (.k (.int 65535)) .nil)))) (.Gf (.k (.int 55296)) (.loc 134) (.k (.int 57343)))))))))) .skip
def Kt(c:Int):Bool:=(decide (1<=c)&&decide (c<=8))||(decide (c=11)||((decide (14<=c)&&decide (c<=31))||((decide (127<=c)&&decide (c<=159))||((decide (64976<=c)&&decide (c<=65007))||((decide (65534=Int.fmod c 65536)||decide (65535=Int.fmod c 65536))||(decide (55296<=c)&&decide (c<=57343)))))))
def DR(u:TA)(z:WJ)(H:Tx)(k:V->Tx->Prop):Prop:=∃c:Int,u=[.c (.int c)]/\z=[]/\((lo H).all λp=>Dc p.2)=true/\k (.c (.Ae (Kt c))) (lo H)
def rX:Builtin.divisionGoesByPylong c 65536=false:=by
 unfold Builtin.divisionGoesByPylong;rw[propext Bool.and_eq_false_iff];left;decide
def Ev(g:G)(x:X)(s:St)(v:V):Prop:=∀F:TC,F v s->SU g x s (one F)
section
variable {g:G}{s:St}
def Ev.mh(Q:Ev g a s (.c (.Ae p)))(P:Ev g b s (.c (.Ae q))):Ev g (.or a b) s (.c (.Ae (p||q))):=λk D=>Q _ (by cases p;show P _ D;show D)
theorem Ev.Gf(Q:Ev g a s (.c (.int i)))(P:Ev g b s (.c (.int j)))(u:Ev g c s (.c (.int l))):Ev g (.Gf a b c) s (.c (.Ae (decide (i<=j)&&decide (j<=l)))):=λk D=>Q _ (P _ (bh (λh=>u _ (by rw[h,XB]at D;show D)) λh=>by rw[h,Wg]at D;show D))
def Ev.adO(Q:Ev g a s (.c (.int i)))(P:Ev g b s (.c (.int j))):Ev g (.cmp 0 a b) s (.c (.Ae (decide (i=j)))):=λZ D=>Q _ (P _ D)
def Ev.kk:Ev g (.k f) s (.c f):=λZ D=>D
def Ev.loc(h:Sx n s.L=some v):Ev g (.loc n) s v:=λZ D=>aa h D
end
def jJ(g:G)(xs kws H k)(h:DR xs kws H k):Ab (Ah [134] xs kws) λN=>ex g CQ ⟨N,H,64,false⟩ (fin k):=by
 show bO h λc Q P D a=>?_;clear h;subst Q P;change ex g CQ ⟨[(134,.c (.int c))],H,64,false⟩ (fin k);have l:Ev g (.loc 134) ⟨[(134,.c (.int c))],H,64,false⟩ (.c (.int c)):=.loc rfl;have O:Ev g (X.cmp 8 (X.bin 4 (X.loc 134) (X.k (.int 65536))) (X.tup (X.cons (X.k (.int 65534)) (X.cons (X.k (.int 65535)) X.nil)))) ⟨[(134,.c (.int c))],H,64,false⟩ (.c (.Ae (decide (65534=Int.fmod c 65536)||decide (65535=Int.fmod c 65536)))):=λF z=>by
  conv=>whnf
  show⟨⟨by ext,rX⟩,?_⟩
  conv=>whnf
  revert z;cases decide (65534=Int.fmod c 65536)<;>cases decide (65535=Int.fmod c 65536)<;>show id
 show fk (Ev.mh (Ev.Gf .kk l .kk) (.mh (.adO l .kk) (.mh (.Gf .kk l .kk) (.mh (.Gf .kk l .kk) (.mh (.Gf .kk l .kk) (.mh O (.Gf .kk l .kk)))))) _ (yN D a))
def EA:S:=.seq (.Aj 233 (.Cj (.Bb (.loc 292) 311) (.Bb (.loc 292) 237) (.bin 0 (.Bb (.loc 292) 237) (.loc 296)))) (.seq (.Gb (.loc 292) 237 0 (.fn 0 (.cons (.loc 233) .nil))) (.seq (.ret (.loc 233)) .skip))
def Du(n:Int)(J:Sm):WJ×Sm:=let p:=slice J.raw (some J.place) (some (J.place+n));(p, {J with place:=J.place+p.length})
def IB(u:TA)(z:WJ)(H:Tx)(k:V->Tx->Prop):Prop:=∃J t n,u=[.ob 3,.c (.int n)]/\z=[]/\H=Hp J t/\k (.c (.str (Du n J).1)) (Hp (Du n J).2 t)
def aa2(xs kws H k)(h:IB xs kws H k):Ab (Ah [292,296] xs kws) λN=>ex g0 EA ⟨N,H,64,false⟩ (fin k):=by
 show fg h λJ t n z j U D=>?_;clear h;subst z j U;show b9 (Du n J).2 t D
def dE(J:Sm)(t:Tm)(u:g.fn f=true)(N:Z.all FD=true)(y:lo s.H=Hp J t)(h:g.call f Z P (Hp J t) λv H=>F v (As s (H++hi s.H))):BL g f Z P s F:=
 fT u N (gS J t y) (by rw[y];show h)
def AY:S:=.seq (.Aj 129 (.Bb (.loc 292) 129)) (.seq (.Aj 214 (.Al (.loc 129) 4 (.cons (.k (.str [10])) (.cons (.k (.int 0)) (.cons (.loc 221) .nil))) [])) (.seq (.Aj 241 (.bin 0 (.Bb (.loc 292) 244) (.loc 214))) (.seq (.Aj 195 (.Al (.loc 129) 5 (.cons (.k (.str [10])) (.cons (.k (.int 0)) (.cons (.loc 221) .nil))) [])) (.seq (.iff (.cmp 0 (.loc 195) (.k (.int (-1)))) (.seq (.Aj 240 (.bin 0 (.Bb (.loc 292) 243) (.loc 221))) .skip) (.seq (.Aj 240 (.bin 1 (.loc 221) (.bin 0 (.loc 195) (.k (.int 1))))) .skip)) (.seq (.ret (.tup (.cons (.loc 241) (.cons (.loc 240) .nil)))) .skip)))))
def CA(J:Sm)(o:Int):Int×Int:=(J.pl+((J.Ac.take o.toNat).count 10:Nat),if Dn 10 (J.Ac.take o.toNat)= -1 then J.pc+o else o-(Dn 10 (J.Ac.take o.toNat)+1))
def EE(u:TA)(z:WJ)(H:Tx)(k:V->Tx->Prop):Prop:=∃J t o,u=[.ob 2,.c (.int o)]/\z=[]/\H=Hp J t/\(0<=o/\o<2 ^ 63)/\k (.c (.tup [.int (CA J o).1,.int (CA J o).2])) (Hp J t)
def lg(xs kws H k)(h:EE xs kws H k):Ab (Ah [292,221] xs kws) λN=>ex g0 AY ⟨N,H,64,false⟩ (fin k):=by
 show aK h λJ t o z j U a D=>?_;subst z j U
 conv=>whnf
 show⟨⟨rfl,a⟩,?_⟩
 conv=>whnf
 show⟨⟨rfl,a⟩,?_⟩;unfold CA at D
 conv=>whnf
 show bh (λh=>?_) λh=>?_
 ·rw[Zk (Zm h)]at D;show b9 J t D
 ·rw[Zi (ZA h)]at D;show b9 J t D
def Bm:S:=.seq (.iff (.cmp 7 (.loc 119) (.BR (.c .Ak))) (.seq (.iff (.cmp 0 (.Bb (.loc 292) 130) (.k (.int 0))) (.seq (.Bi (.loc 292) 129 (.bin 0 (.loc 119) (.Bb (.loc 292) 129))) (.seq (.Gb (.loc 292) 131 0 (.k (.int 1))) .skip)) (.seq (.Gb (.loc 292) 130 1 (.k (.int 1))) (.seq (.Mh (.cmp 0 (.sub (.Bb (.loc 292) 129) (.Bb (.loc 292) 130)) (.loc 119))) .skip))) .skip) .skip) .skip
def Dk(u:TA)(z:WJ)(H:Tx)(k:V->Tx->Prop):Prop:=
 (∃J t,u=[.ob 2,.c .Ak]/\z=[]/\H=Hp J t/\k (.c .Ak) (Hp J t))\/
 (∃J t c,u=[.ob 2,.c (.str [c])]/\z=[]/\H=Hp J t/\J.off≠0/\Co J.Ac (J.off-1)=some c/\k (.c .Ak) (Hp {J with off:=J.off-1} t))
def w8(xs kws H k)(h:Dk xs kws H k):Ab (Ah [292,119] xs kws) λN=>ex g0 Bm ⟨N,H,64,false⟩ (fin k):=by
 rcases h with ⟨J,t,rfl,rfl,rfl,D⟩|⟨J,t,c,rfl,rfl,rfl,j,hi,D⟩
 ·show jB J t D
 ·conv=>whnf
  show bH (Zs j) ?_
  conv=>whnf
  show aa hi ?_
  conv=>whnf
  show aW ((aE [c] [c]).trans (Zr rfl)) (jB {J with off:=J.off-1} t D)
abbrev Aq:=TA->WJ->Tx->(V->Tx->Prop)->Prop
def B9(j:List (Nat×Aq))(y:Nat):Aq:=Option.rec (λZ Z Z Z=>False) (λs=>s) (Sx y j)
def Ax(j:List (Nat×Aq)):G:= {g0 with call:=B9 j}
abbrev S1:Nat×AO:=(1,.inst 762 [])
abbrev S2:Nat×AO:=(2,.inst 166 [])
def Oy(l:Tw):Nat×AO:=(2,.inst 166 ((264,.E9 148 2)::(216,.ob 9)::l))
abbrev S9:Nat×AO:=(9,.lst [.int 0])
def S3(d:WJ):Nat×AO:=(3,.inst 73 [(311,.c (.str d)),(237,.c (.int 0))])
def CY:S:=.seq (.Bi (.loc 292) 311 (.loc 311)) (.seq (.Bi (.loc 292) 237 (.k (.int 0))) .skip)
def EF:Aq:=λu z H k=>∃d,u=[.ob 3,.c (.str d)]/\z=[]/\H=[S1,Oy [],S9,(3,.inst 73 [])]/\k (.c .Ak) [S1,Oy [],S9,S3 d]
def lh(xs kws H k)(h:EF xs kws H k):Ab (Ah [292,311] xs kws) λN=>ex g0 CY ⟨N,H,64,false⟩ (fin k):=by
 show bO h λd Q P z D=>?_;clear h;subst Q P z;show D
def Bn:S:=.seq (.Bi (.loc 292) 129 (.k (.str []))) (.seq (.Bi (.loc 292) 131 (.k (.int 0))) (.seq (.Bi (.loc 292) 130 (.k (.int 0))) (.seq (.Bi (.loc 292) 168 (.lst .nil)) (.seq (.Bi (.loc 292) 244 (.k (.int 0))) (.seq (.Bi (.loc 292) 243 (.k (.int 0))) (.seq (.Bi (.loc 292) 41 (.k .Ak)) .skip))))))
def JE(d:WJ):Sm:=⟨d,0,[],0,0,[],0,0,.Ak⟩
def He:Aq:=λu z H k=>∃d,u=[.ob 2]/\z=[]/\H=[S1,Oy [(147,.ob 3)],S9,S3 d]/\k (.c .Ak) [S1,(2,.inst 166 (Sf (JE d))),S9,S3 d,(6,.lst [])]
def xd(xs kws H k)(h:He xs kws H k):Ab (Ah [292] xs kws) λN=>ex g0 Bn ⟨N,H,64,false⟩ (fin k):=by
 show bO h λd Q P z D=>?_;clear h;subst Q P z;show D
def JL:List (Nat×Aq):=[(84,DR),(70,IB),(119,EE),(63,EF),(105,He),(163,Dk)]
noncomputable def g1:G:=Ax JL
def AR:S:=.seq (.Aj 305 (.new 73 (.cons (.loc 299) .nil))) (.seq (.ret (.loc 305)) .skip)
def DQ:Aq:=λu z H k=>∃d,u=[.ob 2,.c (.str d)]/\z=[]/\H=[S1,Oy [],S9]/\k (.ob 3) [S1,Oy [],S9,S3 d]
def jI(xs kws H k)(h:DQ xs kws H k):Ab (Ah [292,299] xs kws) λN=>ex g1 AR ⟨N,H,64,false⟩ (fin k):=by
 show bO h λd Q P z D=>?_;clear h;subst Q P z
 conv=>whnf
 show(aY d rfl rfl rfl D)
def adm(J:Sm)(t:Tm):hi (Hp J t)=[]:=by
 obtain⟨st,l,q,tb⟩:=t;cases q<;>cases l<;>rfl
def eh(J:Sm)(t:Tm)(u:g.fn f=true)(N:Z.all FD=true)(y:s.H=Hp J t)(h:g.call f Z P (Hp J t) λv H=>F v ⟨s.L,H,s.m,s.vl⟩):BL g f Z P s F:=by
 show dE J t u N (by rw[y,bZ]) ?_;rw[y,adm];simp only[Zu];show h
def Bc:S:=.seq (.GC [(none,199),(none,135)] (.Al (.loc 292) 85 (.cons (.Bb (.loc 292) 130) .nil) [])) (.seq (.ret (.tup (.cons (.bin 0 (.loc 199) (.k (.int 1))) (.cons (.loc 135) .nil)))) .skip)
def DA:Aq:=λu z H k=>∃J t,u=[.ob 2]/\z=[]/\H=Hp J t/\(0<=J.off/\J.off<2 ^ 63)/\k (.c (.tup [.int ((CA J J.off).1+1),.int (CA J J.off).2])) (Hp J t)
def hJ(xs kws H k)(h:DA xs kws H k):Ab (Ah [292] xs kws) λN=>ex g1 Bc ⟨N,H,64,false⟩ (fin k):=by
 show dH h λJ t P z j U D=>?_;clear h;subst P z j;show eh J t rfl rfl rfl (aM J t J.off rfl rfl rfl U (b9 J t D))
def KG:S:=.seq (.iff (.call 84 (.cons (.fn 1 (.cons (.loc 118) .nil)) .nil)) (.seq (.ex (.Al (.Bb (.loc 292) 168) 0 (.cons (.k (.str To)) .nil) [])) .skip) .skip) .skip
def Aw:S:=.seq (.fr 102 [118] (.loc 145) KG) .skip
def SF:FV:=.str To
def Ao(l:WJ):Tz:=(l.filter λ(c:Nat)=>Kt (c:Int)).map λZ=>SF
def IF:Aq:=λu z H k=>∃J t l,u=[.ob 2,.c (.str l)]/\z=[]/\H=Hp J t/\J.AH.length+l.length<=16777216/\k (.c .Ak) (Hp {J with AH:=J.AH++Ao l} t)
def kZ(x:Nat)(l:WJ):Ao (x::l)=(if Kt (x:Int)=true then [SF]else [])++Ao l:=by
 unfold Ao;by_cases h:Kt x=true
 ·rw[Zk h,X9 (by show h)];rfl
 ·rw[Zi h,Wa (by show h)];rfl
def qx(t:Tm)(K:TB)(l:WJ):∀(J:Sm) (L:Tw) (m:Nat),Sx 292 L=some (.ob 2)->J.AH.length+l.length<=16777216->
  (∀U,K .AZ ⟨U,Hp {J with AH:=J.AH++Ao l} t,m,false⟩)->
  Dd (ex g1 KG) (C3 [118]) (l.map λx=>.str [x]) ⟨L,Hp J t,m,false⟩ K:=by
 induction l with
 |nil=>
  intro J L m v P D;have:=D L;rw[show J.AH++Ao []=J.AH from Zu _]at this;show this
 |cons x l Q=>
  intro J L m v P D;have A:Sx 292 (put 118 (.c (.str [x])) L)=some (.ob 2):=by rw[ao,Zi (by ext)];show v
  rw[Zj]at P;rw[kZ, ←Zo]at D
  conv=>whnf
  show aa ((ao 118 118 _ _).trans (Zk rfl)) ?_
  conv=>whnf
  show eh J t rfl rfl rfl (aY x rfl rfl (gS J t (bZ J t)) ?_);rw[bZ]
  conv=>whnf
  show bh (λh=>?_) λh=>?_
  ·rw[Zk (show Kt (x:Int)=true from h)]at D
   conv=>whnf
   show aa A ?_
   conv=>whnf
   show⟨by lia,?_⟩;show Q {J with AH:=J.AH++[SF]} _ m A ?_ D;rw[Zg];change _+1+_<=_;show Zh (Zz (ZZ _ 1 _)) P
  ·rw[Zi (by rw[show Kt (x:Int)=false from h];decide),Zu]at D;show Q J _ m A (Yj P) D
def aa5(xs kws H k)(h:IF xs kws H k):Ab (Ah [292,145] xs kws) λN=>ex g1 Aw ⟨N,H,64,false⟩ (fin k):=by
 show aK h λJ t l z j U P D=>?_;clear h;subst z j U;show qx t _ l J _ 64 rfl P λa=>jB {J with AH:=J.AH++Ao l} t D
def JK:List (Nat×Aq):=(112,DQ)::(126,DA)::(148,IF)::JL
noncomputable def g2:G:=Ax JK
def Be:S:=.seq (.Bi (.loc 292) 264 (.Bb (.loc 292) 122)) (.seq (.Bi (.loc 292) 216 (.lst (.cons (.k (.int 0)) .nil))) (.seq (.Bi (.loc 292) 147 (.Al (.loc 292) 222 (.cons (.loc 299) .nil) [])) (.seq (.ex (.Al (.loc 292) 265 .nil [])) .skip)))
def Fh:Aq:=λu z H k=>∃d,u=[.ob 2,.c (.str d)]/\z=[]/\H=[S1,S2]/\k (.c .Ak) [S1,(2,.inst 166 (Sf (JE d))),S9,S3 d,(6,.lst [])]
def mO(xs kws H k)(h:Fh xs kws H k):Ab (Ah [292,299] xs kws) λN=>ex g2 Be ⟨N,H,64,false⟩ (fin k):=by
 show bO h λd Q P z D=>?_;clear h;subst Q P z
 conv=>whnf
 show(aY d rfl rfl rfl ?_)
 conv=>whnf
 show(aY d rfl rfl rfl D)
def d5(P:z.length<=y.length)(a:0<y.length):∀(l:WJ) (n:Nat),n<=l.length->(AQ y z n l).length+n<=l.length
 | [],n,h=>by
  have:n=0:=by simpa using h
  subst this;unfold AQ;simp
 |c::r,0,_=>by
  unfold AQ;split
  ·rename_i h;have j:=List.IsPrefix.length_le (Xj.mp h);rw[Zj]at j;have:=d5 P a r (y.length-1) (Nat.sub_le_of_le_add j);rw[Zg,Zj];show Zh (ZV (Zh P (XC.mp (Zq (_-1)))) _) (Zh (Zz (Xp _ _)) (Z1 this))
  ·show Nat.le_add_of_sub_le (d5 P a r 0 (ZF _))
 |c::r,n+1,h=>by
  rw[Zj];show Nat.le_add_of_sub_le (d5 P a r n (by rw[Zj]at h;show ZN h))
def AV(l:WJ):WJ:=AQ [13] [10] 0 (AQ [13,10] [10] 0 l)
def fP(l:WJ):(AQ [13,10] [10] 0 l).length<=l.length:=d5 (by ext) (by ext) l 0 (ZF _)
def d8(l:WJ):(AV l).length<=l.length:=Zh (d5 (by ext) (by ext) _ 0 (ZF _)) (fP l)
def LR(J:Sm)(d:WJ):Sm:= {J with AH:=J.AH++Ao d,Ac:=AV d,size:=((AV d).length:Int)}
def KA:S:=.seq (.iff (.Bb (.loc 292) 264) (.seq (.ex (.Al (.loc 292) 264 (.cons (.loc 145) .nil) [])) .skip) .skip) (.seq (.Aj 145 (.rep (.loc 145) [13,10] [10])) (.seq (.Aj 145 (.rep (.loc 145) [13] [10])) (.seq (.Bi (.loc 292) 129 (.loc 145)) (.seq (.Bi (.loc 292) 131 (.fn 0 (.cons (.loc 145) .nil))) (.seq (.ret (.k (.Ae true))) .skip)))))
def KC:S:=.seq (.iff (.cmp 4 (.fn 0 (.cons (.loc 145) .nil)) (.k (.int 1))) (.seq (.Aj 196 (.fn 1 (.cons (.sub (.loc 145) (.k (.int (-1)))) .nil))) (.seq (.iff (.or (.cmp 0 (.loc 196) (.k (.int 13))) (.Gf (.k (.int 55296)) (.loc 196) (.k (.int 56319)))) (.seq (.Bi (.loc 292) 41 (.sub (.loc 145) (.k (.int (-1))))) (.seq (.Aj 145 (.Cj (.loc 145) (.k .Ak) (.k (.int (-1))))) .skip)) .skip) .skip)) .skip) KA
def Ky:S:=.iff (.Bb (.loc 292) 41) (.seq (.Aj 145 (.bin 0 (.Bb (.loc 292) 41) (.loc 145))) (.seq (.Bi (.loc 292) 41 (.k .Ak)) .skip)) (.seq (.iff (.not (.loc 145)) (.seq (.ret (.k (.Ae false))) .skip) .skip) .skip)
def Kz:S:=.seq Ky KC
def KD:S:=.seq (.GC [(some (.loc 292),244),(some (.loc 292),243)] (.Al (.loc 292) 85 (.cons (.Bb (.loc 292) 131) .nil) [])) (.seq (.Bi (.loc 292) 129 (.k (.str []))) (.seq (.Bi (.loc 292) 131 (.k (.int 0))) (.seq (.Bi (.loc 292) 130 (.k (.int 0))) (.seq (.Aj 145 (.Al (.Bb (.loc 292) 147) 260 (.cons (.loc 131) .nil) [])) Kz))))
def AX:S:=.seq (.iff (.cmp 6 (.loc 131) (.k .Ak)) (.seq (.Aj 131 (.Bb (.loc 292) 45)) .skip) .skip) KD
def rd2{m:Nat}{K:TB}(U:Sx 292 L=some (.ob 2))(N:Sx 145 L=some (.c (.str data)))(P:J.AH.length+data.length<=1048576)
  (D:∀b,K (.ret (.c (.Ae true))) ⟨b,Hp (LR J data) t,m,false⟩):ex g2 KA ⟨L,Hp J t,m,false⟩ K:=by
 have a:∀v,Sx 292 (put 145 v L)=some (.ob 2):=λv=>by rw[ao,Zi (by ext)];show U
 have A:∀v w,Sx 292 (put 145 v (put 145 w L))=some (.ob 2):=λv w=>by rw[ao,Zi (by ext)];show a _
 have hd:∀(v:V) (L:Tw),Sx 145 (put 145 v L)=some v:=λv L=>(ao 145 145 _ _).trans (Zk rfl)
 conv=>whnf
 show aa U ?_
 conv=>whnf
 show aa U ?_
 conv=>whnf
 show aa N ?_
 conv=>whnf
 show eh J t rfl rfl rfl (aM J t data rfl rfl rfl (by lia) ?_)
 conv=>whnf
 show aa (o:=Sx 145 L) N ?_
 conv=>whnf
 show⟨⟨rfl,by show Xk P⟩,?_⟩
 conv=>whnf
 show aa (o:=Sx 145 (put 145 _ L)) (hd _ _) ?_
 conv=>whnf
 show⟨⟨rfl,Zh (fP _) (by show Xk P)⟩,?_⟩
 conv=>whnf
 show aa (o:=Sx 145 (put 145 _ (put 145 _ L))) (hd _ _) ?_
 conv=>whnf
 show aa (o:=Sx 292 (put 145 _ (put 145 _ L))) (A _ _) ?_
 conv=>whnf
 show aa (o:=Sx 145 (put 145 _ (put 145 _ L))) (hd _ _) ?_
 conv=>whnf
 show aa (o:=Sx 292 (put 145 _ (put 145 _ L))) (A _ _) ?_
 conv=>whnf
 show D _
def EK(c:Nat):Bool:=decide ((c:Int)=13)||(decide ((55296:Int)<=(c:Int))&&decide ((c:Int)<=56319))
def tD{y:Type}(a:y)(r:List y):Co (a::r) (-1)=(a::r)[r.length]? :=by
 have e:(-1+((r.length+1:Nat):Int))=(r.length:Nat):=Int.subNatNat_of_le (Z0 1 r.length);change(Bool.rec (Bool.rec none (a::r)[(-1+((r.length+1:Nat):Int)).toNat]? (decide (0<= -1+((r.length+1:Nat):Int)))) (a::r)[(-1:Int).toNat]? (decide ((0:Int)<= -1)):Option y)=_;rw[e,Zr (Yx r.length)];rfl
def kI(h:1<d.length):Co d (-1)=some (d.getLastD 0):=by
 cases d with
 |nil=>cases h
 |cons a r=>show(tD a r).trans (List.getLast?_eq_getElem?.symm.trans (by rw[List.getLastD_eq_getLast?,Xw (by simp)];rfl))
def lW(d:WJ)(h:1<d.length):slice d none (some (-1))=d.dropLast:=by
 change(d.take (Bool.rec (-1+(d.length:Int)).toNat (min (-1:Int).toNat d.length) (decide ((0:Int)<= -1)))).drop 0=_;rw[(rfl:decide ((0:Int)<= -1)=false)];change(d.take (-1+(d.length:Int)).toNat).drop 0=_;rw[Yp,List.dropLast_eq_take,(show(-1+(d.length:Int)).toNat=d.length-1 from(T3 Int.toNat (Int.add_comm (-1) _)).trans (Int.toNat_sub _ 1))]
def M6(J:Sm)(d:WJ):Sm:=if 1<d.length/\EK (d.getLastD 0)=true then LR {J with buf:=.str [d.getLastD 0]} d.dropLast else LR J d
def rd1{m:Nat}{K:TB}(U:Sx 292 L=some (.ob 2))(N:Sx 145 L=some (.c (.str d)))(P:J.AH.length+d.length<=1048576)
  (D:∀b,K (.ret (.c (.Ae true))) ⟨b,Hp (M6 J d) t,m,false⟩):ex g2 KC ⟨L,Hp J t,m,false⟩ K:=by
 unfold M6 at D
 conv=>whnf
 show aa N ?_
 conv=>whnf
 show bh (λh=>?_) λh=>?_
 ·have a:1<d.length:=by show Xa.mp (Zm h)
  have l:Ev g2 (.loc 196) ⟨put 196 (.c (.int (d.getLastD 0:Nat))) L,Hp J t,m,false⟩ (.c (.int (d.getLastD 0:Nat))):=.loc ((ao 196 196 _ _).trans (Zk rfl));have g:Sx 145 (put 196 (.c (.int (d.getLastD 0))) L)=some (.c (.str d)):=by rw[ao,Zi (by ext)];show N
  have j:Sx 292 (put 196 (.c (.int (d.getLastD 0))) L)=some (.ob 2):=by rw[ao,Zi (by ext)];show U
  conv=>whnf
  show aa N ?_
  conv=>whnf
  show aa (kI a) (Ev.mh (.adO l .kk) (.Gf .kk l .kk) _ (aa rfl (bh (λu=>?_) λu=>?_)))
  ·rw[Zk ⟨a,u⟩]at D
   conv=>whnf
   show aa (o:=Sx 145 (put 196 _ L)) g ?_
   conv=>whnf
   show aa (o:=Co d (-1)) (kI a) ?_
   conv=>whnf
   show aa (o:=Sx 292 (put 196 _ L)) j ?_
   conv=>whnf
   show aa (o:=Sx 145 (put 196 _ L)) g (rd2 (L:=put 145 (.c (.str (slice d none (some (-1))))) _) (J:= {J with buf:=.str [d.getLastD 0]}) (data:=d.dropLast) (by rw[ao,Zi (by ext)];show j) ?_ (by rw[List.length_dropLast];change J.AH.length+_<=_;show Zh (ZH (Wl _ 1) _) P) D);rw[lW _ a];show(ao 145 145 _ _).trans (Zk rfl)
  ·rw[Zi (by rw[show EK _=false from u];intro q;cases q.2)]at D;show rd2 j g P D
 ·rw[Zi λq=>by have:=ZA h;lia]at D;show rd2 U N P D
def HX(f:FV):WJ:=Option.rec [] (λb=>b) (aS f)
def FZ(J:Sm):Sm:= {J with pl:=(CA J J.size).1,pc:=(CA J J.size).2,Ac:=[],size:=0,off:=0}
def Mt(n:Int)(J:Sm):WJ:=HX J.buf++(Du n (FZ J)).1
def Hh(n:Int)(J:Sm):Sm:=if Mt n J=[]then(Du n (FZ J)).2 else M6 {(Du n (FZ J)).2 with buf:=.Ak} (Mt n J)
def Jw(n:Int)(J:Sm):Bool:= !decide (Mt n J=[])
structure Ml (n:Int) (J:Sm):Prop where
 buf:J.buf=.Ak\/∃c,J.buf=.str [c]
 size:0<=J.size/\J.size<2 ^ 63
 AH:J.AH.length+(Mt n J).length<=1048576
def rd4{d g D:WJ}{n:Int}{K:TB}(a:[c].length+D.length<=16777216)(b:K .AZ ⟨[(292,.ob 2),(131,.c (.int n)),(145,.c (.str ([c]++D)))],Hp ⟨d,j,g,size,l,AH,pl,s,.Ak⟩ t,64,false⟩):
  ex g2 Ky ⟨[(292,.ob 2),(131,.c (.int n)),(145,.c (.str D))],Hp ⟨d,j,g,size,l,AH,pl,s,.str [c]⟩ t,64,false⟩ K:=⟨a,b⟩
def rd3{K:TB}(P:J.buf=.Ak\/∃c,J.buf=.str [c])(e:J.AH.length+(HX J.buf++D).length<=1048576)
  (b:∀h,K (.ret (.c (.Ae (!decide (HX J.buf++D=[]))))) ⟨h,Hp (if HX J.buf++D=[]then J else M6 {J with buf:=.Ak} (HX J.buf++D)) t,64,false⟩):
  ex g2 Kz ⟨[(292,.ob 2),(131,.c (.int n)),(145,.c (.str D))],Hp J t,64,false⟩ K:=by
 obtain⟨d,j,g,size,l,AH,pl,s,u⟩:=J;rcases P with U|⟨c,U⟩<;>cases U
 ·cases D with
  |nil=>show b _
  |cons a D=>
   rw[Zi (by rintro ⟨⟩)]at b;show rd1 (L:=[(292,.ob 2),(131,.c (.int n)),(145,.c (.str (a::D)))]) rfl rfl e b
 ·have f:[c].length+D.length<=16777216:=by
   have e:AH.length+([c]++D).length<=1048576:=e;rw[Zg]at e;lia
  rw[Zi (by rintro ⟨⟩)]at b;show rK (rd4 f (rd1 rfl rfl e b))
def rd0{K:TB}(h:Ml n J)(D:∀a,K (.ret (.c (.Ae (Jw n J)))) ⟨a,Hp (Hh n J) t,64,false⟩):ex g2 KD ⟨[(292,.ob 2),(131,.c (.int n))],Hp J t,64,false⟩ K:=by
 obtain⟨U,N,b⟩:=h
 conv=>whnf
 show eh J t rfl rfl rfl (aM J t J.size rfl rfl rfl N ?_)
 conv=>whnf
 show eh (FZ J) t rfl rfl rfl (cg (FZ J) t n rfl rfl rfl (rd3 U b D))
def EC:Aq:=λu z H k=>∃J t n,(u=[.ob 2,.c (.int n)]\/u=[.ob 2]/\n=10240)/\z=[]/\H=Hp J t/\Ml n J/\k (.c (.Ae (Jw n J))) (Hp (Hh n J) t)
def Ed(Q:WJ)(d:FV)(u:TA)(z:WJ):Option Tw:=
 List.casesOn z (Bool.rec (Bool.rec none (some (Q.zip (u++[.c d]))) (beq (u.length+1) Q.length)) (some (Q.zip u)) (beq u.length Q.length)) λZ Z=>none
def k9(xs kws H k)(h:EC xs kws H k):Ab (Ed [292,131] .Ak xs kws) λN=>ex g2 AX ⟨N,H,64,false⟩ (fin k):=by
 show aK h λJ t n b j U D c=>?_;clear h;subst j U;have u:∀a,fin k (.ret (.c (.Ae (Jw n J)))) ⟨a,Hp (Hh n J) t,64,false⟩:=λa=>b9 (Hh n J) t c;rcases b with rfl|⟨rfl,rfl⟩
 ·show rd0 D u
 ·show rd0 D u
abbrev rp(l:WJ):WJ:=AQ [13,10] [10] 0 l
def l9:∀(a b:WJ),¬(a.getLast?=some 13/\b.head?=some 10)->rp (a++b)=rp a++rp b
 | [],b,_=>rfl
 | [c],b,h=>by
  have n1:¬[13,10].isPrefixOf [c]=true:=by simp[List.isPrefixOf]
  have n2:¬[13,10].isPrefixOf (c::b)=true:=λq=>by
   cases b with
   |nil=>show n1 q
   |cons x r=>
    simp only[List.isPrefixOf,Zp,Yw]at q;show h ⟨by simp[←q.1],by simp[←q.2.1]⟩
  change AQ _ _ 0 (c::b)=AQ _ _ 0 (c::[])++_;rw[dC n1,dC n2];rfl
 |c::x::r,b,h=>by
  by_cases q:[13,10].isPrefixOf (c::x::r)=true
  ·have A:[13,10].isPrefixOf (c::x::(r++b))=true:=by simp only[List.isPrefixOf,Zp]at q⊢;show⟨q.1,q.2.1,trivial⟩
   have D:¬(r.getLast?=some 13/\b.head?=some 10):=λt=>h ⟨by
    cases r with
    |nil=>simp at t
    |cons y r=>rw[X8];show t.1,t.2⟩
   change AQ _ _ 0 (c::x::(r++b))=AQ _ _ 0 (c::x::r)++_;rw[i6 (by ext) q,i6 (by ext) A];change 10::rp (r++b)=(10::rp r)++rp b;rw[l9 r b D];rfl
  ·have A:¬[13,10].isPrefixOf (c::x::(r++b))=true:=λt=>q (by simp only[List.isPrefixOf,Zp]at t⊢;show⟨t.1,t.2.1,trivial⟩);change AQ _ _ 0 (c::x::(r++b))=AQ _ _ 0 (c::x::r)++_;rw[dC q,dC A];change c::rp ((x::r)++b)=(c::rp (x::r))++rp b;rw[l9 (x::r) b (show¬((x::r).getLast?=some 13/\b.head?=some 10) from λt=>h ⟨by rw[X8];show t.1,t.2⟩)];rfl
def PI(c:Nat):Nat:=if c=13 then 10 else c
def vB:∀l:WJ,AQ [13] [10] 0 l=l.map PI:=by
 intro l;induction l with
 |nil=>
  show rfl
 |cons c r Q=>
  unfold AQ;by_cases h:c=13
  ·subst h;rw[Zk ((i9 [13] (13::r)).mpr rfl)];rw[Q];rfl
  ·rw[Zi (by simp only[List.isPrefixOf,Bool.and_true,Yw];show λe=>h e.symm),Q,Ye];unfold PI;rw[Zi h]
def gz(l:WJ):AV l=(rp l).map PI:=vB _
def kA(h:¬(a.getLast?=some 13/\b.head?=some 10)):AV (a++b)=AV a++AV b:=by rw[gz,gz,gz,l9 a b h,Z7]
def jg(h:l≠[]):AV l≠[]:=by
 cases l with
 |nil=>show T4 rfl h
 |cons c r=>
  rw[gz];unfold AQ;split<;>simp
def zR(c:Nat):∀l, -1<=Dn c l:=by
 intro l;induction l with
 |nil=>
  show Int.le_refl (-1)
 |cons x r Q=>
  unfold Dn;split
  ·show Int.le_add_one Q
  ·split<;>lia
def vA(c:Nat)(y:WJ):∀x,Dn c (x++y)=if Dn c y= -1 then Dn c x else x.length+Dn c y:=by
 intro x;induction x with
 |nil=>
  split
  ·assumption
  ·simp
 |cons a x Q=>
  have g2:=zR c y;rw[Y2];change(if 0<=Dn c (x++y)then Dn c (x++y)+1 else if a=c then 0 else-1)=if Dn c y= -1 then(if 0<=Dn c x then Dn c x+1 else if a=c then 0 else-1)else _;rw[Q];by_cases h:Dn c y= -1
  ·rw[Zk h,Zk h]
  ·rw[Zi h,Zi h,Zk (Int.add_nonneg (Yx _) (Int.lt_iff_le_and_ne.mpr ⟨g2,λq=>h q.symm⟩)),Zj];lia
def EM(d:WJ):Int:=d.length-(Dn 10 d+1)
def EG(d:WJ):Int:=(d.count 10:Nat)
def nU{o:Int}{n:Nat}(D:J.pl=EG g)(a:J.pc=EM g)(U:o=n)(j:n<=J.Ac.length):CA J o=(EG (g++J.Ac.take n),EM (g++J.Ac.take n)):=by
 subst U;unfold CA;rw[D,a];rw[Yv];have u:(J.Ac.take n).length=n:=by rw[ZG];show ZO j
 congr 1
 ·unfold EG;rw[List.count_append];show Y7 (List.count 10 g) (List.count 10 (List.take n J.Ac))
 ·unfold EM;rw[vA,Zg,u];split<;>lia
structure G6 (J:Sm) (d r:WJ) (e m p o:Nat) (d0 b:WJ):Prop where
 place:J.place=p
 pr:p<=J.raw.length
 off:J.off=o
 size:J.size=J.Ac.length
 oc:o<=J.Ac.length
 buf:b=[]/\J.buf=.Ak\/b=[13]/\J.buf=.str [13]
 dd:d=d0++J.Ac.take o
 rr:r=J.Ac.drop o++AV (b++J.raw.drop p)
 pl:J.pl=EG d0
 pc:J.pc=EM d0
 mm:m=(Ao (b++J.raw.drop p)).length
 AH:J.AH=List.replicate e SF
 raw:J.raw.length<=10240
 cut:∀c∈J.raw,EK c=true->c=13
 em:e+m<=10240
 dr:d.length+r.length<=10240
def View(J:Sm)(d r:WJ)(e m:Nat):Prop:=∃p o g b,G6 J d r e m p o g b
def g8(a b:WJ):Ao (a++b)=Ao a++Ao b:=by unfold Ao;rw[List.filter_append,Z7]
def g7(a:WJ):Ao a=List.replicate (Ao a).length SF:=by unfold Ao;simp[List.map_const']
def mN(a:WJ):(Ao a).length<=a.length:=by rw[ZD];show List.length_filter_le _ _
def G6.z7{e m p o:Nat}{g b:WJ}(h:G6 J d r e m p o g b):CA J J.size=(EG (g++J.Ac),EM (g++J.Ac)):=by
 have:=nU h.pl h.pc h.size (Zq _);replace this:=YC▸this;show this
def bV(l k:Nat):DL l (k:Int)=min k l:=by
 unfold DL;rw (occs:=.all) [Zr (show 0<=(k:Int) by show Yx k),Yv]
def vH{J:Sm}{p n:Nat}(U:J.place=p)(N:p<=J.raw.length):(Du (n:Int) (FZ J)).1=(J.raw.drop p).take n:=by
 change(J.raw.take (DL J.raw.length (J.place+n))).drop (DL J.raw.length J.place)=_;rw[U,bV,ZO N, ←Wj,Wf,YQ]
def i7{d r:WJ}{n:Nat}(hn:2<=n)(h:View J d r e m):Ml (n:Int) J/\∃y e' M,r=J.Ac.drop J.off.toNat++y/\e'+M=e+m/\M<=m/\(n=10240->M=0)/\
  View (Hh (n:Int) J) (d++J.Ac.drop J.off.toNat) y e' M/\(Hh (n:Int) J).off=0/\(Jw (n:Int) J=false->y=[]/\(Hh (n:Int) J).Ac=[])/\(Jw (n:Int) J=true->(Hh (n:Int) J).Ac≠[]):=by
 show bu h λp o F b h=>?_;have ho:J.off.toNat=o:=by rw[h.off];show Yv _
 have hd:d++J.Ac.drop o=F++J.Ac:=by rw[h.dd,Zo,Yc]
 have hA:=vH (n:=n) h.place h.pr;have hb:HX J.buf=b:=by rcases h.buf with ⟨U,Z⟩|⟨U,Z⟩<;>rw[U,Z]<;>rfl
 have hD:Mt n J=b++(J.raw.drop p).take n:=by unfold Mt;rw[hb,hA]
 have t:J.raw.drop p=(J.raw.drop p).take n++(J.raw.drop p).drop n:=(Yc _ _).symm;have N:(Du n (FZ J)).2.place=((p+((J.raw.drop p).take n).length:Nat):Int):=by
  rw[show(Du (n:Int) (FZ J)).2.place=J.place+((Du (n:Int) (FZ J)).1.length:Int) from rfl,hA,h.place];show Y7 p (List.take n (List.drop p J.raw)).length
 have C:J.raw.drop (p+((J.raw.drop p).take n).length)=(J.raw.drop p).drop n:=by
  rw[←YI,ZG];by_cases q:n<=(J.raw.drop p).length
  ·rw[ZO q]
  ·rw[Nat.min_eq_right (by show Nat.le_of_not_ge q),List.drop_length,YD (by show Nat.le_of_not_ge q)]
 have L:p+((J.raw.drop p).take n).length<=J.raw.length:=by rw[ZG,ZM];show Zh (ZH (Yt _ _) p) (Zz (YV h.pr))
 have u:(b++(J.raw.drop p).take n).length<=10241:=by
  have:b.length<=1:=by rcases h.buf with ⟨U,_⟩|⟨U,_⟩<;>rw[U]<;>simp
  have:=h.raw;rw[Zg];lia
 have a:=h.em;have v:=h.dr;have O:=h.mm;have l:=h.z7;have hcl:J.Ac.length<=10240:=by
  rw[h.dd,h.rr,Zg,Zg,ZG,ZM]at v;have:=h.oc;lia
 rw[ho];generalize E:(J.raw.drop p).take n=A at*;generalize k:(J.raw.drop p).drop n=B at*;have Q:n=10240->B=[]:=λq=>by
  rw[←k];show YD (by rw[ZM,q];have:=h.raw;show Zh (Wl _ _) this)
 have g:A.length<n->B=[]:=λq=>by
  rw[←k];show YD ?_;rw[←E,ZG]at q;lia
 have G:∀c∈A,c∈J.raw:=λc i=>by rw[←E]at i;show List.mem_of_mem_drop (List.mem_of_mem_take i)
 show⟨⟨?_,?_,by rw[hD,show J.AH.length=e by rw[h.AH,Yd]];show Zh (Z9 (ZK a) u) (by ext)⟩,?_⟩
 ·rcases h.buf with ⟨_,Z⟩|⟨_,Z⟩
  ·show .inl Z
  ·show .inr (yE _ Z)
 ·rw[h.size];lia
 show(yE (AV (b++(A++B))) ?_);have R:r=J.Ac.drop o++AV (b++(A++B)):=by rw[h.rr,t]
 rw[t]at O;unfold Hh Jw;rw[hD];by_cases P:b++A=[]
 ·rw[Zk P,Zr P];show zA (Xy.mp P) λS V=>?_;clear hb hD u P;subst S V;have Y:B=[]:=g (by rw[ZW];show Nat.zero_lt_of_lt hn);clear k Q C g;subst Y;show(eY e m R rfl (Zq _) (λuu=>by rw[O];rfl) (bR p 0 (F++J.Ac) [] ?_) rfl (λuu=>⟨rfl,rfl⟩) λq=>(by cases q));have T:J.buf=.Ak:=by rcases h.buf with ⟨_,Z⟩|⟨U,_⟩;show Z;cases U
  have x:J.raw.drop p=[]:=t;show⟨by rw[N];simp,h.pr,rfl,rfl,ZF _,.inl ⟨rfl,T⟩,by rw[hd];show(Zu _).symm,?_,?_,?_,?_,h.AH,h.raw,h.cut,a,?_⟩
  ·change AV []=[]++AV ([]++J.raw.drop p);rw[x];rfl
  ·change(CA J J.size).1=_;rw[l]
  ·change(CA J J.size).2=_;rw[l]
  ·change m=(Ao ([]++J.raw.drop p)).length;rw[x,O];rfl
  ·rw[hd];rw[h.dd,h.rr]at v;have e0:(AV ([]++([]++[]))).length=0:=rfl;rw[e0];simp only[Zg,ZG,ZM]at v⊢;have:=h.oc;lia
 ·rw[Zi P,Zs P];unfold M6;have s:(F++J.Ac).length+(AV (b++(A++B))).length<=10240:=by
   rw[←hd,Zg];rw[R,Zg]at v;show Zh (Zz (Yn _ _ _)) v
  by_cases i:1<(b++A).length/\EK ((b++A).getLastD 0)=true
  ·rw[Zk i];have D:(b++A).getLastD 0=(b++A).getLast P:=by rw[List.getLastD_eq_getLast?,Xw P];rfl
   have f:(b++A).getLastD 0=13:=by
    have w:(b++A).getLastD 0∈b++A:=by rw[D];show List.getLast_mem P
    rcases Yi.mp w with q|q
    ·rcases h.buf with ⟨U,_⟩|⟨U,_⟩
     ·rw[U]at q;cases q
     ·rw[U]at q i;simpa[U] using q
    ·show h.cut _ (G _ q) i.2
   have H:(b++A).dropLast++[13]=b++A:=by have:=List.dropLast_concat_getLast P;rw[←D,f]at this;show this
   have z:AV (b++(A++B))=AV (b++A).dropLast++AV ([13]++B):=by
    rw[←Zo, ←H,Zo];rw[List.dropLast_concat];show kA (by intro q;have:=q.2;simp at this)
   have j:(Ao (b++(A++B))).length=(Ao (b++A).dropLast).length+(Ao ([13]++B)).length:=by
    rw[←Zo, ←H,Zo,List.dropLast_concat,g8,Zg]
   have W:(b++A).dropLast≠[]:=λq=>by have:=T3 List.length q;rw[List.length_dropLast,ZW]at this;lia
   show(eY (e+(Ao (b++A).dropLast).length) (Ao ([13]++B)).length R ((Yn _ _ _).trans (T3 _ (O.trans j).symm)) (Zh (Z0 _ _) (Zz (O.trans j).symm)) (λq=>by rw[Q q];rfl) (bR (p+A.length) 0 (F++J.Ac) [13] ?_) rfl (λq=>(by cases q)) λuu=>jg W);rw[hd];show⟨N,L,rfl,rfl,ZF _,.inr ⟨rfl,by rw[f];rfl⟩,by simp,?_,?_,?_,?_,?_,h.raw,h.cut,Zh (Zz ((Yn _ _ _).trans (T3 _ (O.trans j).symm))) a,s⟩
   ·change AV (b++(A++B))=(AV (b++A).dropLast).drop 0++AV ([13]++J.raw.drop (p+A.length));rw[Yp,C,z]
   ·change(CA J J.size).1=_;rw[l]
   ·change(CA J J.size).2=_;rw[l]
   ·change(Ao ([13]++B)).length=(Ao ([13]++J.raw.drop (p+A.length))).length;rw[C]
   ·change J.AH++Ao (b++A).dropLast=_;rw[h.AH,g7,Yd,List.replicate_append_replicate]
  ·rw[Zi i];have I:¬((b++A).getLast?=some 13/\B.head?=some 10):=by
    rintro ⟨q1,q2⟩;by_cases X:1<(b++A).length
    ·show i ⟨X,?_⟩;rw[List.getLastD_eq_getLast?,q1];rfl
    ·have:B=[]:=g (by rw[Zg]at X;show ZJ (Yb (Z0 _ _) (Nat.lt_of_not_le X)) hn);rw[this]at q2;cases q2
   have z:AV (b++(A++B))=AV (b++A)++AV B:=by rw[←Zo];show kA I
   have j:(Ao (b++(A++B))).length=(Ao (b++A)).length+(Ao B).length:=by rw[←Zo,g8,Zg]
   show(eY (e+(Ao (b++A)).length) (Ao B).length R ((Yn _ _ _).trans (T3 _ (O.trans j).symm)) (Zh (Z0 _ _) (Zz (O.trans j).symm)) (λq=>by rw[Q q];rfl) (bR (p+A.length) 0 (F++J.Ac) [] ?_) rfl (λq=>(by cases q)) λuu=>jg P);rw[hd];show⟨N,L,rfl,rfl,ZF _,.inl ⟨rfl,rfl⟩,by simp,?_,?_,?_,?_,?_,h.raw,h.cut,Zh (Zz ((Yn _ _ _).trans (T3 _ (O.trans j).symm))) a,s⟩
   ·change AV (b++(A++B))=(AV (b++A)).drop 0++AV ([]++J.raw.drop (p+A.length));rw[Yp,C,z];rfl
   ·change(CA J J.size).1=_;rw[l]
   ·change(CA J J.size).2=_;rw[l]
   ·change(Ao B).length=(Ao ([]++J.raw.drop (p+A.length))).length;rw[C];rfl
   ·change J.AH++Ao (b++A)=_;rw[h.AH,g7,Yd,List.replicate_append_replicate]
def View.dJ(h:View J d r e m):0<=J.off/\J.off<=J.size/\J.size=J.Ac.length/\J.size<2 ^ 63:=by
 show bu h λp o g b h=>?_;have v:=h.dr;rw[h.dd,h.rr,Zg,Zg,ZG,ZM]at v;have:=h.oc;have:=h.off;have:=h.size;show⟨by lia,by lia,by show h.size,by lia⟩
def View.bound(h:View J d r e m):d.length+r.length<=10240:=by show bu h λp o g b h=>?_;show h.dr
def View.z7{d r:WJ}{e m:Nat}(h:View J d r e m):CA J J.off=(EG d,EM d):=by
 show bu h λp o g b h=>?_;rw[nU h.pl h.pc h.off h.oc, ←h.dd]
def View.pass(h:View J d r e m)(n:Nat)(j:J.off.toNat+n<=J.Ac.length):
  View {J with off:=J.off+n} (d++(J.Ac.drop J.off.toNat).take n) (r.drop n) e m/\r=(J.Ac.drop J.off.toNat).take n++r.drop n:=by
 show bu h λp o g b h=>?_;have a:J.off.toNat=o:=by rw[h.off];show Yv _
 rw[a]at j⊢;have U:r.drop n=J.Ac.drop (o+n)++AV (b++J.raw.drop p):=by
  rw[h.rr,Wt (by rw[ZM];show Nat.le_sub_of_add_le' j),YI]
 have Z:r=(J.Ac.drop o).take n++r.drop n:=by
  rw[U, ←Zo, ←YI,Yc];show h.rr
 show⟨bR p (o+n) g b ?_,Z⟩;show⟨h.place,h.pr,by rw[h.off];show Y7 o n,h.size,j,h.buf,?_,U,h.pl,h.pc,h.mm,h.AH,h.raw,h.cut,h.em,?_⟩
 ·rw[h.dd,Zo];congr 1;show(List.take_add ..).symm
 ·have:=h.dr;have D:=T3 List.length Z;simp only[Zg]at D this⊢;show Zh (Zz ((Yn _ _ _).trans (T3 _ D.symm))) this
def dP{y:Type}(l:List y)(o:Nat):Co l (o:Int)=l[o]? :=by
 unfold Co;rw (occs:=.all) [Zr (show 0<=(o:Int) by show Yx o),Yv]
def View.char(h:View J d r e m)(a:J.off<J.size):∃c u,r=c::u/\Co J.Ac J.off=some c/\View {J with off:=J.off+1} (d++[c]) u e m:=by
 have P:=h.dJ;have N:J.off.toNat<J.Ac.length:=(Int.toNat_lt P.1).mpr (P.2.2.1▸a);obtain⟨v,D⟩:=h.pass 1 (Nat.succ_le_of_lt N);have U:(J.Ac.drop J.off.toNat).take 1=[J.Ac[J.off.toNat]]:=by rw[Yh N];rfl
 rw[U]at v D;show(a8 _ _ D ?_ v);rw[←Zy N, ←dP];congr 1;show(XY P.1).symm
def View.ir(h:View J (d++[c]) r e m)(a:0<J.off):J.off≠0/\Co J.Ac (J.off-1)=some c/\View {J with off:=J.off-1} d (c::r) e m:=by
 show bu h λp o g b h=>?_;have U:=h.off;obtain⟨D,rfl⟩:∃D,o=D+1:=(yE (o-1) ((Nat.sub_add_cancel (Int.natCast_pos.mp (U▸a))).symm))
 have hd:=h.dd;have N:=Nat.lt_of_succ_le h.oc;rw[List.take_succ_eq_append_getElem N, ←Zo]at hd;show zA (List.append_inj' hd rfl) λf Z=>?_;have Z:=one_inj (T3 Str.mk (T3 List.toArray Z));show⟨by show Ne.symm (Int.ne_of_lt a),?_,bR p D g b ?_⟩
 ·rw[(show J.off-1=D by show Int.sub_eq_iff_eq_add.mpr U),dP,Zy N,Z]
 ·show⟨h.place,h.pr,by show Int.sub_eq_iff_eq_add.mpr U,h.size,Yo N,h.buf,f,?_,h.pl,h.pc,h.mm,h.AH,h.raw,h.cut,h.em,?_⟩
  ·rw[h.rr,Z, ←Y2, ←Yh N]
  ·have:=h.dr;simp only[Zg,Zj,ZW]at this⊢;lia
def View.zero(U:d.length<=10240)(N:∀c∈d,EK c=true->c=13):View (JE d) [] (AV d) 0 (Ao d).length:=
 (bR 0 0 [] [] ⟨rfl,ZF _,rfl,rfl,Zq _,.inl ⟨rfl,rfl⟩,rfl,rfl,rfl,rfl,rfl,rfl,U,N,by have:=mN d;lia,by have:=d8 d;simp;show Zh this U⟩)
section
open Mine.B
def JJ:List (Nat×Aq):=(98,Fh)::(141,EC)::JK
noncomputable def g3:G:=Ax JJ
def KH:S:=.seq (.Aj 130 (.Bb (.loc 292) 130)) (.seq (.Aj 119 (.sub (.Bb (.loc 292) 129) (.loc 130))) (.seq (.Bi (.loc 292) 130 (.bin 0 (.loc 130) (.k (.int 1)))) (.seq (.ret (.loc 119)) .skip)))
def Bq:S:=.seq (.iff (.cmp 5 (.Bb (.loc 292) 130) (.Bb (.loc 292) 131)) (.seq (.iff (.not (.Al (.loc 292) 261 .nil [])) (.seq (.ret (.BR (.c .Ak))) .skip) .skip) .skip) .skip) KH
def Fg:Aq:=λu z H k=>∃J t d r e m,u=[.ob 2]/\z=[]/\H=Hp J t/\View J d r e m/\∀Z A O,A+O=e+m->O<=m->(J.off=J.size->O=0)->
 match r with
 | []=>View Z d [] A O->k (.c .Ak) (Hp Z t)
 |c::r'=>View Z (d++[c]) r' A O->0<Z.off->k (.c (.str [c])) (Hp Z t)
def ot(h:(!b)=true):b=false:=by cases b;rfl;cases h
def iD(h:(!b)=false):b=true:=by cases b;cases h;rfl
def ch1(v:View J d r e m)(U:J.off<J.size)
  (a:∀c u,r=c::u->View {J with off:=J.off+1} (d++[c]) u e m->k (.c (.str [c])) (Hp {J with off:=J.off+1} t)):ex g3 KH ⟨[(292,.ob 2)],Hp J t,64,false⟩ (fin k):=by
 show bA (v.char U) λc u D hi P=>?_
 conv=>whnf
 show aa hi (b9 {J with off:=J.off+1} t (a c u D P))
def aa9(xs kws H k)(h:Fg xs kws H k):Ab (Ah [292] xs kws) λG=>ex g3 Bq ⟨G,H,64,false⟩ (fin k):=by
 show cX h λJ t d r e m f A Q v a=>?_;subst f A Q;have I:=v.dJ
 conv=>whnf
 show bh (λh=>?_) λh=>?_
 ·have h:=Zm h;obtain⟨B,y,o,O,D,N,w,p,P,l,u,L⟩:=i7 (n:=10240) (by ext) v;have i:J.Ac.drop J.off.toNat=[]:=YD (Int.ofNat_le.mp (XQ (XQ (Int.le_of_eq I.2.2.1.symm) h) (Int.self_le_toNat _)));rw[i,YL]at D;rw[i,Zu]at P;subst D
  conv=>whnf
  show eh J t rfl rfl rfl (aM J t 10240 (.inr ⟨rfl,rfl⟩) rfl rfl B ?_)
  conv=>whnf
  show bh (λq=>?_) λq=>?_
  ·show zA (u (ot q)) λz x=>?_;clear v u;subst z;show b9 (Hh 10240 J) t (a _ o O N w (λZ=>p rfl) P)
  ·have x:=XW.mpr (L (iD q));have U:=P.dJ;show ch1 P (l▸U.2.2.1▸Int.natCast_pos.mpr x) λc E D C=>?_;clear v P u;subst D;show a _ o O N w (λZ=>p rfl) C (Int.lt.intro (XA (T3 HAdd.hAdd (id (YS l))) (↑0+1)))
 ·have h:=ZA h;show ch1 v (Int.lt_of_not_ge h) λc E D P=>?_;clear v;subst D;show a _ e m rfl (Zq _) (λq=>T4 q (by lia)) P (by lia)
def L5:X:=.and (.cmp 1 (.loc 160) (.Bb (.loc 292) 131)) (.cmp 0 (.cmp 8 (.sub (.Bb (.loc 292) 129) (.loc 160)) (.loc 124)) (.loc 225))
def L6:S:=.seq (.DI 160 0 (.k (.int 1))) .skip
def N5:S:=.seq (.iff (.not (.Al (.loc 292) 261 .nil [])) (.seq .brk .skip) .skip) .skip
def LX:S:=.seq (.ex (.Al (.loc 269) 0 (.cons (.Cj (.Bb (.loc 292) 129) (.Bb (.loc 292) 130) (.k .Ak)) .nil) [])) N5
def N4:S:=.seq (.ex (.Al (.loc 269) 0 (.cons (.Cj (.Bb (.loc 292) 129) (.Bb (.loc 292) 130) (.loc 160)) .nil) [])) (.seq (.Bi (.loc 292) 130 (.loc 160)) (.seq .brk .skip))
def LY:S:=.seq (.iff (.cmp 0 (.loc 160) (.Bb (.loc 292) 130)) (.seq (.iff (.cmp 1 (.Bb (.loc 292) 130) (.Bb (.loc 292) 131)) (.seq .brk .skip) .skip) .skip) (.seq (.iff (.cmp 1 (.loc 160) (.Bb (.loc 292) 131)) N4 .skip) .skip)) LX
def LZ:S:=.seq (.Aj 160 (.Bb (.loc 292) 130)) (.seq (.wh 110 L5 L6) LY)
def P7:S:=.seq (.Aj 248 (.Al (.k (.str [])) 2 (.cons (.loc 269) .nil) [])) (.seq (.ret (.loc 248)) .skip)
def AS:S:=.seq (.Aj 269 (.lst .nil)) (.seq (.wh 108 (.k (.Ae true)) LZ) P7)
abbrev L1(v:FV)(op:Bool)(j:Int):Tw:=[(292,.ob 2),(124,.c v),(225,.c (.Ae op)),(269,.ob 64),(160,.c (.int j))]
def MG(v:FV)(p:TU):Prop:=∀(c:Nat) (k:TR),k (p c)->BN.mem (.str [c]) v k
def B1(x y:Bool):Bool:=Bool.rec (!y) y x
def adZ{K:TB}{J:Sm}(f:MG v p)(y:Sx 2 H=some (.inst 166 (Sf J)))(z:J.size=J.Ac.length)
  (O:∀s,R6 g3 L5 L6 K P s->P s) (n:Nat):∀(e:Nat),e+n=J.Ac.length->
  K .AZ ⟨L1 v op ((e+((J.Ac.drop e).takeWhile λc=>B1 (p c) op).length:Nat):Int),H,m,false⟩->P ⟨L1 v op (e:Nat),H,m,false⟩:=by
 induction n with
 |zero=>
  intro e a D;have u:J.Ac.drop e=[]:=YD (Zz (id (YS a)));have U:(!decide (e=J.size))=false:=by rw[Zr (Nat.ToInt.of_eq rfl (id (YS z)) a)];rfl
  rw[u]at D;show O _ ?_
  conv=>whnf
  show aP y rfl rfl ?_
  conv=>whnf
  show bH U (bH U D)
 |succ n Q=>
  intro e a D;have N:e<J.Ac.length:=by lia
  have u:=Yh N;have U:(!decide (e=J.size))=true:=by rw[Zs (by lia)];rfl
  rw[u]at D;show O _ ?_
  conv=>whnf
  show aP y rfl rfl ?_
  conv=>whnf
  show aW U ?_
  conv=>whnf
  show aP y rfl rfl ?_
  conv=>whnf
  show aa ((dP _ _).trans (Zy N)) ?_
  conv=>whnf
  show f _ _ ?_
  conv=>whnf
  show bh (λh=>?_) λh=>?_
  ·have h:=h;show Q (e+1) ((ZZ _ 1 _).trans a) ?_;rw[Xi (p:=λc=>B1 (p c) op) h,Zj, ←Yn,ZZ]at D;show D
  ·have h:B1 (p J.Ac[e]) op=false:=h;rw[XN (by rw[h];decide)]at D;show D
abbrev tw(p:TU)(op:Bool)(r:WJ):WJ:=r.takeWhile λc=>B1 (p c) op
abbrev dw(p:TU)(op:Bool)(r:WJ):WJ:=r.dropWhile λc=>B1 (p c) op
def HH(b:Bool)(acc:TL)(J:Sm)(t:Tm):Tx:=match b with
 |true=>(64,.lst (acc.map .str))::Hp J t
 |false=>Hp J t++[(64,.lst (acc.map .str))]
def zg{x y:WJ}(h:(x.takeWhile q).length=x.length):(x++y).takeWhile q=x++y.takeWhile q/\(x++y).dropWhile q=y.dropWhile q:=by
 induction x with
 |nil=>show⟨rfl,rfl⟩
 |cons a x Q=>
  cases SG:q a with
  |true=>
   rw[Xi SG]at h;rw[Y2,Xi SG,List.dropWhile_cons_of_pos SG,Y2];have:=Q (Nat.add_right_cancel h);show⟨by rw[this.1],this.2⟩
  |false=>
   rw[XN (by rw[SG];decide)]at h;cases h
def va{x y:WJ}(h:(x.takeWhile q).length<x.length):(x++y).takeWhile q=x.take (x.takeWhile q).length/\(x++y).dropWhile q=x.drop (x.takeWhile q).length++y:=by
 induction x with
 |nil=>simp at h
 |cons a x Q=>
  cases SG:q a with
  |true=>
   rw[Xi SG]at h⊢;rw[Y2,Xi SG,List.dropWhile_cons_of_pos SG,Zj,List.take_succ_cons,List.drop_succ_cons];have:=Q (by simpa using h);show⟨by rw[this.1],this.2⟩
  |false=>
   rw[XN (by rw[SG];decide),Y2,XN (by rw[SG];decide),List.dropWhile_cons_of_neg (by rw[SG];decide)];show⟨rfl,rfl⟩
def vu(l:WJ)(h:a<=l.length):slice l (some (a:Int)) none=l.drop a:=by
 change(l.take l.length).drop (DL l.length a)=_;rw[bV,YC,ZO h]
def rI(l:WJ)(h:a<=l.length)(N:a+b<=l.length):slice l (some (a:Int)) (some ((a+b:Nat):Int))=(l.drop a).take b:=by
 change(l.take (DL l.length ((a+b:Nat):Int))).drop (DL l.length a)=_;rw[bV,bV,ZO h,ZO N,Wf,YQ]
def aaL(acc:TL)(x:WJ):acc.map FV.str++[FV.str x]=(acc++[x]).map .str:=by rw[Z7];rfl
section
variable (b:Bool)(acc:TL)(J:Sm)(t:Tm)
def qQ:Sx 2 (HH b acc J t)=some (.inst 166 (Sf J)):=by cases b<;>rfl
def adq:Sx 64 (HH b acc J t)=some (.lst (acc.map .str)):=by
 obtain⟨_,l,_|_,_⟩:=t<;>cases l<;>cases b<;>rfl
def adn(x:WJ):put 64 (.lst (acc.map .str++[.str x])) (HH b acc J t)=HH b (acc++[x]) J t:=by
 rw[aaL];obtain⟨_,l,_|_,_⟩:=t<;>cases l<;>cases b<;>rfl
def ado(o:Int):put 2 (.inst 166 (Sf {J with off:=o})) (HH b acc J t)=HH b acc {J with off:=o} t:=by
 obtain⟨_,l,_|_,_⟩:=t<;>cases l<;>cases b<;>rfl
def adp:lo (HH b acc J t)=Hp J t:=by
 obtain⟨_,l,_|_,_⟩:=t<;>cases l<;>cases b<;>rfl
def afn:hi (HH b acc J t)=[(64,.lst (acc.map .str))]:=by
 obtain⟨_,l,_|_,_⟩:=t<;>cases l<;>cases b<;>rfl
end
section
variable {g:G}{s:St}{F:TC}
def afi{i n:Nat}(h:Sx i s.H=some (.lst l))(N:ble n 1=true):C4 g (.ob i) n [] s=some (.lst i):=by
 change Af (Sx i s.H) _=_;rw[h];change(Bool.rec none (some (.lst i)) (ble n 1):Option M)=_;rw[N]
def kz{i n C f:Nat}(h:Sx i s.H=some (.inst C d))(U:Sx n d=none)(N:g.cls C n=some f):C4 g (.ob i) n P s=some (.fn f (.ob i)):=by
 change Af (Sx i s.H) _=_;rw[h];change IX g i n C d=_;unfold IX;rw[U,N];rfl
def adK(U:Ev g o s (.ob i))(P:Ev g x s (.c f))(h:Sx i s.H=some (.lst l))(a:l.length+1<=16777216)(D:F (.c .Ak) (As s (put i (.lst (l++[f])) s.H))):SU g (.Al o 0 (.cons x .nil) []) s (one F):=
by
 show U _ (aa (afi h rfl) (P _ (aa (T3 FJ h) (aa (T3 FJ h) ⟨a,D⟩))))
end
variable {K:TB}{v:FV}{op:Bool}{j:Int}{b:Bool}{acc:TL}{J:Sm}{t:Tm}
def yV(P:Ev g3 x ⟨L1 v op j,HH b acc J t,65,false⟩ (.c (.str y)))(Q:acc.length<=20000)(D:ex g3 B ⟨L1 v op j,HH b (acc++[y]) J t,65,false⟩ K):
  ex g3 (.seq (.ex (.Al (.loc 269) 0 (.cons x .nil) [])) B) ⟨L1 v op j,HH b acc J t,65,false⟩ K:=by
 rw[←adn]at D;show d3 (adK (.loc rfl) P (adq ..) (by rw[ZD];lia) D)
def adW(Q:acc.length<=20000)(D:K .brk ⟨L1 v op j,HH b (acc++[slice J.Ac (some J.off) (some j)]) {J with off:=j} t,65,false⟩):ex g3 N4 ⟨L1 v op j,HH b acc J t,65,false⟩ K:=by
 show yV (y:=slice J.Ac (some J.off) (some j)) (λF z=>?_) Q ?_
 ·conv=>whnf
  show aP (qQ ..) rfl rfl ?_
  conv=>whnf
  show aP (qQ ..) rfl rfl z
 ·rw[←ado]at D;show i5 ?_
  conv=>whnf
  show w_a (g:=g3) (n:=130) rfl (qQ ..) rfl D
def adX(N:View J d r e m)
  (U:Jw (10240:Nat) J=false->K .brk ⟨L1 v op j,HH false acc (Hh (10240:Nat) J) t,65,false⟩)
  (a:Jw (10240:Nat) J=true->K .AZ ⟨L1 v op j,HH false acc (Hh (10240:Nat) J) t,65,false⟩):ex g3 N5 ⟨L1 v op j,HH b acc J t,65,false⟩ K:=by
 show zA (i7 (n:=10240) (by ext) N) λQ Z=>?_
 conv=>whnf
 show aa (kz (qQ ..) rfl rfl) (dE J t rfl rfl (adp ..) (aM J t 10240 (.inr ⟨rfl,rfl⟩) rfl rfl Q ?_));rw[afn];show bh (λq=>U (ot q)) λq=>a (iD q)
def adY(N:View J d r e m)(Q:acc.length<=20000)
  (U:Jw (10240:Nat) J=false->K .brk ⟨L1 v op j,HH false (acc++[J.Ac.drop J.off.toNat]) (Hh (10240:Nat) J) t,65,false⟩)
  (a:Jw (10240:Nat) J=true->K .AZ ⟨L1 v op j,HH false (acc++[J.Ac.drop J.off.toNat]) (Hh (10240:Nat) J) t,65,false⟩):ex g3 LX ⟨L1 v op j,HH b acc J t,65,false⟩ K:=by
 have P:=N.dJ;have c:slice J.Ac (some J.off) none=J.Ac.drop J.off.toNat:=by
  rw[(show J.off=J.off.toNat from(XY P.1).symm)];show vu _ (Int.toNat_le.mpr (XQ P.2.1 (Int.le_of_eq P.2.2.1)))
 show yV (λF z=>?_) Q (adX N U a);rw[←c]at z
 conv=>whnf
 show aP (qQ ..) rfl rfl ?_
 conv=>whnf
 show aP (qQ ..) rfl rfl z
def abu(h:Sx 292 L=some (.ob 2))(z:F (.c (.int J.off)) ⟨L,HH b acc J t,65,false⟩):SU g3 (.Bb (.loc 292) 130) ⟨L,HH b acc J t,65,false⟩ (one F):=by
 show aa h (aP (qQ ..) rfl rfl z)
def abd{p:TU}(hp:MG v p)
  (hP:∀s,R6 g3 (X.k (.Ae true)) LZ K P s->P s) (n:Nat):∀(J:Sm) (d r:WJ) (e m:Nat) (acc:TL) (L:Tw) (b:Bool),(if J.off=J.size then r.length+1 else r.length)<=n->acc.length+n<=20000->
  View J d r e m->Sx 292 L=some (.ob 2)->(∀j,put 160 (.c (.int j)) L=L1 v op j)->
  (∀Z H O l j S,H+O=e+m->O<=m->View Z (d++tw p op r) (dw p op r) H O->l.flatten=acc.flatten++tw p op r->l.length<=20000->K .AZ ⟨L1 v op j,HH S l Z t,65,false⟩)->
  P ⟨L,HH b acc J t,65,false⟩:=by
 induction n with
 |zero=>
  intro J d r e m acc L b o Q k hL B D;exfalso;have f:=k.dJ;by_cases q:J.off=J.size
  ·rw[Zk q]at o;show XJ r.length o
  ·rw[Zi q]at o;show aX (k.char (Int.lt_iff_le_and_ne.mpr ⟨f.2.1,q⟩)) λc r' W uu=>?_;clear k D;subst W;simp at o
 |succ n ih=>
  intro J d r e m acc L b o Q k hL B D;have f:=k.dJ;have he:J.off=J.off.toNat:=(XY f.1).symm;have x:J.off.toNat<=J.Ac.length:=Int.toNat_le.mpr (XQ f.2.1 (Int.le_of_eq f.2.2.1));have z:(J.Ac.drop J.off.toNat).length=J.Ac.length-J.off.toNat:=ZM;obtain⟨ro,y,e1,m1,G,u,w,_,R,T,hf1,I⟩:=i7 (n:=10240) (by ext) k;have A:((J.Ac.drop J.off.toNat).takeWhile λc=>B1 (p c) op).length<=(J.Ac.drop J.off.toNat).length:=(Z5 _).length_le;have go:∀(j:Int),((J.Ac.drop J.off.toNat).takeWhile λc=>B1 (p c) op).length=(J.Ac.drop J.off.toNat).length->ex g3 LX ⟨L1 v op j,HH b acc J t,65,false⟩ (wo P K):=by
   intro j SG;show zA (zg (y:=y) SG) λt1 Se=>?_;rw[←G]at t1 Se;show adY k (ZK Q) (λq=>?_) λq=>?_
   ·show zA (hf1 q) λM uu=>?_;subst M;show D _ e1 m1 _ _ _ u w ?_ ?_ (by rw[Zg];simp;show Xc (ZK (Zh (Zz (ZZ _ 1 _)) Q)))
    ·unfold tw dw;rw[t1,Se];simpa using R
    ·unfold tw;rw[t1];simp
   ·have hc:=XW.mpr (I q);have U:=R.dJ;show ih _ _ _ _ _ _ _ _ ?_ (by rw[Zg];simp;show Zh (Zz (ZZ _ 1 _)) Q) R rfl (λuu=>rfl) ?_
    ·rw[Zi λq=>Nat.ne_of_gt hc (Int.ofNat.inj (U.2.2.1.symm.trans (q.symm.trans T)))];rw[G,Zg,z]at o;split at o
     ·lia
     ·lia
    ·intro Z H O l j S a1 a2 a3 a4 a5;show D Z H O l j S (by lia) (by show Zh a2 w) ?_ ?_ a5
     ·unfold tw dw at a3⊢;rw[t1,Se, ←Zo];show a3
     ·unfold tw at a4⊢;rw[t1,a4];simp
  have i:((J.Ac.drop J.off.toNat).takeWhile λc=>B1 (p c) op).length<(J.Ac.drop J.off.toNat).length->View {J with off:=((J.off.toNat+((J.Ac.drop J.off.toNat).takeWhile λc=>B1 (p c) op).length:Nat):Int)} (d++tw p op r) (dw p op r) e m/\tw p op r=(J.Ac.drop J.off.toNat).take ((J.Ac.drop J.off.toNat).takeWhile λc=>B1 (p c) op).length:=by
   intro SG;show zA (va (y:=y) SG) λt1 Se=>zA (k.pass ((J.Ac.drop J.off.toNat).takeWhile λc=>B1 (p c) op).length (Yo (Wi (ZJ SG (Zz z))))) λp1 p2=>?_;rw[←G]at t1 Se;have t3:dw p op r=r.drop ((J.Ac.drop J.off.toNat).takeWhile λc=>B1 (p c) op).length:=by
    unfold dw;rw[Se,G,Wt A]
   show⟨?_,t1⟩;rw[t3];unfold tw;rw[t1];have:((J.off.toNat+((J.Ac.drop J.off.toNat).takeWhile λc=>B1 (p c) op).length:Nat):Int)=J.off+(((J.Ac.drop J.off.toNat).takeWhile λc=>B1 (p c) op).length:Nat):=by show Nat.ToInt.add_congr (id (YS he)) rfl
   rw[this];show p1
  have inn:=λ(P':TF)=>adZ (P:=P') (K:=sq g3 LY (wo P K)) (J:=J) (v:=v) (op:=op) (p:=p) (m:=65) hp (qQ b acc J t) (f.2.2.1);generalize Y:((J.Ac.drop J.off.toNat).takeWhile λc=>B1 (p c) op).length=kk at*;show hP _ ?_;change ex g3 LZ ⟨L,HH b acc J t,65,false⟩ (wo P K);show aG (abu hL ?_);change ex g3 (.seq (.wh 107 L5 L6) LY) ⟨put 160 (.c (.int J.off)) L,HH b acc J t,65,false⟩ (wo P K);rw[B,he];show i4 λP hP=>inn P hP (J.Ac.length-J.off.toNat) J.off.toNat (by show YV x) ?_;rw[Y]
  conv=>whnf
  show aP (qQ ..) rfl rfl ?_
  conv=>whnf
  show bh (λh=>?_) λh=>?_
  ·have h:((J.off.toNat+kk:Nat):Int)=J.off:=Zm h
   conv=>whnf
   show aP (qQ ..) rfl rfl ?_
   conv=>whnf
   show aP (qQ ..) rfl rfl ?_
   conv=>whnf
   show bh (λN=>?_) λN=>?_
   ·have N:J.off≠J.size:=ZA (ot N);have k0:kk=0:=Nat.eq_zero_of_le_zero (Nat.le_of_add_le_add_left (Int.ofNat_le.mp (XQ (Int.le_of_eq h) (Int.self_le_toNat _))));show zA (i (k0▸z▸Nat.sub_pos_of_lt ((Int.toNat_lt f.1).mpr (f.2.2.1▸Int.lt_iff_le_and_ne.mpr ⟨f.2.1,N⟩)))) λC E=>?_;rw[k0,List.take_zero]at E;rw[h]at C
    conv=>whnf
    show D J e m acc ((J.off.toNat+kk:Nat):Int) b rfl (Zq _) C (by rw[E,Zu]) (by show ZK Q)
   ·have N:J.off=J.size:=Zm (iD N);show go ((J.off.toNat+kk:Nat):Int) ((z.trans ((T3 (· -_) (Int.ofNat.inj (h.trans (N.trans f.2.2.1))).symm).trans (YQ _ _))).symm)
  ·have h:¬((J.off.toNat+kk:Nat):Int)=J.off:=ZA h
   conv=>whnf
   show aP (qQ ..) rfl rfl ?_
   conv=>whnf
   show bh (λN=>?_) λN=>?_
   ·have N:((J.off.toNat+kk:Nat):Int)≠J.size:=ZA (ot N);show zA (i (Xx A λq=>N ((T3 Int.ofNat ((T3 (_+ ·) (q.trans z)).trans (YV (Int.toNat_le.mpr (XQ f.2.1 (Int.le_of_eq f.2.2.1)))))).trans f.2.2.1.symm))) λC E=>?_;have hs:slice J.Ac (some J.off) (some ((J.off.toNat+kk:Nat):Int))=(J.Ac.drop J.off.toNat).take kk:=by
     have:=rI J.Ac (a:=J.off.toNat) (b:=kk) x (by lia);rw[←he]at this;show this
    have fin:=D {J with off:=((J.off.toNat+kk:Nat):Int)} e m (acc++[(J.Ac.drop J.off.toNat).take kk]) ((J.off.toNat+kk:Nat):Int) b rfl (Zq _) C (by rw[E];simp) (by rw[Zg];simp;show Xc (ZK (Zh (Zz (ZZ _ 1 _)) Q)));rw[←hs]at fin;show adW (J:=J) (by lia) fin
   ·have N:((J.off.toNat+kk:Nat):Int)=J.size:=Zm (iD N);show go ((J.off.toNat+kk:Nat):Int) ((z.trans ((T3 (· -_) (Int.ofNat.inj (N.trans f.2.2.1)).symm).trans (YQ _ _))).symm)
def qg:∀acc:TL,B0 [] (acc.map .str)=some acc.flatten:=by
 intro acc;induction acc with
 |nil=>
  show rfl
 |cons x acc Q=>
  have Q:=Q;change(Option.rec none (λr=>some (List.rec (motive:=λZ=>WJ) x (λZ Z Z=>x++[]++r) (acc.map FV.str))) (B0 [] (acc.map .str)):TK)=_;rw[Q];cases acc with
  |nil=>change some x=some [x].flatten;simp
  |cons y acc=>change some (x++[]++(y::acc).flatten)=_;rw[Zu, ←XG]
def CR:Aq:=λu z H k=>∃J t d r e m v op p,(u=[.ob 2,.c v,.c (.Ae op)]\/u=[.ob 2,.c v]/\op=false)/\z=[]/\H=Hp J t/\MG v p/\View J d r e m/\
 ∀Z A O,A+O=e+m->O<=m->View Z (d++tw p op r) (dw p op r) A O->k (.c (.str (tw p op r))) (Hp Z t)
def lq(h:Sx i H=some (.lst l)):Je H [.ob i]=some [.lst l]:=by
 change Af (Af (Sx i H) _) _=_;rw[h];rfl
def jK(xs kws H k)(h:CR xs kws H k):Ab (Ed [292,124,225] (.Ae false) xs kws) λo=>ex g3 AS ⟨o,H,64,false⟩ (fin k):=by
 obtain⟨J,t,d,r,e,m,v,op,p,a,rfl,rfl,f,N,D⟩:=h;have a:Ed [292,124,225] (.Ae false) xs []=some [(292,.ob 2),(124,.c v),(225,.c (.Ae op))]:=by
  rcases a with rfl|⟨rfl,rfl⟩<;>rfl
 have z:=N.bound;show aa a (aG (d7 (au (aa rfl (aW rfl (gc ?_))))));show i4 λP i=>?_;show abd f i (r.length+1) J d r e m [] _ true (by split<;>lia) (by simp;lia) N rfl (λx=>rfl) λZ n O l j y U q w A Q=>?_;have u:l.flatten=tw p op r:=A;have c:(tw p op r).length<=r.length:=(Z5 _).length_le
 conv=>whnf
 show aa (lq (adq ..)) ?_
 conv=>whnf
 show aa (qg l) ?_
 conv=>whnf
 show⟨by rw[u,ZD];simp only[ZW,Nat.mul_zero,Nat.add_zero];lia,?_⟩;rw[u];show kQ Z t (adp ..) (D Z n O U q w)
def BJ:S:=.seq (.Bi (.loc 292) 305 (.new 166 (.cons (.loc 305) .nil))) (.seq (.Bi (.loc 292) 232 (.loc 232)) (.seq (.Bi (.loc 292) 170 (.k (.Ae false))) (.seq (.Bi (.loc 292) 194 (.lst .nil)) (.seq (.Bi (.loc 292) 302 (.Bb (.loc 292) 146)) (.seq (.Bi (.loc 292) 169 (.k (.Ae false))) (.seq (.Bi (.loc 292) 144 (.k .Ak)) .skip))))))
def DB:Aq:=λu z H k=>∃d,u=[.ob 1,.c (.str d)]/\z=[]/\H=[S1]/\k (.c .Ak) (Hp (JE d) ⟨304,.no,none,none⟩)
def hY(xs kws H k)(h:DB xs kws H k):Ab (Ed [292,305,232] .Ak xs kws) λN=>ex g3 BJ ⟨N,H,64,false⟩ (fin k):=by
 show bO h λd Q P z D=>?_;clear h;subst Q P z;show aa rfl ?_
 repeat walk_at "ae"
 conv=>whnf
 show(aY d rfl rfl rfl D)
end
section
variable {g:G}{s:St}{F:TC}{k:TR}
def vi(h:k (decide (a=b))):BN 0 (.c (.str [a])) (.c (.str [b])) s k:=by
 have e:Cn [a] [b]=decide (a=b):=by rw[aE];simp
 have h:k (Cn [a] [b]):=by rw[e];show h
 show h
def aeT(h:k false):BN 0 (.c .Ak) (.c (.str b)) s k:=h
def aeS(h:k false):BN 0 (.c (.str b)) (.c .Ak) s k:=h
def aeR(h:k true):BN 0 (.c .Ak) (.c .Ak) s k:=h
def R2(f:FV):Nat:=Option.rec 0 (λc=>c) (FU f)
def Jg(l:Tz):WJ:=l.map R2
def I7(f:FV):Bool:=Mine.A.ob (FU f) λZ=>true
def aeB(h:FU f=some c):f=.str [c]:=by
 show aA (ax h) λs e h=>(qN e).trans (T3 FV.str (mo h))
def gA(c:Nat)(h:l.all I7=true):CT (.str [c]) l=some (decide (c∈Jg l)):=by
 induction l with
 |nil=>rfl
 |cons f l Q=>
  show zA (ar h) λU N=>?_;obtain⟨x,e,_⟩:=cP U;obtain rfl:=aeB e;change BK (CT (.str [c]) l) (λq=>Bool.rec q true (Cn [x] [c]))=some (decide (c∈x::Jg l));rw[Q N,aE];by_cases q:c=x
  ·rw[Zr (T3 (λc=>[c]) q.symm),Zr (show c∈x::Jg l by rw[q];show .head _)];rfl
  ·rw[Zs λe=>q (ZI e).1.symm];change some (decide (c∈Jg l))=_;rw[decide_eq_decide.mpr (⟨λh=>(Zb h).resolve_left q,.tail _⟩)]
def vf(e:l.all I7=true)(h:k (decide (c∈Jg l))):BN 8 (.c (.str [c])) (.c (.tup l)) s k:=by
 show aa (gA c e) h
def zu(e:CT .Ak l=some b)(h:k b):BN 8 (.c .Ak) (.c (.tup l)) s k:=by
 show aa e h
def nq(e:l.all I7=true):MG (.tup l) λc=>decide (c∈Jg l):=λc Z h=>aa (gA c e) h
def nr(b:WJ):MG (.str b) λc=>decide (c∈b):=λZ Z h=>h
def gf(U:Sx i s.H=some (.lst l0))(N:Av s.H v=some (f,Q))(D:Sx i Q=some (.lst l))(A:ble (l.length+1) 16777216=true)(h:F (.c .Ak) (As s (put i (.lst (l++[f])) Q))):CL g (.lst i) 0 [v] [] s F:=by
 show aa (T3 FJ U) (aa N (aa (T3 FJ D) ⟨ZQ A,h⟩))
def aaI(U:a.length+b.length<=16777216)(h:F (.c (.str (a++b))) s):Es 0 (.c (.str a)) (.c (.str b)) s F:=⟨U,h⟩
def w_l{G:Bool->TF}(h:BN D a AA s λv=>G v s):FH g D a AA s G:=h
def acm(h:k (decide (c∈AW))):BN 8 (.c (.str [c])) AA s k:=vf (l:=AW.map λx=>.str [x]) rfl h
def acj(h:k false):BN 8 (.c .Ak) AA s k:=zu (l:=AW.map λx=>.str [x]) rfl h
def Mr:TG:=match Ad with| .c (.An l)=>l|_=>[]
def dI(e:sel a Mr=some (.int i))(h:F (.c (.int i)) s):DO Ad (.c (.str a)) s F:=by
 show show Ab (sel a Mr) λr=>F (.c r) s from aa e h
end
def Cm:List (Nat×Aq):=(133,Fg)::(156,CR)::(261,DB)::JJ
def SR:G:=Ax Cm
structure Out where
 cont:Bool
 st:Nat
 tb:TK
 q:Tz
 x:WJ
 r:WJ
 ct:Ct
def Hz(i:Int)(s:WJ):FV:=.An [(Dp,.int i),(Cq,.str s)]
abbrev BM(s:WJ):FV:=Hz 1 s
abbrev OK(s:WJ):FV:=Hz 2 s
abbrev CG:FV:=Hz 7 To
abbrev Dj:WJ:=[9,10,12,32,13]
abbrev AJ(l:WJ)(r:WJ):WJ:=tw (λc=>decide (c∈l)) false r
abbrev Fq(l:WJ)(r:WJ):WJ:=dw (λc=>decide (c∈l)) false r
abbrev Ej(l:WJ)(r:WJ):WJ:=tw (λc=>decide (c∈l)) true r
abbrev IP(l:WJ)(r:WJ):WJ:=dw (λc=>decide (c∈l)) true r
def k2{P:Nat->Prop}(j:P 0)(U:P 1)(h:k<2):P k:=(Nat.lt_succ_iff_lt_or_eq.mp h).elim (λh=>Nat.lt_one_iff.mp h▸j) λe=>e▸U
def k3{P:Nat->Prop}(j:P 0)(U:P 1)(N:P 2)(h:k<3):P k:=(Nat.lt_succ_iff_lt_or_eq.mp h).elim (k2 j U) λe=>e▸N
def k4{P:Nat->Prop}(j:P 0)(U:P 1)(N:P 2)(D:P 3)(h:k<4):P k:=(Nat.lt_succ_iff_lt_or_eq.mp h).elim (k3 j U N) λe=>e▸D
def O3(b:Bool)(y:Nat)(U:Ct->TK->WJ->Out)(j:Ct->TK->WJ->Prop):Aq:=λu a H k=>∃J ct tb d r e m,u=[.ob 1]/\a=[]/\H=Hp J ⟨y,ct,some [],tb⟩/\View J d r e m/\j ct tb r/\
 ∀Z A O,A+O=e+m->O<=m->(b=true->J.off=J.size->O=0)->View Z (d++(U ct tb r).x) (U ct tb r).r A O->k (.c (.Ae (U ct tb r).cont)) (Hp Z ⟨(U ct tb r).st,(U ct tb r).ct,some (U ct tb r).q,(U ct tb r).tb⟩)
abbrev Fx:=O3 true
def K0(_:Ct)(tb:TK)(_:WJ):Prop:=∃b,tb=some b/\b.length<=20000
def S5(_:Ct)(_:TK)(_:WJ):Prop:=True
def b7(p:Nat×AO)(H:Tx):lo (p::H)=if p.1<64 then p::lo H else lo H:=by
 change(Bool.rec (lo H) (p::lo H) (Nat.blt p.1 64):Tx)=_;cases e:Nat.blt p.1 64 with
 |true=>rw[Zk (cb e)]
 |false=>rw[(Zi λh=>by have:Nat.blt p.1 64=true:=ZX h;replace this:=e▸this;cases this)]
def tG(p:Nat×AO)(H:Tx):hi (p::H)=if p.1<64 then hi H else p::hi H:=by
 change(Bool.rec (p::hi H) (hi H) (Nat.blt p.1 64):Tx)=_;cases e:Nat.blt p.1 64 with
 |true=>rw[Zk (cb e)]
 |false=>rw[(Zi λh=>by have:Nat.blt p.1 64=true:=ZX h;replace this:=e▸this;cases this)]
def fu{y:Type}(n:Nat)(v:y)(p:Nat×y)(l:List (Nat×y)):put n v (p::l)=if n=p.1 then(n,v)::l else p::put n v l:=by
 change(Bool.rec (p::put n v l) ((n,v)::l) (beq n p.1):List (Nat×y))=_;cases e:beq n p.1 with
 |true=>rw[Zk (ZC e)]
 |false=>rw[Zi (Xb e)]
def dM(A:i<64)(x:AO):∀H:Tx,lo (put i x H)=put i x (lo H):=by
 intro H;induction H with
 |nil=>
  rw[b7,Zk A];rfl
 |cons p H Q=>
  rw[fu];split
  ·rename_i e;rw[b7,Zk A,b7,Zk (by rw[←e];show A),fu,Zk e]
  ·rename_i e;rw[b7,b7,Q];split
   ·rw[fu,Zi e]
   ·rfl
def b6(A:¬i<64)(x:AO):∀H:Tx,lo (put i x H)=lo H:=by
 intro H;induction H with
 |nil=>
  change lo [(i,x)]=[];rw[b7,Zi A];rfl
 |cons p H Q=>
  rw[fu];split
  ·rename_i e;rw[b7,Zi A,b7,Zi (by rw[←e];show A)]
  ·rw[b7,b7,Q]
def fQ(H Q:Tx):lo (H++Q)=lo H++lo Q:=by
 induction H with
 |nil=>rfl
 |cons p H a=>
  rw[b7,b7,a];split<;>rfl
def d9:∀H:Tx,lo (hi H)=[]:=by
 intro H;induction H with
 |nil=>
  show rfl
 |cons p H Q=>
  rw[tG];split
  ·show Q
  ·rename_i h;rw[b7,Zi h];show Q
def sM{H:Tx}:Sx m ((m,o)::H)=some o:=(aq _ _ _).trans (Zk rfl)
def p7{H:Tx}(h:i≠m):Sx i ((m,o)::H)=Sx i H:=(aq _ _ _).trans (Zi h)
def LF(l L:Tw):Prop:=∀n v,Sx n l=some v->Sx n L=some v
def LF.put(h:LF l L)(n:Nat)(v:V):LF (put n v l) (put n v L):=λa w e=>by
 rw[ao]at e⊢;split
 ·rename_i q;rw[Zk q]at e;show e
 ·rename_i q;rw[Zi q]at e;show h a w e
def cw{i n:Nat}(h:Sx i s.H=some (.lst l))(j:ble n 1=true):C4 g (.ob i) n [] s=some (.lst i):=by
 unfold C4;dsimp only;rw[h];rw[j];rfl
def mF:Av ((m,.An [(Dp,.c a),(Cq,.c c)])::H) (.ob m)=some (.An [(Dp,a),(Cq,c)],(m,.Av (.An [(Dp,a),(Cq,c)]))::H):=by
 unfold Av;dsimp only;rw[sM];change some (FV.An [(Dp,a),(Cq,c)],put m (.Av (.An [(Dp,a),(Cq,c)])) ((m,AO.An [(Dp,.c a),(Cq,.c c)])::H))=_;rw[fu,Zk rfl]
structure SA (l:Tw) (J:Sm) (t:Tm) (s:St):Prop where
 o:Sx 292 s.L=some (.ob 1)
 L:LF l s.L
 H:lo s.H=Hp J t
 m:64<=s.m
structure CK (K:TB) (k:V->Tx->Prop):Prop where
 n:∀s J t,lo s.H=Hp J t->k (.c (.Ae true)) (Hp J t)->K .AZ s
 r:∀s J t f,lo s.H=Hp J t->k (.c f) (Hp J t)->K (.ret (.c f)) s
def Mj:S:=.seq (.ret (.k (.Ae true))) .skip
section
variable {tab:List (Nat×Aq)}{l:Tw}{J:Sm}{t:Tm}{k:V->Tx->Prop}
def fY:CK (sq (Ax tab) Mj (fin k)) k:=
 ⟨λs J t h D=>cU (fk (aQ (kQ J t h D))),λs J t f h D=>q_r (kQ J t h D)⟩
def CK.skip{K:TB}(h:CK K k):CK (sq (Ax tab) .skip K) k:=
 ⟨λs J t a b=>cU (aB (h.n s J t a b)),λs J t f a b=>q_r (h.r s J t f a b)⟩
def GA(tab:List (Nat×Aq))(x:S)(l:Tw)(J:Sm)(t:Tm)(k:V->Tx->Prop):Prop:=∀s K,SA l J t s->CK K k->ex (Ax tab) x s K
def Et(tab:List (Nat×Aq))(e:X)(l:Tw)(J:Sm)(t:Tm)(v:V):Prop:=∀s F,SA l J t s->F v s->SU (Ax tab) e s (one F)
def Ew(tab:List (Nat×Aq))(e:X)(l:Tw)(J:Sm)(t:Tm)(P:Sm->V->Prop):Prop:=∀s F,SA l J t s->(∀j Z v,SA l Z t j->P Z v->F v j)->SU (Ax tab) e s (one F)
def Et.w(h:Et tab e l J t v):Ew tab e l J t λZ P=>Z=J/\P=v:=λs a Q D=>h s _ Q (D s J v Q ⟨rfl,rfl⟩)
def eS:Et tab (.k f) l J t (.c f):=λZ Z Z h=>aQ h
def aaZ(e:Sx n l=some v):Et tab (.loc n) l J t v:=λZ Z Q h=>aj (aa (Q.L _ _ e) h)
theorem SA.DH{s:St}(h:SA l J t s):Sx 1 s.H=some (.inst 762 (R9 t)):=by
 have:=eg 1 s.H;rw[h.H,Zk (by ext)]at this;show this.symm
theorem SA.LN{s:St}(h:SA l J t s):Sx 2 s.H=some (.inst 166 (Sf J)):=by
 have:=eg 2 s.H;rw[h.H,Zk (by ext)]at this;show this.symm
def SA.tK{s:St}{st:Nat}{ct:Ct}{q:Tz}{tb:TK}(h:SA l J ⟨st,ct,some q,tb⟩ s):Sx 5 s.H=some (.lst q):=by
 have:=eg 5 s.H;rw[h.H,Zk (by ext)]at this;show this.symm
def SA.call(h:SA l J t s)(J':Sm)(t':Tm):SA l J' t' (As s (Hp J' t'++hi s.H)):=by
 show⟨h.o,h.L,?_,h.m⟩;rw[fQ,bZ,d9,Zu]
def SA.zZ(h:SA l J t s)(e:put 1 (.inst 762 d) (Hp J t)=Hp J v):SA l J v (As s (put 1 (.inst 762 d) s.H)):=by
 show⟨h.o,h.L,?_,h.m⟩;rw[dM (by ext),h.H,e]
theorem SA.Al(h:SA l J t s)(e:g0.cls 166 n=some f)(Z:Sx n (Sf J)=none):C4 (Ax tab) (.ob 2) n [] s=some (.fn f (.ob 2)):=by
 show kz h.LN Z e
def lL(t:Tm):ble (R9 t).length 900=true:=by
 obtain⟨st,ct,q,tb⟩:=t;cases q
 ·rfl
 ·cases tb<;>rfl
def cj{y:Type}{n:Nat}{p:Nat×y}{r:List (Nat×y)}(h:beq n p.1=false):Sx n (p::r)=Sx n r:=(aq _ _ _).trans (Zi (Xb h))
def ny{x:Nat}(t:Tm)(h:(R9 ⟨0,.no,some [],some []⟩).any (λp=>beq x p.1)=false):Sx x (R9 t)=none:=by
 obtain⟨st,ct,q,tb⟩:=t;have h:(beq x 305||(beq x 232||(beq x 170||(beq x 194||(beq x 302||(beq x 169||(beq x 144||(beq x 313||(beq x 310||false)))))))))=false:=h;simp only[Bool.or_eq_false_iff]at h;obtain⟨a,N,D,A,Q,O,b,U,y,_⟩:=h;have j:Sx x (QG q tb)=none:=by
  cases q
  ·rfl
  ·cases tb
   ·show cj U
   ·show(cj U).trans (cj y)
 show(cj a).trans ((cj N).trans ((cj D).trans ((cj A).trans ((cj Q).trans ((cj O).trans ((cj b).trans j))))))
abbrev HQ:WJ:=Qz
abbrev Q2:WJ:=Tb
abbrev GL:WJ:=Tf
def Ry(T:WJ)(e:X):X:=.An (.cons (.k (.str Tg)) (.cons (.sub (.BR Ad) (.k (.str T))) (.cons (.k (.str Th)) (.cons e .nil))))
def Ee(T:WJ)(e:X):S:=.ex (.Al (.Bb (.loc 292) 313) 0 (.cons (Ry T e) .nil) [])
def Cv(x:Nat):S:=.Bi (.loc 292) 302 (.Bb (.loc 292) x)
def Jn:S:=.ex (.Al (.Bb (.loc 292) 305) 321 (.cons (.loc 145) .nil) [])
def Kp:S:=.Aj 145 (.Al (.Bb (.loc 292) 305) 119 .nil [])
def Hy(a:X):X:=.Al (.Bb (.loc 292) 305) 126 a []
def bp(h:k (.c (.Ae true)) (Hp J t)):GA tab .skip l J t k:=λs Z Q u=>aB (u.n s J t Q.H h)
def jA(h:k (.c f) (Hp J t)):GA tab (.seq (.ret (.k f)) .skip) l J t k:=λs Z Q u=>fk (aQ (u.r s J t f Q.H h))
def az(a:Et tab c l J t (.c (.Ae p)))(U:p=true->GA tab x l J t k)(N:p=false->GA tab y l J t k):GA tab (.seq (.iff c x y) .skip) l J t k:=λs Z Q u=>
 bE (a s _ Q (aa rfl (bh (λh=>U h s _ Q u.skip) λh=>N h s _ Q u.skip)))
def kM{st:Nat}(e:g0.cls 762 x=some n)(Z:(R9 ⟨0,.no,some [],some []⟩).any (λp=>beq x p.1)=false)(h:GA tab b l J ⟨n,ct,q,tb⟩ k):GA tab (.seq (Cv x) b) l J ⟨st,ct,q,tb⟩ k:=by
 intro s K Q u;show i5 (ba (aj (aa Q.o (y6 Q.DH (ny _ Z) e (aj (aa Q.o (w_a rfl Q.DH ?_ (h _ _ (Q.zZ rfl) u))))))));rw[lL];rfl
def tQ{st:Nat}{ct:Ct}(A:sel T Mr=some (.int i))(D:q.length<=1000)(n:Ew tab e l J ⟨st,ct,some q,tb⟩ P)(h:∀Z v,P Z v->∃u,v=.c (.str u)/\GA tab b l Z ⟨st,ct,some (q++[Hz i u]),tb⟩ k):GA tab (.seq (Ee T e) b) l J ⟨st,ct,some q,tb⟩ k:=by
 intro s K Q o;show d3 (aJ (ba (aj (aa Q.o (aP Q.DH rfl rfl (aa (cw Q.tK rfl) (ah (gb (ah (aQ (ah (bK (bB (aQ (dI A (ah (aQ (ah (n s _ Q λj Z v N p=>?_)))))))))))))))))));show aA (h Z v p) λu a h=>?_;subst a;have f:=N.tK;have O:=N.m;show au (aa rfl (gc (au (gf ((p7 (by lia)).trans f) mF ((p7 (by lia)).trans f) (ZX (by lia)) (h _ _ ⟨N.o,N.L,?_,Y4 N.m⟩ o)))));change lo (put 5 _ ((j.m,_)::j.H))=_;rw[dM (by ext),b7,Zi (show¬j.m<64 by show YN.mpr O),N.H];rfl
def bo{st:Nat}{ct:Ct}(A:sel T Mr=some (.int i))(D:ble q.length 1000=true)(N:Et tab e l J ⟨st,ct,some q,tb⟩ (.c (.str u)))(h:GA tab b l J ⟨st,ct,some (q++[Hz i u]),tb⟩ k):GA tab (.seq (Ee T e) b) l J ⟨st,ct,some q,tb⟩ k:=
 tQ A (ZQ D) N.w λZ v O=>(aO u O.2 (O.1▸h))
def wI{n:Nat}(j:beq 292 n=false)(a:Ew tab e l J t P)(h:∀Z v,P Z v->GA tab b (put n v l) Z t k):GA tab (.seq (.Aj n e) b) l J t k:=by
 intro s K Q u;show aG (a s _ Q λf Z v N O=>h Z v O _ _ ⟨?_,N.L.put n v,N.H,N.m⟩ u);show(ao _ _ _ _).trans ((Zi (Xb j)).trans N.o)
def tL(e:Sx 145 l=some (.c .Ak))(h:GA tab b l J t k)(N:B9 tab 163=Dk):GA tab (.seq Jn b) l J t k:=by
 intro s K Q u;show d3 (aJ (ba (aj (aa Q.o (aP Q.DH rfl rfl (aa (Q.Al rfl rfl) (ah (aj (aa (Q.L _ _ e) (au (eR (dE J t rfl rfl Q.H ?_))))))))))));change B9 tab 163 _ _ _ _;rw[N];show .inl (bG J t rfl rfl rfl (h _ _ (Q.call J t) u))
def tM(e:Sx 145 l=some (.c (.str [c])))(j:J.off≠0)(A:Co J.Ac (J.off-1)=some c)(h:GA tab b l {J with off:=J.off-1} t k)(N:B9 tab 163=Dk):GA tab (.seq Jn b) l J t k:=by
 intro s K Q u;show d3 (aJ (ba (aj (aa Q.o (aP Q.DH rfl rfl (aa (Q.Al rfl rfl) (ah (aj (aa (Q.L _ _ e) (au (eR (dE J t rfl rfl Q.H ?_))))))))))));change B9 tab 163 _ _ _ _;rw[N];show .inr (cF J t c rfl rfl rfl j A (h _ _ (Q.call {J with off:=J.off-1} t) u))
def adx{u:WJ}{st:Nat}(N:Et tab e l J ⟨st,ct,some q,tb⟩ (.c (.str u)))(h:GA tab b l J ⟨st,ct,some q,some u⟩ k):GA tab (.seq (.Bi (.loc 292) 310 e) b) l J ⟨st,ct,some q,tb⟩ k:=by
 intro s K Q a;show i5 (N s _ Q (aj (aa Q.o (w_a rfl Q.DH ?_ (h _ _ (Q.zZ ?_) a)))))
 ·rw[lL];rfl
 ·cases tb<;>rfl
def tR{st:Nat}(e:Sx 145 l=some (.c (.str [c])))(Z:u.length<=100000)(h:GA tab b l J ⟨st,ct,some q,some (u++[c])⟩ k):GA tab (.seq (.Gb (.loc 292) 310 0 (.loc 145)) b) l J ⟨st,ct,some q,some u⟩ k:=by
 intro s K Q a;show zP (aj (aa Q.o (aP Q.DH rfl rfl (aj (aa (Q.L _ _ e) (aaI (by change u.length+1<=_;lia) (w_a rfl Q.DH rfl (h _ _ (Q.zZ rfl) a))))))))
section
variable {c:Nat}
def cW(e:Sx 145 l=some (.c (.str [c]))):Et tab (.cmp 0 (.loc 145) (.k (.str [x]))) l J t (.c (.Ae (decide (c=x)))):=λZ Z Q h=>aH (aj (aa (Q.L _ _ e) (aQ (dt (vi h)))))
def dy(e:Sx 145 l=some (.c .Ak)):Et tab (.cmp 0 (.loc 145) (.k (.str x))) l J t (.c (.Ae false)):=λZ Z Q h=>aH (aj (aa (Q.L _ _ e) (aQ (dt (aeT h)))))
def zq(e:Sx 145 l=some (.c (.str [c]))):Et tab (.cmp 0 (.loc 145) (.BR (.c .Ak))) l J t (.c (.Ae false)):=λZ Z Q h=>aH (aj (aa (Q.L _ _ e) (bB (dt (aeS h)))))
def zp(e:Sx 145 l=some (.c .Ak)):Et tab (.cmp 0 (.loc 145) (.BR (.c .Ak))) l J t (.c (.Ae true)):=λZ Z Q h=>aH (aj (aa (Q.L _ _ e) (bB (dt (aeR h)))))
def j5(e:Sx 145 l=some v)(Z:DZ v=some b):Et tab (.cmp 6 (.loc 145) (.BR (.c .Ak))) l J t (.c (.Ae b)):=λa a Q h=>aH (aj (aa (Q.L _ _ e) (bB (dt (acn Z h)))))
def vb(e:Sx 145 l=some (.c (.str [c])))(u:f.all I7=true):Et tab (.cmp 8 (.loc 145) (.BR (.c (.tup f)))) l J t (.c (.Ae (decide (c∈Jg f)))):=λZ Z Q h=>aH (aj (aa (Q.L _ _ e) (bB (dt (vf u h)))))
def zo(e:Sx 145 l=some (.c .Ak))(u:CT .Ak f=some b):Et tab (.cmp 8 (.loc 145) (.BR (.c (.tup f)))) l J t (.c (.Ae b)):=λZ Z Q h=>aH (aj (aa (Q.L _ _ e) (bB (dt (zu u h)))))
def q8(e:Sx 145 l=some (.c (.str [c]))):Et tab (.cmp 8 (.loc 145) (.BR AA)) l J t (.c (.Ae (decide (c∈AW)))):=λZ Z Q h=>aH (aj (aa (Q.L _ _ e) (bB (w_l (acm h)))))
def qZ(e:Sx 145 l=some (.c .Ak)):Et tab (.cmp 8 (.loc 145) (.BR AA)) l J t (.c (.Ae false)):=λZ Z Q h=>aH (aj (aa (Q.L _ _ e) (bB (w_l (acj h)))))
end
end
noncomputable def Out.ok(_:Ct)(k:V->Tx->Prop)(d:WJ)(e m:Nat)(z:Prop)(o:Out):Prop:=∀Z A O,A+O=e+m->O<=m->(z->O=0)->View Z (d++o.x) o.r A O->k (.c (.Ae o.cont)) (Hp Z ⟨o.st,o.ct,some o.q,o.tb⟩)
structure Rd (d:WJ) (e m:Nat) (z:Prop) (J':Sm) (x r:WJ):Prop where
 ex:∃e' m',e'+m'=e+m/\m'<=m/\(z->m'=0)/\View J' (d++x) r e' m'
section
variable {tab:List (Nat×Aq)}{l:Tw}{J:Sm}{t:Tm}{k:V->Tx->Prop}{ct:Ct}{d:WJ}{e m:Nat}{z:Prop}
def Out.pos{P:Prop}[Decidable P](D:Out.ok ct k d e m z (if P then a else b))(h:decide P=true):Out.ok ct k d e m z a:=by rw[Zk (Zm h)]at D;show D
def Out.neg{P:Prop}[Decidable P](D:Out.ok ct k d e m z (if P then a else b))(h:decide P=false):Out.ok ct k d e m z b:=by rw[Zi (ZA h)]at D;show D
def Rd.fin(h:Rd d e m z J o.x o.r)(D:Out.ok ct k d e m z o):k (.c (.Ae o.cont)) (Hp J ⟨o.st,o.ct,some o.q,o.tb⟩):=by
 show dZ h.ex λA O a b c v=>D J A O a b c v
def Rd.ir(h:Rd d e m z J [c] r)(j:0<J.off):J.off≠0/\Co J.Ac (J.off-1)=some c/\Rd d e m z {J with off:=J.off-1} [] (c::r):=by
 show dZ h.ex λA O a b y v=>cu (v.ir j) λU N u=>⟨U,N,⟨A,O,a,b,y,by rw[Zu];show u⟩⟩
def Rd.len(h:Rd d e m z J x r):r.length<=10240:=by
 show dZ h.ex λA O a b y v=>?_;show Xk v.bound
def mM(h:B9 tab 156=CR)(U:∀s (F:TA->TF),SA l J t s->F Z s->SU (Ax tab) A s F)(N:Z=[.c v,.c (.Ae D)]\/Z=[.c v]/\D=false)(o:MG v p)(f:Rd d e m z J [c] r):
  Ew tab (Hy A) l J t λi w=>w=.c (.str (tw p D r))/\Rd d e m z i (c::tw p D r) (dw p D r):=by
 intro s F Q B;show dZ f.ex λn O a b y w=>aJ (ba (aj (aa Q.o (aP Q.DH rfl rfl (aa (Q.Al rfl rfl) (U s _ Q (eR (dE J t rfl ?_ Q.H ?_))))))))
 ·rcases N with rfl|⟨rfl,rfl⟩<;>rfl
 change B9 tab 156 _ _ _ _;rw[h];show⟨J,t,d++[c],r,n,O,v,D,p,?_,rfl,rfl,o,w,λj x m2 g1 g2 u=>B _ j _ (Q.call j t) ⟨rfl,⟨x,m2,g1.trans a,Zh g2 b,λq=>by lia,by replace u:=(Zo _ _ _)▸u;show u⟩⟩⟩;rcases N with rfl|⟨rfl,rfl⟩
 ·show .inl rfl
 ·show .inr ⟨rfl,rfl⟩
def qU(p:TU)(D:Bool)(r:WJ):(tw p D r).length<=r.length:=(Z5 _).length_le
def aaY(U:Sx 145 l=some (.c (.str [c])))(b:r.length<=10240)(P:Ew tab x l J t λZ w=>w=.c (.str (tw p D r))/\Rd d e m z Z (c::tw p D r) (dw p D r)):
  Ew tab (.bin 0 (.loc 145) x) l J t λZ w=>w=.c (.str (c::tw p D r))/\Rd d e m z Z (c::tw p D r) (dw p D r):=by
 intro s F Q f;show cm (aj (aa (Q.L _ _ U) (P s _ Q λj Z v N O=>?_)));obtain⟨rfl,a⟩:=O;have:=qU p D r;show uN (by change 1+_<=_;show Zh (ZH (Zh this b) 1) (by ext)) (f j Z _ N ⟨rfl,a⟩)
def Rq(tab:List (Nat×Aq))(l:Tw)(y:Nat)(U:Ct->TK->WJ->Out)(j:Ct->TK->WJ->Prop)(b:S):Prop:=∀ct tb k d e m z J r,j ct tb r->Out.ok ct k d e m z (U ct tb r)->
 match r with
 | []=>Rd d e m z J [] []->GA tab b (put 145 (.c .Ak) l) J ⟨y,ct,some [],tb⟩ k
 |c::r=>Rd d e m z J [c] r->0<J.off->GA tab b (put 145 (.c (.str [c])) l) J ⟨y,ct,some [],tb⟩ k
def dB{K:TB}(h:ex g (.seq a .skip) s (sq g b K)):ex g (.seq a b) s K:=by
 have e:Lp (ex g .skip) (sq g b K)=sq g b K:=by
  funext fl s;cases fl<;>rfl
 have f:ex g a s (Lp (ex g .skip) (sq g b K)):=h;replace f:=e▸f;show f
def vn{j:Ct->TK->WJ->Prop}{a:S}(N:B9 tab 133=Fg)(h:Rq tab l fa U j (.seq a .skip))(v:View J d r e m)(u:j ct tb r)(D:Out.ok ct k d e m (J.off=J.size) (U ct tb r))(Q:SA l J ⟨fa,ct,some [],tb⟩ s):ex (Ax tab) (.seq Kp (.seq a Mj)) s (fin k):=by
 show aG (aJ (ba (aj (aa Q.o (aP Q.DH rfl rfl (aa (Q.Al rfl rfl) (au (eR (dE J _ rfl rfl Q.H ?_)))))))));change B9 tab 133 _ _ _ _;rw[N];show(bJ J _ d r e m rfl rfl rfl v λZ A O a b y=>?_);have key:∀(w:V),SA (put 145 w l) Z ⟨fa,ct,some [],tb⟩ (Bv (As s (Hp Z ⟨fa,ct,some [],tb⟩++hi s.H)) (put 145 w s.L)):=λw=>
  have z:=Q.call Z ⟨fa,ct,some [],tb⟩
  ⟨(ao _ _ _ _).trans ((Zi (by ext)).trans z.o),z.L.put 145 w,z.H,z.m⟩
 have f:=h ct tb k d e m (J.off=J.size) Z r u D;cases r with
 |nil=>show λP=>dB (f ⟨A,O,a,b,y,by rw[Zu];show P⟩ _ _ (key _) fY)
 |cons c r=>show λP i=>dB (f ⟨A,O,a,b,y,P⟩ i _ _ (key _) fY)
def fj{U:Ct->TK->WJ->Out}{j:Ct->TK->WJ->Prop}(f:B9 tab 133=Fg)(h:Rq tab [] y U j (.seq a .skip)):∀u b H k,Fx y U j u b H k->Ab (Ah [292] u b) λN=>ex (Ax tab) (.seq Kp (.seq a Mj)) ⟨N,H,64,false⟩ (fin k):=by
 rintro u b H k ⟨J,ct,tb,d,r,e,m,rfl,rfl,rfl,v,p,D⟩;show aa rfl (vn f h v p (λn A O i o P=>D n A O i o λZ=>P) ⟨rfl,λZ Z e=>(nomatch e),bZ _ _,Zq _⟩)
end
abbrev O0:S:=.seq (.ret (.k (.Ae false))) .skip
abbrev Lk:X:=.cmp 0 (.loc 145) (.BR (.c .Ak))
abbrev EP(x:Nat):X:=.cmp 0 (.loc 145) (.k (.str [x]))
abbrev Iy:X:=.cmp 8 (.loc 145) (.BR AA)
abbrev NX:FV:=.tup [.str [9],.str [10],.str [12],.str [32],.str [13]]
abbrev Iw:X:=.cmp 8 (.loc 145) (.BR (.c NX))
noncomputable def wh(a:S):S:=.seq Kp (.seq a Mj)
def Jo(u:Nat)(b:S):S:=.seq (Ee GL (.k (.str To))) (.seq (Ee HQ (.k (.str [u]))) b)
def O1(e:X)(y:Nat):S:=.seq (Ee HQ e) (.seq Jn (.seq (Cv y) .skip))
def Kn(e:X):S:=.seq (.Aj 125 (Hy (.cons e .nil))) (.seq (Ee HQ (.bin 0 (.loc 145) (.loc 125))) .skip)
def Mi(b:S):S:=.iff Iw (.seq (Ee Q2 (.bin 0 (.loc 145) (Hy (.cons (.BR (.c NX)) (.cons (.k (.Ae true)) .nil))))) .skip) b
abbrev GQ(x n:Nat):Prop:=g0.cls 762 x=some n/\(R9 ⟨0,.no,some [],some []⟩).any (λp=>beq x p.1)=false
section
variable {l:Tw}{J:Sm}{t:Tm}{k:V->Tx->Prop}{ct:Ct}{d:WJ}{e m:Nat}{z:Prop}{st B:Nat}{tb:TK}{c:Nat}{r:WJ}
def jb(h:GA Cm b l J ⟨st,ct,some [CG,BM [u]],tb⟩ k):GA Cm (Jo u b) l J ⟨st,ct,some [],tb⟩ k:=
 bo rfl rfl eS (bo rfl rfl eS h)
def aej(U:Sx 145 l=some (.c .Ak))(e:GQ y B)(P:Et Cm x l J ⟨st,ct,some [],tb⟩ (.c (.str u)))(h:k (.c (.Ae true)) (Hp J ⟨B,ct,some [BM u],tb⟩)):GA Cm (O1 x y) l J ⟨st,ct,some [],tb⟩ k:=
 bo rfl rfl P (tL U (kM e.1 e.2 (bp h)) rfl)
def aek(U:Sx 145 l=some (.c (.str [c])))(A:GQ y B)(P:Et Cm x l J ⟨st,ct,some [],tb⟩ (.c (.str u)))(g:Rd d e m z J [c] r)(j:0<J.off)(D:Out.ok ct k d e m z ⟨true,B,tb,[BM u],[],c::r,ct⟩):GA Cm (O1 x y) l J ⟨st,ct,some [],tb⟩ k:=
 have h:=g.ir j
 bo rfl rfl P (tM U h.1 h.2.1 (kM A.1 A.2 (bp (h.2.2.fin D))) rfl)
def gV(e:GQ x B)(h:k (.c (.Ae true)) (Hp J ⟨B,ct,q,tb⟩)):GA Cm (.seq (Cv x) .skip) l J ⟨st,ct,q,tb⟩ k:=kM e.1 e.2 (bp h)
def oT(A:sel T Mr=some (.int i))(U:Sx 145 l=some (.c (.str [c])))(g:Rd d e m z J [c] r)(P:Ew Cm x l J ⟨st,ct,some [],tb⟩ λZ w=>w=.c (.str (tw p D r))/\Rd d e m z Z (c::tw p D r) (dw p D r))
  (b:Out.ok ct k d e m z ⟨true,st,tb,[Hz i (c::tw p D r)],c::tw p D r,dw p D r,ct⟩):GA Cm (.seq (Ee T (.bin 0 (.loc 145) x)) .skip) l J ⟨st,ct,some [],tb⟩ k:=
 tQ A (ZF _) (aaY U g.len P) λa a O=>(aO _ O.1 (bp (O.2.fin b)))
def l8(P:∀s F,SA [(145,.c (.str [c]))] J ⟨st,ct,some [],tb⟩ s->F (.c (.tup f)) s->SU (Ax Cm) x s (one F))(u:f.all I7=true)(g:Rd d e m z J [c] r)(D:Out.ok ct k d e m z ⟨true,st,tb,[BM (c::AJ (Jg f) r)],c::AJ (Jg f) r,Fq (Jg f) r,ct⟩):GA Cm (Kn x) [(145,.c (.str [c]))] J ⟨st,ct,some [],tb⟩ k:=by
 show wI rfl (mM rfl (λs F Q h=>ah (P s _ Q (au h))) (.inr ⟨rfl,rfl⟩) (nq u) g) λZ v O=>?_;obtain⟨rfl,j⟩:=O;have:=qU (λc=>decide (c∈Jg f)) false r;have:=g.len;show bo rfl rfl (λs F Q h=>cm (aj (aa (Q.L 145 _ rfl) (aj (aa (Q.L 125 _ rfl) (uN ?_ h)))))) (bp (j.fin D));change 1+_<=_;lia
def rF(g:Rd d e m z J [c] r)(U:c∈Dj->Out.ok ct k d e m z ⟨true,st,tb,[OK (c::Ej Dj r)],c::Ej Dj r,IP Dj r,ct⟩)(N:decide (c∈Dj)=false->GA Cm b [(145,.c (.str [c]))] J ⟨st,ct,some [],tb⟩ k):GA Cm (.seq (Mi b) .skip) [(145,.c (.str [c]))] J ⟨st,ct,some [],tb⟩ k:=
 az (vb rfl rfl) (λh=>oT rfl rfl g (mM rfl (λs F Q h=>ah (bB (ah (aQ (au h))))) (.inl rfl) (nq rfl) g) (U (Zm h))) N
end
def et3:∀s F,SA l J t s->F (.c (.tup [.str [a],.str [b],.str [c]])) s->SU (Ax Cm) (.tup (.cons (.k (.str [a])) (.cons (.k (.str [b])) (.cons (.k (.str [c])) .nil)))) s (one F):=λs F Z h=>
 dW (ah (aQ (ah (aQ (ah (aQ (au (aa rfl (aW rfl h)))))))))
def et2:∀s F,SA l J t s->F (.c (.tup [.str [a],.str [b]])) s->SU (Ax Cm) (.tup (.cons (.k (.str [a])) (.cons (.k (.str [b])) .nil))) s (one F):=λs F Z h=>
 dW (ah (aQ (ah (aQ (au (aa rfl (aW rfl h)))))))
abbrev QF(a b c:Nat):X:=.tup (.cons (.k (.str [a])) (.cons (.k (.str [b])) (.cons (.k (.str [c])) .nil)))
abbrev RA(a b:Nat):X:=.tup (.cons (.k (.str [a])) (.cons (.k (.str [b])) .nil))
def DU(ct:Ct)(tb:TK)(r:WJ):Out:=match r with
 | []=>⟨false,346,tb,[],[],[],ct⟩
 |c::r=>if c=0 then⟨true,346,tb,[CG,BM [65533]],[c],r,ct⟩else
  ⟨true,346,tb,[BM (c::AJ [0] r)],c::AJ [0] r,Fq [0] r,ct⟩
def JU:Aq:=Fx 346 DU S5
def Bo:S:=wh (.iff Lk O0 (.seq (.iff (EP 0) (Jo 65533 .skip) (.seq (Ee HQ (.bin 0 (.loc 145) (Hy (.cons (.k (.str [0])) .nil)))) .skip)) .skip))
def xh(xs kws H k)(h:JU xs kws H k):Ab (Ah [292] xs kws) λN=>ex SR Bo ⟨N,H,64,false⟩ (fin k):=by
 show fj rfl (λct tb k d e m z J r Z D=>?_) xs kws H k h;cases r with
 |nil=>show λg=>az (zp rfl) (λZ=>jA (g.fin D)) λh=>nomatch h
 |cons c r=>
  show λg j=>az (zq rfl) (λh=>nomatch h) λZ=>az (cW rfl) (λh=>jb (bp (g.fin (Out.pos D h)))) λh=>
   oT rfl rfl g (mM rfl (λs F Z h=>ah (aQ (au h))) (.inr ⟨rfl,rfl⟩) (nr [0]) g) (Out.neg D h)
def Np(B K:Nat)(ct:Ct)(tb:TK)(r:WJ):Out:=match r with
 | []=>⟨false,B,tb,[],[],[],ct⟩
 |c::r=>if c=60 then⟨true,K,tb,[],[c],r,ct⟩else
  if c=0 then⟨true,B,tb,[CG,BM [65533]],[c],r,ct⟩else
  ⟨true,B,tb,[BM (c::AJ [60,0] r)],c::AJ [60,0] r,Fq [60,0] r,ct⟩
def MP(x:Nat):S:=wh (.iff (EP 60) (.seq (Cv x) .skip) (.seq (.iff (EP 0) (Jo 65533 .skip) (.seq (.iff Lk O0 (Kn (RA 60 0))) .skip)) .skip))
def aa4{B K x:Nat}(s:GQ x K)(xs kws H k)(h:Fx B (Np B K) S5 xs kws H k):Ab (Ah [292] xs kws) λN=>ex SR (MP x) ⟨N,H,64,false⟩ (fin k):=by
 show fj rfl (λct tb k d e m z J r Z D=>?_) xs kws H k h;cases r with
 |nil=>show λg=>az (dy rfl) (λh=>nomatch h) λZ=>az (dy rfl) (λh=>nomatch h) λZ=>az (zp rfl) (λZ=>jA (g.fin D)) λh=>nomatch h
 |cons c r=>
  show λg j=>az (cW rfl) (λh=>gV s (g.fin (Out.pos D h))) λh=>az (cW rfl) (λa=>jb (bp (g.fin (Out.pos (Out.neg D h) a)))) λa=>
   az (zq rfl) (λh=>nomatch h) λZ=>l8 et2 rfl g (Out.neg (Out.neg D h) a)
def FP:=Np 332 395
def MT:Aq:=Fx 332 FP S5
def Bu:S:=MP 254
def adQ(xs kws H k)(h:MT xs kws H k):Ab (Ah [292] xs kws) λN=>ex SR Bu ⟨N,H,64,false⟩ (fin k):=aa4 ⟨rfl,rfl⟩ xs kws H k h
def BZ(ct:Ct)(tb:TK)(r:WJ):Out:=match r with
 | []=>⟨false,318,tb,[],[],[],ct⟩
 |c::r=>if c=38 then⟨true,325,tb,[],[c],r,ct⟩else
  if c=60 then⟨true,374,tb,[],[c],r,ct⟩else
  if c=0 then⟨true,318,tb,[CG,BM [65533]],[c],r,ct⟩else
  if c∈Dj then⟨true,318,tb,[OK (c::Ej Dj r)],c::Ej Dj r,IP Dj r,ct⟩else
  ⟨true,318,tb,[BM (c::AJ [38,60,0] r)],c::AJ [38,60,0] r,Fq [38,60,0] r,ct⟩
def IC:Aq:=Fx 318 BZ S5
def Bz:S:=wh (.iff (EP 38) (.seq (Cv 123) .skip) (.seq (.iff (EP 60) (.seq (Cv 258) .skip) (.seq (.iff Lk O0 (.seq (.iff (EP 0) (Jo 65533 .skip) (.seq (Mi (Kn (QF 38 60 0))) .skip)) .skip)) .skip)) .skip))
def uf(xs kws H k)(h:IC xs kws H k):Ab (Ah [292] xs kws) λb=>ex SR Bz ⟨b,H,64,false⟩ (fin k):=by
 show fj rfl (λct tb k d e m z J r Z D=>?_) xs kws H k h;cases r with
 |nil=>show λg=>az (dy rfl) (λh=>nomatch h) λZ=>az (dy rfl) (λh=>nomatch h) λZ=>az (zp rfl) (λZ=>jA (g.fin D)) λh=>nomatch h
 |cons c r=>
  show λg j=>az (cW rfl) (λh=>gV ⟨rfl,rfl⟩ (g.fin (Out.pos D h))) λU=>az (cW rfl) (λh=>gV ⟨rfl,rfl⟩ (g.fin (Out.pos (Out.neg D U) h))) λN=>
   az (zq rfl) (λh=>nomatch h) λZ=>az (cW rfl) (λh=>jb (bp (g.fin (Out.pos (Out.neg (Out.neg D U) N) h)))) λa=>
   rF g (λh=>Out.pos (Out.neg (Out.neg (Out.neg D U) N) a) (Zr h)) λA=>l8 et3 rfl g (Out.neg (Out.neg (Out.neg (Out.neg D U) N) a) A)
def C7(ct:Ct)(tb:TK)(r:WJ):Out:=match r with
 | []=>⟨false,304,tb,[],[],[],ct⟩
 |c::r=>if c=38 then⟨true,311,tb,[],[c],r,ct⟩else
  if c=60 then⟨true,353,tb,[],[c],r,ct⟩else
  if c=0 then⟨true,304,tb,[CG,BM [0]],[c],r,ct⟩else
  if c∈Dj then⟨true,304,tb,[OK (c::Ej Dj r)],c::Ej Dj r,IP Dj r,ct⟩else
  ⟨true,304,tb,[BM (c::AJ [38,60,0] r)],c::AJ [38,60,0] r,Fq [38,60,0] r,ct⟩
def Lu:Aq:=Fx 304 C7 S5
def BG:S:=wh (.iff (EP 38) (.seq (Cv 164) .skip) (.seq (.iff (EP 60) (.seq (Cv 307) .skip) (.seq (.iff (EP 0) (Jo 0 .skip) (.seq (.iff (.cmp 6 (.loc 145) (.BR (.c .Ak))) O0 (.seq (Mi (Kn (QF 38 60 0))) .skip)) .skip)) .skip)) .skip))
def aa7(xs kws H k)(h:Lu xs kws H k):Ab (Ah [292] xs kws) λb=>ex SR BG ⟨b,H,64,false⟩ (fin k):=by
 show fj rfl (λct tb k d e m z J r Z D=>?_) xs kws H k h;cases r with
 |nil=>show λg=>az (dy rfl) (λh=>nomatch h) λZ=>az (dy rfl) (λh=>nomatch h) λZ=>az (dy rfl) (λh=>nomatch h) λZ=>az (j5 rfl rfl) (λZ=>jA (g.fin D)) λh=>nomatch h
 |cons c r=>
  show λg j=>az (cW rfl) (λh=>gV ⟨rfl,rfl⟩ (g.fin (Out.pos D h))) λU=>az (cW rfl) (λh=>gV ⟨rfl,rfl⟩ (g.fin (Out.pos (Out.neg D U) h))) λN=>
   az (cW rfl) (λh=>jb (bp (g.fin (Out.pos (Out.neg (Out.neg D U) N) h)))) λa=>az (j5 rfl rfl) (λh=>nomatch h) λZ=>
   rF g (λh=>Out.pos (Out.neg (Out.neg (Out.neg D U) N) a) (Zr h)) λA=>l8 et3 rfl g (Out.neg (Out.neg (Out.neg (Out.neg D U) N) a) A)
def LO(B T:Nat)(ct:Ct)(tb:TK)(r:WJ):Out:=match r with
 | []=>⟨true,B,tb,[BM [60]],[],[],ct⟩
 |c::r=>if c=47 then⟨true,T,some [],[],[c],r,ct⟩else⟨true,B,tb,[BM [60]],[],c::r,ct⟩
def Ox(x:Nat):S:=.seq (.Bi (.loc 292) 310 (.k (.str []))) (.seq (Cv x) .skip)
def zr{st B x:Nat}{tb:TK}(e:GQ x B)(h:k (.c (.Ae true)) (Hp J ⟨B,ct,some [],some []⟩)):GA Cm (Ox x) l J ⟨st,ct,some [],tb⟩ k:=adx eS (gV e h)
def Pk(x y:Nat):S:=wh (.iff (EP 47) (Ox x) (O1 (.k (.str [60])) y))
def yQ{B T K x y:Nat}(U:GQ x T)(Z:GQ y B)(xs kws H k)(h:Fx K (LO B T) S5 xs kws H k):Ab (Ah [292] xs kws) λN=>ex SR (Pk x y) ⟨N,H,64,false⟩ (fin k):=by
 show fj rfl (λct tb k d e m z J r a D=>?_) xs kws H k h;cases r with
 |nil=>show λg=>az (dy rfl) (λh=>nomatch h) λa=>aej rfl Z eS (g.fin D)
 |cons c r=>
  show λg j=>az (cW rfl) (λh=>zr U (g.fin (Out.pos D h))) λh=>aek rfl Z eS g j (Out.neg D h)
def IQ:=LO 318 381
def Lr:Aq:=Fx 374 IQ S5
def AI:S:=Pk 257 259
def aa3(xs kws H k)(h:Lr xs kws H k):Ab (Ah [292] xs kws) λN=>ex SR AI ⟨N,H,64,false⟩ (fin k):=yQ ⟨rfl,rfl⟩ ⟨rfl,rfl⟩ xs kws H k h
def Hj:=LO 332 402
def JT:Aq:=Fx 395 Hj S5
def AF:S:=Pk 253 255
def xg(xs kws H k)(h:JT xs kws H k):Ab (Ah [292] xs kws) λN=>ex SR AF ⟨N,H,64,false⟩ (fin k):=yQ ⟨rfl,rfl⟩ ⟨rfl,rfl⟩ xs kws H k h
def HM(B N:Nat)(ct:Ct)(tb:TK)(r:WJ):Out:=match tb with
 |none=>⟨false,0,none,[],[],[],ct⟩
 |some b=>match r with
  | []=>⟨true,B,some b,[BM [60,47]],[],[],ct⟩
  |c::r=>if c∈AW then⟨true,N,some (b++[c]),[],[c],r,ct⟩else⟨true,B,some b,[BM [60,47]],[],c::r,ct⟩
def Ll(x y:Nat):S:=wh (.iff Iy (.seq (.Gb (.loc 292) 310 0 (.loc 145)) (.seq (Cv x) .skip)) (O1 (.k (.str [60,47])) y))
def uj(U:GQ x N)(Z:GQ y B)(xs kws H k)(h:Fx T (HM B N) K0 xs kws H k):Ab (Ah [292] xs kws) λa=>ex SR (Ll x y) ⟨a,H,64,false⟩ (fin k):=by
 show fj rfl (λct tb k d e m z J r u D=>?_) xs kws H k h;show aA u λb Q P=>?_;clear u;subst Q;cases r with
 |nil=>show λg=>az (qZ rfl) (λh=>nomatch h) λf=>aej rfl Z eS (g.fin D)
 |cons c r=>
  show λg j=>az (q8 rfl) (λh=>tR rfl (Zh P (by ext)) (gV U (g.fin (Out.pos D h)))) λh=>aek rfl Z eS g j (Out.neg D h)
def Hi:=HM 318 388
def JR:Aq:=Fx 381 Hi K0
def AN:S:=Ll 256 259
def xe(xs kws H k)(h:JR xs kws H k):Ab (Ah [292] xs kws) λN=>ex SR AN ⟨N,H,64,false⟩ (fin k):=uj ⟨rfl,rfl⟩ ⟨rfl,rfl⟩ xs kws H k h
def Gv:=HM 332 409
def ID:Aq:=Fx 402 Gv K0
def AK:S:=Ll 252 255
def ug(xs kws H k)(h:ID xs kws H k):Ab (Ah [292] xs kws) λN=>ex SR AK ⟨N,H,64,false⟩ (fin k):=uj ⟨rfl,rfl⟩ ⟨rfl,rfl⟩ xs kws H k h
def Pc:X:=.Gi (.Gf (.k (.str [65])) (.loc 118) (.k (.str [90]))) (.fn 2 (.cons (.bin 0 (.fn 1 (.cons (.loc 118) .nil)) (.k (.int 32))) .nil)) (.loc 118)
def DN:S:=.seq (.ret (.Al (.k (.str [])) 2 (.cons (.lcm 118 [] (.loc 311) (.k (.Ae true)) Pc) .nil) [])) .skip
def GY(c:Nat):Nat:=if 65<=c/\c<=90 then c+32 else c
def wx(a b:Nat):Hq [a] [b]=decide (a<b):=by
 change(Bool.rec (Bool.rec false (Hq [] []) (beq a b)) true (Nat.blt a b):Bool)=_;cases h:Nat.blt a b with
 |true=>show(Zr (cb h)).symm
 |false=>
  have:¬a<b:=λq=>by have:Nat.blt a b=true:=Nat.ble_eq.mpr q;replace this:=h▸this;cases this
  rw[Zs this];cases beq a b<;>rfl
def adL(h:F [.c (.str [GY c])] ⟨[(118,.c (.str [c]))],H,m,false⟩)(u:c<128):SU g0 Pc ⟨[(118,.c (.str [c]))],H,m,false⟩ F:=by
 unfold GY at h
 conv=>whnf
 show bh (λq=>?_) λq=>?_
 ·have q:=q;rw[wx]at q
  conv=>whnf
  show bh (λp=>?_) λp=>?_
  ·have p:=p;rw[wx]at p
   conv=>whnf
   show⟨⟨by show Int.zero_le_ofNat (c+32),by lia⟩,?_⟩;rw[Zk ⟨by show XR (ZA (Z8 _▸q)),by show XR (ZA (Z8 _▸p))⟩]at h;rw[←(YS (Nat.add_succ c 31))]at h;show h
  ·have p:=p;rw[wx]at p;have p:=Zm (iD p);rw[Zi (by lia)]at h;show h
 ·have q:=q;rw[wx]at q;rw[Zi (by lia)]at h;show h
def pz{K:TC}:∀(l j:WJ),(∀c∈l,c<128)->j.length+l.length<=16777216->(∀U,Ce (.lst ((j++l.map GY).map λc=>.str [c])) ⟨U,H,m,false⟩ K)->∀L,
  I2 118 [] (SU g0 (.k (.Ae true))) (SU g0 Pc) (l.map λc=>.str [c]) (j.map λc=>.str [c]) ⟨L,H,m,false⟩ K
 | [],j,_,_,hk,L=>by
  have:=hk L;rw[List.map_nil,Zu]at this;show this
 |c::l,j,hc,hl,hk,L=>by
  rw[Zj]at hl;show adL ?_ (hc c (.head _));show aa rfl ⟨by rw[ZD];lia,?_⟩;have e:(j.map λc=>FV.str [c])++[.str [GY c]]=(j++[GY c]).map λc=>.str [c]:=by rw[Z7];rfl
  rw[e];show pz l (j++[GY c]) (λx P=>hc x (.tail _ P)) (by rw[Zg,Zj,ZW];lia) (λU=>?_) _;have:=hk U;rw[Ye, ←List.singleton_append, ←Zo]at this;show this
def DE(l:WJ):WJ:=l.map GY
def DS:Aq:=λu z H k=>∃l:WJ,u=[.c (.str l)]/\z=[]/\((∀c∈l,c<128)/\l.length<=100000)/\((lo H).all λp=>Dc p.2)=true/\k (.c (.str (DE l))) (lo H)
def el(l:WJ):B0 [] (l.map λc=>.str [c])=some l:=by
 induction l with
 |nil=>rfl
 |cons c l Q=>
  cases l with
  |nil=>rfl
  |cons b l=>
   rw[show B0 [] ((c::b::l).map λc=>.str [c])=Option.rec none (λr=>some ([c]++[]++r)) (B0 [] ((b::l).map λc=>.str [c])) from rfl,Q];rfl
def jL(xs kws H k)(h:DS xs kws H k):Ab (Ah [311] xs kws) λN=>ex g0 DN ⟨N,H,64,false⟩ (fin k):=by
 obtain⟨l,rfl,rfl,⟨u,a⟩,y,D⟩:=h
 conv=>whnf
 show pz l [] u (by rw[ZW];lia) (λU=>?_) _
 conv=>whnf
 show aa (el _) ?_;show⟨?_,?_⟩
 ·rw[ZD];change l.length+l.length*0+0<=16777216;lia
 ·show yN y D
def BV(n:WJ):Prop:=(∀c∈n,c<128)/\n.length<=100000
def JI:List (Nat×Aq):=(42,DS)::Cm
def SQ:G:=Ax JI
def IH:Aq:=λu z H k=>∃J st q tb y n O,u=[.ob 1]/\z=[]/\H=Hp J ⟨st,.live y n O,some q,tb⟩/\q.length<=1000/\BV n/\k (.c .Ak) (Hp J ⟨304,.AM y (DE n) O,some (q++[.An (EO y (DE n) O)]),tb⟩)
def Bh:S:=.seq (.Aj 312 (.Bb (.loc 292) 144)) (.seq (.iff (.cmp 8 (.sub (.loc 312) (.k (.str Tg))) (.BR (.c (.tup [.int 3,.int 4,.int 5])))) (.seq (.Jk (.loc 312) (.k (.str Ti)) (.call 42 (.cons (.sub (.loc 312) (.k (.str Ti))) .nil))) (.seq (.iff (.cmp 0 (.sub (.loc 312) (.k (.str Tg))) (.sub (.BR Ad) (.k (.str Tc)))) (.seq (.Aj 251 (.sub (.loc 312) (.k (.str Th)))) (.seq (.Aj 145 (.fn 4 (.cons (.loc 251) .nil))) (.seq (.iff (.cmp 4 (.fn 0 (.cons (.loc 251) .nil)) (.fn 0 (.cons (.loc 145) .nil))) (.seq (.ex (.Al (.loc 145) 12 (.cons .bad .nil) [])) .skip) .skip) (.seq (.Jk (.loc 312) (.k (.str Th)) (.loc 145)) .skip)))) .skip) (.seq (.iff (.cmp 0 (.sub (.loc 312) (.k (.str Tg))) (.sub (.BR Ad) (.k (.str Td)))) (.seq (.iff (.sub (.loc 312) (.k (.str Th))) (.seq (.ex (.Al (.Bb (.loc 292) 313) 0 (.cons (.An (.cons (.k (.str Tg)) (.cons (.sub (.BR Ad) (.k (.str Tf))) (.cons (.k (.str Th)) (.cons (.k (.str (SV 0x6761742d646e652d6e692d73657475626972747461))) .nil))))) .nil) [])) .skip) .skip) (.seq (.iff (.sub (.loc 312) (.k (.str Tj))) (.seq (.ex (.Al (.Bb (.loc 292) 313) 0 (.cons (.An (.cons (.k (.str Tg)) (.cons (.sub (.BR Ad) (.k (.str Tf))) (.cons (.k (.str Th)) (.cons (.k (.str (SV 0x6761742d646e652d6e6f2d67616c662d676e69736f6c632d666c6573))) .nil))))) .nil) [])) .skip) .skip) .skip)) .skip) .skip))) .skip) (.seq (.ex (.Al (.Bb (.loc 292) 313) 0 (.cons (.loc 312) .nil) [])) (.seq (.Bi (.loc 292) 302 (.Bb (.loc 292) 146)) .skip)))
def aa6(xs kws H k)(h:IH xs kws H k):Ab (Ah [292] xs kws) λN=>ex SQ Bh ⟨N,H,64,false⟩ (fin k):=by
 show bg h λJ st q tb y n O A Q g SG j D=>?_;clear h;subst A Q g;cases y<;>cases tb<;>
 ·conv=>whnf
  show(fL n rfl rfl j rfl ?_)
  conv=>whnf
  show⟨by lia,?_⟩;show jB J _ D
abbrev C2(x:WJ):FV:=Hz 7 x
abbrev CM:WJ:=Tp
def y5(h:a=true)(k:b=true):and a b=true:=by rw[h,k];rfl
def iK(h:Cn [c] [x]=v):decide (c=x)=v:=by
 rw[←h,aE];simp
def View.nil(v:View J d r e m):View J (d++[]) r e m:=by rw[Zu];show v
def DJ(ct:Ct):Prop:=ct=.no\/∃y n O,ct=.AM y n O
noncomputable def ds(y:Bool)(e:X):X:=.An (.cons (.k (.str Dp)) (.cons (.sub (.BR Ad) (.k (.str (Bool.rec Tc Td y)))) (.cons (.k (.str HP)) (.cons e (.cons (.k (.str Cq)) (.cons (.lst .nil) (.cons (.k (.str NN)) (.cons (.k (.Ae false))
 (Bool.rec (.cons (.k (.str NO)) (.cons (.k (.Ae false)) .nil)) .nil y)))))))))
def Ko(y:Bool)(e:X):S:=.Kl (.loc 292) 144 (ds y e)
section
variable {tab:List (Nat×Aq)}{l:Tw}{J:Sm}{t:Tm}{k:V->Tx->Prop}{st:Nat}{ct:Ct}{q:Tz}{tb:TK}{b:S}{u:WJ}
def GX(tab:List (Nat×Aq))(x:S)(l:Tw)(J:Sm)(t:Tm)(k:V->Tx->Prop):Prop:=∀K,CK K k->ex (Ax tab) x ⟨(292,.ob 1)::l,Hp J t,64,false⟩ K
def ig(h:Sx 292 l=none):SA l J t ⟨(292,.ob 1)::l,Hp J t,64,false⟩:=
 ⟨rfl,λn v e=>(aq _ _ _).trans ((Zi λz=>aw (h.symm.trans (z▸e))).trans e),bZ _ _,Zq _⟩
def GA.x{x:S}(h:GA tab x l J t k)(D:Sx 292 l=none):GX tab x l J t k:=λZ a=>h _ _ (ig D) a
def gU(D:Sx 292 l=none)(f:Et tab c l J t (.c (.Ae p)))(U:p=true->GX tab x l J t k)(N:p=false->GX tab y l J t k):GX tab (.seq (.iff c x y) .skip) l J t k:=λZ a=>
 bE (f _ _ (ig D) (aa rfl (bh (λh=>U h _ a.skip) λh=>N h _ a.skip)))
def zQ{K:TB}(h:SU g e s (one λv s=>SU g o s (one λo s=>GP g o n v s λs=>ex g b s K))):ex g (.seq (.Kl o n e) b) s K:=h
def mE(A:DJ ct)(a:(l.all λq=>E8 DW q.2)=true)(j:Sx 292 l=none)(N:∀F,F (.c (.str u)) ⟨(292,.ob 1)::l,Hp J ⟨st,ct,some q,tb⟩,64,false⟩->SU (Ax tab) e ⟨(292,.ob 1)::l,Hp J ⟨st,ct,some q,tb⟩,64,false⟩ (one F))(h:GA tab b l J ⟨st,.live y u false,some q,tb⟩ k):
  GX tab (.seq (Ko y e) b) l J ⟨st,ct,some q,tb⟩ k:=by
 intro K i;have go:∀H,lo H=Hp J ⟨st,.live y u false,some q,tb⟩->ex (Ax tab) b ⟨(292,.ob 1)::l,H,66,false⟩ K:=λH f=>h _ _ ⟨rfl,(ig (J:=J) (t:=⟨st,ct,some q,tb⟩) j).L,f,ZR 64 2⟩ i;have D:∀ {s:St} {F:TC},F (.c (.int (Bool.rec 3 4 y))) s->DO Ad (.c (.str (Bool.rec Tc Td y))) s F:=λh=>by
  cases y
  ·show dI rfl h
  ·show dI rfl h
 rcases A with rfl|⟨P,O,g,rfl⟩<;>cases tb<;>cases y<;>
 ·show zQ (gb (ah (aQ (ah (bK (bB (aQ (D (ah (aQ (ah (N _ ?_))))))))))))
  first
   |show go _ rfl
   |show aW (y5 rfl (y5 a rfl)) (go _ rfl)
section
variable {d r:WJ}{e m:Nat}{z:Prop}{c B fa:Nat}{v:V}
def lH{a:S}(N:B9 tab 133=Fg)(D:Sx 292 l=none)(w:View J d r e m)(i:r=[]->∀Z,Rd d e m (J.off=J.size) Z [] []->GX tab (.seq a .skip) (put 145 (.c .Ak) l) Z t k)
  (s:∀c f,r=c::f->∀Z,Rd d e m (J.off=J.size) Z [c] f->0<Z.off->GX tab (.seq a .skip) (put 145 (.c (.str [c])) l) Z t k):ex (Ax tab) (.seq Kp (.seq a Mj)) ⟨(292,.ob 1)::l,Hp J t,64,false⟩ (fin k):=by
 have Q:SA l J t ⟨(292,.ob 1)::l,Hp J t,64,false⟩:=ig D;show aG (aJ (ba (aj (aa Q.o (aP Q.DH rfl rfl (aa (Q.Al rfl rfl) (au (eR (eh J t rfl rfl rfl ?_)))))))));change B9 tab 133 _ _ _ _;rw[N];have g:∀v,put 145 v ((292,V.ob 1)::l)=(292,.ob 1)::put 145 v l:=λv=>(fu _ _ _ _).trans (Zi (by ext));show(bJ J t d r e m rfl rfl rfl w λZ A O a b y=>?_);cases r with
 |nil=>
  intro P;have h:=i rfl Z ⟨A,O,a,b,y,P.nil⟩ _ (fY (tab:=tab));rw[←g]at h;show dB h
 |cons c r=>
  intro P U;have h:=s c r rfl Z ⟨A,O,a,b,y,P⟩ U _ (fY (tab:=tab));rw[←g]at h;show dB h
def Et.and{a b:X}{p q:Bool}(f:Et tab a l J t (.c (.Ae p)))(P:Et tab b l J t (.c (.Ae q))):Et tab (.and a b) l J t (.c (.Ae (p&&q))):=λs F Q h=>gK (f s _ Q (aa rfl (by
 cases p
 ·show bH rfl h
 ·show aW rfl (P s _ Q h))))
def yK{q:Option Tz}(e:GQ x B)(h:k (.c (.Ae true)) (Hp J ⟨B,ct,q,tb⟩)):GA tab (.seq (Cv x) .skip) l J ⟨st,ct,q,tb⟩ k:=kM e.1 e.2 (bp h)
def cy(A:GQ x B)(g:Rd d e m z J y r)(D:Out.ok ct k d e m z ⟨true,B,tb,q,y,r,ct⟩):GA tab (.seq (Cv x) .skip) l J ⟨st,ct,some q,tb⟩ k:=yK A (g.fin D)
def tN(N:B9 tab 163=Dk)(U:Sx 145 l=some (.c (.str [c])))(A:GQ x B)(g:Rd d e m z J [c] r)(j:0<J.off)(D:Out.ok ct k d e m z ⟨true,B,tb,q,[],c::r,ct⟩):GA tab (.seq Jn (.seq (Cv x) .skip)) l J ⟨st,ct,some q,tb⟩ k:=
 have h:=g.ir j
 tM U h.1 h.2.1 (cy A h.2.2 D) N
def tO(N:B9 tab 163=Dk)(U:Sx 145 l=some (.c .Ak))(A:GQ x B)(g:Rd d e m z J [] [])(D:Out.ok ct k d e m z ⟨true,B,tb,q,[],[],ct⟩):GA tab (.seq Jn (.seq (Cv x) .skip)) l J ⟨st,ct,some q,tb⟩ k:=tL U (cy A g D) N
end
end
def Cb(ct:Ct)(tb:TK)(r:WJ):Out:=match r with
 | []=>⟨true,304,tb,[C2 CM,BM [60]],[],[],ct⟩
 |c::r=>if c=47 then⟨true,360,tb,[],[c],r,ct⟩else
  if c∈AW then⟨true,367,tb,[],[c],r,.live false [c] false⟩else
  ⟨true,304,tb,[C2 CM,BM [60]],[],c::r,ct⟩
def HE:Aq:=Fx 353 Cb λct Z r=>DJ ct/\∀c a,r=c::a->c≠33/\c≠62/\c≠63
abbrev kk(x:WJ):X:=.k (.str x)
def Ol:S:=.seq (.iff (EP 62) (.seq (Ee GL (kk (SV 0x74656b636172622d74686769722d746f672d7475622d656d616e2d6761742d6465746365707865))) (.seq (Ee HQ (kk [60,62])) (.seq (Cv 146) .skip)))
 (.seq (.iff (EP 63) (.seq (Ee GL (kk (SV 0x6b72616d2d6e6f6974736575712d746f672d7475622d656d616e2d6761742d6465746365707865))) (.seq Jn (.seq (Cv 116) .skip))) (.seq (Ee GL (kk CM)) (.seq (Ee HQ (kk [60])) (.seq Jn (.seq (Cv 146) .skip))))) .skip)) .skip
def Bs:S:=wh (.iff (EP 33) (.seq (Cv 207) .skip) (.seq (.iff (EP 47) (.seq (Cv 132) .skip) (.seq (.iff Iy (.seq (Ko false (.loc 145)) (.seq (Cv 306) .skip)) Ol) .skip)) .skip))
def qC(xs kws H k)(h:HE xs kws H k):Ab (Ah [292] xs kws) λN=>ex SQ Bs ⟨N,H,64,false⟩ (fin k):=by
 show bg h λJ ct tb d r e m A Q f v y D=>?_;subst A Q f;obtain⟨hi,C⟩:=y;replace D:=λa w O p U P=>D a w O p U λZ=>P;show aa rfl (lH rfl rfl v ?_ ?_)
 ·rintro rfl a g;show GA.x (az (dy rfl) (λh=>nomatch h) λZ=>az (dy rfl) (λh=>nomatch h) λZ=>az (qZ rfl) (λh=>nomatch h) λZ=>az (dy rfl) (λh=>nomatch h) λZ=>az (dy rfl) (λh=>nomatch h) λZ=>
   bo rfl rfl eS (bo rfl rfl eS (tO rfl rfl ⟨rfl,rfl⟩ g D))) rfl
 ·rintro c r rfl a g j;show cu (C c r rfl) λn x E=>?_;have D:Out.ok ct k d e m (J.off=J.size) (Cb ct tb (c::r)):=D;show gU rfl (cW rfl) (λh=>T4 (Zm h) n) λZ=>gU rfl (cW rfl) (λh=>(cy ⟨rfl,rfl⟩ g (Out.pos D h)).x rfl) λh=>gU rfl (q8 rfl)
   (λi=>mE hi rfl rfl (λF o=>aj (aa rfl o)) (cy ⟨rfl,rfl⟩ g (Out.pos (Out.neg D h) i))) λi=>
   (az (cW rfl) (λh=>T4 (Zm h) x) λZ=>az (cW rfl) (λh=>T4 (Zm h) E) λZ=>bo rfl rfl eS (bo rfl rfl eS (tN rfl rfl ⟨rfl,rfl⟩ g j (Out.neg (Out.neg D h) i)))).x rfl
abbrev Dl:WJ:=Tq
abbrev BX:WJ:=Tr
abbrev F7:WJ:=Ts
abbrev Dm:WJ:=Tt
abbrev Dg:WJ:=Tu
abbrev J6:WJ:=Tv
abbrev Hb(x:WJ)(c:Nat):FV:=.An [(Dp,.int 7),(Cq,.str x),(J6,.An [(Cq,.str [c])])]
def RH:Tz:=[.str [9],.str [10],.str [12],.str [32],.str [13]]
def BQ:List (Nat×Aq):=(297,IH)::JI
def SN:G:=Ax BQ
def IU:Out:=⟨false,0,none,[],[],[],.no⟩
def ME:S:=.ex (.Al (.loc 292) 158 .nil [])
def Qs(e:X):S:=.Kk (.Bb (.loc 292) 144) (.k (.str HP)) 0 e
def Rx(x:WJ):X:=.An (.cons (.k (.str Dp)) (.cons (.sub (.BR Ad) (.k (.str GL))) (.cons (.k (.str Cq)) (.cons (.k (.str x)) (.cons (.k (.str J6)) (.cons (.An (.cons (.k (.str Cq)) (.cons (.loc 145) .nil))) .nil))))))
def Rm(x:WJ):S:=.ex (.Al (.Bb (.loc 292) 313) 0 (.cons (Rx x) .nil) [])
section
variable {l:Tw}{J:Sm}{k:V->Tx->Prop}{st:Nat}{ct:Ct}{q:Tz}{tb:TK}{b:S}{en sc:Bool}{n:WJ}{c:Nat}
def SA.h32(h:SA l J ⟨st,.live en n sc,some q,tb⟩ s):Sx 32 s.H=some (.An ((JH en n sc).map λp=>(p.1,.c p.2))):=by
 have:=eg 32 s.H;rw[h.H,Zk (by ext)]at this;show this.symm
def zB(U:Sx i s.H=some (.An y))(N:sel a y=some v)(h:F v s):DO (.ob i) (.c (.str a)) s F:=aa rfl (aa U (aa rfl (aa N h)))
def ry(U:Sx i s.H=some (.An y))(N:ble y.length 900=true)(h:F (As s (put i (.An (Gu a v y)) s.H))):El (.ob i) (.c (.str a)) v s F:=aa rfl (aa rfl (aa U (aa rfl (aW N h))))
def oU(SG:q.length<=1000)(j:BV n)(h:GA BQ b l J ⟨304,.AM en (DE n) sc,some (q++[.An (EO en (DE n) sc)]),tb⟩ k):GA BQ (.seq ME b) l J ⟨st,.live en n sc,some q,tb⟩ k:=by
 intro s K Q u;show d3 (aJ (aj (aa Q.o (aa (show C4 (Ax BQ) (.ob 1) 158 [] s=some (.fn 297 (.ob 1)) from kz Q.DH (ny _ rfl) rfl) (au (eR (dE J _ rfl rfl Q.H (bk J st q tb en n sc rfl rfl rfl SG j (h _ _ (Q.call J _) u)))))))))
def ady(g:Sx 145 l=some (.c (.str [c])))(f:n.length<=100000)(h:GA BQ b l J ⟨st,.live en (n++[c]) sc,some q,tb⟩ k):GA BQ (.seq (Qs (.loc 145)) b) l J ⟨st,.live en n sc,some q,tb⟩ k:=by
 intro s K Q u;have j:∀ {x:AO},put 32 x (Hp J ⟨st,.live en n sc,some q,tb⟩)=Hp J ⟨st,.live en (n++[c]) sc,some q,tb⟩->lo (put 32 x s.H)=Hp J ⟨st,.live en (n++[c]) sc,some q,tb⟩:=λe=>by rw[dM (by ext),Q.H,e]
 have go:BI (Ax BQ) (.Bb (.loc 292) 144) s (λo s=>BI (Ax BQ) (.k (.str HP)) s λi s=>DO o i s λa s=>BI (Ax BQ) (.loc 145) s λy s=>Es 0 a y s λv s=>El o i v s λs=>ex (Ax BQ) b s K):=by
  show ba (aj (aa Q.o (aP Q.DH (show Sx 144 (R9 ⟨st,.live en n sc,some q,tb⟩)=some (.ob 32) from rfl) rfl ?_)));cases en<;>
  ·show aQ (zB Q.h32 rfl (aj (aa (Q.L _ _ g) (aaI (by change n.length+1<=_;lia) (ry Q.h32 rfl (h _ _ ⟨Q.o,Q.L,j rfl,Q.m⟩ u))))))
 show go
def adA(h:HS H z=some (f,Q)):HR [(N,.c x),(u,.c y),(g,z)] H=some ([(N,x),(u,y),(g,f)],Q):=by
 change BK (BK (Af (HS H z) _) _) _=_;rw[h];rfl
def adw(g:Sx 145 l=some (.c (.str [c])))(SG:q.length<=1000)(h:GA BQ b l J ⟨st,ct,some (q++[Hb x c]),tb⟩ k):GA BQ (.seq (Rm x) b) l J ⟨st,ct,some q,tb⟩ k:=by
 intro s K Q u;have O:=Q.m;show d3 (aJ (ba (aj (aa Q.o (aP Q.DH rfl rfl (aa (cw Q.tK rfl) (ah (gb (ah (aQ (ah (bK (bB (aQ (dI rfl (ah (aQ (ah (aQ (ah (aQ (ah (gb (ah (aQ (ah (aj (aa (Q.L _ _ g) (au (aa rfl (gc (au (aa rfl (gc (au ?_)))))))))))))))))))))))))))))))))));have P:Av ((s.m+1,AO.An [(Dp,.c (.int 7)),(Cq,.c (.str x)),(J6,.ob s.m)])::(s.m,.An [(Cq,.c (.str [c]))])::s.H) (.ob (s.m+1))=some (Hb x c,(s.m+1,.Av (Hb x c))::(s.m,.Av (.An [(Cq,.str [c])]))::s.H):=by
  have D:HS ((s.m+1,AO.An [(Dp,.c (.int 7)),(Cq,.c (.str x)),(J6,.ob s.m)])::(s.m,.An [(Cq,.c (.str [c]))])::s.H) (.ob s.m)=some (.An [(Cq,.str [c])],put s.m (.Av (.An [(Cq,.str [c])])) ((s.m+1,AO.An [(Dp,.c (.int 7)),(Cq,.c (.str x)),(J6,.ob s.m)])::(s.m,.An [(Cq,.c (.str [c]))])::s.H)):=by
   change Af (Sx s.m _) _=_;rw[show Sx s.m ((s.m+1,AO.An [(Dp,.c (.int 7)),(Cq,.c (.str x)),(J6,.ob s.m)])::(s.m,.An [(Cq,.c (.str [c]))])::s.H)=some (.An [(Cq,.c (.str [c]))]) from(p7 (Nat.ne_add_one s.m)).trans sM];rfl
  unfold Av;dsimp only;rw[show Sx (s.m+1) ((s.m+1,AO.An [(Dp,.c (.int 7)),(Cq,.c (.str x)),(J6,.ob s.m)])::(s.m,.An [(Cq,.c (.str [c]))])::s.H)=some (.An [(Dp,.c (.int 7)),(Cq,.c (.str x)),(J6,.ob s.m)]) from sM];change BK (HR _ _) _=_;rw[adA D];change some (Hb x c,put (s.m+1) (.Av (Hb x c)) (put s.m (.Av (.An [(Cq,.str [c])])) ((s.m+1,AO.An [(Dp,.c (.int 7)),(Cq,.c (.str x)),(J6,.ob s.m)])::(s.m,.An [(Cq,.c (.str [c]))])::s.H)))=_;rw[fu,Zi (show¬s.m=s.m+1 by show Nat.ne_add_one s.m),fu,Zk rfl,fu,Zk rfl]
 show gf (i:=5) (l0:=q) (l:=q) ((p7 (by lia)).trans ((p7 (by lia)).trans Q.tK)) P (show Sx 5 ((s.m+1,AO.Av (Hb x c))::(s.m,.Av (.An [(Cq,.str [c])]))::s.H)=some (.lst q) from(p7 (by lia)).trans ((p7 (by lia)).trans Q.tK)) (ZX (by lia)) (h _ _ ⟨Q.o,Q.L,?_,Y4 (Y4 Q.m)⟩ u);change lo (put 5 _ ((s.m+1,AO.Av (Hb x c))::(s.m,.Av (.An [(Cq,.str [c])]))::s.H))=_;rw[dM (by ext),b7,Zi (show¬s.m+1<64 by lia),b7,Zi (show¬s.m<64 by show YN.mpr O),Q.H];rfl
end
def BC(ct:Ct)(tb:TK)(r:WJ):Out:=match r with
 | []=>⟨true,304,tb,[C2 Dl,BM [60,47]],[],[],ct⟩
 |c::r=>if c∈AW then⟨true,367,tb,[],[c],r,.live true [c] false⟩else⟨true,598,tb,[Hb BX c],[],c::r,ct⟩
def Ff:Aq:=Fx 360 BC λct Z r=>DJ ct/\∀c u,r=c::u->c≠62
abbrev JM:X:=.cmp 6 (.loc 145) (.BR (.c .Ak))
def Oo:S:=.seq (.iff (EP 62) (.seq (Ee GL (kk (SV 0x74656b636172622d74686769722d746f672d7475622d6761742d676e69736f6c632d6465746365707865))) (.seq (Cv 146) .skip))
 (.seq (.iff JM (.seq (Ee GL (kk Dl)) (.seq (Ee HQ (kk [60,47])) (.seq (Cv 146) .skip))) (.seq (Rm BX) (.seq Jn (.seq (Cv 116) .skip)))) .skip)) .skip
def Bf:S:=wh (.iff Iy (.seq (Ko true (.loc 145)) (.seq (Cv 306) .skip)) Oo)
def hV(xs kws H k)(h:Ff xs kws H k):Ab (Ah [292] xs kws) λN=>ex SN Bf ⟨N,H,64,false⟩ (fin k):=by
 show bg h λJ ct tb d r e m A Q a v y D=>?_;subst A Q a;obtain⟨hi,u⟩:=y;replace D:=λi p O o U P=>D i p O o U λZ=>P;show aa rfl (lH rfl rfl v ?_ ?_)
 ·rintro rfl i g;show GA.x (az (qZ rfl) (λh=>nomatch h) λZ=>az (dy rfl) (λh=>nomatch h) λZ=>az (j5 rfl rfl) (λZ=>bo rfl rfl eS (bo rfl rfl eS (cy ⟨rfl,rfl⟩ g D))) λh=>nomatch h) rfl
 ·rintro c r rfl i g j;have D:=D;show gU rfl (q8 rfl) (λf=>mE hi rfl rfl (λF z=>aj (aa rfl z)) (cy ⟨rfl,rfl⟩ g (Out.pos D f))) λf=>
   GA.x (az (cW rfl) (λh=>T4 (Zm h) (u c r rfl)) λZ=>az (j5 rfl rfl) (λh=>nomatch h) λZ=>adw rfl (ZF _) (tN rfl rfl ⟨rfl,rfl⟩ g j (Out.neg D f))) rfl
def Cc(ct:Ct)(tb:TK)(r:WJ):Out:=match ct with
 | .live en n sc=>match r with
  | []=>⟨true,304,tb,[C2 F7],[],[],ct⟩
  |c::r=>if c∈Dj then⟨true,535,tb,[],[c],r,ct⟩else
   if c=62 then⟨true,304,tb,[.An (EO en (DE n) sc)],[c],r,.AM en (DE n) sc⟩else
   if c=47 then⟨true,591,tb,[],[c],r,ct⟩else⟨true,367,tb,[],[c],r,.live en (n++[c]) sc⟩
 |_=>IU
def HF:Aq:=Fx 367 Cc λct Z r=>(∃en n sc,ct=.live en n sc/\BV n)/\∀c u,r=c::u->c≠0
def Bt:S:=wh (.iff Iw (.seq (Cv 107) .skip) (.seq (.iff (EP 62) (.seq ME .skip) (.seq (.iff JM (.seq (Ee GL (kk F7)) (.seq (Cv 146) .skip)) (.seq (.iff (EP 47) (.seq (Cv 293) .skip) (.seq (.iff (EP 0) (.seq (Ee GL (kk To)) (.seq (Qs (kk [65533])) .skip)) (.seq (Qs (.loc 145)) .skip)) .skip)) .skip)) .skip)) .skip))
def qD(xs kws H k)(h:HF xs kws H k):Ab (Ah [292] xs kws) λf=>ex SN Bt ⟨f,H,64,false⟩ (fin k):=by
 show fj rfl (λct tb k d e m z J r u D=>?_) xs kws H k h;obtain⟨⟨en,n,sc,rfl,j⟩,a⟩:=u;cases r with
 |nil=>show λg=>az (zo rfl rfl) (λh=>nomatch h) λZ=>az (dy rfl) (λh=>nomatch h) λZ=>az (j5 rfl rfl) (λZ=>bo rfl rfl eS (cy ⟨rfl,rfl⟩ g D)) λh=>nomatch h
 |cons c r=>
  show λg Z=>az (vb rfl rfl) (λh=>cy ⟨rfl,rfl⟩ g (Out.pos D h)) λU=>az (cW rfl) (λh=>oU (ZF _) j (bp (g.fin (Out.pos (Out.neg D U) h)))) λN=>az (j5 rfl rfl) (λh=>nomatch h) λZ=>
   az (cW rfl) (λh=>cy ⟨rfl,rfl⟩ g (Out.pos (Out.neg (Out.neg D U) N) h)) λi=>az (cW rfl) (λh=>T4 (Zm h) (a c r rfl)) λZ=>ady rfl j.2 (bp (g.fin (Out.neg (Out.neg (Out.neg D U) N) i)))
def DV(ct:Ct)(tb:TK)(r:WJ):Out:=match ct with
 | .live en n sc=>match r with
  | []=>⟨true,304,tb,[C2 Dm],[],[],ct⟩
  |c::r=>⟨true,304,tb,[.An (EO en (DE n) sc)],[c],r,.AM en (DE n) sc⟩
 |_=>IU
def IJ:Aq:=Fx 535 DV λct Z r=>(∃en n sc,ct=.live en n sc/\BV n)/\∀c u,r=c::u->c=62
def O2(e:X):S:=.ex (.Al (.sub (.Bb (.loc 292) 144) (.k (.str Cq))) 0 (.cons (.lst (.cons e (.cons (kk []) .nil))) .nil) [])
def Ou:S:=.seq (.iff (EP 0) (.seq (Ee GL (kk To)) (.seq (O2 (kk [65533])) (.seq (Cv 101) .skip))) (.seq (.iff JM (.seq (Ee GL (kk Dm)) (.seq (Cv 146) .skip)) (.seq (O2 (.loc 145)) (.seq (Cv 101) .skip))) .skip)) .skip
def Ov:S:=.seq (.iff (.cmp 8 (.loc 145) (.tup (.cons (kk [39]) (.cons (kk [34]) (.cons (kk [61]) (.cons (kk [60]) .nil)))))) (.seq (Ee GL (kk (SV 0x656d616e2d6574756269727474612d6e692d7265746361726168632d64696c61766e69))) (.seq (O2 (.loc 145)) (.seq (Cv 101) .skip))) Ou) .skip
def AG:S:=wh (.iff Iw (.seq (.ex (Hy (.cons (.BR (.c NX)) (.cons (.k (.Ae true)) .nil)))) .skip) (.seq (.iff Iy (.seq (O2 (.loc 145)) (.seq (Cv 101) .skip)) (.seq (.iff (EP 62) (.seq ME .skip) (.seq (.iff (EP 47) (.seq (Cv 293) .skip) Ov) .skip)) .skip)) .skip))
def uo(xs kws H k)(h:IJ xs kws H k):Ab (Ah [292] xs kws) λN=>ex SN AG ⟨N,H,64,false⟩ (fin k):=by
 show fj rfl (λct tb k d e m z J r u D=>?_) xs kws H k h;obtain⟨⟨en,n,sc,rfl,j⟩,f⟩:=u;cases r with
 |nil=>
  show λg=>az (zo rfl rfl) (λh=>nomatch h) λZ=>az (qZ rfl) (λh=>nomatch h) λZ=>az (dy rfl) (λh=>nomatch h) λZ=>az (dy rfl) (λh=>nomatch h) λZ=>az (show Et BQ (.cmp 8 (.loc 145) (.tup (.cons (kk [39]) (.cons (kk [34]) (.cons (kk [61]) (.cons (kk [60]) .nil)))))) [(145,.c .Ak)] J ⟨535,.live en n sc,some [],tb⟩ (.c (.Ae false)) from λs F Q h=>aH (aj (aa (Q.L 145 (.c .Ak) rfl) (dW (ah (aQ (ah (aQ (ah (aQ (ah (aQ (au (aa (a:=([.str [39],.str [34],.str [61],.str [60]],s.H)) rfl (aW rfl (dt (zu rfl h))))))))))))))))) (λh=>nomatch h) λZ=>az (dy rfl) (λh=>nomatch h) λZ=>
   az (j5 rfl rfl) (λZ=>bo rfl rfl eS (cy ⟨rfl,rfl⟩ g D)) λh=>nomatch h
 |cons c r=>
  obtain rfl:=f c r rfl;show λg Z=>az (vb rfl rfl) (λh=>nomatch h) λZ=>az (q8 rfl) (λh=>nomatch h) λZ=>az (cW rfl) (λZ=>oU (ZF _) j (bp (g.fin D))) λh=>nomatch h
def EZ(ct:Ct)(tb:TK)(r:WJ):Out:=match ct with
 | .live en n _=>match r with
  | []=>⟨true,304,tb,[C2 Dg],[],[],ct⟩
  |c::r=>⟨true,304,tb,[.An (EO en (DE n) true)],[c],r,.AM en (DE n) true⟩
 |_=>IU
def JQ:Aq:=Fx 591 EZ λct Z r=>(∃n sc,ct=.live false n sc/\BV n)/\∀c u,r=c::u->c=62
def AE:S:=wh (.iff (EP 62) (.seq (.Jk (.Bb (.loc 292) 144) (.k (.str NN)) (.k (.Ae true))) (.seq ME .skip)) (.seq (.iff JM (.seq (Ee GL (kk Dg)) (.seq Jn (.seq (Cv 146) .skip)))
 (.seq (Ee GL (kk (SV 0x6761742d6e692d737564696c6f732d72657466612d7265746361726168632d64657463657078656e75))) (.seq Jn (.seq (Cv 107) .skip)))) .skip))
def xc(xs kws H k)(h:JQ xs kws H k):Ab (Ah [292] xs kws) λN=>ex SN AE ⟨N,H,64,false⟩ (fin k):=by
 show fj rfl (λct tb k d e m z J r u D=>?_) xs kws H k h;obtain⟨⟨n,sc,rfl,j⟩,a⟩:=u;cases r with
 |nil=>show λg=>az (dy rfl) (λh=>nomatch h) λZ=>az (j5 rfl rfl) (λZ=>bo rfl rfl eS (tO rfl rfl ⟨rfl,rfl⟩ g D)) λh=>nomatch h
 |cons c r=>
  obtain rfl:=a c r rfl;show λg Z=>az (cW rfl) (λZ=>?_) λh=>nomatch h;intro s K Q u;have go:BI (Ax BQ) (.k (.Ae true)) s (λv s=>BI (Ax BQ) (.Bb (.loc 292) 144) s λo s=>BI (Ax BQ) (.k (.str NN)) s λi s=>El o i v s λs=>ex (Ax BQ) (.seq ME .skip) s K):=
   aQ (ba (aj (aa Q.o (aP Q.DH (show Sx 144 (R9 ⟨591,.live false n sc,some [],tb⟩)=some (.ob 32) from rfl) rfl (aQ (ry Q.h32 rfl (oU (ZF _) j (bp (g.fin D)) _ _ ⟨Q.o,Q.L,(show∀ {x:AO},put 32 x (Hp J ⟨591,.live false n sc,some [],tb⟩)=Hp J ⟨591,.live false n true,some [],tb⟩->lo (put 32 x s.H)=Hp J ⟨591,.live false n true,some [],tb⟩ from λe=>by rw[dM (by ext),Q.H,e]) rfl,Q.m⟩ u)))))))
  show go
def nQ:∀ {l:WJ},x∉l->AQ [x] [y] 0 l=l
 | [],_=>rfl
 |c::l,h=>by
  have n1:¬[x].isPrefixOf (c::l)=true:=by
   simp only[List.isPrefixOf,Bool.and_true,Yw];show λe=>h (e▸ .head _)
  rw[dC n1,nQ λz=>h (.tail _ z)]
abbrev JG(x:WJ):FV:=Hz 6 x
def E0(ct:Ct)(tb:TK)(r:WJ):Out:=⟨true,304,tb,[JG (AJ [62] r)],AJ [62] r++(Fq [62] r).take 1,(Fq [62] r).drop 1,ct⟩
def JV:Aq:=O3 false 598 E0 λct Z r=>DJ ct/\0∉AJ [62] r
def K1:S:=.seq (Cv 146) Mj
def K2:S:=.seq (.ex (.Al (.Bb (.loc 292) 305) 119 .nil [])) K1
def K3:S:=.seq (Ee Te (.loc 145)) K2
def Ot:S:=.seq (.Aj 145 (.rep (.loc 145) [0] [65533])) K3
def Bg:S:=.seq (.Aj 145 (Hy (.cons (kk [62]) .nil))) Ot
section
variable {l:Tw}{J:Sm}{t:Tm}{k:V->Tx->Prop}{st:Nat}{ct:Ct}{q:Tz}{tb:TK}{s:St}
def ael(Q:SA l J ⟨st,ct,some q,tb⟩ s)(D:k (.c (.Ae true)) (Hp J ⟨304,ct,some q,tb⟩)):ex (Ax BQ) K1 s (fin k):=by
 show dB ((show GA BQ (.seq (Cv 146) .skip) l J ⟨st,ct,some q,tb⟩ k from yK ⟨rfl,rfl⟩ D) _ _ Q fY)
def afF(Q:SA l J ⟨st,ct,some q,tb⟩ s)(v:View J d r e m)(D:∀Z A O,A+O=e+m->O<=m->View Z (d++r.take 1) (r.drop 1) A O->k (.c (.Ae true)) (Hp Z ⟨304,ct,some q,tb⟩)):ex (Ax BQ) K2 s (fin k):=by
 show d3 (aJ (ba (aj (aa Q.o (aP Q.DH rfl rfl (aa (Q.Al rfl rfl) (au (eR (dE J _ rfl rfl Q.H (bJ J _ d r e m rfl rfl rfl v λj a m2 b U f=>?_))))))))));cases r with
 |nil=>show λu=>ael (Q.call j _) (D j a m2 b U u.nil)
 |cons c r=>show λu f=>ael (Q.call j _) (D j a m2 b U u)
def afG(Q:SA l J ⟨st,ct,some [],tb⟩ s)(g:Sx 145 l=some (.c (.str u)))(v:View J d r e m)(D:∀Z A O,A+O=e+m->O<=m->View Z (d++r.take 1) (r.drop 1) A O->k (.c (.Ae true)) (Hp Z ⟨304,ct,some [JG u],tb⟩)):ex (Ax BQ) K3 s (fin k):=by
 have a:=Q.m;show d3 (aJ (ba (aj (aa Q.o (aP Q.DH rfl rfl (aa (cw Q.tK rfl) (ah (gb (ah (aQ (ah (bK (bB (aQ (dI rfl (ah (aQ (ah (aj (aa (Q.L _ _ g) (au (aa rfl (gc (au (gf ((p7 (by lia)).trans Q.tK) mF ((p7 (by lia)).trans Q.tK) rfl (afF (st:=st) ⟨Q.o,Q.L,?_,Y4 Q.m⟩ v D))))))))))))))))))))))))));change lo (put 5 _ ((s.m,_)::s.H))=_;rw[dM (by ext),b7,Zi (show¬s.m<64 by show YN.mpr a),Q.H];rfl
end
def xl(xs kws H k)(h:JV xs kws H k):Ab (Ah [292] xs kws) λo=>ex SN Bg ⟨o,H,64,false⟩ (fin k):=by
 show bg h λJ ct tb d r e m A f g v y w=>?_;clear h;subst A f g;obtain⟨hi,x⟩:=y;have Q:SA [] J ⟨598,ct,some [],tb⟩ ⟨[(292,.ob 1)],Hp J ⟨598,ct,some [],tb⟩,64,false⟩:=ig rfl;have p:=v.bound;have D:=qU (λc=>decide (c∈[62])) false r;show aa rfl (aG (aJ (ba (aj (aa Q.o (aP Q.DH rfl rfl (aa (Q.Al rfl rfl) (ah (aQ (au (eR (dE J _ rfl rfl Q.H ⟨J,_,d,r,e,m,.str [62],false,λc=>decide (c∈[62]),.inr ⟨rfl,rfl⟩,rfl,rfl,nr [62],v,λZ B O a b P=>?_⟩))))))))))));show aG (sC (aj (aa rfl ⟨⟨rfl,Zh (Zh D (Zh (Z0 _ _) p)) (by ext)⟩,?_⟩)));rw[nQ x];have N:=Q.call Z ⟨598,ct,some [],tb⟩;show afG ⟨rfl,(ig (J:=J) (t:=⟨598,ct,some [],tb⟩) rfl).L,N.H,N.m⟩ rfl P λj i m2 u U n=>w j i m2 (u.trans a) (Zh U b) (λz=>nomatch z) (by
  rw[←Zo];show n)
def CJ(B N:Nat)(ct:Ct)(tb:TK)(r:WJ):Out:=match ct with
 | .AM _ n _=>match tb with
  |some b=>match r with
   | []=>⟨true,B,some b,[BM ([60,47]++b)],[],[],ct⟩
   |c::r=>if c∈Dj/\Bp n=Bp b then⟨true,535,some b,[],[c],r,.live true b false⟩else
    if c=62/\Bp n=Bp b then⟨true,304,some b,[.An (EO true (DE b) false)],[c],r,.AM true (DE b) false⟩else
    if c∈AW then⟨true,N,some (b++[c]),[],[c],r,ct⟩else⟨true,B,some b,[BM ([60,47]++b)],[],c::r,ct⟩
  |none=>IU
 |_=>IU
def EY(ct:Ct)(tb:TK)(r:WJ):Prop:=∃n O b,ct=.AM false n O/\tb=some b/\BV n/\BV b/\∀c u,r=c::u->Bp n=Bp b->c≠47
def pL(h:BV n)(j:∀c,c<128->p c=true):n.all p=true:=Zv.mpr λc u=>j c (h.1 c u)
def Out.acK{ct:Ct}{z:Prop}{P Q:Prop}[Decidable P][Decidable Q](D:Out.ok ct k d e m z (if P/\Q then a else b))(h:(decide P&&decide Q)=true):Out.ok ct k d e m z a:=by
 rw[Zp]at h;rw[Zk ⟨Zm h.1,Zm h.2⟩]at D;show D
def Out.aan{ct:Ct}{z:Prop}{P Q:Prop}[Decidable P][Decidable Q](D:Out.ok ct k d e m z (if P/\Q then a else b))(h:(decide P&&decide Q)=false):Out.ok ct k d e m z b:=by
 rw[Zi λz=>by rw[Zr z.1,Zr z.2]at h;show nomatch h]at D;show D
def zy(U:Sx i s.H=some (.Av (.An y)))(N:sel a y=some f)(h:F (.c f) s):DO (.ob i) (.c (.str a)) s F:=by
 have k2:=show Ab (sel a y) λr=>F (.c r) s from aa N h
 show aa rfl (aa U k2)
def Km:X:=.Bb (.loc 292) 310
def Pa:X:=.and (.Bb (.loc 292) 144) (.cmp 0 (.Al (.sub (.Bb (.loc 292) 144) (.k (.str HP))) 7 .nil []) (.Al Km 7 .nil []))
def Ql(y:Nat):S:=.seq (.iff Iy (.seq (.Gb (.loc 292) 310 0 (.loc 145)) .skip) (.seq (Ee HQ (.bin 0 (kk [60,47]) Km)) (.seq Jn (.seq (Cv y) .skip)))) .skip
def Om(y:Nat):S:=.seq (.iff (.and (EP 62) (.loc 98)) (.seq (Ko true Km) (.seq ME (.seq (Cv 146) .skip))) (Ql y)) .skip
def Lj(y:Nat):S:=.seq (.Aj 98 Pa) (wh (.iff (.and Iw (.loc 98)) (.seq (Ko true Km) (.seq (Cv 107) .skip)) (.seq (.iff (.and (EP 47) (.loc 98)) (.seq (Ko true Km) (.seq (Cv 293) .skip)) (Om y)) .skip)))
def yR(W:GQ xb B)(xs kws H k)(h:Fx N (CJ B N) EY xs kws H k):Ab (Ah [292] xs kws) λL0=>ex SN (Lj xb) ⟨L0,H,64,false⟩ (fin k):=by
 show bg h λJ ct tb d r e m A G L v y D=>?_;subst A G L;obtain⟨n,O,b,rfl,rfl,Y,P,R⟩:=y;replace D:=λZ e' m' b1 b2 b3=>D Z e' m' b1 b2 λE=>b3;have Q:SA [] J ⟨N,.AM false n O,some [],some b⟩ ⟨[(292,.ob 1)],Hp J ⟨N,.AM false n O,some [],some b⟩,64,false⟩:=ig rfl;have o:Sx 144 (R9 ⟨N,.AM false n O,some [],some b⟩)=some (.ob 32):=rfl;have g:∀ {x:WJ},BV x->(x.all λc=>or (Nat.blt c 128) (beq c 233))=true:=λh=>pL h λc hc=>by rw[show Nat.blt c 128=true from Nat.ble_eq.mpr hc];rfl
 have w:∀ {l:Tw} {Z:Sm},Et BQ Km l Z ⟨N,.AM false n O,some [],some b⟩ (.c (.str b)):=λs F Q h=>ba (aj (aa Q.o (aP Q.DH rfl rfl h)));have go:∀p,p=decide (Bp n=Bp b)->ex SN (wh (.iff (.and Iw (.loc 98)) (.seq (Ko true Km) (.seq (Cv 107) .skip)) (.seq (.iff (.and (EP 47) (.loc 98)) (.seq (Ko true Km) (.seq (Cv 293) .skip)) (Om xb)) .skip))) ⟨[(292,.ob 1),(98,.c (.Ae p))],Hp J ⟨N,.AM false n O,some [],some b⟩,64,false⟩ (fin k):=by
  intro p j;have z:∀ {v:V} {Z:Sm},Et BQ (.loc 98) [(98,.c (.Ae p)),(145,v)] Z ⟨N,.AM false n O,some [],some b⟩ (.c (.Ae p)):=aaZ rfl;show lH (tab:=BQ) (l:=[(98,.c (.Ae p))]) rfl rfl v ?_ ?_
  ·rintro rfl Z C;have I:=P.2;show GA.x (az ((zo rfl rfl).and z) (λh=>nomatch h) λE=>az ((dy rfl).and z) (λh=>nomatch h) λE=>az ((dy rfl).and z) (λh=>nomatch h) λE=>az (qZ rfl) (λh=>nomatch h) λE=>
    bo (i:=1) (u:=[60,47]++b) rfl rfl (λs F Q h=>cm (aQ (w s _ Q (uN (by change 2+b.length<=_;lia) h)))) (tO (B:=B) rfl rfl W C D)) rfl
  ·rintro c r rfl Z C h0;have I:=P.2;have D:Out.ok (.AM false n O) k d e m (J.off=J.size) (CJ B N (.AM false n O) (some b) (c::r)):=D;have X:∀ {T:S},GA BQ T [(98,.c (.Ae p)),(145,.c (.str [c]))] Z ⟨N,.live true b false,some [],some b⟩ k->GX BQ (.seq (Ko true Km) T) [(98,.c (.Ae p)),(145,.c (.str [c]))] Z ⟨N,.AM false n O,some [],some b⟩ k:=λh=>mE (show DJ (.AM false n O) from .inr (gp _ _ _ rfl)) rfl rfl (λF hF=>w _ _ (ig rfl) hF) h;show gU rfl ((vb rfl rfl).and z) (λh=>X (cy (B:=535) ⟨rfl,rfl⟩ C (Out.acK D (by rw[←j];show h)))) λU=>gU rfl ((cW rfl).and z) (λh=>?_) λE=>gU rfl ((cW rfl).and z) (λh=>X (oU (ZF _) P (cy (B:=304) ⟨rfl,rfl⟩ C (Out.acK (Out.aan D (by rw[←j];show U)) (by rw[←j];show h))))) λh2=>GA.x ?_ rfl
   ·rw[Zp]at h;show T4 (Zm h.1) (R c r rfl (Zm (j▸h.2)))
   ·have D:=Out.aan (Out.aan D (by rw[←j];show U)) (by rw[←j];show h2);show az (q8 rfl) (λh=>tR rfl P.2 (bp (C.fin (Out.pos D h)))) λh=>bo (i:=1) (u:=[60,47]++b) rfl rfl (λs F Q h=>cm (aQ (w s _ Q (uN (by change 2+b.length<=_;lia) h)))) (tN (B:=B) rfl rfl W C h0 (Out.neg D h))
 show aa rfl (aG (gK (ba (aj (aa rfl (aP Q.DH o rfl (aa (a:=true) rfl (aW rfl (aH (aJ (bK (ba (aj (aa rfl (aP Q.DH o rfl (aQ (zy (show Sx 32 (Hp J ⟨N,.AM false n O,some [],some b⟩)=some (.Av (.An (EO false n O))) from rfl) (f:=.str n) rfl (aa (a:=M.str n) rfl (au (⟨g Y,aJ (ba (aj (aa rfl (aP Q.DH rfl rfl (aa (a:=M.str b) rfl (au ⟨g P,dt (zt (go _ rfl))⟩))))))⟩))))))))))))))))))))
def JS:Aq:=Fx 388 (CJ 318 388) EY
def AP:S:=Lj 259
def xf(xs kws H k)(h:JS xs kws H k):Ab (Ah [292] xs kws) λN=>ex SN AP ⟨N,H,64,false⟩ (fin k):=yR ⟨rfl,rfl⟩ xs kws H k h
def IE:Aq:=Fx 409 (CJ 332 409) EY
def AL:S:=Lj 255
def uh(xs kws H k)(h:IE xs kws H k):Ab (Ah [292] xs kws) λN=>ex SN AL ⟨N,H,64,false⟩ (fin k):=yR ⟨rfl,rfl⟩ xs kws H k h
section
variable {g:G}{s:St}{F:TC}{k:TR}
def fd2(a b:Nat):Int.fdiv ((a:Int)+(b:Int)) 2=(((a+b) / 2:Nat):Int):=by
 rw[Int.fdiv_eq_ediv_of_nonneg _ (by ext)];show(Int.natCast_ediv (a+b) 2).symm
def acX{a b:Nat}(h:a<b):a<=(a+b) / 2:=(Nat.le_div_iff_mul_le (by ext)).mpr (Nat.mul_two a▸ZH (Yo h) a)
def p8{a b:Nat}(h:a<b):(a+b) / 2<b:=Nat.div_lt_of_lt_mul (Nat.two_mul b▸Nat.add_lt_add_right h b)
def acW{a b m n:Nat}(h:b-a<=n+1)(U:a<=m):b-(m+1)<=n:=XC.mpr (Zh (XC.mp h) (Zh (ZH U _) (Zz (ZZ _ 1 _))))
def acV{a b m n:Nat}(h:b-a<=n+1)(U:m<b):m-a<=n:=XC.mpr (ZN (ZJ U (Zh (XC.mp h) (Zz (ZZ _ 1 _)))))
def zX:Builtin.divisionGoesByPylong c 2=false:=by
 unfold Builtin.divisionGoesByPylong;rw[propext Bool.and_eq_false_iff];left;decide
end
def JN(l:TL):Tz:=l.map .str
def Gj(y:TL)(key:WJ):Nat->Nat->Nat->Nat
 |0,lo,_=>lo
 |n+1,lo,hi=>if lo<hi then(if Hq (y.getD ((lo+hi) / 2) []) key then Gj y key n ((lo+hi) / 2+1) hi else Gj y key n lo ((lo+hi) / 2))else lo
def Bx:TG:=match A0 with| .c (.An l)=>l|_=>[]
def Au:TL:=match Sx 236 JO with
 |some d=>match Sx 47 d with
  |some (.c (.lst l))=>l.map λf=>match f with| .str s=>s|_=>[]
  |_=>[]
 |_=>[]
def yn:SR.FA 236 44=some A0:=rfl
def aco{key:WJ}(h:F (BB key Bx) s):FH g 8 (.c (.str key)) A0 s F:=h
def Oh:X:=.cmp 2 (.loc 204) (.loc 183)
def Oi:S:=.seq (.Aj 211 (.bin 3 (.bin 0 (.loc 204) (.loc 183)) (.k (.int 2)))) (.seq (.iff (.cmp 2 (.sub (.loc 268) (.loc 211)) (.loc 190)) (.seq (.Aj 204 (.bin 0 (.loc 211) (.k (.int 1)))) .skip) (.seq (.Aj 183 (.loc 211)) .skip)) .skip)
def Dt:S:=.seq (.iff (.cmp 6 (.loc 183) (.k .Ak)) (.seq (.Aj 183 (.fn 0 (.cons (.loc 268) .nil))) .skip) .skip) (.seq (.wh 137 Oh Oi) (.seq (.ret (.loc 204)) .skip))
def KO:Aq:=λu z H k=>∃J t y key lo hi,u=[.c (.lst (JN y)),.c (.str key),.c (.int (lo:Nat)),.c (.int (hi:Nat))]/\z=[]/\H=Hp J t/\hi<=y.length/\k (.c (.int (Gj y key y.length lo hi:Nat))) (Hp J t)
abbrev Lb(y:TL)(key:WJ)(lo hi:Nat)(x:Tw):Tw:=(268,.c (.lst (JN y)))::(190,.c (.str key))::(204,.c (.int (lo:Nat)))::(183,.c (.int (hi:Nat)))::x
def afE{key:WJ}{lo hi:Nat}(z:F (.c (.int (((lo+hi) / 2:Nat):Int))) ⟨Lb y key lo hi x,H,64,false⟩):
  SU SR (X.bin 3 (X.bin 0 (X.loc 204) (X.loc 183)) (X.k (.int 2))) ⟨Lb y key lo hi x,H,64,false⟩ (one F):=by
 rw[←fd2]at z;show⟨⟨by ext,zX⟩,z⟩
def uL{K:TB}{y:TL}{key:WJ}(a:∀s,R6 SR Oh Oi K P s->P s)(n:Nat):∀(j d:Nat) (x:Tw),d<=y.length->d-j<=n->
  (∀A z,K .AZ ⟨Lb y key (Gj y key n j d) A z,Hp J t,64,false⟩)->P ⟨Lb y key j d x,Hp J t,64,false⟩:=by
 induction n with
 |zero=>
  intro j d x U N D;show a _ ?_
  conv=>whnf
  show bH (Zs λq=>Nat.not_lt_of_le (XD (Wq.mp N)) (Xa.mp q)) (D d x)
 |succ n Q=>
  intro j d x U N D;show a _ ?_
  conv=>whnf
  show bh (λh=>?_) λh=>?_
  ·have h:=Xa.mp (Zm h);have O:(j+d) / 2<y.length:=ZJ (p8 h) U;have b:(JN y)[(j+d) / 2]? =some (.str (y.getD ((j+d) / 2) [])):=by
    rw[Xq,Yy,Zy O];rfl
   unfold Gj at D;rw[Zk h]at D;show aG (afE ?_)
   conv=>whnf
   show aa ((ao 211 211 _ _).trans (Zk rfl)) ?_;show aa (o:=Co _ (_:Int)) ((dP _ _).trans b) ?_
   conv=>whnf
   show bh (λq=>?_) λq=>?_
   ·rw[Zk (show Hq (y.getD ((j+d) / 2) []) key=true from q)]at D
    conv=>whnf
    show aa ((ao 211 211 _ _).trans (Zk rfl)) (Q ((j+d) / 2+1) d _ U (acW N (acX h)) D)
   ·rw[Zi (by rw[show Hq (y.getD ((j+d) / 2) []) key=false from q];decide)]at D
    conv=>whnf
    show aa ((ao 211 211 _ _).trans (Zk rfl)) (Q j ((j+d) / 2) _ (Yo O) (acV N (p8 h)) D)
  ·unfold Gj at D;rw[Zi λq=>ZA h (Xa.mpr q)]at D;show D d x
def adT(xs kws H k)(h:KO xs kws H k):Ab (Ah [268,190,204,183] xs kws) λN=>ex SR Dt ⟨N,H,64,false⟩ (fin k):=by
 show cX h λJ t y key lo hi l A Q u D=>?_;clear h;subst l A Q;show aa rfl (bE (aH (aj (aa rfl (aQ (dt (acn rfl (aa rfl (bH rfl (aB (cU (i4 λP O=>uL O y.length lo hi _ u (Zh (Wl _ _) u) λa z=>b9 J t D))))))))))))
def B5:S:=.seq (.ret (.cmp 8 (.loc 190) (.Bb (.loc 292) 44))) .skip
def II:Aq:=λu z H k=>∃J t key,u=[.st 236,.c (.str key)]/\z=[]/\H=Hp J t/\k (.c (.Ae (BB key Bx))) (Hp J t)
def aa8(xs kws H k)(h:II xs kws H k):Ab (Ah [292,190] xs kws) λN=>ex SR B5 ⟨N,H,64,false⟩ (fin k):=by
 show fg h λJ t key z j U D=>?_;clear h;subst z j U;show aa rfl (fk (aH (aj (aa rfl (ba (aj (aa rfl (aey yn (aco (b9 J t D))))))))))
def Hc:List (Nat×Aq):=(178,KO)::(199,II)::Cm
def JA:G:=Ax Hc
def Dw(key:WJ):Bool:=if BB key Bx then true else if Gj Au key Au.length 0 Au.length=Au.length then false else key.isPrefixOf (Au.getD (Gj Au key Au.length 0 Au.length) [])
def By:S:=.seq (.iff (.cmp 8 (.loc 242) (.Bb (.loc 292) 44)) (.seq (.ret (.k (.Ae true))) .skip) .skip) (.seq (.iff (.Al (.loc 242) 9 (.cons (.Bb (.loc 292) 43) .nil) []) (.seq (.GC [(none,201),(none,182)] (.Bb (.loc 292) 42)) (.seq (.Aj 184 (.call 178 (.cons (.Bb (.loc 292) 47) (.cons (.loc 242) (.cons (.loc 201) (.cons (.loc 182) .nil)))))) .skip)) (.seq (.Aj 184 (.call 178 (.cons (.Bb (.loc 292) 47) (.cons (.loc 242) .nil)))) .skip)) (.seq (.iff (.cmp 0 (.loc 184) (.fn 0 (.cons (.Bb (.loc 292) 47) .nil))) (.seq (.ret (.k (.Ae false))) .skip) .skip) (.seq (.ret (.Al (.sub (.Bb (.loc 292) 47) (.loc 184)) 9 (.cons (.loc 242) .nil) [])) .skip)))
def KN:Aq:=λu z H k=>∃J t key,u=[.st 236,.c (.str key)]/\z=[]/\H=Hp J t/\(BB key Bx=false->Gj Au key Au.length 0 Au.length<=Au.length)/\k (.c (.Ae (Dw key))) (Hp J t)
def adS(xs kws H k)(h:KN xs kws H k):Ab (Ah [292,242] xs kws) λN=>ex JA By ⟨N,H,64,false⟩ (fin k):=by
 show aK h λJ t key z j U P D=>?_;subst z j U;unfold Dw at D;show aa rfl (bE (aH (aj (aa rfl (ba (aj (aa rfl (aey yn (aco (aa rfl (bh (λh=>?_) λh=>?_)))))))))))
 ·rw[Zk (show BB key Bx=true from h)]at D;show b9 J t D
 ·have h:BB key Bx=false:=h;rw[Zi (by rw[h];decide)]at D
  conv=>whnf
  show eh J t rfl rfl rfl (bJ J t Au key 0 Au.length rfl rfl rfl (Zq _) ?_)
  conv=>whnf
  show bh (λq=>?_) λq=>?_
  ·rw[Zk (by show X0.mp (Zm q))]at D;show b9 J t D
  ·have q:=ZA q;have q:¬Gj Au key Au.length 0 Au.length=Au.length:=by show neN λa=>q (T3 Nat.cast a)
   rw[Zi q]at D;have Q:(JN Au)[Gj Au key Au.length 0 Au.length]? =some (.str (Au.getD (Gj Au key Au.length 0 Au.length) [])):=by
    rw[Xq,Yy,Zy (by lia)];rfl
   conv=>whnf
   show aa (o:=Co _ (_:Int)) ((dP _ _).trans Q) (b9 J t D)
def BS:S:=.seq (.iff (.cmp 8 (.loc 242) (.loc 292)) (.seq (.ret (.loc 242)) .skip) .skip) (.seq (.NV 184 (.cons (.k (.int 1)) (.cons (.bin 0 (.fn 0 (.cons (.loc 242) .nil)) (.k (.int 1))) .nil)) (.seq (.iff (.cmp 8 (.Cj (.loc 242) (.k .Ak) (.neg (.loc 184))) (.loc 292)) (.seq (.ret (.Cj (.loc 242) (.k .Ak) (.neg (.loc 184)))) .skip) .skip) .skip)) (.seq .bad .skip))
def iB(a:Int)(n:Nat):En a (n+1)=.int a::En (a+1) n:=by
 unfold En;rw[List.range_succ_eq_map,Ye,Y9];rw[T3 FV.int (Int.add_zero a)];show T3 (_:: ·) (List.map_congr_left λi Z=>?_);show T3 FV.int (by lia)
def lY{x:WJ}{i:Int}(U:1<=i)(N:i<=x.length):slice x none (some (-i))=x.take (x.length-i.toNat):=by
 rw[cM];change(x.take (DL x.length (-i))).drop 0=_;unfold DL;rw[Zs (by lia),Yp];show T3 (x.take ·) (by lia)
def Ho(x:WJ):Nat->TK
 |0=>none
 |j+1=>if BB (x.take j) Bx=true then some (x.take j)else Ho x j
def Gg(x:WJ):TK:=if BB x Bx=true then some x else Ho x x.length
def LI:S:=.iff (.cmp 8 (.loc 242) (.loc 292)) (.seq (.ret (.loc 242)) .skip) .skip
def J4:S:=.seq (.iff (.cmp 8 (.Cj (.loc 242) (.k .Ak) (.neg (.loc 184))) (.loc 292)) (.seq (.ret (.Cj (.loc 242) (.k .Ak) (.neg (.loc 184)))) .skip) .skip) .skip
def LH:S:=.NV 184 (.cons (.k (.int 1)) (.cons (.bin 0 (.fn 0 (.cons (.loc 242) .nil)) (.k (.int 1))) .nil)) J4
abbrev La(x:WJ)(y:Tw):Tw:=(292,.st 236)::(242,.c (.str x))::y
section
variable {g:G}{s:St}{F:TC}{K:TB}
def acQ(h:SU g a s (one λa s=>Ab (aC a) λf=>Ab (aI f) λi=>F (.c (.int (-i))) s)):SU g (.neg a) s (one F):=h
def aeV(h:F (.c (.str (slice x none (some i)))) s):Gn (.c (.str x)) (.c .Ak) (.c (.int i)) s F:=h
def acB(h:SU g c s (one λv s=>Ab (Am s.H v) λt=>S7 t (ex g x s K) (ex g y s K))):ex g (.iff c x y) s K:=h
end
def kC{K:TB}{x:WJ}:∀(j:Nat) (y:Tw),j<=x.length->(∀y,Ho x j=none->K .AZ ⟨La x y,Hp J t,64,false⟩)->(∀y p,Ho x j=some p->K (.ret (.c (.str p))) ⟨La x y,Hp J t,64,false⟩)->
  Dd (ex JA J4) (C3 [184]) (En ((x.length:Int)-j+1) j) ⟨La x y,Hp J t,64,false⟩ K
 |0,y,_,hn,_=>hn y rfl
 |j+1,y,hj,hn,Q=>by
  rw[iB];rw[show x.length-(j+1:Nat)+1=(x.length:Int)-j by lia];have D:=ao 184 184 (V.c (.int ((x.length:Int)-j))) y;replace D:=(Zk rfl)▸D;have l:slice x none (some (-((x.length:Int)-j)))=x.take j:=by
   rw[lY (by lia) (by lia)];show T3 (x.take ·) ((T3 (x.length- ·) (Int.toNat_sub x.length j)).trans (Nat.sub_sub_self (Yj hj)))
  change ex JA J4 ⟨La x (put 184 (.c (.int ((x.length:Int)-j))) y),Hp J t,64,false⟩ (P2 (λs k=>Dd (ex JA J4) (C3 [184]) (En ((x.length:Int)-j+1) j) s k) K);show bE (aH (d6 (aj (aa rfl (aQ (acQ (aj (aa D (aa rfl (aa rfl (aeV (aj (aa (a:=V.st 236) rfl (w_s (f:=199) rfl (eh J t rfl rfl rfl (cg J t (slice x none (some (-((x.length:Int)-(j:Nat))))) rfl rfl rfl ?_))))))))))))))));rw[l]
  conv=>whnf
  show bh (λq=>?_) λq=>?_
  ·have Q:=Q (put 184 (V.c (.int ((x.length:Int)-j))) y) (x.take j) (Zk (show BB (x.take j) Bx=true from q));replace Q:=(YS l)▸Q
   conv=>whnf
   show aa (o:=Sx 184 (put 184 (V.c (.int ((x.length:Int)-j))) y)) D Q
  ·have e:Ho x (j+1)=Ho x j:=Zi (by rw[show BB (x.take j) Bx=false from q];decide);rw[e]at hn Q;show(kC (K:=K) (J:=J) (t:=t) (x:=x) j) _ (by show Yj hj) hn Q
def KL:Aq:=λu z H k=>∃J t x p,u=[.st 236,.c (.str x)]/\z=[]/\H=Hp J t/\x.length<=20000/\Gg x=some p/\k (.c (.str p)) (Hp J t)
def kB{K:TB}(D:x.length<=20000)(j:∀y,Gg x=none->K .AZ ⟨La x y,Hp J t,64,false⟩)(Q:∀y p,Gg x=some p->K (.ret (.c (.str p))) ⟨La x y,Hp J t,64,false⟩):ex JA LI ⟨La x [],Hp J t,64,false⟩ (Lp (λs k=>ex JA LH s k) K):=by
 show acB (aH (aj (aa rfl (aj (aa rfl (w_s rfl (eh J t rfl rfl rfl (cg J t x rfl rfl rfl ?_))))))))
 conv=>whnf
 show bh (λq=>?_) λq=>?_
 ·show Q [] x (Zk q)
 ·have e:Gg x=Ho x x.length:=Zi (by rw[show BB x Bx=false from q];decide);rw[e]at j Q
  conv=>whnf
  show⟨⟨⟨by ext,by ext⟩,by show Int.neg_ofNat_le_ofNat 1000000 (x.length+1),by lia⟩,?_⟩;have h:=kC (K:=K) (J:=J) (t:=t) (x:=x) x.length [] (Zq _) j Q;rw[show(x.length:Int)-(x.length:Nat)+1=1 by lia]at h;rw[←(show((x.length:Int)+1-1).toNat=x.length from T3 Int.toNat (Int.add_sub_cancel _ 1))]at h;show h
end
section
open Mine.B Mine.Head
abbrev Ic:Wu:=⟨#[75,101,121,69,114,114,111,114]⟩
abbrev Pp:Wu:=⟨#[112,114,101,102,105,120]⟩
def J5(P:Wx)(i:Nat):WG:=(Ap (fd P 227)).getD i (.Pass default)
def OM(s:WG):WE:=match s with| .Raise (some e) _ _=>e|_=>.Constant .none 0 default
def Pq(e:WE):WE×List WE×Pos:=match e with| .Call f l _ p=>(f,l,p)|_=>(e,[e],default)
def QI(e:WE):Pos:=match e with| .Name _ p=>p|_=>default
def RN(s:WG):Pos:=QI (Pq (OM s)).1
def RR(s:WG):Pos:=QI ((Pq (OM s)).2.1.headD (OM s))
def RQ(s:WG):Pos:=(Pq (OM s)).2.2
def RM(s:WG):Pos:=match s with| .Raise _ _ p=>p|_=>default
def RK(s:WG):WG:=.Raise (some (.Call (.Name Ic (RN s)) [.Name Pp (RR s)] [] (RQ s))) none (RM s)
def ac4(P:Wx):Ap (fd P 227)=[J5 P 0,J5 P 1,RK (J5 P 2)]:=by left
def ac1(P:Wx):cS SY (fd P 227).scope 51 (J5 P 0)=LI:=by left
def ac0(P:Wx):cS SY (fd P 227).scope 51 (J5 P 1)=LH:=by left
def ac2(P:Wx):(KI SY 51 (J5 P 0)++KI SY 51 (J5 P 1)).isEmpty=true:=by left
def ac3(P:Wx):and (B8 (fd P 227).scope Ic) (and (BH (fd P 227).scope Pp) (SY.code Pp==some 242))=true:=by left
def nI{K:Frag}{p:CP}{Sy:TP}{d:Nat}(S:CV c g K p Sy A O d)(n:Nat)(f:Fm)(j:f.own=true)(st:WG)(Q:KI p (n+1) st=[]):SS c g f (d+1) (cS p f.cs (n+1) st) st:=
 rz S (λf j l h=>cY S n f j l h) f j st λt N=>by rw[Q]at N;show(Yl N).elim
def KS(J:St):Prop:=∃g t x,J=⟨La x [],Hp g t,64,false⟩/\x.length<=20000/\Gg x=none
def flN{f:Fl}(h:f=.AZ):Fl.casesOn (motive:=λZ=>Prop) f True False False λZ=>False:=h▸trivial
def s9(b:CV (Ai w) JA (K w.params) SY Sy mg mb d)(m:Hw mg mb Ic "KeyError")(f:Fm)(U:f.cs=(fd w.params 227).scope)(I:f.own=true)(n:f.vl=false):Jq (Ai w) f (d+1) "KeyError" (Ap (fd w.params 227)) KS:=by
 rintro O J s A Q E r l ⟨H,t,x,rfl,X,S⟩ hp;have a:=Ze (ac2 w.params);have L:=nI b 50 f I (J5 w.params 0) (Xy.mp a).1;have q:=nI b 50 f I (J5 w.params 1) (Xy.mp a).2;rw[U,ac1]at L;rw[U,ac0]at q;obtain⟨n1,n2⟩:=ar (ac3 w.params);obtain⟨n2,n3⟩:=ar n2;rw[←U]at n1 n2;rw[ac4];show Xu (ZT (L O _ s A _ _ r l (kB (K:=λc st=>c=.AZ/\∃y,st=⟨La x y,Hp H t,64,false⟩) X (λy Z=>⟨rfl,y,rfl⟩) λy p h=>by rw[S]at h;show aw h) λj Y i u c V G k D=>?_) (λZ Z h=>h) λZ Z h=>h.elim);cases c with
 |brk=>show(flN D.1).elim
 |cnt=>show(flN D.1).elim
 |ret v=>show(flN D.1).elim
 |AZ=>
  subst k;show Xu (ZT (q j Y i A _ _ G l D λP J2 C u c M r2 k D=>?_) (λZ Z h=>h) λZ Z h=>h.elim);obtain⟨rfl,y,rfl⟩:=D;subst k;show Xu (Raise_new l.hd (Call_Name rfl (kX b.Y m n1 r2 (callWith_type1 (Calls.spliced_cons (ZT (uX (g:=JA) b.Y n2 (eq_of_beq n3) P _ C A (λv st=>st=⟨La x y,Hp H t,64,false⟩) _ r2 l (rfl) λo J3 W v z R T hv D=>?_) (λZ Z h=>h) λZ Z h=>h.elim)) rfl rfl))));subst D;show Calls.spliced_nil (call_exc_raise excClass_KeyError (λh' e N=>?_) (by size_fits));have F:Ext f.vl f.L O s j i:=V;have B:Ext f.vl f.L j i P C:=M;rw[n]at F B;show hp o (La x y) W h' e ((F.trans r G B).trans r r2 R) T N
end
section
open Mine.B
def jV(y:TL)(key:WJ)(Q:∀i j,i<=j->j<y.length->¬y.getD j []<y.getD i []):∀n lo hi,lo<=hi->hi<=y.length->hi-lo<=n->(∀j,j<lo->y.getD j []<key)->(∀j,hi<=j->j<y.length->¬y.getD j []<key)->
  Gj y key n lo hi<=y.length/\(∀j,j<Gj y key n lo hi->y.getD j []<key)/\∀j,Gj y key n lo hi<=j->j<y.length->¬y.getD j []<key
 |0,lo,hi,h1,h2,h3,h4,h5=>by
  obtain rfl:lo=hi:=YK h1 (XD (Wq.mp h3));show⟨h2,h4,h5⟩
 |n+1,lo,hi,h1,h2,h3,h4,h5=>by
  unfold Gj;split
  ·rename_i h;rw[fC];split
   ·rename_i q;show jV y key Q n _ hi (p8 h) h2 (acW h3 (acX h)) (λj b=>?_) h5;by_cases e:j<lo
    ·show h4 j e
    ·show Y0 λz=>(Q j ((lo+hi) / 2) (ZN b) (ZJ (p8 h) h2)) (Std.lt_of_lt_of_le (Zm q) (List.not_lt.mp z))
   ·rename_i q;have q:=λz=>q (Zr z);show jV y key Q n lo _ (XR λa=>q (h4 ((lo+hi) / 2) a)) (Zh (Yo (p8 h)) h2) (acV h3 (p8 h)) h4 λj b D=>?_;show λz=>(Q ((lo+hi) / 2) j b D) (Std.lt_of_lt_of_le z (List.not_lt.mp q))
  ·rename_i h;obtain rfl:lo=hi:=YK h1 (YN.mp h);show⟨h2,h4,h5⟩
def r8:∀ {p x:WJ},p<+:x->¬x<p
 | [],x,_=>List.not_lt_nil _
 |a::p,[],h=>by simp at h
 |a::p,b::x,h=>by
  rw[Y1]at h;obtain⟨rfl,h⟩:=h;show λq=>(Xn.mp q).elim (YA _) λq=>r8 h q.2
def nT:∀ {p x y:WJ},p<+:x->¬y<p->¬x<y->p<+:y
 | [],_,_,_,_,_=>List.nil_prefix
 |a::p,[],_,h,_,_=>by simp at h
 |a::p,b::x,[],_,h1,_=>T4 (List.nil_lt_cons a p) h1
 |a::p,b::x,c::y,h,h1,h2=>by
  rw[Y1]at h;obtain⟨rfl,h⟩:=h;have n1:=λq=>h1 (Xn.mpr (.inl q));have n2:=λq=>h2 (Xn.mpr (.inl q));obtain rfl:a=c:=YK (XR n1) (XR n2);rw[propext Y1];show⟨rfl,nT h (λq=>h1 (Xn.mpr (.inr ⟨rfl,q⟩))) λq=>h2 (Xn.mpr (.inr ⟨rfl,q⟩))⟩
def w7:((List.range Au.length).all λj=>(List.range (j+1)).all λi=> !Hq (Au.getD j []) (Au.getD i []))=true:=by left
def g9:Bx.map (·.1)=Au:=by left
def fe(i j:Nat)(h:i<=j)(Q:j<Au.length):¬Au.getD j []<Au.getD i []:=by
 have N:=Zd (Zd w7 j (List.mem_range.mpr Q)) i (List.mem_range.mpr (Nat.lt_succ_of_le h));rw[fC]at N;show ZA (Z8 _▸N)
def gT{y:Type}{l:List (WJ×y)}:BB a l=true↔a∈l.map (·.1):=by
 induction l with
 |nil=>show⟨λh=>(nomatch h),λh=>(nomatch h)⟩
 |cons x l Q=>
  rw[show BB a (x::l)=(Bool.rec (BB a l) true (Cn a x.1):Bool) from rfl,propext Zt, ←propext Q,aE];by_cases q:a=x.1
  ·rw[Zr q];show⟨λZ=>.inl q,λZ=>rfl⟩
  ·rw[Zs q];show⟨.inr,λh=>h.resolve_left q⟩
def fH(key:WJ):Dw key=true↔∃x∈Au,key<+:x:=by
 show cu (jV Au key fe Au.length 0 Au.length (ZF _) (Zq _) (Zq _) (λj Q=>T4 Q (X4 j)) λj U N=>T4 U (Nat.not_le.mpr N)) λy e P=>?_;unfold Dw;constructor
 ·intro h;split at h
  ·rename_i q;show(aO key (g9▸gT.mp q) (XT _))
  ·split at h
   ·show nomatch h
   ·rename_i q;have D:=Xx y q;show(aO _ ?_ (Xj.mp h));rw[Yy,Zy D];show Xh D
 ·rintro ⟨x,c,b⟩;split
  ·rfl
  ·obtain⟨j,Q,rfl⟩:=List.getElem_of_mem c;have a:Au.getD j []=Au[j]:=by rw[Yy,Zy Q];rfl
   have l:Gj Au key Au.length 0 Au.length<=j:=by
    show Y0 λz=>?_;have:=e j (Nat.lt_of_not_le z);rw[a]at this;show r8 b this
   rw[Zi (by lia)];show Xj.mpr (nT b (P _ (Zq _) (Yb l Q)) ?_);rw[←a];show fe _ j l Q
def abp(key:WJ):Gj Au key Au.length 0 Au.length<=Au.length:=
 (jV Au key fe Au.length 0 Au.length (ZF _) (Zq _) (Zq _) (λj Q=>T4 Q (X4 j)) λj U N=>T4 U (Nat.not_le.mpr N)).1
def Iv:List (Nat×Aq):=(220,KN)::(227,KL)::Hc
def Q4:G:=Ax Iv
def acy{K:TB}(h:ex g a s (Lp (ex g b) (sq g r K))):ex g (.seq a (.seq b r)) s K:=by
 have e:Lp (ex g b) (sq g r K)=sq g (.seq b r) K:=by
  funext fl s;cases fl<;>rfl
 rw[e]at h;show h
def adR(xs kws H k)(h:KL xs kws H k):Ab (Ah [292,242] xs kws) λN=>ex JA BS ⟨N,H,64,false⟩ (fin k):=by
 obtain⟨J,t,x,p,rfl,rfl,rfl,f,c,D⟩:=h;show aa rfl (acy (a:=LI) (b:=LH) (kB f (λy e=>?_) λy q e=>?_))
 ·replace e:=c▸e;show aw e.symm
 ·obtain rfl:p=q:=Zf (c.symm.trans e);show q_r (b9 J t D)
def MI:X:=.Al (.k (.str [])) 2 (.cons (.Cj (.loc 121) (.k .Ak) (.k (.int (-1)))) .nil) []
def Jr(v:V)(s:St)(k:TB):Prop:=∃J t x p,v=.c (.str x)/\lo s.H=Hp J t/\x.length<=20000/\Gg x=some p/\k .AZ ⟨put 165 (.c (.int p.length)) (put 166 (.c (.str p)) s.L),Hp J t++hi s.H,s.m,s.vl⟩
def Ks(v:V)(s:St)(k:TB):Prop:=∃J t x,v=.c (.str x)/\lo s.H=Hp J t/\x.length<=20000/\Gg x=none/\k .AZ (Bv s (put 166 (.c .Ak) s.L))
def BA:G:= {Q4 with loop:=λl Z s k=>Bool.rec False (BI g0 MI s λv s=>Jr v s k\/Ks v s k) (beq l 255)}
def rZ{K:TB}(h:BI g0 MI s λv s=>Jr v s K\/Ks v s K):ex BA (.prim 255) s K:=h
def eF{K:TB}:sq g .skip K=K:=by
 funext fl s;cases fl<;>rfl
def adl(J:Sm)(t:Tm){i:Nat}(h:¬i<64):Sx i (Hp J t)=none:=by rw[←bZ,eg,Zi h]
def dO{i:Nat}(h:¬i<64):Sx i (Hp J' t'++hi H)=Sx i H:=by
 rw[di,adl _ _ h,iI,Zi h];rfl
def jh{v:V}{l:Tz}(U:Je s.H [v]=some [.lst l])(N:B0 x l=some r)(D:ble (r.length+l.length*x.length+x.length) 16777216=true)(h:F (.c (.str r)) s):CL g (.str x) 2 [v] [] s F:=
 aa U (aa N ⟨ZQ D,h⟩)
abbrev Cs:WJ:=(SV 0x797469746e652d64656d616e2d6465746365707865)
abbrev Cr:WJ:=(SV 0x6e6f6c6f63696d65732d74756f687469772d797469746e652d64656d616e)
def OY:S:=.ex (.Al (.Bb (.loc 292) 305) 321 (.cons (.Al (.loc 121) 1 .nil []) .nil) [])
def MJ(e:X):X:=.Al (kk []) 2 (.cons e .nil) []
def O9:X:=.Al (.Bb (.loc 292) 305) 119 .nil []
def OZ:S:=.ex (.Al (.loc 121) 0 (.cons O9 .nil) [])
def G2:X:=.cmp 7 (.sub (.loc 121) (.k (.int (-1)))) (.BR (.c .Ak))
def Gx:S:=.seq (.iff (.not (.Al (.BR (.st 236)) 178 (.cons (MJ (.loc 121)) .nil) [])) (.seq .brk .skip) .skip) (.seq OZ .skip)
def R4:S:=.ex (.Al (.Bb (.loc 292) 313) 0 (.cons (.An (.cons (.k (.str Dp)) (.cons (.sub (.BR Ad) (.loc 314)) (.cons (.k (.str Cq)) (.cons (.loc 229) .nil))))) .nil) [])
def Oa:S:=.seq (.iff (.cmp 8 (.loc 229) (.BR (.c NX))) (.seq (.Aj 314 (kk Q2)) .skip) (.seq (.Aj 314 (kk HQ)) .skip)) (.seq R4 .skip)
def Ea:S:=.seq (.iff (.loc 176) (.seq (.Kk (.sub (.sub (.Bb (.loc 292) 144) (.k (.str Cq))) (.k (.int (-1)))) (.k (.int 1)) 0 (.loc 229)) .skip) Oa) .skip
def L9:S:=.seq (.Aj 229 (.bin 0 (kk [38]) (MJ (.loc 121)))) .skip
def Qb:S:=.seq (Ee GL (kk Cs)) (.seq OY L9)
def N9:S:=.seq (.Aj 229 (.sub (.BR A0) (.loc 166))) (.seq OY (.seq (.DI 229 0 (MJ (.Cj (.loc 121) (.loc 165) (.k .Ak)))) .skip))
def O7:X:=.cmp 1 (.sub (.loc 166) (.k (.int (-1)))) (kk [59])
def Pb:X:=.and (.loc 176) (.or (.cmp 8 (.sub (.loc 121) (.loc 165)) (.BR AA)) (.or (.cmp 8 (.sub (.loc 121) (.loc 165)) (.BR Fp)) (.cmp 0 (.sub (.loc 121) (.loc 165)) (kk [61]))))
def N8:S:=.seq (.iff (.and O7 Pb) (.seq OY L9) N9) .skip
def P9:S:=.seq (.iff O7 (.seq (Ee GL (kk Cr)) .skip) .skip) N8
def Qa:S:=.seq (.iff (.cmp 7 (.loc 166) (.k .Ak)) P9 Qb) .skip
def HU:S:=.seq (.prim 255) Qa
def Kw:X:=.sub (.loc 121) (.k (.int 0))
def Qd:S:=.seq (.Aj 180 (.k (.Ae false))) (.seq (.ex (.Al (.loc 121) 0 (.cons (.Al (.Bb (.loc 292) 305) 119 .nil []) .nil) [])) (.seq (.iff (.cmp 8 (.sub (.loc 121) (.k (.int (-1)))) (.tup (.cons (.k (.str [120])) (.cons (.k (.str [88])) .nil)))) (.seq (.Aj 180 (.k (.Ae true))) (.seq (.ex (.Al (.loc 121) 0 (.cons (.Al (.Bb (.loc 292) 305) 119 .nil []) .nil) [])) .skip)) .skip) (.seq (.iff (.or (.and (.loc 180) (.cmp 8 (.sub (.loc 121) (.k (.int (-1)))) (.BR EL))) (.and (.not (.loc 180)) (.cmp 8 (.sub (.loc 121) (.k (.int (-1)))) (.BR Fp)))) (.seq (.ex (.Al (.Bb (.loc 292) 305) 321 (.cons (.sub (.loc 121) (.k (.int (-1)))) .nil) [])) (.seq (.Aj 229 (.Al (.loc 292) 143 (.cons (.loc 180) .nil) [])) .skip)) (.seq (.ex (.Al (.Bb (.loc 292) 313) 0 (.cons (.An (.cons (.k (.str Tg)) (.cons (.sub (.BR Ad) (.k (.str Tf))) (.cons (.k (.str Th)) (.cons (.k (.str (SV 0x797469746e652d636972656d756e2d6465746365707865))) .nil))))) .nil) [])) (.seq (.ex (.Al (.Bb (.loc 292) 305) 321 (.cons (.Al (.loc 121) 1 .nil []) .nil) [])) (.seq (.Aj 229 (.bin 0 (.k (.str [38])) (.Al (.k (.str [])) 2 (.cons (.loc 121) .nil) []))) .skip)))) .skip)))
def Qc:S:=.seq (.iff (.cmp 0 Kw (kk [35])) Qd (.seq (.wh 251 G2 Gx) HU)) .skip
def Rz:X:=.or (.cmp 8 Kw (.BR (.c NX))) (.or (.cmp 8 Kw (.tup (.cons (.BR (.c .Ak)) (.cons (kk [60]) (.cons (kk [38]) .nil))))) (.and (.cmp 7 (.loc 97) (.k .Ak)) (.cmp 0 (.loc 97) Kw)))
def L8:S:=.seq (.iff Rz (.seq (.ex (.Al (.Bb (.loc 292) 305) 321 (.cons Kw .nil) [])) .skip) Qc) Ea
def Br:S:=.seq (.Aj 229 (kk [38])) (.seq (.Aj 121 (.lst (.cons O9 .nil))) L8)
def MF(J J':Sm)(f:FV):Prop:=(f=.Ak/\J'=J)\/∃c,f=.str [c]/\J.off≠0/\Co J.Ac (J.off-1)=some c/\J'= {J with off:=J.off-1}
structure CS (l:Tw) (cs:Tz) (J:Sm) (t:Tm) (s:St):Prop where
 sa:SA l J t s
 row:Sx 64 s.H=some (.lst cs)
 m:65<=s.m
section
variable {l:Tw}{cs:Tz}{J J':Sm}{t t':Tm}{s:St}{F:TC}{K:TB}{st:Nat}{ct:Ct}{q:Tz}{tb:TK}{b:S}
def CS.call(h:CS l cs J t s):CS l cs J' t' (As s (Hp J' t'++hi s.H)):=⟨h.sa.call J' t',(dO (by ext)).trans h.row,h.m⟩
def CS.put(h:CS l cs J t s)(d:Tz):CS l d J t (As s (put 64 (.lst d) s.H)):=⟨⟨h.sa.o,h.sa.L,by rw[b6 (by ext)];show h.sa.H,h.sa.m⟩,(ao _ _ _ _).trans (Zk rfl),h.m⟩
def CS.asg(h:CS l cs J t s)(n:Nat)(v:V)(j:beq 292 n=false):CS (Mine.A.put n v l) cs J t (Bv s (Mine.A.put n v s.L)):=⟨⟨(ao _ _ _ _).trans ((Zi (Xb j)).trans h.sa.o),h.sa.L.put n v,h.sa.H,h.sa.m⟩,h.row,h.m⟩
def CS.new(h:CS l cs J t s)(o:AO):CS l cs J t ⟨s.L,(s.m,o)::s.H,s.m+1,s.vl⟩:=by
 have:=h.m;show⟨⟨h.sa.o,h.sa.L,?_,by lia⟩,(p7 (Z3 this)).trans h.row,by show Xd this⟩;rw[b7,Zi (show¬s.m<64 by show Nat.not_lt_of_gt this)];show h.sa.H
def aed{u:WJ}(h:CS l cs J ⟨st,ct,some q,tb⟩ s)(SG:q.length<=1000)(d:∀j,CS l cs J ⟨st,ct,some (q++[Hz i u]),tb⟩ j->T (.c .Ak) j):CL BA (.lst 5) 0 [.ob s.m] [] ⟨s.L,(s.m,.An [(Dp,.c (.int i)),(Cq,.c (.str u))])::s.H,s.m+1,s.vl⟩ T:=by
 have O:=h.m;have Q:=h.sa.tK;show gf (i:=5) (l0:=q) (l:=q) ((p7 (by lia)).trans Q) mF ((p7 (by lia)).trans Q) (ZX (by lia)) (d _ ⟨⟨h.sa.o,h.sa.L,?_,by change 64<=s.m+1;lia⟩,?_,by change 65<=s.m+1;lia⟩)
 ·change lo (Mine.A.put 5 _ ((s.m,_)::s.H))=_;rw[dM (by ext),b7,Zi (show¬s.m<64 by lia),h.sa.H];rfl
 ·show(ao _ _ _ _).trans ((Zi (by ext)).trans ((p7 (Z3 O)).trans h.row))
def yX{i:Int}(A:sel T Mr=some (.int i))(h:CS l cs J ⟨st,ct,some q,tb⟩ s)(SG:q.length<=1000)(d:∀j,CS l cs J ⟨st,ct,some (q++[Hz i u]),tb⟩ j->ex BA b j K):ex BA (.seq (Ee T (kk u)) b) s K:=by
 show d3 (aJ (ba (aj (aa h.sa.o (aP h.sa.DH rfl rfl (aa (cw h.sa.tK rfl) (ah (gb (ah (aQ (ah (bK (bB (aQ (dI A (ah (aQ (ah (aQ (au (aa rfl (gc (au ?_)))))))))))))))))))))));show aed h SG d
def aec{f:FV}(g:Sx 121 l=some (.ob 64))(Z:MF J J' f)(h:CS l (cs++[f]) J t s)(d:∀a,CS l cs J' t a->ex BA b a K):ex BA (.seq OY b) s K:=by
 have j:CS l cs J t (As s (put 64 (.lst (cs++[f]).dropLast) s.H)):=by rw[List.dropLast_concat];show h.put cs
 show d3 (aJ (ba (aj (aa h.sa.o (aP h.sa.DH rfl rfl (aa (show C4 BA (.ob 2) 321 [] s=some (.fn 163 (.ob 2)) from kz h.sa.LN rfl rfl) (ah (aJ (aj (aa (h.sa.L _ _ g) (aa (cw h.row rfl) (au (aa (T3 FJ h.row) (aa List.getLast?_concat (au (eR ?_))))))))))))))));rcases Z with ⟨rfl,rfl⟩|⟨c,rfl,U,N,rfl⟩
 ·show dE J' t rfl rfl j.sa.H (.inl (bG J' t rfl rfl rfl (d _ j.call)))
 ·show dE J t rfl rfl j.sa.H (.inr (cF J t c rfl rfl rfl U N (d _ j.call)))
def aee{x:WJ}(g:Sx 121 l=some (.ob 64))(h:CS l cs J t s)(Q:B0 [] cs=some x)(a:x.length<=1000)(z:F (.c (.str x)) s):SU BA (MJ (.loc 121)) s (one F):=
 aJ (aQ (aa rfl (ah (aj (aa (h.sa.L _ _ g) (au (jh (lq h.row) Q (ZX (by change x.length+cs.length*0+0<=_;lia)) z)))))))
def afD{e m:Nat}(h:CS l cs J t s)(v:View J d r e m)(z:∀J' A O,A+O=e+m->O<=m->(J.off=J.size->O=0)->match r with
  | []=>View J' d [] A O->F (.c .Ak) (As s (Hp J' t++hi s.H))
  |c::r'=>View J' (d++[c]) r' A O->0<J'.off->F (.c (.str [c])) (As s (Hp J' t++hi s.H))):SU BA O9 s (one F):=by
 show aJ (ba (aj (aa h.sa.o (aP h.sa.DH rfl rfl (aa (show C4 BA (.ob 2) 119 [] s=some (.fn 133 (.ob 2)) from kz h.sa.LN rfl rfl) (au (eR (dE J t rfl rfl h.sa.H (bJ J t d r e m rfl rfl rfl v λJ' A O a b y=>?_)))))))));cases r<;>show z J' A O a b y
end
abbrev Lc:Tw:=[(97,.c .Ak),(176,.c (.Ae false)),(229,.c (.str [38])),(121,.ob 64)]
section
variable {P:TF}{K:TB}{J:Sm}{t:Tm}{s:St}{l:Tz}{y key:WJ}
def vg{k:TR}(e:DZ v=some b)(h:k (!b)):BN 7 v (.c .Ak) s k:=aa e h
def pd{v:Bool}(O:∀s,R6 BA G2 Gx K P s->P s)(A:Co l (-1)=some f)(j:I5 f=v)(h:CS Lc l J t s)(U:v=true->K .AZ s)(N:v=false->ex BA Gx s (wo P K)):P s:=by
 show O _ (aH (bK (aj (aa (h.sa.L 121 _ rfl) (aQ (aa rfl (aa h.row (aa rfl (aa A (bB (dt (vg (T3 some j) (aa rfl ?_)))))))))))));cases v
 ·show aW rfl (N rfl)
 ·show bH rfl (U rfl)
def abg{f:FV}(O:∀s,R6 BA G2 Gx K P s->P s)(A:Co l (-1)=some f)(c:I5 f=false)(Q:B0 [] l=some key)(D:key.length<=1000)(h:CS Lc l J t s)(U:Dw key=false->∀j,CS Lc l J t j->K .AZ j)(N:Dw key=true->∀j,CS Lc l J t j->ex BA (.seq OZ .skip) j (wo P K)):P s:=by
 show pd O A c h (λz=>nomatch z) λZ=>?_;show bE ?_;have go:SU BA (.Al (.BR (.st 236)) 178 (.cons (MJ (.loc 121)) .nil) []) s (one λa s=>Ab (Am s.H a) λp=>Ab (Am s.H (.c (.Ae (!p)))) λp=>S7 p (ex BA (.seq .brk .skip) s (sq BA (.seq OZ .skip) (wo P K))) (ex BA .skip s (sq BA (.seq OZ .skip) (wo P K)))):=by
  show aJ (bB (aa (show C4 BA (.st 236) 178 [] s=some (.fn 220 (.st 236)) from rfl) (ah (aee rfl h Q D (au (eR (dE J t rfl rfl h.sa.H (aM J t key rfl rfl rfl (λZ=>abp _) (aa rfl (aa rfl ?_))))))))));cases q:Dw key with
  |false=>show aW rfl (U q _ h.call)
  |true=>show bH rfl (aB (cU (N q _ h.call)))
 show go
def xq{e m:Nat}(w:∀s,R6 BA G2 Gx K P s->P s)(i:Co l (-1)=some f)(o:I5 f=false)(Q:B0 [] l=some key)(D:key.length<=1000)(u:l.length<=1000)(h:CS Lc l J t s)(v:View J d r e m)(U:Dw key=false->∀j,CS Lc l J t j->K .AZ j)
  (N:Dw key=true->∀J' A O,A+O=e+m->O<=m->match r with
   | []=>View J' d [] A O->∀j,CS Lc (l++[.Ak]) J' t j->P j
   |c::r'=>View J' (d++[c]) r' A O->0<J'.off->∀j,CS Lc (l++[.str [c]]) J' t j->P j):P s:=by
 show abg w i o Q D h U λq n Z=>?_;have z:∀(f:FV) (J':Sm),(∀j,CS Lc (l++[f]) J' t j->P j)->CL BA (.lst 64) 0 [.c f] [] (As n (Hp J' t++hi n.H)) (λx s=>ex BA .skip s (wo P K)):=λf J' p=>
  have g:=Z.call
  gf g.row rfl g.row (ZX (by lia)) (aB (p _ (g.put _)))
 show d3 (aJ (aj (aa (Z.sa.L 121 _ rfl) (aa (cw Z.row rfl) (ah (afD Z v λJ' A O a b x=>?_))))));have:=N q J' A O a b;cases r with
 |nil=>show λk=>au (z _ J' (this k))
 |cons c r=>show λk B=>au (z _ J' (this k B))
end
abbrev EU(l:WJ):Tz:=l.map λc=>.str [c]
def w5:(Au.all λx=>ble x.length 9)=true:=by left
def jv{key:WJ}(h:Dw key=true):key.length<=9:=by
 show aA ((fH key).mp h) λx P j=>Zh j.length_le (ZQ (Zd w5 x P))
def oM{f:FV}:Co (l++[f]) (-1)=some f:=by
 change(Bool.rec (Bool.rec none (l++[f])[((-1:Int)+((l++[f]).length:Nat)).toNat]? (decide (0<=(-1:Int)+((l++[f]).length:Nat)))) (l++[f])[(-1:Int).toNat]? (decide (0<=(-1:Int))):TJ)=_;have D:(l++[f]).length=l.length+1:=by rw[Zg];rfl
 rw[D,Zr (show 0<= -1+((l.length+1:Nat):Int) by lia)];rw[show((-1)+((l.length+1:Nat):Int)).toNat=l.length by lia,List.getElem?_append_right (Zq _),Nat.sub_self];rfl
def aaG{key:WJ}:Co (EU (key++[c])) (-1)=some (.str [c]):=by
 have e:EU (key++[c])=EU key++[.str [c]]:=by change List.map _ _=_;rw[Z7];rfl
 rw[e];show oM
def pb{K:TB}{t:Tm}(f:∀s,R6 BA G2 Gx K P s->P s):∀(r g:WJ) (c:Nat) (J:Sm) (e m:Nat) (s:St),CS Lc (EU (g++[c])) J t s->g.length<=9->View J (d++(g++[c])) r e m->0<J.off->e+m=e0->m<=m0->
  (∀y Q u Z A O,(g++[c])++r=(y++[Q])++u->(y=g\/Dw y=true)->Dw (y++[Q])=false->A+O=e0->O<=m0->View Z (d++(y++[Q])) u A O->0<Z.off->∀j,CS Lc (EU (y++[Q])) Z t j->K .AZ j)->
  (∀Z A O,Dw ((g++[c])++r)=true->A+O=e0->O<=m0->View Z (d++((g++[c])++r)) [] A O->∀j,CS Lc (EU ((g++[c])++r)++[.Ak]) Z t j->K .AZ j)->P s
 |r,g,c,J,e,m,s,h,hl,v,ho,he,hm,hs,hf=>by
  have n:(g++[c]).length<=10:=by rw[Zg];show Z1 hl
  show xq f aaG rfl (el (g++[c])) (by lia) (by rw[ZD];lia) h v (λq j l=>hs g c r J e m rfl (.inl rfl) q he hm v ho j l) λD Z A O E N=>?_;cases r with
  |nil=>
   intro i j l;replace hf:=(Zu _)▸hf;show pd f oM rfl l (λF=>hf Z A O D (by lia) (Zh N hm) i j l) λz=>nomatch z
  |cons a r=>
   intro i k j l;have U:EU (g++[c])++[.str [a]]=EU ((g++[c])++[a]):=by change _=List.map _ _;rw[Z7];rfl
   replace l:=U▸l;have b:(g++[c])++a::r=((g++[c])++[a])++r:=by rw[Zo (g++[c])];rfl
   rw[b]at hf hs;show pb f r (g++[c]) a Z A O j l (jv D) (by rw[←Zo];show i) k (by lia) (Zh N hm) (λy Q u C b m2 q1 q2 p w o B x=>hs y Q u C b m2 q1 (q2.elim (λz=>.inr (z▸D)) .inr) p w o B x) hf
def pM{f:FV}:slice (l++[f]) none (some (-1))=l:=by
 rw[cM];rw[Yp];have e:((-1:Int)+((l++[f]).length)).toNat=l.length:=by rw[Zg];change((-1:Int)+((l.length+1:Nat):Int)).toNat=_;lia
 change(l++[f]).take ((-1:Int)+((l++[f]).length:Nat)).toNat=_;rw[e,We]
def KY(e:WJ×FV):Bool:=match e.2 with
 | .str o=>and (ble o.length 9) (and (BE e.1) (match o with| []=>false|a::_=> !(decide (a∈Dj))))
 |_=>false
def ua:Bx.all KY=true:=by left
structure Qt (p:WJ) (a:Nat) (o:WJ):Prop where
 sel:sel p Bx=some (.str (a::o))
 len:o.length<=8
 sp:a∉Dj
 ne:p≠[]
def zL:∀ {l:TG},l.all KY=true->BB p l=true->∃a o,Mine.A.sel p l=some (.str (a::o))/\o.length<=8/\a∉Dj/\p≠[]:=by
 intro l;induction l with
 |nil=>intro _ h;show nomatch h
 |cons e l c=>
  intro b h;show zA (ar b) λU N=>?_;replace h:=(show BB p (e::l)=(Bool.rec (BB p l) true (Cn p e.1):Bool) from rfl)▸h;rw[show Mine.A.sel p (e::l)=(Bool.rec (Mine.A.sel p l) (some e.2) (Cn p e.1):TJ) from rfl];cases q:Cn p e.1 with
  |false=>replace h:=q▸h;show c N h
  |true=>
   have q:=Zm ((aE p e.1)▸q);obtain⟨k,v⟩:=e;cases v with
   |str o=>
    show zA (ar U) λD A=>zA (ar A) λQ O=>?_;cases o with
    |nil=>show nomatch O
    |cons a o=>
     show(bG a o rfl ?_ (λz=>?_) λz=>?_)
     ·have:=ZQ D;replace this:=Zj▸this;show ZN this
     ·have O:(!(decide (a∈Dj)))=true:=O;replace O:=(Zr z)▸O;show nomatch O
     ·replace Q:=(YS q)▸Q;replace Q:=z▸Q;show nomatch Q
   |_=>show nomatch U
def mq(h:BB p Bx=true):∃a o,Qt p a o:=by
 show dZ (zL ua h) λa o U N D A=>(j1 a o ⟨U,N,D,A⟩)
def s7:∀ {j:Nat},Ho x j=some p->BB p Bx=true/\p<+:x
 |0,h=>aw h
 |j+1,h=>by
  unfold Ho at h;split at h
  ·rename_i q;obtain rfl:=Zf h;show⟨q,XS _ _⟩
  ·show s7 h
def sZ(h:Gg x=some p):BB p Bx=true/\p<+:x:=by
 unfold Gg at h;split at h
 ·rename_i q;obtain rfl:=Zf h;show⟨q,XT _⟩
 ·show s7 h
def Fz(p:WJ):Tz:=if p.getLast?=some 59 then []else [C2 Cr]
def oO{c:Nat}:Co (p++[c]) (-1)=some c:=by
 change(Bool.rec (Bool.rec none (p++[c])[((-1:Int)+((p++[c]).length:Nat)).toNat]? (decide (0<=(-1:Int)+((p++[c]).length:Nat)))) (p++[c])[(-1:Int).toNat]? (decide (0<=(-1:Int))):TX)=_;have D:(p++[c]).length=p.length+1:=by rw[Zg];rfl
 rw[D,Zr (show 0<= -1+((p.length+1:Nat):Int) by lia)];rw[show((-1)+((p.length+1:Nat):Int)).toNat=p.length by lia,List.getElem?_append_right (Zq _),Nat.sub_self];rfl
def sS(h:a∉Dj):CT (.str (a::w)) RH=some false:=by
 have SG:∀c∈Dj,Cn [c] (a::w)=false:=λc u=>by
  rw[aE];show Zs λq=>h ((ZI q).1▸u)
 change some (Bool.rec (Bool.rec (Bool.rec (Bool.rec (Bool.rec false true (Cn [13] (a::w))) true (Cn [32] (a::w))) true (Cn [12] (a::w))) true (Cn [10] (a::w))) true (Cn [9] (a::w)):Bool)=_;rw[SG 9 (by ext),SG 10 (by ext),SG 12 (by ext),SG 32 (by ext),SG 13 (by ext)]
def lX{y:Type}(l:List y)(h:a<=l.length):slice l (some (a:Int)) none=l.drop a:=by
 change(l.take l.length).drop (DL l.length a)=_;rw[bV,ZO h,YC]
def ub:A0=.c (.An Bx):=by left
section
variable {l:Tw}{cs:Tz}{J J':Sm}{t:Tm}{s:St}{F:TC}{k:V->Tx->Prop}{st:Nat}{ct:Ct}{q:Tz}{tb:TK}{x:WJ}{f:FV}
def qT(h:CS l (EU x++[f]) J t s)(g:Sx 121 l=some (.ob 64))(D:x.length<=1000)(z:F (.c (.str x)) ⟨s.L,(s.m,.lst (EU x))::s.H,s.m+1,s.vl⟩):BI g0 MI s F:=by
 have e:BI g0 (.Cj (.loc 121) (.k .Ak) (.k (.int (-1)))) s λv s=>CL g0 (.str []) 2 [v] [] s F:=by
  show d6 (aj (aa (h.sa.L _ _ g) (aQ (aQ ?_))));have k2:Ce (.lst (slice (EU x++[f]) none (some (-1)))) s λv s=>CL g0 (.str []) 2 [v] [] s F:=by
   rw[pM];show gc (jh (lq sM) (el x) (ZX (by rw[ZD];change x.length+x.length*0+0<=_;lia)) z)
  show aa (eB h.row) k2
 show aJ (aQ (aa rfl (ah e)))
def ri{x:FV}{l:Tz}{k:TR}(e:CT x l=some b)(h:k b):BN 8 (.c x) (.c (.tup l)) s k:=by
 show aa e h
def aeP{k:TR}(h:k (!decide (a=b))):BN 1 (.c (.str a)) (.c (.str b)) s k:=by
 rw[←aE]at h;show h
def mT{w:WJ}(h:CS l cs J ⟨st,ct,some q,tb⟩ s)(z:Sx 176 l=some (.c (.Ae false)))(d:Sx 229 l=some (.c (.str (a::w))))(Q:a∉Dj)(SG:q.length<=1000)(D:k (.c .Ak) (Hp J ⟨st,ct,some (q++[BM (a::w)]),tb⟩)):ex BA Ea s (fin k):=by
 show bE (aj (aa (h.sa.L _ _ z) (aa rfl (bH rfl ?_))));rw[eF];show bE (aH (aj (aa (h.sa.L _ _ d) (bB (dt (ri (sS Q) (aa rfl (bH rfl (aG (aQ (aB (cU ?_))))))))))));have U:=h.asg 314 (.c (.str HQ)) rfl;show d3 (aJ (ba (aj (aa U.sa.o (aP U.sa.DH rfl rfl (aa (cw U.sa.tK rfl) (ah (gb (ah (aQ (ah (bK (bB (aj (aa (U.sa.L _ _ (show Sx 314 (put 314 (.c (.str HQ)) l)=some (.c (.str HQ)) from(ao _ _ _ _).trans (Zk rfl))) (dI rfl (ah (aQ (ah (aj (aa (U.sa.L _ _ (show Sx 229 (put 314 (.c (.str HQ)) l)=some (.c (.str (a::w))) from(ao _ _ _ _).trans ((Zi (by ext)).trans d))) (au (aa rfl (gc (au ?_)))))))))))))))))))))))));show aed U SG λj b=>aB (yM J _ b.sa.H D)
def ad9(h:CS l (EU x) J ⟨st,ct,some q,tb⟩ s)(g:Sx 121 l=some (.ob 64))(z:Sx 176 l=some (.c (.Ae false)))(P:x.length<=1000)(SG:q.length<=1000)(D:k (.c .Ak) (Hp J ⟨st,ct,some (q++[BM (38::x)]),tb⟩)):ex BA L9 s (sq BA Ea (fin k)):=by
 show aG (cm (aQ (aee g h (el x) P (uN (by change 1+x.length<=_;show Zh (ZH P 1) (by ext)) (aB (cU (mT (h.asg 229 (.c (.str (38::x))) rfl) ((ao _ _ _ _).trans ((Zi (by ext)).trans z)) ((ao _ _ _ _).trans (Zk rfl)) (by ext) SG D)))))))
def xt(h:CS Lc (EU x++[f]) J ⟨st,ct,some [],tb⟩ s)(c:x.length<=9)(P:Gg x=none)(Z:MF J J' f)(D:k (.c .Ak) (Hp J' ⟨st,ct,some [C2 Cs,BM (38::x)],tb⟩)):ex BA HU s (sq BA Ea (fin k)):=by
 have U:=h.new (.lst (EU x));show rK (rZ (qT h rfl (by lia) (.inr (aM J _ x rfl U.sa.H (by lia) P (cU ?_)))));have N:=U.asg 166 (.c .Ak) rfl;show bE (aH (aj (aa (N.sa.L 166 _ rfl) (aQ (dt (vg rfl (aa rfl (bH rfl ?_))))))));rw[eF];show yX rfl N (ZF _) λb a=>aec rfl Z a λQ A=>ad9 A rfl rfl (by lia) (ZQ rfl) D
def aea(h:CS l (EU x++[f]) J ⟨st,ct,some q,tb⟩ s)(g:Sx 121 l=some (.ob 64))(z:Sx 176 l=some (.c (.Ae false)))(A:Sx 166 l=some (.c (.str p)))(O:Sx 165 l=some (.c (.int (n:Nat))))(D:x.length<=9)(P:n<=x.length)(j:Qt p a o)(Z:MF J J' f)(SG:q.length<=1000)
  (c:k (.c .Ak) (Hp J' ⟨st,ct,some (q++[BM ((a::o)++x.drop n)]),tb⟩)):ex BA N9 s (sq BA Ea (fin k)):=by
 have U:=j.len;show aG (bK (bB (aj (aa (h.sa.L _ _ A) ?_))));rw[ub];have go:∀ {G:TC},G (.c (.str (a::o))) s->DO (.c (.An Bx)) (.c (.str p)) s G:=λ{G} u=>by
  have k2:=show Ab (sel p Bx) λr=>G (.c r) s from aa j.sel u
  show aa rfl k2
 show go ?_;have q1:∀ {i:Nat} {v w:V},i≠229->Sx i l=some v->Sx i (put 229 w l)=some v:=λhi e=>(ao _ _ _ _).trans ((Zi hi).trans e);show aec (q1 (by ext) g) Z (h.asg 229 (.c (.str (a::o))) rfl) λd N=>?_;have e:BI BA (.Cj (.loc 121) (.loc 165) (.k .Ak)) d λv s=>CL BA (.str []) 2 [v] [] s λy s=>Es 0 (.c (.str (a::o))) y s λv s=>ex BA .skip (Bv s (put 229 v s.L)) (sq BA Ea (fin k)):=by
  show d6 (aj (aa (N.sa.L _ _ (q1 (by ext) g)) (aj (aa (N.sa.L _ _ (q1 (by ext) O)) (aQ ?_)))));have b:(x.drop n).length<=9:=by rw[ZM];show Zh (Wl _ _) D
  have k2:Ce (.lst (slice (EU x) (some n) none)) d λv s=>CL BA (.str []) 2 [v] [] s λy s=>Es 0 (.c (.str (a::o))) y s λv s=>ex BA .skip (Bv s (put 229 v s.L)) (sq BA Ea (fin k)):=by
   rw[lX _ (by rw[ZD];show P), ←List.map_drop];show gc (jh (lq sM) (el _) (ZX (by rw[ZD];change(x.drop n).length+(x.drop n).length*0+0<=_;lia)) (aaI (by change o.length+1+_<=_;show Zh (Z9 (Z1 U) b) (by ext)) (aB (cU ?_))));show mT ((N.new (.lst (EU (x.drop n)))).asg 229 (.c (.str ((a::o)++x.drop n))) rfl) ((ao _ _ _ _).trans ((Zi (by ext)).trans (q1 (by ext) z))) ((ao _ _ _ _).trans (Zk rfl)) j.sp SG c
  show aa (eB N.row) k2
 show fM (aa (N.sa.L _ _ ((ao _ _ _ _).trans (Zk rfl))) (aJ (aQ (aa (a:=M.str []) rfl (ah e)))))
def xr{o:WJ}(h:CS Lc (EU x++[f]) J ⟨st,ct,some [],tb⟩ s)(D:x.length<=9)(P:Gg x=some (d++[z]))(j:Qt (d++[z]) a o)(m:MF J J' f)
  (n:k (.c .Ak) (Hp J' ⟨st,ct,some (Fz (d++[z])++[BM ((a::o)++x.drop (d++[z]).length)]),tb⟩)):ex BA HU s (sq BA Ea (fin k)):=by
 have U:=h.new (.lst (EU x));show rK (rZ (qT h rfl (by lia) (.inl ⟨J,_,x,_,rfl,U.sa.H,by lia,P,cU ?_⟩)));have N:=((U.call (J':=J) (t':=⟨st,ct,some [],tb⟩)).asg 166 (.c (.str (d++[z]))) rfl).asg 165 (.c (.int ((d++[z]).length))) rfl;have g:Sx 166 (put 165 (.c (.int ((d++[z]).length:Nat))) (put 166 (.c (.str (d++[z]))) Lc))=some (.c (.str (d++[z]))):=rfl;show bE (aH (aj (aa (N.sa.L _ _ g) (aQ (dt (vg rfl (aa rfl (aW rfl ?_))))))));rw[eF];have Sw:∀ {s:St} {q:Tz} {G:TC},CS (put 165 (.c (.int ((d++[z]).length:Nat))) (put 166 (.c (.str (d++[z]))) Lc)) (EU x++[f]) J ⟨st,ct,some q,tb⟩ s->G (.c (.Ae (!decide ([z]=[59])))) s->SU BA O7 s (one G):=λ{s q G} h u=>by
  have A:DO (.c (.str (d++[z]))) (.c (.int (-1))) s λa s=>SU BA (kk [59]) s (one λb s=>FH BA 1 a b s λv s=>G (.c (.Ae v)) s):=by
   show show Ab (Co (d++[z]) (-1)) λr=>SU BA (kk [59]) s (one λb s=>FH BA 1 (.c (.str [r])) b s λv s=>G (.c (.Ae v)) s) from aa oO (aQ (dt (aeP u)))
  show aH (bK (aj (aa (h.sa.L _ _ g) (aQ A))))
 have O:∀(q:Tz) (s:St),q=Fz (d++[z])->CS (put 165 (.c (.int ((d++[z]).length:Nat))) (put 166 (.c (.str (d++[z]))) Lc)) (EU x++[f]) J ⟨st,ct,some q,tb⟩ s->ex BA N8 s (sq BA Ea (fin k)):=λq s SG h=>by
  subst SG;have y:(Fz (d++[z])).length<=1000:=by
   unfold Fz;split<;>show ZQ rfl
  have c:=aea (k:=k) h rfl rfl g rfl D ((sZ P).2.length_le) j m y n;show bE (gK (Sw h (aa rfl (bh (λB=>?_) λp=>?_))))
  ·show gK (aj (aa (h.sa.L 176 _ rfl) (aa rfl (bH rfl (aa rfl (bH rfl ?_))))));rw[eF];show c
  ·rw[show(!decide ([z]=[59]))=false from p];show aa rfl (bH rfl ?_);rw[eF];show c
 have Q:Fz (d++[z])=if some z=some 59 then []else [C2 Cr]:=by unfold Fz;rw[List.getLast?_concat]
 show bE (Sw N (aa rfl (bh (λp=>?_) λp=>?_)))
 ·have p:(!decide ([z]=[59]))=true:=p;show yX (i:=7) rfl N (ZF _) λZ w=>aB (cU (O _ Z ?_ w));rw[Q,Zi λe=>by rw[Zf e]at p;show nomatch p];rfl
 ·show aB (cU (O _ _ ?_ N));rw[Q,Zk (T3 some (ZI (Zm (iD (show(!decide ([z]=[59]))=false from p)))).1)]
end
def oP(h:Dw a=true)(p:b<+:a):Dw b=true:=by
 show aA ((fH a).mp h) λx P j=>(fH b).mpr (aO x P (p.trans j))
def F6:WJ->WJ->WJ
 |key,[]=>key
 |key,c::r=>if Dw (key++[c])=true then F6 (key++[c]) r else key
def o6:∀(x k:WJ),(x=[]\/Dw (k++x)=true)->Dw (k++x++[c])=false->F6 k (x++c::r)=k++x
 | [],k,_,h2=>by
  rw[Zu]at h2⊢;change(if Dw (k++[c])=true then _ else k)=k;rw[h2];show Zi (by ext)
 |a::x,k,U,h2=>by
  have U:=U.resolve_left λz=>nomatch z;have e:k++a::x=(k++[a])++x:=by rw[Zo];rfl
  change(if Dw (k++[a])=true then F6 (k++[a]) (x++c::r)else k)=_;rw[Zk (show Dw (k++[a])=true from oP U (e▸List.prefix_append _ _)),e];rw[e]at U h2;show o6 x (k++[a]) (.inr U) h2
def o7:∀(x k:WJ),(x=[]\/Dw (k++x)=true)->F6 k x=k++x
 | [],k,_=>(Zu k).symm
 |a::x,k,U=>by
  have U:=U.resolve_left λz=>nomatch z;have e:k++a::x=(k++[a])++x:=by rw[Zo];rfl
  change(if Dw (k++[a])=true then F6 (k++[a]) x else k)=_;rw[Zk (show Dw (k++[a])=true from oP U (e▸List.prefix_append _ _)),e];replace U:=e▸U;show o7 x (k++[a]) (.inr U)
def Jt(p:WJ):WJ:=Option.rec [] (λf=>Option.rec [] (λo=>o) (aS f)) (sel p Bx)
def GU(x:WJ):Tz:=match Gg x with
 |none=>[C2 Cs,BM (38::x)]
 |some p=>Fz p++[BM (Jt p++x.drop p.length)]
abbrev IM:WJ:=[9,10,12,32,13,60,38]
def Gs(r:WJ):WJ:=match r with
 | []=>[]
 |c::r=>if c∈IM then []else F6 [] (c::r)
def Fj(r:WJ):Tz:=match r with
 | []=>[BM [38]]
 |c::r=>if c∈IM then [BM [38]]else GU (F6 [] (c::r))
def MU:Aq:=λu z H k=>∃J st l tb d r e m,u=[.ob 1]/\z=[]/\H=Hp J ⟨st,l,some [],tb⟩/\(∀a,r≠35::a)/\View J d r e m/\
 ∀Z A O,A+O=e+m->O<=m->(J.off=J.size->O=0)->View Z (d++Gs r) (r.drop (Gs r).length) A O->k (.c .Ak) (Hp Z ⟨st,l,some (Fj r),tb⟩)
def Jj(u:TA)(z:WJ):Option Tw:=Bool.rec none (BK (Sp u) λx=>[(292,x),(97,.c .Ak),(176,.c (.Ae false))]) (!BE z)
def xF(h:Jj u z=some N):∃x,u=[x]/\z=[]/\N=[(292,x),(97,.c .Ak),(176,.c (.Ae false))]:=by
 induction z using Re with
 |cons _ _=>show aw h
 |nil=>show aA (aZ h) λx e P=>?_;subst P;show(ck x (mo e) rfl rfl)
def pa{st:Nat}{l:Ct}(h:CS Lc (EU x++[f]) J ⟨st,l,some [],tb⟩ s)(e:x.length<=9)(c:MF J Z f)
  (D:k (.c .Ak) (Hp Z ⟨st,l,some (GU x),tb⟩)):ex BA HU s (sq BA Ea (fin k)):=by
 unfold GU at D;cases P:Gg x with
 |none=>replace D:=P▸D;show xt h e P c D
 |some p=>
  replace D:=P▸D;show ip (mq (sZ P).1) λa o j=>?_;have b:=List.dropLast_concat_getLast j.ne;have N:Jt p=a::o:=by unfold Jt;rw[j.sel];rfl
  have D:k (.c .Ak) (Hp Z ⟨st,l,some (Fz p++[BM (Jt p++x.drop p.length)]),tb⟩):=D;replace D:=N▸D;generalize p.dropLast=p0 at b;generalize p.getLast j.ne=z at b;clear N;subst b;show xr h e P j c D
def xu{st:Nat}{n:Ct}(h:CS Lc (EU [c]) J ⟨st,n,some [],tb⟩ s)(v:View J (d++[c]) r e m)(j:0<J.off)(N:e+m=u)(C:m<=g)
  (D:∀Z A O,A+O=u->O<=g->View Z (d++F6 [] (c::r)) ((c::r).drop (F6 [] (c::r)).length) A O->k (.c .Ak) (Hp Z ⟨st,n,some (GU (F6 [] (c::r))),tb⟩)) (q:∀s,R6 BA G2 Gx (sq BA HU (sq BA Ea (fin k))) P s->P s):P s:=by
 show pb q r [] c J e m s h (ZF _) v j N C (λy Q w Z A O q1 q2 a f b i t x l=>?_) λZ A O a f b i x l=>?_
 ·have q1:c::r=y++Q::w:=by rw[show c::r=([]++[c])++r from rfl,q1,Zo];rfl
  have B:F6 [] (c::r)=y:=by rw[q1];show o6 y [] q2 a
  rw[B,q1,YU]at D;show cu (View.ir (by rw[Zo];show i) t) λU E p=>?_;have o:EU (y++[Q])=EU y++[.str [Q]]:=by change List.map _ _=_;rw[Z7];rfl
  rw[o]at l;show cU (pa l (q2.elim (λz=>by rw[z];show ZF _) jv) (.inr (aY Q rfl U E rfl)) (D _ A O f b p))
 ·have a:=a;rw[show F6 [] (c::r)=c::r from o7 _ [] (.inr a),List.drop_length]at D;show cU (pa l (jv a) (.inl ⟨rfl,rfl⟩) (D Z A O f b i))
def acs(h:c∈Dj):c∈IM:=XM [60,38] h
def sR:CT (.str [c]) [.Ak,.str [60],.str [38]]=some (decide (c=60)||decide (c=38)):=by
 change some (Bool.rec (Bool.rec false true (Cn [38] [c])) true (Cn [60] [c]):Bool)=_;rw[aE,aE];by_cases h:c=60
 ·rw[h];rfl
 ·rw[(Zs λz:[60]=[c]=>h (ZI z).1.symm),Zs h];by_cases h:c=38
  ·rw[h];rfl
  ·rw[(Zs λz:[38]=[c]=>h (ZI z).1.symm),Zs h];rfl
def zW(h:(decide (c=60)||decide (c=38))=true):c∈IM:=by
 rcases Yq _ _▸h with h|h<;>(rw[Zm h];decide)
def acF(h:c∉Dj)(N:(decide (c=60)||decide (c=38))=false):c∉IM:=λz=>by
 show zA (Bool.or_eq_false_iff.mp N) λD A=>?_;rcases Yi (s:=Dj) |>.mp z with z|z
 ·show h z
 ·rcases Zb z with z|z
  ·show ZA D z
  ·show ZA A (Za z)
def yW{st:Nat}{l:Ct}(h:CS Lc [f] J ⟨st,l,some [],tb⟩ s)(SG:f=.Ak\/∃c,f=.str [c]/\c∈IM)(a:MF J Z f)(D:k (.c .Ak) (Hp Z ⟨st,l,some [BM [38]],tb⟩)):ex BA L8 s (fin k):=by
 have d:∀ {G:TC},G (.c f) s->SU BA Kw s (one G):=λu=>bK (aj (aa (h.sa.L 121 _ rfl) (aQ (aa rfl (aa h.row (aa rfl (aa rfl u)))))));have go:ex BA (.seq (.ex (.Al (.Bb (.loc 292) 305) 321 (.cons Kw .nil) [])) .skip) s (sq BA Ea (fin k)):=by
  have O:C4 BA (.ob 2) 321 [] s=some (.fn 163 (.ob 2)):=kz h.sa.LN rfl rfl;show d3 (aJ (ba (aj (aa h.sa.o (aP h.sa.DH rfl rfl (aa O (ah (d (au (eR ?_))))))))));have fn:∀j,CS Lc [f] Z ⟨st,l,some [],tb⟩ j->ex BA .skip j (sq BA Ea (fin k)):=λj b=>aB (cU (mT b rfl rfl (by ext) (ZF _) D));rcases a with ⟨rfl,rfl⟩|⟨c,rfl,U,N,rfl⟩
  ·show dE Z _ rfl rfl h.sa.H (.inl (bG Z _ rfl rfl rfl (fn _ h.call)))
  ·show dE J _ rfl rfl h.sa.H (.inr (cF J _ c rfl rfl rfl U N (fn _ h.call)))
 have Se:∀ {G:TC},G (.c (.tup [.Ak,.str [60],.str [38]])) s->SU BA (.tup (.cons (.BR (.c .Ak)) (.cons (kk [60]) (.cons (kk [38]) .nil)))) s (one G):=λu=>dW (ah (bB (ah (aQ (ah (aQ (au (aa rfl (aW rfl u)))))))));show bE (pZ (aH (d (bB (dt ?_)))));rcases SG with rfl|⟨c,rfl,e⟩
 ·show ri rfl (aa rfl (bH rfl (pZ (aH (d (Se (dt (ri rfl (aa rfl (aW rfl (aa rfl (aW rfl go))))))))))))
 ·show vf rfl (aa rfl (bh (λq=>aa rfl (aW q go)) λq=>?_));have g:(decide (c=60)||decide (c=38))=true:=by
   cases z:(decide (c=60)||decide (c=38))with
   |true=>rfl
   |false=>show T4 e (acF (ZA q) z)
  show pZ (aH (d (Se (dt (ri sR (aa rfl (aW g (aa rfl (aW g go)))))))))
def ad7{st:Nat}(h:CS Lc [.str [c]] J ⟨st,l,some [],tb⟩ s)(SG:c∉IM)(g:c≠35)(D:∀P:TF,(∀s,R6 BA G2 Gx (sq BA HU (sq BA Ea (fin k))) P s->P s)->P s):ex BA L8 s (fin k):=by
 have d:∀ {G:TC},G (.c (.str [c])) s->SU BA Kw s (one G):=λu=>bK (aj (aa (h.sa.L 121 _ rfl) (aQ (aa rfl (aa h.row (aa rfl (aa rfl u)))))));have n2:(decide (c=60)||decide (c=38))=false:=by
  cases z:(decide (c=60)||decide (c=38))with
  |false=>rfl
  |true=>show T4 (zW z) SG
 show bE (pZ (aH (d (bB (dt (vf rfl (aa rfl (bH (Zs λz=>SG (acs z)) (pZ (aH (d ((show∀ {G:TC},G (.c (.tup [.Ak,.str [60],.str [38]])) s->SU BA (.tup (.cons (.BR (.c .Ak)) (.cons (kk [60]) (.cons (kk [38]) .nil)))) s (one G) from λu=>dW (ah (bB (ah (aQ (ah (aQ (au (aa rfl (aW rfl u)))))))))) (dt (ri sR (aa rfl (bH n2 (gK (aH (aj (aa (h.sa.L 97 _ rfl) (aQ (dt (vg rfl (aa rfl (bH rfl (aa rfl (bH rfl (bE (aH (d (aQ (dt (vi (aa rfl (bH (Zs g) ?_)))))))))))))))))))))))))))))))))));rw[eF];show i4 D
def afu(xs kws H k)(h:MU xs kws H k):Ab (Jj xs kws) λB=>ex BA Br ⟨B,H,64,false⟩ (fin k):=by
 obtain⟨J,st,l,tb,d,r,e,m,rfl,rfl,rfl,w,v,D⟩:=h;have Q:SA [(97,.c .Ak),(176,.c (.Ae false)),(229,.c (.str [38]))] J ⟨st,l,some [],tb⟩ ⟨[(292,.ob 1),(97,.c .Ak),(176,.c (.Ae false)),(229,.c (.str [38]))],Hp J ⟨st,l,some [],tb⟩,64,false⟩:=ig rfl;have g:∀(Z:Sm) (f:FV),CS Lc [f] Z ⟨st,l,some [],tb⟩ ⟨put 121 (.ob 64) [(292,.ob 1),(97,.c .Ak),(176,.c (.Ae false)),(229,.c (.str [38]))],(64,.lst [f])::Hp Z ⟨st,l,some [],tb⟩,65,false⟩:=λZ f=>
  ⟨⟨rfl,(ig (J:=J) (t:=⟨st,l,some [],tb⟩) rfl).L,by rw[b7,Zi (show¬64<64 by ext)];show bZ _ _,YX 64⟩,sM,Zq _⟩
 show aa rfl (aG (aQ (aG (d7 (ah ?_)))));show aJ (ba (aj (aa Q.o (aP Q.DH rfl rfl (aa (show C4 BA (.ob 2) 119 [] ⟨[(292,.ob 1),(97,.c .Ak),(176,.c (.Ae false)),(229,.c (.str [38]))],Hp J ⟨st,l,some [],tb⟩,64,false⟩=some (.fn 133 (.ob 2)) from kz Q.LN rfl rfl) (au (eR (eh J _ rfl rfl rfl (bJ J _ d r e m rfl rfl rfl v λb U m1 N n i=>?_)))))))));cases r with
 |nil=>
  intro y;show au (aa (a:=([.Ak],_)) rfl (aW rfl (gc (yW (g b .Ak) (.inl rfl) (.inl ⟨rfl,rfl⟩) (D b U m1 N n i y.nil)))))
 |cons c r=>
  intro y Sp;show au (aa (a:=([.str [c]],_)) rfl (aW rfl (gc ?_)));by_cases SG:c∈IM
  ·show cu (y.ir Sp) λp C u=>?_;rw[show Gs (c::r)=[] from Zk SG,show Fj (c::r)=[BM [38]] from Zk SG]at D;show yW (g b (.str [c])) (.inr (aO c rfl SG)) (.inr (aY c rfl p C rfl)) (D _ U m1 N n i u.nil)
  ·rw[show Gs (c::r)=F6 [] (c::r) from Zi SG,show Fj (c::r)=GU (F6 [] (c::r)) from Zi SG]at D;show ad7 (g b (.str [c])) SG (show c≠35 from λz=>w r (z▸rfl)) λP x=>xu (g b (.str [c])) y Sp rfl (Zq _) (λZ A O q o=>D Z A O (q.trans N) (Zh o n) λz=>Wq.mp (i z▸o)) x
def Iu:List (Nat×Aq):=(283,MU)::Cm
def NS:G:=Ax Iu
def DT(st:Nat)(l:Ct)(tb:TK)(r:WJ):Out:=⟨true,st,tb,Fj r,Gs r,r.drop (Gs r).length,l⟩
def Gz(_:Ct)(_:TK)(r:WJ):Prop:=∀u,r≠35::u
def Li(y:Nat):S:=.seq (.ex (.Al (.loc 292) 142 .nil [])) (.seq (Cv y) Mj)
def ue{B K y:Nat}(U:GQ y B)(xs kws H k)(h:Fx K (DT B) Gz xs kws H k):Ab (Ah [292] xs kws) λN=>ex NS (Li y) ⟨N,H,64,false⟩ (fin k):=by
 show bg h λJ l tb d r e m A Q g v u D=>?_;clear h;subst A Q g;replace D:=λZ a O n f P=>D Z a O n f λc=>P;have b:SA [] J ⟨K,l,some [],tb⟩ ⟨[(292,.ob 1)],Hp J ⟨K,l,some [],tb⟩,64,false⟩:=⟨rfl,λc c e=>(nomatch e),bZ _ _,Zq _⟩
 have q:C4 NS (.ob 1) 142 [] ⟨[(292,.ob 1)],Hp J ⟨K,l,some [],tb⟩,64,false⟩=some (.fn 283 (.ob 1)):=by
  show kz b.DH (ny _ rfl) rfl
 show aa rfl (d3 (aJ (aj (aa rfl (aa q (au (eR (dE J _ rfl rfl b.H ⟨J,K,l,tb,d,r,e,m,rfl,rfl,rfl,u,v,λZ a O i p t o=>?_⟩))))))));show dB (kM U.1 U.2 (bp (D Z a O i p t o)) _ _ (b.call Z ⟨K,l,some (Fj r),tb⟩) fY)
def Az:S:=Li 259
def Bk:S:=Li 146
def HI:Aq:=Fx 325 (DT 318) Gz
def IG:Aq:=Fx 311 (DT 304) Gz
def qF(xs kws H k)(h:HI xs kws H k):Ab (Ah [292] xs kws) λN=>ex NS Az ⟨N,H,64,false⟩ (fin k):=ue ⟨rfl,rfl⟩ xs kws H k h
def uk(xs kws H k)(h:IG xs kws H k):Ab (Ah [292] xs kws) λN=>ex NS Bk ⟨N,H,64,false⟩ (fin k):=ue ⟨rfl,rfl⟩ xs kws H k h
end
end Mine.A
namespace Mine.B
section
open Mine.A
open Mine.Head
def cJ{y:Type}(x:y){l:List y}(h:l.length<=4):∃a b c d,l=[a,b,c,d].take l.length:=by
 induction l using Re with
 |nil=>show(bR x x x x rfl)
 |cons a l=>
  induction l using Re with
  |nil=>show(bR a x x x rfl)
  |cons b l=>
   induction l using Re with
   |nil=>show(bR a b x x rfl)
   |cons c l=>
    induction l using Re with
    |nil=>show(bR a b c x rfl)
    |cons d l=>
     induction l using Re with
     |nil=>show(bR a b c d rfl)
     |cons e l=>show T4 h (Nat.not_le_of_lt (Xv (Xv (Xv (Xv (YB _))))))
def acR{y:Type}{l:List y}(h:l.isEmpty=true){t:y}(N:t∈l){p:Prop}:p:=by
 rw[Ze h]at N;show(Yl N).elim
def My(P:Wx)(y:Nat)(Q:WJ):S×Bool×Bool×Bool:=(cB SY (fd P y).scope 60 (Ap (fd P y)),(fd P y).scope.isGenerator,(Fe SY 60 (Ap (fd P y))).isEmpty,CD (fd P y) Q)
def CF(P:Wx)(y:Nat)(Q:WJ)(x:S):Prop:=
 (My P y Q,λa b c d=>bindArgs (fd P y) ⟨[a,b,c,d].take Q.length,[]⟩)=((x,false,true,true),λa b c d=>pure ((Q.map nm).zip ([a,b,c,d].take Q.length)))
def Ht(fd:FuncData)(Z:TN): {k:Option (Array Wv)->Sem TO // bindArgs fd ⟨Z,[]⟩=seqItems? fd.defaults>>=k}:=⟨_,rfl⟩
def SX(f:FV):Wv:=FV.casesOn (motive_1:=λZ=>Wv) f .none (λb=>.bool b) (λZ=>.none) (λZ=>.none) (λZ=>.none) (λZ=>.none) (λZ=>.none)
def LM(f:FV):Bool:=FV.casesOn (motive_1:=λZ=>Bool) f true (λZ=>true) (λZ=>false) (λZ=>false) (λZ=>false) (λZ=>false) (λZ=>false)
def adV{O:Gh}{y:Tz}(h:y.all LM=true):Cw (Ai w).Aa (Ai w).w O (y.map SX) (y.map .c):=by
 induction y with
 |nil=>show .nil
 |cons f y Q=>
  show zA (ar h) λU N=>?_;show .cons ?_ (Q N);induction f using FV.casesOn with
  |Ak=>show dq .Ak
  |Ae b=>show dq (.Ae b)
  |_=>show a7 U
def Ft(P:Wx)(y:Nat):Option (Array Wv):=Af (JF (fd P y).defaults) λa=>Bool.rec none (BK (Kc (Ck P a).data) λp=>p.1) (Nat.blt a 841)
def jW{z:Array Wv}(h:Ft w.params y=some z)(l:∀a o,(Ai w).base.get? a=some o->s.heap.get? a=some o)
  (b:(Ht (fd w.params y) Z).1 (some z)=pure j):BindsTo s (fd w.params y) ⟨Z,[]⟩ j:=by
 show aA (ax h) λa e h=>?_;have h:(Bool.rec none (BK (Kc (Ck w.params a).data) λp=>p.1) (Nat.blt a 841):Option (Array Wv))=some z:=h;cases q:Nat.blt a 841 with
 |false=>replace h:=q▸h;show aw h
 |true=>
  replace h:=q▸h;show aA (aZ h) λp U P=>?_;subst P;show BindsTo.of_defaults (iX e) (l _ _ (bq _ (cb q))) (uv U) (Ht (fd w.params y) Z).2 b
def aeh{y:Nat}(D:CD (fd w.params y) Q=true)(hd:Ft w.params y=some v)
  (U:∀Z:TN,Z.length=Q.length->(Ht (fd w.params y) Z).1 (some v)=pure ((Q.map nm).zip Z)):Hx w y (Ah Q):=by
 intro O s Z c a e _ l N b;show cu (pk b) λz u P=>?_;subst z P;show jT D N (by rw[aR];show jW hd l (U Z ((gD N).trans u)))
def yY{ds:Tz}(D:CD (fd w.params A) pn=true)(N:ds.all LM=true)(hd:Ft w.params A=some (ds.map SX).toArray)
  (U:∀Z:TN,Z.length=xs.length->(Ht (fd w.params A) Z).1 (some (ds.map SX).toArray)=pure ((pn.map nm).zip (Z++ds.map SX))) {O:Gh} (l:∀a o,(Ai w).base.get? a=some o->s.heap.get? a=some o) (y:Cw (Ai w).Aa (Ai w).w O Z xs):
  ∃j,BindsTo s (fd w.params A) (Bj (Ai w) Z []) j/\(∀x∈j,(fd w.params A).scope.names.lookup x.1=some .local)/\∀n v,Sx n (pn.zip (xs++ds.map .c))=some v->∃u,j.reverse.lookup ((Ai w).nm n)=some u/\RV (Ai w).Aa (Ai w).w O u v:=
 jT D (y.app (adV N)) (by rw[aR];show jW hd l (U Z (gD y)))
def xG{u:TA}(h:Ed Q d u z=some N):z=[]/\(u.length=Q.length/\N=Q.zip u\/u.length+1=Q.length/\N=Q.zip (u++[.c d])):=by
 induction z using Re with
 |cons _ _=>show aw h
 |nil=>
  show⟨rfl,?_⟩;have h:(Bool.rec (Bool.rec none (some (Q.zip (u++[.c d]))) (beq (u.length+1) Q.length)) (some (Q.zip u)) (beq u.length Q.length):Option Tw)=some N:=h;cases q:beq u.length Q.length with
  |true=>rw[q]at h;show .inl ⟨ZC q,(Zf h).symm⟩
  |false=>
   rw[q]at h;have h:(Bool.rec none (some (Q.zip (u++[.c d]))) (beq (u.length+1) Q.length):Option Tw)=some N:=h;cases q2:beq (u.length+1) Q.length with
   |true=>rw[q2]at h;show .inr ⟨ZC q2,(Zf h).symm⟩
   |false=>rw[q2]at h;show aw h
def uK{a:Nat}(D:CD (fd w.params a) Q=true)(N:LM j=true)(hd:Ft w.params a=some ([j].map SX).toArray)
  (U:∀Z:TN,Z.length=Q.length->(Ht (fd w.params a) Z).1 (some ([j].map SX).toArray)=pure ((Q.map nm).zip Z))
  (f:∀Z:TN,Z.length+1=Q.length->(Ht (fd w.params a) Z).1 (some ([j].map SX).toArray)=pure ((Q.map nm).zip (Z++[SX j]))):Hx w a (Ed Q j):=by
 intro O s Z u c i _ l y P;show zA (xG P) λz b=>?_;subst z;obtain⟨e,rfl⟩|⟨e,rfl⟩:=b
 ·show jT D y (by rw[aR];show jW hd l (U Z ((gD y).trans e)))
 ·show yY D (ds:=[j]) (by rw[YR,N];rfl) hd (λZ h=>f Z ((T3 (· +1) h).trans e)) l y
section
variable {w:Wy}{mg mb:Wu->TM}{g:G}{d:Nat}
def iS(T:TopRead pw Sy mg mb (H1 w.params))(U:CV (Ai w) g (K w.params) SY Sy mg mb d){a:Nat}(v:Dy.any (beq a)=true){x:S}(h:My w.params a Q=(x,false,true,true)){y:TA->WJ->Option Tw}(P:Hx w a y){D:A.Aq}
  (l:∀u z H k,D u z H k->Ab (y u z) λN=>ex g x ⟨N,H,64,false⟩ (fin k)):AB false (Ai w) a (d+2) D:=
 uG T U v (T3 Prod.fst h) (T3 (λp=>p.2.1) h) (λZ Z Z Z Z Z b=>acR (T3 (λp=>p.2.2.1) h) b) P l
theorem CF.DL(h:CF w.params y Q x)(j:Q.length<=4):Hx w y (Ah Q):=
 f6 Q (T3 (λp=>p.1.2.2.2) h) λZ N=>by
  show bu (cJ Value.none (l:=Z) (by rw[N];show j)) λa b c d e=>?_;rw[e,N];show XA (XA (XA (XA (T3 Prod.snd h) a) b) c) d
def aV(T:TopRead pw Sy mg mb (H1 w.params))(U:CV (Ai w) g (K w.params) SY Sy mg mb d){Q:WJ}{x:S}(h:CF w.params y Q x)(v:and (Dy.any (beq y)) (ble Q.length 4)=true){D:A.Aq}
  (l:∀u z H k,D u z H k->Ab (Ah Q u z) λN=>ex g x ⟨N,H,64,false⟩ (fin k)):AB false (Ai w) y (d+2) D:=
 iS T U (ar v).1 (T3 Prod.fst h) (h.DL (bz (ar v).2)) l
end
def jE(P:Wx):CF P 84 [134] CQ:=show _=_ by left
def aaR(P:Wx):CF P 70 [292,296] EA:=show _=_ by left
def kT(P:Wx):CF P 119 [292,221] AY:=show _=_ by left
def kW(P:Wx):CF P 63 [292,311] CY:=show _=_ by left
def wR(P:Wx):CF P 105 [292] Bn:=show _=_ by left
def wO(P:Wx):CF P 163 [292,119] Bm:=show _=_ by left
def jC(P:Wx):CF P 112 [292,299] AR:=show _=_ by left
def gX(P:Wx):CF P 126 [292] Bc:=show _=_ by left
def aaT(P:Wx):CF P 148 [292,145] Aw:=show _=_ by left
def mL(P:Wx):CF P 98 [292,299] Be:=show _=_ by left
def aaX(P:Wx):CF P 133 [292] Bq:=show _=_ by left
def jF(P:Wx):CF P 42 [311] DN:=show _=_ by left
def aaU(P:Wx):CF P 297 [292] Bh:=show _=_ by left
def aaW(P:Wx):CF P 199 [292,190] B5:=show _=_ by left
def adJ(P:Wx):CF P 220 [292,242] By:=show _=_ by left
def t6(P:Wx):CF P 227 [292,242] BS:=show _=_ by left
def aaV(P:Wx):CF P 304 [292] BG:=show _=_ by left
def t7(P:Wx):CF P 311 [292] Bk:=show _=_ by left
def tY(P:Wx):CF P 318 [292] Bz:=show _=_ by left
def qw(P:Wx):CF P 325 [292] Az:=show _=_ by left
def adH(P:Wx):CF P 332 [292] Bu:=show _=_ by left
def wX(P:Wx):CF P 346 [292] Bo:=show _=_ by left
def qu(P:Wx):CF P 367 [292] Bt:=show _=_ by left
def aaS(P:Wx):CF P 374 [292] AI:=show _=_ by left
def wU(P:Wx):CF P 381 [292] AN:=show _=_ by left
def wW(P:Wx):CF P 395 [292] AF:=show _=_ by left
def tZ(P:Wx):CF P 402 [292] AK:=show _=_ by left
def t8(P:Wx):CF P 535 [292] AG:=show _=_ by left
def wQ(P:Wx):CF P 591 [292] AE:=show _=_ by left
def wZ(P:Wx):CF P 598 [292] Bg:=show _=_ by left
def MQ(s:WG):Bool:=match s with
 | .Assign ts e _=>match ts with
  | []=>false
  |t::r=>and r.isEmpty (and (Fo t) (Dv e))
 |_=>false
def Mp(P:Wx)(y:Nat)(x:S):Prop:=((cB SY (fd P y).scope 60 (Ap (fd P y)),(fd P y).scope.isGenerator,(Fe SY 60 (Ap (fd P y))).all MQ,CD (fd P y) [292]),λa=>bindArgs (fd P y) ⟨[a],[]⟩)=((x,false,true,true),λa=>pure (([292].map nm).zip [a]))
def wF(h:Fo t=true):∃o x q,t=.Attribute o x q:=by
 cases t with
 |Attribute o x q=>show(gp o x q rfl)
 |_=>show a7 h
def zH(h:MQ s=true):∃o x A e q,s=.Assign [.Attribute o x A] e q/\Dv e=true:=by
 cases s with
 |Assign y e q=>
  cases y with
  |nil=>show a7 h
  |cons t r=>
   show zA (ar h) λU N=>?_;show zA (ar N) λN D=>?_;obtain⟨o,x,A,rfl⟩:=wF N;cases Ze U;show⟨o,x,A,e,q,rfl,D⟩
 |_=>show a7 h
section
variable {w:Wy}{mg mb:Wu->TM}{g:G}{d:Nat}
theorem Mp.DL{y:Nat}(h:Mp w.params y x):Hx w y (Ah [292]):=
 f6 [292] (T3 (λp=>p.1.2.2.2) h) λZ N=>by
  show bu (cJ Value.none (l:=Z) (by rw[N];decide)) λa b c d e=>?_;rw[N]at e;subst e;show XA (T3 Prod.snd h) a
def pe(T:TopRead pw Sy mg mb (H1 w.params))(U:CV (Ai w) g (K w.params) SY Sy mg mb d)(h:Mp w.params y x)(v:Dy.any (beq y)=true){D:A.Aq}
  (l:∀u z H k,D u z H k->Ab (Ah [292] u z) λb=>ex g x ⟨b,H,64,false⟩ (fin k)):AB true (Ai w) y (d+2) D:=
 uG (x:=x) T U v (T3 (λp=>p.1.1) h) (T3 (λp=>p.1.2.1) h) (λf Z a Z Z t N m=>by
  obtain⟨o,x,c,e,q,rfl,hd⟩:=zH (Zd (T3 (λp=>p.1.2.2.1) h) t N);show xH U a hd m) h.DL l
end
def qt(P:Wx):Mp P 353 Bs:=show _=_ by left
def gY(P:Wx):Mp P 360 Bf:=show _=_ by left
def wV(P:Wx):Mp P 388 AP:=show _=_ by left
def t4(P:Wx):Mp P 409 AL:=show _=_ by left
def eA(P:Wx):(My P 141 [292,131],Ft P 141)=((AX,false,true,true),some ([FV.Ak].map SX).toArray):=by left
def jx(P:Wx)(a b:Wv):(Ht (fd P 141) [a,b]).1 (some ([FV.Ak].map SX).toArray)=pure (([292,131].map nm).zip [a,b]):=by left
def jw(P:Wx)(a:Wv):(Ht (fd P 141) [a]).1 (some ([FV.Ak].map SX).toArray)=pure (([292,131].map nm).zip ([a]++[SX (.Ak)])):=by left
def jU(w:Wy):Hx w 141 (Ed [292,131] (.Ak)):=uK (T3 (λp=>p.1.2.2.2) (eA w.params)) rfl (T3 Prod.snd (eA w.params)) (λZ h=>by show bu (cJ Value.none (l:=Z) (by rw[h];decide)) λa b c d e=>?_;rw[h]at e;subst e;show jx _ a b) λZ h=>by show bu (cJ Value.none (l:=Z) (by rw[Nat.succ.inj h];decide)) λa b c d e=>?_;rw[Nat.succ.inj h]at e;subst e;show jw _ a
def dQ(P:Wx):(My P 156 [292,124,225],Ft P 156)=((AS,false,true,true),some ([FV.Ae false].map SX).toArray):=by left
def ik(P:Wx)(a b c:Wv):(Ht (fd P 156) [a,b,c]).1 (some ([FV.Ae false].map SX).toArray)=pure (([292,124,225].map nm).zip [a,b,c]):=by left
def ij(P:Wx)(a b:Wv):(Ht (fd P 156) [a,b]).1 (some ([FV.Ae false].map SX).toArray)=pure (([292,124,225].map nm).zip ([a,b]++[SX (.Ae false)])):=by left
def il(w:Wy):Hx w 156 (Ed [292,124,225] (.Ae false)):=uK (T3 (λp=>p.1.2.2.2) (dQ w.params)) rfl (T3 Prod.snd (dQ w.params)) (λZ h=>by show bu (cJ Value.none (l:=Z) (by rw[h];decide)) λa b c d e=>?_;rw[h]at e;subst e;show ik _ a b c) λZ h=>by show bu (cJ Value.none (l:=Z) (by rw[Nat.succ.inj h];decide)) λa b c d e=>?_;rw[Nat.succ.inj h]at e;subst e;show ij _ a b
def dR(P:Wx):(My P 261 [292,305,232],Ft P 261)=((BJ,false,true,true),some ([FV.Ak].map SX).toArray):=by left
def kL(P:Wx)(a b c:Wv):(Ht (fd P 261) [a,b,c]).1 (some ([FV.Ak].map SX).toArray)=pure (([292,305,232].map nm).zip [a,b,c]):=by left
def kK(P:Wx)(a b:Wv):(Ht (fd P 261) [a,b]).1 (some ([FV.Ak].map SX).toArray)=pure (([292,305,232].map nm).zip ([a,b]++[SX (.Ak)])):=by left
def gj(w:Wy):Hx w 261 (Ed [292,305,232] (.Ak)):=uK (T3 (λp=>p.1.2.2.2) (dR w.params)) rfl (T3 Prod.snd (dR w.params)) (λZ h=>by show bu (cJ Value.none (l:=Z) (by rw[h];decide)) λa b c d e=>?_;rw[h]at e;subst e;show kL _ a b c) λZ h=>by show bu (cJ Value.none (l:=Z) (by rw[Nat.succ.inj h];decide)) λa b c d e=>?_;rw[Nat.succ.inj h]at e;subst e;show kK _ a b
def wY(P:Wx):((cB SY (fd P 283).scope 60 (Ap (fd P 283)),(fd P 283).scope.isGenerator,CD (fd P 283) [292,97,176]),Ft P 283)=((Br,false,true),some ([FV.Ak,.Ae false].map SX).toArray):=by left
def ads(P:Wx)(v:Wv):(Ht (fd P 283) [v]).1 (some ([FV.Ak,.Ae false].map SX).toArray)=pure (([292,97,176].map nm).zip ([v]++[FV.Ak,.Ae false].map SX)):=by left
def aei(w:Wy):Hx w 283 Jj:=by
 intro O s Z u f m _ i N k;show bM (xF k) λx Q P z=>?_;subst Q P z;show yY (pn:=[292,97,176]) (ds:=[.Ak,.Ae false]) (xs:=[x]) (T3 (λp=>p.1.2.2) (wY w.params)) rfl (T3 Prod.snd (wY w.params)) (λZ h=>by
  show bu (cJ Value.none (l:=Z) (by rw[h];show Z1 (ZF 3))) λa b c d e=>?_;rw[h]at e;subst e;show ads _ a) i N
def o5(P:Wx):(My P 178 [268,190,204,183],(Ft P 178).isSome,λa b c d=>(Ht (fd P 178) [a,b,c,d]).1 (Ft P 178))=((Dt,false,true,true),true,λa b c d=>pure (([268,190,204,183].map nm).zip [a,b,c,d])):=by left
def abn(w:Wy):Hx w 178 (Ah [268,190,204,183]):=by
 show zE (Option.isSome_iff_exists.mp ((T3 (λp=>p.2.1) (o5 w.params):(Ft w.params 178).isSome=true))) λz e=>?_;have h:=T3 (λp=>p.2.2) (o5 w.params);dsimp only at h e;rw[e]at h;show aeh (T3 (λp=>p.1.2.2.2) (o5 w.params)) e λZ N=>?_;show bu (cJ Value.none (l:=Z) (by rw[N];decide)) λa b c d e=>?_;rw[N]at e;subst e;show XA (XA (XA (XA h a) b) c) d
def fm{y:Type}{P:y->Prop}{a:y}{l:List y}(h:P a)(k:∀x∈l,P x):∀x∈a::l,P x:=Zc ⟨h,k⟩
def uB(n:Nat):g0.canon n<64:=by
 change(Option.rec 0 (λa=>a) (Sx n F9):Nat)<64;cases q:Sx n F9 with
 |none=>decide
 |some v=>
  have:=Zd ((by decide:(F9.all λp=>Nat.blt p.2 64)=true)) _ (fD q);show cb this
section
variable {w:Wy}{mg mb:Wu->TM}
def uE(h:∀p∈j,AB false (Ai w) p.1 d p.2)(y:Nat):AB false (Ai w) y d (B9 j y):=by
 unfold B9;cases q:Sx y j with
 |none=>intro U O H s A Z u z k R r N l v;show v.elim
 |some g=>show h _ (fD q)
def cv(T:TopRead pw Sy mg mb (H1 w.params))(h:∀p∈j,AB false (Ai w) p.1 d p.2):CV (Ai w) (Ax j) (K w.params) SY Sy mg mb d:=by
 have g:=yL w;show⟨ctx T,⟨g.own,g.cls,g.Gy,g.FA,g.Gp,g.con,g.Jy,g.fn,g.mn⟩,λn=>?_,λy=>uE h y,λZ Z Z Z Z h=>h⟩;change g0.canon n<64;show uB n
def e7(T:TopRead pw Sy mg mb (H1 w.params)):CV (Ai w) g0 (K w.params) SY Sy mg mb 0:=by
 show⟨ctx T,yL w,uB,λy=>?_,λZ Z Z Z Z h=>h⟩;intro U O H s A a u z k R r N l v;show v.elim
def nE(T:TopRead pw Sy mg mb (H1 w.params)):∀p∈JL,AB false (Ai w) p.1 2 p.2:=by
 unfold JL;show fm (aV T (e7 T) (jE _) rfl (jJ g0)) ?_;show fm (aV T (e7 T) (aaR _) rfl aa2) ?_;show fm (aV T (e7 T) (kT _) rfl lg) ?_;show fm (aV T (e7 T) (kW _) rfl lh) ?_;show fm (aV T (e7 T) (wR _) rfl xd) ?_;show fm (aV T (e7 T) (wO _) rfl w8) ?_;show λp j=>nomatch j
def vt(T:TopRead pw Sy mg mb (H1 w.params)):CV (Ai w) g1 (K w.params) SY Sy mg mb 2:=cv T (nE T)
def nB(T:TopRead pw Sy mg mb (H1 w.params)):∀p∈JK,AB false (Ai w) p.1 4 p.2:=by
 unfold JK;show fm (aV T (vt T) (jC _) rfl jI) ?_;show fm (aV T (vt T) (gX _) rfl hJ) ?_;show fm (aV T (vt T) (aaT _) rfl aa5) ?_;show λp j=>(nE T p j).mono (by ext)
def acx(T:TopRead pw Sy mg mb (H1 w.params)):CV (Ai w) g2 (K w.params) SY Sy mg mb 4:=cv T (nB T)
def nA(T:TopRead pw Sy mg mb (H1 w.params)):∀p∈JJ,AB false (Ai w) p.1 6 p.2:=by
 unfold JJ;show fm (aV T (acx T) (mL _) rfl mO) ?_;show fm (iS T (acx T) rfl (T3 Prod.fst (eA _)) (jU w) k9) ?_;show λp j=>(nB T p j).mono (by ext)
def vq(T:TopRead pw Sy mg mb (H1 w.params)):CV (Ai w) g3 (K w.params) SY Sy mg mb 6:=cv T (nA T)
def fh(T:TopRead pw Sy mg mb (H1 w.params)):∀p∈Cm,AB false (Ai w) p.1 8 p.2:=by
 unfold Cm;show fm (aV T (vq T) (aaX _) rfl aa9) ?_;show fm (iS T (vq T) rfl (T3 Prod.fst (dQ _)) (il w) jK) ?_;show fm (iS T (vq T) rfl (T3 Prod.fst (dR _)) (gj w) hY) ?_;show λp j=>(nA T p j).mono (by ext)
def ie(T:TopRead pw Sy mg mb (H1 w.params)):CV (Ai w) SR (K w.params) SY Sy mg mb 8:=cv T (fh T)
def nz(T:TopRead pw Sy mg mb (H1 w.params)):∀p∈JI,AB false (Ai w) p.1 8 p.2:=by
 unfold JI;show fm ((aV T (e7 T) (jF _) rfl jL).mono (by ext)) ?_;show fh T
def acw(T:TopRead pw Sy mg mb (H1 w.params)):CV (Ai w) SQ (K w.params) SY Sy mg mb 8:=cv T (nz T)
def ve(T:TopRead pw Sy mg mb (H1 w.params)):∀p∈BQ,AB false (Ai w) p.1 10 p.2:=by
 unfold BQ;show fm (aV T (acw T) (aaU _) rfl aa6) ?_;show λp j=>(nz T p j).mono (by ext)
def lV(T:TopRead pw Sy mg mb (H1 w.params)):CV (Ai w) SN (K w.params) SY Sy mg mb 10:=cv T (ve T)
def j8(T:TopRead pw Sy mg mb (H1 w.params)):∀p∈Hc,AB false (Ai w) p.1 10 p.2:=by
 unfold Hc;show fm (iS T (ie T) rfl (T3 Prod.fst (o5 _)) (abn w) adT) ?_;show fm (aV T (ie T) (aaW _) rfl aa8) ?_;show λp j=>(fh T p j).mono (by ext)
def rH(T:TopRead pw Sy mg mb (H1 w.params)):CV (Ai w) JA (K w.params) SY Sy mg mb 10:=cv T (j8 T)
def rh(T:TopRead pw Sy mg mb (H1 w.params)):∀p∈Iv,AB false (Ai w) p.1 12 p.2:=by
 unfold Iv;show fm (aV T (rH T) (adJ _) rfl adS) ?_;show fm (aV T (rH T) (t6 _) rfl adR) ?_;show λp j=>(j8 T p j).mono (by ext)
def acu(T:TopRead pw Sy mg mb (H1 w.params)):CV (Ai w) Q4 (K w.params) SY Sy mg mb 12:=cv T (rh T)
def ym(T:TopRead pw Sy mg mb (H1 w.params)):CV (Ai w) BA (K w.params) SY Sy mg mb 12:=by
 have S:=acu T;show⟨S.Y,⟨S.YG.own,S.YG.cls,S.YG.Gy,S.YG.FA,S.YG.Gp,S.YG.con,S.YG.Jy,S.YG.fn,S.YG.mn⟩,S.MB,S.C,λl Q v J k h=>?_⟩;have h:(Bool.rec False (BI g0 MI J λv s=>Jr v s k\/Ks v s k) (beq l 255):Prop):=h;cases q:beq l 255 with
 |false=>replace h:=q▸h;show h
 |true=>
  have Q:(beq l 1398||beq l 255)=false:=Q;replace Q:=q▸Q;replace Q:=(Bool.or_true _)▸Q;cases Q
def QM(u:TA)(H:Tx):Prop:=∃J t x,u=[.st 236,.c (.str x)]/\H=Hp J t/\x.length<=20000/\Gg x=none
def aaD(P:Wx):and (!(Ic==("__debug__":Wu))) (and (nsFind (Df (Ck P 3)).toArray Ic).isNone (and (bootBuiltins Ic==some (.type "KeyError")) (!(Ic==("__name__":Wu)))))=true:=by left
def yD(T:TopRead pw Sy mg mb (H1 w.params)):Hw mg mb Ic "KeyError":=by
 obtain⟨Z,P⟩:=ar (aaD w.params);obtain⟨g,P⟩:=ar P;obtain⟨U,d⟩:=ar P;show⟨Z8 _▸Z,(ns3 T.g Ic).trans (Xo.mp g),?_⟩;rw[T.builtins Ic λz=>by replace d:=z▸d;show a7 d];show eq_of_beq U
def ade:Ld "KeyError":=⟨by rw[isSubtype_type];kernel_rfl,by rw[isSubtype_type];kernel_rfl,by rw[isSubtype_type];kernel_rfl⟩
def afk(T:TopRead pw Sy mg mb (H1 w.params)):FY (Ai w) 227 12 "KeyError" QM:=by
 have F:=eV w (a:=227) rfl;show m9 (pre:=KS) (fd:=fd w.params 227) T F.kind F.glob F.blt F.co (T3 (λp=>p.2.1) (T3 Prod.fst (t6 w.params))) (bq w.params F.lt) F.data F.body F.code F.cell ((t6 w.params).DL (by ext)) (λL U=>s9 (rH T) (yD T) _ rfl rfl rfl) ?_;rintro u H ⟨J,t,x,rfl,rfl,D,P⟩;show aa rfl ⟨b4 J t x rfl D P,gS J t (bZ J t),bZ J t⟩
def mU{X:String}(h:FY c y d X D)(l:d<=e):FY c y e X D:=
 λU O H s A b Z u R r N a=>h U O H s A b Z u R r N (a.mono l)
def Gl(P:Wx):WG:=(Fe SY 60 (Ap (fd P 283))).getD 0 (.Pass default)
def Sd(s:WG):List WG:=match s with| .Try b _ _ _ _=>b|_=>[]
def Sb(s:WG):Option ExceptHandler:=match s with| .Try _ [h] _ _ _=>some h|_=>none
def Sa(s:WG):Pos:=match s with| .Try _ _ _ _ p=>p|_=>default
def MC(s:WG):WE:=match s with| .Assign [t] _ _=>t|_=>.Constant .none 0 default
def GN(s:WG):WE:=match s with| .Assign _ e _=>e|_=>.Constant .none 0 default
def Rk(s:WG):Pos:=match s with| .Assign _ _ p=>p|_=>default
def LA(e:WE):Wu:=match e with| .Name x _=>x|_=>⟨#[]⟩
def Ig(e:WE):Pos:=match e with| .Name _ p=>p| .Attribute _ _ p=>p| .Call _ _ _ p=>p| .Constant _ _ p=>p|_=>default
def Jf(e:WE):WE:=match e with| .Call f _ _ _=>f|_=>.Constant .none 0 default
def OV(e:WE):WE:=match e with| .Call _ [a] _ _=>a|_=>.Constant .none 0 default
def Ow(e:WE):WE:=match e with| .Attribute o _ _=>o|_=>.Constant .none 0 default
def Qm(e:WE):Wu:=match e with| .Attribute _ x _=>x|_=>⟨#[]⟩
def RW(e:WE):Nat:=match e with| .Constant _ k _=>k|_=>0
def RY(h:Option ExceptHandler):WE:=match h with|some (.ExceptHandler (some t) _ _ _)=>t|_=>.Constant .none 0 default
def RZ(h:Option ExceptHandler):WG:=match h with|some (.ExceptHandler _ _ [s] _)=>s|_=>.Pass default
def R0(h:Option ExceptHandler):Pos:=match h with|some (.ExceptHandler _ _ _ p)=>p|_=>default
noncomputable def t1(P:Wx):WG:=(Sd (Gl P)).getD 0 (.Pass default)
def Se(P:Wx):WG:=(Sd (Gl P)).getD 1 (.Pass default)
noncomputable def t3(P:Wx):WG:=RZ (Sb (Gl P))
def zj(P:Wx):Fe SY 60 (Ap (fd P 283))=[.Try [.Assign [.Name (LA (MC (t1 P))) (Ig (MC (t1 P)))] (.Call (.Attribute (Ow (Jf (GN (t1 P)))) (Qm (Jf (GN (t1 P)))) (Ig (Jf (GN (t1 P))))) [OV (GN (t1 P))] [] (Ig (GN (t1 P)))) (Rk (t1 P)),Se P]
  [.ExceptHandler (some (.Name Ic (Ig (RY (Sb (Gl P)))))) none [.Assign [.Name (LA (MC (t1 P))) (Ig (MC (t3 P)))] (.Constant .none (RW (GN (t3 P))) (Ig (GN (t3 P)))) (Rk (t3 P))] (R0 (Sb (Gl P)))] [] [] (Sa (Gl P))]:=by left
def QD:S:=.Aj 165 (.fn 0 (.cons (.loc 166) .nil))
def zk(P:Wx):(((Sa (Gl P)).line,cE SY (fd P 283).scope 50 (Ow (Jf (GN (t1 P)))),cE SY (fd P 283).scope 50 (OV (GN (t1 P))),cS SY (fd P 283).scope 51 (Se P)),KI SY 51 (Se P),
  and (B8 (fd P 283).scope Ic) (and (AU (Ow (Jf (GN (t1 P))))) (and ((Ig (Jf (GN (t1 P)))).endLine==(Ig (GN (t1 P))).line) (and (BU (OV (GN (t1 P)))) (BH (fd P 283).scope (LA (MC (t1 P))))))))=
  ((255,X.BR (.st 236),MI,QD),[],true):=by left
def zh(P:Wx):SY.code (LA (MC (t1 P)))=some 166:=by left
def zi(P:Wx):nm 203=Qm (Jf (GN (t1 P))):=by left
def aal(h:Jr v s k):BL BA 227 [.st 236,v] [] s λb d=>ex BA QD (Bv d (put 166 b d.L)) λu s=>u=.AZ/\k .AZ s:=by
 show pC h λJ t x p a j D P c=>?_;subst a;show dE J t rfl rfl j ⟨J,t,x,p,rfl,rfl,rfl,D,P,?_⟩;show fO (g:=BA) (ah (aj (aa ((ao 166 166 _ _).trans (Zk rfl)) (au (eW ?_)))));show⟨rfl,c⟩
def ad8(T:TopRead pw Sy mg mb (H1 w.params))(f:Fm)(u:f.cs=(fd w.params 283).scope)(l:f.vl=false)(o:f.own=true)(Z:f.tp=some f.env/\f.env.frame=some f.env.locals):∀t∈Fe SY 60 (Ap (fd w.params 283)),∀m,SS (Ai w) BA f (12+1) (cS SY f.cs m t) t:=by
 intro t N m;replace N:=(zj _)▸N;obtain rfl:=Za N;cases m with
 |zero=>show bP
 |succ m=>
  have S:=ym T;have h:=zk w.params;replace h:=(YS u)▸h;have e:=T3 (λp=>p.1.1) h;have i:=T3 (λp=>p.1.2.1) h;have q:=T3 (λp=>p.1.2.2.1) h;have A:=T3 (λp=>p.1.2.2.2) h;have c:=T3 (λp=>p.2.1) h;have O:=T3 (λp=>p.2.2) h;dsimp only at e i q A c O;obtain⟨g1,O⟩:=ar O;obtain⟨g2,O⟩:=ar O;obtain⟨g3,O⟩:=ar O;obtain⟨SR,SQ⟩:=ar O;have U:=((bU S 50).1 f (Ow (Jf (GN (t1 w.params))))).1;have Q:=((bU S 50).1 f (OV (GN (t1 w.params)))).1;have b:=nI S 50 f o (Se w.params) c;replace U:=i▸U;replace Q:=q▸Q;replace b:=A▸b;change SS (Ai w) BA f (12+1) (.prim (Sa (Gl w.params)).line) _;rw[e];show xK (n:=203) (fa:=227) (ix:=166) (w:=.st 236) (rspec:=QM) S.Y S.YG o Z.1 Z.2 (S.C1 227) (mU (afk T) (by ext)) ade (yD T) g1 g2 g3 (zi w.params) U SR Q rfl (λa=>rfl) (λa a D=>D) SQ (zh w.params) b Jr Ks (λa a a h=>aal h) (λv s k h=>?_) λJ k h=>h;show aK h λJ t x z j r P D=>?_;subst z;show⟨⟨rfl,gS J t j⟩,cg J t x rfl j r P,D⟩
def q9(T:TopRead pw Sy mg mb (H1 w.params)):∀p∈Iu,AB false (Ai w) p.1 14 p.2:=by
 unfold Iu;show fm (uG T (ym T) rfl (T3 (λp=>p.1.1) (wY w.params)) (T3 (λp=>p.1.2.1) (wY w.params)) (ad8 T) (aei w) afu) ?_;show λp j=>(fh T p j).mono (by ext)
def yl(T:TopRead pw Sy mg mb (H1 w.params)):CV (Ai w) NS (K w.params) SY Sy mg mb 14:=cv T (q9 T)
end
end
end Mine.B
namespace Mine.A
section
variable {pG:WA}{w:Wy}{nm:Nat->Wu}{g g':Gh}{b:Bool}
def RD.gN(h:Le b g g')(D:b=true->(l.all λp=>E8 Fy p.2)=true)(r:RD pG w g Z l):RD pG w g' Z l:=by
 induction r with
 |nil=>show .nil
 |cons a _ Q=>show .cons (a.gN h λq=>(ar (D q)).1) (Q λq=>(ar (D q)).2)
def RI.gN(h:Le b g g')(D:b=true->(l.all λp=>E8 Fy p.2)=true)(r:RI pG w nm g Z l):RI pG w nm g' Z l:=by
 induction r with
 |nil=>show .nil
 |cons a c _ Q=>show .cons a (c.gN h λq=>(ar (D q)).1) (Q λq=>(ar (D q)).2)
def RO.nH{ft:List WD}(L:Le b g g')(D:b=true->Hm Fy o=true)(k:∀x∈ft,∀o,h.get? x=some o->l.get? x=some o)(r:RO pG w nm g h a ft o):RO pG w nm g' l a ft o:=by
 induction o using AO.casesOn with
 |lst _=>show bI r λe o Z q z r b=>?_;show⟨e,bG o Z (k a (e▸ .head _) _ q) z (Ba.mono L.F r) b⟩
 |An _=>show bQ r λe o U q z d r b=>?_;show⟨e,bj o U (k a (e▸ .head _) _ q) z d (r.gN L D) b⟩
 |inst _ _=>show aK r λu y n e j q A r=>?_;show(aM u y n e j (k a (e▸ .head _) _ q) (k u (e▸ .tail _ (.head _)) _ A) (r.gN L D))
 |Av _=>show⟨r.1,r.2.mono L.F⟩
end
section
variable {c:Cx}{g:G}{K:Frag}{f:Fm}{d:Nat}{O:Gh}{L:Loc}{J:St}{s:Ww}
def Rel.afd(r:Rel c O L J s)(x:G8 b L.all O.low s l s')(M:Cp c l L.all Q s')(hv:b=true->∀n v,Sx n J.L=some v->E8 Fy v=true)(hh:b=true->∀i o,¬i<64->Sx i J.H=some o->Hm Fy o=true):
  Rel c (l.GJ O) L (As J (Q++hi J.H)) s'/\Ext b L O s (l.GJ O) s'/\Le false l (l.GJ O):=by
 have U:∀ {i:Nat},i<64->(l.GJ O).φ i=l.φ i:=λ{i} h=>by change(if i<64 then _ else _)=_;rw[Zk h]
 have m:∀ {i:Nat},¬i<64->(l.GJ O).φ i=O.φ i:=λ{i} h=>by change(if i<64 then _ else _)=_;rw[Zi h]
 have S:Le false l (l.GJ O):=⟨λZ Z e=>e,λi a ft e Z=>(yE ft (by rw[U (M.CZ i _ e).1];show e))⟩
 have le:Le b O (l.GJ O):=⟨x.le.F,λi a ft e W=>by
  by_cases h:i<64
  ·show zE (x.le.φ i a ft (gP h e) W) λF e'=>(yE F (by show(U h)▸ ?_;show e'))
  ·show(yE ft (by rw[m h];show e))⟩
 have N:∀ {j:Nat} {b:WD} {C:List WD} {y:WD},¬j<64->O.φ j=some (b,C)->y∈C->¬AD O.low y:=λ{j b C y} V e P h=>by
  show bC h λi a ft X t=>zA (cn X) λhi X=>r.sep i j a ft b C X e (λq=>V (q▸hi)) y t P
 have B:∀ {y:WD},L.CN y->¬AD O.low y:=λP h=>(r.off _ (bL h)).2.1 P;have H:∀y,AD (l.GJ O) y->AD l y\/∃j b C,¬j<64/\O.φ j=some (b,C)/\y∈C:=λy h=>by
  show bC h λj b C e P=>?_;by_cases h:j<64
  ·replace e:=(U h)▸e;show .inl (ay j b C e P)
  ·replace e:=(m h)▸e;show .inr (b4 j b C h e P)
 show⟨⟨M.Av,λi o h=>?_,λi j a ft b F E G R y I t=>?_,λy P=>?_,λy P=>?_,?_,λi hi=>?_,r.DY,λi p e hi=>?_,M.base,r.Lb,M.tk⟩,
  ⟨le,λy o e hl W=>x.keep y o e (λh=>hl (.inl h)) λh=>W (bL h),λy P=>x.EN y (.tail _ P),λy P=>?_,λy o e=>?_,x.gens,x.os,x.drawn⟩,S⟩
 ·have h:Sx i (Q++hi J.H)=some o:=h;replace h:=(di _ _ _)▸h;cases q:Sx i Q with
  |some D=>
   replace h:=q▸h;obtain rfl:=Zf (show some D=some o from h);show aX (M.obs i _ q) λa ft e Y=>(aU a ft (by rw[U (M.CZ i _ e).1];show e) (Y.step S λZ Z Z e=>e))
  |none=>
   replace h:=q▸h;have h:Sx i (hi J.H)=some o:=h;replace h:=(iI _ _)▸h;split at h
   ·cases h
   ·rename_i hi;show aX (r.obs i o h) λa ft e Y=>(aU a ft (by rw[m hi];show e) (Y.nH le (λq=>hh q i o hi h) λy P o ho=>x.keep y o ho (λq=>(r.off y (ay i a ft e P)).2.1 (.inl q)) (N hi e P)))
 ·by_cases A:i<64<;>by_cases k2:j<64
  ·replace E:=(U A)▸E;replace G:=(U k2)▸G;show M.sep i j a ft b F E G R y I t
  ·replace E:=(U A)▸E;replace G:=(m k2)▸G;rcases x.fp y (ay i a ft E I)with z|z
   ·show N k2 G t z
   ·show cV (r.off y (ay j b F G t)) λZ Z o w=>?_;replace w:=z▸w;show aw w
  ·replace E:=(m A)▸E;replace G:=(U k2)▸G;rcases x.fp y (ay j b F G t)with z|z
   ·show N A E I z
   ·show cV (r.off y (ay i a ft E I)) λZ Z o w=>?_;replace w:=z▸w;show aw w
  ·replace E:=(m A)▸E;replace G:=(m k2)▸G;show r.sep i j a ft b F E G R y I t
 ·rcases H y P with z|⟨j,b,C,V,e,T⟩
  ·show cu (M.off y z) λu Z w=>⟨u,λq=>?_,w⟩
   rcases x.fp y z with k|k
   ·show B q k
   ·show zE (r.there q) λo e=>?_;replace e:=k▸e;show aw e
  ·show cV (r.off y (ay j b C e T)) λu v o w=>⟨?_,v,yE o (x.keep y o w (λq=>v (.inl q)) (N V e T))⟩
   change l.F y=none;cases q:l.F y with
   |none=>rfl
   |some D=>
    rcases x.fF y D q with k|k|k
    ·have k:O.F y=some D:=k;replace k:=u▸k;show aw k
    ·show(N V e T k).elim
    ·replace k:=w▸k;cases k
 ·change l.F y=none;cases q:l.F y with
  |none=>rfl
  |some D=>
   rcases x.fF y D q with k|k|k
   ·have k:O.F y=some D:=k;replace k:=(r.nL y P)▸k;show aw k
   ·show(B P k).elim
   ·show zE (r.there P) λo e=>?_;replace e:=k▸e;show aw e
 ·show r.loc.nH le hv λy P=>?_;by_cases q:y∈L.all
  ·show x.EN y q
  ·show av λo e=>x.keep y o e q (B P)
 ·have h64:=r.DY;have hi:J.m<=i:=hi;rw[m (by lia)];show r.new i hi
 ·replace e:=(U hi)▸e;show zE (M.CZ i p e).2 λo ho=>(yE o (by change Sx i (Q++_)=_;rw[di,ho];rfl))
 ·rcases H y P with z|⟨j,b,C,_,e,T⟩
  ·rcases x.fp y z with k|k
   ·show .inl (bL k)
   ·show .inr k
  ·show .inl (ay j b C e T)
 ·rcases x.fF y o e with k|k|k
  ·show .inl k
  ·show .inr (.inl (bL k))
  ·show .inr (.inr k)
def AB.w(h:AB false c P d D):AB true c P d D:=
 λU O H s A Z u z k R r N n m j=>h U O H s A Z u z k R r N n m λl o v y Q x=>j l o v y Q ⟨⟨x.le.F,λi a ft e p=>x.le.φ i a ft e λh=>a7 h⟩,x.keep,x.EN,x.fp,x.fF,x.gens,x.os,x.drawn⟩
end
end Mine.A
namespace Mine.B
section
open Mine.A
open Mine.Head
abbrev PE:=(Ct->TK->WJ->Out)×(Ct->TK->WJ->Prop)×Bool
def HW(l:Ct)(_:TK)(r:WJ):Prop:=(∃y n O,l=.live y n O/\BV n)/\∀c u,r=c::u->c≠0
def Me(l:Ct)(_:TK)(r:WJ):Prop:=(∃y n O,l=.live y n O/\BV n)/\∀c u,r=c::u->c=62
def Ma(l:Ct)(_:TK)(r:WJ):Prop:=(∃n O,l=.live false n O/\BV n)/\∀c u,r=c::u->c=62
def Kg(l:Ct)(_:TK)(r:WJ):Prop:=DJ l/\∀c u,r=c::u->c≠33/\c≠62/\c≠63
def Kh(l:Ct)(_:TK)(r:WJ):Prop:=DJ l/\∀c u,r=c::u->c≠62
def Md(l:Ct)(_:TK)(r:WJ):Prop:=DJ l/\0∉AJ [62] r
def C8:List (Nat×PE):=[(304,C7,S5,true),(311,DT 304,Gz,true),(318,BZ,S5,true),(325,DT 318,Gz,true),(332,FP,S5,true),(346,DU,S5,true),(353,Cb,Kg,true),(360,BC,Kh,true),(367,Cc,HW,true),
 (374,IQ,S5,true),(381,Hi,K0,true),(388,CJ 318 388,EY,true),(395,Hj,S5,true),(402,Gv,K0,true),(409,CJ 332 409,EY,true),(535,DV,Me,true),(591,EZ,Ma,true),(598,E0,Md,false)]
section
variable {w:Wy}{mg mb:Wu->TM}
def vM(T:TopRead pw Sy mg mb (H1 w.params)):∀p∈C8,AB true (Ai w) p.1 16 (O3 p.2.2.2 p.1 p.2.1 p.2.2.1):=by
 show fm ((aV T (ie T) (aaV _) rfl aa7).mono (by ext)).w (fm ((aV T (yl T) (t7 _) rfl uk).mono (by ext)).w (fm ((aV T (ie T) (tY _) rfl uf).mono (by ext)).w (fm ((aV T (yl T) (qw _) rfl qF).mono (by ext)).w (fm ((aV T (ie T) (adH _) rfl adQ).mono (by ext)).w (fm ((aV T (ie T) (wX _) rfl xh).mono (by ext)).w (fm ((pe T (acw T) (qt _) rfl qC).mono (by ext)) (fm ((pe T (lV T) (gY _) rfl hV).mono (by ext)) (fm ((aV T (lV T) (qu _) rfl qD).mono (by ext)).w (fm ((aV T (ie T) (aaS _) rfl aa3).mono (by ext)).w (fm ((aV T (ie T) (wU _) rfl xe).mono (by ext)).w (fm ((pe T (lV T) (wV _) rfl xf).mono (by ext)) (fm ((aV T (ie T) (wW _) rfl xg).mono (by ext)).w (fm ((aV T (ie T) (tZ _) rfl ug).mono (by ext)).w (fm ((pe T (lV T) (t4 _) rfl uh).mono (by ext)) (fm ((aV T (lV T) (t8 _) rfl uo).mono (by ext)).w (fm ((aV T (lV T) (wQ _) rfl xc).mono (by ext)).w (fm ((aV T (lV T) (wZ _) rfl xl).mono (by ext)).w λp j=>nomatch j)))))))))))))))))
def pX(T:TopRead pw Sy mg mb (H1 w.params)){st:Nat}(h:Sx st C8=some p):AB true (Ai w) st 16 (O3 p.2.2 st p.1 p.2.1):=vM T _ (fD h)
end
abbrev DC:WJ:=[116,105,116,108,101]
abbrev Fi:WJ:=(SV 0x6165726174786574)
abbrev DD:WJ:=[115,116,121,108,101]
abbrev GS:WJ:=[120,109,112]
abbrev Em:WJ:=(SV 0x747865746e69616c70)
def Ek(y:FV):TK:=Af (Ta y) λl=>Af (sel Dp l) λi=>Bool.rec none (Af (sel HP l) aS) (A.ob (aI i) λi=>decide (i=3))
def HC(n:WJ)(st:Nat):Nat:=if n=DC\/n=Fi then 318 else if n=DD\/n=GS then 332 else if n=Em then 346 else st
def Sq(st:Nat)(y:FV):Nat:=Option.rec st (λn=>HC n st) (Ek y)
structure Gk (y:FV):Prop where
 h:∃l i,y=.An l/\sel Dp l=some (.int i)/\(i=3->∃n,sel HP l=some (.str n))
inductive Eg:Ct->Nat->TK->Nat->WJ->List (FV×Nat)->Prop
 |stop {ct st tb n} (p:PE) (o:Out):Sx st C8=some p->p.2.1 ct tb []->p.1 ct tb []=o->o.cont=false->o.x=[]->o.r=[]->Eg ct st tb n [] []
 |go {ct st tb n r T} (p:PE) (o:Out):Sx st C8=some p->p.2.1 ct tb r->p.1 ct tb r=o->o.cont=true->o.x++o.r=r->(∀y∈o.q,Gk y)->Eg o.ct (o.q.foldl Sq o.st) o.tb (n+o.x.length) o.r T->
   Eg ct st tb n r ((o.q.map λy=>(y,n+o.x.length))++T)
def LJ(P:Wx):WG:=(Ap (fd P 268)).getD 0 (.Pass default)
def KU(P:Wx):WG:=(Ap (fd P 268)).getD 1 (.Pass default)
def Ha(s:WG):WE:=match s with| .While t _ _ _=>t|_=>.Constant .none 0 default
def Pj(s:WG):List WG:=match s with| .While _ b _ _=>b|_=>[]
def Ph(s:WG):Pos:=match s with| .While _ _ _ p=>p|_=>default
def NQ(P:Wx):WG:=(Pj (KU P)).getD 0 (.Pass default)
def NP(P:Wx):WG:=(Pj (KU P)).getD 1 (.Pass default)
def Ib(s:WG):WG:=(Pj s).getD 0 (.Pass default)
def OF(s:WG):WE×Pos:=match s with| .Expr e p=>(e,p)|_=>(.Constant .none 0 default,default)
def QB(e:WE):Option WE×Pos:=match e with| .Yield o p=>(o,p)|_=>(none,default)
def Kv(s:WG):WE:=(QB (OF s).1).1.getD (OF s).1
def Qy(s:WG):Pos:=(QB (OF s).1).2
def QC(s:WG):Pos:=(OF s).2
def It(s:WG):WG:=.While (Ha s) [.Expr (.Yield (some (Kv (Ib s))) (Qy (Ib s))) (QC (Ib s))] [] (Ph s)
def MK(P:Wx):WE:=Ow (Jf (Ha (KU P)))
def Pe(P:Wx):Wu:=Qm (Jf (Ha (KU P)))
def Pd(P:Wx):Pos:=Ig (Jf (Ha (KU P)))
def Pf(P:Wx):Pos:=Ig (Ha (KU P))
def adg(P:Wx):Ap (fd P 268)=[LJ P,.While (.Call (.Attribute (MK P) (Pe P) (Pd P)) [] [] (Pf P)) [It (NQ P),It (NP P)] [] (Ph (KU P))]:=by left
abbrev xE:X:=.Bb (.Bb (.loc 292) 305) 168
abbrev xQ:X:=.Bb (.loc 292) 313
abbrev OI:X:=.An (.cons (.k (.str Dp)) (.cons (.sub (.BR Ad) (.k (.str Tf))) (.cons (.k (.str Cq)) (.cons (.Al (.Bb (.Bb (.loc 292) 305) 168) 1 (.cons (.k (.int 0)) .nil) []) .nil))))
abbrev OG:X:=.Al (.Bb (.loc 292) 313) 1 (.cons (.k (.int 0)) .nil) []
def Mu(P:Wx)(e:WE):X:=cE SY (fd P 268).scope 50 e
def adf(P:Wx):(Mu P (MK P),Mu P (Ha (NQ P)),Mu P (Ha (NP P)),Mu P (Kv (Ib (NQ P))),Mu P (Kv (Ib (NP P))),cS SY (fd P 268).scope 51 (LJ P))=(X.loc 292,xE,xQ,OI,OG,S.Bi (X.loc 292) 313 (X.lst X.nil)):=by left
def afm(P:Wx)(a:Wv):bindArgs (fd P 268) ⟨[a],[]⟩=pure (([292].map nm).zip [a]):=by left
def adh(P:Wx):and (fd P 268).scope.isGenerator (and (CD (fd P 268) [292]) (and (decide (findIn (K P) (.ref 762) "__iter__"=some (some (.ref 268))/\isFn (K P) (.ref 268)=true)) (and (KI SY 51 (LJ P)).isEmpty (and (AU (MK P)) ((Pd P).endLine==(Pf P).line)))))=true:=by left
def afl(P:Wx):nm 302=Pe P:=by left
end
end Mine.B
namespace Mine.A
section
open Mine.A
open Mine.B
open Mine.Head
def yU{y:Type}(n:Nat)(p:Nat×y)(l:List (Nat×y)):DK n (p::l)=if n=p.1 then DK n l else p::DK n l:=by
 change(Bool.rec (p::DK n l) (DK n l) (beq n p.1):List (Nat×y))=_;cases e:beq n p.1 with
 |true=>rw[Zk (ZC e)]
 |false=>rw[Zi (Xb e)]
def aaw(O:¬m<64):∀H:Tx,lo (DK m H)=lo H:=by
 intro H;induction H with
 |nil=>show rfl
 |cons p H Q=>
  rw[yU,b7];split
  ·rename_i e;rw[Zi (by rw[←e];show O)];show Q
  ·rw[b7,Q]
def N3(H:Tx):Prop:=∀i o,¬i<64->Sx i H=some o->Hm Fy o=true
structure HA (XX:Tx) (H:Tx) (m ro:Nat) (row:Tz) (J:Sm) (t:Tm):Prop where
 lo:lo H=Hp J t
 row:Sx ro H=some (.lst row)
 Ie:64<=ro
 rm:ro<m
 n3:N3 H
 ex:∀p∈XX,64<=p.1/\p.1<m/\p.1≠ro/\Sx p.1 H=some p.2
def HA.at'{row:Tz}(h:HA XX H m ro row J t)(A:i<64):Sx i H=Sx i (Hp J t):=by
 rw[←h.lo,eg,Zk A]
def HA.call{row:Tz}(h:HA XX H m ro row J t):HA XX (Hp J' t'++hi H) m ro row J' t':=
 ⟨by rw[fQ,bZ,d9,Zu],(dO (by show YN.mpr h.Ie)).trans h.row,h.Ie,h.rm,λi o hi e=>h.n3 i o hi ((dO hi).symm.trans e),λp j=>by
  show bY (h.ex p j) λa b c d=>⟨a,b,c,(dO (YN.mpr a)).trans d⟩⟩
def HA.put{row:Tz}{J Z:Sm}(h:HA XX H m ro row J t)(A:i<64)(e:Mine.A.put i x (Hp J t)=Hp Z z):HA XX (Mine.A.put i x H) m ro row Z z:=
 ⟨by rw[dM A,h.lo,e],by rw[ao,Zi (by have:=h.Ie;lia)];show h.row,h.Ie,h.rm,λj o Q e=>h.n3 j o Q (by rw[ao,Zi (by lia)]at e;show e),λp f=>by
  show bY (h.ex p f) λa b c d=>⟨a,b,c,by rw[ao,Zi (by lia)];show d⟩⟩
def HA.push{row:Tz}(h:HA XX H m ro row J t)(P:Hm Fy x=true):HA XX ((m,x)::H) (m+1) ro row J t:=by
 have:=h.Ie;have:=h.rm;show⟨by rw[b7,Zi (show¬m<64 by lia)];show h.lo,?_,h.Ie,by show YO 1 this,λi o hi e=>?_,λp j=>?_⟩
 ·rw[aq,Zi (show¬ro=m by show Z3 this)];show h.row
 ·rw[aq]at e;split at e
  ·obtain rfl:=Zf e;show P
  ·show h.n3 i o hi e
 ·show bY (h.ex p j) λa b c d=>⟨a,by show YO 1 b,c,by rw[aq,Zi (Z3 b)];show d⟩
def HA.other{row:Tz}{J:Sm}(h:HA XX H m ro row J t)(A:64<=i)(D:i≠ro)(g:∀p∈XX,p.1≠i)(P:Hm Fy x=true):HA XX (Mine.A.put i x H) m ro row J t:=
 ⟨by rw[b6 (YN.mpr A)];show h.lo,by rw[ao,Zi λe=>D e.symm];show h.row,h.Ie,h.rm,λj o Q e=>by
  rw[ao]at e;split at e
  ·obtain rfl:=Zf e;show P
  ·show h.n3 j o Q e,λp f=>by
  show bY (h.ex p f) λa b c d=>⟨a,b,c,by rw[ao,Zi (g p f)];show d⟩⟩
def HA.rN{row row':Tz}(h:HA XX H m ro row J t):HA XX (Mine.A.put ro (.lst row') H) m ro row' J t:=
 ⟨by rw[b6 (by have:=h.Ie;lia)];show h.lo,by rw[ao,Zk rfl],h.Ie,h.rm,λj o Q e=>by
  rw[ao]at e;split at e
  ·obtain rfl:=Zf e;rfl
  ·show h.n3 j o Q e,λp f=>by
  show bY (h.ex p f) λa b c d=>⟨a,b,c,by rw[ao,Zi c];show d⟩⟩
abbrev Lg:Tw:=[(292,.ob 1)]
section
variable {XX H:Tx}{m ro:Nat}{row:Tz}{J:Sm}{t:Tm}
def lF(h:HA XX H m ro row J t):Sx 1 H=some (.inst 762 (R9 t)):=h.at' (by ext)
def at2(h:HA XX H m ro row J t):Sx 2 H=some (.inst 166 (Sf J)):=h.at' (by ext)
def at6(h:HA XX H m ro row J t):Sx 6 H=some (.lst J.AH):=h.at' (by ext)
def at5{st:Nat}{l:Ct}{q:Tz}{tb:TK}(h:HA XX H m ro row J ⟨st,l,some q,tb⟩):Sx 5 H=some (.lst q):=h.at' (by ext)
def afs{k:Bool->TF}(h:HA XX H m ro row J t)(D:k (BE J.AH) ⟨Lg,H,m,false⟩):BI SR xE ⟨Lg,H,m,false⟩ (λv s=>Ab (Am s.H v) λb=>k b s):=by
 show ba (ba (aj (aa rfl (aP (lF h) rfl rfl (aP (at2 h) rfl rfl (aa ?_ D))))));change Af (Sx 6 H) _=_;rw[at6 h];rfl
def afr{st:Nat}{q:Tz}{tb:TK}{k:Bool->TF}(h:HA XX H m ro row J ⟨st,l,some q,tb⟩)(D:k (BE q) ⟨Lg,H,m,false⟩):BI SR xQ ⟨Lg,H,m,false⟩ (λv s=>Ab (Am s.H v) λb=>k b s):=by
 show ba (aj (aa rfl (aP (lF h) rfl rfl (aa ?_ D))));change Af (Sx 5 H) _=_;rw[at5 h];rfl
def sV(U:Sx i s.H=some (.lst (x::l)))(h:F (.c x) (As s (put i (.lst l) s.H))):CL g (.lst i) 1 [.c (.int 0)] [] s F:=by
 show aa (T3 FJ U) h
def adM{st:Nat}{x:FV}{q:Tz}{tb:TK}{k:TC}(h:HA XX H m ro row J ⟨st,l,some (x::q),tb⟩)(D:∀Q,HA XX Q m ro row J ⟨st,l,some q,tb⟩->k (.c x) ⟨Lg,Q,m,false⟩):BI SR OG ⟨Lg,H,m,false⟩ k:=by
 show aJ (ba (aj (aa rfl (aP (lF h) rfl rfl (aa (cw (at5 h) rfl) (ah (aQ (au (sV (at5 h) (D _ (h.put (by ext) ?_)))))))))));cases l<;>rfl
def adN(h:HA XX H m ro row {J with AH:=x::y} t)(D:∀Q,HA XX Q (m+1) ro row {J with AH:=y} t->Sx m Q=some (.An [(Dp,.c (.int 7)),(Cq,.c x)])->k (.ob m) ⟨Lg,Q,m+1,false⟩):BI SR OI ⟨Lg,H,m,false⟩ k:=by
 show gb (ah (aQ (ah (bK (bB (aQ (dI rfl (ah (aQ (ah (aJ (ba (ba (aj (aa rfl (aP (lF h) rfl rfl (aP (at2 h) rfl rfl (aa (cw (at6 h) rfl) (ah (aQ (au (sV (at6 h) (au (aa rfl (gc (D _ ((h.put (by ext) ?_).push rfl) ?_))))))))))))))))))))))))))
 ·rfl
 ·show(aq _ _ _).trans (Zk rfl)
def aft{st:Nat}{K:TB}(h:HA XX H m ro row J ⟨st,l,none,none⟩)(D:∀Q,HA XX Q (m+1) ro row J ⟨st,l,some [],none⟩->K .AZ ⟨Lg,Q,m+1,false⟩)(u:l=.no):ex SR (S.Bi (X.loc 292) 313 (X.lst X.nil)) ⟨Lg,H,m,false⟩ K:=by
 subst u;have k:=h.Ie;have O:=h.rm;have U:DK m ((m,AO.lst [])::H)=DK m H:=by rw[yU,Zk rfl]
 have f:Sx 1 (DK m ((m,AO.lst [])::H)++[(4+1,AO.lst [])])=some (.inst 762 (R9 ⟨st,.no,none,none⟩)):=by
  rw[di,U,dN,Zi (by lia),lF h];rfl
 change BI SR (X.lst X.nil) _ λv s=>BI SR (X.loc 292) s λo s=>Cy SR o 313 v s λs=>K .AZ s;show d7 (au (aa rfl (aW rfl (gc (aj (aa rfl (w_m rfl rfl ?_ ?_ ?_ f rfl ?_)))))))
 ·show ZX (show 64<=m by lia)
 ·show(aq _ _ _).trans (Zk rfl)
 ·show(aq _ _ _).trans ((Zi (show¬5=m by lia)).trans (show Sx 5 H=none from h.at' (by ext)))
 ·show D _ ⟨?_,?_,h.Ie,by show YO 1 O,λi o hi e=>?_,λp j=>?_⟩
  ·rw[dM (by ext),fQ,U,aaw (by lia),h.lo];rfl
  ·rw[ao,Zi (by lia),di,U,dN,Zi (Z3 O),h.row];rfl
  ·have e:Sx i (put 1 (.inst 762 (put 313 (.ob 5) (R9 ⟨st,.no,none,none⟩))) (DK m ((m,AO.lst [])::H)++[(5,AO.lst [])]))=some o:=e;rw[ao,Zi (by lia),di,U,dN]at e;split at e
   ·have e:=e;rw[aq,Zi (show¬i=5 by lia)]at e;show aw e
   ·cases q:Sx i H with
    |some n=>rw[q]at e;obtain rfl:=Zf e;show h.n3 i _ hi q
    |none=>
     rw[q]at e;have e:=e;rw[aq,Zi (show¬i=5 by lia)]at e;show aw e
  ·show bY (h.ex p j) λa b c d=>⟨a,by show YO 1 b,c,?_⟩
   rw[ao,Zi (by lia),di,U,dN,Zi (Z3 b),d];rfl
end
def Cz(J:Sm):FV:=.tup [.int ((CA J J.off).1+1),.int (CA J J.off).2]
abbrev RE:S:=.seq (.Bi (.loc 316) 302 (.Bb (.loc 316) 259)) .skip
abbrev RC:S:=.seq (.Bi (.loc 316) 302 (.Bb (.loc 316) 255)) .skip
abbrev RB:S:=.seq (.Bi (.loc 316) 302 (.Bb (.loc 316) 238)) .skip
abbrev OH:X:=.sub (.loc 312) (.k (.str HP))
def QH:S:=.seq (.iff (.cmp 8 OH (.tup (.cons (.k (.str DC)) (.cons (.k (.str Fi)) .nil)))) RE (.seq (.iff (.cmp 8 OH (.tup (.cons (.k (.str DD)) (.cons (.k (.str GS)) .nil)))) RC (.seq (.iff (.cmp 0 OH (.k (.str Em))) RB .skip) .skip)) .skip)) .skip
def Fd:S:=.seq (.ex (.Al (.loc 177) 0 (.cons (.tup (.cons (.loc 312) (.cons (.Al (.Bb (.loc 316) 305) 239 .nil []) .nil))) .nil) [])) (.seq (.iff (.cmp 0 (.sub (.loc 312) (.k (.str Dp))) (.sub (.BR Ad) (.k (.str Tc)))) QH .skip) .skip)
section
variable {XX H:Tx}{m ro:Nat}{row:Tz}{J:Sm}{t:Tm}{LL:Tw}{K:TB}
def mY(h:HA XX H m ro row J t)(d:Sx 316 LL=some (.ob 1))(e:g0.cls 762 x=some f)(Z:(R9 ⟨0,.no,some [],some []⟩).any (λp=>beq x p.1)=false)(D:∀Q,HA XX Q m ro row J {t with state:=f}->K .AZ ⟨LL,Q,m,false⟩):ex SR (S.seq (S.Bi (X.loc 316) 302 (X.Bb (X.loc 316) x)) S.skip) ⟨LL,H,m,false⟩ K:=by
 show i5 (ba (aj (aa d (y6 (lF h) (ny t Z) e (aj (aa d (w_a rfl (lF h) (lL t) (aB (D _ (h.put (by ext) rfl))))))))))
def sU:CT (.str n) [.str a,.str b]=some (decide (n=a\/n=b)):=by
 change some (Bool.rec (Bool.rec false true (Cn b n)) true (Cn a n):Bool)=_;rw[aE,aE];show T3 some ?_;by_cases h:a=n
 ·rw[Zr h,show decide (n=a\/n=b)=true from Zr (Or.inl h.symm)]
 ·have e:=Zs h;rw[e];by_cases N:b=n
  ·rw[Zr N,show decide (n=a\/n=b)=true from Zr (Or.inr N.symm)]
  ·rw[Zs N,show decide (n=a\/n=b)=false from Zs λz=>z.elim (λz=>h z.symm) λz=>N z.symm]
def aem(h:HA XX H m ro row J t)(d:Sx 316 LL=some (.ob 1))(g:Sx 312 LL=some (.c (.An l)))(j:sel HP l=some (.str n))(D:∀Q,HA XX Q m ro row J {t with state:=HC n t.state}->K .AZ ⟨LL,Q,m,false⟩):ex SR QH ⟨LL,H,m,false⟩ K:=by
 have nm:∀ {F:TC},F (.c (.str n)) ⟨LL,H,m,false⟩->SU SR OH ⟨LL,H,m,false⟩ (one F):=λz=>bK (aj (aa g (aQ (aa (o:=sel HP l) j z))));have tp:∀ {a b:WJ} {F:TC},F (.c (.tup [.str a,.str b])) ⟨LL,H,m,false⟩->SU SR (X.tup (X.cons (X.k (.str a)) (X.cons (X.k (.str b)) X.nil))) ⟨LL,H,m,false⟩ (one F):=λz=>dW (ah (aQ (ah (aQ (au (aa rfl (aW rfl z)))))));unfold HC at D;show bE (aH (nm (tp (dt (aa sU (aa rfl (bh (λq=>?_) λq=>?_)))))))
 ·replace D:=(Zk (Zm q))▸D;show mY h d rfl rfl λQ c=>cU (aB (D Q c))
 ·replace D:=(Zi (ZA q))▸D;show bE (aH (nm (tp (dt (aa sU (aa rfl (bh (λq=>?_) λq=>?_)))))))
  ·replace D:=(Zk (Zm q))▸D;show mY h d rfl rfl λQ c=>cU (aB (cU (aB (D Q c))))
  ·replace D:=(Zi (ZA q))▸D;show bE (aH (nm (aQ (dt (zt (aa rfl (bh (λq=>?_) λq=>?_)))))))
   ·replace D:=(Zk (Zm q))▸D;show mY h d rfl rfl λQ c=>cU (aB (cU (aB (cU (aB (D Q c))))))
   ·replace D:=(Zi (ZA q))▸D;show aB (cU (aB (cU (aB (cU (aB (D H h)))))))
def w0(h:HA XX H m ro row J t)(c:Gk y)(A:Sx 177 LL=some (.ob ro))(g:Sx 312 LL=some (.c y))(d:Sx 316 LL=some (.ob 1))(U:0<=J.off/\J.off<2 ^ 63)(u:row.length+1<=16777216)
  (D:∀Q,HA XX Q m ro (row++[.tup [y,Cz J]]) J {t with state:=Sq t.state y}->K .AZ ⟨LL,Q,m,false⟩):ex SR Fd ⟨LL,H,m,false⟩ K:=by
 show bA c.h λl i P s j=>?_;subst P;show d3 (aJ (aj (aa A (aa (cw h.row rfl) (ah (dW (ah (aj (aa g (ah ?_))))))))));show aJ (ba (aj (aa d (aP (lF h) rfl rfl (aa (a:=.fn 126 (.ob 2)) ?_ (au (eR ?_)))))))
 ·change Af (Sx 2 H) _=_;rw[at2 h];rfl
 ·show dE J t rfl rfl h.lo (bj J t rfl rfl rfl U ?_);have N:HA XX (Hp J t++hi H) m ro row J t:=h.call;show au (aa (a:=([.An l,Cz J],Hp J t++hi H)) rfl (aW rfl (au (gf N.row rfl N.row (ZX u) ?_))));have b:=N.rN (row':=row++[.tup [.An l,Cz J]]);show bE (aH (bK (aj (aa g (aQ (aa (o:=sel Dp l) s (bK (bB (aQ (dI (i:=3) rfl (dt (aeU (aa rfl (bh (λq=>?_) λq=>?_))))))))))))))
  ·show zE (j (Zm q)) λn j=>?_;have e:Sq t.state (.An l)=HC n t.state:=by
    have:Ek (.An l)=some n:=by
     change Af (sel Dp l) _=_;rw[s];change(Bool.rec none (Af (sel HP l) aS) (decide (i=3)):TK)=_;rw[show decide (i=3)=true from q,j];rfl
    unfold Sq;rw[this]
   replace D:=e▸D;show aem b d g j λQ f=>cU (aB (D Q f))
  ·have e:Sq t.state (.An l)=t.state:=by
    have:Ek (.An l)=none:=by
     change Af (sel Dp l) _=_;rw[s];change(Bool.rec none (Af (sel HP l) aS) (decide (i=3)):TK)=_;rw[show decide (i=3)=false from q]
    unfold Sq;rw[this]
   replace D:=e▸D;show aB (cU (aB (D _ b)))
end
end
section
open Mine.B Mine.Head
structure FK (E:Env) (fs:List Frame):Prop where
 sp:splitAtGen fs=none
 gu:fs.any Frame.guarded=false
 Q0:(marksOver fs (none,none)).1=none
 fc:frameCount (fs.map Frame.where_)<=2
 un:unitsOf (fs.map Frame.where_)<=12
 en:∀e∈envsOf (fs.map Frame.where_),e=E
def FK.nil{E:Env}:FK E []:=⟨rfl,rfl,rfl,ZF _,ZF _,λZ h=>(nomatch h)⟩
def FK.push{E:Env}(h:FK E y)(v:frameCount (y.map Frame.where_)+c.weight<=2)(Z:unitsOf (y.map Frame.where_)+c.cUnits<=12)(N:∀e∈c.envs,e=E):FK E (.ret k none false l c p []::y):=by
 show⟨?_,?_,?_,?_,?_,?_⟩
 ·change(splitAtGen y).map _=none;rw[h.sp];rfl
 ·change(false||y.any Frame.guarded)=false;rw[h.gu];rfl
 ·show h.Q0
 ·rw[frameCount_cons];lia
 ·rw[unitsOf_cons];lia
 ·rw[envsOf_cons];show λe q=>(Yi.mp q).elim (N e) (h.en e)
def d4{L C:Loc}{E:Env}(B:Above L C u)(b:E.scope.kind≠ .module/\E.frame=some C.ns)(j:C.tp=none)(l:Ay L (d+4) A)(h:FK E y)(v:c.weight<=1)(Z:c.cUnits<=12)(N:∀e∈c.envs,e=E):Ay C d (A.in1.over c y):=by
 have n:=h.fc;have k:=h.un;show⟨⟨?_,?_,?_,?_⟩,λenv e=>by replace e:=j▸e;show aw e⟩
 ·change(marksOver y (A.in1.handled,A.in1.handled)).1=none;rw[l.hd];show h.Q0
 ·show aA l.fr λi U o=>(aO (c.envs++(envsOf (y.map Frame.where_)++i)) ?_ λe q=>?_)
  ·change pushEnvs c.envs (pushEnvs (envsOf (y.map Frame.where_)) A.frames)=_;rw[pushEnvs_eq,pushEnvs_eq,U];rfl
  ·have g:e=E->e.scope.kind≠ .module/\∃a∈C.all,e.frame=some a:=λz=>z▸⟨b.1,aO C.ns (.head _) b.2⟩;rcases Yi.mp q with q|q
   ·show g (N e q)
   ·rcases Yi.mp q with q|q
    ·show g (h.en e q)
    ·show eX (o e q) λf a k2 k3=>⟨f,aO a (.tail _ (B.up▸k2)) k3⟩
 ·have:=l.Fs;change A.depth+frameCount (y.map Frame.where_)+c.weight+d<_;show Yb (Zh (ZV (Z9 (ZH n _) v) _) (Zh (Zz (ZZ _ 3 _)) (YX _))) this
 ·have:=l.un;change A.units+1+unitsOf (y.map Frame.where_)+c.cUnits+16*d+64<_;show Zh (ZV (ZV (Zh (ZV (Z9 (ZH k _) Z) _) (Zh (Zz (ZZ _ 25 _)) (ZH (by decide:25<=64) _))) _) 1) this
def Ay.mono(h:Ay L e A)(l:d<=e):Ay L d A:=⟨h.toRoom.mono l,h.top⟩
def u9{t:WE}{b o:List WG}{env:Env}:(Code.whileLoop t b o env).weight=0/\(Code.whileLoop t b o env).cUnits=0/\∀E,∀e∈(Code.whileLoop t b o env).envs,e=E:=⟨rfl,rfl,λZ Z h=>(nomatch h)⟩
def afp{b:List WG}{env:Env}:(Code.func b env).weight=1/\(Code.func b env).cUnits=3/\∀e∈(Code.func b env).envs,e=env:=⟨rfl,rfl,λZ h=>Za h⟩
def gq{a:Array GenState}{q z:GenState}(h:(a.setIfInBounds i q)[j]? =some z):(i=j/\z=q)\/i≠j/\a[j]? =some z:=by
 replace h:=Yr▸h;by_cases e:i=j
 ·replace h:=(Zk e)▸h;show .inl ⟨e,?_⟩;split at h
  ·cases h;rfl
  ·cases h
 ·replace h:=(Zi e)▸h;show .inr ⟨e,h⟩
def Ext.setGen{L:Loc}(x:Ext b L g s P s'){i:Nat}(A:s.gens[i]? =none){q:GenState}(SG:q.bare=true):Ext b L g s P (s'.setGen i q):=by
 show⟨x.le,x.keep,x.EN,x.fp,x.fF,⟨λj z e=>?_,λj z e=>?_⟩,x.os,x.drawn⟩
 ·have Q:i≠j:=λh=>by replace A:=h▸A;replace A:=e▸A;cases A
  rw[Yr,Zi Q];show x.gens.old j z e
 ·rcases gq e with ⟨_,rfl⟩|⟨_,e⟩
  ·show .inr SG
  ·show x.gens.new j z e
def eU(s:Ww)(i:Nat)(p q:GenState):(s.setGen i p).setGen i q=s.setGen i q:=by
 unfold Shared.setGen;rw[Array.setIfInBounds_setIfInBounds]
def Ext.held{L:Loc}(x:Ext b L g s P s'){i:Nat}(A:i<s.gens.size){q:GenState}(SG:q.bare=true):Ext b L g (s.setGen i q) P (s'.setGen i q):=by
 show⟨x.le,x.keep,x.EN,x.fp,x.fF,⟨λj z e=>?_,λj z e=>?_⟩,x.os,x.drawn⟩
 ·rcases gq e with ⟨h,rfl⟩|⟨h,e⟩
  ·have:=x.gens.old i _ (Z6 A);rw[Yr,Zk h,Zk];rcases YT i s'.gens.size with y|y
   ·show y
   ·replace this:=(Xe y)▸this;cases this
  ·rw[Yr,Zi h];show x.gens.old j z e
 ·rcases gq e with ⟨_,rfl⟩|⟨h,e⟩
  ·show .inr SG
  ·rcases x.gens.new j z e with k|k
   ·show .inl ?_;rw[Yr,Zi h];show k
   ·show .inr k
def pP{s:Ww}(h:i<s.gens.size)(q:GenState):(s.setGen i q).gens[i]? =some q:=by
 rw[Yr,Zk rfl,Zk h]
def kh{s:Ww}(q:GenState):(s.setGen i q).gens.size=s.gens.size:=by
 change(s.gens.setIfInBounds i q).size=_;simp
structure Ia (c:Cx) (L:Loc) (gh₀:Gh) (s₀:Ww) (L₀:Tw) (ro:Nat) (XX:Tx) (C:Loc) (ag gi:Nat):Prop where
 ab:Above L C 1
 C0:s₀.heap.get? C.ns=none
 a0:s₀.heap.get? ag=none
 aL:¬L.CN ag
 aC:ag≠C.ns
 g0:s₀.gens[gi]? =none
structure GI (c:Cx) (L:Loc) (gh₀:Gh) (s₀:Ww) (L₀:Tw) (ro:Nat) (XX:Tx) (C:Loc) (ag gi:Nat) (O:Gh) (H:Tx) (m:Nat) (LL:Tw) (row:Tz) (J:Sm) (t:Tm) (s:Ww):Prop where
 r:Rel c O L ⟨LL,H,m,false⟩ s
 fr:Ir c O C 292 1 s
 E:Ext true L gh₀ s₀ O (s.setGen gi .running)
 ha:HA XX H m ro row J t
 lr:Sx 177 LL=some (.ob ro)
 lt:Sx 316 LL=some (.ob 1)
 l3:∀n v,Sx n LL=some v->E8 Fy v=true
 ll:∀n,n≠312->Sx n LL=Sx n L₀
 gen:s.heap.IsGen ag gi
 PY:¬AD O ag
 Mv:gi<s.gens.size
def Mo(c:Cx)(L:Loc)(gh₀:Gh)(s₀:Ww)(L₀:Tw)(ro:Nat)(XX:Tx)(C:Loc)(ag gi:Nat)(row:Tz)(J:Sm)(t:Tm)(s:Ww):Prop:=∃O H m LL,GI c L gh₀ s₀ L₀ ro XX C ag gi O H m LL row J t s
section
variable {c:Cx}{L:Loc}{gh₀:Gh}{s₀:Ww}{L₀:Tw}{ro:Nat}{XX:Tx}{C:Loc}{ag gi:Nat}{O gh':Gh}{H H':Tx}{m m':Nat}{LL:Tw}{row row':Tz}{J J':Sm}{t t':Tm}{s s':Ww}
def Ia.nC(B:Ia c L gh₀ s₀ L₀ ro XX C ag gi):¬C.Wr ag:=λq=>(B.ab.has q.has).elim B.aC λq=>B.aL (.inl q)
def oQ{X:Loc}(x:Ext b X g s P s')(h:i<s.gens.size):i<s'.gens.size:=by
 have:=x.gens.old i _ (Z6 h);rcases YT i s'.gens.size with z|z
 ·show z
 ·replace this:=(Xe z)▸this;cases this
def qp(h:s.heap.IsGen ag gi):∃o,s.heap.get? ag=some o:=let ⟨o,_,_,e,_⟩:=h;⟨o,e⟩
def oS{X:Loc}(x:Ext b X O s gh' s')(h:s.heap.IsGen ag gi)(A:¬X.Wr ag)(u:¬AD O ag):s'.heap.IsGen ag gi/\¬AD gh' ag:=by
 show zE (qp h) λo e=>bC h λD nm d U r=>⟨ay D nm d (x.keep _ _ U A u) r,λq=>?_⟩
 rcases x.fp ag q with k|k
 ·show u k
 ·replace k:=e▸k;cases k
def GI.step(B:Ia c L gh₀ s₀ L₀ ro XX C ag gi)(g:GI c L gh₀ s₀ L₀ ro XX C ag gi O H m LL row J t s)(x:Ext b C O s gh' s')(u:Rel c gh' C ⟨Lg,H',m',false⟩ s')(Q:HA XX H' m' ro row' J' t'):GI c L gh₀ s₀ L₀ ro XX C ag gi gh' H' m' LL row' J' t' s':=by
 show zA (g.r.sleep B.ab g.fr (λZ=>g.l3) x u rfl) λD P=>zA (oS x g.gen B.nC g.PY) λg1 g2=>⟨D,P,Ext.over (g.r.setGen _ _) B.ab g.E B.C0 (x.held g.Mv rfl),Q,g.lr,g.lt,g.l3,g.ll,g1,g2,oQ x g.Mv⟩
def GI.setGen(B:Ia c L gh₀ s₀ L₀ ro XX C ag gi)(g:GI c L gh₀ s₀ L₀ ro XX C ag gi O H m LL row J t s)(q:GenState):GI c L gh₀ s₀ L₀ ro XX C ag gi O H m LL row J t (s.setGen gi q):=
 ⟨g.r.setGen _ _,g.fr.setGen _ _,by rw[eU];show g.E,g.ha,g.lr,g.lt,g.l3,g.ll,g.gen,g.PY,by rw[kh];show g.Mv⟩
def GI.wake(B:Ia c L gh₀ s₀ L₀ ro XX C ag gi)(g:GI c L gh₀ s₀ L₀ ro XX C ag gi O H m LL row J t s):Rel c O C ⟨Lg,H,m,false⟩ s:=g.r.wake B.ab g.fr
end
end
section
variable {c:Cx}{g:G}{K:Frag}{p:CP}{Sy:TP}{mg mb:Wu->TM}{f:Fm}{d:Nat}{O:Gh}{J:St}{s:Ww}
def sf(Y:Ctx c K p Sy mg mb)(YG:FX c K g)
  (hb:AU o=true) (E:(apos.endLine==pos.line)=true) (hn:c.nm n=nm) (ho:SE c g f d xo o) (hfn:g.fn fa=true) (r:Rel c O f.L J s) (rm:Ay f.L d A) (hw:∀k,k (.ob i) J->BI g xo J k) (hm:C4 g (.ob i) n [] J=some (.own fa i)) (M:i<64)
  (C:AB true c fa d D) (hl:((lo J.H).all λp=>Dc p.2)=true) (hsp:D [.ob i] [] (lo J.H) k) (hv:∀n v,Sx n J.L=some v->E8 Fy v=true) (u:∀i o,¬i<64->Sx i J.H=some o->Hm Fy o=true)
  (hp:∀l R v x T,Ext true f.L O s l R->Rel c l f.L (As J (T++hi J.H)) R->RV c.Aa c.w l v x->k x T->Q v R):wpAny (model c.Aa c.w) A (eval (.Call (.Attribute o nm apos) [] [] pos) f.env) Q Bl s:=by
 have hr:Row c g f d .nil (([]:List WE)++([]:List WI).map (·.value)):=.nil;have G:Mc p []=some []:=rfl;rw[arm_eval_Call _ _ _ _ _ _ _,cQ hb, ←hn];show Zn (ho O J s A (λv s=>v=.ob i/\s=J) _ r rm (hw _ ⟨rfl,rfl⟩) λgh₁ t s₁ ov oa S w ho I=>?_);show zA I λz B=>?_;clear I;subst z B;show bY (fE Y pos f.env G) λa1 a2 a3 a4=>?_;have F:methodCallForm (([]:List WE).length+([]:List WI).length) (backTo pos (starEach [] f.env)) (backToKw pos (keywordEach [] f.env))=true:=by
  rw[a1];rfl
 have L:methodCallPos true o f.env apos pos=pure pos:=by unfold methodCallPos;simp[E]
 unfold methodCall;show F▸(Zn (Yz (Zn (ZY (mi Y.X YG w ho hm λgh₂ s₂ fv first N m W=>Zn (X7 L ?_))))));have e:((backTo pos (starEach [] f.env)).any (·.1)||(backToKw pos (keywordEach [] f.env)).any (·.1.isNone))=false:=by(show(a6 pos f.env hr.cZ).symm▸ ?_;show a2.symm▸ ?_);rfl
 obtain⟨rfl,q,a,ft,rfl,k1,k2⟩:=W;show callWith_of (P:=λh=>MethP K q fa (.ref a) h/\fnIn K fa=true) e (λh u=>keeps_M u.2 h u.1) (bS (k:=λvs s=>vs=[]/\s=t) Y G hr m rm (show SU g .nil t _ from⟨rfl,rfl⟩) λZ H j vs xs hlen U b hvs G=>⟨⟨⟨b.Av _ _ (U.le.F _ _ k1),Y.X.keeps b.bN⟩,YG.fn _ hfn⟩,?_⟩);show zA G λz B=>?_;subst z B;cases hvs;show XI (method_call (b.Av _ _ (U.le.F _ _ k1)) (zE (U.le.φ i a ft k2 λx=>a7 x) λft' k3=>?_));have:=C f.L.all Z.low (lo H.H) j A [.ref a] [.ob i] [] k (H0 Q) (b.toC hl) (.cons (((aU a ft' (gP M k3) rfl):RV c.Aa c.w Z.low (.ref a) (.ob i))) .nil) rm.toRoom hsp λl R v y T x r' hv' G=>?_
 ·rw[aR]at this⊢;show this
 ·show cu (b.afd x r' (λuu=>hv) λuu=>u) λr2 x2 l2=>hp _ R v y T (((S.trans r w N).trans r m U).trans r b x2) r2 (hv'.mono l2) G
end
section
open Mine.B Mine.Head
def OC(c:Cx)(f:Fm)(A:Wz)(y:WE)(body:List WG)(v:Wv)(s:Ww)(B2:Ww->Prop):Prop:=
 wpAny (model c.Aa c.w) A (assign y f.env v) (λZ P=>wpAny (model c.Aa c.w) A (execs body f.env) (λu j=>match u with
  | .next| .cont=>B2 j
  |_=>False) Bl P) Bl s
def YP(c:Cx)(f:Fm)(A:Wz)(y:WE)(body:List WG)(ag gi:Nat):Protocol:=λZ Z v a d=>
 ∀l,OC c f A y body v (a.setGen gi l) λg=>g.gens[gi]? =some l/\g.heap.IsGen ag gi/\g.heap.NoLimit/\d (.send .none) (g.setGen gi .running)
def K5(Fin:Ww->Prop):GenEnd:=λZ Z r l=>r=.ok (.ret .none)/\Fin l
structure G9 (w:Wy) (mg mb:Wu->TM) (f:Fm) (A:Wz) (nm:Wu) (body:List WG):Prop where
 T:TopRead pw Sy mg mb (H1 w.params)
 rm:Ay f.L 30 A
 RG:Hu f nm
 FQ:f.vl=true
 hc:SY.code nm=some 312
 hb:SB (Ai w) SR f 17 Fd body
def nK(T:TopRead pw Sy mg mb (H1 w.params)):CV (Ai w) SR (K w.params) SY Sy mg mb 16:=cv T λp j=>(fh T p j).mono (by ext)
section
variable {w:Wy}{mg mb:Wu->TM}{f:Fm}{A:Wz}{nm:Wu}{pos:Pos}{body:List WG}{gh₀:Gh}{s₀:Ww}{L₀:Tw}{ro Cg ag gi:Nat}{XX:Tx}{Fin:Ww->Prop}
 {O gh':Gh} {H H':Tx} {m m':Nat} {LL:Tw} {row row':Tz} {J J':Sm} {t t':Tm} {s s':Ww}
def j0{Lc:Loc}(N:G9 w mg mb f A nm body)(B:Ia (Ai w) f.L gh₀ s₀ L₀ ro XX Lc ag gi)(g:GI (Ai w) f.L gh₀ s₀ L₀ ro XX Lc ag gi O H m LL row J t s)(F:RF (Ai w).Aa (Ai w).w O.F v y)(p:Gk y)(G:0<=J.off/\J.off<2 ^ 63)(u:row.length<=20000)
  (j:∀s',Mo (Ai w) f.L gh₀ s₀ L₀ ro XX Lc ag gi (row++[.tup [y,Cz J]]) J {t with state:=Sq t.state y} s'->d (.send .none) s'):YP (Ai w) f A (.Name nm pos) body ag gi n sx v s d:=by
 intro l;have g1:=g.setGen B l;show eC (ctx N.T) N.RG N.hc O _ _ v y _ _ g1.r F rfl λr x D=>?_;show N.hb O _ r A (λE st=>E=.AZ/\∃H',st=⟨put 312 (.c y) LL,H',m,false⟩/\HA XX H' m ro (row++[.tup [y,Cz J]]) J {t with state:=Sq t.state y}) _ D (N.rm.mono (by ext)) ?_ λgh' J' s' a b C k i o=>?_
 ·show w0 g1.ha p ((ao 177 312 _ _).trans ((Zi (by ext)).trans g1.lr)) ((ao 312 312 _ _).trans (Zk rfl)) ((ao 316 312 _ _).trans ((Zi (by ext)).trans g1.lt)) G (by lia) λH' h=>⟨rfl,aO H' rfl h⟩
 ·show eX o λc H' P Q=>?_;clear o;subst c P i;have z:Ext true f.L O (s.setGen gi l) gh' s':=by
   rw[←N.FQ];show x.trans g1.r D C
  show zA (oS z g1.gen (λq=>B.aL q.has) g1.PY) λU Z=>⟨z.gens.old _ _ (pP g.Mv l),U,N.T.nolimit.keeps k.bN,j _ (bR gh' H' m (put 312 (.c y) LL) ?_)⟩
  show GI.setGen B ⟨k,g1.fr.step B.ab z,Ext.trans' (g1.r.setGen _ _) g1.E (z.held g1.Mv rfl),Q,?_,?_,λn v e=>?_,λn j=>?_,U,Z,oQ z g1.Mv⟩ .running
  ·show(ao 177 312 _ _).trans ((Zi (by ext)).trans g1.lr)
  ·show(ao 316 312 _ _).trans ((Zi (by ext)).trans g1.lt)
  ·rw[ao]at e;split at e
   ·obtain rfl:=Zf e;rfl
   ·show g1.l3 n v e
  ·show(ao n 312 _ _).trans ((Zi j).trans (g1.ll n j))
abbrev fG(w:Wy)(Cg:Nat)(U:List WD):Fm:= {De (fd w.params 268) Cg 268 U true (eV w (a:=268) rfl).kind (eV w (a:=268) rfl).glob (eV w (a:=268) rfl).blt (eV w (a:=268) rfl).cell with tp:=none}
def tC(w:Wy)(Cg:Nat)(U:List WD):interactive (fG w Cg U).env=false:=by left
def gZ(w:Wy)(Cg:Nat)(U:List WD):(fG w Cg U).env.scope.kind≠ .module/\(fG w Cg U).env.frame=some (fG w Cg U).L.ns:=⟨(by rw[(fG w Cg U).kind];show λz=>(nomatch z)),rfl⟩
end
section
variable {w:Wy}{mg mb:Wu->TM}{f:Fm}{A:Wz}{nm:Wu}{pos:Pos}{body:List WG}{gh₀:Gh}{s₀:Ww}{L₀:Tw}{ro Cg ag gi:Nat}{XX:Tx}{U:List WD}{Fin:Ww->Prop}
 {O gh':Gh} {H H':Tx} {m m':Nat} {LL:Tw} {row row':Tz} {J J':Sm} {t t':Tm} {s s':Ww}
abbrev tE(x:FV):FV:=.An [(Dp,.int 7),(Cq,x)]
abbrev yS(s:WG):WG:=.Expr (.Yield (some (Kv (Ib s))) (Qy (Ib s))) (QC (Ib s))
abbrev wC(w:Wy)(Cg:Nat)(U:List WD)(s:WG):Code:=.whileLoop (Ha s) [yS s] [] (fG w Cg U).env
def j9(T:TopRead pw Sy mg mb (H1 w.params))(Cg:Nat)(U:List WD)(h:Mu w.params e=x):SE (Ai w) SR (fG w Cg U) 17 x e/\ST (Ai w) SR (fG w Cg U) 17 x e:=by
 have:=(bU (nK T) 50).1 (fG w Cg U) e;rw[show cE SY (fG w Cg U).cs 50 e=x from h]at this;show this
structure Wd (w:Wy) (Cg:Nat) (U:List WD) (oW:WE) (sE sQ:WG):Prop where
 t:SE (Ai w) SR (fG w Cg U) 17 (X.loc 292) oW
 e:ST (Ai w) SR (fG w Cg U) 17 xE (Ha sE)
 ey:SE (Ai w) SR (fG w Cg U) 17 OI (Kv (Ib sE))
 q:ST (Ai w) SR (fG w Cg U) 17 xQ (Ha sQ)
 qy:SE (Ai w) SR (fG w Cg U) 17 OG (Kv (Ib sQ))
abbrev OE(w:Wy)(Cg:Nat)(U:List WD)(x:X)(e:WE):Prop:=SE (Ai w) SR (fG w Cg U) 17 x e/\ST (Ai w) SR (fG w Cg U) 17 x e
def ab4(b:OE w Cg U (X.loc 292) oW)(N:OE w Cg U xE (Ha sE))(D:OE w Cg U OI (Kv (Ib sE)))(a:OE w Cg U xQ (Ha sQ))(Q:OE w Cg U OG (Kv (Ib sQ))):Wd w Cg U oW sE sQ:=⟨b.1,N.2,D.1,a.2,Q.1⟩
def ab3(T:TopRead pw Sy mg mb (H1 w.params))(Cg:Nat)(U:List WD):Wd w Cg U (MK w.params) (NQ w.params) (NP w.params):=
 have h:=adf w.params
 ab4 (j9 T Cg U (T3 (λp=>p.1) h)) (j9 T Cg U (T3 (λp=>p.2.1) h)) (j9 T Cg U (T3 (λp=>p.2.2.2.1) h)) (j9 T Cg U (T3 (λp=>p.2.2.1) h)) (j9 T Cg U (T3 (λp=>p.2.2.2.2.1) h))
variable {oW:WE}{sE sQ:WG}
def acf:Gk (tE x):=⟨a8 _ 7 rfl rfl λq=>T4 q (by ext)⟩
def acA(N:G9 w mg mb f A nm body)(D:Wd w Cg U oW sE sQ)(B:Ia (Ai w) f.L gh₀ s₀ L₀ ro XX (fG w Cg U).L ag gi)(u:FK (fG w Cg U).env fs){n2:Nat}:∀(a:Tz) (J:Sm) (n:Nat) (c s:Ww) (O:Gh) (H:Tx) (m:Nat) (LL:Tw) (row:Tz),
  GI (Ai w) f.L gh₀ s₀ L₀ ro XX (fG w Cg U).L ag gi O H m LL row {J with AH:=a} t s->(0<=J.off/\J.off<2 ^ 63)->a.length+n2<=n->row.length+a.length<=20000->
  (∀l c s',n2<=l->Mo (Ai w) f.L gh₀ s₀ L₀ ro XX (fG w Cg U).L ag gi (row++a.map λx=>.tup [tE x,Cz J]) {J with AH:=[]} t s'->Seg (model (Ai w).Aa (Ai w).w) A.in1 (K5 Fin) (YP (Ai w) f A (.Name nm pos) body ag gi) l c (wC w Cg U sE) (.pure (.done .next)) fs s')->
  Seg (model (Ai w).Aa (Ai w).w) A.in1 (K5 Fin) (YP (Ai w) f A (.Name nm pos) body ag gi) n c (wC w Cg U sE) ((model (Ai w).Aa (Ai w).w).den (wC w Cg U sE)) fs s
 |a,J,n,c,s,O,H,m,LL,row,g,ho,hn,hr,hend=>by
  show cu (@u9 (Ha sE) [yS sE] [] (fG w Cg U).env) λC M j=>?_;have S:Ay (fG w Cg U).L 17 (A.in1.over (wC w Cg U sE) fs):=d4 B.ab (gZ w Cg U) rfl (N.rm.mono (by ext)) u (by rw[C];decide) (by rw[M];decide) (j _);show seg_whileLoop (ZT (D.e O _ s _ (λb st=>b=BE a/\st=⟨Lg,H,m,false⟩) _ (g.wake B) S (afs g.ha ⟨rfl,rfl⟩) λgh' J' s' b x' r' e=>?_) (λZ Z h=>h) λZ Z h=>h.elim);show zA e λz Q=>?_;subst z Q;have P:=g.step B x' r' g.ha;cases a with
  |nil=>
   rw[Zi (by ext)];show XZ (hend n c s' (by simpa using hn) ?_);rw[Zu];show(bR gh' H m LL P)
  |cons x a=>
   rw[Zk (rfl)];rw[Zj]at hn hr;obtain⟨n,rfl⟩:∃k,n=k+1:=(yE (n-1) ((Nat.sub_add_cancel (Zh (Z0 1 _) (ZK hn))).symm))
   show Wc (seg_Expr_Yield u.sp rfl u.gu ?_ (eV w rfl).co (tC w Cg U));show ZT (D.ey gh' _ s' _ (λv st=>∃H',v=.ob m/\st=⟨Lg,H',m+1,false⟩/\HA XX H' (m+1) ro row {J with AH:=a} t/\Sx m H'=some (.An [(Dp,.c (.int 7)),(Cq,.c x)])) _ (P.wake B) S (adN P.ha λH' o R=>(aY H' rfl rfl o R)) λgh2 J2 s2 v y W r2 hv e=>?_) (λZ Z h=>h) λZ Z h=>h.elim;show bO e λH' Q r T q=>?_;clear e;subst Q r;have G:Av H' (.ob m)=some (tE x,put m (.Av (tE x)) H'):=by
    change Af (Sx m H') _=_;rw[q];rfl
   show bM (eI r2 hv G) λgh3 X Y rf=>?_;have h64:=g.ha.Ie;have hlt:=g.ha.rm;intro kap d;show j0 N B (P.step B (Ext.trans' r2 W X) Y (T.other (by lia) (by lia) (λp hp=>Z3 (P.ha.ex p hp).2.1) rfl)) rf acf ho (by lia) λF qq=>bu qq λi H4 m4 I L=>d .none F (XZ (seg_again rfl (acA N D B u a J n F F i H4 m4 I (row++[.tup [tE x,Cz J]]) L ho (by lia) (by rw[Zg,Zj,ZW];lia) λl E s' o R=>hend l E s' o ?_)));rw[Ye, ←List.singleton_append, ←Zo];show R
def acz(N:G9 w mg mb f A nm body)(D:Wd w Cg U oW sE sQ)(B:Ia (Ai w) f.L gh₀ s₀ L₀ ro XX (fG w Cg U).L ag gi)(u:FK (fG w Cg U).env fs){n2:Nat}{tb:TK}(S:0<=J.off/\J.off<2 ^ 63):∀(q:Tz) (R n:Nat) (a s:Ww) (O:Gh) (H:Tx) (m:Nat) (LL:Tw) (row:Tz),
  GI (Ai w) f.L gh₀ s₀ L₀ ro XX (fG w Cg U).L ag gi O H m LL row J ⟨R,ct,some q,tb⟩ s->(∀y∈q,Gk y)->q.length+n2<=n->row.length+q.length<=20000->
  (∀l a s',n2<=l->Mo (Ai w) f.L gh₀ s₀ L₀ ro XX (fG w Cg U).L ag gi (row++q.map λy=>.tup [y,Cz J]) J ⟨q.foldl Sq R,ct,some [],tb⟩ s'->Seg (model (Ai w).Aa (Ai w).w) A.in1 (K5 Fin) (YP (Ai w) f A (.Name nm pos) body ag gi) l a (wC w Cg U sQ) (.pure (.done .next)) fs s')->
  Seg (model (Ai w).Aa (Ai w).w) A.in1 (K5 Fin) (YP (Ai w) f A (.Name nm pos) body ag gi) n a (wC w Cg U sQ) ((model (Ai w).Aa (Ai w).w).den (wC w Cg U sQ)) fs s
 |q,c,n,a,s,O,H,m,LL,row,g,SG,hn,hr,hend=>by
  show cu (@u9 (Ha sQ) [yS sQ] [] (fG w Cg U).env) λr L j=>?_;have M:Ay (fG w Cg U).L 17 (A.in1.over (wC w Cg U sQ) fs):=d4 B.ab (gZ w Cg U) rfl (N.rm.mono (by ext)) u (by rw[r];decide) (by rw[L];decide) (j _);show seg_whileLoop (ZT (D.q O _ s _ (λb c=>b=BE q/\c=⟨Lg,H,m,false⟩) _ (g.wake B) M (afr g.ha ⟨rfl,rfl⟩) λgh' J' s' b x' r' e=>?_) (λZ Z h=>h) λZ Z h=>h.elim);show zA e λz Q=>?_;subst z Q;have P:=g.step B x' r' g.ha;cases q with
  |nil=>
   rw[Zi (by ext)];show XZ (hend n a s' (by simpa using hn) ?_);rw[Zu];show(bR gh' H m LL P)
  |cons x q=>
   rw[Zk (rfl)];rw[Zj]at hn hr;obtain⟨n,rfl⟩:∃k,n=k+1:=(yE (n-1) ((Nat.sub_add_cancel (Zh (Z0 1 _) (ZK hn))).symm))
   show Wc (seg_Expr_Yield u.sp rfl u.gu ?_ (eV w rfl).co (tC w Cg U));show ZT (D.qy gh' _ s' _ (λv I=>∃H',v=.c x/\I=⟨Lg,H',m,false⟩/\HA XX H' m ro row J ⟨c,ct,some q,tb⟩) _ (P.wake B) M (adM P.ha λH' o=>(ck H' rfl rfl o)) λgh2 J2 s2 v y X r2 hv e=>?_) (λZ Z h=>h) λZ Z h=>h.elim;show bM e λH' Q p W=>?_;clear e;subst Q p;intro kap d;show j0 N B (P.step B X r2 W) hv (SG x (.head _)) S (by lia) λE qq=>bu qq λi Y m4 F G=>d .none E (XZ (seg_again rfl (acz N D B u S q (Sq c x) n E E i Y m4 F (row++[.tup [x,Cz J]]) G (λy T=>SG y (.tail _ T)) (by lia) (by rw[Zg,Zj,ZW];lia) λl C s' o h2=>hend l C s' o ?_)));rw[Ye, ←List.singleton_append, ←Zo];show h2
end
def pfn(h:Sx u C8=some p):SR.fn u=true:=by
 show Zd (show(C8.all λp=>Dy.any (beq p.1))=true by rfl) _ (fD h)
theorem View.AH(h:View J d r e m):J.AH=List.replicate e SF:=by show bu h λp o g b h=>?_;show h.AH
def sP(h:AV l=[]):l=[]:=Y0 λq=>jg q h
def View.done(h:View J d [] e m):m=0:=by
 show bu h λp o g b h=>?_;rw[h.mm,sP (Xy.mp h.rr.symm).2];rfl
def View.aam(h:View J d r e m):View {J with AH:=[]} d r 0 m:=by
 show bu h λp o g b h=>(bR p o g b ⟨h.place,h.pr,h.off,h.size,h.oc,h.buf,h.dd,h.rr,h.pl,h.pc,h.mm,rfl,h.raw,h.cut,by have:=h.em;lia,h.dr⟩)
def GZ(l:WJ):FV:=.tup [.int (EG l+1),.int (EM l)]
def CI(A:WJ)(T:List (FV×Nat)):Tz:=T.map λp=>.tup [p.1,GZ (A.take p.2)]
theorem View.Cz(h:View J d r e m):Cz J=GZ d:=by unfold Mine.A.Cz;rw[h.z7];rfl
section
variable {w:Wy}{mg mb:Wu->TM}{f:Fm}{A:Wz}{nm:Wu}{pos:Pos}{body:List WG}{gh₀:Gh}{s₀:Ww}{L₀:Tw}{ro Cg ag gi:Nat}{XX:Tx}{U:List WD}{Fin:Ww->Prop}
 {O gh':Gh} {H H':Tx} {m m':Nat} {LL:Tw} {row row':Tz} {J J':Sm} {t t':Tm} {s s':Ww} {oW:WE} {sE sQ:WG} {xn:Wu} {ap cp':Pos}
def aci(T:TopRead pw Sy mg mb (H1 w.params))(D:Wd w Cg U oW sE sQ)(y:Mine.B.nm 302=xn/\AU oW=true/\(ap.endLine==cp'.line)=true)(B:Ia (Ai w) f.L gh₀ s₀ L₀ ro XX (fG w Cg U).L ag gi)(F:Ay (fG w Cg U).L 17 P){tb:TK}{p:PE}
  (g:GI (Ai w) f.L gh₀ s₀ L₀ ro XX (fG w Cg U).L ag gi O H m LL row J ⟨sn,ct,some [],tb⟩ s) (C:Sx sn C8=some p) (I:p.2.1 ct tb r) (L:p.1 ct tb r=o) (v:View J d r e n)
  (q:∀gh' s' J' a l H',a+l=e+n->(p.2.2=true->J.off=J.size->l=0)->l<=n->View J' (d++o.x) o.r a l->GI (Ai w) f.L gh₀ s₀ L₀ ro XX (fG w Cg U).L ag gi gh' H' m LL row J' ⟨o.st,o.ct,some o.q,o.tb⟩ s'->Q o.cont s'):
  wpAny (model (Ai w).Aa (Ai w).w) P (isTrue (.Call (.Attribute oW xn ap) [] [] cp') (fG w Cg U).env (eval (.Call (.Attribute oW xn ap) [] [] cp') (fG w Cg U).env)) Q Bl s:=by
 have S:=nK T;subst L;show wpAny_isTrue_value (sf (n:=302) (k:=λv H'=>∃J' a l,v=.c (.Ae (p.1 ct tb r).cont)/\H'=Hp J' ⟨(p.1 ct tb r).st,(p.1 ct tb r).ct,some (p.1 ct tb r).q,(p.1 ct tb r).tb⟩/\a+l=e+n/\(p.2.2=true->J.off=J.size->l=0)/\l<=n/\View J' (d++(p.1 ct tb r).x) (p.1 ct tb r).r a l)
  S.Y S.YG y.2.1 y.2.2 y.1 D.t (pfn C) (g.wake B) F (λX q=>aa rfl q) ?_ (by ext) ((pX T C).mono (by ext)) ?_ ?_ (λn v e=>?_) g.ha.n3 λj V R W H1 G i E z=>?_) rfl
 ·change Af (Sx 1 H) _=_;rw[lF g.ha];rfl
 ·rw[g.ha.lo];show yC _ _
 ·rw[g.ha.lo];show(bk J ct tb d r e n rfl rfl rfl v I λJ' a l N u b h=>(cF J' a l rfl rfl N b u h))
 ·rw[aq]at e;split at e
  ·obtain rfl:=Zf e;rfl
  ·show aw e
 ·show eD z λJ' a l c x N b u h=>?_;clear z;subst c x;show dD i E rfl λZ M=>q j _ J' a l _ N b u h (g.step B (G.trans (g.wake B) i (.toks false Z)).o (i.toks M) g.ha.call)
abbrev oC(w:Wy)(Cg:Nat)(U:List WD)(oW:WE)(xn:Wu)(ap cp':Pos)(sE sQ:WG):Code:=.whileLoop (.Call (.Attribute oW xn ap) [] [] cp') [It sE,It sQ] [] (fG w Cg U).env
def aeW(N:G9 w mg mb f A nm body)(D:Wd w Cg U oW sE sQ)(hW:Mine.B.nm 302=xn/\AU oW=true/\(ap.endLine==cp'.line)=true)(B:Ia (Ai w) f.L gh₀ s₀ L₀ ro XX (fG w Cg U).L ag gi)(G:FK (fG w Cg U).env fs)(T:frameCount (fs.map Frame.where_)<=2){Good:Tz->Prop}
  (S:∀c F s' row J' t',Mo (Ai w) f.L gh₀ s₀ L₀ ro XX (fG w Cg U).L ag gi row J' t' s'->(∃a c,View J' dA [] a c)->Good row->Seg (model (Ai w).Aa (Ai w).w) A.in1 (K5 Fin) (YP (Ai w) f A (.Name nm pos) body ag gi) c F (oC w Cg U oW xn ap cp' sE sQ) (.pure (.done .next)) fs s'):
  ∀ {M:Ct} {I:Nat} {R:TK} {C:Nat} {r:WJ} {q:List (FV×Nat)},Eg M I R C r q->∀(n:Nat) (F s:Ww) (O:Gh) (H:Tx) (m:Nat) (LL:Tw) (row:Tz) (J:Sm) (d:WJ) (k:Nat),
   GI (Ai w) f.L gh₀ s₀ L₀ ro XX (fG w Cg U).L ag gi O H m LL row J ⟨I,M,some [],R⟩ s->View J d r 0 k->(k=0\/I=304/\J.off=J.size)->q.length+k<=n->row.length+(q.length+k)<=20000->d.length=C->d++r=dA->(∀pv,Good (row++List.replicate k (.tup [CG,pv])++CI dA q))->
   Seg (model (Ai w).Aa (Ai w).w) A.in1 (K5 Fin) (YP (Ai w) f A (.Name nm pos) body ag gi) n F (oC w Cg U oW xn ap cp' sE sQ) ((model (Ai w).Aa (Ai w).w).den (oC w Cg U oW xn ap cp' sE sQ)) fs s:=by
 intro M I R C r q hT;induction hT with
 | @stop M I R C p o Y h2 h3 h4 W h6=>
  intro n F s O H m LL row J d k g v hz hn hr hd i hG;show cu (@u9 (.Call (.Attribute oW xn ap) [] [] cp') [It sE,It sQ] [] (fG w Cg U).env) λu Z j=>?_;show seg_whileLoop (ZT (aci N.T D hW B (show Ay (fG w Cg U).L 17 (A.in1.over (oC w Cg U oW xn ap cp' sE sQ) fs) from d4 B.ab (gZ w Cg U) rfl (N.rm.mono (by ext)) G (by rw[u];decide) (by rw[Z];decide) (j _)) g Y h2 h3 v (Q:=λb s'=>b=false/\∃J' t',Mo (Ai w) f.L gh₀ s₀ L₀ ro XX (fG w Cg U).L ag gi row J' t' s'/\∃a c,View J' dA [] a c) λgh' s' J' a c H' a1 X a2 P E=>?_) (λb s' hb=>?_) λuu uu h=>h.elim)
  ·rw[W,h6,Zu]at P;rw[Zu]at i;show⟨h4,J',_,bR gh' H' m LL E,a,c,i▸P⟩
  ·obtain⟨rfl,J',t',E,P⟩:=hb;rw[Zi (by ext)];show XZ (S n F s' row J' t' E P ?_);have:=hG .Ak;rw[v.done]at this;rw[show row++List.replicate 0 (.tup [CG,.Ak])++CI dA []=row by simp[CI]]at this;show this
 | @go M I R C r q p o Y h2 h3 h4 W h6 hT ih=>
  intro n F s O H m LL row J d k g v hz hn hr hd i hG;show cu (@u9 (.Call (.Attribute oW xn ap) [] [] cp') [It sE,It sQ] [] (fG w Cg U).env) λu Z j=>?_;show seg_whileLoop (ZT (aci N.T D hW B (show Ay (fG w Cg U).L 17 (A.in1.over (oC w Cg U oW xn ap cp' sE sQ) fs) from d4 B.ab (gZ w Cg U) rfl (N.rm.mono (by ext)) G (by rw[u];decide) (by rw[Z];decide) (j _)) g Y h2 h3 v (Q:=λb s'=>b=true/\∃gh' H' l a c,GI (Ai w) f.L gh₀ s₀ L₀ ro XX (fG w Cg U).L ag gi gh' H' m LL row l ⟨o.st,o.ct,some o.q,o.tb⟩ s'/\View l (d++o.x) o.r a c/\a+c=0+k/\(p.2.2=true->J.off=J.size->c=0)/\c<=k) λgh' s' l a c H' a1 X a2 P E=>⟨h4,gh',H',l,a,c,E,P,a1,X,a2⟩) (λb s' hb=>?_) λuu uu h=>h.elim);obtain⟨rfl,gh',H',l,a,c,E,P,a1,X,a2⟩:=hb;have hn0:c=0:=hz.elim (λz=>by lia) λz=>by
   obtain⟨rfl,z⟩:=z;clear h2 h3;obtain rfl:=Zf ((rfl).symm.trans Y);show X rfl z
  subst hn0;obtain rfl:a=k:=by lia
  rw[←(show {l with AH:=List.replicate a SF}=l by rw[←P.AH])]at E;have ho:0<=l.off/\l.off<2 ^ 63:=by have:=P.dJ;show⟨this.1,Int.lt_of_le_of_lt this.2.1 this.2.2.2⟩
  rw[Zg,ZD]at hn hr;have L:((List.replicate a SF).map λx=>FV.tup [tE x,Cz l])=List.replicate a (.tup [CG,Cz l]):=by rw[List.map_replicate];rfl
  rw[Zk (rfl)];show Wc (seg_While λp=>acA N D B (G.push (by rw[u];show T) (by rw[Z];show G.un) (j _)) (n2:=o.q.length+q.length) (List.replicate a SF) l n F s' gh' H' m LL row E ho (by rw[Yd];lia) (by rw[Yd];show Zh (ZH (Z0 _ _) _) hr) λn1 sx1 s1 hn1 qq=>bu qq λgh1 H1 m1 LL1 g1=>seg_leaf (.ok .next) ?_);change Seg _ _ _ _ _ _ _ ((execs [It sQ] (fG w Cg U).env).wrap _ _ _ _) _ _;show Wc (seg_While λp=>?_);rw[L]at g1;show acz N D B (G.push (by rw[u];show T) (by rw[Z];show G.un) (j _)) (n2:=q.length) (J:= {l with AH:=[]}) ho o.q o.st n1 sx1 s1 gh1 H1 m1 LL1 _ g1 h6 hn1 (by rw[Zg,Yd];lia) λn3 sx3 s3 hn3 qq=>bu qq λgh3 H3 m3 LL3 g3=>seg_leaf (.ok .next) ?_;change Seg _ _ _ _ _ _ _ ((execs [] (fG w Cg U).env).wrap _ _ _ _) _ _;show XZ (seg_again rfl (ih n3 sx3 s3 gh3 H3 m3 LL3 _ {l with AH:=[]} (d++o.x) 0 g3 P.aam (.inl rfl) (by show String.Pos.Raw.mk_le_mk.mp hn3) ?_ (by rw[Zg,hd]) ?_ λpv=>?_))
  ·rw[Zg,Zg,ZD,Yd];lia
  ·rw[Zo,W];show i
  ·have:=hG (Cz l);have e:row++List.replicate a (.tup [CG,Cz l])++CI dA ((o.q.map λy=>(y,C+o.x.length))++q)=row++List.replicate a (.tup [CG,Cz l])++(o.q.map λy=>.tup [y,Cz {l with AH:=[]}])++List.replicate 0 (.tup [CG,pv])++CI dA q:=by
    have hp:Cz {l with AH:=[]}=GZ (dA.take (C+o.x.length)):=by
     have e1:dA.take (C+o.x.length)=d++o.x:=by
      rw[←i, ←W, ←Zo, ←hd, ←Zg,We]
     rw[e1];show P.Cz
    rw[hp];unfold CI;rw[Z7,Y9,List.replicate_zero,Zu,Zo,Zo,Zo];rfl
   rw[e]at this;show this
end
def I1(v:TA)(s:St)(k:TB):Prop:=v=[.ob 1]/\∃J d r n Q,∃D:Tx,∃g,(∀p∈D,64<=p.1/\p.1≠Q/\Sx p.1 s.H=some p.2)/\s.vl=false/\Sx 177 s.L=some (.ob Q)/\Sx 316 s.L=some (.ob 1)/\(∀n v,Sx n s.L=some v->E8 Fy v=true)/\N3 s.H/\64<=Q/\Sx Q s.H=some (.lst [])/\lo s.H=Hp J ⟨304,.no,none,none⟩/\View J d r 0 n/\J.off=J.size/\
 Eg .no 304 none d.length r g/\g.length+n<=20000/\
 ∀y j Z z a b,View Z (d++r) [] a b->j.vl=false->(∀n,n≠312->Sx n j.L=Sx n s.L)->(∀i o,Sx i j.H=some o->i<j.m)->(∀p∈D,Sx p.1 j.H=some p.2)->Sx Q j.H=some (.lst (List.replicate n (.tup [CG,y])++CI (d++r) g))->lo j.H=Hp Z z->k .AZ j
section
variable {c:Cx}{O:Gh}{L:Loc}{J:St}{s:Ww}
def Rel.grow(r:Rel c O L J s){a:Nat}(N:0<a)(i:∀b o,s.heap.get? b=some o->l.get? b=some o):Rel c O L J {s with heap:=l,toks:=a,gens:=z}:=by
 have D:=r.turn (fp:=[]) (wr:=[]) N ⟨λZ h=>(nomatch h),λZ h=>(nomatch h)⟩ (λZ h=>(nomatch h)) λb o Z e=>i b o e;show⟨D.Av,D.obs,D.sep,D.off,D.nL,D.loc,D.new,D.DY,D.CZ,D.base,D.Lb,D.tk⟩
def Ext.grow(x:Ext b L g j P s)(D:∀b o,s.heap.get? b=some o->l.get? b=some o)(Q:GK j.gens z):Ext b L g j P {s with heap:=l,toks:=Z,gens:=z}:=
 ⟨x.le,λy o e h N=>D _ _ (x.keep y o e h N),x.EN.trans (.of λa a o e=>D _ o e),x.fp,x.fF,Q,x.os,x.drawn⟩
end
section
variable {w:Wy}{mg mb:Wu->TM}{f:Fm}{A:Wz}{nm:Wu}{pos:Pos}{body:List WG}{U:List WD}
def rO{O:Gh}(r:Rel c O L J s)(h:Sx i J.H=some o):i<J.m:=by
 show aX (r.obs i o h) λa ft e Z=>?_;rcases YT i J.m with z|z
 ·show z
 ·replace e:=(r.new i z)▸e;cases e
def aeX(N:G9 w mg mb f A nm body){C z E x:Nat}{D:Tx}{Fin:Ww->Prop}(B:Ia (Ai w) f.L l j L₀ C D (fG w z U).L E x){Y d r:WJ}{y:Tz->Prop}{F:List (FV×Nat)}{O:Gh}
  (q:∀i e Z W,Mo (Ai w) f.L l j L₀ C D (fG w z U).L E x e Z W i->(∃e' n',View Z Y [] e' n')->y e->Fin i)
  (g:GI (Ai w) f.L l j L₀ C D (fG w z U).L E x O H m LL [] J ⟨304,.no,none,none⟩ s) (hT:Eg .no 304 none d.length r F) (v:View J d r 0 k) (hz:J.off=J.size) (hn:F.length+k<=n) (hl:F.length+k<=20000) (hd:d++r=Y) (hG:∀R,y (List.replicate k (.tup [CG,R])++CI Y F)):
  Seg (model (Ai w).Aa (Ai w).w) A.in1 (K5 Fin) (YP (Ai w) f A (.Name nm pos) body E x) n sx (.func (Ap (fd w.params 268)) (fG w z U).env) ((model (Ai w).Aa (Ai w).w).den (.func (Ap (fd w.params 268)) (fG w z U).env)) [] s:=by
 show cu (@afp (Ap (fd w.params 268)) (fG w z U).env) λu t o=>?_;have rm:Ay (fG w z U).L 17 (A.in1.over (.func (Ap (fd w.params 268)) (fG w z U).env) []):=d4 B.ab (gZ w z U) rfl (N.rm.mono (by ext)) .nil (by rw[u];decide) (by rw[t];decide) o;show seg_func (zA (ar (adh w.params)) λc1 P=>zA (ar P) λc2 P=>zA (ar P) λc3 P=>zA (ar P) λc4 P=>zA (ar P) λc5 c6=>?_);have hS:SS (Ai w) SR (fG w z U) 17 (S.Bi (X.loc 292) 313 (X.lst X.nil)) (LJ w.params):=by
  have:=nI (nK N.T) 50 (fG w z U) rfl (LJ w.params) (Ze c4);rw[show cS SY (fG w z U).cs (50+1) (LJ w.params)=_ from T3 (λp=>p.2.2.2.2.2) (adf w.params)]at this;show this
 rw[(af (adg _) rfl:execs (Ap (fd w.params 268)) (fG w z U).env=execs [LJ w.params,.While (.Call (.Attribute (MK w.params) (Pe w.params) (Pd w.params)) [] [] (Pf w.params)) [It (NQ w.params),It (NP w.params)] [] (Ph (KU w.params))] (fG w z U).env)];show Wc (seg_wrap (ZT (hS O ⟨Lg,H,m,false⟩ s _ (λfl I=>fl=.AZ/\∃Q,I=⟨Lg,Q,m+1,false⟩/\HA D Q (m+1) C [] J ⟨304,.no,some [],none⟩) _ (g.wake B) rm (aft g.ha (λQ h=>⟨rfl,aO Q rfl h⟩) rfl) λT Z i a b x' r' hl' hk=>?_) (λuu uu h=>h) λuu uu h=>h.elim));show eX hk λG Q M ha=>?_;clear hk;subst G M hl';have g':=g.step B x' r' ha;show Wc (seg_While λp=>aeW N (ab3 N.T z U) ⟨afl _,c5,c6⟩ B (FK.push .nil (by rw[u];decide) (by rw[t];decide) o) (by rw[frameCount_cons,u];decide) (Good:=y) (λn' sx' i e Z W g1 g2 g3=>?_) hT n sx i T Q (m+1) LL [] J d k g' v (.inr ⟨rfl,hz⟩) hn (by simpa using hl) rfl hd λR=>by rw[YL];show hG R);show seg_leaf (.ok .next) ?_;change Seg _ _ _ _ _ _ _ ((execs [] (fG w z U).env).wrap _ _ _ _) _ _;show XZ (seg_end (.ok (.ret .none)) ⟨rfl,q i e Z W g1 g2 g3⟩)
def wu(N:G9 w mg mb f A nm body){O:Gh}{C:Tw}{HH:Tx}{mm X T D a:Nat}{W:Tx}(r:Rel (Ai w) O f.L ⟨C,HH,mm,false⟩ s)(B:Ia (Ai w) f.L O s C X W (fG w T U).L D a)
  {P:Sm} {d u:WJ} {m:Nat} {S:List (FV×Nat)} (g:GI (Ai w) f.L O s C X W (fG w T U).L D a O HH mm C [] P ⟨304,.no,none,none⟩ s2)
  (hgs:s2.gens[a]? =some (.fresh (.func (Ap (fd w.params 268)) (fG w T U).env))) (x:View P d u 0 m) (hz:P.off=P.size) (hT:Eg .no 304 none d.length u S) (I:S.length+m<=20000) {k:TB} {Q:Flow->Ww->Prop} (hp:FW (Ai w) f.L O s k Q)
  (hk:∀t j Z z M m',View Z (d++u) [] M m'->j.vl=false->(∀n,n≠312->Sx n j.L=Sx n C)->(∀i o,Sx i j.H=some o->i<j.m)->(∀p∈W,Sx p.1 j.H=some p.2)->Sx X j.H=some (.lst (List.replicate m (.tup [CG,t])++CI (d++u) S))->lo j.H=Hp Z z->k .AZ j) {Er:Wv->Ww->Prop}:
  codeAny (model (Ai w).Aa (Ai w).w) A (.forLoop (.Name nm pos) (.ref D) body [] f.env) (λr j=>match r with| .ok f=>Q f j| .error e=>Er e j) s2:=by
 have hh:=N.rm.hd;have F:A.depth<recursionLimit:=by have:=N.rm.Fs;omega
 let Fin:Ww->Prop:=λl=>∃y Z z,Mo (Ai w) f.L O s C X W (fG w T U).L D a y Z z l/\(∃M n',View Z (d++u) [] M n')/\∃t,y=List.replicate m (.tup [CG,t])++CI (d++u) S
 show codeAny_forLoop (λn j=>∃gs,j.gens[a]? =some gs/\j.heap.IsGen D a/\j.heap.NoLimit/\gs.Goes (model (Ai w).Aa (Ai w).w) A.in1 (K5 Fin) (YP (Ai w) f A (.Name nm pos) body D a) n (.send .none) (j.setGen a .running)) (λn j hI=>?_) (S.length+m) (aY _ hgs g.gen (N.T.nolimit.keeps g.r.bN) ⟨rfl,?_⟩)
 ·show bO hI λgs e1 e2 e3 e4=>wpAny_pyNext_gen hh e3 F e2 e1 e4 (λv l b hy=>?_) λl hF h' E=>?_
  ·show ZT (hy b) (λuu s3 h3=>ZT h3 (λfl s4 Y=>?_) λuu uu h=>h.elim) λuu uu h=>h.elim;cases fl with
   |next=>
    show bY Y λq1 q2 q3 H=>?_;cases n with
    |zero=>show H.elim
    |succ n=>show(nk n (Z4 _) b q1 q2 q3 H)
   |cont=>
    show bY Y λq1 q2 q3 H=>?_;cases n with
    |zero=>show H.elim
    |succ n=>show(nk n (Z4 _) b q1 q2 q3 H)
   |brk=>show Y.elim
   |ret v=>show Y.elim
  ·obtain⟨y,Z,z,⟨G,H1,m1,R,g1⟩,⟨M,n',v'⟩,t,ho⟩:=hF;have g2:=g1.setGen B .finished;show ZE ?_;have E2:Ext true f.L O s G (l.setGen a .finished):=by
    have:=g1.E.setGen B.g0 (q:=.finished) rfl;rw[eU]at this;show this
   show hp G ⟨R,H1,m1,false⟩ _ .next .AZ (by change Ext f.vl _ _ _ _ _;rw[N.FQ];show E2.grow E E2.gens) (g2.r.grow g2.r.tk E) rfl (hk t ⟨R,H1,m1,false⟩ Z z M n' v' rfl g1.ll (λi o e=>rO g1.r e) (λp hp=>(g1.ha.ex p hp).2.2.2) (ho▸g1.ha.row) g1.ha.lo)
 ·have g1:=g.setGen B .running;show aeX N B (λj y Z z h1 h2 h3=>(b4 y Z z h1 h2 h3)) g1 hT x hz (Zq _) I rfl λt=>(yE t rfl)
end
def uF{N:WA}{R:Result->Ww->Prop}{a:WD}{fd:FuncData}{body:List WG}{j:TO}
  (v:A.depth<recursionLimit) (i:s.heap.get? a=some o) (O:o.data=.func fd) (c:fd.scope.isCoroutine=false) (g:fd.scope.isGenerator=true) (d:fd.body=.stmts body) (z:s.heap.CodeRec fd.code fd.qualname)
  (P:bindArgs fd U=pure j) (b:∀x∈fd.scope.names,x.2≠ .cell) (Q:∀x∈j,fd.scope.names.lookup x.1=some .local) (D:fd.scope.kind=.function)
  (h:∀l,l.Ns s.heap.objs.size (λx=>j.reverse.lookup x)->Heap.SameBut s.heap.objs.size (s.heap.push {cls:=.type "frame",data:=.dict #[]}) l->l.NoLimit/\R (.ok (.ret (.ref l.objs.size)))
   {s with gens:=s.gens.push (.fresh (.func body (callEnv fd s.heap.objs.size a))),toks:=s.toks+j.length+1+1,heap:=l.push {cls:=.type "generator",data:=.fields #[.int s.gens.size 0,.str fd.name (s.toks+j.length),.str fd.qualname (s.toks+j.length+1)]}}):
  codeAny (model N w) A (.call (.ref a) U) R s:=
 codeAny_call_generator v i O c g d z (X7 P (wpAny_newFunctionEnv b Q (λl u e=>h l u e) D))
section
variable {w:Wy}{mg mb:Wu->TM}{f:Fm}{nm:Wu}{pos:Pos}{body:List WG}
def wq{SK:G}(hL:∀v s k,SK.loop 1398 v s k->I1 v s k)(T:TopRead pw Sy mg mb (H1 w.params))(hl:Hu f nm)(F:f.vl=true)(hc:SY.code nm=some 312)(hb:SB (Ai w) SR f 17 Fd body):G7 (Ai w) SK f 30 1398 (.Name nm pos) body:=by
 intro O J s A k Q v x r rm hv hlp j;obtain⟨P,Jm,d,r',m,ro,D,Tk,X,F,V,L,h3,hN3,h64,g,hlo,E,hz,hT,S,hk⟩:=hL _ _ _ hlp;cases P;obtain⟨LL,HH,mm,vl⟩:=J;subst F;show aX hv λa ft W zq3=>?_;clear hv;subst zq3;have ha:HA D HH mm ro [] Jm ⟨304,.no,none,none⟩:=⟨hlo,g,h64,rO r g,hN3,λp j=>⟨(X p j).1,rO r (X p j).2.2,(X p j).2.1,(X p j).2.2⟩⟩
 show aX (r.obs 1 _ (lF ha)) λa' ft' n ho=>?_;replace n:=W▸n;cases n;show aK ho λdx es nn hft hne i1 i2 i3=>?_;show aA r.loc.nm λml Nl hml=>zA (ar (adh w.params)) λc1 U=>zA (ar U) λc2 U=>zA (ar U) λc3 Z=>?_;have hi:=Zm c3;have H:=eV w (a:=268) rfl;have Y:=r.bN;show owit_iter (r.fr Nl) ((ctx T).X) (jt i1 i2) hi.1 hi.2 (XI (uF (by show YW rm.Fs) (Y _ _ (bq w.params H.lt)) H.data H.co c1 H.body ?_ (afm w.params (.ref a)) H.cell ?_ H.kind λl u R=>⟨?_,?_⟩))
 ·show dY H.code λcc oc vs' t e1 e2 e3 e4=>(cI cc oc vs' t e1 (Y _ _ e2) e3 e4)
 ·intro x P;obtain rfl:x=(Mine.B.nm 292,.ref a):=Za P;show Zm (Zd (ar c2).2 292 (.head _))
 ·show T.nolimit.keeps λb o e=>R.extBut b o (Z3 (Yk (Y b o e))) (Zw _ (Y b o e))
 ·have I:=λb o e=>R.extBut b o (Z3 (Yk e)) (Zw _ e);have hC:∃o,l.get? s.heap.objs.size=some o:=by
   show bC u λoL Z Z hL Z=>(yE oL hL)
  have M:=λq b o e=>Zw q (I b o e);have c:s.heap.get? l.objs.size=none:=by
   cases q:s.heap.get? l.objs.size with
   |none=>rfl
   |some o=>show T4 (Yk (I _ _ q)) (YA _)
  show cu r.fresh λf1 f2 f3=>?_;have hCA:s.heap.objs.size≠l.objs.size:=λq=>by show zE hC λo e=>?_;replace e:=q▸e;show T4 (Yk e) (YA _)
  have hLA:¬f.L.CN l.objs.size:=λq=>by show zE (r.there q) λo e=>?_;replace e:=c▸e;show aw e
  have hg0:∀(q:GenState),GK s.gens ((s.gens.push q).setIfInBounds s.gens.size .running):=λq=>⟨λi z e=>by
   have N:i<s.gens.size:=by
    rcases YT i s.gens.size with y|y
    ·show y
    ·replace e:=(Xe y)▸e;cases e
   rw[Yr,Zi (show¬s.gens.size=i by show Nat.ne_of_lt' N),Array.getElem?_push_lt N, ←e,Z6 N],λi z e=>by
   rcases gq e with ⟨_,rfl⟩|⟨h,e⟩
   ·show .inr rfl
   ·show .inl ?_;rw[Array.getElem?_push,Zi λq=>h q.symm]at e;show e⟩
  have B:Ia (Ai w) f.L O s LL ro D (fG w s.heap.objs.size f.L.all).L l.objs.size s.gens.size:=⟨⟨rfl,rfl,f2,rfl⟩,show s.heap.get? s.heap.objs.size=none from aF (Zq _),c,hLA,λq=>hCA q.symm,show s.gens[s.gens.size]? =none from Xe (Zq _)⟩
  change OwitIt _ _ _ _ (.ref l.objs.size) _;have C:Heap.IsGen (l.push {cls:=.type "generator",data:=.fields #[.int s.gens.size 0,.str (fd w.params 268).name (s.toks+1),.str (fd w.params 268).qualname (s.toks+1+1)]}) l.objs.size s.gens.size:=(cg _ _ _ (ZL _ rfl) rfl rfl rfl)
  show wpAny_specialOf C.typeIs slot_gen_next.lookup (wu (show G9 w mg mb f A nm body from⟨T,rm,hl,F,hc,hb⟩) r B ⟨r.grow (YB _) (M _),⟨gE _ (fw u (av λo e=>Zw _ e)) a ft W ?_,f1,f3,Yo (Yb r.Lb (by show zE r.dT λo e=>?_;show Yk e))⟩,(Ext.refl _ _ _ _).grow (M _) (hg0 _),ha,V,L,h3,λZ Z=>rfl,C,λhf=>?_,?_⟩ ?_ E hz hT S j hk)
  ·change List.lookup (Mine.B.nm 292) [(Mine.B.nm 292,Value.ref a)]=_;rw[Xg,Xf]
  ·show cV (r.off _ hf) λZ Z o e=>?_;replace e:=c▸e;cases e
  ·change s.gens.size<(s.gens.push _).size;rw[Array.size_push];show Z4 _
  ·change(s.gens.push _)[s.gens.size]? =_;simp;rfl
end
end
section
open Mine.B
def Fb:S:=.seq (.ret (.An (.cons (.k (.str Dp)) (.cons (.sub (.BR Ad) (.k (.str Tf))) (.cons (.k (.str Cq)) (.cons (.loc 215) .nil)))))) .skip
def GR:Aq:=λu z H k=>∃x,u=[.c (.str x)]/\z=[]/\((lo H).all λp=>Dc p.2)=true/\k (.c (C2 x)) (lo H)
def ud(xs kws H k)(h:GR xs kws H k):Ab (Ah [215] xs kws) λN=>ex g0 Fb ⟨N,H,64,false⟩ (fin k):=by
 show bO h λx Q P D a=>?_;clear h;subst Q P
 conv=>whnf
 show aW D a
def Ex:S:=.seq (.ret (.An (.cons (.k (.str Dp)) (.cons (.sub (.BR Ad) (.Gi (.loc 115) (.k (.str Tb)) (.k (.str Qz)))) (.cons (.k (.str Cq)) (.cons (.loc 235) .nil)))))) .skip
abbrev Ju(b:Bool)(x:WJ):FV:=Bool.rec (BM x) (OK x) b
def Hg:Aq:=λu z H k=>∃x b,u=[.c (.str x),.c (.Ae b)]/\z=[]/\H=[]/\k (.c (Ju b x)) []
def xk(xs kws H k)(h:Hg xs kws H k):Ab (Ah [235,115] xs kws) λN=>ex g0 Ex ⟨N,H,64,false⟩ (fin k):=by
 show dZ h λx b P z j D=>?_;clear h;subst P z j;cases b<;>
 ·conv=>whnf
  show D
def PU:TG:=[(DC,.int 1),(Fi,.int 1),(DD,.int 2),(GS,.int 2),(Em,.int 3)]
def Ez:S:=.seq (.ret (.An (.cons (.k (.str DC)) (.cons (.k (.int 1)) (.cons (.k (.str Fi)) (.cons (.k (.int 1)) (.cons (.k (.str DD)) (.cons (.k (.int 2)) (.cons (.k (.str GS)) (.cons (.k (.int 2)) (.cons (.k (.str Em)) (.cons (.k (.int 3)) .nil)))))))))))) .skip
def Hf:Aq:=λu z H k=>u=[]/\z=[]/\H=[]/\k (.c (.An PU)) []
def xj(xs kws H k)(h:Hf xs kws H k):Ab (Ah [] xs kws) λN=>ex g0 Ez ⟨N,H,64,false⟩ (fin k):=by
 show bY h λz Q P D=>?_;clear h;subst z Q P
 conv=>whnf
 show D
def Gm:TL:=[[38,60,0],[38,60,0],[60,0],[0]]
def Ey:S:=.seq (.ret (.lst (.cons (.k (.str [38,60,0])) (.cons (.k (.str [38,60,0])) (.cons (.k (.str [60,0])) (.cons (.k (.str [0])) .nil)))))) .skip
def Hd:Aq:=λu z H k=>u=[]/\z=[]/\H=[]/\k (.c (.lst [.str [38,60,0],.str [38,60,0],.str [60,0],.str [0]])) []
def w9(xs kws H k)(h:Hd xs kws H k):Ab (Ah [] xs kws) λN=>ex g0 Ey ⟨N,H,64,false⟩ (fin k):=by
 show bY h λz Q P D=>?_;clear h;subst z Q P
 conv=>whnf
 show D
def DM:S:=.seq (.ret (.lst (.cons (.k (.str [32])) (.cons (.k (.str [10])) .nil)))) .skip
def Gr:Aq:=λu z H k=>u=[]/\z=[]/\H=[]/\k (.c (.lst [.str [32],.str [10]])) []
def um(xs kws H k)(h:Gr xs kws H k):Ab (Ah [] xs kws) λN=>ex g0 DM ⟨N,H,64,false⟩ (fin k):=by
 show bY h λz Q P D=>?_;clear h;subst z Q P
 conv=>whnf
 show D
def NL:X:=.and (.cmp 2 (.loc 237) (.fn 0 (.cons (.loc 311) .nil))) (.cmp 8 (.sub (.loc 311) (.loc 237)) (.BR Dx))
def NM:S:=.seq (.DI 237 0 (.k (.int 1))) .skip
def Dr:S:=.seq (.wh 1319 NL NM) (.seq (.ret (.loc 237)) .skip)
def Ar(r:WJ):WJ:=r.takeWhile λc=>decide (c∈AW)
def FL:Aq:=λu z H k=>∃d r,u=[.c (.str (d++r)),.c (.int (d.length:Nat))]/\z=[]/\H=[]/\k (.c (.int ((d.length+(Ar r).length:Nat):Int))) []
def c8(d r:WJ)(c:Nat):Co (d++c::r) ((d.length:Nat):Int)=some c:=by
 rw[dP,List.getElem?_append_right (Zq _),Nat.sub_self];rfl
def oG{K:TB}(O:∀s,R6 g0 NL NM K P s->P s):∀(r d:WJ),(∀n:Int,n=((d.length+(Ar r).length:Nat):Int)->K .AZ ⟨[(311,.c (.str (d++r))),(237,.c (.int n))],[],64,false⟩)->P ⟨[(311,.c (.str (d++r))),(237,.c (.int (d.length:Nat)))],[],64,false⟩
 | [],d,hk=>by
  show O _ ?_
  conv=>whnf
  show bH (Zs (by rw[Zu];show Wo ↑d.length)) ?_
  conv=>whnf
  show bH (Zs (by rw[Zu];show Wo ↑d.length)) (hk _ rfl)
 |c::r,d,hk=>by
  have N:((d.length:Nat):Int)<((d++c::r).length):=by rw[Zg,Zj];show Int.lt.intro rfl
  show O _ ?_
  conv=>whnf
  show aW (Zr N) ?_
  conv=>whnf
  show aa (c8 d r c) ?_
  conv=>whnf
  have U:(d++[c])++r=d++c::r:=by rw[Zo];rfl
  have Z:((d++[c]).length)=d.length+1:=by rw[Zg];rfl
  show bh (λq=>?_) λq=>?_
  ·have D:(Ar (c::r)).length=(Ar r).length+1:=by unfold Ar;rw[Z2,Zk q];rfl
   have Q:=oG O r (d++[c]) λn j=>by
    rw[U];show hk n (by rw[j,D,Zg];change((d.length+1+_:Nat):Int)=_;lia)
   rw[U,Z]at Q
   conv=>whnf
   show Q
  ·have D:(Ar (c::r)).length=0:=by unfold Ar;rw[Z2,Zi (by rw[show decide (c∈AW)=false from q];decide)];rfl
   show hk _ (by rw[D];rfl)
def qE(xs kws H k)(h:FL xs kws H k):Ab (Ah [311,237] xs kws) λN=>ex g0 Dr ⟨N,H,64,false⟩ (fin k):=by
 show dZ h λd r a z j D=>?_;clear h;subst a z j;show aa rfl (i4 λP O=>oG O r d λn b=>?_);subst b;show D
def pN{y:Type}(l:List y)(a b:Nat):slice l (some (a:Int)) (some (b:Int))=(l.drop a).take (b-a):=by
 change(l.take (DL l.length b)).drop (DL l.length a)=_;rw[bV,bV, ←Wj,Wf];by_cases h:a<=l.length
 ·rw[ZO h]
 ·rw[Nat.min_eq_right (Nat.le_of_not_ge h),List.drop_length,YD (Nat.le_of_not_ge h),Wn,Wn]
def bD(d r:WJ)(i j:Nat)(Q:a=((d.length+i:Nat):Int))(P:b=((d.length+j:Nat):Int)):slice (d++r) (some a) (some b)=(r.drop i).take (j-i):=by
 subst Q P;rw[pN, ←YI,YU];congr 1;show Nat.add_sub_add_left d.length j i
def Dq:WJ->WJ->Nat
 | [],_=>0
 |_::_,[]=>0
 |a::x,b::r=>if b=a then Dq x r+1 else 0
def Im(r:WJ)(l:TL)(a:Nat):Nat:=l.foldl (λa x=>max a (Dq x r)) a
def F4(r:WJ)(l:TL)(k:WJ):WJ:=l.foldl (λk x=>if Dq x r=x.length/\k.length<x.length then x else k) k
def MY:X:=.and (.cmp 2 (.loc 271) (.fn 0 (.cons (.loc 215) .nil))) (.cmp 0 (.Cj (.loc 311) (.bin 0 (.loc 237) (.loc 271)) (.bin 0 (.bin 0 (.loc 237) (.loc 271)) (.k (.int 1)))) (.sub (.loc 215) (.loc 271)))
def Lw:S:=.seq (.DI 271 0 (.k (.int 1))) .skip
def MX:S:=.seq (.Aj 202 (.fn 5 (.cons (.loc 202) (.cons (.loc 271) .nil)))) (.seq (.iff (.and (.cmp 0 (.loc 271) (.fn 0 (.cons (.loc 215) .nil))) (.cmp 4 (.loc 271) (.fn 0 (.cons (.loc 192) .nil)))) (.seq (.Aj 192 (.loc 215)) .skip) .skip) .skip)
def IK:S:=.seq (.Aj 271 (.k (.int 0))) (.seq (.wh 1309 MY Lw) MX)
def Pt:S:=.iff (.cmp 8 (.Cj (.loc 311) (.loc 237) (.bin 0 (.loc 237) (.k (.int 1)))) (.tup (.cons (.k (.str [])) (.cons (.k (.str [60])) (.cons (.k (.str [38])) (.cons (.k (.str [32])) (.cons (.k (.str [10])) .nil))))))) (.seq (.ret (.tup (.cons (.loc 237) (.cons (.lst .nil) (.cons (.k (.str [38])) .nil))))) .skip) .skip
def Lv:S:=.seq (.Aj 160 (.bin 0 (.loc 237) (.loc 202))) (.seq (.iff (.cmp 0 (.loc 192) (.k (.str []))) (.seq (.ret (.tup (.cons (.loc 160) (.cons (.lst (.cons (.k (.str Cs)) .nil)) (.cons (.bin 0 (.k (.str [38])) (.Cj (.loc 311) (.loc 237) (.loc 160))) .nil))))) .skip) .skip) (.seq (.ret (.tup (.cons (.loc 160) (.cons (.Gi (.cmp 0 (.sub (.loc 192) (.k (.int (-1)))) (.k (.str [59]))) (.lst .nil) (.lst (.cons (.k (.str Cr)) .nil))) (.cons (.bin 0 (.sub (.BR A0) (.loc 192)) (.Cj (.loc 311) (.bin 0 (.loc 237) (.fn 0 (.cons (.loc 192) .nil))) (.loc 160))) .nil))))) .skip))
def CW:S:=.seq Pt (.seq (.Aj 202 (.k (.int 0))) (.seq (.Aj 192 (.k (.str []))) (.seq (.fr 1307 [215] (.BR A0) IK) Lv)))
abbrev Lf(d r:WJ)(a:Int)(k:WJ)(y:Tw):Tw:=(311,.c (.str (d++r)))::(237,.c (.int (d.length:Nat)))::(202,.c (.int a))::(192,.c (.str k))::y
def nO{K:TB}(O:∀s,R6 g0 MY Lw K P s->P s):∀(q g p:WJ) (y:Tw),x=p++q->r=p++g->Sx 271 y=some (.c (.int (p.length:Nat)))->Sx 215 y=some (.c (.str x))->
  (∀y,Sx 271 y=some (.c (.int ((p.length+Dq q g:Nat):Int)))->Sx 215 y=some (.c (.str x))->K .AZ ⟨Lf d r a k y,[],64,false⟩)->P ⟨Lf d r a k y,[],64,false⟩
 |q,g,p,y,hx,hr,h1,h2,hk=>by
  show O _ ?_
  conv=>whnf
  show aa h1 ?_
  conv=>whnf
  show aa h2 ?_
  conv=>whnf
  cases q with
  |nil=>
   show bH (Zs (by rw[hx,Zu];show Wo ↑p.length)) ?_
   conv=>whnf
   show bH (Zs (by rw[hx,Zu];show Wo ↑p.length)) (hk y h1 h2)
  |cons b q=>
   have N:((p.length:Nat):Int)<x.length:=by rw[hx,Zg,Zj];show Int.lt.intro rfl
   show aW (Zr N) ?_
   conv=>whnf
   show aa h1 ?_
   conv=>whnf
   show aa h1 ?_
   conv=>whnf
   show aa h2 ?_
   conv=>whnf
   show aa h1 ?_
   conv=>whnf
   show aa (by rw[hx];show c8 p q b) ?_
   conv=>whnf
   have l:slice (d++r) (some (d.length+p.length)) (some (d.length+p.length+1))=g.take 1:=by
    rw[bD d r p.length (p.length+1) (Y7 d.length p.length) (by lia),hr,YU,YQ]
   have e:S7 (Cn (g.take 1) [b]) (ex g0 Lw ⟨Lf d r a k y,[],64,false⟩ (wo P K)) (K .AZ ⟨Lf d r a k y,[],64,false⟩):=by
    rw[aE];cases g with
    |nil=>show bH (Zs λz=>nomatch z) (hk y h1 h2)
    |cons c g=>
     by_cases q1:c=b
     ·subst q1;show aW (Zr rfl) ?_
      conv=>whnf
      show aa h1 ?_;have U:((p++[c]).length)=p.length+1:=by rw[Zg];rfl
      show nO O q g (p++[c]) (put 271 (.c (.int (p.length+1))) y) (by rw[hx,Zo];rfl) (by rw[hr,Zo];rfl) (by rw[U];show(ao _ _ _ _).trans (Zk rfl)) ((ao _ _ _ _).trans ((Zi (by ext)).trans h2)) λy D A=>hk y (D.trans ?_) A;rw[show Dq (c::q) (c::g)=Dq q g+1 from Zk rfl,Zg];show T3 (λn:Nat=>some (V.c (.int (n:Int)))) (by change p.length+1+_=_;show YJ p.length (Dq q g))
     ·replace hk:=(show Dq (b::q) (c::g)=0 from Zi q1)▸hk;show bH (Zs λz=>q1 (ZI z).1) (hk y h1 h2)
   replace e:=(YS l)▸e;show e
def adk:(if((a:Nat):Int)<((c:Nat):Int)then((c:Nat):Int)else((a:Nat):Int))=((max a c:Nat):Int):=by
 split<;>lia
def zU{K:TB}{d r x k:WJ}(U:Sx 271 y=some (.c (.int (c:Nat))))(N:Sx 215 y=some (.c (.str x)))
  (D:K .AZ ⟨Lf d r ((max a c:Nat):Int) (if c=x.length/\k.length<x.length then x else k) y,[],64,false⟩):ex g0 MX ⟨Lf d r (a:Nat) k y,[],64,false⟩ K:=by
 rw[←adk]at D
 conv=>whnf
 show aa U ?_
 conv=>whnf
 show aa U ?_
 conv=>whnf
 show aa N ?_
 conv=>whnf
 show bh (λq=>?_) λq=>?_
 ·have q1:=X0.mp (Zm q)
  conv=>whnf
  show aa U ?_
  conv=>whnf
  show bh (λq2=>?_) λq2=>?_
  ·rw[Zk ((⟨q1,q1▸(Xa.mp (Zm q2))⟩:c=x.length/\k.length<x.length))]at D
   conv=>whnf
   show aa N D
  ·rw[Zi ((λz=>(λz=>ZA q2 (Xa.mpr z)) (q1▸z.2):¬(c=x.length/\k.length<x.length)))]at D;show D
 ·rw[Zi ((λz=>(λz=>ZA q (T3 _ z)) z.1:¬(c=x.length/\k.length<x.length)))]at D
  conv=>whnf
  show bH q D
def rS{K:TB}:∀(l:TL) (a:Nat) (k:WJ) (y:Tw),(∀y,K .AZ ⟨Lf d r ((Im r l a:Nat):Int) (F4 r l k) y,[],64,false⟩)->Dd (ex g0 IK) (C3 [215]) (l.map .str) ⟨Lf d r (a:Nat) k y,[],64,false⟩ K
 | [],a,k,y,hk=>hk y
 |x::l,a,k,y,hk=>by
  change ex g0 IK ⟨Lf d r (a:Nat) k (put 215 (.c (.str x)) y),[],64,false⟩ (fo (ex g0 IK) (C3 [215]) (l.map .str) K);show aG (aQ ?_);show i4 λP O=>nO O x r [] _ rfl rfl ((ao _ _ _ _).trans (Zk rfl)) ((ao _ _ _ _).trans ((Zi (by ext)).trans ((ao _ _ _ _).trans (Zk rfl)))) λy U N=>?_;replace U:=(Wb _)▸U;show cU (zU U N (rS l _ _ y hk))
def aeM:(Bx.all λp=>ble p.1.length 1000)=true:=by left
def afX(h:(l.all λp=>ble p.1.length 1000)=true):OQ (.An l)=some (l.map λp=>.str p.1):=by
 change(Bool.rec none (some (l.map λp=>.str p.1)) (l.all λp=>ble p.1.length 1000):Option Tz)=_;rw[h]
def w6(s:St):Io A0 s=some (Au.map .str,s):=by
 rw[ub];rw[Y9];rfl
abbrev Jh:WJ:=[60,38,32,10]
def aas:CT (.str [c]) [.str [],.str [60],.str [38],.str [32],.str [10]]=some (decide (c∈Jh)):=by
 rw[gA c (l:=[.str [60],.str [38],.str [32],.str [10]]) rfl];rfl
def jr:∀ {l:TL} {k:WJ},F4 r l k=k\/F4 r l k∈l
 | [],k=>.inl rfl
 |x::l,k=>by
  change F4 r l (if Dq x r=x.length/\k.length<x.length then x else k)=k\/F4 r l (if Dq x r=x.length/\k.length<x.length then x else k)∈x::l;split
  ·rcases jr with h|h
   ·show .inr (by rw[h];show .head _)
   ·show .inr (.tail _ h)
  ·show(jr).imp_right λz=>.tail _ z
def mP:∀ {x:WJ},Dq x r<=r.length:=by
 induction r with
 |nil=>intro x;cases x<;>show Zq _
 |cons b r Q=>
  intro x;cases x with
  |nil=>show ZF _
  |cons a x=>
   change(if b=a then Dq x r+1 else 0)<=_;split
   ·show Z1 Q
   ·show ZF _
def BW(r:WJ):Nat:=Im r Au 0
def BY(r:WJ):WJ:=F4 r Au []
def HJ(n:Nat)(r:WJ):FV:=match r with
 | []=>.tup [.int (n:Nat),.lst [],.str [38]]
 |c::r'=>if c∈Jh then .tup [.int (n:Nat),.lst [],.str [38]]else
  if BY r=[]then .tup [.int ((n+BW r:Nat):Int),.lst [.str Cs],.str (38::r.take (BW r))]else
  .tup [.int ((n+BW r:Nat):Int),.lst (if(BY r).getLast?=some 59 then []else [.str Cr]),.str (Jt (BY r)++(r.take (BW r)).drop (BY r).length)]
def acC{d r l:WJ}{U:Nat}(c:r.length<=10240)(O:l=[]\/l∈Au)
  (D:k (.c (if l=[]then FV.tup [.int ((d.length+U:Nat):Int),.lst [.str Cs],.str (38::r.take U)]else .tup [.int ((d.length+U:Nat):Int),.lst (if l.getLast?=some 59 then []else [.str Cr]),.str (Jt l++(r.take U).drop l.length)])) []):ex g0 Lv ⟨Lf d r (U:Nat) l y,[],64,false⟩ (fin k):=by
 have A:slice (d++r) (some ((d.length:Nat):Int)) (some (((d.length:Nat):Int)+((U:Nat):Int)))=r.take U:=bD d r 0 U (X0.mpr rfl) (Y7 d.length U);have s:slice (d++r) (some ((d.length:Nat)+(l.length:Nat))) (some ((d.length:Nat)+(U:Nat)))=(r.take U).drop l.length:=by
  rw[bD d r l.length U (Y7 d.length l.length) (Y7 d.length U),Wf]
 have g:∀v:V,Sx 160 (put 160 v y)=some v:=λv=>(ao _ _ _ _).trans (Zk rfl);rw[show((d.length+U:Nat):Int)=(d.length:Nat)+(U:Nat) from Int.natCast_add _ _]at D;cases l with
 |nil=>
  rw[Zk rfl]at D
  conv=>whnf
  show aa (g _) ?_
  conv=>whnf
  show aa (g _) ?_
  conv=>whnf
  show⟨?_,?_⟩
  ·rw[A,ZG];change 1+_<=16777216;show Zh (ZH (Zh (Yt _ _) c) 1) (by ext)
  ·rw[A];show D
 |cons a l=>
  rw[Zi λz=>nomatch z]at D;show ip (mq (show BB (a::l) Bx=true from gT.mpr (by rw[g9];show O.resolve_left λz=>nomatch z))) λo b j=>?_;have N:Jt (a::l)=o::b:=by unfold Jt;rw[j.sel];rfl
  have f:=j.len;obtain⟨z,P⟩:∃z,(a::l).getLast?=some z:=⟨_,Xw (XU a l)⟩
  have hi:Co (a::l) (-1)=some z:=by
   rw[←(List.dropLast_concat_getLast (XU a l)),show(a::l).getLast (XU a l)=z from Zf ((Xw _).symm.trans P)];show oO
  rw[N,P, ←s]at D;have u:(slice (d++r) (some (((d.length:Nat):Int)+(((a::l).length:Nat):Int))) (some (((d.length:Nat):Int)+((U:Nat):Int)))).length<=10240:=by
   rw[s,ZM,ZG];show Zh (Wl _ _) (Zh (Yt _ _) c)
  conv=>whnf
  show aa (g _) ?_
  conv=>whnf
  show aa (o:=Co (a::l) (-1)) hi ?_
  conv=>whnf
  show bh (λq=>?_) λq=>?_
  ·rw[Zk (T3 some (Zm (iK q)))]at D
   conv=>whnf
   show aa (o:=sel (a::l) Bx) j.sel ?_
   conv=>whnf
   show aa (g _) ?_
   conv=>whnf
   show⟨?_,?_⟩
   ·change(o::b).length+_<=16777216;rw[Zj];show Zh (ZH u _) (Zh (ZV (Z1 f) 10240) (by ext))
   ·show D
  ·rw[Zi λe=>ZA (iK q) (Zf e)]at D
   conv=>whnf
   show aa (o:=sel (a::l) Bx) j.sel ?_
   conv=>whnf
   show aa (g _) ?_
   conv=>whnf
   show⟨?_,?_⟩
   ·change(o::b).length+_<=16777216;rw[Zj];show Zh (ZH u _) (Zh (ZV (Z1 f) 10240) (by ext))
   ·show D
def Si(r:WJ):Bool:=match r with
 | []=>true
 |c::_=>decide (c∈Jh)
def sT{x r:WJ}(P:x=r.take 1)(e:CT (.str x) [.str [],.str [60],.str [38],.str [32],.str [10]]=some b)(h:b=v):Si r=v:=by
 subst h;replace e:=P▸e;cases r with
 |nil=>show Zf ((rfl).trans e)
 |cons c r=>show Zf (aas.symm.trans e)
def KJ:Aq:=λu z H k=>∃d r,u=[.c (.str (d++r)),.c (.int (d.length:Nat))]/\z=[]/\H=[]/\(d++r).length<=10240/\k (.c (HJ d.length r)) []
def adP(xs kws H k)(h:KJ xs kws H k):Ab (Ah [311,237] xs kws) λN=>ex g0 CW ⟨N,H,64,false⟩ (fin k):=by
 show dH h λd r P z j u D=>?_;clear h;subst P z j;have l:=bD d r 0 1 (X0.mpr rfl) (Int.ofNat_add_one_out d.length);have go:HJ d.length r=(if BY r=[]then FV.tup [.int (d.length+BW r:Nat),.lst [.str Cs],.str (38::r.take (BW r))]else .tup [.int (d.length+BW r:Nat),.lst (if(BY r).getLast?=some 59 then []else [.str Cr]),.str (Jt (BY r)++(r.take (BW r)).drop (BY r).length)])->
   ex g0 (S.seq (S.Aj 202 (X.k (.int 0))) (S.seq (S.Aj 192 (X.k (.str []))) (S.seq (S.fr 1307 [215] (X.BR A0) IK) Lv))) ⟨[(311,.c (.str (d++r))),(237,.c (.int d.length))],[],64,false⟩ (fin k):=λe=>by
  rw[e]at D;show aG (aQ (aG (aQ ?_)));show zO (bB ?_);rw[w6];show rS Au 0 [] [] λy=>cU ?_;have b:r.length<=10240:=by rw[Zg]at u;show Xk u
  obtain⟨U,A⟩:∃U,BW r=U:=⟨_,rfl⟩
  obtain⟨kk,a⟩:∃kk,BY r=kk:=⟨_,rfl⟩
  have O:F4 r Au []=[]\/F4 r Au []∈Au:=jr;rw[a]at D;unfold BW at A;unfold BY at a;rw[a]at O;rw[a];show acC b O D
 show aa rfl ?_
 conv=>whnf
 show bh (λq=>?_) λq=>?_
 ·have q:=sT l rfl q;have e:HJ d.length r=.tup [.int (d.length:Nat),.lst [],.str [38]]:=by
   cases r with
   |nil=>rfl
   |cons c r=>show Zk (Zm q)
  rw[e]at D
  conv=>whnf
  show D
 ·have q:=sT l rfl q;show go ?_;cases r with
  |nil=>show nomatch q
  |cons c r=>show Zi (ZA q)
def MN:List (Nat×Aq):=[(774,Hf),(781,Hd),(788,Gr),(795,GR),(802,Hg),(809,KJ),(816,FL)]
def SM:G:=Ax MN
structure HB (X H:Tx) (m:Nat) (row:Tz):Prop where
 lo:lo H=[]
 row:Sx 64 H=some (.lst row)
 hm:64<m
 ex:∀p∈X,64<p.1/\p.1<m/\Sx p.1 H=some p.2
section
variable {X H:Tx}{m:Nat}{row row':Tz}{L:Tw}
def HB.hi(h:HB X H m row):HB X (hi H) m row:=⟨d9 H,by rw[iI,Zi (by ext)];show h.row,h.hm,λp j=>⟨(h.ex p j).1,(h.ex p j).2.1,by rw[iI,Zi (by show Nat.not_lt_of_gt ((h.ex p j).1))];show(h.ex p j).2.2⟩⟩
def HB.push(h:HB X H m row)(o:AO):HB ((m,o)::X) ((m,o)::H) (m+1) row:=by
 have:=h.hm;show⟨?_,?_,by show YO 1 this,λp j=>?_⟩
 ·rw[b7,Zi (show¬m<64 by show Nat.not_lt_of_gt this)];show h.lo
 ·rw[aq,Zi (show¬64=m by show Z3 this)];show h.row
 ·rcases Zb j with rfl|j
  ·show⟨this,Z4 _,(aq _ _ _).trans (Zk rfl)⟩
  ·show cu (h.ex p j) λU Z D=>⟨U,by show YO 1 Z,by rw[aq,Zi (show¬p.1=m by show Z3 Z)];show D⟩
def HB.rN(h:HB X H m row):HB X (put 64 (.lst row') H) m row':=⟨by rw[b6 (by ext)];show h.lo,(ao _ _ _ _).trans (Zk rfl),h.hm,λp j=>⟨(h.ex p j).1,(h.ex p j).2.1,by rw[ao,Zi (by show Nat.ne_of_lt' ((h.ex p j).1))];show(h.ex p j).2.2⟩⟩
def HB.w(h:HB X H m row):HB [] H m row:=⟨h.lo,h.row,h.hm,λZ j=>(nomatch j)⟩
def k_b(h:HB X H m row)(u:g.fn f=true)(N:Z.all FD=true)(a:g.call f Z [] [] λv Q=>Q=[]/\∀Q,HB X Q m row->F v ⟨L,Q,m,false⟩)(O:∀k P:V->Tx->Prop,(∀v H,k v H->P v H)->g.call f Z [] [] k->g.call f Z [] [] P):BL g f Z [] ⟨L,H,m,false⟩ F:=by
 show fT u N (by rw[h.lo];rfl) ?_;rw[h.lo];show O _ _ (λv Q D=>?_) a;obtain⟨rfl,D⟩:=D;show D _ h.hi
end
def Eb(x:X)(L:Tw)(row:Tz)(v:V):Prop:=∀X H m F,HB X H m row->(∀Q,HB X Q m row->F v ⟨L,Q,m,false⟩)->SU SM x ⟨L,H,m,false⟩ (one F)
section
variable {L:Tw}{row:Tz}
def Eb.loc(h:Sx n L=some v):Eb (.loc n) L row v:=λZ Z Z Z y z=>aj (aa h (z _ y))
def Eb.k:Eb (.k f) L row (.c f):=λZ Z Z Z y z=>aQ (z _ y)
def Eb.and(Q:Eb a L row (.c (.Ae p)))(P:p=true->Eb b L row (.c (.Ae q)))(SG:p=false->q=false):Eb (.and a b) L row (.c (.Ae (p&&q))):=λX H m F y z=>Q X H m _ y λH1 U=>aa rfl (bh (λe=>P e X H1 m _ U (by have e:p=true:=e;rw[e,XB]at z;show z)) λe=>by have e:p=false:=e;rw[e,Wg]at z;rw[e];show z _ U)
def Eb.ch(Q:Eb a L row (.c (.str [c]))):Eb (.cmp 0 a (.k (.str [b]))) L row (.c (.Ae (decide (c=b)))):=λX H m F y z=>aH (Q X H m _ y λH1 U=>aQ (dt (vi (z _ U))))
def Eb.lt(Q:Eb a L row (.c (.int (i:Nat))))(P:Eb b L row (.c (.int (j:Nat)))):Eb (.cmp 2 a b) L row (.c (.Ae (decide (i<j)))):=λX H m F y z=>aH (Q X H m _ y λH1 U=>P X H1 m _ U λA N=>by
 have h:F (.c (.Ae (decide (i<(j:Int))))) ⟨L,A,m,false⟩:=by rw[show decide ((i:Int)<(j:Int))=decide (i<j) from decide_eq_decide.mpr Xa];show z _ N
 show h)
def Eb.add(Q:Eb a L row (.c (.int (i:Nat)))):Eb (.bin 0 a (.k (.int (j:Nat)))) L row (.c (.int ((i+j:Nat):Int))):=λX H m F y z=>cm (Q X H m _ y λH1 U=>aQ (qK (by rw[←Int.natCast_add];show z _ U)))
def Eb.len(Q:Eb a L row (.c (.str x))):Eb (.fn 0 (.cons a .nil)) L row (.c (.int (x.length:Nat))):=λX H m F y z=>fO (ah (Q X H m _ y λH1 U=>au (eW (z _ U))))
def Eb.sub(Q:Eb a L row (.c (.str x)))(P:Eb b L row (.c (.int (i:Nat))))(h:Co x (i:Int)=some c):Eb (.sub a b) L row (.c (.str [c])):=λX H m F y z=>bK (Q X H m _ y λH1 U=>P X H1 m _ U λA N=>aa (o:=Co x (i:Int)) h (z _ N))
theorem Eb.Cj(Q:Eb a L row (.c (.str x)))(P:Eb b L row (.c (.int i)))(u:Eb c L row (.c (.int j))):Eb (.Cj a b c) L row (.c (.str (slice x (some i) (some j)))):=λX H m F y z=>d6 (Q X H m _ y λH1 U=>P X H1 m _ U λA N=>u X A m _ N λv D=>z _ D)
theorem Eb.AM(Q:Eb a L row (.c (.str x))):Eb (.call 795 (.cons a .nil)) L row (.c (C2 x)):=λX H m F y z=>dh (ah (Q X H m _ y λH1 b=>au (k_b b rfl rfl (fL x rfl rfl rfl rfl z) λZ Z e l=>bO l λx U c D N=>(aY x U c D (e _ _ N)))))
def Eb.chars(Q:Eb a L row (.c (.str x)))(P:Eb b L row (.c (.Ae p))):Eb (.call 802 (.cons a (.cons b .nil))) L row (.c (Ju p x)):=λX H m F y z=>dh (ah (Q X H m _ y λH1 e=>ah (P X H1 m _ e λA c=>au (k_b c rfl rfl (bj x p rfl rfl rfl rfl z) λZ Z h ⟨x,p,U,f,D,N⟩=>(bG x p U f D (h _ _ N))))))
def Eb.blanks:Eb (.call 788 .nil) L row (.c (.lst [.str [32],.str [10]])):=λX H m F y z=>dh (au (k_b y rfl rfl ⟨rfl,rfl,rfl,rfl,z⟩ λZ Z b l=>bY l λU a D N=>⟨U,a,D,b _ _ N⟩))
def Eb.acq:Eb (.call 781 .nil) L row (.c (.lst [.str [38,60,0],.str [38,60,0],.str [60,0],.str [0]])):=λX H m F y z=>dh (au (k_b y rfl rfl ⟨rfl,rfl,rfl,rfl,z⟩ λZ Z b l=>bY l λU a D N=>⟨U,a,D,b _ _ N⟩))
def Eb.wy(Q:Eb a L row (.c (.str (d++r))))(P:Eb b L row (.c (.int (n:Nat))))(j:d.length=n):Eb (.call 816 (.cons a (.cons b .nil))) L row (.c (.int ((n+(Ar r).length:Nat):Int))):=λX H m F y z=>dh (ah (Q X H m _ y λH1 e=>ah (P X H1 m _ e λA c=>au (by
 clear P;subst j;show k_b c rfl rfl (bj d r rfl rfl rfl rfl z) λZ Z h l=>dZ l λd r U f D N=>(bG d r U f D (h _ _ N))))))
def Eb.qW(Q:Eb a L row (.c f))(P:Eb b L row (.c g)):Eb (.tup (.cons a (.cons b .nil))) L row (.c (.tup [f,g])):=λX H m F y z=>dW (ah (Q X H m _ y λH1 U=>ah (P X H1 m _ U λA N=>au (aa (a:=([f,g],A)) rfl (aW rfl (z _ N))))))
def Eb.bl(Q:Eb a L row (.c (.str [c]))):Eb (.cmp 8 a (.call 788 .nil)) L row (.c (.Ae (decide (c∈[32,10])))):=λX H m F y z=>aH (Q X H m _ y λH1 U=>Eb.blanks X H1 m _ U λA N=>by
 have h:Ab (CT (.str [c]) [.str [32],.str [10]]) λv=>F (.c (.Ae v)) ⟨L,A,m,false⟩:=aa (gA c (l:=[.str [32],.str [10]]) rfl) (z _ N);show dt h)
def vm(h:A<4):Co [FV.str [38,60,0],.str [38,60,0],.str [60,0],.str [0]] ((A:Nat):Int)=some (.str (Gm.getD A [])):=by
 rw[dP];show k4 (P:=λA=>[FV.str [38,60,0],.str [38,60,0],.str [60,0],.str [0]][A]? =some (.str (Gm.getD A []))) rfl rfl rfl rfl h
def Eb.no(Q:Eb a L row (.c (.str [c])))(P:Eb b L row (.c (.int (A:Nat))))(h:A<4):Eb (.cmp 9 a (.sub (.call 781 .nil) b)) L row (.c (.Ae (!decide (c∈Gm.getD A [])))):=λX H m F y z=>aH (Q X H m _ y λH1 U=>bK (Eb.acq X H1 m _ U λe N=>P X e m _ N λv D=>aa (o:=Co _ ((A:Nat):Int)) (vm h) (dt (z _ D))))
end
def Bw(r:WJ):Nat:=Bool.rec (BW r) 0 (Si r)
def BO(r:WJ):TL:=Bool.rec (if BY r=[]then [Cs]else if(BY r).getLast?=some 59 then []else [Cr]) [] (Si r)
def B7(r:WJ):WJ:=Bool.rec (if BY r=[]then 38::r.take (BW r)else Jt (BY r)++(r.take (BW r)).drop (BY r).length) [38] (Si r)
def vF(n:Nat)(r:WJ):HJ n r=.tup [.int ((n+Bw r:Nat):Int),.lst ((BO r).map .str),.str (B7 r)]:=by
 cases r with
 |nil=>rfl
 |cons c r=>
  change(if c∈Jh then FV.tup [.int (n:Nat),.lst [],.str [38]]else _)=_;unfold Bw BO B7;have e:Si (c::r)=decide (c∈Jh):=rfl;rw[e];by_cases h:c∈Jh
  ·rw[Zk h,Zr h];rfl
  ·rw[Zi h,Zs h];by_cases N:BY (c::r)=[]
   ·rw[Zk N];rw[Zk N,Zk N];rfl
   ·rw[Zi N];rw[Zi N,Zi N];split<;>rfl
def kj(r:WJ):BO r=[]\/∃x,BO r=[x]:=by
 unfold BO;cases Si r
 ·split
  ·show .inr ⟨_,rfl⟩
  ·split
   ·show .inl rfl
   ·show .inr ⟨_,rfl⟩
 ·show .inl rfl
structure LB (L:Tw) (text:WJ) (n kind:Nat):Prop where
 a:Sx 311 L=some (.c (.str text))
 b:Sx 237 L=some (.c (.int (n:Nat)))
 c:Sx 191 L=some (.c (.int (kind:Nat)))
 e:Sx 267 L=some (.ob 64)
section
variable {L:Tw}{text:WJ}{n kind m:Nat}{row:Tz}{Z H:Tx}{K:TB}
def LB.put(h:LB L text n kind){k:Nat}(D:[311,237,191,267].any (λi=>beq i k)=false)(v:V):LB (put k v L) text n kind:=by
 have j:∀i,i∈[311,237,191,267]->i≠k:=λi hi e=>by
  have:=List.any_eq_false.mp D i hi;replace this:=e▸this;replace this:=(bW _)▸this;show this rfl
 show⟨(ao _ _ _ _).trans ((Zi (j _ (.head _))).trans h.a),(ao _ _ _ _).trans ((Zi (j _ (.tail _ (.head _)))).trans h.b),(ao _ _ _ _).trans ((Zi (j _ (.tail _ (.tail _ (.head _))))).trans h.c),(ao _ _ _ _).trans ((Zi (j _ (.tail _ (.tail _ (.tail _ (.head _)))))).trans h.e)⟩
def LB.pl(h:LB L text n kind)(l:Nat):LB (Mine.A.put 237 (.c (.int (l:Nat))) L) text l kind:=
 ⟨(ao _ _ _ _).trans ((Zi (by ext)).trans h.a),(ao _ _ _ _).trans (Zk rfl),(ao _ _ _ _).trans ((Zi (by ext)).trans h.c),(ao _ _ _ _).trans ((Zi (by ext)).trans h.e)⟩
def LB.rw(h:LB L text n kind):LB (Mine.A.put 267 (.ob 64) L) text n kind:=
 ⟨(ao _ _ _ _).trans ((Zi (by ext)).trans h.a),(ao _ _ _ _).trans ((Zi (by ext)).trans h.b),(ao _ _ _ _).trans ((Zi (by ext)).trans h.c),(ao _ _ _ _).trans (Zk rfl)⟩
def fS:Sx k (put k v L)=some v:=(ao _ _ _ _).trans (Zk rfl)
def fR{i k:Nat}(h:beq i k=false)(e:Sx i L=o):Sx i (put k v L)=o:=(ao _ _ _ _).trans ((Zi (Xb h)).trans e)
def abv(v:Sx 267 L=some (.ob 64))(N:Eb e L row (.c f))(u:row.length+1<=16777216)(h:HB Z H m row)(D:∀Q,HB Z Q m (row++[f])->ex SM b ⟨L,Q,m,false⟩ K):ex SM (.seq (.ex (.Al (.loc 267) 0 (.cons e .nil) [])) b) ⟨L,H,m,false⟩ K:=
 d3 (aJ (aj (aa v (aa (cw h.row rfl) (ah (N Z H m _ h λH1 U=>au (gf U.row rfl U.row (ZX u) (D _ U.rN))))))))
def yG(h:Sx 64 H=some (.lst row))(Q:Sx j H=some (.lst q))(u:row.length+q.length<=16777216)(z:F (.ob 64) ⟨L,put 64 (.lst (row++q)) H,m,false⟩):Es 0 (.ob 64) (.ob j) ⟨L,H,m,false⟩ F:=by
 change Option.rec (motive:=λa=>Prop) _ (λo=>AO.casesOn (motive:=λa=>Prop) o (λl=>Ab (CE H (.ob j)) λy=>Ab (aL y) λq=>Hr (l.length+q.length) (F (.ob 64) (As ⟨L,H,m,false⟩ (put 64 (.lst (l++q)) H)))) _ _ _) (Sx 64 H);rw[h];show aa (eB Q) (aa rfl ⟨u,z⟩)
def aes(c:LB L text n kind)(e:Eb a L row (.c f))(P:Eb b L row (.c j))(u:row.length+2<=16777216)(h:HB Z H m row)(o:∀U Q O,(∀i,i≠267->Sx i U=Sx i L)->LB U text n kind->HB [] Q O (row++[f,j])->ex SM z ⟨U,Q,O,false⟩ K):ex SM (.seq (.DI 267 0 (.lst (.cons a (.cons b .nil)))) z) ⟨L,H,m,false⟩ K:=by
 show fM (aa c.e (d7 (ah (e Z H m _ h λH1 k=>ah (P Z H1 m _ k λA N=>au (aa (a:=([f,j],A)) rfl (aW rfl (gc ?_))))))));have D:=N.push (.lst [f,j]);show yG D.row ((aq _ _ _).trans (Zk rfl)) u (o _ _ _ (λi hi=>(ao _ _ _ _).trans (Zi hi)) c.rw D.w.rN)
def ku(h:SU g z s (one λv s=>Ab (Io v s) λr=>I2 n (F8 y s.L) (SU g cd) (SU g e) r.1 [] (Bv r.2 []) λv j=>F v (Bv j s.L))):SU g (.lcm n y z cd e) s (one F):=h
def ada(h:N (Bv s (put n (.c x) y)) (one λc s=>Ab (Am s.H c) λt=>S7 t (O s (one λe s=>Ab (Av s.H e) λr=>Hr 1 (Ce (.lst [r.1]) (As s r.2) k))) (Ce (.lst []) s k))):I2 n y N O [x] [] s k:=h
def aer(O:LB L text n kind)(d:Sx 318 L=some (.c (.lst (ts.map .str))))(g:Sx 160 L=some (.c (.int (e:Nat))))(P:ts=[]\/∃x,ts=[x])(p:Eb a L row (.c f))(u:row.length+2<=16777216)(h:HB Z H m row)
  (q:∀c Q k,(∀i,i≠267->Sx i c=Sx i L)->LB c text n kind->HB [] Q k (row++((ts.map λx=>.tup [C2 x,.int (e:Nat)])++[f]))->ex SM z ⟨c,Q,k,false⟩ K):
  ex SM (.seq (.DI 267 0 (.bin 0 (.lcm 172 [160] (.loc 318) (.k (.Ae true)) (.tup (.cons (.call 795 (.cons (.loc 172) .nil)) (.cons (.loc 160) .nil)))) (.lst (.cons a .nil)))) z) ⟨L,H,m,false⟩ K:=by
 have fn:∀o H1,HB ((m,.lst (ts.map λx=>.tup [C2 x,.int (e:Nat)]))::o) H1 (m+1) row->SU SM (.lst (.cons a .nil)) ⟨L,H1,m+1,false⟩ (one λb s=>Fv 0 (.ob m) b s λy s=>Es 0 (.ob 64) y s λv s=>ex SM z (Bv s (put 267 v s.L)) K):=λo H1 U=>by
  show d7 (ah (p _ H1 _ _ U λr N=>au (aa (a:=([f],r)) rfl (aW rfl (gc ?_)))));have D:=N.push (.lst [f]);have t:=(D.ex _ (.tail _ (.head _))).2.2;have l:=(D.ex _ (.head _)).2.2;show aa (eB t) (aa (eB l) ⟨?_,gc ?_⟩)
  ·rw[ZD];rcases P with rfl|⟨x,rfl⟩<;>show ZQ rfl
  ·have A:=D.push (.lst ((ts.map λx=>.tup [C2 x,.int e])++[f]));show yG A.row (A.ex _ (.head _)).2.2 ?_ (q _ _ _ (λi hi=>(ao _ _ _ _).trans (Zi hi)) O.rw A.w.rN);rw[Zg,ZD];rcases P with rfl|⟨x,rfl⟩
   ·show Yj u
   ·show u
 have w:F8 [160] L=[(160,.c (.int e))]:=by
  change(Option.rec [] (λv=>(160,v)::[]) (Sx 160 L):Tw)=_;rw[g]
 show fM (aa O.e (cm (ku (aj (aa d ?_)))));change I2 172 (F8 [160] L) _ _ (ts.map .str) [] ⟨[],H,m,false⟩ _;rw[w];rcases P with rfl|⟨x,rfl⟩
 ·show fn Z _ (h.push _)
 ·have j:Eb (.tup (.cons (.call 795 (.cons (.loc 172) .nil)) (.cons (.loc 160) .nil))) (Mine.A.put 172 (.c (.str x)) [(160,.c (.int (e:Nat)))]) row (.c (.tup [C2 x,.int (e:Nat)])):=.qW (.AM (.loc rfl)) (.loc rfl);show ada (aQ (aa rfl (aW rfl (j Z H m _ h λH1 U=>aa rfl ⟨ZQ rfl,gc ?_⟩))));show fn Z _ (U.push _)
end
def Ec(kind c:Nat):Bool:=decide (kind<2)&&decide (c∈[32,10])
noncomputable def pRun(kind c x:Nat):Bool:=Bool.rec (!decide (x∈Gm.getD kind [])) (decide (x∈[32,10])) (Ec kind c)
def Ik(b:WJ):Nat:=if b.take 1=[47]then 2+(Ar (b.drop 1)).length else 1
def Cu(kind c:Nat)(b:WJ):Nat:=if c=38/\kind<2 then 1+Bw b else if c=0 then 1 else if c=60/\kind<3 then Ik b else 1+(b.takeWhile (pRun kind c)).length
def Ip(kind n c:Nat)(b:WJ):Tz:=
 if c=38/\kind<2 then((BO b).map λx=>.tup [C2 x,.int ((n+Cu kind c b:Nat):Int)])++[.tup [BM (B7 b),.int ((n+Cu kind c b:Nat):Int)]]
 else if c=0 then [.tup [CG,.int ((n+Cu kind c b:Nat):Int)],.tup [BM [if kind=0 then 0 else 65533],.int ((n+Cu kind c b:Nat):Int)]]
 else [.tup [Ju (Ec kind c) ((c::b).take (Cu kind c b)),.int ((n+Cu kind c b:Nat):Int)]]
def Od:X:=.and (.cmp 2 (.loc 160) (.fn 0 (.cons (.loc 311) .nil))) (.Gi (.loc 115) (.cmp 8 (.sub (.loc 311) (.loc 160)) (.call 788 .nil)) (.cmp 9 (.sub (.loc 311) (.loc 160)) (.sub (.call 781 .nil) (.loc 191))))
def Oe:S:=.seq (.DI 160 0 (.k (.int 1))) .skip
def Of:S:=.seq (.ex (.Al (.loc 267) 0 (.cons (.tup (.cons (.call 802 (.cons (.Cj (.loc 311) (.loc 237) (.loc 160)) (.cons (.loc 115) .nil))) (.cons (.loc 160) .nil))) .nil) [])) .skip
def Qg:S:=.seq (.iff (.cmp 0 (.Cj (.loc 311) (.loc 160) (.bin 0 (.loc 160) (.k (.int 1)))) (.k (.str [47]))) (.seq (.Aj 160 (.call 816 (.cons (.loc 311) (.cons (.bin 0 (.loc 160) (.k (.int 1))) .nil)))) .skip) .skip) .skip
def Qh:S:=.seq (.Aj 115 (.and (.cmp 2 (.loc 191) (.k (.int 2))) (.cmp 8 (.loc 295) (.call 788 .nil)))) (.seq (.iff (.and (.cmp 0 (.loc 295) (.k (.str [60]))) (.cmp 2 (.loc 191) (.k (.int 3)))) Qg (.seq (.wh 1338 Od Oe) .skip)) Of)
def Qi:S:=.seq (.DI 267 0 (.lst (.cons (.tup (.cons (.call 795 (.cons (.k (.str To)) .nil)) (.cons (.loc 160) .nil))) (.cons (.tup (.cons (.call 802 (.cons (.Gi (.loc 191) (.k (.str [65533])) (.k (.str [0]))) (.cons (.k (.Ae false)) .nil))) (.cons (.loc 160) .nil))) .nil)))) .skip
def Qj:S:=.seq (.GC [(none,160),(none,318),(none,235)] (.call 809 (.cons (.loc 311) (.cons (.loc 160) .nil)))) (.seq (.DI 267 0 (.bin 0 (.lcm 172 [160] (.loc 318) (.k (.Ae true)) (.tup (.cons (.call 795 (.cons (.loc 172) .nil)) (.cons (.loc 160) .nil)))) (.lst (.cons (.tup (.cons (.call 802 (.cons (.loc 235) (.cons (.k (.Ae false)) .nil))) (.cons (.loc 160) .nil))) .nil)))) .skip)
def Mf:S:=.seq (.Aj 237 (.loc 160)) .skip
def Mg:S:=.seq (.Aj 295 (.sub (.loc 311) (.loc 237))) (.seq (.Aj 160 (.bin 0 (.loc 237) (.k (.int 1)))) (.seq (.iff (.and (.cmp 0 (.loc 295) (.k (.str [38]))) (.cmp 2 (.loc 191) (.k (.int 2)))) Qj (.seq (.iff (.cmp 0 (.loc 295) (.k (.str [0]))) Qi Qh) .skip)) Mf))
def Ki:X:=.cmp 2 (.loc 237) (.fn 0 (.cons (.loc 311) .nil))
def Ds:S:=.seq (.Aj 267 (.lst .nil)) (.seq (.wh 1324 Ki Mg) (.seq (.ret (.loc 267)) .skip))
section
variable {L:Tw}{text:WJ}{n kind m:Nat}{row:Tz}{Z H:Tx}{K:TB}
def lz(N:Eb e L row v)(h:HB Z H m row)(D:∀Q,HB Z Q m row->ex SM b ⟨put k v L,Q,m,false⟩ K):ex SM (.seq (.Aj k e) b) ⟨L,H,m,false⟩ K:=aG (N Z H m _ h λH1 U=>D H1 U)
def wH(N:Eb c L row (.c (.Ae p)))(h:HB Z H m row)(U:p=true->∀Q,HB Z Q m row->ex SM x ⟨L,Q,m,false⟩ (sq SM b K))(a:p=false->∀Q,HB Z Q m row->ex SM y ⟨L,Q,m,false⟩ (sq SM b K)):ex SM (.seq (.iff c x y) b) ⟨L,H,m,false⟩ K:=
 bE (N Z H m _ h λQ l=>aa rfl (bh (λq=>U q Q l) λq=>a q Q l))
def Eb.ref(Q:Eb a L row (.c (.str (d++r))))(P:Eb b L row (.c (.int (n:Nat))))(j:d.length=n)(D:(d++r).length<=10240):Eb (.call 809 (.cons a (.cons b .nil))) L row (.c (HJ n r)):=λX H m F y z=>dh (ah (Q X H m _ y λH1 f=>ah (P X H1 m _ f λA e=>au (by
 clear P;subst j;show k_b e rfl rfl ⟨d,r,rfl,rfl,rfl,D,rfl,z⟩ λh h k l=>dH l λd r U i c N g=>(bj d r U i c N (k _ _ g))))))
theorem Eb.Gi(u:Eb c L row (.c (.Ae p)))(Q:p=true->Eb a L row v)(P:p=false->Eb b L row v):Eb (.Gi c a b) L row v:=λX H m F y z=>oq (u X H m _ y λH1 U=>aa rfl (bh (λq=>Q q X H1 m _ U z) λq=>P q X H1 m _ U z))
def Eb.ifi(u:Sx 191 L=some (.c (.int (n:Nat))))(Q:n≠0->Eb a L row v)(P:n=0->Eb b L row v):Eb (.Gi (.loc 191) a b) L row v:=λX H m F y c=>oq (aj (aa u (aa rfl (bh (λq=>Q (λz=>by clear u Q;subst z;show nomatch q) X H m _ y c) λq=>P (by
 have:=Zm ((Bool.not_eq_false' (b:=decide (((n:Nat):Int)=0))).mp (show(!decide (((n:Nat):Int)=0))=false from q));show Int.ofNat_eq_zero.mp this) X H m _ y c))))
def pg(O:∀s,R6 SM Od Oe K P s->P s)(g:kind<4):∀(r d:WJ) (L:Tw) (H:Tx),text=d++r->LB L text n0 kind->Sx 115 L=some (.c (.Ae (Ec kind c)))->Sx 160 L=some (.c (.int (d.length:Nat)))->HB Z H m row->
  (∀U Q,LB U text n0 kind->Sx 115 U=some (.c (.Ae (Ec kind c)))->Sx 160 U=some (.c (.int ((d.length+(r.takeWhile (pRun kind c)).length:Nat):Int)))->HB Z Q m row->K .AZ ⟨U,Q,m,false⟩)->P ⟨L,H,m,false⟩
 |r,d,L,H,ht,hL,h1,h2,h,hk=>by
  show O _ ?_;have N:Eb (X.cmp 2 (X.loc 160) (X.fn 0 (X.cons (X.loc 311) X.nil))) L row (.c (.Ae (decide (d.length<text.length)))):=.lt (.loc h2) (.len (.loc hL.a));cases r with
  |nil=>
   rw[show decide (d.length<text.length)=false from Zs (by rw[ht,Zu];show YA d.length)]at N;show Eb.and N (λz=>nomatch z) (λi=>rfl) Z H m _ h λQ l=>aa rfl (bH rfl (hk L Q hL h1 h2 l))
  |cons x r=>
   rw[show decide (d.length<text.length)=true from Zr (by rw[ht,Zg,Zj];lia)]at N;have a:Eb (X.sub (X.loc 311) (X.loc 160)) L row (.c (.str [x])):=.sub (.loc hL.a) (.loc h2) (by rw[ht];show c8 d r x);have j:Eb (X.Gi (X.loc 115) (X.cmp 8 (X.sub (X.loc 311) (X.loc 160)) (X.call 788 X.nil)) (X.cmp 9 (X.sub (X.loc 311) (X.loc 160)) (X.sub (X.call 781 X.nil) (X.loc 191)))) L row (.c (.Ae (pRun kind c x))):=
    .Gi (.loc h1) (λq=>by unfold pRun;rw[q];show .bl a) λq=>by unfold pRun;rw[q];show .no a (.loc hL.c) g
   show Eb.and N (λi=>j) (λz=>nomatch z) Z H m _ h λQ l=>aa rfl (bh (λq=>?_) λq=>?_)
   ·show fM (aa h2 (aQ ?_));have f:(((d++[x]).length:Nat):Int)=(d.length:Nat)+1:=by rw[Zg];rfl
    show pg O g r (d++[x]) (put 160 (.c (.int ((d.length:Nat)+1))) L) Q (by rw[ht,Zo];rfl) (hL.put rfl _) (fR rfl h1) (by rw[f];show fS) l λU Q b u e k=>hk U Q b u (e.trans ?_) k;rw[Z2,show pRun kind c x=true from q,Zg];show T3 (λn:Nat=>some (V.c (.int (n:Int)))) (by change d.length+1+_=_+(_+1);show YJ d.length (List.takeWhile (pRun kind c) r).length)
   ·rw[Z2,show pRun kind c x=false from q]at hk;show hk L Q hL h1 h2 l
end
section
variable {L:Tw}{text:WJ}{n kind m:Nat}{row:Tz}{Z H:Tx}{K:TB}
def uH(v:LB L text n kind)(g:Sx 160 L=some (.c (.int (e:Nat))))(h:HB Z H m row)(D:∀U Q O,LB U text e kind->HB [] Q O row->K .AZ ⟨U,Q,O,false⟩):sq SM Mf K .AZ ⟨L,H,m,false⟩:=
 cU (lz (.loc g) h λQ l=>aB (D _ _ _ (v.pl e) l.w))
def uI(v:LB L (d++r) d.length kind)(g:Sx 160 L=some (.c (.int (e:Nat))))(a:e=d.length+j)(s:Sx 115 L=some (.c (.Ae b)))(h:HB Z H m row)(u:row.length<=20000)
  (D:∀U Q O,LB U (d++r) e kind->HB [] Q O (row++[.tup [Ju b (r.take j),.int (e:Nat)]])->K .AZ ⟨U,Q,O,false⟩):ex SM Of ⟨L,H,m,false⟩ (sq SM .skip (sq SM Mf K)):=by
 have N:Eb (X.tup (X.cons (X.call 802 (X.cons (X.Cj (X.loc 311) (X.loc 237) (X.loc 160)) (X.cons (X.loc 115) X.nil))) (X.cons (X.loc 160) X.nil))) L row (.c (.tup [Ju b (slice (d++r) (some ((d.length:Nat):Int)) (some ((e:Nat):Int))),.int (e:Nat)])):=.qW (.chars (.Cj (.loc v.a) (.loc v.b) (.loc g)) (.loc s)) (.loc g);rw[show slice (d++r) (some ((d.length:Nat):Int)) (some ((e:Nat):Int))=r.take j from bD d r 0 j (X0.mpr rfl) (by rw[a])]at N;show abv v.e N (by lia) h λQ l=>aB (cU (aB (uH v g l D)))
def xA(hL:LB L (d++c::b) d.length kind)(Y:kind<4)(h:HB Z H m row)(u:row.length<=20000)(V:(d++c::b).length<=10240)
  (D:∀U o O,LB U (d++c::b) (d.length+Cu kind c b) kind->HB [] o O (row++Ip kind d.length c b)->K .AZ ⟨U,o,O,false⟩):ex SM Mg ⟨L,H,m,false⟩ K:=by
 show lz (show Eb (X.sub (X.loc 311) (X.loc 237)) L row (.c (.str [c])) from .sub (.loc hL.a) (.loc hL.b) (c8 d b c)) h λH1 h1=>?_;have M:=hL.put (k:=295) rfl (.c (.str [c]));show lz (.add (.loc M.b)) h1 λH2 h2=>?_;have A:=M.put (k:=160) rfl (.c (.int (d.length+1:Nat)));have a:Sx 295 (put 160 (.c (.int ((d.length+1:Nat):Int))) (put 295 (.c (.str [c])) L))=some (.c (.str [c])):=fR rfl fS;have Q:Sx 160 (put 160 (.c (.int ((d.length+1:Nat):Int))) (put 295 (.c (.str [c])) L))=some (.c (.int ((d.length+1:Nat):Int))):=fS;generalize put 160 (.c (.int ((d.length+1:Nat):Int))) (put 295 (.c (.str [c])) L)=L2 at*;have N:(d++[c]).length=d.length+1:=by rw[Zg];rfl
 have g:d++c::b=(d++[c])++b:=by rw[Zo];rfl
 have q0:Eb (X.and (X.cmp 0 (X.loc 295) (X.k (.str [38]))) (X.cmp 2 (X.loc 191) (X.k (.int 2)))) L2 row (.c (.Ae (decide (c=38)&&decide (kind<2)))):=λX H m F E w=>by
  show Eb.and (q:=decide (c=38)&&decide (kind<2)) (.ch (.loc a)) (λe=>?_) (λe=>by rw[e];rfl) X H m F E (λo l=>?_)
  ·rw[e,XB];show .lt (j:=2) (.loc A.c) .k
  ·rw[←Bool.and_assoc,Bool.and_self];show w o l
 show wH q0 h2 (λe H3 h3=>?_) λe H3 h3=>?_
 ·replace e:=(Zp _ _)▸e;have R:c=38/\kind<2:=⟨Zm e.1,Zm e.2⟩
  unfold Ip at D;replace D:=(Zk R)▸D;replace D:=(show Cu kind c b=1+Bw b from Zk R)▸D;replace D:=(YS (Yn _ _ _))▸D;have W:Eb (.call 809 (.cons (.loc 311) (.cons (.loc 160) .nil))) L2 row (.c (HJ (d.length+1) b)):=.ref (d:=d++[c]) (.loc (by rw[←g];show A.a)) (.loc Q) N (by rw[←g];show V);replace W:=(vF _ _)▸W;show rL (W Z H3 m _ h3 λH4 I=>aca rfl (gH (gH (gH (yj ?_)))));show aer (ts:=BO b) (e:=d.length+1+Bw b) (f:=.tup [BM (B7 b),.int ((d.length+1+Bw b:Nat):Int)]) (((A.put (k:=160) rfl (.c (.int ((d.length+1+Bw b:Nat):Int)))).put (k:=318) rfl (.c (.lst ((BO b).map .str)))).put (k:=235) rfl (.c (.str (B7 b)))) (fR rfl fS) (fR rfl (fR rfl fS)) (kj b) (.qW (.chars (p:=false) (.loc fS) .k) (.loc (fR rfl (fR rfl fS)))) (by lia) I λU o O T C l=>aB (uH C ((T 160 (by ext)).trans (fR rfl (fR rfl fS))) l D)
 ·have R:¬(c=38/\kind<2):=λz=>by replace e:=(Zr z.1)▸e;replace e:=(Zr z.2)▸e;show nomatch e
  unfold Ip at D;replace D:=(Zi R)▸D;replace D:=(show Cu kind c b=if c=0 then 1 else if c=60/\kind<3 then Ik b else 1+(b.takeWhile (pRun kind c)).length from Zi R)▸D;show wH (.ch (b:=0) (.loc a)) h3 (λe H4 I=>?_) λe H4 I=>?_
  ·replace D:=(Zk (Zm e))▸D;replace D:=(Zk (Zm e))▸D;have hu:Eb (X.Gi (X.loc 191) (X.k (.str [65533])) (X.k (.str [0]))) L2 row (.c (.str [if kind=0 then 0 else 65533])):=.ifi A.c (λz=>by rw[Zi z];show .k) λz=>by rw[Zk z];show .k
   show aes A (.qW (.AM .k) (.loc Q)) (.qW (.chars (p:=false) hu .k) (.loc Q)) (by lia) I λU o O T C l=>aB (cU (aB (uH C ((T 160 (by ext)).trans Q) l D)))
  ·replace D:=(Zi (ZA e))▸D;replace D:=(Zi (ZA e))▸D;have hb:Eb (X.and (X.cmp 2 (X.loc 191) (X.k (.int 2))) (X.cmp 8 (X.loc 295) (X.call 788 X.nil))) L2 row (.c (.Ae (Ec kind c))):=λX H m F E w=>by
    show Eb.and (q:=Ec kind c) (p:=decide (kind<2)) (.lt (j:=2) (.loc A.c) .k) (λe=>?_) (λe=>by unfold Ec;rw[e];rfl) X H m F E (λo l=>?_)
    ·unfold Ec;rw[e,XB];show .bl (.loc a)
    ·rw[←Bool.and_assoc,Bool.and_self];show w o l
   show lz hb I λH5 h5=>?_;have i:=A.put (k:=115) rfl (.c (.Ae (Ec kind c)));have G:Sx 295 (put 115 (.c (.Ae (Ec kind c))) L2)=some (.c (.str [c])):=fR rfl a;have s:Sx 160 (put 115 (.c (.Ae (Ec kind c))) L2)=some (.c (.int ((d.length+1:Nat):Int))):=fR rfl Q;have v:Sx 115 (put 115 (.c (.Ae (Ec kind c))) L2)=some (.c (.Ae (Ec kind c))):=fS;generalize put 115 (.c (.Ae (Ec kind c))) L2=L3 at*;have q1:Eb (X.and (X.cmp 0 (X.loc 295) (X.k (.str [60]))) (X.cmp 2 (X.loc 191) (X.k (.int 3)))) L3 row (.c (.Ae (decide (c=60)&&decide (kind<3)))):=λX H m F E w=>by
    show Eb.and (q:=decide (c=60)&&decide (kind<3)) (.ch (.loc G)) (λe=>?_) (λe=>by rw[e];rfl) X H m F E (λo l=>?_)
    ·rw[e,XB];show .lt (j:=3) (.loc i.c) .k
    ·rw[←Bool.and_assoc,Bool.and_self];show w o l
   show wH q1 h5 (λe H6 h6=>?_) λe H6 h6=>?_
   ·replace e:=(Zp _ _)▸e;replace D:=(Zk ((⟨Zm e.1,Zm e.2⟩:c=60/\kind<3)))▸D;have B:Eb (X.Cj (X.loc 311) (X.loc 160) (X.bin 0 (X.loc 160) (X.k (.int 1)))) L3 row (.c (.str (slice (d++c::b) (some ((d.length+1:Nat):Int)) (some ((d.length+1+1:Nat):Int))))):=.Cj (.loc i.a) (.loc s) (.add (j:=1) (.loc s));have es:slice (d++c::b) (some ((d.length+1:Nat):Int)) (some ((d.length+1+1:Nat):Int))=b.take 1:=by
     rw[bD d (c::b) 1 2 rfl rfl];rfl
    replace B:=es▸B;show wH (show Eb (X.cmp 0 (X.Cj (X.loc 311) (X.loc 160) (X.bin 0 (X.loc 160) (X.k (.int 1)))) (X.k (.str [47]))) L3 row (.c (.Ae (decide (b.take 1=[47])))) from λX H m F E w=>aH (B X H m _ E λo l=>aQ (dt (zt (w o l))))) h6 (λt H7 h7=>?_) λt H7 h7=>?_
    ·have t:=Zm t;have eL:Ik b=2+(Ar (b.drop 1)).length:=Zk t;obtain⟨y,rfl⟩:∃y,b=47::y:=by
      cases b with
      |nil=>show nomatch t
      |cons x b=>show⟨b,by rw[((ZI t).1:x=47)]⟩
     show lz (.wy (d:=d++[c,47]) (r:=y) (n:=d.length+1+1) (.loc (by rw[Zo];show i.a)) (.add (j:=1) (.loc s)) (by rw[Zg];rfl)) h7 λH8 h8=>aB (cU (aB (cU ?_)));replace D:=eL▸D;replace D:=(show List.drop 1 (47::y)=y from rfl)▸D;replace D:=(show d.length+(2+(Ar y).length)=d.length+1+1+(Ar y).length by lia)▸D;show uI (j:=2+(Ar y).length) (i.put (k:=160) rfl _) fS (by lia) (fR rfl v) h8 u D
    ·replace D:=(show Ik b=1 from Zi (ZA t))▸D;show aB (cU (aB (cU (uI (j:=1) i s rfl v h7 u D))))
   ·replace D:=(Zi ((λz=>by replace e:=(Zr z.1)▸e;replace e:=(Zr z.2)▸e;show nomatch e:¬(c=60/\kind<3))))▸D;show i4 λP hP=>pg (Z:=Z) (row:=row) (n0:=d.length) (c:=c) hP Y b (d++[c]) L3 H6 g i v (by rw[N];show s) h6 λU o a1 a2 S a4=>cU (aB (cU ?_));replace S:=N▸S;show uI (j:=1+(b.takeWhile (pRun kind c)).length) a1 S (by show Yn d.length 1 (List.takeWhile (pRun kind c) b).length) a2 a4 u (by rw[Yn];show D)
end
def ji:∀ {l:TL} {a:Nat},a<=r.length->Im r l a<=r.length
 | [],_,h=>h
 |x::l,a,h=>ji (l:=l) (Nat.max_le.mpr ⟨h,mP⟩)
def nR(r:WJ):Bw r<=r.length:=by
 unfold Bw;cases Si r
 ·show ji (ZF _)
 ·show ZF _
def jl(r:WJ):(Ar r).length<=r.length:=(Z5 _).length_le
def uJ(A c:Nat)(b:WJ):1<=Cu A c b/\Cu A c b<=b.length+1:=by
 unfold Cu;have:=nR b;have N:=(Z5 (l:=b) (pRun A c)).length_le;split
 ·show⟨by show ZR 1 (Bw b),by lia⟩
 ·split
  ·show⟨Zq _,by show Z0 1 b.length⟩
  ·split
   ·unfold Ik;split
    ·rename_i q;cases b with
     |nil=>show nomatch q
     |cons x b=>have:=jl b;show⟨by lia,by rw[Zj];change 2+(Ar b).length<=_;lia⟩
    ·show⟨Zq _,by show Z0 1 b.length⟩
   ·show⟨by show ZR 1 (List.takeWhile (pRun A c) b).length,by lia⟩
def pj(A n c:Nat)(b:WJ):(Ip A n c b).length<=2:=by
 unfold Ip;split
 ·rw[Zg,ZD];rcases kj b with h|⟨x,h⟩<;>rw[h]<;>show ZQ rfl
 ·split
  ·show Zq _
  ·show ZQ rfl
def Hs(A:Nat):Nat->Nat->WJ->Tz
 |0,_,_=>[]
 |_+1,_,[]=>[]
 |f+1,n,c::b=>Ip A n c b++Hs A f (n+Cu A c b) ((c::b).drop (Cu A c b))
def ph{K:TB}(e:∀s,R6 SM Ki Mg K P s->P s)(g:A<4):∀(f:Nat) (d r:WJ) (L:Tw) (H:Tx) (m:Nat) (y:Tz),LB L (d++r) d.length A->HB [] H m y->r.length<=f->y.length+2*r.length<=20000->(d++r).length<=10240->
  (∀U Q O,Sx 267 U=some (.ob 64)->HB [] Q O (y++Hs A f d.length r)->K .AZ ⟨U,Q,O,false⟩)->P ⟨L,H,m,false⟩
 |f,d,[],L,H,m,y,hL,h,hf,hlen,htl,hk=>by
  show e _ ?_;have u:Eb Ki L y (.c (.Ae (decide (d.length<(d++([]:WJ)).length)))):=.lt (.loc hL.b) (.len (.loc hL.a));rw[show decide (d.length<(d++([]:WJ)).length)=false from Zs (by rw[Zu];show YA d.length)]at u;show u [] H m _ h λQ l=>aa rfl (bH rfl ?_);have Z:Hs A f d.length []=[]:=by cases f<;>rfl
  rw[Z,Zu]at hk;show hk L Q m hL.e l
 |0,d,c::b,L,H,m,y,hL,h,hf,hlen,htl,hk=>T4 hf (XJ _)
 |f+1,d,c::b,L,H,m,y,hL,h,hf,hlen,htl,hk=>by
  show e _ ?_;have u:Eb Ki L y (.c (.Ae (decide (d.length<(d++c::b).length)))):=.lt (.loc hL.b) (.len (.loc hL.a));rw[show decide (d.length<(d++c::b).length)=true from Zr (by rw[Zg,Zj];lia)]at u;show u [] H m _ h λQ l=>aa rfl (aW rfl ?_);rw[Zj]at hf hlen;show xA hL g l (ZK hlen) htl λj n m2 N o=>zA (uJ A c b) λn1 n2=>?_;have a:=pj A d.length c b;have Z:(d++(c::b).take (Cu A c b)).length=d.length+Cu A c b:=by rw[Zg,ZG,Zj];show T3 _ (ZO n2)
  have D:((c::b).drop (Cu A c b)).length=b.length+1-Cu A c b:=by rw[ZM,Zj]
  rw[show d++c::b=(d++(c::b).take (Cu A c b))++(c::b).drop (Cu A c b) by rw[Zo,Yc]]at N htl;show ph e g f (d++(c::b).take (Cu A c b)) ((c::b).drop (Cu A c b)) j n m2 _ (by rw[Z];show N) o (by rw[D];show Nat.sub_le_of_le_add (Zh hf (ZH n1 f))) (by rw[D,Zg];show Zh (Z9 (ZH a _) (Yg 2 (Nat.sub_le_sub_left n1 _))) (Zh (Zz (ZZ _ 2 _)) hlen)) htl λU Q O k i=>hk U Q O k ?_;rw[Z,Zo]at i;show i
def adG(h:HB [] H m y)(D:k (.c (.lst y)) []):fin k (.ret (.ob 64)) ⟨L,H,m,false⟩:=by
 have e:Av H (.ob 64)=some (.lst y,put 64 (.Av (.lst y)) H):=by
  change Af (Sx 64 H) _=_;rw[h.row];rfl
 have U:lo (put 64 (.Av (.lst y)) H)=[]:=by rw[b6 (by ext)];show h.lo
 show aa (a:=(V.c (.lst y),put 64 (.Av (.lst y)) H)) ?_ (aW ?_ ?_)
 ·change BK (Av H (.ob 64)) _=_;rw[e];rfl
 ·rw[U];rfl
 ·rw[U];show D
def FN:Aq:=λu z H k=>∃d r A,u=[.c (.str (d++r)),.c (.int (d.length:Nat)),.c (.int (A:Nat))]/\z=[]/\H=[]/\A<4/\(d++r).length<=5000/\k (.c (.lst (Hs A r.length d.length r))) []
def qG(xs kws H k)(h:FN xs kws H k):Ab (Ah [311,237,191] xs kws) λN=>ex SM Ds ⟨N,H,64,false⟩ (fin k):=by
 show eD h λd r A z j U g D f=>?_;clear h;subst z j U;show aa rfl (aG (d7 (au (aa rfl (aW rfl (gc (i4 λP O=>?_)))))));have e:r.length<=5000:=by replace D:=Zg▸D;show Xk D
 show ph O g r.length d r _ _ _ [] ⟨rfl,rfl,rfl,rfl⟩ ⟨rfl,rfl,Z4 64,λZ b=>(nomatch b)⟩ (Zq _) (by change 0+_<=_;show Zh (Zz (Wb _)) (Zh (Yg 2 e) (by ext))) (by lia) λm Q i c a=>cU (fk (aj (aa c (adG a f))))
def Ny:S:=.seq (.ret (.tup (.cons (.lst (.cons (.tup (.cons (.loc 312) (.cons (.bin 0 (.loc 160) (.k (.int 1))) .nil))) .nil)) (.cons (.bin 0 (.loc 160) (.k (.int 1))) (.cons (.Al (.call 774 .nil) 11 (.cons (.loc 215) (.cons (.k (.int 0)) .nil)) []) (.cons (.loc 215) .nil)))))) .skip
def Nz:S:=.seq (.Aj 312 (.An (.cons (.k (.str Tg)) (.cons (.sub (.BR Ad) (.k (.str Tc))) (.cons (.k (.str Ti)) (.cons (.loc 215) (.cons (.k (.str Th)) (.cons (.An .nil) (.cons (.k (.str Tj)) (.cons (.loc 297) (.cons (.k (.str Tn)) (.cons (.k (.Ae false)) .nil)))))))))))) Ny
def KR:S:=.seq (.iff (.loc 133) (.seq (.ret (.tup (.cons (.lst (.cons (.tup (.cons (.An (.cons (.k (.str Tg)) (.cons (.sub (.BR Ad) (.k (.str Td))) (.cons (.k (.str Ti)) (.cons (.loc 215) (.cons (.k (.str Th)) (.cons (.lst .nil) (.cons (.k (.str Tj)) (.cons (.k (.Ae false)) .nil))))))))) (.cons (.bin 0 (.loc 160) (.k (.int 1))) .nil))) .nil)) (.cons (.bin 0 (.loc 160) (.k (.int 1))) (.cons (.k (.int 0)) (.cons (.k (.str [])) .nil)))))) .skip) .skip) Nz
def NA:S:=.seq (.iff (.cmp 0 (.loc 160) (.fn 0 (.cons (.loc 311) .nil))) (.seq (.ret (.tup (.cons (.lst (.cons (.tup (.cons (.call 795 (.cons (.Gi (.loc 297) (.k (.str Tu)) (.k (.str Tt))) .nil)) (.cons (.loc 160) .nil))) .nil)) (.cons (.loc 160) (.cons (.k (.int 0)) (.cons (.k (.str [])) .nil)))))) .skip) .skip) KR
def PC:S:=.seq (.DI 160 0 (.Gi (.cmp 0 (.sub (.loc 311) (.loc 160)) (.k (.str [62]))) (.k (.int 0)) (.k (.int 1)))) NA
def PD:S:=.seq (.Aj 297 (.cmp 0 (.sub (.loc 311) (.loc 160)) (.k (.str [47])))) PC
def Nv:S:=.seq (.iff (.cmp 0 (.loc 160) (.fn 0 (.cons (.loc 311) .nil))) (.seq (.ret (.tup (.cons (.lst (.cons (.tup (.cons (.call 795 (.cons (.k (.str Ts)) .nil)) (.cons (.loc 160) .nil))) .nil)) (.cons (.loc 160) (.cons (.k (.int 0)) (.cons (.k (.str [])) .nil)))))) .skip) .skip) PD
def PF:S:=.seq (.iff (.cmp 0 (.loc 215) (.k (.str []))) (.seq (.Aj 318 (.An (.cons (.k (.str Tg)) (.cons (.sub (.BR Ad) (.k (.str Tf))) (.cons (.k (.str Th)) (.cons (.k (.str Tr)) (.cons (.k (.str Tv)) (.cons (.An (.cons (.k (.str Th)) (.cons (.sub (.loc 311) (.loc 301)) .nil))) .nil)))))))) (.seq (.Aj 303 (.Al (.bin 0 (.loc 311) (.k (.str [62]))) 10 (.cons (.k (.str [62])) (.cons (.loc 301) .nil)) [])) (.seq (.Aj 160 (.fn 6 (.cons (.bin 0 (.loc 303) (.k (.int 1))) (.cons (.fn 0 (.cons (.loc 311) .nil)) .nil)))) (.seq (.ret (.tup (.cons (.lst (.cons (.tup (.cons (.loc 318) (.cons (.loc 301) .nil))) (.cons (.tup (.cons (.An (.cons (.k (.str Tg)) (.cons (.sub (.BR Ad) (.k (.str Te))) (.cons (.k (.str Th)) (.cons (.Cj (.loc 311) (.loc 301) (.loc 303)) .nil))))) (.cons (.loc 160) .nil))) .nil))) (.cons (.loc 160) (.cons (.k (.int 0)) (.cons (.k (.str [])) .nil)))))) .skip)))) .skip) Nv
def PG:S:=.seq (.iff (.and (.cmp 0 (.loc 215) (.k (.str []))) (.cmp 0 (.loc 160) (.fn 0 (.cons (.loc 311) .nil)))) (.seq (.ret (.tup (.cons (.lst (.cons (.tup (.cons (.call 795 (.cons (.k (.str Tq)) .nil)) (.cons (.loc 160) .nil))) (.cons (.tup (.cons (.call 802 (.cons (.k (.str [60,47])) (.cons (.k (.Ae false)) .nil))) (.cons (.loc 160) .nil))) .nil))) (.cons (.loc 160) (.cons (.k (.int 0)) (.cons (.k (.str [])) .nil)))))) .skip) .skip) PF
def Nw:S:=.seq (.iff (.and (.cmp 0 (.loc 215) (.k (.str []))) (.not (.loc 133))) (.seq (.ret (.tup (.cons (.lst (.cons (.tup (.cons (.call 795 (.cons (.k (.str Tp)) .nil)) (.cons (.loc 301) .nil))) (.cons (.tup (.cons (.call 802 (.cons (.k (.str [60])) (.cons (.k (.Ae false)) .nil))) (.cons (.loc 301) .nil))) .nil))) (.cons (.loc 301) (.cons (.k (.int 0)) (.cons (.k (.str [])) .nil)))))) .skip) .skip) PG
def PH:S:=.seq (.Aj 215 (.Al (.Cj (.loc 311) (.loc 301) (.loc 160)) 7 .nil [])) Nw
def Nx:S:=.seq (.Aj 160 (.call 816 (.cons (.loc 311) (.cons (.loc 301) .nil)))) PH
def NB:S:=.seq (.Aj 301 (.Gi (.loc 133) (.bin 0 (.loc 237) (.k (.int 2))) (.bin 0 (.loc 237) (.k (.int 1))))) Nx
def NC:S:=.seq (.Aj 133 (.cmp 0 (.Cj (.loc 311) (.bin 0 (.loc 237) (.k (.int 1))) (.bin 0 (.loc 237) (.k (.int 2)))) (.k (.str [47])))) NB
noncomputable def knd(nm:WJ):FV:=Option.rec (.int 0) (λv=>v) (sel nm PU)
def DX(f:FV)(e:Int)(v:FV)(nm:WJ):FV:=.tup [.lst [.tup [f,.int e]],.int e,v,.str nm]
def EH(f:FV)(U:Int)(j:FV)(e:Int):FV:=.tup [.lst [.tup [f,.int U],.tup [j,.int e]],.int e,.int 0,.str []]
def C9(cl:Bool)(nm:WJ)(sl:Bool)(e:Int):FV:=Bool.rec (DX (.An (OL nm (.An []) sl)) (e+1) (knd nm) nm) (DX (.An (OT nm)) (e+1) (.int 0) []) cl
def F3(cl:Bool)(nm:WJ)(n:Int)(r3:WJ):FV:=match r3 with
 | []=>DX (C2 F7) n (.int 0) []
 |y::r4=>if y=62 then C9 cl nm false n else match r4 with
  | []=>DX (C2 (if y=47 then Dg else Dm)) (n+1) (.int 0) []
  |_::_=>C9 cl nm (decide (y=47)) (n+1)
abbrev Lm(text:WJ)(n0:Int)(cl:Bool)(s e:Int)(nm:WJ)(y:Tw):Tw:=(311,.c (.str text))::(237,.c (.int n0))::(133,.c (.Ae cl))::(301,.c (.int s))::(160,.c (.int e))::(215,.c (.str nm))::y
section
variable {k:V->Tx->Prop}{text nm x r3:WJ}{n0 s e:Int}{cl sl:Bool}
def acU(D:k (.c (C9 cl nm sl e)) []):ex SM KR ⟨Lm text n0 cl s e nm [(297,.c (.Ae sl))],[],64,false⟩ (fin k):=by
 cases cl with
 |true=>
  conv=>whnf
  show D
 |false=>
  conv=>whnf
  show⟨rfl,rfl,rfl,?_⟩
  conv=>whnf
  show D
def wz:Cn [c] [b]=decide (c=b):=by rw[aE];simp
def mk7(D:k (.c (F3 cl nm (x.length:Nat) r3)) []):ex SM Nv ⟨Lm (x++r3) n0 cl s (x.length:Nat) nm [],[],64,false⟩ (fin k):=by
 cases r3 with
 |nil=>
  conv=>whnf
  show aW (Zr (by rw[Zu])) ?_
  conv=>whnf
  show(aY _ rfl rfl rfl ?_)
  conv=>whnf
  show D
 |cons y Q=>
  conv=>whnf
  show bH (Zs (by rw[Zg,Zj];lia)) ?_
  conv=>whnf
  show aa (c8 x Q y) ?_
  conv=>whnf
  show aa (c8 x Q y) ?_
  conv=>whnf
  show bh (λq=>?_) λq=>?_
  ·have q:=Zm (iK q);subst q;have D:=D;rw[←Int.add_zero x.length]at D
   conv=>whnf
   show bH (Zs (by rw[Zg,Zj];lia)) (acU D)
  ·have q1:=ZA (iK q);cases Q with
   |nil=>
    have U:F3 cl nm (x.length:Nat) [y]=DX (C2 (if y=47 then Dg else Dm)) (((x.length:Nat):Int)+1) (.int 0) []:=Zi q1;rw[U]at D
    conv=>whnf
    show aW (Zr (by rw[Zg];rfl)) ?_
    conv=>whnf
    show bh (λq2=>?_) λq2=>?_
    ·rw[Zk (Zm (iK q2))]at D
     conv=>whnf
     show(aY _ rfl rfl rfl ?_)
     conv=>whnf
     show D
    ·rw[Zi (ZA (iK q2))]at D
     conv=>whnf
     show(aY _ rfl rfl rfl ?_)
     conv=>whnf
     show D
   |cons z Q=>
    have U:F3 cl nm (x.length:Nat) (y::z::Q)=C9 cl nm (decide (y=47)) (((x.length:Nat):Int)+1):=Zi q1;rw[U, ←wz]at D
    conv=>whnf
    show bH (Zs (by rw[Zg,Zj,Zj];lia)) (acU D)
def C5(cl:Bool)(n:Nat)(rr:WJ):FV:=if Ar rr=[]then
  Bool.rec (EH (C2 CM) (n:Nat) (BM [60]) (n:Nat)) (match rr with
   | []=>EH (C2 Dl) (n:Nat) (BM [60,47]) (n:Nat)
   |c::_=>EH (Hb BX c) (n:Nat) (JG (AJ [62] rr)) ((n+min ((AJ [62] rr).length+1) rr.length:Nat):Int)) cl
 else F3 cl (Bp (Ar rr)) ((n+(Ar rr).length:Nat):Int) (rr.drop (Ar rr).length)
def aaQ(d r:WJ):Mz 62 (d++r++[62]) d.length=((d.length+(AJ [62] r).length:Nat):Int):=by
 have e:(d++r++[62]).drop d.length=r++[62]:=by rw[Zo,YU]
 have Z:∀r:WJ,(r++[62]).findIdx? (λy=>beq y 62)=some (AJ [62] r).length:=λr=>by
  induction r with
  |nil=>rfl
  |cons c r Q=>
   rw[Y2,List.findIdx?_cons,Q];change _=some ((c::r).takeWhile λc=>B1 (decide (c∈[62])) false).length;rw[Z2];by_cases h:c=62
   ·subst h;rfl
   ·have U:=bX h;have N:=Zs λz=>h (Za z);rw[U,N];rfl
 unfold Mz;rw[e,Z]
def mk4(f:(d++g).length<=5000)(D:k (.c (C5 cl d.length g)) []):ex SM Nw ⟨Lm (d++g) n0 cl (d.length:Nat) ((d.length+(Ar g).length:Nat):Int) (Bp (Ar g)) [],[],64,false⟩ (fin k):=by
 unfold C5 at D;by_cases h:Ar g=[]
 ·rw[Zk h]at D;rw[h];cases cl with
  |false=>
   conv=>whnf
   show(aY _ rfl rfl rfl ?_)
   conv=>whnf
   show(bG _ _ rfl rfl rfl ?_)
   conv=>whnf
   show D
  |true=>
   cases g with
   |nil=>
    conv=>whnf
    show aW (Zr (by rw[Zu];rfl)) ?_
    conv=>whnf
    show(aY _ rfl rfl rfl ?_)
    conv=>whnf
    show(bG _ _ rfl rfl rfl ?_)
    conv=>whnf
    show D
   |cons c g=>
    have b:(AJ [62] (c::g)).length<=(c::g).length:=(Z5 _).length_le;have u:=aaQ d (c::g);have Q:slice (d++c::g) (some d.length) (some (d.length+(AJ [62] (c::g)).length))=AJ [62] (c::g):=by
     show(bD d (c::g) 0 (AJ [62] (c::g)).length (X0.mpr rfl) rfl).trans ((Ym.mp (Z5 _)).symm)
    have D:=D;generalize AJ [62] (c::g)=uu at*;have O:(if((d++c::g).length)<(((d.length+uu.length:Nat):Int)+1)then((((d++c::g).length:Nat):Int))else(((d.length+uu.length:Nat):Int)+1))=((d.length+min (uu.length+1) (c::g).length:Nat):Int):=by
     rw[Zg];split<;>lia
    conv=>whnf
    show bH (Zs (by rw[Zg,Zj];change¬(((d.length+0:Nat):Int)=_);lia)) ?_
    conv=>whnf
    show aa (o:=Co (d++c::g) ((d.length:Nat):Int)) (c8 d g c) ?_
    conv=>whnf
    show⟨?_,?_⟩
    ·change(d++c::g).length+1<=16777216;lia
    conv=>whnf
    show⟨⟨by show Yx d.length,?_⟩,?_⟩
    ·change d.length<=_;rw[Zg,Zg];lia
    rw[(show((d.length:Nat):Int).toNat=d.length from rfl),u];have v:k (.c (EH (Hb BX c) (d.length:Nat) (JG (slice (d++c::g) (some ((d.length:Nat):Int)) (some ((d.length+uu.length:Nat):Int)))) (if((((d++c::g).length:Nat):Int))<(((d.length+uu.length:Nat):Int)+1)then((((d++c::g).length:Nat):Int))else(((d.length+uu.length:Nat):Int)+1)))) []:=by
     rw[Q,O];show D
    conv=>whnf
    show v
 ·rw[Zi h]at D;have e:d++g=(d++Ar g)++g.drop (Ar g).length:=by
   rw[Zo];congr 1;have:g=g.take (Ar g).length++g.drop (Ar g).length:=(Yc _ _).symm;have N:Ar g=g.take (Ar g).length:=Ym.mp (Z5 _);rw[←N]at this;show this
  have Z:(d++Ar g).length=d.length+(Ar g).length:=Zg;rw[←Z]at D;have O:=mk7 (n0:=n0) (s:=(d.length:Nat)) D;rw[←e,Z]at O;have j:∃a l,Bp (Ar g)=a::l:=by
   cases q:Ar g with
   |nil=>show T4 q h
   |cons a l=>show(j1 _ _ rfl)
  generalize Bp (Ar g)=nn at*;show ip j λa l P=>?_;clear D j;subst P;cases cl<;>
  ·conv=>whnf
   show O
end
def GH(n:Nat)(r:WJ):FV:=if r.take 1=[47]then C5 true (n+2) (r.drop 1)else C5 false (n+1) r
def Gq:Aq:=λu z H k=>∃d r,u=[.c (.str (d++60::r)),.c (.int (d.length:Nat))]/\z=[]/\H=[]/\(d++60::r).length<=5000/\k (.c (GH d.length r)) []
def tv:∀c∈AW,c<128:=by ext
def tn(r:WJ):((Ar r).all λc=>or (Nat.blt c 128) (beq c 233))=true:=Zv.mpr λc u=>by
 have:decide (c∈AW)=true:=by
  unfold Ar at u;induction r with
  |nil=>show nomatch u
  |cons a r Q=>
   rw[Z2]at u;split at u
   ·rename_i q;rcases Zb u with rfl|u
    ·show q
    ·show Q u
   ·show nomatch u
 rw[show Nat.blt c 128=true from Nat.ble_eq.mpr (tv c (Zm this))];rfl
def mk2(N:u=d++rr)(D:u.length<=5000)(e:k (.c (C5 g d.length rr)) []):ex SM Nx ⟨[(311,.c (.str u)),(237,.c (.int O)),(133,.c (.Ae g)),(301,.c (.int (d.length:Nat)))],[],64,false⟩ (fin k):=by
 subst N
 conv=>whnf
 show(bG d rr rfl rfl rfl ?_);have Q:slice (d++rr) (some d.length) (some (d.length+(Ar rr).length))=Ar rr:=
  (bD d rr 0 (Ar rr).length (X0.mpr rfl) rfl).trans (Ym.mp (Z5 _)).symm
 conv=>whnf
 show⟨?_,?_⟩
 ·rw[Q];show tn rr
 rw[Q];show mk4 D e
def ui(xs kws H k)(h:Gq xs kws H k):Ab (Ah [311,237] xs kws) λN=>ex SM NC ⟨N,H,64,false⟩ (fin k):=by
 show dH h λd r P z j e D=>?_;clear h;subst P z j;have Q:slice (d++60::r) (some (d.length+1)) (some (d.length+2))=r.take 1:=by
  rw[bD d (60::r) 1 2 (Int.ofNat_add_one_out d.length) (by lia)];rfl
 unfold GH at D;have U:d.length+1=(((d++[60]).length):Int):=by rw[Zg];rfl
 show aa rfl ?_;have go:∀x:WJ,x=r.take 1->ex SM NB ⟨[(311,.c (.str (d++60::r))),(237,.c (.int (d.length:Nat))),(133,.c (.Ae (Cn x [47])))],[],64,false⟩ (fin k):=λx f=>by
  subst f;rw[aE];by_cases q:r.take 1=[47]
  ·replace D:=(Zk q)▸D;rw[Zr q];obtain⟨u,rfl⟩:∃u,r=47::u:=by
    cases r with
    |nil=>show nomatch q
    |cons x b=>show⟨b,by rw[((ZI q).1:x=47)]⟩
   have Z:((d.length:Nat):Int)+2=(((d++[60,47]).length:Nat):Int):=by rw[Zg];rfl
   show aG (oq (aj (aa rfl (aa rfl (aW rfl (cm (aj (aa rfl (aQ (qK ?_))))))))));rw[Z];show mk2 (d:=d++[60,47]) (rr:=u) (by rw[Zo];rfl) e (by rw[Zg];show D)
  ·replace D:=(Zi q)▸D;rw[Zs q];show aG (oq (aj (aa rfl (aa rfl (bH rfl (cm (aj (aa rfl (aQ (qK ?_))))))))));rw[U];show mk2 (d:=d++[60]) (rr:=r) (by rw[Zo];rfl) e (by rw[Zg];show D)
 show aG ?_
 conv=>whnf
 show go _ Q
def Lq:S:=.seq (.Aj 160 (.bin 0 (.bin 0 (.loc 301) (.k (.int 2))) (.fn 0 (.cons (.loc 215) .nil)))) (.seq (.iff (.and (.cmp 0 (.loc 191) (.k (.int 0))) (.cmp 0 (.sub (.loc 311) (.loc 301)) (.k (.str [60])))) (.seq (.ret (.loc 301)) .skip) .skip) (.seq (.iff (.and (.cmp 8 (.loc 191) (.tup (.cons (.k (.int 1)) (.cons (.k (.int 2)) .nil)))) (.and (.cmp 0 (.Cj (.loc 311) (.loc 301) (.bin 0 (.loc 301) (.k (.int 2)))) (.k (.str [60,47]))) (.and (.cmp 0 (.Al (.Cj (.loc 311) (.bin 0 (.loc 301) (.k (.int 2))) (.loc 160)) 7 .nil []) (.loc 215)) (.cmp 8 (.Cj (.loc 311) (.loc 160) (.bin 0 (.loc 160) (.k (.int 1)))) (.tup (.cons (.k (.str [32])) (.cons (.k (.str [62])) .nil))))))) (.seq (.ret (.loc 301)) .skip) .skip) .skip))
def Fc:S:=.seq (.NV 301 (.cons (.loc 237) (.cons (.fn 0 (.cons (.loc 311) .nil)) .nil)) Lq) (.seq (.ret (.fn 0 (.cons (.loc 311) .nil))) .skip)
def B6(A:Nat)(nm r:WJ):Bool:=if A=0 then decide (r.take 1=[60])else if A<3 then(decide (r.take 2=[60,47])&&(decide (Bp ((r.drop 2).take nm.length)=nm)&&decide ((r.drop (2+nm.length)).take 1=[32]\/(r.drop (2+nm.length)).take 1=[62])))else false
def DP(A:Nat)(nm:WJ):WJ->Nat
 | []=>0
 |c::r=>if B6 A nm (c::r)=true then 0 else DP A nm r+1
abbrev Ls(u nm:WJ)(n:Int)(A:Nat)(y:Tw):Tw:=(311,.c (.str u))::(237,.c (.int n))::(191,.c (.int (A:Nat)))::(215,.c (.str nm))::y
def qM{l:WJ}(h:l.all p=true)(i j:Nat):(((l.drop i).take j).all p)=true:=Zv.mpr λc u=>Zd h c (List.mem_of_mem_drop (List.mem_of_mem_take u))
def Ep(x:X)(s:St)(v:V):Prop:=∀F:TC,F v s->SU SM x s (one F)
section
variable {s:St}{a b c:X}
def Ep.loc(h:Sx n s.L=some v):Ep (.loc n) s v:=λZ z=>aj (aa h z)
def Ep.and(Q:Ep a s (.c (.Ae p)))(P:Ep b s (.c (.Ae q))):Ep (.and a b) s (.c (.Ae (p&&q))):=λF z=>gK (Q _ (aa rfl (bh (λe=>P _ (by replace z:=(show p=true from e)▸z;replace z:=(XB _)▸z;show z)) λe=>by have e:p=false:=e;replace z:=e▸z;replace z:=(Wg _)▸z;rw[e];show z)))
theorem Ep.LU(Q:Ep a s (.c (.str x))):Ep (.cmp 0 a (.k (.str y))) s (.c (.Ae (decide (x=y)))):=λF z=>aH (Q _ (aQ (dt (show F (.c (.Ae (Cn x y))) s by rw[aE];show z))))
def Ep.eqt(Q:Ep a s (.c (.str x)))(P:Ep b s (.c (.str y))):Ep (.cmp 0 a b) s (.c (.Ae (decide (x=y)))):=λF z=>aH (Q _ (P _ (dt (show F (.c (.Ae (Cn x y))) s by rw[aE];show z))))
def Ep.add(Q:Ep a s (.c (.int i))):Ep (.bin 0 a (.k (.int j))) s (.c (.int (i+j))):=λF z=>cm (Q _ (aQ (qK z)))
theorem Ep.Cj(Q:Ep a s (.c (.str x)))(P:Ep b s (.c (.int i)))(u:Ep c s (.c (.int j))):Ep (.Cj a b c) s (.c (.str (slice x (some i) (some j)))):=λF z=>d6 (Q _ (P _ (u _ z)))
def Ep.sU(Q:Ep a s (.c (.str n))):Ep (.cmp 8 a (.tup (.cons (.k (.str x)) (.cons (.k (.str y)) .nil)))) s (.c (.Ae (decide (n=x\/n=y)))):=λF z=>aH (Q _ (dW (ah (aQ (ah (aQ (au (aa rfl (aW rfl (dt ((aa Mine.A.sU z:Ab (CT (.str n) [.str x,.str y]) λq=>F (.c (.Ae q)) s))))))))))))
end
def zG(A:Nat)(h:A<4)(nm:WJ)(c:Nat)(r:WJ):B6 A nm (c::r)=((decide ((A:Int)=0)&&decide ([c]=[60]))||(beq A 1||beq A 2)&&(decide ((c::r).take 2=[60,47])&&(decide (Bp (((c::r).drop 2).take nm.length)=nm)&&decide (((c::r).drop (2+nm.length)).take 1=[32]\/((c::r).drop (2+nm.length)).take 1=[62])))):=
 k4 (P:=λA=>B6 A nm (c::r)=((decide ((A:Int)=0)&&decide ([c]=[60]))||(beq A 1||beq A 2)&&_)) (Wp _).symm rfl rfl rfl h
def vp{K:TB}{d r nm:WJ}(g:A<4)(O:((c::r).all λc=>or (Nat.blt c 128) (beq c 233))=true)(l:Sx 301 y=some (.c (.int (d.length:Nat))))
  (U:B6 A nm (c::r)=true->∀y,K (.ret (.c (.int (d.length:Nat)))) ⟨Ls (d++c::r) nm n A y,[],64,false⟩) (N:B6 A nm (c::r)=false->∀y,K .AZ ⟨Ls (d++c::r) nm n A y,[],64,false⟩):ex SM Lq ⟨Ls (d++c::r) nm n A y,[],64,false⟩ K:=by
 show aG (cm (cm (aj (aa l (aQ (qK (fO (ah (aj (aa rfl (au (eW (qK ?_)))))))))))));rw[zG A g]at U N;generalize k:(V.c (.int (d.length+2+nm.length)))=v;have f:Sx 301 (put 160 v y)=some (.c (.int (d.length:Nat))):=fR rfl l;have Q:Sx 160 (put 160 v y)=some v:=fS;have D:slice (d++c::r) (some (d.length+2+(nm.length:Nat))) (some ((d.length:Nat)+2+(nm.length:Nat)+1))=((c::r).drop (2+nm.length)).take 1:=by
  rw[bD d (c::r) (2+nm.length) (2+nm.length+1) (by lia) (by lia),YQ]
 have Z:slice (d++c::r) (some ((d.length:Nat)+2)) (some ((d.length:Nat)+2+((nm.length:Nat):Int)))=((c::r).drop 2).take nm.length:=by
  rw[bD d (c::r) 2 (2+nm.length) (by lia) (by lia),YQ]
 rw[←(show slice (d++c::r) (some ((d.length:Nat):Int)) (some (((d.length:Nat):Int)+2))=(c::r).take 2 from bD d (c::r) 0 2 rfl rfl), ←Z, ←D]at U N;have h:Ep (.loc 311) ⟨Ls (d++c::r) nm n A (put 160 v y),[],64,false⟩ (.c (.str (d++c::r))):=Ep.loc rfl;have u:Ep (.loc 301) ⟨Ls (d++c::r) nm n A (put 160 v y),[],64,false⟩ (.c (.int (d.length:Nat))):=Ep.loc ((f:Sx 301 (put 160 v y)=_));have lE:Ep (.loc 160) ⟨Ls (d++c::r) nm n A (put 160 v y),[],64,false⟩ (.c (.int (((d.length:Nat):Int)+2+((nm.length:Nat):Int)))):=Ep.loc ((k▸Q:Sx 160 (put 160 v y)=_));have m:=(show Ep (.cmp 0 (.loc 191) (.k (.int 0))) ⟨Ls (d++c::r) nm n A (put 160 v y),[],64,false⟩ (.c (.Ae (decide ((A:Int)=0)))) from λF z=>aH (aj (aa rfl (aQ (dt z))))).and (show Ep (.cmp 0 (.sub (.loc 311) (.loc 301)) (.k (.str [60]))) ⟨Ls (d++c::r) nm n A (put 160 v y),[],64,false⟩ (.c (.Ae (decide ([c]=[60])))) from Ep.LU λF z=>bK (h _ (u _ (aa (o:=Co (d++c::r) ((d.length:Nat):Int)) (c8 d r c) z))));have p:=(show Ep (.cmp 8 (.loc 191) (.tup (.cons (.k (.int 1)) (.cons (.k (.int 2)) .nil)))) ⟨Ls (d++c::r) nm n A (put 160 v y),[],64,false⟩ (.c (.Ae (beq A 1||beq A 2))) from λF z=>aH (aj (aa rfl (dW (ah (aQ (ah (aQ (au (aa (a:=([FV.int 1,FV.int 2],[])) rfl (aW rfl (dt ((aa (k4 (P:=λA=>CT (.int (A:Nat)) [.int 1,.int 2]=some (beq A 1||beq A 2)) rfl rfl rfl rfl g) z:Ab (CT (.int (A:Nat)) [.int 1,.int 2]) λq=>F (.c (.Ae q)) ⟨Ls (d++c::r) nm n A (put 160 v y),[],64,false⟩)))))))))))))).and ((Ep.LU (y:=[60,47]) (h.Cj u (u.add (j:=2)))).and (((show Ep (.Al (.Cj (.loc 311) (.bin 0 (.loc 301) (.k (.int 2))) (.loc 160)) 7 .nil []) ⟨Ls (d++c::r) nm n A (put 160 v y),[],64,false⟩ (.c (.str (Bp (slice (d++c::r) (some (((d.length:Nat):Int)+2)) (some (((d.length:Nat):Int)+2+((nm.length:Nat):Int))))))) from λF z=>aJ (h.Cj u.add lE _ (aa rfl (au ⟨by rw[Z];show qM O _ _,z⟩)))).eqt (show Ep (.loc 215) ⟨Ls (d++c::r) nm n A (put 160 v y),[],64,false⟩ (.c (.str nm)) from Ep.loc rfl)).and (Ep.sU (x:=[32]) (y:=[62]) (h.Cj lE (lE.add (j:=1))))));show bE (m _ (aa rfl (bh (λe=>?_) λe=>?_)))
 ·show fk (u _ (q_r (U (by rw[(show(decide ((A:Int)=0)&&decide ([c]=[60]))=true from e),Bool.true_or]) _)))
 rw[show(decide ((A:Int)=0)&&decide ([c]=[60]))=false from e,Bool.false_or]at U N;show aB (cU (bE (p _ (aa rfl (bh (λi=>?_) λi=>?_)))))
 ·show fk (u _ (q_r (U i _)))
 ·show aB (cU (aB (N i _)))
def nJ{K:TB}{nm:WJ}(g:A<4):∀(r d:WJ) (y:Tw),(r.all λc=>or (Nat.blt c 128) (beq c 233))=true->(DP A nm r=r.length->∀y,K .AZ ⟨Ls (d++r) nm n A y,[],64,false⟩)->(∀j,DP A nm r=j->j<r.length->∀y,K (.ret (.c (.int ((d.length+j:Nat):Int)))) ⟨Ls (d++r) nm n A y,[],64,false⟩)->
  Dd (ex SM Lq) (C3 [301]) (En ((d.length:Nat):Int) r.length) ⟨Ls (d++r) nm n A y,[],64,false⟩ K
 | [],d,y,_,hn,_=>hn rfl y
 |c::r,d,y,hch,hn,hs=>by
  rw[iB];show vp g hch fS (λq y=>?_) λq y=>?_
  ·show hs 0 (Zk q) (YB _) y
  ·have e:DP A nm (c::r)=DP A nm r+1:=Zi (by rw[q];decide);have U:((d++[c]).length)=d.length+1:=by rw[Zg];rfl
   have Z:(d++[c])++r=d++c::r:=by rw[Zo];rfl
   rw[e]at hn hs;have Q:=nJ g r (d++[c]) y (ar hch).2 (λz=>by rw[Z];show hn (by rw[z];rfl)) λj f N=>by
    rw[Z];rw[(show(d++[c]).length+j=d.length+(j+1) by rw[Zg];show YJ d.length j)];show hs (j+1) (by rw[f]) (Xv N)
   rw[U,Z]at Q;show Q
def rt(A:Nat)(nm:WJ):∀r:WJ,DP A nm r<=r.length
 | []=>Zq _
 |c::r=>by
  change(if B6 A nm (c::r)=true then 0 else DP A nm r+1)<=r.length+1;split
  ·show ZF _
  ·show Z1 (rt A nm r)
def IA:Aq:=λu z H k=>∃d r A nm,u=[.c (.str (d++r)),.c (.int (d.length:Nat)),.c (.int (A:Nat)),.c (.str nm)]/\z=[]/\H=[]/\A<4/\(d++r).length<=5000/\(r.all λc=>or (Nat.blt c 128) (beq c 233))=true/\k (.c (.int ((d.length+DP A nm r:Nat):Int))) []
def aa1(xs kws H k)(h:IA xs kws H k):Ab (Ah [311,237,191,215] xs kws) λi=>ex SM Fc ⟨i,H,64,false⟩ (fin k):=by
 obtain⟨d,r,A,nm,rfl,rfl,rfl,g,f,O,D⟩:=h;have u:=f;rw[Zg]at u;show aa rfl ?_
 conv=>whnf
 show⟨⟨⟨by show X2 1000000 d.length,by lia⟩,by show X2 1000000 (d++r).length,by lia⟩,?_⟩;have e:(((d++r).length)-((d.length:Nat):Int)).toNat=r.length:=by rw[Zg];lia
 rw[e];show nJ g r d [] O (λP y=>?_) λj Q N y=>?_
 ·rw[P, ←Zg]at D;show cU (b:=S.seq (S.ret (X.fn 0 (X.cons (X.loc 311) X.nil))) S.skip) (fk (fO (ah (aj (aa rfl (au (eW D)))))))
 ·rw[Q]at D;show D
def jM:∀(x r:WJ),r.take (Dq x r)<+:x
 | [],r=>List.nil_prefix
 |a::x,[]=>List.nil_prefix
 |a::x,b::r=>by
  change(b::r).take (if b=a then Dq x r+1 else 0)<+:_;split
  ·rename_i h;subst h;rw[List.take_succ_cons,Y1];show⟨rfl,jM x r⟩
  ·show List.nil_prefix
def jN:∀ {y x r:WJ},y<+:x->y<+:r->y.length<=Dq x r
 | [],_,_,_,_=>ZF _
 |a::y,[],_,h,_=>by simp at h
 |a::y,_::_,[],_,h=>by simp at h
 |a::y,b::x,c::r,U,N=>by
  rw[Y1]at U N;obtain⟨rfl,U⟩:=U;obtain⟨rfl,N⟩:=N;change _<=if a=a then Dq x r+1 else 0;rw[Zk rfl];show Z1 (jN U N)
def lp:Dq x r=x.length↔x<+:r:=by
 have U:=jM x r;have N:=U.length_le;rw[ZG,ZO mP]at N;constructor
 ·intro e;rw[←(U.eq_of_length (by rw[ZG,ZO mP,e]))];show XS _ _
 ·show λh=>YK N (jN (XT _) h)
def kE:∀ {l:TL} {a:Nat},a<=Im r l a
 | [],a=>Zq _
 |x::l,a=>Zh (Nat.le_max_left _ _) (kE)
def mv:∀ {l:TL} {a:Nat},x∈l->Dq x r<=Im r l a
 |y::l,a,h=>by
  rcases Zb h with rfl|h
  ·show Zh (Nat.le_max_right _ _) (kE)
  ·show mv (l:=l) h
def th:∀ {l:TL} {a:Nat},Im r l a=a\/∃x∈l,Im r l a=Dq x r
 | [],a=>.inl rfl
 |y::l,a=>by
  rcases th (l:=l) (a:=max a (Dq y r))with h|⟨x,P,h⟩
  ·have h:Im r (y::l) a=max a (Dq y r):=h;rcases Nat.le_total a (Dq y r)with q|q
   ·show .inr (aO y (.head _) (by rw (occs:=.all) [h,Nat.max_eq_right q]))
   ·show .inl (by rw (occs:=.all) [h,Nat.max_eq_left q])
  ·show .inr (aO x (.tail _ P) h)
def uc:∀(r k:WJ),∃j,j<=r.length/\F6 k r=k++r.take j/\(j=0\/Dw (k++r.take j)=true)/\(j=r.length\/Dw (k++r.take (j+1))=false)
 | [],k=>(aY 0 (Zq _) (Zu k).symm (.inl rfl) (.inl rfl))
 |c::r,k=>by
  have e:∀j,(k++[c])++r.take j=k++(c::r).take (j+1):=λj=>by rw[Zo];rfl
  by_cases h:Dw (k++[c])=true
  ·show bO (uc r (k++[c])) λj U N D A=>?_;rw[e]at N D A;show(aY (j+1) (Z1 U) ((Zk h).trans N) (.inr ?_) ?_)
   ·rcases D with rfl|D
    ·show h
    ·show D
   ·rcases A with A|A
    ·show .inl (T3 (· +1) A)
    ·show .inr A
  ·show(aY 0 (ZF _) ((Zi h).trans (Zu k).symm) (.inl rfl) (.inr (by simpa using h)))
def j6{r:WJ}(h:i<=j):r.take i<+:r.take j:=by
 have:=XS i (r.take j);rw[List.take_take,ZO h]at this;show this
def jH(r:WJ):F6 [] r=r.take (BW r):=by
 show bO (uc r []) λj U N D A=>?_;rw[YL]at N D A;have a:j<=BW r:=by
  rcases D with rfl|D
  ·show ZF _
  ·show aA ((fH _).mp D) λx P e=>?_;have:=jN e (XS j r);rw[ZG,ZO U]at this;show Zh this (mv P)
 have b:BW r<=j:=by
  rcases A with A|A
  ·rw[A];show ji (ZF _)
  ·show Y0 λz=>?_;rcases th with q|⟨x,P,q⟩
   ·have q:BW r=0:=q;lia
   ·have q:BW r=Dq x r:=q;have c:Dw (r.take (j+1))=true:=(fH _).mpr (aO x P ((j6 (by lia)).trans (jM x r)));rw[A]at c;show nomatch c
 rw (occs:=.all) [N,YK a b]
def s8:∀j,(Ho x j=none/\∀i,i<j->BB (x.take i) Bx=false)\/∃i,i<j/\Ho x j=some (x.take i)/\BB (x.take i) Bx=true/\∀d,i<d->d<j->BB (x.take d) Bx=false
 |0=>.inl ⟨rfl,λi h=>T4 h (X4 i)⟩
 |j+1=>by
  by_cases h:BB (x.take j) Bx=true
  ·show .inr (aY j (Z4 _) (Zk h) h λd U N=>by lia)
  ·have l:BB (x.take j) Bx=false:=by simpa using h
   rw (occs:=.all) [show Ho x (j+1)=Ho x j from Zi h];rcases s8 (x:=x) j with ⟨U,N⟩|⟨i,U,N,D,A⟩
   ·show .inl ⟨U,λi hi=>?_⟩;by_cases q:i=j
    ·rw (occs:=.all) [q];show l
    ·show N i (Xx (Xc hi) q)
   ·show .inr (aY i (by show YO 1 U) N D λd Q O=>?_);by_cases q:d=j
    ·rw (occs:=.all) [q];show l
    ·show A d Q (Xx (Xc O) q)
def s6(x:WJ):(Gg x=none/\∀q,q<+:x->BB q Bx=false)\/∃p,Gg x=some p/\BB p Bx=true/\p<+:x/\∀q,q<+:x->BB q Bx=true->q.length<=p.length:=by
 by_cases h:BB x Bx=true
 ·show .inr (aY x (Zk h) h (XT _) λq SG b=>SG.length_le)
 ·have l:BB x Bx=false:=by simpa using h
  have Z:∀q:WJ,q<+:x->q=x.take q.length:=λq SG=>Ym.mp SG;rw (occs:=.all) [show Gg x=Ho x x.length from Zi h];rcases s8 (x:=x) x.length with ⟨U,N⟩|⟨i,U,N,a,A⟩
  ·show .inl ⟨U,λq SG=>?_⟩;by_cases z:q.length=x.length
   ·rw (occs:=.all) [SG.eq_of_length z];show l
   ·rw (occs:=.all) [Z q SG];show N _ (by show Xx SG.length_le z)
  ·show .inr (aY _ N a (XS _ _) λq SG D=>?_);rw (occs:=.all) [ZG,ZO (by show Yj U)];show Y0 λz=>?_;by_cases Q:q.length=x.length
   ·rw[SG.eq_of_length Q,l]at D;show nomatch D
   ·have:=A q.length (by show Nat.lt_of_not_le z) (by have:=SG.length_le;show Xx this Q);rw[←Z q SG,D]at this;show nomatch this
def mw:∀(l:TL) (k:WJ),(F4 r l k=k/\∀x∈l,x<+:r->x.length<=k.length)\/(F4 r l k∈l/\F4 r l k<+:r/\k.length<(F4 r l k).length/\∀x∈l,x<+:r->x.length<=(F4 r l k).length)
 | [],k=>.inl ⟨rfl,λZ h=>nomatch h⟩
 |x::l,k=>by
  rw (occs:=.all) [show F4 r (x::l) k=F4 r l (if Dq x r=x.length/\k.length<x.length then x else k) from rfl];by_cases h:Dq x r=x.length/\k.length<x.length
  ·rw (occs:=.all) [Zk h];rcases mw (r:=r) l x with ⟨U,N⟩|⟨U,N,D,A⟩
   ·rw (occs:=.all) [U];show .inr ⟨.head _,lp.mp h.1,h.2,λy P d=>?_⟩;rcases Zb P with rfl|P
    ·show Zq _
    ·show N y P d
   ·show .inr ⟨.tail _ U,N,Nat.lt_trans h.2 D,λy P d=>?_⟩;rcases Zb P with rfl|P
    ·show Yo D
    ·show A y P d
  ·rw (occs:=.all) [Zi h];have a:∀y∈x::l,y<+:r->y∈l\/y.length<=k.length:=λy P d=>by
    rcases Zb P with rfl|P
    ·show .inr (XR λz=>h ⟨lp.mpr d,z⟩)
    ·show .inl P
   rcases mw (r:=r) l k with ⟨U,N⟩|⟨U,N,D,A⟩
   ·show .inl ⟨U,λy P d=>(a y P d).elim (λz=>N y z d) id⟩
   ·show .inr ⟨.tail _ U,N,D,λy P d=>(a y P d).elim (λz=>A y z d) λz=>by lia⟩
def jG:BB q Bx=true↔q∈Au:=by rw[gT,g9]
def aav(r:WJ):Gg (F6 [] r)=if BY r=[]then none else some (BY r):=by
 rw (occs:=.all) [jH];have l:∀q,q∈Au->q<+:r->q<+:r.take (BW r):=λq SG j=>by
  have:=j6 (r:=r) (show q.length<=BW r from Zh (jN (XT _) j) (mv SG));rw[←Ym.mp j]at this;show this
 have SV:∀q:WJ,q<+:r.take (BW r)->q<+:r:=λq h=>h.trans (XS _ _);rcases mw (r:=r) Au []with ⟨U,N⟩|⟨U,N,D,A⟩
 ·rw (occs:=.all) [Zk (show BY r=[] from U)];rcases s6 (r.take (BW r))with ⟨g1,_⟩|⟨p,g1,g2,g3,_⟩
  ·show g1
  ·show T4 (YF (Wq.mp (N p (jG.mp g2) (SV p g3)))) ((show∀q,BB q Bx=true->q≠[] from λq h=>(mq h).elim λZ h=>h.elim λZ h=>h.ne) p g2)
 ·have U:BY r∈Au:=U;have N:BY r<+:r:=N;have D:0<(BY r).length:=D;rw (occs:=.all) [Zi λz=>by rw[z]at D;show YA _ D];rcases s6 (r.take (BW r))with ⟨_,g2⟩|⟨p,g1,g2,g3,SR⟩
  ·have:=g2 _ (l _ U N);rw[jG.mpr U]at this;show nomatch this
  ·have b:=(show∀x∈Au,x<+:r->x.length<=(BY r).length from A) p (jG.mp g2) (SV p g3);rw (occs:=.all) [g1,(List.prefix_of_prefix_length_le (SV p g3) N b).eq_of_length (YK b (SR _ (l _ U N) (jG.mpr U)))]
def yv(h:∀c u,r=c::u->c≠9/\c≠12/\c≠13):∀c u,r=c::u->(c∈IM↔c∈Jh):=λc u e=>by
 show cu (h c u e) λU N D=>?_;simp only[Zt,Yl,or_false];constructor<;>(intro z;lia)
def vE(h:∀c u,r=c::u->c≠9/\c≠12/\c≠13):Gs r=r.take (Bw r):=by
 cases r with
 |nil=>rfl
 |cons c r=>
  have q:=yv h c r rfl;change(if c∈IM then []else F6 [] (c::r))=(c::r).take (Bool.rec (BW (c::r)) 0 (decide (c∈Jh)));by_cases z:c∈Jh
  ·rw[Zk (q.mpr z),Zr z];rfl
  ·rw[Zi λy=>z (q.mp y),Zs z,jH]
def vG(h:∀c u,r=c::u->c≠9/\c≠12/\c≠13):Fj r=(BO r).map C2++[BM (B7 r)]:=by
 cases r with
 |nil=>rfl
 |cons c r=>
  have q:=yv h c r rfl;unfold BO B7;rw (occs:=.all) [show Fj (c::r)=if c∈IM then [BM [38]]else GU (F6 [] (c::r)) from rfl,show Si (c::r)=decide (c∈Jh) from rfl];by_cases z:c∈Jh
  ·rw (occs:=.all) [Zk (q.mpr z),Zr z];rfl
  ·rw (occs:=.all) [Zi λy=>z (q.mp y),Zs z];unfold GU;rw (occs:=.all) [aav];by_cases y:BY (c::r)=[]
   ·rw (occs:=.all) [Zk y];change _=List.map C2 (if _ then _ else _)++[BM (if _ then _ else _)]
    rw (occs:=.all) [Zk y,Zk y,jH];rfl
   ·rw (occs:=.all) [Zi y];change _=List.map C2 (if _ then _ else _)++[BM (if _ then _ else _)]
    rw (occs:=.all) [Zi y,Zi y,jH];change Fz _++_=_;unfold Fz;split<;>rfl
def aa0:(Au.all λx=> !x.any λc=>beq c 60)=true:=by left
def jO:∀ {x b:WJ},60∉x->Dq x (b++60::z)=Dq x b
 | [],b,_=>rfl
 |a::x,[],h=>Zi λe=>h (by rw[←e];show .head _)
 |a::x,c::b,h=>by
  change(if c=a then Dq x (b++60::z)+1 else 0)=if c=a then Dq x b+1 else 0;rw (occs:=.all) [jO λq=>h (.tail _ q)]
def k8(h:x∈Au):60∉x:=λq=>by
 have:=Zd aa0 x h;rw[Z8,List.any_eq_false]at this;show this 60 q rfl
def kl:BW (b++60::z)=BW b:=by
 have:∀(l:TL) (a:Nat),(∀x∈l,x∈Au)->Im (b++60::z) l a=Im b l a:=by
  intro l;induction l with
  |nil=>intro a _;rfl
  |cons x l Q=>
   intro a h;change Im (b++60::z) l (max a (Dq x (b++60::z)))=Im b l (max a (Dq x b));rw[jO (k8 (h x (.head _)))];show Q _ λy P=>h y (.tail _ P)
 show this Au 0 λZ h=>h
def km:BY (b++60::z)=BY b:=by
 have:∀(l:TL) (k:WJ),(∀x∈l,x∈Au)->F4 (b++60::z) l k=F4 b l k:=by
  intro l;induction l with
  |nil=>intro a _;rfl
  |cons x l Q=>
   intro k h;change F4 (b++60::z) l (if Dq x (b++60::z)=x.length/\k.length<x.length then x else k)=F4 b l (if Dq x b=x.length/\k.length<x.length then x else k);rw[jO (k8 (h x (.head _)))];show Q _ λy P=>h y (.tail _ P)
 show this Au [] λZ h=>h
def mf:Si (b++60::z)=Si b:=by cases b<;>rfl
def rW:Bw (b++60::z)=Bw b:=by unfold Bw;rw (occs:=.all) [mf,kl]
def pU:BO (b++60::z)=BO b:=by unfold BO;rw[mf,km]
def pV:B7 (b++60::z)=B7 b:=by
 unfold B7;rw (occs:=.all) [mf,km,kl,List.take_append_of_le_length (show BW b<=b.length from ji (ZF _))]
def O5(z:WJ):Prop:=z=[]\/∃j,z=60::j
def vD(h:O5 z):Bw (b++z)=Bw b/\BO (b++z)=BO b/\B7 (b++z)=B7 b:=by
 rcases h with rfl|⟨j,rfl⟩
 ·rw[Zu];show⟨rfl,rfl,rfl⟩
 ·show⟨rW,pU,pV⟩
structure Cf where
 ct:Ct
 st:Nat
 tb:TK
 n:Nat
 r:WJ
def Rn(a:Cf)(T:List (FV×Nat))(b:Cf):Prop:=∀d,Eg b.ct b.st b.tb b.n b.r d->Eg a.ct a.st a.tb a.n a.r (T++d)
def Sl(p:FV×Nat):FV:=.tup [p.1,.int (p.2:Nat)]
section
variable {a b c:Cf}{T T2:List (FV×Nat)}
def Rn.refl(a:Cf):Rn a [] a:=λZ h=>h
def Rn.tr(h:Rn a T b)(N:Rn b T2 c):Rn a (T++T2) c:=λd l=>by rw[Zo];show h _ (N _ l)
def Rn.nil(h:Rn a [] b)(N:Rn b T2 c):Rn a T2 c:=h.tr N
def Rn.go(p:PE)(o:Out)(U:Sx a.st C8=some p)(N:p.2.1 a.ct a.tb a.r)(D:p.1 a.ct a.tb a.r=o)(A:o.cont=true)(Q:o.x++o.r=a.r)(O:∀y∈o.q,Gk y):Rn a (o.q.map λy=>(y,a.n+o.x.length)) ⟨o.ct,o.q.foldl Sq o.st,o.tb,a.n+o.x.length,o.r⟩:=
 λZ h=>.go p o U N D A Q O h
end
def ace(h:i≠3):Gk (Hz i s):=⟨a8 _ i rfl rfl λq=>T4 q h⟩
def eP{st d n m:Nat}(p:PE)(U:Sx st C8=some p)(N:p.2.1 ct tb r)(D:p.1 ct tb r=⟨true,d,A,[],x,u,s⟩)(Q:x++u=r)(O:m=n+x.length):Rn ⟨ct,st,tb,n,r⟩ [] ⟨s,d,A,m,u⟩:=by
 subst O;show Rn.go (a:=⟨ct,st,tb,n,r⟩) p _ U N D rfl Q λZ h=>nomatch h
def eO{st d n m:Nat}(p:PE)(f:Sx st C8=some p)(N:p.2.1 ct tb r)(D:p.1 ct tb r=⟨true,d,A,q,x,u,s⟩)(Q:x++u=r)(SG:∀y∈q,Gk y/\Ek y=none)(O:m=n+x.length):Rn ⟨ct,st,tb,n,r⟩ (q.map λy=>(y,m)) ⟨s,d,A,m,u⟩:=by
 subst O;have:=Rn.go (a:=⟨ct,st,tb,n,r⟩) p _ f N D rfl Q λy h=>(SG y h).1;have e:∀(q:Tz),(∀y∈q,Gk y/\Ek y=none)->q.foldl Sq d=d:=by
  intro q;induction q with
  |nil=>show λZ=>rfl
  |cons y q i=>
   intro h;have U:Sq d y=d:=by unfold Sq;rw[(h y (.head _)).2]
   change q.foldl Sq (Sq d y)=d;rw[U];show i λz P=>h z (.tail _ P)
 rw[e q SG]at this;show this
def tq(h:decide (i=3)=false):Gk (Hz i s)/\Ek (Hz i s)=none:=by
 show⟨ace (ZA h),?_⟩;change(Bool.rec none _ (decide (i=3)):TK)=none;rw[h]
def q1(h:Gk y/\Ek y=none):∀z∈[y],Gk z/\Ek z=none:=λz P=>by rw[Za P];show h
def q2(h:Gk y/\Ek y=none)(N:Gk x/\Ek x=none):∀z∈[y,x],Gk z/\Ek z=none:=λz P=>by
 rcases Zb P with rfl|P
 ·show h
 ·rw[Za P];show N
def Sg(v:Nat):Nat:=[304,318,332,346].getD v 0
def Oc(c:Nat):Prop:=c≠9/\c≠12/\c≠13/\c≠35
def f9:∀ {b:WJ},(∀x∈b,p x=q x)->(z=[]\/∃x j,z=x::j/\p x=false)->(b++z).takeWhile p=b.takeWhile q/\(b++z).dropWhile p=b.drop (b.takeWhile q).length++z
 | [],_,hz=>by
  rcases hz with rfl|⟨x,j,rfl,h⟩
  ·show⟨rfl,rfl⟩
  ·rw[Z2,Y6,h];show⟨rfl,rfl⟩
 |x::b,h,hz=>by
  show zA (f9 (λy P=>h y (.tail _ P)) hz) λU N=>?_;rw[Z2,Z2,Y6,h x (.head _)];cases q x with
  |true=>rw[U,N];show⟨rfl,rfl⟩
  |false=>rw[Zi (by ext)];show⟨rfl,rfl⟩
def adU{a b z:WJ}(h:a<+:b):a++(b.drop a.length++z)=b++z:=by
 show zE h λt Q=>?_;subst Q;rw[YU,Zo]
section
variable {ct:Ct}{tb:TK}{n c:Nat}{b z:WJ}
def qY{st v:Nat}(Q:(st=304/\v=311)\/(st=318/\v=325))(U:∀x∈b++z,Oc x)(p:O5 z):
  Rn ⟨ct,st,tb,n,38::(b++z)⟩ (((BO b).map λx=>(C2 x,n+(1+Bw b)))++[(BM (B7 b),n+(1+Bw b))]) ⟨ct,st,tb,n+(1+Bw b),b.drop (Bw b)++z⟩:=by
 have j:∀c u,b++z=c::u->c≠9/\c≠12/\c≠13:=λc u e=>by
  show bY (U c (by rw[e];show .head _)) λk N m q=>?_;show⟨k,N,m⟩
 have g:Gz ct tb (b++z):=λu e=>(U 35 (by rw[e];show .head _)).2.2.2 rfl;show cu (vD (b:=b) p) λo r2 i=>?_;have l:=nR b;have s:(b.take (Bw b)).length=Bw b:=by rw (occs:=.all) [ZG];show ZO l
 have A:Fj (b++z)=(BO b).map C2++[BM (B7 b)]:=by rw (occs:=.all) [vG j,r2,i]
 have Z:Rn ⟨ct,st,tb,n,38::(b++z)⟩ [] ⟨ct,v,tb,n+1,b++z⟩:=by
  rcases Q with ⟨rfl,rfl⟩|⟨rfl,rfl⟩
  ·show eP (x:=[38]) (C7,S5,true) rfl trivial rfl rfl rfl
  ·show eP (x:=[38]) (BZ,S5,true) rfl trivial rfl rfl rfl
 have D:DT st ct tb (b++z)=⟨true,st,tb,Fj (b++z),b.take (Bw b),b.drop (Bw b)++z,ct⟩:=by
  unfold DT;rw (occs:=.all) [show Gs (b++z)=b.take (Bw b) by rw (occs:=.all) [vE j,o,List.take_append_of_le_length l],s,Wt l]
 have SG:∀y∈Fj (b++z),Gk y/\Ek y=none:=λy P=>by
  rw[A]at P;rcases Yi.mp P with P|P
  ·show aA (Y3.mp P) λx q f=>?_;subst f;show tq rfl
  ·rw (occs:=.all) [Za P];show tq rfl
 have d:Rn ⟨ct,v,tb,n+1,b++z⟩ ((Fj (b++z)).map λy=>(y,n+(1+Bw b))) ⟨ct,st,tb,n+(1+Bw b),b.drop (Bw b)++z⟩:=by
  have h:b.take (Bw b)++(b.drop (Bw b)++z)=b++z:=by rw (occs:=.all) [←Zo,Yc]
  rcases Q with ⟨rfl,rfl⟩|⟨rfl,rfl⟩
  ·show eO (DT 304,Gz,true) rfl g D h SG (by rw (occs:=.all) [s];show YS (Yn n 1 (Bw b)))
  ·show eO (DT 318,Gz,true) rfl g D h SG (by rw (occs:=.all) [s];show YS (Yn n 1 (Bw b)))
 rw[A,Z7,Y9]at d;show Z.nil d
def k3e{P:(k:Nat)->k<3->Prop}(k:Nat)(h:k<3)(h0:∀h,P 0 h)(h1:∀h,P 1 h)(h2:∀h,P 2 h):P k h:=k3 (P:=λk=>∀h,P k h) h0 h1 h2 h h
def k4e{P:(k:Nat)->k<4->Prop}(k:Nat)(h:k<4)(h0:∀h,P 0 h)(h1:∀h,P 1 h)(h2:∀h,P 2 h)(h3:∀h,P 3 h):P k h:=k4 (P:=λk=>∀h,P k h) h0 h1 h2 h3 h h
def zm{v:Nat}(D:v<4):Rn ⟨ct,Sg v,tb,n,0::(b++z)⟩ [(CG,n+1),(BM [if v=0 then 0 else 65533],n+1)] ⟨ct,Sg v,tb,n+1,b++z⟩:=by
 induction v,D using k4e with
 |h0=>show eO (q:=[CG,BM [0]]) (C7,S5,true) rfl trivial rfl rfl (q2 (tq rfl) (tq rfl)) rfl
 |h1=>show eO (q:=[CG,BM [65533]]) (BZ,S5,true) rfl trivial rfl rfl (q2 (tq rfl) (tq rfl)) rfl
 |h2=>show eO (q:=[CG,BM [65533]]) (FP,S5,true) rfl trivial rfl rfl (q2 (tq rfl) (tq rfl)) rfl
 |h3=>show eO (q:=[CG,BM [65533]]) (DU,S5,true) rfl trivial rfl rfl (q2 (tq rfl) (tq rfl)) rfl
def iA(U:Sx (Sg kd) C8=some (p,S5,true))(e:p ct tb (c::(b++z))=⟨true,Sg kd,tb,[Ju bl (c::(b++z).takeWhile q)],c::(b++z).takeWhile q,(b++z).dropWhile q,ct⟩)
  (SG:(b++z).takeWhile q=b.takeWhile (pRun kd c)/\(b++z).dropWhile q=b.drop (b.takeWhile (pRun kd c)).length++z) (hi:i=(b.takeWhile (pRun kd c)).length):
  Rn ⟨ct,Sg kd,tb,n,c::(b++z)⟩ [(Ju bl (c::b.take i),n+(1+i))] ⟨ct,Sg kd,tb,n+(1+i),b.drop i++z⟩:=by
 have j:b.take i=b.takeWhile (pRun kd c):=by rw[hi];show(Ym.mp (Z5 _)).symm
 rw[SG.1,SG.2]at e;rw[j];clear j;subst hi;show eO (p,S5,true) U trivial e ?_ ?_ ?_
 ·show T3 (c:: ·) (adU (Z5 _))
 ·cases bl<;>show q1 (tq rfl)
 ·rw[Zj];lia
def rG(h:Oc x):decide (x∈Dj)=decide (x∈[32,10]):=by
 show bY h λU N D Z=>decide_eq_decide.mpr ?_;simp only[Zt,Yl,or_false];constructor<;>(intro z;lia)
def abq(x:Bool):B1 x true=x:=by cases x<;>rfl
def abr(x:Bool):B1 x false= !x:=by cases x<;>rfl
def zl{v:Nat}(D:v<4)(U:∀x∈c::(b++z),Oc x)(g:¬(c=38/\v<2))(j:c≠0)(d:¬(c=60/\v<3))(m:z=[]\/(v<3/\∃i,z=60::i)):
  Rn ⟨ct,Sg v,tb,n,c::(b++z)⟩ [(Ju (Ec v c) (c::b.take (b.takeWhile (pRun v c)).length),n+(1+(b.takeWhile (pRun v c)).length))] ⟨ct,Sg v,tb,n+(1+(b.takeWhile (pRun v c)).length),b.drop (b.takeWhile (pRun v c)).length++z⟩:=by
 have f:=decide_eq_decide.mp (rG (U c (.head _)));have A:Ec v c=true->∀x∈b,B1 (decide (x∈Dj)) true=pRun v c x:=λP x k=>by
  unfold pRun;rw[P,abq];show rG (U x (.tail _ (XM _ k)))
 have s:Ec v c=false->∀x∈b,B1 (decide (x∈Gm.getD v [])) false=pRun v c x:=λP x Z=>by
  unfold pRun;rw[P,abr]
 have l:∀(q:TU),(v<3->q 60=false)->z=[]\/∃x i,z=x::i/\q x=false:=λq SG=>m.imp id λ⟨h,i,e⟩=>(aU 60 i e (SG h))
 induction v,D using k4e with
 |h0=>
  have g:c≠38:=λe=>g ⟨e,by ext⟩;have d:c≠60:=λe=>d ⟨e,by ext⟩;by_cases u:c∈Dj
  ·have P:Ec 0 c=true:=by unfold Ec;rw[Zr (f.mp u)];rfl
   rw[P];show iA (kd:=0) (p:=C7) (q:=λc=>B1 (decide (c∈Dj)) true) rfl ?_ (f9 (A P) (l _ λZ=>rfl)) rfl;show(Zi g).trans ((Zi d).trans ((Zi j).trans (Zk u)))
  ·have P:Ec 0 c=false:=by unfold Ec;rw[Zs λz=>u (f.mpr z)];rfl
   rw[P];show iA (kd:=0) (p:=C7) (q:=λc=>B1 (decide (c∈[38,60,0])) false) rfl ?_ (f9 (s P) (l _ λZ=>rfl)) rfl;show(Zi g).trans ((Zi d).trans ((Zi j).trans (Zi u)))
 |h1=>
  have g:c≠38:=λe=>g ⟨e,by ext⟩;have d:c≠60:=λe=>d ⟨e,by ext⟩;by_cases u:c∈Dj
  ·have P:Ec 1 c=true:=by unfold Ec;rw[Zr (f.mp u)];rfl
   rw[P];show iA (kd:=1) (p:=BZ) (q:=λc=>B1 (decide (c∈Dj)) true) rfl ?_ (f9 (A P) (l _ λZ=>rfl)) rfl;show(Zi g).trans ((Zi d).trans ((Zi j).trans (Zk u)))
  ·have P:Ec 1 c=false:=by unfold Ec;rw[Zs λz=>u (f.mpr z)];rfl
   rw[P];show iA (kd:=1) (p:=BZ) (q:=λc=>B1 (decide (c∈[38,60,0])) false) rfl ?_ (f9 (s P) (l _ λZ=>rfl)) rfl;show(Zi g).trans ((Zi d).trans ((Zi j).trans (Zi u)))
 |h2=>
  have P:Ec 2 c=false:=rfl;rw[P];show iA (kd:=2) (p:=FP) (q:=λc=>B1 (decide (c∈[60,0])) false) rfl ?_ (f9 (s P) (l _ λZ=>rfl)) rfl;show(Zi (show c≠60 from λe=>d ⟨e,by ext⟩)).trans (Zi j)
 |h3=>
  have P:Ec 3 c=false:=rfl;rw[P];show iA (kd:=3) (p:=DU) (q:=λc=>B1 (decide (c∈[0])) false) rfl ?_ (f9 (s P) (l _ λh=>T4 h (by ext))) rfl;show Zi j
end
abbrev dl(r:WJ):WJ:=r.dropWhile λc=>decide (c∈AW)
def F5(r:WJ):Bool:=match r with
 | []=>true
 |d::_=>beq d 62
def F0(P:Bool)(r:WJ):Bool:=match r with
 | []=>true
 |c::r=>or (beq c 62) (and (or (beq c 32) (and P (beq c 47))) (F5 r))
def FC(r:WJ):Bool:=match r with
 | []=>true
 |c::s=>or (and (beq c 49) (F5 s)) (and (decide (c∈AW)) (F0 false (dl s)))
def IT(r:WJ):Bool:=match r with
 | []=>true
 |c::s=>or (beq c 49) (or (and (beq c 47) (FC s)) (and (decide (c∈AW)) (F0 true (dl s))))
def sA(h:F0 P (c::r)=true):c=62\/((c=32\/(P=true/\c=47))/\(r=[]\/∃u,r=62::u)):=by
 have h:(beq c 62||((beq c 32||(P&&beq c 47))&&F5 r))=true:=h;simp only[Yq,Zp]at h;show h.imp ZC λ⟨U,a⟩=>⟨U.imp ZC λz=>⟨z.1,ZC z.2⟩,?_⟩
 cases r with
 |nil=>show .inl rfl
 |cons d r=>show .inr ⟨r,by rw[ZC a]⟩
structure H9 (nm:WJ):Prop where
 ne:nm≠[]
 lt:∀c∈nm,97<=c/\c<=122
 ln:nm.length<=9
def H9.low{nm:WJ}(h:H9 nm):Bp nm=nm:=by
 have:∀l:WJ,(∀c∈l,97<=c/\c<=122)->Bp l=l:=by
  intro l;induction l with
  |nil=>intro _;rfl
  |cons c l Q=>
   intro h;change DF c::Bp l=c::l;rw[Q λc u=>h c (.tail _ u)];have:=h c (.head _);unfold DF;rw[Zi λq=>Nat.not_le_of_gt (by decide:90<97) (Zh this.1 q.2)]
 show this nm h.lt
def H9.small{nm:WJ}(h:H9 nm):BV nm:=⟨λc u=>by have:=h.lt c u;lia,by have:=h.ln;lia⟩
def dz(h:∀c∈l,c∈AW)(D:l.length<=10000):BV l:=⟨λc u=>tv c (h c u),by lia⟩
def jm(h:c∈AW):c∉Dj/\c≠62/\c≠47/\c≠0/\c≠33/\c≠63:=by
 show(show∀c∈AW,c∉Dj/\c≠62/\c≠47/\c≠0/\c≠33/\c≠63 by ext) c h
def yT:∀ {l:WJ} {d:Nat} {r:WJ},l.dropWhile p=d::r->p d=false
 | [],_,_,h=>nomatch h
 |c::l,d,r,h=>by
  rw[Y6]at h;split at h
  ·show yT h
  ·rename_i q;show zA (ZI h) λz Z=>?_;clear h;subst z;simpa using q
def gQ(h:c∈Ar r):c∈AW:=by
 unfold Ar at h;induction r with
 |nil=>show nomatch h
 |cons a r Q=>
  rw[Z2]at h;split at h
  ·rename_i q;rcases Zb h with rfl|h
   ·show Zm q
   ·show Q h
  ·show nomatch h
def oE(r:WJ):Ar r++dl r=r:=List.takeWhile_append_dropWhile
def tm(h:O5 z):Ar (b++z)=Ar b/\dl (b++z)=b.drop (Ar b).length++z:=
 f9 (λZ Z=>rfl) (h.imp id λ⟨j,e⟩=>(aU 60 j e rfl))
section
variable {nm:WJ}{sc:Bool}{B K T N:Nat}{tb:TK}{n:Nat}
def kY(A:Sx N C8=some (CJ B N,EY,true))(j:BV nm):∀(l g:WJ) (n:Nat) (y:WJ),(∀c∈l,c∈AW)->(∀c∈g,c∈AW)->g.length+l.length<=10000->Rn ⟨.AM false nm sc,N,some g,n,l++y⟩ [] ⟨.AM false nm sc,N,some (g++l),n+l.length,y⟩
 | [],g,n,y,_,_,_=>by rw[Zu];show Rn.refl _
 |c::l,g,n,y,hl,hb,hlen=>by
  rw[Zj]at hlen;show bY (jm (hl c (.head _))) λU a D Z=>?_;have b:Rn ⟨.AM false nm sc,N,some g,n,c::(l++y)⟩ [] ⟨.AM false nm sc,N,some (g++[c]),n+1,l++y⟩:=by
   show eP (x:=[c]) (CJ B N,EY,true) A (aM nm sc g rfl rfl j (dz hb (ZK hlen)) λf u e Z=>by rw[←(ZI e).1];show D) ?_ rfl rfl;show(Zi λz=>U z.1).trans ((Zi λz=>a z.1).trans (Zk (hl c (.head _))))
  have Q:=kY A j l (g++[c]) (n+1) y (λd hd=>hl d (.tail _ hd)) (λd hd=>by
   rcases Yi.mp hd with hd|hd
   ·show hb d hd
   ·rw[Za hd];show hl c (.head _)) (by rw[Zg,Zj,ZW];lia)
  rw[Zo]at Q;have:=b.nil Q;rw[show n+1+l.length=n+(c::l).length by rw[Zj];show YJ n l.length]at this;show this
structure Raw (nm:WJ) (sc:Bool) (B K T N:Nat):Prop where
 b:∀tb n r,Rn ⟨.AM false nm sc,B,tb,n,60::r⟩ [] ⟨.AM false nm sc,K,tb,n+1,r⟩
 k:Sx K C8=some (LO B T,S5,true)
 t:Sx T C8=some (HM B N,K0,true)
 n:Sx N C8=some (CJ B N,EY,true)
 low:H9 nm
def yu(h:H9 nm):Raw nm sc 318 374 381 388:=⟨λZ Z Z=>eP (BZ,S5,true) rfl trivial rfl rfl rfl,rfl,rfl,rfl,h⟩
def yt(h:H9 nm):Raw nm sc 332 395 402 409:=⟨λZ Z Z=>eP (FP,S5,true) rfl trivial rfl rfl rfl,rfl,rfl,rfl,h⟩
def Raw.to(h:Raw nm sc B K T N)(D:∀d∈c::l,d∈AW)(u:l.length<=9000):Rn ⟨.AM false nm sc,B,tb,n,60::47::c::(l++y)⟩ [] ⟨.AM false nm sc,N,some (c::l),n+3+l.length,y⟩:=by
 show(h.b _ _ _).nil ((show Rn ⟨.AM false nm sc,K,tb,n+1,47::c::(l++y)⟩ [] ⟨.AM false nm sc,T,some [],n+2,c::(l++y)⟩ from eP (LO B T,S5,true) h.k trivial rfl rfl rfl).nil ((show Rn ⟨.AM false nm sc,T,some [],n+2,c::(l++y)⟩ [] ⟨.AM false nm sc,N,some [c],n+3,l++y⟩ from eP (HM B N,K0,true) h.t (aO [] rfl (ZF _)) (Zk (D c (.head _))) rfl rfl).nil (kY (sc:=sc) h.n h.low.small l [c] (n+3) y (λd hd=>D d (.tail _ hd)) (λd hd=>D d (by rw[Za hd];show .head _)) (by rw[Zj,ZW];show Zh (ZH u 1) (by ext)))))
def Raw.lt(h:Raw nm sc B K T N){b z:WJ}(P:O5 z)(a:b.length<=9000)(j:IT (b++z)=true)
  (g:(decide ((60::(b++z)).take 2=[60,47])&&(decide (Bp (((60::(b++z)).drop 2).take nm.length)=nm)&&decide (((60::(b++z)).drop (2+nm.length)).take 1=[32]\/((60::(b++z)).drop (2+nm.length)).take 1=[62])))=false):
  ∃w,Rn ⟨.AM false nm sc,B,tb,n,60::(b++z)⟩ [(BM ((60::b).take (Ik b)),n+Ik b)] ⟨.AM false nm sc,B,w,n+Ik b,(60::b).drop (Ik b)++z⟩:=by
 have one:∀r,(∀d u,r=d::u->d≠47)->Rn ⟨.AM false nm sc,B,tb,n,60::r⟩ [(BM [60],n+1)] ⟨.AM false nm sc,B,tb,n+1,r⟩:=λr L=>by
  show(h.b _ _ _).nil (eO (x:=[]) (LO B T,S5,true) h.k trivial ?_ rfl (q1 (tq rfl)) rfl);cases r with
  |nil=>rfl
  |cons d r=>show Zi (L d r rfl)
 cases b with
 |nil=>
  show(yE tb (one z λd u e=>?_));rcases P with rfl|⟨S,rfl⟩
  ·show nomatch e
  ·rw[←(ZI e).1];decide
 |cons c b=>
  by_cases f:c=47
  ·subst f;show zA (tm (b:=b) P) λH M=>?_;have s:FC (b++z)=true:=by
    have j:(beq 47 49||((beq 47 47&&FC (b++z))||(decide (47∈AW)&&F0 true (dl (b++z)))))=true:=j;replace j:=(show decide (47∈AW)=false from rfl)▸j;replace j:=(Wg _)▸j;replace j:=(Wp _)▸j;show j
   have p:(60::47::b).take (2+(Ar b).length)=60::47::Ar b:=by
    rw[Xp];show T3 (λl=>60::47::l) (Ym.mp (Z5 _)).symm
   have E:(60::47::b).drop (2+(Ar b).length)++z=dl (b++z):=by
    rw[M,Xp];rfl
   have A:=jl b;replace a:=Zj▸a;rw[show Ik (47::b)=2+(Ar b).length from Zk rfl,p,E];have v:=oE (b++z);replace v:=H▸v;change∃w,Rn ⟨.AM false nm sc,B,tb,n,60::47::(b++z)⟩ _ _;have i:∀d u,dl (b++z)=d::u->decide (d∈AW)=false:=λd u e=>yT e;have o:F0 false (dl (b++z))=true\/Ar b=[]:=by
    cases D:Ar b with
    |nil=>show .inr rfl
    |cons c l=>
     show .inl ?_;have f:c∈AW:=gQ (by rw[D];show .head _);have e:b++z=c::(l++dl (b++z)):=by replace v:=D▸v;show v.symm
     have R:dl (b++z)=dl (l++dl (b++z)):=by
      have:dl (c::(l++dl (b++z)))=dl (l++dl (b++z)):=by
       change List.dropWhile _ (c::(l++_))=_;rw[Y6,Zk (Zr f)]
      rw[←this, ←e]
     replace s:=e▸s;have C:c≠49:=λe=>by replace f:=e▸f;show T4 f (by ext)
     have s:(and (beq c 49) (F5 (l++dl (b++z)))||and (decide (c∈AW)) (F0 false (dl (l++dl (b++z)))))=true:=s;replace s:=(bX C)▸s;replace s:=(Zr f)▸s;replace s:=(YS R)▸s;show s
   obtain⟨y,G⟩:∃y,dl (b++z)=y:=(yE _ rfl)
   rw[G]at v i o⊢;cases D:Ar b with
   |nil=>
    replace v:=D▸v;rw[←(show y=b++z from v)];show(yE (some []) ?_);have I:Rn ⟨.AM false nm sc,T,some [],n+2,y⟩ [(BM [60,47],n+2)] ⟨.AM false nm sc,B,some [],n+2,y⟩:=by
     show eO (q:=[BM [60,47]]) (x:=[]) (HM B N,K0,true) h.t (aO [] rfl (ZF _)) ?_ rfl (q1 (tq rfl)) rfl;cases y with
     |nil=>rfl
     |cons d r=>show Zi (ZA (i d r rfl))
    show(h.b _ _ _).nil ((show Rn ⟨.AM false nm sc,K,tb,n+1,47::y⟩ [] ⟨.AM false nm sc,T,some [],n+2,y⟩ from eP (x:=[47]) (LO B T,S5,true) h.k trivial rfl rfl rfl).nil I)
   |cons c l=>
    have m:∀d∈c::l,d∈AW:=λd hd=>gQ (by rw[D];show hd);rw[D]at v A;have U:F0 false y=true:=o.resolve_right (by rw[D];show λz=>nomatch z);replace A:=Zj▸A;show(yE (some (c::l)) ?_);have Z:=h.to (tb:=tb) (n:=n) (y:=y) m (Yo (Nat.lt_trans A a));replace Z:=(show n+3+l.length=n+(2+(c::l).length) by rw[Zj];lia)▸Z;have O:∀d u,y=d::u->(d=62\/d=32)/\Bp nm≠Bp (c::l):=λd u e=>by
     replace U:=e▸U;have F:d=62\/d=32:=(sA U).imp id λz=>z.1.elim id λz=>nomatch z.1;show⟨F,λt=>?_⟩;have Q:nm.length=(c::l).length:=by
      have:=T3 List.length t;unfold Bp at this;replace this:=(ZD _)▸this;replace this:=(ZD _)▸this;show this
     have g2:(60::(47::b++z)).drop 2=b++z:=rfl;have g3:(60::(47::b++z)).drop (2+nm.length)=d::u:=by rw[←YI,show(b++z).drop nm.length=d::u by rw[←v,Q,YU,e]]
     replace g:=g2▸g;replace g:=g3▸g;replace g:=(show(b++z).take nm.length=c::l by rw[←v,Q,We])▸g;replace g:=(YS t)▸g;replace g:=h.low.low▸g;replace g:=(show(60::(47::b++z)).take 2=[60,47] from rfl)▸g;replace g:=(Zr (rfl:([60,47]:WJ)=[60,47]))▸g;replace g:=(Zr (rfl:nm=nm))▸g;replace g:=(Zr (show(d::u).take 1=[32]\/(d::u).take 1=[62] from(show [d]=[32]\/[d]=[62] from F.elim (λz=>.inr (by rw[z])) λz=>.inl (by rw[z]))))▸g;show nomatch g
    rw[←v];show Z.nil (eO (q:=[BM ([60,47]++(c::l))]) (x:=[]) (CJ B N,EY,true) h.n ?_ ?_ rfl (q1 (tq rfl)) rfl)
    ·show(aM nm sc (c::l) rfl rfl h.low.small (dz m (by rw[Zj];show Zh A (Zh (Yj a) (by ext)))) λd u e q=>T4 q (O d u e).2)
    ·cases y with
     |nil=>rfl
     |cons d r=>
      have k:=(O d r rfl).2;show(Zi λz=>k z.2).trans ((Zi λz=>k z.2).trans (Zi (ZA (i d r rfl))))
  ·rw[show Ik (c::b)=1 from Zi λe=>f (ZI e).1];show(yE tb (one (c::(b++z)) λd u e=>by rw[←(ZI e).1];show f))
end
def pK{nm r:WJ}(h:kd=1\/kd=2):B6 kd nm r=(decide (r.take 2=[60,47])&&(decide (Bp ((r.drop 2).take nm.length)=nm)&&decide ((r.drop (2+nm.length)).take 1=[32]\/(r.drop (2+nm.length)).take 1=[62]))):=by
 rcases h with rfl|rfl<;>rfl
structure Pl (kd:Nat) (nm:WJ) (ct:Ct):Prop where
 k:kd<4
 t:kd=1\/kd=2->∃sc,ct=.AM false nm sc/\H9 nm
section
variable {kd n c:Nat}{nm b z:WJ}{ct:Ct}{tb:TK}
def turn(O:Pl kd nm ct)(f:∀x∈c::(b++z),Oc x)(u:b.length<=9000)(m:z=[]\/(kd<3/\∃j,z=60::j))(s:c=60->kd≠3->kd≠0/\B6 kd nm (60::(b++z))=false/\IT (b++z)=true):
  ∃tb' T,Rn ⟨ct,Sg kd,tb,n,c::(b++z)⟩ T ⟨ct,Sg kd,tb',n+Cu kd c b,(c::b).drop (Cu kd c b)++z⟩/\T.map Sl=Ip kd n c b:=by
 have k:=O.k;have d:=m.imp id λz=>z.2;by_cases U:c=38/\kd<2
 ·have g:Cu kd c b=1+Bw b:=Zk U;have A:Ip kd n c b=((BO b).map λx=>.tup [C2 x,.int ((n+Cu kd c b:Nat):Int)])++[.tup [BM (B7 b),.int ((n+Cu kd c b:Nat):Int)]]:=Zk U;have a:(c::b).drop (1+Bw b)=b.drop (Bw b):=by rw[Xp];rfl
  rw[A,g,a];show zA U λe N=>?_;clear s U g A a;subst e;have l:=λx o=>f x (.tail _ o);show(aU tb (((BO b).map λx=>(C2 x,n+(1+Bw b)))++[(BM (B7 b),n+(1+Bw b))]) ?_ ?_)
  ·show k2 (P:=λkd=>Rn ⟨ct,Sg kd,tb,n,_⟩ _ ⟨ct,Sg kd,_,_,_⟩) (qY (.inl ⟨rfl,rfl⟩) l d) (qY (.inr ⟨rfl,rfl⟩) l d) N
  ·rw[Z7,Y9];rfl
 ·by_cases N:c=0
  ·have g:Cu kd c b=1:=(Zi U).trans (Zk N);have A:Ip kd n c b=[.tup [CG,.int ((n+Cu kd c b:Nat):Int)],.tup [BM [if kd=0 then 0 else 65533],.int ((n+Cu kd c b:Nat):Int)]]:=(Zi U).trans (Zk N);rw[g];clear f s U g A;subst N;show(aU tb _ (zm k) rfl)
  ·have A:Ip kd n c b=[.tup [Ju (Ec kd c) ((c::b).take (Cu kd c b)),.int ((n+Cu kd c b:Nat):Int)]]:=(Zi U).trans (Zi N);by_cases D:c=60/\kd<3
   ·have g:Cu kd c b=Ik b:=(Zi U).trans ((Zi N).trans (Zk D));obtain⟨rfl,D⟩:=D;rw[g,show Ec kd 60=false by show Bool.and_false _];obtain⟨g1,g2,g3⟩:=s rfl (by show Z3 D);have v:kd=1\/kd=2:=by lia
    show aA (O.t v) λsc Q i=>?_;clear O;subst Q;rw[pK v]at g2;rcases v with rfl|rfl
    ·show zE ((yu (sc:=sc) i).lt (tb:=tb) (n:=n) d u g3 g2) λtb' h=>(aU tb' _ h rfl)
    ·show zE ((yt (sc:=sc) i).lt (tb:=tb) (n:=n) d u g3 g2) λtb' h=>(aU tb' _ h rfl)
   ·rw[A,show Cu kd c b=1+(b.takeWhile (pRun kd c)).length from(Zi U).trans ((Zi N).trans (Zi D))];have a:(c::b).drop (1+(b.takeWhile (pRun kd c)).length)=b.drop (b.takeWhile (pRun kd c)).length:=by rw[Xp];rfl
    have Z:(c::b).take (1+(b.takeWhile (pRun kd c)).length)=c::b.take (b.takeWhile (pRun kd c)).length:=by rw[Xp];rfl
    rw[a,Z];show(aU tb _ (zl k f U N D m) rfl)
def pq(O:Pl kd nm ct)(i:z=[]\/(kd<3/\∃j,z=60::j)):∀(f n:Nat) (r:WJ) (tb:TK),r.length<=f->r.length<=9000->(∀x∈r++z,Oc x)->(∀a b,r=a++60::b->kd≠3->kd≠0/\B6 kd nm (60::(b++z))=false/\IT (b++z)=true)->
  ∃tb' T,Rn ⟨ct,Sg kd,tb,n,r++z⟩ T ⟨ct,Sg kd,tb',n+r.length,z⟩/\T.map Sl=Hs kd f n r
 |f,n,[],tb,_,_,_,_=>(aU tb [] (Rn.refl _) (by cases f<;>rfl))
 |0,n,c::b,tb,h,_,_,_=>T4 h (XJ _)
 |f+1,n,c::b,tb,hf,hl,ho,hM=>by
  show zA (uJ kd c b) λn1 n2=>?_;rw[Zj]at hf hl;show aX (turn (n:=n) (tb:=tb) O ho (Yj hl) i λe D=>hM [] b (by rw[e];rfl) D) λd Q m U=>?_;have g:((c::b).drop (Cu kd c b)).length=b.length+1-Cu kd c b:=by rw[ZM,Zj]
  show aX (pq O i f (n+Cu kd c b) ((c::b).drop (Cu kd c b)) d (g▸Nat.sub_le_of_le_add (Zh hf (ZH n1 f))) (g▸Zh (Wl _ _) hl) (λx P=>ho x (by
   rcases Yi.mp P with P|P
   ·show XM _ (List.mem_of_mem_drop P)
   ·show Xl _ P)) λa k e D=>hM ((c::b).take (Cu kd c b)++a) k (by rw[Zo, ←e,Yc (Cu kd c b) (c::b)]) D) λl A r2 Z=>?_
  show(aU l (Q++A) ?_ ?_)
  ·have:=m.tr r2;rw[g,show n+Cu kd c b+(b.length+1-Cu kd c b)=n+(c::b).length by rw[Zj];show(Yn _ _ _).trans (T3 _ (YV n2))]at this;show this
  ·rw[Z7,U,Z];rfl
end
def Mk(a:Cf)(v:FV):Prop:=∃T x r2 s tb' g d,a.r=x++r2/\Rn a T ⟨s,Sg g,tb',a.n+x.length,r2⟩/\v=.tup [.lst (T.map Sl),.int ((a.n+x.length:Nat):Int),.int (g:Nat),.str d]/\Pl g d s/\(r2=[]\/DJ s)/\T.length<=2
def Mk.pre(h:Rn a [] b)(D:a.r=y++b.r)(j:b.n=a.n+y.length)(k:Mk b v):Mk a v:=by
 show bg k λT x r2 s tb' g d U N f A Q O=>?_;have e:a.n+(y++x).length=b.n+x.length:=by rw[j,Zg];show YS (Yn a.n y.length x.length)
 show(bk T (y++x) r2 s tb' g d (by rw[D,U,Zo]) (by rw[e];show h.nil N) (by rw[e];show f) A Q O)
def O4(a:Cf)(v:FV):Prop:=∃T x r2 s tb' g d,a.r=x++r2/\Rn a T ⟨s,Sg g,tb',a.n+x.length,r2⟩/\v=.tup [.lst (T.map Sl),.int ((a.n+x.length:Nat):Int),.int (g:Nat),.str d]/\Pl g d s/\(r2=[]\/DJ s)/\T.length<=2/\x≠[]
def Mk.acJ(h:Rn a [] b)(D:a.r=y++b.r)(j:b.n=a.n+y.length)(P:y≠[])(k:Mk b v):O4 a v:=by
 show bg k λT x r2 s tb' g d U N f A Q O=>?_;have e:a.n+(y++x).length=b.n+x.length:=by rw[j,Zg];lia
 show⟨T,y++x,r2,s,tb',g,d,by rw[D,U,Zo],by rw[e];show h.nil N,by rw[e];show f,A,Q,O,λz=>P (Xy.mp z).1⟩
def Pl.zero:Pl 0 [] ct:=⟨by ext,λh=>by lia⟩
def ac5:H9 DC/\H9 Fi/\H9 DD/\H9 GS:=by
 show⟨⟨by ext,by ext,by ext⟩,⟨by ext,by ext,by ext⟩,⟨by ext,by ext,by ext⟩,⟨by ext,by ext,by ext⟩⟩
def oI(nm:WJ):∃kd,knd nm=.int (kd:Nat)/\HC nm 304=Sg kd/\kd<4/\(kd=1\/kd=2->H9 nm):=by
 show bY ac5 λl1 l2 l3 l4=>?_;by_cases U:nm=DC
 ·subst U;show(aY 1 rfl rfl (by ext) λZ=>l1)
 by_cases N:nm=Fi
 ·clear U;subst N;show(aY 1 rfl rfl (by ext) λZ=>l2)
 by_cases D:nm=DD
 ·clear U N;subst D;show(aY 2 rfl rfl (by ext) λZ=>l3)
 by_cases A:nm=GS
 ·clear U N D;subst A;show(aY 2 rfl rfl (by ext) λZ=>l4)
 by_cases Q:nm=Em
 ·clear U N D A;subst Q;show(aY 3 rfl rfl (by ext) λh=>by lia)
 show(aY 0 ?_ ?_ (by ext) λh=>by lia)
 ·have e:sel nm PU=none:=by
   change(Bool.rec (Bool.rec (Bool.rec (Bool.rec (Bool.rec none _ (Cn nm Em)) _ (Cn nm GS)) _ (Cn nm DD)) _ (Cn nm Fi)) _ (Cn nm DC):TJ)=none;rw[aE,aE,aE,aE,aE,Zs U,Zs N,Zs D,Zs A,Zs Q]
  unfold knd;rw[e];rfl
 ·unfold HC;rw[Zi λz=>z.elim U N,Zi λz=>z.elim D A,Zi Q];rfl
section
variable {ct:Ct}{st n:Nat}{tb tb':TK}{x y r' nm:WJ}{en sc:Bool}{p:PE}
def gx(U:Sx st C8=some p)(i:p.2.1 ct tb y)(k:p.1 ct tb y=⟨true,304,tb',[.An (EO en nm sc)],x,r',.AM en nm sc⟩)(A:x++r'=y)(N:e+1=((n+x.length:Nat):Int)):Mk ⟨ct,st,tb,n,y⟩ (C9 en nm sc e):=by
 have m:Gk (.An (EO en nm sc)):=by
  cases en
  ·show⟨a8 _ 3 rfl rfl λZ=>(yE nm rfl)⟩
  ·show⟨a8 _ 4 rfl rfl λq=>T4 q (by ext)⟩
 have D:=Rn.go (a:=⟨ct,st,tb,n,y⟩) p _ U i k rfl A λz P=>by rw[Za P];show m
 cases en with
 |true=>
  show(bk _ x r' _ _ 0 [] A.symm D ?_ Pl.zero (.inr (.inr (gp _ _ _ rfl))) (YX 1));change FV.tup [.lst [.tup [.An (OT nm),.int (e+1)]],.int (e+1),.int 0,.str []]=_;rw[N];rfl
 |false=>
  show bO (oI nm) λkd f k2 k3 k4=>?_;have l:=D;dsimp only at l;rw[show List.foldl Sq 304 [.An (EO false nm sc)]=Sg kd from k2]at l;show(bk _ x r' _ _ kd nm A.symm l ?_ ⟨k3,λh=>(aO sc rfl (k4 h))⟩ (.inr (.inr (gp _ _ _ rfl))) (YX 1));change FV.tup [.lst [.tup [.An (OL nm (.An []) sc),.int (e+1)]],.int (e+1),knd nm,.str nm]=_;rw[N,f];rfl
def mr(U:Sx st C8=some p)(N:p.2.1 ct tb [])(D:p.1 ct tb []=⟨true,304,tb,[C2 s],[],[],ct⟩){e:Int}(a:e=(n:Nat)):Mk ⟨ct,st,tb,n,[]⟩ (DX (C2 s) e (.int 0) []):=by
 subst a;show(bk [(C2 s,n)] [] [] ct tb 0 [] rfl (eO p U N D rfl (q1 (tq rfl)) rfl) rfl Pl.zero (.inl rfl) (YX 1))
def yy(j:BV nm)(P:y=[]\/∃r,y=62::r):Mk ⟨.live en nm false,535,tb,n,y⟩ (match y with
  | []=>DX (C2 Dm) (n:Nat) (.int 0) []
  |_::_=>C9 en (Bp nm) false (n:Nat)):=by
 rcases P with rfl|⟨r,rfl⟩
 ·show mr (p:=(DV,Me,true)) rfl ⟨ay en nm false rfl j,λc r e=>nomatch e⟩ rfl rfl
 ·show gx (p:=(DV,Me,true)) rfl ⟨ay en nm false rfl j,λc r e=>(ZI e).1.symm⟩ rfl rfl rfl
def jf{n:Int}{y:Nat}(h:y≠62):F3 g nm n (y::Q)=match Q with
  | []=>DX (C2 (if y=47 then Dg else Dm)) (n+1) (.int 0) []
  |_::_=>C9 g nm (decide (y=47)) (n+1):=by
 cases Q<;>show Zi h
def aao(j:BV nm)(P:F0 (!en) y=true):Mk ⟨.live en nm false,367,tb,n,y⟩ (F3 en (Bp nm) (n:Nat) y):=by
 cases y with
 |nil=>show mr (p:=(Cc,HW,true)) rfl ⟨ay en nm false rfl j,λc r e=>nomatch e⟩ rfl rfl
 |cons c y=>
  have u:∀Q,Q≠0->HW (.live en nm false) tb (Q::y):=λQ h=>⟨ay en nm false rfl j,λc r e=>by rw[←(ZI e).1];show h⟩
  rcases sA P with rfl|⟨rfl|⟨U,rfl⟩,N⟩
  ·show gx (x:=[62]) rfl (u _ (by ext)) rfl rfl rfl
  ·show Mk.pre (eP (Cc,HW,true) rfl (u _ (by ext)) rfl rfl rfl) rfl rfl ?_;have:=yy (tb:=tb) (n:=n+1) (en:=en) j N;rw[jf (by ext)];rcases N with rfl|⟨r,rfl⟩<;>show this
  ·have a:en=false:=by cases en;rfl;show nomatch U
   clear U P;subst a;show Mk.pre (eP (Cc,HW,true) rfl (u _ (by ext)) rfl rfl rfl) rfl rfl ?_;rw[jf (by ext)];rcases N with rfl|⟨r,rfl⟩
   ·show mr (p:=(EZ,Ma,true)) rfl ⟨aU nm false rfl j,λc r e=>nomatch e⟩ rfl rfl
   ·show gx (p:=(EZ,Ma,true)) (x:=[62]) rfl ⟨aU nm false rfl j,λc r e=>(ZI e).1.symm⟩ rfl rfl rfl
def nv:∀(l g:WJ) (n:Nat),(∀c∈l,c∈AW)->(∀c∈g,c∈AW)->g.length+l.length<=10000->Rn ⟨.live en g false,367,tb,n,l++y⟩ [] ⟨.live en (g++l) false,367,tb,n+l.length,y⟩
 | [],g,n,_,_,_=>by rw[Zu];show Rn.refl _
 |c::l,g,n,hl,hb,hlen=>by
  rw[Zj]at hlen;show iq (jm (hl c (.head _))) λU N D A f=>?_;have Z:Rn ⟨.live en g false,367,tb,n,c::(l++y)⟩ [] ⟨.live en (g++[c]) false,367,tb,n+1,l++y⟩:=by
   show eP (x:=[c]) (Cc,HW,true) rfl ⟨ay en g false rfl (dz hb (ZK hlen)),λa r e=>by rw[←(ZI e).1];show A⟩ ?_ rfl rfl;show(Zi U).trans ((Zi N).trans (Zi D))
  have Q:=nv l (g++[c]) (n+1) (λd hd=>hl d (.tail _ hd)) (λd hd=>by
   rcases Yi.mp hd with hd|hd
   ·show hb d hd
   ·rw[Za hd];show hl c (.head _)) (by rw[Zg,Zj,ZW];lia)
  rw[Zo]at Q;have:=Z.nil Q;rw[show n+1+l.length=n+(c::l).length by rw[Zj];show YJ n l.length]at this;show this
def oz(u:c∈AW)(Q:s.length<=9000)(P:F0 (!en) (dl s)=true):Mk ⟨.live en [c] false,367,tb,n+1,s⟩ (C5 en n (c::s)):=by
 have D:Ar (c::s)=c::Ar s:=by unfold Ar;rw[Z2,Zk (Zr u)]
 have U:=oE s;have l:=jl s;have O:∀d∈c::Ar s,d∈AW:=λd hd=>by
  rcases Zb hd with rfl|hd
  ·show u
  ·show gQ hd
 have g:(c::s).drop (Ar (c::s)).length=dl s:=by
  rw[D];have:(Ar s++dl s).drop (Ar s).length=dl s:=YU;rw[U]at this;show this
 have SU:C5 en n (c::s)=F3 en (Bp (c::Ar s)) ((n+1+(Ar s).length:Nat)) (dl s):=by
  unfold C5;rw[Zi (by rw[D];show λz=>nomatch z),g,D,Zj];rw[show n+((Ar s).length+1)=n+1+(Ar s).length by show YS (YJ n (Ar s).length)]
 rw[SU];have a:=nv (en:=en) (tb:=tb) (y:=dl s) (Ar s) [c] (n+1) (λd hd=>O d (.tail _ hd)) (λd hd=>O d (by rw[Za hd];show .head _)) (by change 1+_<=_;lia);rw[U]at a;show Mk.pre (y:=Ar s) a U.symm rfl (aao (dz O (show(Ar s).length+1<=10000 by lia)) P)
def tqV:Gk (Hb s c)/\Ek (Hb s c)=none:=⟨⟨a8 _ 7 rfl rfl λq=>T4 q (by ext)⟩,rfl⟩
def oF(s:WJ):Ar (49::s)=[]:=by unfold Ar;rw[Z2];rfl
def je{q1 q2:FV}(x:WJ)(U:a.r=x++r2)(O:m=a.n+x.length)(D:Rn a [(q1,n),(q2,m)] ⟨s,304,tb',m,r2⟩)(hi:DJ s):Mk a (EH q1 (n:Nat) q2 (m:Nat)):=by
 subst O;show(bk _ x r2 s tb' 0 [] U D rfl Pl.zero (.inr hi) (Zq 2))
def aap(hi:DJ ct)(D:y.length<=9000)(P:FC y=true):Mk ⟨ct,360,tb,n,y⟩ (C5 true n y):=by
 cases y with
 |nil=>
  show je (tb':=tb) [] rfl rfl ?_ hi;show eO (q:=[C2 Dl,BM [60,47]]) (BC,Kh,true) rfl ⟨hi,λc r e=>nomatch e⟩ rfl rfl (Mine.A.q2 (tq rfl) (tq rfl)) rfl
 |cons c s=>
  have P:(and (beq c 49) (F5 s)||and (decide (c∈AW)) (F0 false (dl s)))=true:=P;rw[Yq]at P;rcases P with h|h
  ·show zA (ar h) λU N=>?_;clear D P h;obtain rfl:=ZC U;have Z:Rn ⟨ct,360,tb,n,49::s⟩ [(Hb BX 49,n)] ⟨ct,598,tb,n,49::s⟩:=eO (x:=[]) (BC,Kh,true) rfl ⟨hi,λc r e=>by rw[←(ZI e).1];decide⟩ rfl rfl (Mine.A.q1 tqV) rfl;have SU:C5 true n (49::s)=EH (Hb BX 49) (n:Nat) (JG (AJ [62] (49::s))) ((n+min ((AJ [62] (49::s)).length+1) (49::s).length:Nat):Int):=by
    unfold C5;rw[Zk (oF s)]
   rw[SU];cases s with
   |nil=>
    show je [49] rfl rfl (Z.tr (show Rn ⟨ct,598,tb,n,[49]⟩ [(JG [49],n+1)] ⟨ct,304,tb,n+1,[]⟩ from eO (q:=[JG [49]]) (x:=[49]) (E0,Md,false) rfl ⟨hi,by ext⟩ rfl rfl (Mine.A.q1 (tq rfl)) rfl)) hi
   |cons d s=>
    obtain rfl:d=62:=ZC N;have a:min ((AJ [62] (49::62::s)).length+1) (49::62::s).length=2:=by
     change min (1+1) (s.length+1+1)=2;show YS (ZC U)
    rw[a];show je [49,62] rfl rfl (Z.tr (show Rn ⟨ct,598,tb,n,49::62::s⟩ [(JG [49],n+2)] ⟨ct,304,tb,n+2,s⟩ from eO (q:=[JG [49]]) (x:=[49,62]) (E0,Md,false) rfl ⟨hi,by change 0∉[49];decide⟩ rfl rfl (Mine.A.q1 (tq rfl)) rfl)) hi
  ·show zA (ar h) λU N=>?_;have u:=Zm U;rw[Zj]at D;show Mk.pre (y:=[c]) (eP (x:=[c]) (BC,Kh,true) rfl ⟨hi,λQ r e=>by rw[←(ZI e).1];show(jm u).2.1⟩ (Zk u) rfl rfl) rfl rfl (oz u (by show Yj D) N)
def aaq(hi:DJ ct)(a:y.length<=9000)(P:IT y=true):O4 ⟨ct,304,tb,n,60::y⟩ (GH n y):=by
 show Mk.acJ (eP (C7,S5,true) rfl trivial rfl rfl rfl) rfl rfl (by ext) ?_;have no:∀y,y.take 1≠[47]->Ar y=[]->(∀c r',y=c::r'->c=49)->Mk ⟨ct,353,tb,n+1,y⟩ (GH n y):=λy U N D=>by
  have SU:GH n y=EH (C2 CM) (n+1:Nat) (BM [60]) (n+1:Nat):=by
   unfold GH;rw[Zi U];unfold C5;rw[Zk N]
  rw[SU];show je (tb':=tb) [] rfl rfl ?_ hi;show eO (q:=[C2 CM,BM [60]]) (x:=[]) (Cb,Kg,true) rfl ⟨hi,λc r e=>by rw[D c r e];decide⟩ ?_ rfl (Mine.A.q2 (tq rfl) (tq rfl)) rfl;cases y with
  |nil=>rfl
  |cons c r=>rw[D c r rfl];rfl
 cases y with
 |nil=>show no [] (by ext) rfl λc r e=>nomatch e
 |cons c s=>
  have P:(beq c 49||(and (beq c 47) (FC s)||and (decide (c∈AW)) (F0 true (dl s))))=true:=P;rw[Yq,Yq]at P;rw[Zj]at a;rcases P with h|h|h
  ·obtain rfl:=ZC h;show no _ (λz=>by have:=(ZI z).1;lia) (oF s) λc r e=>(ZI e).1.symm
  ·show zA (ar h) λU N=>?_;clear P h;obtain rfl:=ZC U;rw[show GH n (47::s)=C5 true (n+2) s from Zk rfl];show Mk.pre (b:=⟨ct,360,tb,n+2,s⟩) (y:=[47]) (eP (x:=[47]) (Cb,Kg,true) rfl ⟨hi,λc r e=>by rw[←(ZI e).1];decide⟩ rfl rfl rfl) rfl rfl (aap hi (by lia) N)
  ·show zA (ar h) λU N=>?_;have u:=Zm U;obtain⟨g1,g2,g3,SR,SQ,SN⟩:=jm u;rw[show GH n (c::s)=C5 false (n+1) (c::s) from Zi λz=>g3 (ZI z).1];show Mk.pre (y:=[c]) (eP (x:=[c]) (Cb,Kg,true) rfl ⟨hi,λQ r e=>by rw[←(ZI e).1];show⟨SQ,g2,SN⟩⟩ ((Zi g3).trans (Zk u)) rfl rfl) rfl rfl (oz u (by lia) N)
end
def aax(h:97<=DF c/\DF c<=122):c∈AW:=by
 show(show∀c,c<123->(97<=DF c/\DF c<=122)->c∈AW by ext) c ?_ h;unfold DF at h;split at h<;>lia
def gR(hd:d∉AW):∀ {l:WJ},(∀c∈l,c∈AW)->Ar (l++d::y)=l/\dl (l++d::y)=d::y
 | [],_=>by
  change List.takeWhile _ (d::y)=[]/\List.dropWhile _ (d::y)=d::y;rw[Z2,Y6,Zs hd];show⟨rfl,rfl⟩
 |c::l,h=>by
  show zA (gR hd (λc u=>h c (.tail _ u)) (y:=y)) λU N=>?_;change List.takeWhile _ (c::(l++d::y))=c::l/\List.dropWhile _ (c::(l++d::y))=d::y;rw[Z2,Y6,Zr (h c (.head _)),Zk rfl];show⟨T3 (c:: ·) U,N⟩
def z8:CJ B N (.AM e n O) (some b) (c::r)=if c∈Dj/\Bp n=Bp b then⟨true,535,some b,[],[c],r,.live true b false⟩else
  if c=62/\Bp n=Bp b then⟨true,304,some b,[.An (EO true (DE b) false)],[c],r,.AM true (DE b) false⟩else
  if c∈AW then⟨true,N,some (b++[c]),[],[c],r,.AM e n O⟩else⟨true,B,some b,[BM ([60,47]++b)],[],c::r,.AM e n O⟩:=rfl
def sN{nm:WJ}{B K T N n:Nat}(h:Raw nm O B K T N)(I:y.length<=9000)(P:IT y=true)
  (k:(decide ((60::y).take 2=[60,47])&&(decide (Bp (((60::y).drop 2).take nm.length)=nm)&&decide (((60::y).drop (2+nm.length)).take 1=[32]\/((60::y).drop (2+nm.length)).take 1=[62])))=true):
  O4 ⟨.AM false nm O,B,tb,n,60::y⟩ (GH n y):=by
 rw[Zp,Zp]at k;obtain⟨U,i,D⟩:=k;obtain⟨s,rfl⟩:∃s,y=47::s:=by
  have U:=(ZI (Zm U)).2;cases y with
  |nil=>show nomatch U
  |cons a s=>show(yE s (by rw[(ZI U).1]))
 have i:Bp (s.take nm.length)=nm:=Zm i;have D:=Zm D;rw[←YI]at D;have D:(s.drop nm.length).take 1=[32]\/(s.drop nm.length).take 1=[62]:=D;rw[Zj]at I;have Q:=Yc nm.length s;obtain⟨Z,W⟩:∃Z,s.take nm.length=Z:=(yE _ rfl)
 obtain⟨t,V⟩:∃t,s.drop nm.length=t:=(yE _ rfl)
 rw[W]at i Q;rw[V]at D Q;obtain⟨d,f,rfl,hd⟩:∃d f,t=d::f/\(d=32\/d=62):=by
  cases t with
  |nil=>show D.elim (λz=>nomatch z) λz=>nomatch z
  |cons d f=>show(aU d f rfl (D.imp (λz=>(ZI z).1) λz=>(ZI z).1))
 have A:∀c∈Z,c∈AW:=λc u=>aax (h.low.lt _ (by rw[←i];show Xr u));cases Z with
 |nil=>show T4 i.symm h.low.ne
 |cons c l=>
  have j:d∉AW:=by rcases hd with rfl|rfl<;>decide
  obtain⟨w,R⟩:=gR j A;rw[Q]at w R;have G:F0 false (d::f)=true:=by
   have P:(beq 47 49||(and (beq 47 47) (FC s)||and (decide (47∈AW)) (F0 true (dl s))))=true:=P;rw[show decide (47∈AW)=false from rfl]at P;have P:FC s=true:=by
    have P:(FC s||false)=true:=P;rw[Wp]at P;show P
   rw[←Q]at P;have u:=A c (.head _);have F:c≠49:=λe=>by rw[e]at u;show T4 u (by ext)
   have P:(and (beq c 49) (F5 (l++d::f))||and (decide (c∈AW)) (F0 false (dl (l++d::f))))=true:=P;rw[bX F,Zr u,(gR j λe S=>A e (.tail _ S)).2]at P;show P
  have H:l.length<=9000:=by
   have:=T3 List.length Q;rw[Zg,Zj]at this;show Zh (Zh (Zh (YX _) (ZR _ _)) (Zz this)) (Yo I)
  have v:BV (c::l):=dz A (show l.length+1<=10000 by lia);have SU:GH n (47::s)=F3 true (Bp (c::l)) ((n+3+l.length:Nat):Int) (d::f):=by
   rw[show GH n (47::s)=C5 true (n+2) s from Zk rfl];unfold C5;rw[Zi (by rw[w];show λz=>nomatch z),show s.drop (Ar s).length=d::f by rw[w, ←Q,YU],w,Zj];rw[show n+2+(l.length+1)=n+3+l.length by show YS (YJ (n+2) l.length)]
  rw[SU];have o:=h.to (tb:=tb) (n:=n) (y:=d::f) A H;have L:60::47::c::(l++d::f)=60::47::s:=by rw[←Q];rfl
  rw[L]at o;show Mk.acJ (y:=60::47::c::l) o L.symm (show n+3+l.length=n+(l.length+1+1+1) by lia) (λz=>nomatch z) ?_;have g:Bp nm=Bp (c::l):=by rw[i,h.low.low]
  have q:∀C,C≠47->EY (.AM false nm O) (some (c::l)) (C::f):=λC E=>(aM nm O (c::l) rfl rfl h.low.small v λX M e Y=>by rw[←(ZI e).1];show E)
  rcases hd with rfl|rfl
  ·show Mk.pre (b:=⟨.live true (c::l) false,535,some (c::l),n+3+l.length+1,f⟩) (y:=[32]) (eP (x:=[32]) (CJ B N,EY,true) h.n (q _ (by ext)) (Zk ⟨by ext,g⟩) rfl rfl) rfl rfl ?_;have m:f=[]\/∃r,f=62::r:=(sA G).elim (λz=>by lia) λz=>z.2;have:=yy (tb:=some (c::l)) (n:=n+3+l.length+1) (en:=true) v m;rw[jf (by ext)];rcases m with rfl|⟨r,rfl⟩<;>show this
  ·show gx (en:=true) (sc:=false) (nm:=Bp (c::l)) (tb':=some (c::l)) (r':=f) (e:=((n+3+l.length:Nat):Int)) (p:=(CJ B N,EY,true)) (x:=[62]) h.n (q _ (by ext)) ?_ rfl rfl;show z8.trans ((Zi λz=>T4 z.1 (by ext)).trans (Zk ⟨rfl,g⟩))
def OO(c:Nat):Bool:=and (or (Nat.blt c 128) (beq c 233)) (and (!beq c 9) (and (!beq c 12) (and (!beq c 13) (!beq c 35))))
def Hl:WJ->Bool
 | []=>true
 |c::r=>and (OO c) (and (or (!beq c 60) (IT r)) (Hl r))
def oo(h:Hl (a++b)=true):Hl b=true:=by
 induction a with
 |nil=>show h
 |cons c a Q=>show Q (ar (ar h).2).2
def sv(h:Hl (a++60::b)=true):IT b=true:=by
 show(ar (ar (oo h)).2).1
def yw(h:Hl r=true):∀c∈r,OO c=true:=by
 induction r with
 |nil=>show λZ h=>nomatch h
 |cons a r Q=>
  show zA (ar h) λU N=>?_;intro c u;rcases Zb u with rfl|u
  ·show U
  ·show Q (ar N).2 c u
def acO(h:OO c=true):Oc c:=by
 show zA (ar h) λZ h=>zA (ar h) λU h=>zA (ar h) λN h=>zA (ar h) λD A=>?_;have n:∀ {x:Nat},(!beq c x)=true->c≠x:=λh e=>by replace h:=e▸h;replace h:=(bW _)▸h;show nomatch h
 show⟨n U,n N,n D,n A⟩
def ru(v:Nat)(nm:WJ):∀r:WJ,(∀i,i<DP v nm r->B6 v nm (r.drop i)=false)/\(DP v nm r<r.length->B6 v nm (r.drop (DP v nm r))=true)
 | []=>⟨λi h=>T4 h (X4 i),λh=>T4 h (YA 0)⟩
 |c::r=>by
  by_cases h:B6 v nm (c::r)=true
  ·rw[show DP v nm (c::r)=0 from Zk h];show⟨λi h=>T4 h (X4 i),λZ=>h⟩
  ·show zA (ru v nm r) λU N=>?_;rw[show DP v nm (c::r)=DP v nm r+1 from Zi h];show⟨λi hi=>?_,λD=>N (Wh D)⟩;cases i with
   |zero=>simpa using h
   |succ i=>show U i (Wh hi)
def rx{nm r:WJ}(h:B6 v nm r=true):v<3/\∃u,r=60::u:=by
 unfold B6 at h;have hd:∀ {k:Nat} {l:WJ},r.take (k+1)=60::l->∃u,r=60::u:=λ{k l} e=>by
  cases r with
  |nil=>show nomatch e
  |cons a r=>show⟨r,by rw[(ZI e).1]⟩
 split at h
 ·rename_i q;show⟨by lia,hd (Zm h)⟩
 ·split at h
  ·rename_i q;rw[Zp]at h;show⟨q,hd (Zm h.1)⟩
  ·show nomatch h
inductive Jp:Nat->WJ->Nat->WJ->Tz->Prop
 |nil {n kd nm}:Jp n [] kd nm []
 |last {n r kd nm}:r≠[]->DP kd nm r=r.length->Jp n r kd nm (Hs kd r.length n r)
 |more {n a r' kd nm T x r2 kd' nm' row}:DP kd nm (a++60::r')=a.length->GH (n+a.length) r'=.tup [.lst T,.int ((n+a.length+x.length:Nat):Int),.int (kd':Nat),.str nm']->60::r'=x++r2->x≠[]->T.length<=2->kd'<4->Jp (n+a.length+x.length) r2 kd' nm' row->
   Jp n (a++60::r') kd nm (Hs kd a.length n a++(T++row))
def fK:∀(f n:Nat) (r:WJ),(Hs kd f n r).length<=2*r.length
 |0,_,_=>ZF _
 |f+1,_,[]=>ZF _
 |f+1,n,c::b=>by
  have Q:=fK (kd:=kd) f (n+Cu kd c b) ((c::b).drop (Cu kd c b));have N:=pj kd n c b;show zA (uJ kd c b) λn1 n2=>?_;replace Q:=ZM▸Q;replace Q:=Zj▸Q;rw[Zg,Zj];show Zh (Z9 N (Zh Q (Yg 2 (Nat.sub_le_sub_left n1 _)))) (Zz (Xp 2 _))
def Jp.len{j:WJ}(h:Jp n r v j y):y.length<=2*r.length:=by
 induction h with
 |nil=>show Zq _
 |last _ _=>show fK _ _ _
 | @more n a u v j T x r2 g d y U N e A Q O l b=>
  have c:=fK (kd:=v) a.length n a;have P:=Nat.pos_of_ne_zero λz=>A (YF z);have D:=T3 List.length e;rw[Zj,Zg]at D;rw[Zg,Zg,Zg,Zj];show Zh (Z9 c (Zh (Z9 (Zh Q (Yg 2 P)) b) (Zz ((Nat.mul_add 2 _ _).symm.trans (T3 (2* ·) D.symm))))) (Zz (Nat.mul_add 2 _ _).symm)
def ma:∀(f n:Nat) (r:WJ) (v:Nat) (b:WJ) (l:Ct) (m:TK),r.length<=f->r.length<=9000->Pl v b l->(r=[]\/DJ l)->Hl r=true->
  ∃C T,Jp n r v b C/\Eg l (Sg v) m n r T/\T.map Sl=C
 |f,n,[],v,b,l,m,_,_,hP,_,_=>by
  show(a8 [] [] .nil ?_ rfl);show k4 (P:=λv=>Eg l (Sg v) m n [] []) (.stop (C7,S5,true) _ rfl trivial rfl rfl rfl rfl) (.stop (BZ,S5,true) _ rfl trivial rfl rfl rfl rfl) (.stop (FP,S5,true) _ rfl trivial rfl rfl rfl rfl) (.stop (DU,S5,true) _ rfl trivial rfl rfl rfl rfl) hP.k
 |0,n,c::r,v,b,l,m,h,_,_,_,_=>T4 h (XJ _)
 |f+1,n,c::r0,v,b,l,m,hf,hl,hP,hi,hT=>by
  have R:DJ l:=hi.resolve_left λz=>nomatch z;obtain⟨r,w⟩:∃r,c::r0=r:=(yE _ rfl)
  have D:r≠[]:=λz=>by replace w:=z▸w;show nomatch w
  rw[w]at hf hl hT⊢;clear w hi;show zA (ru v b r) λZ d=>?_;have i:=rt v b r;have j:=Yc (DP v b r) r;obtain⟨a,F⟩:∃a,r.take (DP v b r)=a:=(yE _ rfl)
  obtain⟨z,O⟩:∃z,r.drop (DP v b r)=z:=(yE _ rfl)
  have k:a.length=DP v b r:=by rw[←F,ZG];show ZO i
  replace j:=F▸j;replace j:=O▸j;replace d:=O▸d;have hz:z=[]\/(v<3/\B6 v b z=true/\∃o,z=60::o):=by
   rcases YT (DP v b r) r.length with h|h
   ·show zA (rx (d h)) λU G=>.inr ⟨U,d h,G⟩
   ·show .inl (by rw[←O];show YD h)
  have hM:∀N y,a=N++60::y->v≠3->v≠0/\B6 v b (60::(y++z))=false/\IT (y++z)=true:=λN y e uu=>by
   have er:r=N++60::(y++z):=by rw[←j,e,Zo];rfl
   have Y:N.length<DP v b r:=by rw[←k,e,Zg,Zj];lia
   have U:=Z _ Y;replace U:=(show r.drop N.length=60::(y++z) by rw[er,YU])▸U;show⟨λe0=>?_,U,sv (a:=N) (by rw[←er];show hT)⟩;replace U:=e0▸U;show nomatch (U)
  have ho:=λx H=>acO (yw hT x (by rw[←j];show H));show aX (pq hP (hz.imp id λq=>⟨q.1,q.2.2⟩) a.length n a m (Zq _) (Zh (Zz k) (Zh i hl)) ho hM) λt T1 B e1=>?_;replace B:=j▸B;rcases hz with rfl|⟨V,p,o,rfl⟩
  ·replace j:=(Zu _)▸j;clear hT hl hf Z i F O d;subst j;show bA (ma f (n+a.length) [] v b l t (ZF _) (ZF _) hP (.inl rfl) rfl) λE A g1 g2 g3=>?_;have e2:A=[]:=by
    have:=g1.len;replace this:=(YS g3)▸this;replace this:=(ZD _)▸this;show YF (Wq.mp this)
   subst e2;show(a8 _ (T1++[]) (.last D k.symm) (B _ g2) ?_);rw[Zu,e1]
  ·clear F O;subst j;have s:=sv hT;rw[Zg,Zj]at hl hf;have I:O4 ⟨l,Sg v,t,n+a.length,60::o⟩ (GH (n+a.length) o):=by
    have hz9:o.length+1<=9000:=Zh (Z0 _ _) hl;clear hT hl hf B Z d hM ho e1 i D;induction v,V using k3e with
    |h0=>show aaq R (by lia) s
    |h1=>
     show aA (hP.t (.inl rfl)) λsc Q g=>?_;subst Q;show sN (yu g) (by lia) s p
    |h2=>
     show aA (hP.t (.inr rfl)) λsc Q g=>?_;subst Q;show sN (yt g) (by lia) s p
   obtain⟨T,x,r2,L,X,W,S,U,G,h3,h4,h5,h6,h7⟩:=I;have H:=Nat.pos_of_ne_zero λz=>h7 (YF z);have u:=T3 List.length U;replace u:=Zj▸u;replace u:=Zg▸u;have M:Hl r2=true:=by
    have e:a++60::o=(a++x)++r2:=by rw[Zo];show T3 (a++ ·) U
    replace hT:=e▸hT;show oo hT
   show bA (ma f (n+a.length+x.length) r2 W S L X (Xc (Zh (Zh (Zh (Zz (Xp _ 1)) (ZV H _)) (Zz u.symm)) (Zh (Z0 _ _) hf))) (Zh (Z0 _ _) (Zh (Zz u.symm) (Zh (Z0 _ _) hl))) h4 h5 M) λE A g1 g2 g3=>(a8 _ (T1++(T++A)) (.more k.symm h3 U h7 (by rw[ZD];show h6) h4.k g1) (B _ (G _ g2)) ?_)
   rw[Z7,Z7,e1,g3]
def Su:Bool->WJ->WJ
 |_,[]=>[]
 |b,c::r=>if c=13 then 10::Su true r else if c=10/\b=true then Su false r else c::Su false r
def wa(U:c≠13)(N:c≠10)(r:WJ):Su b (c::r)=c::Su false r:=by
 change(if c=13 then _ else if c=10/\b=true then _ else _)=_;rw[Zi U,Zi λq=>N q.1]
def yz(b:Bool)(r:WJ):Su b (13::r)=10::Su true r:=rfl
def afj(r:WJ):Su true (10::r)=Su false r:=rfl
def acY(h:c≠10)(r:WJ):Su b (c::r)=Su false (c::r):=by
 by_cases U:c=13
 ·subst U;rfl
 ·rw[wa U h,wa U h]
def rV(y z:WJ)(c:Nat)(r:WJ):AQ y z 0 (c::r)=if y.isPrefixOf (c::r)then z++AQ y z (y.length-1) r else c::AQ y z 0 r:=rfl
def yp(c:Nat)(r:WJ):AQ [13] [10] 0 (c::r)=if c=13 then 10::AQ [13] [10] 0 r else c::AQ [13] [10] 0 r:=by
 rw[rV];by_cases h:c=13
 ·subst h;rfl
 ·have:[13].isPrefixOf (c::r)=false:=by
   change((13==c)&&_)=false;rw[beq_eq_false_iff_ne.mpr λe=>h e.symm];rfl
  rw[this,Zi h];rfl
def iH(h:c≠13)(r:WJ):AV (c::r)=c::AV r:=by
 have:[13,10].isPrefixOf (c::r)=false:=by
  change((13==c)&&_)=false;rw[beq_eq_false_iff_ne.mpr λe=>h e.symm];rfl
 unfold AV;rw[rV,this,yp,Zi h]
def p9(r:WJ):AV (13::10::r)=10::AV r:=by
 unfold AV;rw[show AQ [13,10] [10] 0 (13::10::r)=10::AQ [13,10] [10] 0 r from rfl];rfl
def v9(h:c≠10)(r:WJ):AV (13::c::r)=10::AV (c::r):=by
 have:[13,10].isPrefixOf (13::c::r)=false:=by
  change((13==13)&&((10==c)&&_))=false;rw[beq_eq_false_iff_ne.mpr λe=>h e.symm];rfl
 unfold AV;rw[rV,this,yp,Zk rfl]
def gy:∀l,AV l=Su false l
 | []=>rfl
 | [c]=>by
  by_cases h:c=13
  ·subst h;rfl
  ·rw[iH h];by_cases N:c=10
   ·subst N;rfl
   ·rw[wa h N];rfl
 |c::d::r=>by
  by_cases h:c=13
  ·subst h;by_cases N:d=10
   ·subst N;rw[p9,yz,afj,gy r]
   ·rw[v9 N,yz,acY N,gy (d::r)]
  ·rw[iH h,gy (d::r)];by_cases N:c=10
   ·subst N;rfl
   ·rw[wa h N]
def gC:∀(l:WJ) (b:Bool) (k:Nat),Su b (l.take k)<+:Su b l
 | [],_,k=>by rw[Wn];show XT _
 |_::_,_,0=>List.nil_prefix
 |c::l,b,k+1=>by
  by_cases h:c=13
  ·subst h;rw[propext Y1];show⟨rfl,gC l true k⟩
  ·by_cases N:c=10/\b=true
   ·obtain⟨rfl,rfl⟩:=N;show gC l false k
   ·have e:∀r,Su b (c::r)=c::Su false r:=λr=>(Zi h).trans (Zi N);rw[e,e,propext Y1];show⟨rfl,gC l false k⟩
def aaa(h:b=true->c=true)(k:or a b=true):or a c=true:=by
 cases a with
 |true=>rfl
 |false=>show h k
def lA(h:b=true->c=true)(k:and a b=true):and a c=true:=by
 cases a with
 |true=>show h k
 |false=>show k
def tI(h:F5 (a++z)=true):F5 a=true:=by cases a with
 |nil=>rfl
 |cons _ _=>show h
def vV(h:F0 P (a++z)=true):F0 P a=true:=by cases a with
 |nil=>rfl
 |cons c a=>show aaa (lA tI) h
def mj:∀ {s:WJ},F0 P (dl (s++z))=true->F0 P (dl s)=true
 | [],_=>rfl
 |c::s,h=>by
  have e:∀r,dl (c::r)=if decide (c∈AW)=true then dl r else c::r:=λr=>Y6;rw[Y2,e]at h;rw[e];split
  ·rename_i q;rw[Zk q]at h;show mj h
  ·rename_i q;rw[Zi q]at h;show vV h
def sy(h:FC (a++z)=true):FC a=true:=by cases a with
 |nil=>rfl
 |cons c s=>
  have h:=h;change or (and (beq c 49) (F5 s)) (and (decide (c∈AW)) (F0 false (dl s)))=true;rcases Yq _ _▸h with h|h
  ·rw[lA tI h];rfl
  ·rw[lA mj h];show Bool.or_true _
def vU(h:IT (a++z)=true):IT a=true:=by cases a with
 |nil=>rfl
 |cons c s=>
  have h:=h;show aaa (λh=>?_) h;rcases Yq _ _▸h with h|h
  ·rw[lA sy h];rfl
  ·rw[lA mj h];show Bool.or_true _
def om:∀ {a:WJ},Hl (a++z)=true->Hl a=true
 | [],_=>rfl
 |c::a,h=>by
  show zA (ar h) λU N=>zA (ar N) λN D=>?_;change and (OO c) (and (or (!beq c 60) (IT a)) (Hl a))=true;rw[U,aaa vU N,om D];rfl
def Ii(n:Nat):WJ:=Ih.getD (n % 32) []
def se(n:Nat):n % 32<Ih.length:=Nat.mod_lt _ (by ext)
def nW(n:Nat):Ii n∈Ih:=by
 unfold Ii;rw[Yy,Zy (se n)];show Xh (se n)
def z9:∀p∈Ih,∀(b:Bool) (r:WJ),Hl (Su b (p++r))=Hl (Su (decide (p=[13])) r):=by
 show Zc ⟨λb r=>by cases b<;>rfl,?_⟩;show Zc ⟨λb r=>by cases b<;>rfl,?_⟩;show Zc ⟨λb r=>by cases b<;>rfl,?_⟩;show Zc ⟨λb r=>by cases b<;>rfl,?_⟩;show Zc ⟨λb r=>by cases b<;>rfl,?_⟩;show Zc ⟨λb r=>by cases b<;>rfl,?_⟩;show Zc ⟨λb r=>by cases b<;>rfl,?_⟩;show Zc ⟨λb r=>by cases b<;>rfl,?_⟩;show Zc ⟨λb r=>by cases b<;>rfl,?_⟩;show Zc ⟨λb r=>by cases b<;>rfl,?_⟩;show Zc ⟨λb r=>by cases b<;>rfl,?_⟩;show Zc ⟨λb r=>by cases b<;>rfl,?_⟩;show Zc ⟨λb r=>by cases b<;>rfl,?_⟩;show Zc ⟨λb r=>by cases b<;>rfl,?_⟩;show Zc ⟨λb r=>by cases b<;>rfl,?_⟩;show Zc ⟨λb r=>by cases b<;>rfl,?_⟩;show Zc ⟨λb r=>by cases b<;>rfl,?_⟩;show Zc ⟨λb r=>by cases b<;>rfl,?_⟩;show Zc ⟨λb r=>by cases b<;>rfl,?_⟩;show Zc ⟨λb r=>by cases b<;>rfl,?_⟩;show Zc ⟨λb r=>by cases b<;>rfl,?_⟩;show Zc ⟨λb r=>by cases b<;>rfl,?_⟩;show Zc ⟨λb r=>by cases b<;>rfl,?_⟩;show Zc ⟨λb r=>by cases b<;>rfl,?_⟩;show Zc ⟨λb r=>by cases b<;>rfl,?_⟩;show Zc ⟨λb r=>by cases b<;>rfl,?_⟩;show Zc ⟨λb r=>by cases b<;>rfl,?_⟩;show Zc ⟨λb r=>by cases b<;>rfl,?_⟩;show Zc ⟨λb r=>by cases b<;>rfl,?_⟩;show Zc ⟨λb r=>by cases b<;>rfl,?_⟩;show Zc ⟨λb r=>by cases b<;>rfl,?_⟩;show Zc ⟨λb r=>by cases b<;>rfl,?_⟩;show λp j=>nomatch j
def r9:∀p∈Ih,p.length<=11/\p≠[]/\∀c∈p,(Kt (c:Int)=decide (c=1))/\(EK c=true->c=13):=by decide+kernel
structure Txt (W:WJ):Prop where
 len:W.length<=200
 ok:Hl (AV W)=true
 ch:∀c∈W,(Kt (c:Int)=decide (c=1))/\(EK c=true->c=13)
def zf(D:TL)(k:Nat)(h:∀p∈D,p∈Ih)(e:D.length<=16):Txt (D.flatten.take k):=by
 have U:∀(D:TL),(∀p∈D,p∈Ih)->D.flatten.length<=11*D.length/\(∀b,Hl (Su b D.flatten)=true)/\∀c∈D.flatten,(Kt c=decide (c=1))/\(EK c=true->c=13):=by
  intro D;induction D with
  |nil=>intro _;show⟨Zq _,λb=>by cases b<;>rfl,λc u=>nomatch u⟩
  |cons p D Q=>
   intro h;show cu (Q λq SG=>h q (.tail _ SG)) λN a g=>?_;have b:=r9 p (h p (.head _));rw[XG];show⟨?_,λs=>?_,λc u=>?_⟩
   ·rw[Zg,Zj];lia
   ·rw[z9 p (h p (.head _))];show a _
   ·rcases Yi.mp u with k|k
    ·show b.2.2 c k
    ·show g c k
 show cu (U D h) λN a g=>⟨by rw[ZG];show Zh (Yt _ _) (Zh N (Zh (Yg 11 e) (by ext))),?_,λc u=>g c (List.mem_of_mem_take u)⟩
 rw[gy];show zE (gC D.flatten false k) λz P=>?_;have:=a false;rw[←P]at this;show om this
def LP(W:WJ):Nat:=(W.filter λc=>decide (c=1)).length
theorem Txt.AH(h:Txt W):(Ao W).length=LP W:=by
 rw[ZD];show T3 List.length (List.filter_congr λc u=>(h.ch c u).1)
def zN(h:Txt W):∃y T,Jp 0 (AV W) 0 [] y/\Eg .no 304 none 0 (AV W) T/\T.map Sl=y:=by
 have D:=d8 W;have:=h.len;show ma (AV W).length 0 (AV W) 0 [] .no none (Zq _) (by lia) Pl.zero (.inr (.inl rfl)) h.ok
def IV(O:List Int):WJ:=if O.take 16=[]then [0,9,7,1]else(O.take 16).map λn=>(Int.fmod n 128).toNat
def vW(O:List Int):IV O≠[]/\(IV O).length<=16/\∀n∈IV O,n<128:=by
 unfold IV;split
 ·show⟨by ext,by ext,by ext⟩
 ·rename_i q;show⟨λe=>q (List.map_eq_nil_iff.mp e),by rw[ZD,ZG];show X5 16 O.length,λn j=>?_⟩;show aA (Y3.mp j) λx Z P=>?_;clear j;subst P;show(Int.toNat_lt (Int.fmod_nonneg_of_pos x (b:=128) (by ext))).mpr (Int.fmod_lt_of_pos x (b:=128) (by ext))
def FG(O:WJ):WJ:=(O.map Ii).flatten
noncomputable def keep(O:WJ):Nat:=max 1 ((FG O).length-(O.getLastD 0) / 32)
def Kx(O:WJ):WJ:=(FG O).take (keep O)
def ab9(h:O.length<=16):Txt (Kx O):=zf _ _ (λp j=>by show aA (Y3.mp j) λn Z P=>?_;subst P;show nW n) (by rw[ZD];show h)
end
end Mine.A
namespace Mine.B
section
open Mine.A
open Mine.Head
def iN(P:Wx):CF P 795 [215] Fb:=show _=_ by left
def mK(P:Wx):CF P 802 [235,115] Ex:=show _=_ by left
def mJ(P:Wx):CF P 774 [] Ez:=show _=_ by left
def mI(P:Wx):CF P 781 [] Ey:=show _=_ by left
def kS(P:Wx):CF P 788 [] DM:=show _=_ by left
def t5(P:Wx):CF P 809 [311,237] CW:=show _=_ by left
def jD(P:Wx):CF P 816 [311,237] Dr:=show _=_ by left
def kR(P:Wx):CF P 828 [311,237] NC:=show _=_ by left
def qv(P:Wx):CF P 835 [311,237,191,215] Fc:=show _=_ by left
def cC(P:Wx):CF P 821 [311,237,191] Ds:=show _=_ by left
section
variable {w:Wy}{mg mb:Wu->TM}
def vd(T:TopRead pw Sy mg mb (H1 w.params)):∀p∈MN,AB false (Ai w) p.1 2 p.2:=by
 show fm (aV T (e7 T) (mJ _) rfl xj) ?_;show fm (aV T (e7 T) (mI _) rfl w9) ?_;show fm (aV T (e7 T) (kS _) rfl um) ?_;show fm (aV T (e7 T) (iN _) rfl ud) ?_;show fm (aV T (e7 T) (mK _) rfl xk) ?_;show fm (aV T (e7 T) (t5 _) rfl adP) ?_;show fm (aV T (e7 T) (jD _) rfl qE) ?_;show λp j=>nomatch j
def zI(T:TopRead pw Sy mg mb (H1 w.params)):CV (Ai w) SM (K w.params) SY Sy mg mb 2:=cv T (vd T)
def MM:List (Nat×A.Aq):=(821,FN)::(828,Gq)::(835,IA)::(795,GR)::(126,DA)::(261,DB)::[]
def vc(T:TopRead pw Sy mg mb (H1 w.params)):∀p∈MM,AB false (Ai w) p.1 29 p.2:=by
 show fm ((abj T (zI T) (aaO w (ad3 w.params)) (T3 (λp=>p.1.1) (cC w.params)) (T3 (λp=>p.1.2.1) (cC w.params)) (λZ Z Z Z N=>acR (T3 (λp=>p.1.2.2.1) (cC w.params)) N) ((cC w.params).DL (by ext)) qG).mono (by ext)) ?_;show fm ((aV T (zI T) (kR _) rfl ui).mono (by ext)) ?_;show fm ((aV T (zI T) (qv _) rfl aa1).mono (by ext)) ?_;show fm ((aV T (e7 T) (iN _) rfl ud).mono (by ext)) ?_;show fm ((aV T (vt T) (gX _) rfl hJ).mono (by ext)) ?_;show fm ((iS T (vq T) rfl (T3 Prod.fst (dR _)) (gj w) hY).mono (by ext)) ?_;show λp j=>nomatch j
def aaP(P:Wx):fnIn (K P) 821=true:=by left
def SK:G:= {Ax MM with fn:=λf=>or (beq f 821) (g0.fn f),loop:=λl v s k=>Bool.rec False (I1 v s k) (beq l 1398)}
def acv(T:TopRead pw Sy mg mb (H1 w.params)):CV (Ai w) SK (K w.params) SY Sy mg mb 29:=by
 have S:=cv T (vc T);show⟨S.Y,⟨S.YG.own,S.YG.cls,S.YG.Gy,S.YG.FA,S.YG.Gp,S.YG.con,S.YG.Jy,λf h=>?_,S.YG.mn⟩,S.MB,S.C,λl Q v J k h=>?_⟩
 ·rcases Yq _ _▸h with h|h
  ·rw[ZC h];show aaP _
  ·show S.YG.fn f h
 have h:(Bool.rec False (I1 v J k) (beq l 1398):Prop):=h;cases q:beq l 1398 with
 |false=>rw[q]at h;show h
 |true=>
  have Q:(beq l 1398||beq l 255)=false:=Q;rw[q,Bool.true_or]at Q;show nomatch Q
def Sj:Nat->List WG->Bool
 |0,_=>false
 |_+1,[]=>true
 |n+1,s::r=>and (match s with
  | .Expr _ _=>true
  | .Assign ts e _=> !(ts.all Fo&&Dv e)
  | .If _ a b _=>and (Sj n a) (Sj n b)
  |_=>false) (Sj n r)
def nS:∀ {n:Nat} {l:List WG},Sj n l=true->∀m,Fe p m l=[]
 |0,_,h=>nomatch h
 |_+1,[],_=>λm=>by cases m<;>rfl
 |n+1,s::r,h=>λm=>by
  show zA (ar h) λU N=>?_;cases m with
  |zero=>rfl
  |succ m=>
   change KI p m s++Fe p m r=[]
   rw[nS N,Zu];cases m with
   |zero=>rfl
   |succ m=>
    cases s with
    |Expr _ _=>rfl
    |Assign y e q=>
     change(if _ then _ else _)=_;rw[Zi (by rw[(Z8 _▸U:(y.all Fo&&Dv e)=false)];decide)]
    |If c a b q=>
     show zA (ar U) λg1 g2=>?_;change Fe p m a++Fe p m b=[]
     rw[nS g1,nS g2];rfl
    |_=>show nomatch U
def OR(P:Wx):WG:=(Fe SY 60 (Ap (fd P 840))).getD 0 (.Pass default)
def NU(P:Wx):WE:=match OR P with| .For t _ _ _ _=>t|_=>.Constant .none 0 default
def OS(P:Wx):WE:=match OR P with| .For _ i _ _ _=>i|_=>.Constant .none 0 default
def KV(P:Wx):List WG:=match OR P with| .For _ _ b _ _=>b|_=>[]
def P1(P:Wx):Pos:=match OR P with| .For _ _ _ _ p=>p|_=>default
def adC(P:Wx):Fe SY 60 (Ap (fd P 840))=[.For (.Name (LA (NU P)) (Ig (NU P))) (OS P) (KV P) [] (P1 P)]:=by left
def adB(P:Wx):(P1 P).line=1398:=by left
def wJ(P:Wx):SY.code (LA (NU P))=some 312:=by left
def adD(P:Wx):(cB SY (fd P 840).scope 50 (KV P),Sj 20 (KV P))=(Fd,true):=by left
def aay(T:TopRead pw Sy mg mb (H1 w.params))(f:Fm)(a:f.cs=(fd w.params 840).scope)(l:f.vl=true)(j:f.own=true):∀t∈Fe SY 60 (Ap (fd w.params 840)),∀m,SS (Ai w) SK f (29+1) (cS SY f.cs m t) t:=by
 intro t N m;rw[adC]at N;obtain rfl:=Za N;cases m with
 |zero=>show bP
 |succ m=>
  have S:=acv T;have SG:=nS (p:=SY) (T3 (λp=>p.2) (adD w.params));have P:SB (Ai w) SR f 17 Fd (KV w.params):=by
   have:=cY (nK T) 50 f j (KV w.params) λt N=>by rw[SG]at N;show T4 N Yl
   rw[a,show cB SY (fd w.params 840).scope 50 (KV w.params)=Fd from T3 (λp=>p.1) (adD w.params)]at this;show this
  have O:=cY S m f j (KV w.params) λt N=>by rw[SG]at N;show T4 N Yl
  show iq (bU S m) λs Z v Z Z=>?_;have u:=wJ w.params;change SS (Ai w) SK f (29+1) (Qf SY f.cs m (.Name (LA (NU w.params)) (Ig (NU w.params))) (OS w.params) (P1 w.params).line (cB SY f.cs m (KV w.params))) _;rw[adB];show dj λD=>b5 λi hi=>?_;obtain rfl:i=312:=Zf (hi.symm.trans u);cases c:Kj SY f.cs 3 (OS w.params)with
  |some k=>
   show aK (iT c) λy q1 q2 e U b n A=>?_;rw[e];show uV S.Y (de j D) u U n b (v f k A) O
  |none=>show fX λQ=>uW Q (.name S.Y (de j D) u) (s f (OS w.params)).1 O (wq (λZ Z Z h=>h) T (de j D) l u P)
end
end
end Mine.B
namespace Mine.A
section
open Mine.B Mine.Head
structure LW (l L:Tw):Prop where
 f:∀a v,Sx a l=some v->Sx a L=some v
 o:∀n v,Sx n L=some v->E8 Fy v=true
structure HK (XX:Tx) (m:Nat) (H:Tx):Prop where
 lo:lo H=[]
 m6:64<=m
 n3:N3 H
 ex:∀p∈XX,64<=p.1/\p.1<m/\Sx p.1 H=some p.2
section
variable {l L:Tw}{XX H:Tx}{m:Nat}
def LW.put(h:LW l L)(n:Nat)(v:V)(N:E8 Fy v=true):LW (put n v l) (put n v L):=by
 show⟨λa w e=>?_,λa w e=>?_⟩
 ·rw[ao]at e⊢;split
  ·rename_i q;rw[Zk q]at e;show e
  ·rename_i q;rw[Zi q]at e;show h.f a w e
 ·rw[ao]at e;split at e
  ·obtain rfl:=Zf e;show N
  ·show h.o a w e
def LW.re(h:LW l L)(k:∀p∈u,Sx p.1 l=some p.2):LW u L:=⟨λa v e=>h.f a v (k _ (fD e)),h.o⟩
def HK.push(h:HK XX m H)(o:AO)(a:Hm Fy o=true):HK ((m,o)::XX) (m+1) ((m,o)::H):=by
 have:=h.m6;show⟨?_,by show Xd this,λi q hi e=>?_,λp j=>?_⟩
 ·rw[b7,Zi (show¬m<64 by show YN.mpr this)];show h.lo
 ·rw[aq]at e;split at e
  ·obtain rfl:=Zf e;show a
  ·show h.n3 i q hi e
 ·rcases Zb j with rfl|j
  ·show⟨this,Z4 _,(aq _ _ _).trans (Zk rfl)⟩
  ·show cu (h.ex p j) λU Z D=>⟨U,by show YO 1 Z,by rw[aq,Zi (Z3 Z)];show D⟩
def HK.put(h:HK ((i,o)::XX) m H)(A:∀p∈XX,p.1≠i)(c:Hm Fy o'=true):HK ((i,o')::XX) m (put i o' H):=by
 show cu (h.ex _ (.head _)) λU N f=>⟨?_,h.m6,λj q Q e=>?_,λp a=>?_⟩
 ·rw[b6 (YN.mpr U)];show h.lo
 ·rw[ao]at e;split at e
  ·obtain rfl:=Zf e;show c
  ·show h.n3 j q Q e
 ·rcases Zb a with rfl|a
  ·show⟨U,N,(ao _ _ _ _).trans (Zk rfl)⟩
  ·show cu (h.ex p (.tail _ a)) λb Z D=>⟨b,Z,by rw[ao,Zi (A p a)];show D⟩
def HK.w(h:HK XX m H)(k:∀p∈YY,p∈XX):HK YY m H:=⟨h.lo,h.m6,h.n3,λp j=>h.ex p (k p j)⟩
end
def aaJ(h:lo H=[]):hi H=H:=by
 induction H with
 |nil=>rfl
 |cons p H Q=>
  rw[b7]at h;rw[tG];by_cases q:p.1<64
  ·rw[Zk q]at h;show nomatch h
  ·rw[Zi q]at h;rw[Zi q,Q h]
section
variable {s:St}{F:TC}
def back(j:lo s.H=[])(v:V)(h:F v s):F v (As s ([]++hi s.H)):=by
 rw[aaJ j,YL];show h
def wD(j:lo s.H=[]){d r nm:WJ}{A:Nat}(U:A<4)(N:(d++r).length<=5000)(a:(r.all λc=>or (Nat.blt c 128) (beq c 233))=true)(D:F (.c (.int ((d.length+DP A nm r:Nat):Int))) s):
  BL SK 835 [.c (.str (d++r)),.c (.int (d.length:Nat)),.c (.int (A:Nat)),.c (.str nm)] [] s F:=by
 show fT rfl rfl (by rw[j];rfl) ?_;rw[j];show⟨d,r,A,nm,rfl,rfl,rfl,U,N,a,back j _ D⟩
def aaC(j:lo s.H=[])(U:A<4)(N:(d++r).length<=5000)(D:F (.c (.lst (Hs A r.length d.length r))) s):
  BL SK 821 [.c (.str (d++r)),.c (.int (d.length:Nat)),.c (.int (A:Nat))] [] s F:=by
 show fT rfl rfl (by rw[j];rfl) ?_;rw[j];show(cF d r A rfl rfl rfl U N (back j _ D))
def adb(j:lo s.H=[])(N:(d++60::r).length<=5000)(D:F (.c (GH d.length r)) s):BL SK 828 [.c (.str (d++60::r)),.c (.int (d.length:Nat))] [] s F:=by
 show fT rfl rfl (by rw[j];rfl) ?_;rw[j];show(bj d r rfl rfl rfl N (back j _ D))
def vh(h:k (decide (i<j))):BN 2 (.c (.int i)) (.c (.int j)) s k:=h
def rJ(h:F (.c (.str (x.take n))) s):Gn (.c (.str x)) (.c .Ak) (.c (.int (n:Nat))) s F:=by
 have e:slice x none (some n)=x.take n:=by
  change(x.take (DL x.length n)).drop 0=_;rw[bV,Yp, ←Wj]
 have h:F (.c (.str (slice x none (some n)))) s:=by rw[e];show h
 show h
def yH{l q:Tz}(U:Sx i s.H=some (.lst l))(D:l.length+q.length<=16777216)(h:F (.ob i) (As s (put i (.lst (l++q)) s.H))):Es 0 (.ob i) (.c (.lst q)) s F:=by
 change Option.rec (motive:=λZ=>Prop) (Dh 0 (.ob i) (.c (.lst q)) s F) (λo=>AO.casesOn (motive:=λZ=>Prop) o (λl=>Ab (CE s.H (.c (.lst q))) λy=>Ab (aL y) λq=>Hr (l.length+q.length) (F (.ob i) (As s (put i (.lst (l++q)) s.H)))) (λZ=>Dh 0 (.ob i) (.c (.lst q)) s F) (λZ Z=>Dh 0 (.ob i) (.c (.lst q)) s F) λZ=>Dh 0 (.ob i) (.c (.lst q)) s F) (Sx i s.H);rw[U];show aa rfl (aa rfl ⟨D,h⟩)
def iu:Am H (.c (.Ae b))=some b:=rfl
end
def Lx:X:=.cmp 2 (.loc 237) (.fn 0 (.cons (.loc 210) .nil))
def Px:S:=.seq (.GC [(none,317),(none,237),(none,191),(none,215)] (.call 828 (.cons (.loc 210) (.cons (.loc 303) .nil)))) (.seq (.DI 267 0 (.loc 317)) .skip)
def M7:S:=.seq (.iff (.cmp 2 (.loc 303) (.fn 0 (.cons (.loc 210) .nil))) Px .skip) .skip
def IL:S:=.seq (.Aj 303 (.call 835 (.cons (.loc 210) (.cons (.loc 237) (.cons (.loc 191) (.cons (.loc 215) .nil)))))) (.seq (.DI 267 0 (.call 821 (.cons (.Cj (.loc 210) (.k .Ak) (.loc 303)) (.cons (.loc 237) (.cons (.loc 191) .nil))))) (.seq (.Aj 237 (.loc 303)) M7))
abbrev lE(W text:WJ)(ro:Nat)(z:Tw):Tw:=(311,.c (.str W))::(210,.c (.str text))::(267,.ob ro)::z
abbrev lR(W text:WJ)(ro n v:Nat)(nm:WJ):Tw:=lE W text ro [(237,.c (.int (n:Nat))),(191,.c (.int (v:Nat))),(215,.c (.str nm))]
section
variable {W text:WJ}{ro:Nat}{K:TB}{P:TF}
def i8{nm:WJ}{H:Tx}(O:∀s,R6 SK Lx IL K P s->P s)(v:LW (lR W text ro n g nm) L)(U:n<text.length->ex SK IL ⟨L,H,m,false⟩ (wo P K))(N:¬n<text.length->K .AZ ⟨L,H,m,false⟩):P ⟨L,H,m,false⟩:=by
 show O _ (aH (aj (aa (v.f 237 _ rfl) (fO (ah (aj (aa (v.f 210 _ rfl) (au (eW (dt (vh (aa iu (bh (λq=>?_) λq=>?_)))))))))))))
 ·show U (Xa.mp (Zm q))
 ·show N λz=>ZA q (Xa.mpr z)
def yq{nm:WJ}{L:Tw}{b:Tz}{o:TB}(N:text=d++(a++z))(q:d.length=n)(e:kd<4)(D:text.length<=5000)(O:((a++z).all λc=>or (Nat.blt c 128) (beq c 233))=true)(w:DP kd nm (a++z)=a.length)
  (v:LW (lR W text ro n kd nm) L) (h:HK [(ro,.lst b)] m H) (r:b.length<=10000)
  (t:∀U Q,LW (lE W text ro [(237,.c (.int ((n+a.length:Nat):Int))),(303,.c (.int ((n+a.length:Nat):Int)))]) U->HK [(ro,.lst (b++Hs kd a.length n a))] m Q->ex SK M7 ⟨U,Q,m,false⟩ o):ex SK IL ⟨L,H,m,false⟩ o:=by
 subst q;have u:=N▸D;have y:=v.f 210 _ rfl;rw[N]at y;show aG (dh (ah (aj (aa y (ah (aj (aa (v.f 237 _ rfl) (ah (aj (aa (v.f 191 _ rfl) (ah (aj (aa (v.f 215 _ rfl) (au (wD h.lo e u O ?_)))))))))))))));rw[w];have g:=v.put 303 (.c (.int (d.length+a.length:Nat))) rfl;have Z:text.take (d.length+a.length)=d++a:=by
  rw[N, ←Zo, ←Zg,We]
 have i:(d++a).length<=5000:=by rw[←Zo,Zg]at u;show ZK u
 show fM (aa (g.f 267 _ rfl) (dh (ah (d6 (aj (aa (g.f 210 _ rfl) (aQ (aj (aa (g.f 303 _ rfl) (rJ ?_))))))))));rw[Z];show ah (aj (aa (g.f 237 _ rfl) (ah (aj (aa (g.f 191 _ rfl) (au (aaC h.lo e i ?_)))))));have f:=fK (kd:=kd) a.length d.length a;have k:a.length<=5000:=by rw[Zg]at i;show Xk i
 show yH (h.ex _ (.head _)).2.2 (Zh (Z9 r (Zh f (Yg 2 k))) (by ext)) ?_;have A:=g.put 267 (.ob ro) (v.o 267 _ (v.f 267 _ rfl));show aG (aj (aa (A.f 303 _ rfl) ?_));show t _ _ ((A.put 237 (.c (.int (d.length+a.length:Nat))) rfl).re (fm rfl (fm rfl (fm rfl (fm rfl (fm rfl λx j=>nomatch j)))))) (h.put (o':=.lst (b++Hs kd a.length d.length a)) (λp j=>nomatch j) rfl)
def vI(E:∀s,R6 SK Lx IL K P s->P s)(hl:text.length<=2000)(O:(text.all λc=>or (Nat.blt c 128) (beq c 233))=true){C:WJ}{rr:Tz}(hR:Jp n r kd C rr):∀(d:WJ) (L:Tw) (H:Tx) (m:Nat) (y:Tz),text=d++r->d.length=n->kd<4->LW (lR W text ro n kd C) L->HK [(ro,.lst y)] m H->y.length+2*r.length<=10000->
  (∀w Q m',LW (lE W text ro []) w->HK [(ro,.lst (y++rr))] m' Q->K .AZ ⟨w,Q,m',false⟩)->P ⟨L,H,m,false⟩:=by
 induction hR with
 |nil=>
  intro d L H m y N j g v h D o;show i8 E v (λq=>?_) λZ=>?_
  ·rw[N,Zu]at q;lia
  ·rw[Zu]at o;show o L H m (v.re (fm rfl (fm rfl (fm rfl λZ f=>nomatch f)))) h
 | @last n r kd C I Y=>
  intro d L H m y N j g v h D o;show i8 E v (λZ=>?_) λq=>?_
  ·show yq (by rw[Zu];show N) j g (by lia) ?_ (by rw[Zu];show Y) v h (ZK D) λw Q A B=>?_
   ·rw[Zu];rw[N,List.all_append]at O;show(Zp _ _▸O).2
   have e:text.length=n+r.length:=by rw[N,Zg,j]
   show bE (aH (aj (aa (A.f 303 _ rfl) (fO (ah (aj (aa (A.f 210 _ rfl) (au (eW (dt (vh (aa iu (bH ?_ ?_)))))))))))))
   ·show Zs λz=>by rw[e]at z;show Wo _ z
   show aB (cU (aB ?_));show E _ (aH (aj (aa (A.f 237 _ rfl) (fO (ah (aj (aa (A.f 210 _ rfl) (au (eW (dt (vh (aa iu (bH ?_ ?_)))))))))))))
   ·show Zs λz=>by rw[e]at z;show Wo _ z
   show o w Q m (A.re (fm rfl (fm rfl (fm rfl λZ f=>nomatch f)))) B
  ·exfalso;apply q;have:=Nat.pos_of_ne_zero λz=>I (YF z);rw[N,Zg];show Z9 (Zz j.symm) this
 | @more n a r' kd C T x r2 X R row2 Y hv hx G hT S hR ih=>
  intro d L H m y N j g v h D o;have e:text.length=n+(a.length+(r'.length+1)):=by rw[N,Zg,Zg,Zj,j]
  show i8 E v (λZ=>?_) λq=>T4 (show n<text.length from Zh (ZH (Z0 1 _) _) (Zz e.symm)) q;rw[Zg,Zj]at D;show yq N j g (by lia) ?_ Y v h (ZK D) λw Q A B=>?_
  ·rw[N,List.all_append]at O;show(Zp _ _▸O).2
  show bE (aH (aj (aa (A.f 303 _ rfl) (fO (ah (aj (aa (A.f 210 _ rfl) (au (eW (dt (vh (aa iu (aW ?_ ?_)))))))))))))
  ·show Zr (Xa.mpr (Zh (Z1 (ZR _ _)) (Zz ((Yn _ _ (_+1)).trans e.symm))))
  have i:text=(d++a)++60::r':=by rw[N,Zo]
  have U:(d++a).length=n+a.length:=by rw[Zg,j]
  have u:=A.f 210 _ rfl;rw[i]at u;have b:=A.f 303 _ rfl;rw[←U]at b hv;show rL (dh (ah (aj (aa u (ah (aj (aa b (au (adb B.lo (by rw[←i];lia) ?_)))))))));rw[hv];show aca rfl (gH (gH (gH (gH (yj ?_)))));have k:=(((A.put 317 (.c (.lst T)) rfl).put 237 (.c (.int (((d++a).length+x.length:Nat)))) rfl).put 191 (.c (.int X)) rfl).put 215 (.c (.str R)) rfl;have M:=fK (kd:=kd) a.length n a;show fM (aa (k.f 267 _ rfl) (aj (aa (k.f 317 _ rfl) (yH (B.ex _ (.head _)).2.2 (by rw[Zg];show Zh (Zz (Yn _ _ _)) (Zh (ZH (Zh (Z9 M hT) (Yg _ (ZH (Z0 1 _) _))) _) (Zh D (by ext)))) ?_))));show aB (cU (aB ?_));have hxl:=Nat.pos_of_ne_zero λz=>G (YF z);have t:=T3 List.length hx;rw[Zj,Zg]at t;show ih ((d++a)++x) _ _ m (y++Hs kd a.length n a++T) (by rw[i,hx,Zo,Zo,Zo]) (by rw[Zg,U]) S ?_ (B.put (o':=.lst (y++Hs kd a.length n a++T)) (λp f=>nomatch f) rfl) (by rw[Zg,Zg];lia) λL4 H4 m4 hL4 h4=>o L4 H4 m4 hL4 ?_
  ·rw[←U];show(k.put 267 (.ob ro) (v.o 267 _ (v.f 267 _ rfl))).re (fm rfl (fm rfl (fm rfl (fm rfl (fm rfl (fm rfl λZ f=>nomatch f))))))
  ·rw[Zo,Zo]at h4;show h4
end
def rE(c x:Nat)(r:WJ):Ag c (x::r)=if x=c then []::Ag c r else match Ag c r with
  |h::t=>(x::h)::t
  | []=>[[x]]:=rfl
def zF(c:Nat)(l:WJ):∃h t,Ag c l=h::t:=by
 induction l with
 |nil=>show(j1 [] [] rfl)
 |cons x r Q=>
  show ip Q λh t e=>?_;rw[rE,e];split
  ·show(j1 _ _ rfl)
  ·show(j1 _ _ rfl)
def acr(P:x≠c)(e:Ag c r=h::t):Ag c (x::r)=(x::h)::t:=by
 rw[rE,Zi P,e]
def rD(r:WJ):Ag c (c::r)=[]::Ag c r:=by rw[rE,Zk rfl]
def vo(c:Nat)(l:WJ):(Ag c l).length=l.count c+1/\∃q,(Ag c l).getLast?=some q/\(q.length:Int)=l.length-(Dn c l+1)/\ -1<=Dn c l/\(Dn c l= -1->Ag c l=[q])/\(0<=Dn c l->∃a b t,Ag c l=a::b::t):=by
 induction l with
 |nil=>
  rw[show Dn c []= -1 from rfl];show⟨rfl,fL [] rfl rfl (by ext) (λZ=>rfl) λh=>T4 h (by ext)⟩
 |cons x r i=>
  obtain⟨U,q,N,n,A,Q,O⟩:=i;have y:Dn c (x::r)=if 0<=Dn c r then Dn c r+1 else if x=c then 0 else-1:=rfl;show ip (zF c r) λh t e=>?_;by_cases P:x=c
  ·clear Q O;subst P;show⟨by rw[rD,Zj,U,List.count_cons_self],fL q ?_ ?_ ?_ ?_ ?_⟩
   ·rw[rD,e,X8, ←e];show N
   ·rw[y,Zj];split
    ·lia
    ·rw[Zk rfl];lia
   ·rw[y];split
    ·show Int.le_add_one A
    ·rw[Zk rfl];show Int.neg_ofNat_le_ofNat 1 0
   ·intro k;rw[y]at k;split at k
    ·lia
    ·rw[Zk rfl]at k;lia
   ·intro _;rw[rD,e];show(gp _ _ _ rfl)
  ·rw[Zi P]at y;rw[acr P e,show(x::r).count c=r.count c from List.count_cons_of_ne P,y];rw[e]at U N Q O;by_cases D:0<=Dn c r
   ·rw[Zk D];obtain⟨a,b,z,f⟩:=O D;cases f;show⟨U,fL q ?_ ?_ (Int.le_add_one A) (λk=>by lia) λZ=>(gp _ _ _ rfl)⟩
    ·rw[X8]at N⊢;show N
    ·rw[Zj];lia
   ·rw[Zi D];have d:=Q (Int.le_antisymm (Int.le_of_lt_add_one (Int.not_le.mp D)) A);cases d;show⟨U,fL (x::q) rfl ?_ (Int.le_refl (-1)) (λZ=>rfl) λk=>by lia⟩;rw[Zj,Zj];lia
def oN{y:Type}(l:List y)(x:y):Co (l++[x]) (-1)=some x:=by
 cases l with
 |nil=>show tD x []
 |cons a r=>show(tD a (r++[x])).trans (by simp)
def tj(l:WJ):∃a q,Ag 10 l=a++[q]/\(((Ag 10 l).length:Nat):Int)=EG l+1/\((q.length:Nat):Int)=EM l:=by
 obtain⟨Z,w,d,c,_⟩:=vo 10 l;rcases List.eq_nil_or_concat (Ag 10 l)with q|⟨a,b,q⟩
 ·rw[q]at d;show nomatch d
 ·rw[List.concat_eq_append]at q;have j:=d;rw[q,List.getLast?_concat]at j;obtain rfl:=Zf j;show(a8 a b q (by rw[Z];rfl) c)
def rU(x:FV)(n:Nat):(List.replicate n [x]).flatten=List.replicate n x:=by
 induction n with
 |zero=>rfl
 |succ n Q=>rw[XG,Q];rfl
section
variable {s:St}{F:TC}{k:TR}{g:G}
def oB(U:x.length+2<=16777216)(h:F (.ob s.m) ⟨s.L,(s.m,.lst ((Ag c x).map .str))::s.H,s.m+1,s.vl⟩):CL g (.str x) 6 [.c (.str [c])] [] s F:=by
 show show Ab (Je s.H [.c (.str [c])]) λy=>Lo 6 x y s F from aa rfl ⟨U,h⟩
def aeo(U:Sx i s.H=some (.lst [x]))(j:n<=1000)(h:F (.ob s.m) ⟨s.L,(s.m,.lst (List.replicate n x))::s.H,s.m+1,s.vl⟩):Fv 2 (.ob i) (.c (.int (n:Nat))) s F:=by
 show aa (eB U) (aa rfl ?_);have k:((-(2 ^ 63)<=(n:Int)/\(n:Int)<2 ^ 63)/\[x].length*(n:Int).toNat<=16777216)/\Ce (.lst (List.replicate (n:Int).toNat [x]).flatten) s F:=by
  show⟨⟨⟨by show X2 (2 ^ 63) n,by lia⟩,?_⟩,?_⟩
  ·change 1*n<=_;lia
  ·show gc ?_;rw[rU];show h
 show k
def zw(U:Sx n s.H=some (.lst l))(N:Co l j=some r)(h:F (.c r) s):DO (.ob n) (.c (.int j)) s F:=
 aa rfl (aa U (aa rfl (aa N h)))
def zx(U:Sx n s.H=some (.Av (.lst l)))(N:Co l j=some r)(h:F (.c r) s):DO (.ob n) (.c (.int j)) s F:=by
 have k2:=show Ab (Co l j) λr=>F (.c r) s from aa N h
 show aa rfl (aa U k2)
def yO(hi:Sx i s.H=some (.lst l))(h:F (.c (.int l.length)) s):Mx 0 [.ob i] s F:=by
 show show Ab (CE s.H (.ob i)) λx=>Ab (LQ x) λn=>F (.c (.int n)) s from aa (eB hi) (aa rfl h)
def oJ(h:Sx i H=some (.lst l)):Io (.ob i) ⟨L,H,m,j⟩=some (l,⟨L,put i (.Av (.lst l)) H,m,j⟩):=by
 change Af (Sx i H) (PW i _)=_;rw[h];rfl
def aeQ(e:a=b)(hd:Fs 12 (.tup a)=true)(h:k false):BN 1 (.c (.tup a)) (.c (.tup b)) s k:=by
 have D:=aa rfl (aa rfl (show(a=b/\Fs 12 (.tup a)=true)/\k (!true) from⟨⟨e,hd⟩,h⟩));show D
def ack(Q:Sx i s.H=some (.lst x))(P:Sx j s.H=some (.lst y))(e:x=y)(hd:Dz 8 (.lst x)=true)(h:k true):BN 0 (.ob i) (.ob j) s k:=by
 have D:CE s.H (.ob i)=some (FV.lst x)->CE s.H (.ob j)=some (FV.lst y)->Ab (CE s.H (.ob i)) λx=>Ab (CE s.H (.ob j)) λy=>P6 x y k:=λU Z=>aa U (aa Z (show(x=y/\(Fs 12 (.lst x)=true\/Dz 8 (.lst x)=true))/\k true from⟨⟨e,.inr hd⟩,h⟩));show D (eB Q) (eB P)
def jo{kk:TC}(p:FV->Bool)(f:FV->FV)(l:Tz):∀(j:Tz) (L:Tw),
  (∀x∈l,Ev g cd ⟨[(n,.c x)],H,m,false⟩ (.c (.Ae (p x))))->(∀x∈l,p x=true->Ev g e ⟨[(n,.c x)],H,m,false⟩ (.c (f x)))->j.length+l.length<=16777216->
  (∀U,kk (.ob m) ⟨U,(m,.lst (j++(l.filter p).map f))::H,m+1,false⟩)->I2 n [] (SU g cd) (SU g e) l j ⟨L,H,m,false⟩ kk:=by
 induction l with
 |nil=>
  intro j L _ _ _ D;have:=D L;rw[List.filter_nil,List.map_nil,Zu]at this;show this
 |cons x l Q=>
  intro j L u N a D;rw[Zj]at a;show u x (.head _) _ (aa rfl (bh (λh=>?_) λh=>?_))
  ·have h:p x=true:=h;show N x (.head _) h _ (aa rfl ⟨by lia,?_⟩);rw[X9 h,Ye,List.append_cons]at D;show Q (j++[f x]) _ (λy P=>u y (.tail _ P)) (λy P=>N y (.tail _ P)) (by rw[Zg,Zj,ZW];lia) D
  ·rw[Wa (by rw[show p x=false from h];decide)]at D;show Q j _ (λy P=>u y (.tail _ P)) (λy P=>N y (.tail _ P)) (Yj a) D
end
structure HG (XX:Tx) (J:Sm) (t:Tm) (m:Nat) (H:Tx):Prop where
 lo:lo H=Hp J t
 m6:64<=m
 ex:∀p∈XX,64<=p.1/\p.1<m/\Sx p.1 H=some p.2
section
variable {XX H:Tx}{J:Sm}{t:Tm}{m:Nat}
def HG.push(h:HG XX J t m H)(o:AO):HG ((m,o)::XX) J t (m+1) ((m,o)::H):=by
 have:=h.m6;show⟨?_,by show Xd this,λp j=>?_⟩
 ·rw[b7,Zi (show¬m<64 by show YN.mpr this)];show h.lo
 ·rcases Zb j with rfl|j
  ·show⟨this,Z4 _,(aq _ _ _).trans (Zk rfl)⟩
  ·show cu (h.ex p j) λU Z D=>⟨U,by show YO 1 Z,by rw[aq,Zi (Z3 Z)];show D⟩
def HG.call(h:HG XX J t m H):HG XX J t m (Hp J t++hi H):=⟨by rw[fQ,bZ,d9,Zu],h.m6,λp j=>⟨(h.ex p j).1,(h.ex p j).2.1,(dO (by show YN.mpr ((h.ex p j).1))).trans (h.ex p j).2.2⟩⟩
def HG.w'(h:HG XX J t m H)(k:∀p∈YY,p∈XX):HG YY J t m H:=⟨h.lo,h.m6,λp j=>h.ex p (k p j)⟩
def HG.fz(h:HG ((i,o)::XX) J t m H)(A:∀p∈XX,p.1≠i):HG ((i,o')::XX) J t m (put i o' H):=by
 show cu (h.ex _ (.head _)) λU N b=>⟨?_,h.m6,λp j=>?_⟩
 ·rw[b6 (YN.mpr U)];show h.lo
 ·rcases Zb j with rfl|j
  ·show⟨U,N,(ao _ _ _ _).trans (Zk rfl)⟩
  ·show cu (h.ex p (.tail _ j)) λa Z D=>⟨a,Z,by rw[ao,Zi (A p j)];show D⟩
end
abbrev O6:X:=.Al (.Bb (.loc 316) 305) 239 .nil []
abbrev O8:X:=.tup (.cons (.fn 0 (.cons (.loc 200) .nil)) (.cons (.fn 0 (.cons (.sub (.loc 200) (.k (.int (-1)))) .nil)) .nil))
def RU:X:=.cmp 0 (.lcm 231 [] (.Cj (.loc 177) (.k .Ak) (.loc 173)) (.k (.Ae true)) (.sub (.loc 231) (.k (.int 0)))) (.bin 2 (.lst (.cons (.call 795 (.cons (.k (.str To)) .nil)) .nil)) (.loc 173))
def RT:X:=.cmp 0 (.Cj (.loc 177) (.loc 173) (.k .Ak)) (.loc 157)
def ND:S:=.seq (.ret (.and RU RT)) .skip
def PJ:S:=.seq (.iff (.cmp 1 O6 O8) (.seq (.ret (.k (.Ae false))) .skip) .skip) ND
def NF:S:=.seq (.Aj 200 (.Al (.loc 210) 6 (.cons (.k (.str [10])) .nil) [])) PJ
def PK:S:=.seq (.fr 1398 [312] (.loc 316) Fd) NF
def PL:S:=.seq (.Aj 177 (.lst .nil)) PK
def PM:S:=.seq (.Aj 316 (.new 762 (.cons (.loc 311) .nil))) PL
def I0:S:=.seq (.Aj 173 (.fn 0 (.cons (.lcm 295 [] (.loc 311) (.cmp 0 (.loc 295) (.k (.str [1]))) (.loc 295)) .nil))) PM
def Kb:S:=.seq (.Aj 200 (.Al (.Cj (.loc 210) (.k .Ak) (.loc 237)) 6 (.cons (.k (.str [10])) .nil) [])) (.seq (.ex (.Al (.loc 157) 0 (.cons (.tup (.cons (.loc 312) (.cons O8 .nil))) .nil) [])) .skip)
def PN:S:=.seq (.fr 1392 [312,237] (.loc 267) Kb) I0
def NG:S:=.seq (.Aj 157 (.lst .nil)) PN
section
variable {s:St}{F:TC}{L:Tw}{H:Tx}{m:Nat}{K:TB}
def zJ(hi:Sx i s.H=some (.lst l))(h:F (.ob s.m) ⟨s.L,(s.m,.lst (l.take n))::s.H,s.m+1,s.vl⟩):Gn (.ob i) (.c .Ak) (.c (.int (n:Nat))) s F:=by
 have e:slice l none (some n)=l.take n:=by
  change(l.take (DL l.length n)).drop 0=_;rw[bV,Yp, ←Wj]
 have k:Ce (.lst (slice l none (some n))) s F:=by rw[e];show gc h
 show aa (eB hi) k
def zK(hi:Sx i s.H=some (.lst l))(j:n<=l.length)(h:F (.ob s.m) ⟨s.L,(s.m,.lst (l.drop n))::s.H,s.m+1,s.vl⟩):Gn (.ob i) (.c (.int (n:Nat))) (.c .Ak) s F:=by
 have e:slice l (some n) none=l.drop n:=by
  change(l.take l.length).drop (DL l.length n)=_;rw[bV,YC,ZO j]
 have k:Ce (.lst (slice l (some n) none)) s F:=by rw[e];show gc h
 show aa (eB hi) k
def atH(h:lo H=Hp J t)(A:i<64):Sx i H=Sx i (Hp J t):=by
 rw[←h,eg,Zk A]
def yP{i:Nat}{x:WJ}{G:TC}(g:Sx 200 L=some (.ob i))(hi:Sx i H=some (.lst ((Ag 10 x).map .str)))(h:G (.c (GZ x)) ⟨L,H,m,false⟩):SU SK O8 ⟨L,H,m,false⟩ (one G):=by
 show bA (tj x) λa q U Z D=>?_;have d:Co ((Ag 10 x).map FV.str) (-1)=some (.str q):=by rw[U,Z7];show oN _ _
 show dW (ah (fO (ah (aj (aa g (au (yO hi (ah (fO (ah (bK (aj (aa g (aQ (zw hi d (au (eW (au (aa (a:=([.int (((Ag 10 x).map FV.str).length:Nat),.int (q.length:Nat)],H)) rfl (aW rfl ?_))))))))))))))))))));rw[ZD,Z,D];show h
def wb(A:Sx 177 L=some (.ob g))(l:Sx 157 L=some (.ob du))(Z:Sx 173 L=some (.c (.int (n:Nat))))
  (h:HG [(g,.lst (List.replicate n (FV.tup [CG,pv])++y)),(du,.lst y)] J t m H) (j:n<=1000) (hd:(y.all λf=>Dz 7 f)=true) (d:∀i e o,lo e=Hp J t->K (.ret (.c (.Ae true))) ⟨i,e,o,false⟩):ex SK ND ⟨L,H,m,false⟩ K:=by
 show fk (gK (aH (ku (d6 (aj (aa A (aQ (aj (aa Z (zJ (h.ex _ (.head _)).2.2 ?_))))))))));have U:=h.push (.lst ((List.replicate n (FV.tup [CG,pv])++y).take n));show aa (oJ sM) ?_;have N:(List.replicate n (FV.tup [CG,pv])++y).take n=List.replicate n (FV.tup [CG,pv]):=by
  have:=We (l₁:=List.replicate n (FV.tup [CG,pv])) (l₂:=y);replace this:=Yd▸this;show this
 rw[N]at U⊢;show jo (λb=>true) (λb=>CG) (List.replicate n (FV.tup [CG,pv])) [] _ (λx P F z=>aQ z) (λx P b F z=>?_) (by rw[ZW,Yd];lia) λi=>?_
 ·obtain rfl:=(List.mem_replicate.mp P).2;show bK (aj (aa rfl (aQ z)))
 have q:((List.replicate n (FV.tup [CG,pv])).filter λb=>true).map (λb=>CG)=List.replicate n CG:=by
  rw[List.filter_eq_self.mpr λb b=>rfl,List.map_replicate]
 rw[q,YL];have D:=(U.fz (o':=.Av (.lst (List.replicate n (FV.tup [CG,pv])))) λp k=>Z3 (h.ex p k).2.1).push (.lst (List.replicate n CG));show cm (d7 (ah (dh (ah (aQ (au (dE J t rfl rfl D.lo (aY _ rfl rfl (gS J t (bZ J t)) ?_))))))));rw[bZ];show au (aa (a:=([CG],_)) rfl (aW rfl (gc ?_)));have Q:=D.call.push (.lst [CG]);show aj (aa Z (aeo (Q.ex _ (.head _)).2.2 j ?_));have O:=Q.push (.lst (List.replicate n CG));show w_o (ack (O.ex _ (.tail _ (.tail _ (.head _)))).2.2 (O.ex _ (.head _)).2.2 rfl ?_ (aa iu (aW rfl ?_)))
 ·show Zv.mpr λf u=>by rw[(List.mem_replicate.mp u).2];rfl
 show aH (d6 (aj (aa A (aj (aa Z (aQ (zK (O.ex _ (.tail _ (.tail _ (.tail _ (.tail _ (.head _)))))).2.2 ?_ ?_)))))))
 ·rw[Zg,Yd];show ZR n y.length
 have v:(List.replicate n (FV.tup [CG,pv])++y).drop n=y:=by
  have:=YU (l₁:=List.replicate n (FV.tup [CG,pv])) (l₂:=y);replace this:=Yd▸this;show this
 rw[v];have c:=O.push (.lst y);show aj (aa l (w_o (ack (c.ex _ (.head _)).2.2 (c.ex _ (.tail _ (.tail _ (.tail _ (.tail _ (.tail _ (.tail _ (.head _)))))))).2.2 rfl hd (d _ _ _ c.lo))))
def wc(d:Sx 316 L=some (.ob 1))(b:Sx 210 L=some (.c (.str u)))(A:Sx 177 L=some (.ob g))(l:Sx 157 L=some (.ob z))(Z:Sx 173 L=some (.c (.int (n:Nat))))
  (h:HG [(g,.lst (List.replicate n (FV.tup [CG,pv])++y)),(z,.lst y)] J t m H) (v:View J u [] e' n') (D:u.length<=2000) (c:n<=1000) (hd:(y.all λf=>Dz 7 f)=true) (k:∀r Q O,lo Q=Hp J t->K (.ret (.c (.Ae true))) ⟨r,Q,O,false⟩):ex SK NF ⟨L,H,m,false⟩ K:=by
 show aG (aJ (aj (aa b (aa rfl (ah (aQ (au (oB (Zh (ZV D 2) (by ext)) ?_))))))));have U:=h.push (.lst ((Ag 10 u).map .str));have q:∀ {i:Nat} {o:V},i≠200->Sx i L=some o->Sx i (put 200 (.ob m) L)=some o:=λhi e=>(ao _ _ _ _).trans ((Zi hi).trans e);have P:=v.dJ;show bE (aH (aJ (ba (aj (aa (q (by ext) d) (aP (show Sx 1 ((m,AO.lst ((Ag 10 u).map .str))::H)=some (.inst 762 (R9 t)) from(atH U.lo (by ext)).trans rfl) rfl rfl (aa (a:=.fn 126 (.ob 2)) ?_ (au (eR ?_)))))))))
 ·change Af (Sx 2 ((m,AO.lst ((Ag 10 u).map .str))::H)) _=_;rw[show Sx 2 ((m,AO.lst ((Ag 10 u).map .str))::H)=some (.inst 166 (Sf J)) from(atH U.lo (by ext)).trans rfl];rfl
 show dE J t rfl rfl U.lo (bj J t rfl rfl rfl ⟨P.1,Int.lt_of_le_of_lt P.2.1 P.2.2.2⟩ ?_);have j:=v.Cz;have j:FV.tup [.int ((CA J J.off).1+1),.int (CA J J.off).2]=GZ u:=j;rw[j];have N:=U.call;show yP (show Sx 200 (put 200 (.ob m) L)=some (.ob m) from fS) (N.ex _ (.head _)).2.2 (dt (aeQ rfl rfl (aa iu (bH rfl (aB (cU (wb (q (by ext) A) (q (by ext) l) (q (by ext) Z) (N.w' λp j=>.tail _ j) c hd k)))))))
end
def gw(h:64<=m):Fy m=true:=by
 change and (!beq m 32) (!beq m 33)=true;rw[bX (show m≠32 by lia),bX (show m≠33 by lia)];rfl
def EJ(f:FV):Bool:=Mine.A.ob (FU f) λc=>decide (c=1)
def wM(W:WJ):((W.map λc=>FV.str [c]).filter EJ).length=LP W:=by
 unfold LP;induction W with
 |nil=>rfl
 |cons c W Q=>
  rw[Ye];have e:EJ (.str [c])=decide (c=1):=rfl;cases q:decide (c=1)with
  |true=>rw[X9 (by rw[e];show q),X9 (by show q),Zj,Zj,Q]
  |false=>rw[Wa (by rw[e,q];decide),Wa (by rw[q];decide),Q]
section
variable {s:St}{F:TC}{L:Tw}{XX H:Tx}{m:Nat}{K:TB}{W text:WJ}
def acP{C:Nat}(h:SU g a s λZ s=>HN g C Z s F):SU g (.new C a) s (one F):=h
def aaK(H:Tx)(h:i<64)(o:AO):hi (H++[(i,o)])=hi H:=by
 induction H with
 |nil=>change hi [(i,o)]=[];rw[tG,Zk h];rfl
 |cons p H Q=>rw[Y2,tG,tG,Q]
def vY(h:HK XX m H)(D:F (.ob 1) ⟨L,Hp (JE W) ⟨304,.no,none,none⟩++hi H,m,false⟩):HN SK 762 [.c (.str W)] ⟨L,H,m,false⟩ F:=by
 have U:Sx (SK.FI 762) H=none:=by
  have e:Sx 1 H=Sx 1 (lo H):=by rw[eg,Zk (by ext)]
  show e.trans (by rw[h.lo];rfl)
 have j:lo (H++[(1,AO.inst 762 [])])=[S1]:=by rw[fQ,h.lo];rfl
 change Option.rec (motive:=λZ=>Prop) _ _ (Sx (SK.FI 762) H);rw[U];show aa rfl (fT rfl rfl (by rw[j];rfl) ?_);rw[j];show(aY W rfl rfl rfl (aW rfl ?_));rw[aaK _ (by ext)];show D
def wL(U:Ev g z s v)(N:Io v s=none)(h:g.loop l [v] s (sq g c K)):ex g (.seq (.fr l O z b) c) s K:=by
 show zO (U _ ?_);rw[N];show h
def uq(D:text.length<=2000):∀(T:List (FV×Nat)) (j:Tz) (L:Tw) (H:Tx) (m:Nat),LW [(311,.c (.str W)),(210,.c (.str text)),(157,.ob z)] L->HK [(z,.lst j)] m H->j.length+T.length<=10000->
  (∀b Q O,LW [(311,.c (.str W)),(210,.c (.str text)),(157,.ob z)] b->HK [(z,.lst (j++CI text T))] O Q->K .AZ ⟨b,Q,O,false⟩)->Dd (ex SK Kb) (C3 [312,237]) (T.map Sl) ⟨L,H,m,false⟩ K
 | [],j,L,H,m,hL,h,_,hk=>wK (hk L H m hL (by
   have e:j++CI text []=j:=Zu _;rw[e];show h))
 |(y,n)::T,j,L,H,m,hL,h,hlen,hk=>by
  replace hlen:=Zj▸hlen;show tT (aa rfl ?_);have g:=(hL.put 312 (.c y) rfl).put 237 (.c (.int n)) rfl;show aG (aJ (d6 (aj (aa (g.f 210 _ rfl) (aQ (aj (aa (g.f 237 _ rfl) (rJ (aa rfl (ah (aQ (au (oB ?_ ?_)))))))))))))
  ·rw[ZG];show Zh (ZV (Zh (Yt _ _) D) 2) (by ext)
  have U:=h.push (.lst ((Ag 10 (text.take n)).map .str)) rfl;have A:=g.put 200 (.ob m) (gw h.m6);show d3 (aJ (aj (aa (A.f 157 _ rfl) (aa (cw (U.ex _ (.tail _ (.head _))).2.2 rfl) (ah (dW (ah (aj (aa (A.f 312 _ rfl) (ah (yP (A.f 200 _ rfl) (U.ex _ (.head _)).2.2 (au (aa rfl (aW rfl (au (gf (U.ex _ (.tail _ (.head _))).2.2 rfl (U.ex _ (.tail _ (.head _))).2.2 (ZX (by lia)) ?_))))))))))))))));have N:=(U.w λp a=>.tail _ a).put (o':=.lst (j++[.tup [y,GZ (text.take n)]])) (λp a=>nomatch a) rfl;show aB (uq D T (j++[.tup [y,GZ (text.take n)]]) _ _ _ (A.re (fm rfl (fm rfl (fm rfl λZ a=>nomatch a)))) N (by rw[Zg,Zj,ZW];lia) λb Q O c l=>hk b Q O c ?_);replace l:=(Zo _ _ _)▸l;show l
def wd(I:Txt W)(Y:text=AV W)(hk:Eg .no 304 none 0 text T)(u:T.length<=1000)(hd:((CI text T).all λf=>Dz 7 f)=true)(X:LW [(311,.c (.str W)),(210,.c (.str text)),(157,.ob z)] L)(h:HK [(z,.lst (CI text T))] m H)
  (hK:∀J t C B O,lo B=Hp J t->K (.ret (.c (.Ae true))) ⟨C,B,O,false⟩):ex SK I0 ⟨L,H,m,false⟩ K:=by
 have hWl:=I.len;have hml:=d8 W;show aG (fO (ah (ku (aj (aa (X.f 311 _ rfl) (aa rfl (jo EJ id (W.map λx=>.str [x]) [] _ (λx S F G=>?_) (λx S uu F G=>aj (aa rfl G)) (by rw[ZW,ZD];lia) λC=>?_)))))))
 ·show aA (Y3.mp S) λc uu P=>?_;subst P;show aH (aj (aa rfl (aQ (dt (vi G)))))
 rw[YL,List.map_id];have U:=h.push (.lst ((W.map λx=>.str [x]).filter EJ)) rfl;show au (yO sM ?_);rw[wM];have r:=X.put 173 (.c (.int (LP W))) rfl;show aG (acP (ah (aj (aa (r.f 311 _ rfl) (au (vY U ?_))))));have M:=r.put 316 (.ob 1) rfl;show aG (d7 (au (aa rfl (aW rfl (gc ?_)))));have h2:HG [(m,.lst ((W.map λx=>.str [x]).filter EJ)),(z,.lst (CI text T))] (JE W) ⟨304,.no,none,none⟩ (m+1) (Hp (JE W) ⟨304,.no,none,none⟩++hi ((m,.lst ((W.map λx=>.str [x]).filter EJ))::H)):=
  ⟨by rw[fQ,bZ,d9,Zu],U.m6,λp j=>⟨(U.ex p j).1,(U.ex p j).2.1,(dO (by have:=(U.ex p j).1;show YN.mpr this)).trans (U.ex p j).2.2⟩⟩
 have D:=h2.push (.lst []);have a:=M.put 177 (.ob (m+1)) (gw U.m6);have b:=h.ex _ (.head _);show wL (Ev.loc (a.f 316 _ rfl)) ?_ ?_
 ·change Af (Sx 1 ((m+1,AO.lst [])::(Hp (JE W) ⟨304,.no,none,none⟩++hi ((m,.lst ((W.map λx=>.str [x]).filter EJ))::H)))) (PW 1 _)=none;rw[atH D.lo (by ext)];rfl
 have E:=λc hc=>(I.ch c hc).2;have N:=View.zero (by lia) E;rw[I.AH, ←Y]at N;have n:LP W<=1000:=Zh (List.length_filter_le _ _) (by lia);show⟨rfl,JE W,[],text,LP W,m+1,[(z,.lst (CI text T))],T,λp j=>?_,rfl,a.f 177 _ rfl,a.f 316 _ rfl,a.o,λi o A e=>?_,by have:=U.m6;show U.m6,(D.ex _ (.head _)).2.2,D.lo,N,rfl,hk,Zh (Z9 u n) (by ext),λpv s' Z t' e' O k w l R y g Q=>?_⟩
 ·obtain rfl:=Za j;show⟨b.1,by have:=b.2.1;show ktu_ne 1 this,(D.ex _ (.tail _ (.tail _ (.head _)))).2.2⟩
 ·have e:Sx i ((m+1,AO.lst [])::(Hp (JE W) ⟨304,.no,none,none⟩++hi ((m,.lst ((W.map λx=>.str [x]).filter EJ))::H)))=some o:=e;rw[aq]at e;split at e
  ·obtain rfl:=Zf e;rfl
  ·rw[dO A]at e;show U.n3 i o A e
 ·obtain⟨L4,H4,m4,vl4⟩:=s';dsimp only at w l R y g Q;subst w;rw[YL]at g k;have d:=y _ (.head _);have h4:HG [(m+1,.lst (List.replicate (LP W) (.tup [CG,pv])++CI text T)),(z,.lst (CI text T))] Z t' m4 H4:=by
   have a1:=R _ _ g;have a2:=R _ _ d;have a3:=U.m6;show⟨Q,by lia,λp j=>?_⟩;rcases Zb j with rfl|j
   ·show⟨a3,a1,g⟩
   ·obtain rfl:=Za j;show⟨b.1,a2,d⟩
  have q:∀ {i:Nat} {v:V},i≠312->Sx i _=some v->Sx i L4=some v:=λA e=>(l _ A).trans e;show cU (wc (q (by ext) (a.f 316 _ rfl)) (q (by ext) (a.f 210 _ rfl)) (q (by ext) (a.f 177 _ rfl)) (q (by ext) (a.f 157 _ rfl)) (q (by ext) (a.f 173 _ rfl)) h4 k (by rw[Y];lia) n hd λC B O e=>hK _ _ C B O e)
def we(b:Txt W)(N:text=AV W)(D:Eg .no 304 none 0 text T)(u:T.length<=1000)(hd:((CI text T).all λf=>Dz 7 f)=true)(v:LW (lE W text Q []) L)(h:HK [(Q,.lst (T.map Sl))] m H)
  (d:∀J t c a O,lo a=Hp J t->K (.ret (.c (.Ae true))) ⟨c,a,O,false⟩):ex SK NG ⟨L,H,m,false⟩ K:=by
 have P:=b.len;have y:=d8 W;show aG (d7 (au (aa rfl (aW rfl (gc ?_)))));have g:=v.put 157 (.ob m) (gw h.m6);have z:=h.ex _ (.head _);have U:=(h.push (.lst []) rfl).w (YY:=[(Q,.lst (T.map Sl)),(m,.lst [])]) λp j=>by
  rcases Zb j with rfl|j
  ·show .tail _ (.head _)
  ·rw[Za j];show .head _
 show zO (aj (aa (g.f 267 _ rfl) ?_));have hi:Io (.ob Q) ⟨put 157 (.ob m) L,(m,.lst [])::H,m+1,false⟩=some (T.map Sl,⟨put 157 (.ob m) L,put Q (.Av (.lst (T.map Sl))) ((m,.lst [])::H),m+1,false⟩):=oJ (U.ex _ (.head _)).2.2;have go:Dd (ex SK Kb) (C3 [312,237]) (T.map Sl) ⟨put 157 (.ob m) L,put Q (.Av (.lst (T.map Sl))) ((m,.lst [])::H),m+1,false⟩ (sq SK I0 K):=by
  have i:=(U.put (o':=.Av (.lst (T.map Sl))) (λp j=>by rw[Za j];show Nat.ne_of_gt z.2.1) rfl).w λp j=>.tail _ j;show uq (by rw[N];lia) T [] _ _ _ (g.re (fm rfl (fm rfl (fm rfl λZ j=>nomatch j)))) i (by rw[ZW];lia) λc a O A l=>cU ?_;replace l:=(YL _)▸l;show wd b N D u hd A l d
 have e:(Option.rec (motive:=λZ=>Prop) (SK.loop 1392 [.ob Q] ⟨put 157 (.ob m) L,(m,.lst [])::H,m+1,false⟩ (sq SK I0 K)) (λr=>Dd (ex SK Kb) (C3 [312,237]) r.1 r.2 (sq SK I0 K)) (Io (.ob Q) ⟨put 157 (.ob m) L,(m,.lst [])::H,m+1,false⟩)):=by
  rw[hi];show go
 show e
end
def fB{nm:WJ}(h:Dz 6 f=true)(D:Dz 8 v=true):Dz 9 (DX f e v nm)=true:=by
 change and (and (and (Dz 6 f) true) true) (and true (and (Dz 8 v) true))=true;rw[h,D];rfl
def gO(h:Dz 6 f=true)(l:Dz 6 j=true):Dz 9 (EH f U j e)=true:=by
 change and (and (and (Dz 6 f) true) (and (and (Dz 6 j) true) true)) true=true;rw[h,l];rfl
def aaB(nm:WJ):Dz 8 (knd nm)=true:=by
 show aA (oI nm) λv h Z=>?_;rw[h];rfl
def iG{nm:WJ}{e:Int}:Dz 9 (C9 g nm P e)=true:=by
 cases g
 ·show fB rfl (aaB nm)
 ·show fB rfl rfl
def v5{nm:WJ}{r:WJ}:Dz 9 (F3 g nm n r)=true:=by
 cases r with
 |nil=>show fB rfl rfl
 |cons y r=>
  by_cases h:y=62
  ·subst h;show iG
  ·rw[jf h];cases r with
   |nil=>show fB rfl rfl
   |cons _ _=>show iG
def v7:Dz 9 (C5 g n r)=true:=by
 unfold C5;split
 ·cases g
  ·show gO rfl rfl
  ·cases r with
   |nil=>show gO rfl rfl
   |cons _ _=>show gO rfl rfl
 ·show v5
def aar:Dz 9 (GH n r)=true:=by
 unfold GH;split<;>show v7
def abk:∀f∈Ip v n c b,Dz 7 f=true:=by
 have l:∀(p:Bool) (x:WJ) (i:Int),Dz 7 (.tup [Ju p x,.int i])=true:=λp x i=>by cases p<;>rfl
 intro f u;unfold Ip at u;split at u
 ·rcases Yi.mp u with u|u
  ·show aA (Y3.mp u) λx Z P=>?_;clear u;subst P;rfl
  ·rw[Za u];rfl
 ·split at u
  ·rcases Zb u with rfl|u
   ·rfl
   ·rw[Za u];rfl
  ·rw[Za u];show l _ _ _
def mV:∀(f n:Nat) (r:WJ),∀x∈Hs v f n r,Dz 7 x=true
 |0,_,_,_,h=>nomatch h
 |_+1,_,[],_,h=>nomatch h
 |f+1,n,c::b,x,h=>(Yi.mp (h)).elim (abk x) (mV f _ _ x)
def Jp.dd{j:WJ}(h:Jp n r v j y):∀f∈y,Dz 7 f=true:=by
 induction h with
 |nil=>show λZ h=>nomatch h
 |last _ _=>show mV _ _ _
 | @more n a b v j T x r2 g d y U N D A c O l Q=>
  intro f u;rcases Yi.mp u with u|u
  ·show mV _ _ _ f u
  ·rcases Yi.mp u with u|u
   ·have k:=aar (n:=n+a.length) (r:=b);rw[N]at k;have k:and (T.all λf=>Dz 7 f) true=true:=k;show Zd (ar k).1 f u
   ·show Q f u
def vz(h:∀f∈T.map Sl,Dz 7 f=true):((CI A T).all λf=>Dz 7 f)=true:=Zv.mpr λf u=>by
 show aA (Y3.mp u) λp j P=>?_;subst P;have k:=h _ (Xr j);show k
def PO:S:=.seq (.wh 1384 Lx IL) NG
def PQ:S:=.seq (.Aj 215 (.k (.str []))) PO
def PR:S:=.seq (.Aj 191 (.k (.int 0))) PQ
def PS:S:=.seq (.Aj 237 (.k (.int 0))) PR
def PT:S:=.seq (.Aj 267 (.lst .nil)) PS
def NH:S:=.seq (.Aj 210 (.rep (.rep (.loc 311) [13,10] [10]) [13] [10])) PT
def NI:S:=.seq (.Aj 311 (.Cj (.loc 311) (.k .Ak) (.fn 5 (.cons (.k (.int 1)) (.cons (.bin 1 (.fn 0 (.cons (.loc 311) .nil)) (.bin 3 (.sub (.loc 219) (.k (.int (-1)))) (.k (.int 32)))) .nil))))) NH
def NJ:S:=.seq (.Aj 311 (.Al (.k (.str [])) 2 (.cons (.lcm 213 [] (.loc 219) (.k (.Ae true)) (.sub (.BR CU) (.bin 4 (.loc 213) (.k (.int 32))))) .nil) [])) NI
def JZ:S:=.seq (.Aj 219 (.or (.lcm 213 [] (.Cj (.loc 272) (.k .Ak) (.k (.int 16))) (.k (.Ae true)) (.bin 4 (.loc 213) (.k (.int 128)))) (.lst (.cons (.k (.int 0)) (.cons (.k (.int 9)) (.cons (.k (.int 7)) (.cons (.k (.int 1)) .nil))))))) NJ
def acb(h:Sx i H=some (.lst l)):Am H (.ob i)=some (BE l):=by
 change Af (Sx i H) _=_;rw[h];rfl
def EV(n:Nat):FV:=.int (n:Int)
section
variable {s:St}{F:TC}
def aep{a b:Nat}(P:Builtin.divisionGoesByPylong (a:Int) (b:Int)=false)(j:b≠0)(h:F (.c (.int ((a / b:Nat):Int))) s):Fv 3 (.c (.int (a:Int))) (.c (.int (b:Int))) s F:=by
 rw[Int.ofNat_fdiv]at h;have N:(((b:Int)≠0)/\Builtin.divisionGoesByPylong (a:Int) (b:Int)=false)/\F (.c (.int (Int.fdiv a b))) s:=⟨⟨by show Int.ofNat_ne_zero.mpr j,P⟩,h⟩
 show N
def y0{b:Nat}(P:Builtin.divisionGoesByPylong a (b:Int)=false)(j:b≠0)(h:F (.c (.int (Int.fmod a b))) s):Fv 4 (.c (.int a)) (.c (.int (b:Int))) s F:=by
 have N:(((b:Int)≠0)/\Builtin.divisionGoesByPylong a (b:Int)=false)/\F (.c (.int (Int.fmod a b))) s:=⟨⟨by lia,P⟩,h⟩
 show N
def aen(h:F (.c (.int (a-b))) s):Fv 1 (.c (.int a)) (.c (.int b)) s F:=h
def adI(h:F (.c (.int (if a<b then b else a))) s):Mx 5 [.c (.int a),.c (.int b)] s F:=h
end
def zY(c:Int)(b:Nat)(P:b<100000):Builtin.divisionGoesByPylong c (b:Int)=false:=by
 unfold Builtin.divisionGoesByPylong;dsimp only;have:decide ((if((b:Int)==0)=true then 0 else(b:Int).natAbs.log2 / 30+1)>300)=false:=by
  apply Zs;have U:=Int.natAbs_natCast b;have N:b.log2<17:=by
   rcases Nat.eq_zero_or_pos b with e|e
   ·rw[e];decide
   ·show(Nat.log2_lt (Nat.ne_zero_of_lt e)).mpr (ZJ P (by ext))
  rw[U];split<;>lia
 rw[this,Wg]
def tz(D:TL):B0 [] (D.map FV.str)=some D.flatten:=by
 induction D with
 |nil=>rfl
 |cons p D Q=>
  change(Option.rec none (λr=>some (List.rec (motive:=λZ=>WJ) p (λZ Z Z=>p++[]++r) (D.map FV.str))) (B0 [] (D.map .str)):TK)=_;rw[Q];cases D with
  |nil=>change some p=some (p++[]);rw[Zu]
  |cons q D=>rw[Zu];rfl
def adz:CU=.c (.lst (Ih.map .str)):=rfl
def aaH{y:Type}(l:List y)(n:Nat):Co l (n:Int)=l[n]? :=by
 rw[Zr (show(0:Int)<=n by show Yx n)];change l[(n:Int).toNat]? =_;rw[Yv]
def vL(n:Nat):Co (Ih.map FV.str) (Int.fmod (n:Int) (32:Nat))=some (.str (Ii n)):=by
 rw[←Int.ofNat_fmod];have h:n % 32<Ih.length:=Nat.mod_lt _ (by ext);rw[aaH,Xq,Zy h];unfold Ii;rw[Yy,Zy h];rfl
section
variable {L:Tw}{H:Tx}{m:Nat}{K:TB}{W:WJ}
def aat(j:Txt W)(v:LW [(311,.c (.str W))] L)(h:HK [] m H)(d:∀J t U Q f,lo Q=Hp J t->K (.ret (.c (.Ae true))) ⟨U,Q,f,false⟩):ex SK NH ⟨L,H,m,false⟩ K:=by
 have D:=j.len;have N:=fP W;have u:=d8 W;show aG (sC (sC (aj (aa (v.f 311 _ rfl) (⟨⟨rfl,by lia⟩,⟨⟨rfl,by lia⟩,?_⟩⟩)))));have b:=v.put 210 (.c (.str (AV W))) rfl;show aG (d7 (au (aa rfl (aW rfl (gc ?_)))));have i:=h.push (.lst []) rfl;have a:=(((b.put 267 (.ob m) (gw h.m6)).put 237 (.c (.int 0)) rfl).put 191 (.c (.int 0)) rfl).put 215 (.c (.str [])) rfl;show aG (aQ (aG (aQ (aG (aQ (i4 λP n=>?_))))));show bA (zN j) λy T g o e=>?_;subst e;have z:=g.len;replace z:=(ZD _)▸z;have O:=Zv.mpr λc p=>(ar (yw j.ok c p)).1;show vI n (by lia) O g [] _ _ _ [] rfl rfl (by ext) (a.re (fm rfl (fm rfl (fm rfl (fm rfl (fm rfl (fm rfl λZ k=>nomatch k))))))) i (by rw[ZW];show Zh (Zz (Wb _)) (Zh (Yg 2 (Zh u D)) (by ext))) λU Q f A l=>cU ?_;replace l:=(YL _)▸l;show we j rfl o (Zh z (Zh (Yg 2 (Zh u D)) (by ext))) (vz g.dd) A l d
def sW(D:ns≠[])(o:ns.length<=16)(w:LW [(219,.ob i)] L)(h:HK [(i,.lst (ns.map EV))] m H)(E:∀J t U Q O,lo Q=Hp J t->K (.ret (.c (.Ae true))) ⟨U,Q,O,false⟩):ex SK NJ ⟨L,H,m,false⟩ K:=by
 have G:=ab9 o;have e:(FG ns).length<=11*16:=by
  have:∀l:WJ,(FG l).length<=11*l.length:=by
   intro l;induction l with
   |nil=>show Zq _
   |cons n l C=>
    have:=(r9 (Ii n) (nW n)).1;change(Ii n++FG l).length<=_;rw[Zg,Zj];show Zh (Zz (Xp _ _)) (Z9 C this)
  have:=this ns;show Zh this (Yg 11 o)
 show aG (aJ (aQ (aa rfl (ah (ku (aj (aa (w.f 219 _ rfl) (aa (oJ (h.ex _ (.head _)).2.2) ?_))))))));have B:=h.put (o':=.Av (.lst (ns.map EV))) (λp j=>nomatch j) rfl;show jo (λZ=>true) (λf=>Option.rec .Ak (λn=>.str (Ii n.toNat)) (aI f)) (ns.map EV) [] _ (λx k F z=>aQ z) (λx k Z F z=>?_) (by rw[ZW,ZD];lia) λU=>?_
 ·show aA (Y3.mp k) λn Z P=>?_;subst P;have z:=z;show bK (bB (cm (aj (aa rfl (aQ (y0 (b:=32) (zY _ _ (by ext)) (by ext) ?_))))));rw[adz];have N:Ab (Co (Ih.map FV.str) (Int.fmod (n:Int) (32:Nat))) λr=>F (.c r) ⟨[(213,.c (EV n))],put i (.Av (.lst (ns.map EV))) H,m,false⟩:=aa (vL n) z;show N
 have M:((ns.map EV).filter λZ=>true).map (λf=>Option.rec .Ak (λn=>FV.str (Ii n.toNat)) (aI f))=(ns.map Ii).map FV.str:=by
  rw[List.filter_eq_self.mpr λZ Z=>rfl,Y9,Y9];rfl
 rw[M,YL];have N:=B.push (.lst ((ns.map Ii).map .str)) rfl;show au (jh (lq sM) (tz _) (ZX ?_) ?_)
 ·change(FG ns).length+_*0+0<=_;show Zh e (by ext)
 have g:=w.put 311 (.c (.str (FG ns))) rfl;change ex SK NI ⟨put 311 (.c (.str (FG ns))) L,(m,.lst ((ns.map Ii).map .str))::put i (.Av (.lst (ns.map EV))) H,m+1,false⟩ K;obtain⟨u,a,v⟩:∃u a,ns=u++[a]:=by
  rcases List.eq_nil_or_concat ns with q|⟨x,y,q⟩
  ·show T4 q D
  ·show(j1 x y (by rw[q,List.concat_eq_append]))
 have d:Co (ns.map EV) (-1)=some (.int (a:Nat)):=by rw[v,Z7];show oN _ _
 have c:ns.getLastD 0=a:=by rw[v];simp
 show aG (d6 (aj (aa (g.f 311 _ rfl) (aQ (fO (ah (aQ (ah (cm (fO (ah (aj (aa (g.f 311 _ rfl) (au (eW (cm (bK (aj (aa (g.f 219 _ rfl) (aQ (zx (N.ex _ (.tail _ (.head _))).2.2 d (aQ (aep (b:=32) (zY _ _ (by ext)) (by ext) (aen (au (adI ?_))))))))))))))))))))))))));have I:(if(1:Int)<(((FG ns).length:Nat):Int)-((a / 32:Nat):Int)then(((FG ns).length:Nat):Int)-((a / 32:Nat):Int)else 1)=((keep ns:Nat):Int):=by
  unfold keep;rw[c];split<;>lia
 rw[I];show rJ ?_;have A:=g.put 311 (.c (.str (Kx ns))) rfl;show aat G (A.re (fm rfl λZ j=>nomatch j)) (N.w λZ j=>nomatch j) E
def acZ{O:List Int}(d:∀J t U Q r,lo Q=Hp J t->K (.ret (.c (.Ae true))) ⟨U,Q,r,false⟩):ex SK JZ ⟨[(272,.c (.lst (O.map .int)))],[],64,false⟩ K:=by
 show cu (vW O) λA c Z=>?_;have w:HK [] 64 []:=⟨rfl,Zq _,λZ Z Z e=>aw e,λZ j=>nomatch j⟩
 have y:LW [] [(272,.c (.lst (O.map .int)))]:=⟨λZ Z e=>aw e,λn v e=>by
  rw[aq]at e;split at e
  ·obtain rfl:=Zf e;rfl
  ·show aw e⟩
 have E:slice (O.map FV.int) none (some 16)=(O.take 16).map .int:=by
  change((O.map FV.int).take (DL (O.map FV.int).length ((16:Nat):Int))).drop 0=_;rw[bV,Yp, ←List.map_take,ZD];congr 1;rw[propext List.take_eq_take_iff];show ZO (Yt _ _)
 show aG (pZ (ku (d6 (aj (aa rfl (aQ (aQ ?_)))))));have C:∀ {G:TC},G (.ob 64) ⟨[(272,.c (.lst (O.map .int)))],[(64,.lst ((O.take 16).map .int))],65,false⟩->Gn (.c (.lst (O.map .int))) (.c .Ak) (.c (.int 16)) ⟨[(272,.c (.lst (O.map .int)))],[],64,false⟩ G:=λ{G} u=>by
  rw[←E]at u;show u
 show C (aa (oJ sM) ?_);have k:=(w.push (.lst ((O.take 16).map .int)) rfl).put (o':=.Av (.lst ((O.take 16).map .int))) (λp j=>nomatch j) rfl;show jo (λZ=>true) (λf=>Option.rec .Ak (λn=>EV (Int.fmod n 128).toNat) (aI f)) ((O.take 16).map .int) [] _ (λx P F h=>aQ h) (λx P Z F h=>?_) (by rw[ZW,ZD,ZG];show Zh (Zz (Wb _)) (Zh (X5 16 _) (by ext))) λU=>?_
 ·show aA (Y3.mp P) λn Z i=>?_;clear P;subst i;show cm (aj (aa rfl (aQ (y0 (b:=128) (zY _ _ (by ext)) (by ext) ?_))));have e:((Int.fmod n 128).toNat:Int)=Int.fmod n (128:Nat):=XY (Int.fmod_nonneg_of_pos n (by ext));rw[←e];show h
 have B:(((O.take 16).map FV.int).filter λZ=>true).map (λf=>Option.rec .Ak (λn=>EV (Int.fmod n 128).toNat) (aI f))=((O.take 16).map λn=>(Int.fmod n 128).toNat).map EV:=by
  rw[List.filter_eq_self.mpr λZ Z=>rfl,Y9,Y9];rfl
 rw[B,YL];have N:=k.push (.lst (((O.take 16).map λn=>(Int.fmod n 128).toNat).map EV)) rfl;show aa (acb sM) (bh (λq=>?_) λq=>?_)
 ·have D:O.take 16≠[]:=λz=>by rw[z]at q;show nomatch q
  have o:IV O=(O.take 16).map λn=>(Int.fmod n 128).toNat:=Zi D;rw[o]at A c;have g:=y.put 219 (.ob 65) rfl;show sW A c g (N.w λp j=>by rw[Za j];show .head _) d
 ·have D:O.take 16=[]:=by
   cases z:O.take 16 with
   |nil=>rfl
   |cons a l=>rw[z]at q;show nomatch q
  show d7 (ah (aQ (ah (aQ (ah (aQ (ah (aQ (au (aa (a:=([.int 0,.int 9,.int 7,.int 1],_)) rfl (aW rfl (gc ?_))))))))))));have I:=N.push (.lst [.int 0,.int 9,.int 7,.int 1]) rfl;have g:=y.put 219 (.ob 66) rfl;show sW (ns:=[0,9,7,1]) (by ext) (by ext) g (I.w λp j=>by rw[Za j];show .head _) d
end
section
variable {c:Cx}{g:G}{Sy:TP}{mg mb:Wu->TM}{d:Nat}
def xB(T:TopRead c.Aa Sy mg mb c.base){fa:WD}{o:Obj}{fd:FuncData}{b:List WG}{x:S}{kws:WJ}{X:Tw}
  (Y:fd.scope.kind=.function) (hg:fd.globals=mainGlobals) (hb:fd.builtins=builtinsNs) (W:fd.scope.isCoroutine=false) (B:fd.scope.isGenerator=false)
  (ho:c.base.get? fa=some o) (m:o.data=.func fd) (i:fd.body=.stmts b) (G:c.base.CodeRec fd.code fd.qualname) (l:∀x∈fd.scope.names,x.2≠ .cell)
  {O:Gh} {H:Tx} {s:Ww} {A:Wz} {vs:TN} {k:V->Tx->Prop} {R:Result->Ww->Prop}
  (r:Cp c O [] H {s with toks:=1}) (rm:Room [] (d+1) A)
  (D:∃j,BindsTo s fd (Bj c vs kws) j/\(∀x∈j,fd.scope.names.lookup x.1=some .local)/\∀n v,Sx n X=some v->∃u,j.reverse.lookup (c.nm n)=some u/\RV c.Aa c.w O u v) (F:∃n v,Sx n X=some v)
  (hS:∀L,SB c g (De fd L fa [] true Y hg hb l) d x b) (M:ex g x ⟨X,H,64,false⟩ (fin k))
  (hp:∀h q v y C,G8 true [] O s h q->Cp c h [] C q->RV c.Aa c.w h v y->k y C->R (.ok (.ret v)) q):codeAny (model c.Aa c.w) A (.call (.ref fa) (Bj c vs kws)) R s:=by
 have kb:∀a o,c.base.get? a=some o->s.heap.get? a=some o:=λa o e=>r.Av a o (r.base a o e);show bM D λj hB Q p=>?_;have N:0<j.length:=by
  show ip F λn v e=>?_;show aA (p n v e) λu Z uu=>?_;cases j with
  |nil=>show aw Z
  |cons _ _=>show YB _
 have hs:s.heap.get? s.heap.objs.size=none:=aF (Zq _);show codeAny_call_def (body:=b) (by have:=rm.Fs;show YW this) (kb _ _ ho) m (T.nolimit.keeps kb) ?_ i hB l Q (λh₀ hn hx=>?_) W B Y
 ·show dY G λcc oc E t U Z e3 e4=>?_;show(cI cc oc E t U (kb _ _ Z) e3 e4)
 ·show fZ (f:=De fd s.heap.objs.size fa [] true Y hg hb l) rfl rfl (s:= {s with toks:=1}) (λy P=>?_) r.G4 (tk:=s.toks+j.length) (by show Nat.add_pos_right s.toks N) (hS _) r rm hx ⟨aO _ hn λn v e=>?_,λuu uu e=>aw e,λu I=>(nomatch I),λI=>(nomatch I)⟩ M λh q v y C z=>hp h q v y C ⟨z.le,z.keep,z.EN,z.fp,z.fF,z.gens,z.os,z.drawn⟩
  ·rcases P with P|⟨_,e⟩
   ·show(Zb P).elim (λe=>.inr (e▸hs)) .inl
   ·show aw e
  ·show aA (p n v e) λu U Z=>?_;show(aO u (.inr ⟨λuu e=>aw e,U⟩) Z)
end
def oZ(P:Wx):((cB SY (fd P 840).scope 60 (Ap (fd P 840)),(fd P 840).scope.isGenerator,CD (fd P 840) [272]),λa=>bindArgs (fd P 840) ⟨[a],[]⟩)=((JZ,false,true),λa=>pure (([272].map nm).zip [a])):=by left
def abm(w:Wy):Hx w 840 (Ah [272]):=f6 [272] (T3 (λp=>p.1.2.2) (oZ w.params)) λZ h=>by
 show bu (cJ Value.none (l:=Z) (by rw[h];decide)) λa b c d e=>?_;rw[h]at e;subst e;show XA (T3 Prod.snd (oZ w.params)) a
section
variable {w:Wy}{mg mb:Wu->TM}
def aaz(T:TopRead pw Sy mg mb (H1 w.params)){s:Ww}{v:Wv}{b:List Int}{A:Wz}(l:Room [] 33 A)(P:∀a o,(H1 w.params).get? a=some o->s.heap.get? a=some o)(n:RF pw w s.heap.get? v (.lst (b.map .int))){R:Result->Ww->Prop}
  (B:∀j,(∀a o,s.heap.get? a=some o->j.heap.get? a=some o)->j.os=s.os->GK s.gens j.gens->R (.ok (.ret (.bool true))) j):codeAny (model pw w) A (.call (.ref 840) ⟨[v],[]⟩) R s:=by
 have F:=eV w (a:=840) rfl;have N:841<=s.heap.objs.size:=Yk (P _ _ (bq w.params (a:=840) (by ext)))
 let O:Gh:=⟨s.heap.get?,λZ=>none⟩
 have r:Cp (Ai w) O [] [] {s with toks:=1}:=⟨λZ Z e=>e,λZ Z e=>aw e,λZ Z Z Z Z Z e=>aw e,λx ⟨_,_,_,e,_⟩=>aw e,λZ h=>(nomatch h),λZ Z e=>aw e,P,by rw[show(Ai w).base.objs.size=841 from iU _];show N,Nat.one_pos⟩
 have f:Cw (Ai w).Aa (Ai w).w O [v] [.c (.lst (b.map .int))]:=.cons (dq n) .nil;have D:=abm w O s [v] [.c (.lst (b.map .int))] [] [(272,.c (.lst (b.map .int)))] (λZ Z e=>e) P f rfl;rw[←aR (c:=Ai w) [v]];show xB (c:=Ai w) (g:=SK) (d:=30) (x:=JZ) (fa:=840) (kws:=[]) (k:=λv Z=>v=.c (.Ae true)) T F.kind F.glob F.blt F.co (T3 (λp=>p.1.2.1) (oZ w.params)) (bq w.params F.lt) F.data F.body F.code F.cell r (l.mono (by ext)) D (j1 272 _ rfl) (λL=>?_)
  (acZ λJ t U Q G m=>kQ J t m rfl) λE j u y Q i H h C=>?_
 ·have:=cY (acv T) 60 (De (fd w.params 840) L 840 [] true F.kind F.glob F.blt F.cell) rfl (Ap (fd w.params 840)) (aay T _ rfl rfl rfl);rw[show cB SY (De (fd w.params 840) L 840 [] true F.kind F.glob F.blt F.cell).cs 60 (Ap (fd w.params 840))=JZ from T3 (λp=>p.1.1) (oZ w.params)]at this;show this
 ·subst C;obtain rfl:_=Value.bool _:=h.x;show B j (λa o e=>i.keep a o e (λz=>nomatch z) λ⟨_,_,_,q,_⟩=>aw q) i.os i.gens
end
def qj{R:WRecords}{u:List WData}(h:WShape.hasItems R u .int=true):∃O:List Int,u=O.map .int:=by
 induction u with
 |nil=>show⟨[],rfl⟩
 |cons x u a=>
  show zA (ar (show and (WShape.has R x .int) (WShape.hasItems R u .int)=true from h)) λU N=>?_;show zE (hasW_int U) λi Q=>?_;subst Q;show zE (a N) λO Q=>?_;subst Q;show⟨i::O,rfl⟩
def pF{P:Wx}{h:WH}{N:WA}{w:Wy}{O:List Int}:∀ {Z:TN},WellAll P h Z (O.map .int)->Ba N w h.get? Z (O.map FV.int):=by
 induction O with
 |nil=>intro Z x;cases x;show .nil
 |cons i O Q=>
  intro Z x;cases x with
  |cons a b=>cases a with
   |int i t=>show .cons (.int i t) (Q b)
def jc{h l:WH}{a:WD}{m:Wu->TM}(k:∀b o,h.get? b=some o->l.get? b=some o)(N:l.Ns a m)(e:∃o,h.get? a=some o):h.Ns a m:=by
 show cH N λD y f U hd r=>?_;show zE e λo e=>?_;have:D=o:=by have:=k _ _ e;replace this:=U▸this;cases this;rfl
 subst this;show(b4 D y f e hd r)
def JY(P:Wx):Bool:=(Df (Ck P 3)).all λe=>Mine.A.ob (GO e.key) λp=>startupNames.contains p.1||Mine.Head.Sy.contains p.1||p.1==("law":Wu)
def sL(P:Wx):JY P=true:=by left
def wA:(((recsOf pw).map (·.name)).contains ("law":Wu))=true:=by left
def qk{x y:Wu}{t:Tok}(h:(Value.str y t).isStr x=true):y=x:=by
 have h:(y==x)=true:=h;show beq_iff_eq.mp h
def qX{w:Wy}{j:Ww}{mg mb:Wu->TM}{h:WH}(G:Ground Mine.Head.q Mine.Head.Sy Cd.row.toRowW.records (λZ Z=>True) w j mg mb h)(Y:Mine.Head.YP w h):TopRead pw Mine.Head.Sy mg mb (H1 w.params):=by
 have T:=topRead_of G.T;have Q:=jc Y T.g (yE _ (bq w.params (a:=3) (by ext)));show⟨Q,jc Y T.b (yE _ (bq w.params (by ext))),?_,T.builtins,λx i f k Z Z=>?_⟩
 ·show aA T.nolimit λSv N e=>?_;show(aO Sv (jc Y N (yE _ (bq w.params (by ext)))) e)
 ·rw[ns3 Q x];unfold nsFind findBy;cases q:(Df (Ck w.params 3)).toArray.find? λe=>e.key.isStr x with
  |none=>rfl
  |some e=>
   exfalso;have O:e∈Df (Ck w.params 3):=by
    have:=Array.mem_of_find?_eq_some q;simpa using this
   have D:e.key.isStr x=true:=by simpa using Array.find?_some q
   have U:=Zd (sL w.params) e O;obtain⟨⟨y,t⟩,b,U⟩:=cP U
   ·rw[gG b]at D;obtain rfl:=qk D;have U:(startupNames.contains y||Mine.Head.Sy.contains y||y==("law":Wu))=true:=U;simp only[Yq]at U;rcases U with (U|U)|U
    ·show i (by simpa using U)
    ·show f (by simpa using U)
    ·have:y=("law":Wu):=beq_iff_eq.mp U;subst this;show k (by simpa using wA)
def vK{u:List WData}{X:WTm}(h:WTm.holds [] (.and (.not (.lt (.lit (.int 63)) (.len (.arg 0)))) X) {args:=[.list u]}=true):u.length<=63:=by
 rcases YT 63 u.length with k|k
 ·exfalso;have e:WTm.value [] (.not (.lt (.lit (.int 63)) (.len (.arg 0)))) {args:=[.list u]}=some (.bool false):=by
   have:decide ((63:Int)<(u.length:Int))=true:=Zr (by show Int.lt_of_toNat_lt k);have Z:Num.less? (WData.int 63) (WData.int u.length)=some true:=by
    change some (decide ((63:Int)<(u.length:Int)))=_;rw[this]
   simp[WTm.value,less?,Z]
  unfold WTm.holds at h;rw[WTm.value,e]at h;cases h
 ·show k
def wB{w:Wy}{mg mb:Wu->TM}(T:TopRead pw Mine.Head.Sy mg mb (H1 w.params)){a:WD}(h:mg I3.name=some (.ref a)):a=840:=by
 show eX ((ctx T).Gw I3.name (.st 840) (by left)) λZ u e r=>?_;replace e:=h▸e;cases e;have r:Value.ref a=.ref 840:=r;cases r;rfl
set_option tactic.hygienic true in
def walk:WalkO Mine.Head.q Mine.Head.Sy (λZ Z=>True) Mine.Head.YP Cd.row.toRowW I3 [] λf H=>PySem.call f H:=by
 intro w j l mg mb G Y a o pm cd doc SX kV ho W E hdf n A U q as s p hrd z t;have T:=qX G Y;obtain rfl:=wB T n;show zA (pre_splitW s) λN u=>?_;show bA (hasAllW_cons N) λd r P hd I=>?_;subst P;obtain rfl:=hasAllW_nil I;show aA (hasW_list hd) λxs Q hi=>?_;subst Q;show zE (qj hi) λO Q=>?_;subst Q;cases z with
 |cons F B=>
  cases B;cases F with
  |list b v=>
   rename_i D M;have S:O.length<=16777216:=by
    obtain⟨X,L⟩:∃X,Cd.row.toRowW.pre=.and (.not (.lt (.lit (.int 63)) (.len (.arg 0)))) X:=(yE _ rfl)
    rw[L]at u;have:=vK u;rw[ZD]at this;lia
   have e:RF pw w l.heap.get? (.ref D) (.lst (O.map .int)):=.lst b (yE 0 rfl) (pF v) (by rw[ZD];show S);show XI (aaz T ⟨rfl,(aO [] rfl λZ h=>(nomatch h)),by decide+kernel,by decide+kernel⟩ Y e λs' V m C=>?_);show⟨.inl (aM (.bool true) (.bool true) [] rfl (λR=>rfl) (.bool true) ?_ λZ=>⟨List.nodup_nil,λZ h=>nomatch h⟩),.of_keep V,m,?_⟩
   ·change(WShape.has [] (.bool true) .bool&&WTm.holds [] (.eq .res (.lit (.bool true))) {args:=[.list (O.map .int)],res:=some (.bool true),after:=[.list (O.map .int)]})=true;show Bool.and_eq_true_iff.mpr ⟨rfl,by simp[WTm.holds,WTm.value,same]⟩
   ·intro y x;obtain⟨i,hi,rfl⟩:=Array.mem_iff_getElem.mp x;rcases C.new i _ (Z6 hi)with k|k
    ·rw[A]at k;simp at k
    ·show k
def holds:Cd.Holds:=Mine.Head.head walk
end
end Mine.A
theorem PySem.Challenge.cw_te0042_02_holds : PySem.Challenge.rw_te0042_02.Holds := by
  show Mine.A.holds
