import PyProof.Rows.All
import OpenK.AllK
import Lean
import Wide.All
import KE.KEqDict
import KE.KDictOf
import Wide.FinOn
import PySem.Challenge.RW_te0042_02
open PySem PySem.W PyProof.Rows
set_option Elab.async false
set_option maxRecDepth 100000
set_option maxHeartbeats 0
set_option bootstrap.genMatcherCode false
set_option genSizeOf false
set_option genInjectivity false
set_option genCtorIdx false
set_option backward.match.sparseCases false
set_option compiler.extract_closed false
set_option linter.all false
set_option tactic.hygienic false
local macro_rules (kind:=Lean.Parser.Command.declaration)
 |x=>if !["def","abbrev"].contains x[1][0].getAtomVal||!x[0][4].isNone then throw .unsupportedSyntax else if x[1][0].getAtomVal=="abbrev"||x[1][1][0].getId.getString!.front.isUpper then return x.setArg 0 (x[0].setArg 4 (Lean.mkNullNode #[.node .none `Lean.Parser.Command.noncomputable #[Lean.mkAtom "noncomputable"]]))else return x.setArg 1 (.node .none `Lean.Parser.Command.theorem #[Lean.mkAtom "theorem",x[1][1],.node .none `Lean.Parser.Command.declSig #[x[1][2][0],x[1][2][1][0]],x[1][3]])
set_option linter.defProp false
namespace Mine
set_option backward.match.sparseCases true
theorem Za (h : a ∈ [b]) : a = b := List.mem_singleton.mp h
theorem Zb (h : a ∈ b :: l) : a = b ∨ a ∈ l := List.mem_cons.mp h
theorem Zc {p : α → Prop} (h : p a ∧ ∀ x ∈ l, p x) : ∀ x ∈ a :: l, p x := List.forall_mem_cons.mpr h
theorem Zd (h : List.all l p = true) : ∀ x ∈ l, p x = true := List.all_eq_true.mp h
theorem Ze {l : List α} (h : l.isEmpty = true) : l = [] := List.isEmpty_iff.mp h
def Zf:=@Option.some.inj
def Zg:=@List.length_append
def Zh:=@Nat.le_trans
def Zi:=@if_neg
def Zj:=@List.length_cons
def Zk:=@if_pos
def Zl:=@List.mem_singleton
def Zm:=@of_decide_eq_true
def Zn:=@wpAny_bind
def Zo:=@List.append_assoc
def Zp:=@Bool.and_eq_true
def Zq:=@Nat.le_refl
def Zr:=@decide_eq_true
def Zs:=@decide_eq_false
def Zt:=@List.mem_cons
def Zu:=@List.append_nil
def Zv:=@List.all_eq_true
def Zw:=@Heap.get?_push_of_some
def Zx:=@List.forall_mem_cons
def Zy:=@List.getElem?_eq_getElem
def Zz:=@Nat.le_of_eq
def ZA:=@of_decide_eq_false
def ZC:=@Nat.eq_of_beq_eq_true
def ZD:=@List.length_map
def ZE:=@wpAny_pure
def ZF:=@Nat.zero_le
def ZG:=@List.length_take
def ZH:=@Nat.add_le_add_left
def ZI:=@List.cons.inj
def ZJ:=@Nat.lt_of_lt_of_le
def ZK:=@Nat.le_of_add_right_le
def ZL:=@Heap.get?_push_size
def ZM:=@List.length_drop
def ZN:=@Nat.le_of_lt_succ
def ZO:=@Nat.min_eq_left
def ZP:=@List.size_toArray
def ZQ:=@Nat.le_of_ble_eq_true
def ZR:=@Nat.le_add_right
def ZS:=@List.isEmpty_iff
def ZT:=@wpAny_mono
def ZU:=@Nat.eq_or_lt_of_le
def ZV:=@Nat.add_le_add_right
def ZW:=@List.length_nil
def ZX:=@Nat.ble_eq_true_of_le
def ZY:=@wpAny_holding
def ZZ:=@Nat.add_right_comm
def Z0:=@Nat.le_add_left
def Z1:=@Nat.succ_le_succ
def Z2:=@List.takeWhile_cons
def Z3:=@Nat.ne_of_lt
def Z4:=@Nat.lt_succ_self
def Z5:=@List.takeWhile_prefix
def Z6:=@Array.getElem?_eq_getElem
def Z7:=@List.map_append
def Z8:=@Bool.not_eq_true'
def Z9:=@Nat.add_le_add
def Yb:=@Nat.lt_of_le_of_lt
def Yc:=@List.take_append_drop
def Yd:=@List.length_replicate
def Ye:=@List.map_cons
def Yg:=@Nat.mul_le_mul_left
def Yh:=@List.drop_eq_getElem_cons
def Yi:=@List.mem_append
def Yj:=@Nat.le_of_succ_le
def Yk:=@Heap.lt_size
def Yl:=@List.not_mem_nil
def Ym:=@List.prefix_iff_eq_take
def Yn:=@Nat.add_assoc
def Yo:=@Nat.le_of_lt
def Yp:=@List.drop_zero
def Yq:=@Bool.or_eq_true
def Yr:=@Array.getElem?_setIfInBounds
def Ys:=@Option.bind_some
def Yt:=@Nat.min_le_right
def Yu:=@decide_eq_true_eq
def Yv:=@Int.toNat_natCast
def Yw:=@beq_iff_eq
def Yx:=@Int.natCast_nonneg
def Yy:=@List.getD_eq_getElem?_getD
def Yz:=@wpAny_standAt
def YA:=@Nat.lt_irrefl
def YB:=@Nat.succ_pos
def YC:=@List.take_length
def YD:=@List.drop_eq_nil_of_le
def YE:=@sizeLine_eq
def YF:=@List.eq_nil_of_length_eq_zero
def YH:=@List.getElem?_toArray
def YI:=@List.drop_drop
def YJ:=@Nat.succ_add_eq_add_succ
def YK:=@Nat.le_antisymm
def YL:=@List.nil_append
def YM:=@wpAny_toks
def YN:=@Nat.not_lt
def YO:=@Nat.lt_add_right
def YQ:=@Nat.add_sub_cancel_left
def YR:=@List.all_cons
def YS:=@Eq.symm
def YT:=@Nat.lt_or_ge
def YU:=@List.drop_left
def YV:=@Nat.add_sub_of_le
def YW:=@Nat.lt_of_add_right_lt
def YX:=@Nat.le_succ
def YZ:=@wpAny_loadPart'
def Y0:=@Decidable.byContradiction
def Y1:=@List.cons_prefix_cons
def Y2:=@List.cons_append
def Y3:=@List.mem_map
def Y4:=@Nat.le_succ_of_le
def Y5:=@beq_eq_false_iff_ne
def Y6:=@List.dropWhile_cons
def Y7:=@Int.ofNat_add_ofNat
def Y8:=@Array.length_toList
def Y9:=@List.map_map
def Xa:=@Int.ofNat_lt
def Xb:=@Nat.ne_of_beq_eq_false
def Xc:=@Nat.le_of_succ_le_succ
def Xd:=@Nat.le_add_right_of_le
def Xe:=@Array.getElem?_eq_none
def Xf:=@beq_self_eq_true
def Xg:=@List.lookup_cons
def Xh:=@List.getElem_mem
def Xi:=@List.takeWhile_cons_of_pos
def Xj:=@List.isPrefixOf_iff_prefix
def Xk:=@Nat.le_of_add_left_le
def Xl:=@List.mem_append_right
def Xm:=@List.getElem?_eq_none
def Xn:=@List.cons_lt_cons_iff
def Xo:=@Option.isNone_iff_eq_none
def Xp:=@Nat.add_comm
def Xq:=@List.getElem?_map
def Xr:=@List.mem_map_of_mem
def Xu:=@wpAny_execs_cons
def Xv:=@Nat.succ_lt_succ
def Xw:=@List.getLast?_eq_some_getLast
def Xx:=@Nat.lt_of_le_of_ne
def Xy:=@List.append_eq_nil_iff
def Xz:=@Calls.callWith_builtin
def XA:=@congrFun
def XB:=@Bool.true_and
def XC:=@Nat.sub_le_iff_le_add
def XD:=@Nat.le_of_sub_eq_zero
def XE:=@List.lookup_cons_self
def XF:=@wpAny_truthy_bool
def XG:=@List.flatten_cons
def XH:=@Fast.te17119622794617984870
def XI:=@wpAny_call
def XJ:=@Nat.not_succ_le_zero
def XM:=@List.mem_append_left
def XN:=@List.takeWhile_cons_of_neg
def XO:=@Calls.Name_function_global
def XQ:=@Int.le_trans
def XR:=@Nat.le_of_not_lt
def XS:=@List.take_prefix
def XT:=@List.prefix_refl
def XU:=@List.cons_ne_nil
def XW:=@List.length_pos_iff
def XY:=@Int.toNat_of_nonneg
def XZ:=@seg_execs_nil
def X0:=@Int.ofNat_inj
def X2:=@Int.neg_ofNat_le_natCast
def X3:=@wpAny_execs_nil
def X4:=@Nat.not_lt_zero
def X5:=@Nat.min_le_left
def X6:=@List.find?_cons
def X7:=@wpAny_of_eq
def X8:=@List.getLast?_cons_cons
def X9:=@List.filter_cons_of_pos
def Wa:=@List.filter_cons_of_neg
def Wb:=@Nat.zero_add
def Wc:=@seg_execs_cons
def We:=@List.take_left
def Wf:=@List.drop_take
def Wg:=@Bool.false_and
def Wh:=@Nat.lt_of_succ_lt_succ
def Wi:=@Nat.add_lt_of_lt_sub'
def Wj:=@List.take_eq_take_min
def Wk:=@typeIs_str
def Wl:=@Nat.sub_le
def Wm:=@List.any_eq_true
def Wn:=@List.take_nil
def Wo:=@Int.lt_irrefl
def Wp:=@Bool.or_false
def Wq:=@Nat.le_zero
def Ws:=@Nat.sub_le_sub_right
def Wt:=@List.drop_append_of_le_length
abbrev Wu:=PySem.Str
abbrev Wv:=PySem.Value
abbrev Ww:=PySem.Shared
abbrev Wx:=PySem.Params
abbrev Wy:=PySem.World
abbrev Wz:=PySem.Around
abbrev WA:=PySem.Program
abbrev WB:=PySem.OsState
abbrev WC:=PySem.DictEntry
abbrev WD:=PySem.Addr
abbrev WE:=PySem.Expr
abbrev WG:=PySem.Stmt
abbrev WH:=PySem.Heap
abbrev WI:=PySem.Keyword
abbrev WJ:=List Nat
@[elab_as_elim] def af {p:α->Prop} (h:a=b) (e:p b):p a:=h▸e
@[elab_as_elim] def ai {p:α->Prop} (h:a=b) (e:p a):p b:=h▸e
def j2{A:α->β->Prop}(x:α)(y:β)(a:A x y):∃x y,A x y:=⟨x,y,a⟩
def iq{A:α->β->Prop}{P:Prop}(h:∃x y,A x y)(k:∀x y,A x y->P):P:=h.elim λx h=>h.elim (k x)
def gp{A:α->β->γ->Prop}(x:α)(y:β)(z:γ)(a:A x y z):∃x y z,A x y z:=⟨x,j2 y z a⟩
def pH{A:α->β->γ->Prop}{P:Prop}(h:∃x y z,A x y z)(k:∀x y z,A x y z->P):P:=h.elim λx h=>iq h (k x)
def bu{A:α->β->γ->δ->Prop}{P:Prop}(h:∃x y z u,A x y z u)(k:∀x y z u,A x y z u->P):P:=h.elim λx h=>pH h (k x)
def bR{A:α->β->γ->δ->Prop}(x:α)(y:β)(z:γ)(u:δ)(a:A x y z u):∃x y z u,A x y z u:=⟨x,gp y z u a⟩
def zf{A:α->β->γ->δ->ε->Prop}{P:Prop}(h:∃x y z u v,A x y z u v)(k:∀x y z u v,A x y z u v->P):P:=h.elim λx h=>bu h (k x)
def zg{A:α->β->γ->δ->ε->Prop}(x:α)(y:β)(z:γ)(u:δ)(v:ε)(a:A x y z u v):∃x y z u v,A x y z u v:=⟨x,bR y z u v a⟩
def nq{A:α->β->γ->δ->ε->ζ->Prop}(x:α)(y:β)(z:γ)(u:δ)(v:ε)(w:ζ)(a:A x y z u v w):∃x y z u v w,A x y z u v w:=⟨x,zg y z u v w a⟩
def nj{A:α->β->γ->δ->ε->ζ->Prop}{P:Prop}(h:∃x y z u v w,A x y z u v w)(k:∀x y z u v w,A x y z u v w->P):P:=h.elim λx h=>zf h (k x)
def qT{A:α->β->γ->δ->ε->ζ->η->Prop}{P:Prop}(h:∃x y z u v w r,A x y z u v w r)(k:∀x y z u v w r,A x y z u v w r->P):P:=h.elim λx h=>nj h (k x)
def qU{A:α->β->γ->δ->ε->ζ->η->Prop}(x:α)(y:β)(z:γ)(u:δ)(v:ε)(w:ζ)(r:η)(a:A x y z u v w r):∃x y z u v w r,A x y z u v w r:=⟨x,nq y z u v w r a⟩
def aA{A B:α->Prop}{P:Prop}(h:∃x,A x/\B x)(k:∀x,A x->B x->P):P:=h.elim λx j=>k x j.1 j.2
def zA{A B:Prop}{P:Prop}(h:A/\B)(k:A->B->P):P:=k h.1 h.2
def aO{A B:α->Prop}(x:α)(a:A x)(b:B x):∃x,A x/\B x:=⟨x,⟨a,b⟩⟩
def yE{A:α->Prop}(x:α)(a:A x):∃x,A x:=⟨x,a⟩
def zE{A:α->Prop}{P:Prop}(h:∃x,A x)(k:∀x,A x->P):P:=h.elim λx h=>k x h
def ay{A B:α->β->γ->Prop}(x:α)(y:β)(z:γ)(a:A x y z)(b:B x y z):∃x y z,A x y z/\B x y z:=(gp x y z ⟨a,b⟩)
def aU{A B:α->β->Prop}(x:α)(y:β)(a:A x y)(b:B x y):∃x y,A x y/\B x y:=(j2 x y ⟨a,b⟩)
def aX{A B:α->β->Prop}{P:Prop}(h:∃x y,A x y/\B x y)(k:∀x y,A x y->B x y->P):P:=iq h λx y j=>k x y j.1 j.2
def cu{A B C:Prop}{P:Prop}(h:A/\B/\C)(k:A->B->C->P):P:=k h.1 h.2.1 h.2.2
def aY{A B C D:α->Prop}(x:α)(a:A x)(b:B x)(c:C x)(d:D x):∃x,A x/\B x/\C x/\D x:=⟨x,⟨a,b,c,d⟩⟩
def bM{A B C:α->Prop}{P:Prop}(h:∃x,A x/\B x/\C x)(k:∀x,A x->B x->C x->P):P:=h.elim λx j=>k x j.1 j.2.1 j.2.2
def a8{A B C:α->β->Prop}(x:α)(y:β)(a:A x y)(b:B x y)(c:C x y):∃x y,A x y/\B x y/\C x y:=(j2 x y ⟨a,b,c⟩)
def bA{A B C:α->β->Prop}{P:Prop}(h:∃x y,A x y/\B x y/\C x y)(k:∀x y,A x y->B x y->C x y->P):P:=iq h λx y j=>k x y j.1 j.2.1 j.2.2
def bY{A B C D:Prop}{P:Prop}(h:A/\B/\C/\D)(k:A->B->C->D->P):P:=k h.1 h.2.1 h.2.2.1 h.2.2.2
def ck{A B C:α->Prop}(x:α)(a:A x)(b:B x)(c:C x):∃x,A x/\B x/\C x:=⟨x,⟨a,b,c⟩⟩
def aK{A B C D E:α->β->γ->Prop}{P:Prop}(h:∃x y z,A x y z/\B x y z/\C x y z/\D x y z/\E x y z)(k:∀x y z,A x y z->B x y z->C x y z->D x y z->E x y z->P):P:=pH h λx y z j=>k x y z j.1 j.2.1 j.2.2.1 j.2.2.2.1 j.2.2.2.2
def bC{A B:α->β->γ->Prop}{P:Prop}(h:∃x y z,A x y z/\B x y z)(k:∀x y z,A x y z->B x y z->P):P:=pH h λx y z j=>k x y z j.1 j.2
def cV{A B:Prop}{C:α->Prop}{P:Prop}(h:A/\B/\∃x,C x)(k:A->B->∀x,C x->P):P:=h.2.2.elim λx j=>k h.1 h.2.1 x j
def aM{A B C D E:α->β->γ->Prop}(x:α)(y:β)(z:γ)(a:A x y z)(b:B x y z)(c:C x y z)(d:D x y z)(e:E x y z):∃x y z,A x y z/\B x y z/\C x y z/\D x y z/\E x y z:=(gp x y z ⟨a,b,c,d,e⟩)
def bO{A B C D:α->Prop}{P:Prop}(h:∃x,A x/\B x/\C x/\D x)(k:∀x,A x->B x->C x->D x->P):P:=h.elim λx j=>k x j.1 j.2.1 j.2.2.1 j.2.2.2
def bj{A B C D E:α->β->Prop}(x:α)(y:β)(a:A x y)(b:B x y)(c:C x y)(d:D x y)(e:E x y):∃x y,A x y/\B x y/\C x y/\D x y/\E x y:=(j2 x y ⟨a,b,c,d,e⟩)
def bG{A B C D:α->β->Prop}(x:α)(y:β)(a:A x y)(b:B x y)(c:C x y)(d:D x y):∃x y,A x y/\B x y/\C x y/\D x y:=(j2 x y ⟨a,b,c,d⟩)
def eX{A:Prop}{B C:α->Prop}{P:Prop}(h:A/\∃x,B x/\C x)(k:A->∀x,B x->C x->P):P:=h.2.elim λx j=>k h.1 x j.1 j.2
def bI{A:Prop}{B C D E:α->β->Prop}{P:Prop}(h:A/\∃x y,B x y/\C x y/\D x y/\E x y)(k:A->∀x y,B x y->C x y->D x y->E x y->P):P:=iq h.2 λx y j=>k h.1 x y j.1 j.2.1 j.2.2.1 j.2.2.2
def b4{A B C:α->β->γ->Prop}(x:α)(y:β)(z:γ)(a:A x y z)(b:B x y z)(c:C x y z):∃x y z,A x y z/\B x y z/\C x y z:=(gp x y z ⟨a,b,c⟩)
def cH{A B C:α->β->γ->Prop}{P:Prop}(h:∃x y z,A x y z/\B x y z/\C x y z)(k:∀x y z,A x y z->B x y z->C x y z->P):P:=pH h λx y z j=>k x y z j.1 j.2.1 j.2.2
def cg{A B C D:α->β->γ->Prop}(x:α)(y:β)(z:γ)(a:A x y z)(b:B x y z)(c:C x y z)(d:D x y z):∃x y z,A x y z/\B x y z/\C x y z/\D x y z:=(gp x y z ⟨a,b,c,d⟩)
def iX{A:α->Prop}{B:α->β->Prop}{P:Prop}(h:∃x,A x/\∃y,B x y)(k:∀x,A x->∀y,B x y->P):P:=h.elim λx j=>j.2.elim λy U=>k x j.1 y U
def bQ{A:Prop}{B C D E F:α->β->Prop}{P:Prop}(h:A/\∃x y,B x y/\C x y/\D x y/\E x y/\F x y)(k:A->∀x y,B x y->C x y->D x y->E x y->F x y->P):P:=iq h.2 λx y j=>k h.1 x y j.1 j.2.1 j.2.2.1 j.2.2.2.1 j.2.2.2.2
def bg{A B C D E F:α->β->γ->δ->ε->ζ->η->Prop}{P:Prop}(h:∃x y z u v w r,A x y z u v w r/\B x y z u v w r/\C x y z u v w r/\D x y z u v w r/\E x y z u v w r/\F x y z u v w r)(k:∀x y z u v w r,A x y z u v w r->B x y z u v w r->C x y z u v w r->D x y z u v w r->E x y z u v w r->F x y z u v w r->P):P:=qT h λx y z u v w r j=>k x y z u v w r j.1 j.2.1 j.2.2.1 j.2.2.2.1 j.2.2.2.2.1 j.2.2.2.2.2
def j3{A:α->Prop}{B:α->β->Prop}(x:α)(a:A x)(y:β)(b:B x y):∃x,A x/\∃y,B x y:=⟨x,⟨a,⟨y,b⟩⟩⟩
def dZ{A B C D:α->β->Prop}{P:Prop}(h:∃x y,A x y/\B x y/\C x y/\D x y)(k:∀x y,A x y->B x y->C x y->D x y->P):P:=iq h λx y j=>k x y j.1 j.2.1 j.2.2.1 j.2.2.2
def bk{A B C D E F:α->β->γ->δ->ε->ζ->η->Prop}(x:α)(y:β)(z:γ)(u:δ)(v:ε)(w:ζ)(r:η)(a:A x y z u v w r)(b:B x y z u v w r)(c:C x y z u v w r)(d:D x y z u v w r)(e:E x y z u v w r)(f:F x y z u v w r):∃x y z u v w r,A x y z u v w r/\B x y z u v w r/\C x y z u v w r/\D x y z u v w r/\E x y z u v w r/\F x y z u v w r:=(qU x y z u v w r ⟨a,b,c,d,e,f⟩)
def bJ{A B C D E:α->β->γ->δ->ε->ζ->Prop}(x:α)(y:β)(z:γ)(u:δ)(v:ε)(w:ζ)(a:A x y z u v w)(b:B x y z u v w)(c:C x y z u v w)(d:D x y z u v w)(e:E x y z u v w):∃x y z u v w,A x y z u v w/\B x y z u v w/\C x y z u v w/\D x y z u v w/\E x y z u v w:=(nq x y z u v w ⟨a,b,c,d,e⟩)
def cI{A B C D:α->β->γ->δ->Prop}(x:α)(y:β)(z:γ)(u:δ)(a:A x y z u)(b:B x y z u)(c:C x y z u)(d:D x y z u):∃x y z u,A x y z u/\B x y z u/\C x y z u/\D x y z u:=(bR x y z u ⟨a,b,c,d⟩)
def gF{A B:α->Prop}{C:α->β->Prop}(x:α)(a:A x)(b:B x)(y:β)(c:C x y):∃x,A x/\B x/\∃y,C x y:=⟨x,⟨a,b,⟨y,c⟩⟩⟩
def dH{A B C D E:α->β->Prop}{P:Prop}(h:∃x y,A x y/\B x y/\C x y/\D x y/\E x y)(k:∀x y,A x y->B x y->C x y->D x y->E x y->P):P:=iq h λx y j=>k x y j.1 j.2.1 j.2.2.1 j.2.2.2.1 j.2.2.2.2
def ir{A B C D E:Prop}{P:Prop}(h:A/\B/\C/\D/\E)(k:A->B->C->D->E->P):P:=k h.1 h.2.1 h.2.2.1 h.2.2.2.1 h.2.2.2.2
def cF{A B C D E F:α->β->γ->Prop}(x:α)(y:β)(z:γ)(a:A x y z)(b:B x y z)(c:C x y z)(d:D x y z)(e:E x y z)(f:F x y z):∃x y z,A x y z/\B x y z/\C x y z/\D x y z/\E x y z/\F x y z:=(gp x y z ⟨a,b,c,d,e,f⟩)
def fL{A B C D E:α->Prop}(x:α)(a:A x)(b:B x)(c:C x)(d:D x)(e:E x):∃x,A x/\B x/\C x/\D x/\E x:=⟨x,⟨a,b,c,d,e⟩⟩
def dY{A B C D:α->β->γ->δ->Prop}{P:Prop}(h:∃x y z u,A x y z u/\B x y z u/\C x y z u/\D x y z u)(k:∀x y z u,A x y z u->B x y z u->C x y z u->D x y z u->P):P:=bu h λx y z u j=>k x y z u j.1 j.2.1 j.2.2.1 j.2.2.2
def fg{A B C D:α->β->γ->Prop}{P:Prop}(h:∃x y z,A x y z/\B x y z/\C x y z/\D x y z)(k:∀x y z,A x y z->B x y z->C x y z->D x y z->P):P:=pH h λx y z j=>k x y z j.1 j.2.1 j.2.2.1 j.2.2.2
def gE{A:α->Prop}{B C:α->β->γ->Prop}(x:α)(a:A x)(y:β)(z:γ)(b:B x y z)(c:C x y z):∃x,A x/\∃y z,B x y z/\C x y z:=⟨x,⟨a,j2 y z ⟨b,c⟩⟩⟩
def cX{A B C D E:α->β->γ->δ->ε->ζ->Prop}{P:Prop}(h:∃x y z u v w,A x y z u v w/\B x y z u v w/\C x y z u v w/\D x y z u v w/\E x y z u v w)(k:∀x y z u v w,A x y z u v w->B x y z u v w->C x y z u v w->D x y z u v w->E x y z u v w->P):P:=nj h λx y z u v w j=>k x y z u v w j.1 j.2.1 j.2.2.1 j.2.2.2.1 j.2.2.2.2
def eD{A B C D E F:α->β->γ->Prop}{P:Prop}(h:∃x y z,A x y z/\B x y z/\C x y z/\D x y z/\E x y z/\F x y z)(k:∀x y z,A x y z->B x y z->C x y z->D x y z->E x y z->F x y z->P):P:=pH h λx y z j=>k x y z j.1 j.2.1 j.2.2.1 j.2.2.2.1 j.2.2.2.2.1 j.2.2.2.2.2
def nk{A B:α->Prop}{C:α->β->Prop}{P:Prop}(h:∃x,A x/\B x/\∃y,C x y)(k:∀x,A x->B x->∀y,C x y->P):P:=h.elim λx j=>j.2.2.elim λy U=>k x j.1 j.2.1 y U
def lH{A:α->Prop}{B C:α->β->γ->Prop}{P:Prop}(h:∃x,A x/\∃y z,B x y z/\C x y z)(k:∀x,A x->∀y z,B x y z->C x y z->P):P:=h.elim λx j=>iq j.2 λy z U=>k x j.1 y z U.1 U.2
def eY{A B C D E F G H:α->β->Prop}(x:α)(y:β)(a:A x y)(b:B x y)(c:C x y)(d:D x y)(e:E x y)(f:F x y)(g:G x y)(i:H x y):∃x y,A x y/\B x y/\C x y/\D x y/\E x y/\F x y/\G x y/\H x y:=(j2 x y ⟨a,b,c,d,e,f,g,i⟩)
def nr{A:α->Prop}{B C D E:α->β->Prop}(x:α)(a:A x)(y:β)(b:B x y)(c:C x y)(d:D x y)(e:E x y):∃x,A x/\∃y,B x y/\C x y/\D x y/\E x y:=⟨x,⟨a,⟨y,⟨b,c,d,e⟩⟩⟩⟩
def pF{A B C D E:α->β->γ->δ->Prop}{P:Prop}(h:∃x y z u,A x y z u/\B x y z u/\C x y z u/\D x y z u/\E x y z u)(k:∀x y z u,A x y z u->B x y z u->C x y z u->D x y z u->E x y z u->P):P:=bu h λx y z u j=>k x y z u j.1 j.2.1 j.2.2.1 j.2.2.2.1 j.2.2.2.2
def SV(n:Nat):WJ:=Nat.rec (motive:=λZ=>Nat->WJ) (λZ=>[]) (λZ Q n=>Bool.rec (n % 256::Q (n / 256)) [] (Nat.beq n 0)) 64 n
abbrev Qz:WJ:=SV 0x73726574636172616843
abbrev Tb:WJ:=SV 0x737265746361726168436563617053
abbrev Tc:WJ:=SV 0x6761547472617453
abbrev Td:WJ:=SV 0x676154646e45
abbrev Te:WJ:=SV 0x746e656d6d6f43
abbrev Tf:WJ:=SV 0x726f7272456573726150
abbrev Tg:WJ:=SV 0x65707974
abbrev Th:WJ:=SV 0x61746164
abbrev Ti:WJ:=SV 0x656d616e
abbrev Tj:WJ:=SV 0x676e69736f6c43666c6573
abbrev Tn:WJ:=SV 0x64656764656c776f6e6b6341676e69736f6c43666c6573
abbrev To:WJ:=SV 0x746e696f7065646f632d64696c61766e69
abbrev Tp:WJ:=SV 0x656d616e2d6761742d6465746365707865
abbrev Tq:WJ:=SV 0x666f652d746f672d7475622d6761742d676e69736f6c632d6465746365707865
abbrev Tr:WJ:=SV 0x726168632d746f672d7475622d6761742d676e69736f6c632d6465746365707865
abbrev Ts:WJ:=SV 0x656d616e2d6761742d6e692d666f65
abbrev Tt:WJ:=SV 0x666f652d746f672d7475622d656d616e2d6574756269727474612d6465746365707865
abbrev Tu:WJ:=SV 0x6761742d6e692d737564696c6f732d72657466612d464f452d64657463657078656e75
abbrev Tv:WJ:=SV 0x7372617661746164
theorem Re{α:Type _}{motive:List α->Prop}(t:List α)(nil:motive [])(cons:∀a l,motive (a::l)):motive t:=List.casesOn t nil cons
abbrev TK:=Option WJ
abbrev TL:=List WJ
abbrev TM:=Option Wv
abbrev TN:=List Wv
abbrev TO:=List (Wu×Wv)
abbrev TP:=List Wu
abbrev TQ:=Option Obj
abbrev TR:=Bool->Prop
abbrev TU:=Nat->Bool
abbrev TV:=List Obj
abbrev TX:=Option Nat
abbrev TY:=Option Bool
abbrev TZ:=Option Int
def T3:=@congrArg
def T4:=@absurd
end Mine
local macro_rules
 | `(tactic| rewrite[$x:rwRule, $u,*]) => `(tactic| (rewrite[$x]; rewrite[$u,*]))
 |`(tactic|change $t)=>`(tactic|refine (?_:$t))
 |`(tactic|show $t)=>`(tactic|refine $t)
 |`(tactic|ext)=>`(tactic|decide)
 |`(tactic|left)=>`(tactic|kernel_rfl!)
 | `(tactic| rewrite[$x:rwRule]) => do
  let h ← `(_)
  let s ← `(?_)
  let r ← (Array.range 5).mapM fun n => `(tacticSeq| refine $(Lean.Syntax.mkApp (Lean.mkIdent (if x.raw[0].isNone then `Mine.af else `Mine.ai)) #[Lean.Syntax.mkApp ⟨x.raw[1]⟩ (Array.replicate n h), s]))
  `(tactic| first $[| $(r.push (← `(tacticSeq| rewrite (occs := .all) [$x])))]*)
open Nat(beq ble)
namespace Mine.A
inductive FV where
 |Ak
 |Ae (b:Bool)
 |int (i:Int)
 |str (s:WJ)
 |tup (l:List FV)
 |lst (l:List FV)
 |An (l:List (WJ×FV))
inductive V where
 |c (f:FV)
 |ob (i:Nat)
 |st (a:Nat)
 |E9 (f i:Nat)
inductive AO where
 |lst (l:List FV)
 |An (l:List (WJ×V))
 |inst (C:Nat) (d:List (Nat×V))
 |Av (f:FV)
inductive X where
 |bad
 |k (f:FV)
 |loc (n:Nat)
 |BR (v:V)
 |Bb (o:X) (n:Nat)
 |sub (o i:X)
 |Cj (o lo hi:X)
 |rev (o:X)
 |neg (a:X)
 |bin (op:Nat) (a b:X)
 |cmp (op:Nat) (a b:X)
 |Gf (a b c:X)
 |and (a b:X)
 |or (a b:X)
 |not (a:X)
 |Gi (c a b:X)
 |fn (id:Nat) (args:X)
 |call (f:Nat) (args:X)
 |new (C:Nat) (args:X)
 |Al (o:X) (n:Nat) (args:X) (kws:WJ)
 |rep (o:X) (a b:WJ)
 |tup (l:X)
 |lst (l:X)
 |An (l:X)
 |lcm (n:Nat) (fs:WJ) (it cd e:X)
 |nil
 |cons (a b:X)
inductive S where
 |bad
 |skip
 |seq (a b:S)
 |ex (e:X)
 |Aj (n:Nat) (e:X)
 |Bi (o:X) (n:Nat) (e:X)
 |Jk (o i e:X)
 |GC (ts:List (Option X×Nat)) (e:X)
 |DI (n op:Nat) (e:X)
 |Gb (o:X) (n op:Nat) (e:X)
 |Kk (o i:X) (op:Nat) (e:X)
 |Kl (o:X) (n:Nat) (e:X)
 |iff (c:X) (a b:S)
 |wh (label:Nat) (c:X) (b:S)
 |fr (label:Nat) (ns:WJ) (it:X) (b:S)
 |NV (n:Nat) (args:X) (b:S)
 |ret (e:X)
 |brk
 |cont
 |Mh (c:X)
 |prim (label:Nat)
structure St where
 L:List (Nat×V)
 H:List (Nat×AO)
 m:Nat
 vl:Bool
inductive Fl where
 |AZ|brk|cnt|ret (v:V)
structure G where
 call:Nat->List V->WJ->List (Nat×AO)->(V->List (Nat×AO)->Prop)->Prop
 loop:Nat->List V->St->(Fl->St->Prop)->Prop
 own:Nat->TU
 cls:Nat->Nat->TX
 Gy:Nat->Nat->Option V
 FA:Nat->Nat->Option V
 Gp:Nat->Nat->TX
 FI:Nat->Nat
 Jy:Nat->TX
 canon:Nat->Nat
 con:Nat->TX
 fn:TU
abbrev Tw:=List (Nat×V)
abbrev Tx:=List (Nat×AO)
abbrev Tz:=List FV
abbrev TA:=List V
abbrev TB:=Fl->St->Prop
abbrev TC:=V->St->Prop
abbrev TF:=St->Prop
abbrev TG:=List (WJ×FV)
abbrev TH:=List (WJ×V)
abbrev TJ:=Option FV
noncomputable section
@[reducible] def S7 (b:Bool) (x y:Prop):Prop:=Bool.rec y x b
def Sx{y:Type}(n:Nat)(l:List (Nat×y)):Option y:=
 List.rec none (λp Z Q=>Bool.rec Q (some p.2) (beq n p.1)) l
noncomputable def put{y:Type}(n:Nat)(v:y)(l:List (Nat×y)):List (Nat×y):=
 List.rec [(n,v)] (λp t Q=>Bool.rec (p::Q) ((n,v)::t) (beq n p.1)) l
def DK{y:Type}(n:Nat)(l:List (Nat×y)):List (Nat×y):=
 List.rec [] (λp Z Q=>Bool.rec (p::Q) Q (beq n p.1)) l
noncomputable def lo(H:Tx):Tx:=List.rec [] (λp Z Q=>Bool.rec Q (p::Q) (Nat.blt p.1 64)) H
noncomputable def hi(H:Tx):Tx:=List.rec [] (λp Z Q=>Bool.rec (p::Q) Q (Nat.blt p.1 64)) H
def Cn(a:WJ):WJ->Bool:=
 List.rec (motive:=λZ=>WJ->Bool) (λb=>List.rec true (λZ Z Z=>false) b) (λx Z Q b=>List.rec false (λy P Z=>Bool.rec false (Q P) (beq x y)) b) a
@[reducible] noncomputable def one (k:TC) (l:TA) (s:St):Prop:=
 List.rec (motive:=λZ=>Prop) False (λv t Z=>List.rec (motive:=λZ=>Prop) (k v s) (λZ Z Z=>False) t) l
def Hr(n:Nat)(p:Prop):Prop:=n<=16777216/\p
def Ab{y:Type}(o:Option y)(k:y->Prop):Prop:=Option.rec (motive:=λZ=>Prop) False k o
def BK{y j:Type}(o:Option y)(f:y->j):Option j:=Option.rec none (λa=>some (f a)) o
def Af{y j:Type}(o:Option y)(f:y->Option j):Option j:=Option.rec none f o
noncomputable def aI(f:FV):TZ:=FV.casesOn (motive_1:=λZ=>TZ) f (none) (λZ=>none) (λi=>some i) (λZ=>none) (λZ=>none) (λZ=>none) (λZ=>none)
noncomputable def aS(f:FV):TK:=FV.casesOn (motive_1:=λZ=>TK) f (none) (λZ=>none) (λZ=>none) (λi=>some i) (λZ=>none) (λZ=>none) (λZ=>none)
noncomputable def aL(f:FV):Option Tz:=FV.casesOn (motive_1:=λZ=>Option Tz) f (none) (λZ=>none) (λZ=>none) (λZ=>none) (λZ=>none) (λi=>some i) (λZ=>none)
def S8(f:FV):Option Tz:=FV.casesOn (motive_1:=λZ=>Option Tz) f (none) (λZ=>none) (λZ=>none) (λZ=>none) (λi=>some i) (λZ=>none) (λZ=>none)
def Ta(f:FV):Option TG:=FV.casesOn (motive_1:=λZ=>Option TG) f (none) (λZ=>none) (λZ=>none) (λZ=>none) (λZ=>none) (λZ=>none) (λi=>some i)
def I5(f:FV):Bool:=FV.casesOn (motive_1:=λZ=>Bool) f (true) (λZ=>false) (λZ=>false) (λZ=>false) (λZ=>false) (λZ=>false) (λZ=>false)
noncomputable def aC(v:V):TJ:=V.casesOn (motive:=λZ=>TJ) v (λf=>some f) (λZ=>none) (λZ=>none) (λZ Z=>none)
def MD(v:V):TX:=V.casesOn (motive:=λZ=>TX) v (λZ=>none) (λi=>some i) (λZ=>none) (λZ Z=>none)
def Sp{y:Type}(l:List y):Option y:=List.rec none (λa t Z=>List.rec (some a) (λZ Z Z=>none) t) l
def FU(f:FV):TX:=Option.rec none (λs=>Sp s) (aS f)
def So{j:Type}(l:Tz)(k:FV->FV->j):Option j:=List.rec none (λa t Z=>BK (Sp t) λb=>k a b) l
def GW(l:Tz)(k:FV->FV->FV->Prop):Prop:=
 List.rec (motive:=λZ=>Prop) False (λa t Z=>List.rec (motive:=λZ=>Prop) False (λb t Z=>Ab (Sp t) λc=>k a b c) t) l
def CE(H:Tx)(v:V):TJ:=
 V.casesOn (motive:=λZ=>TJ) v (λf=>some f) (λi=>Af (Sx i H) λo=>AO.casesOn (motive:=λZ=>TJ) o (λl=>some (.lst l)) (λZ=>none) (λZ Z=>none) λf=>some f) (λZ=>none) (λZ Z=>none)
def G2(y:TH):Option TG:=List.rec (some []) (λe Z Q=>Af (aC e.2) λf=>BK Q λl=>(e.1,f)::l) y
def HS(H:Tx)(v:V):Option (FV×Tx):=
 V.casesOn (motive:=λZ=>Option (FV×Tx)) v (λf=>some (f,H)) (λi=>Af (Sx i H) λo=>AO.casesOn (motive:=λZ=>Option (FV×Tx)) o (λl=>some (.lst l,put i (.Av (.lst l)) H)) (λy=>BK (G2 y) λl=>(.An l,put i (.Av (.An l)) H)) (λZ Z=>none) λf=>some (f,H)) (λZ=>none) (λZ Z=>none)
def HR(y:TH):Tx->Option (TG×Tx):=
 List.rec (motive:=λZ=>Tx->Option (TG×Tx)) (λH=>some ([],H))
  (λe Z Q H=>Af (HS H e.2) λr=>BK (Q r.2) λq=>((e.1,r.1)::q.1,q.2)) y
def Av(H:Tx)(v:V):Option (FV×Tx):=
 V.casesOn (motive:=λZ=>Option (FV×Tx)) v (λf=>some (f,H)) (λi=>Af (Sx i H) λo=>AO.casesOn (motive:=λZ=>Option (FV×Tx)) o (λl=>some (.lst l,put i (.Av (.lst l)) H)) (λy=>BK (HR y H) λr=>(.An r.1,put i (.Av (.An r.1)) r.2)) (λZ Z=>none) λf=>some (f,H)) (λZ=>none) (λZ Z=>none)
def Ja(a:TA):Tx->Option (Tz×Tx):=
 List.rec (motive:=λZ=>Tx->Option (Tz×Tx)) (λH=>some ([],H))
  (λv Z Q H=>Af (Av H v) λr=>BK (Q r.2) λq=>(r.1::q.1,q.2)) a
def BE{y:Type}(l:List y):Bool:=List.rec false (λZ Z Z=>true) l
noncomputable def ft(f:FV):Bool:=FV.casesOn (motive_1:=λZ=>Bool) f (false) (λb=>b) (λi=> !decide (i=0)) (λs=>BE s) (λs=>BE s) (λs=>BE s) (λs=>BE s)
def Am(H:Tx)(v:V):TY:=
 V.casesOn (motive:=λZ=>TY) v (λf=>some (ft f)) (λi=>Af (Sx i H) λo=>AO.casesOn (motive:=λZ=>TY) o (λl=>some (BE l)) (λl=>some (BE l)) (λZ Z=>none) λf=>some (ft f)) (λZ=>none) (λZ Z=>some true)
def Qo(b:FV):TY:=FV.casesOn (motive_1:=λZ=>TY) b (some true) (λZ=>none) (λZ=>some false) (λZ=>some false) (λZ=>none) (λZ=>none) (λZ=>none)
def Qn(x:WJ)(b:FV):TY:=FV.casesOn (motive_1:=λZ=>TY) b (some false) (λZ=>none) (λZ=>some false) (λy=>some (Cn x y)) (λZ=>none) (λZ=>none) (λZ=>none)
def Qp(x:Int)(b:FV):TY:=FV.casesOn (motive_1:=λZ=>TY) b (some false) (λZ=>none) (λy=>some (decide (x=y))) (λZ=>some false) (λZ=>none) (λZ=>none) (λZ=>none)
def Qq(x:Bool)(b:FV):TY:=FV.casesOn (motive_1:=λZ=>TY) b (none) (λy=>some (Bool.rec (!y) y x)) (λZ=>none) (λZ=>none) (λZ=>none) (λZ=>none) (λZ=>none)
def Iq(a b:FV):TY:=FV.casesOn (motive_1:=λZ=>TY) a (Qo b) (λx=>Qq x b) (λx=>Qp x b) (λx=>Qn x b) (λZ=>none) (λZ=>none) (λZ=>none)
def Fs(n:Nat):FV->Bool:=
 Nat.rec (motive:=λZ=>FV->Bool) (λZ=>false) (λZ Q f=>FV.casesOn (motive_1:=λZ=>Bool) f (true) (λZ=>true) (λZ=>true) (λZ=>true) (λl=>l.all Q) (λl=>l.all Q) λZ=>false) n
def Dz(n:Nat):FV->Bool:=
 Nat.rec (motive:=λZ=>FV->Bool) (λZ=>false) (λZ Q f=>FV.casesOn (motive_1:=λZ=>Bool) f (true) (λZ=>true) (λZ=>true) (λZ=>true) (λl=>l.all Q) (λl=>l.all Q) λl=>l.all λp=>Q p.2) n
def KX(a b:FV)(k:TR):Prop:=
 FV.casesOn (motive_1:=λZ=>Prop) a (Ab (Iq a b) k) (λZ=>Ab (Iq a b) k) (λZ=>Ab (Iq a b) k) (λZ=>Ab (Iq a b) k) (λx=>Ab (S8 b) λy=>(x=y/\Fs 12 (.tup x)=true)/\k true) (λx=>Ab (aL b) λy=>(x=y/\Fs 12 (.lst x)=true)/\k true) (λZ=>Ab (Iq a b) k)
def P6(a b:FV)(k:TR):Prop:=
 FV.casesOn (motive_1:=λZ=>Prop) a (KX a b k) (λZ=>KX a b k) (λZ=>KX a b k) (λZ=>KX a b k) (λZ=>KX a b k) (λx=>Ab (aL b) λy=>(x=y/\(Fs 12 (.lst x)=true\/Dz 8 (.lst x)=true))/\k true) (λZ=>KX a b k)
def CT(a:FV)(l:Tz):TY:=
 List.rec (some false) (λx Z Q=>Af (Iq x a) λp=>BK Q λq=>Bool.rec q true p) l
noncomputable def sel{y:Type}(a:WJ)(l:List (WJ×y)):Option y:=
 List.rec none (λx Z Q=>Bool.rec Q (some x.2) (Cn a x.1)) l
def Gu{y:Type}(a:WJ)(v:y)(l:List (WJ×y)):List (WJ×y):=
 List.rec [(a,v)] (λx t Q=>Bool.rec (x::Q) ((x.1,v)::t) (Cn a x.1)) l
def By{y:Type}(a:WJ)(l:List (WJ×y)):Bool:=
 List.rec false (λx Z Q=>Bool.rec Q true (Cn a x.1)) l
def GZ(a:WJ):WJ->Bool:=
 List.rec (motive:=λZ=>WJ->Bool) (λb=>List.rec false (λZ Z Z=>true) b) (λx Z Q b=>List.rec false (λy P Z=>Bool.rec (Bool.rec false (Q P) (beq x y)) true (Nat.blt x y)) b) a
def Co{y:Type}(l:List y)(i:Int):Option y:=
 Bool.rec (Bool.rec none l[(i+l.length).toNat]? (decide (0<=i+l.length))) l[i.toNat]? (decide (0<=i))
def DL(n:Nat)(i:Int):Nat:=Bool.rec (i+n).toNat (min i.toNat n) (decide (0<=i))
noncomputable def slice{y:Type}(l:List y)(a b:TZ):List y:=(l.take (Option.rec l.length (λj=>DL l.length j) b)).drop (Option.rec 0 (λi=>DL l.length i) a)
def Ly(f:FV):Option TZ:=FV.casesOn (motive_1:=λZ=>Option TZ) f (some none) (λZ=>none) (λi=>some (some i)) (λZ=>none) (λZ=>none) (λZ=>none) (λZ=>none)
def G4(a b:FV)(k:FV->Prop):Prop:=
 FV.casesOn (motive_1:=λZ=>Prop) a (False) (λZ=>False) (λx=>Ab (aI b) λy=>k (.int (x+y))) (λx=>Ab (aS b) λy=>Hr (x.length+y.length) (k (.str (x++y)))) (λZ=>False) (λZ=>False) (λZ=>False)
def Og(D:Nat)(a b:FV)(k:FV->Prop):Prop:=
 match D with
 |0=>G4 a b k
 |1=>Ab (aI a) λx=>Ab (aI b) λy=>k (.int (x-y))
 |3=>Ab (aI a) λx=>Ab (aI b) λy=>(y≠0/\Builtin.divisionGoesByPylong x y=false)/\k (.int (Int.fdiv x y))
 |4=>Ab (aI a) λx=>Ab (aI b) λy=>(y≠0/\Builtin.divisionGoesByPylong x y=false)/\k (.int (Int.fmod x y))
 |_=>False
def Ce(o:AO)(s:St)(k:TC):Prop:=k (.ob s.m) ⟨s.L,(s.m,o)::s.H,s.m+1,s.vl⟩
def As(s:St)(H:Tx):St:=⟨s.L,H,s.m,s.vl⟩
def Bw(s:St)(L:Tw):St:=⟨L,s.H,s.m,s.vl⟩
def Qk(x y:FV)(s:St)(k:TC):Prop:=
 FV.casesOn (motive_1:=λZ=>Prop) x (G4 x y λr=>k (.c r) s) (λZ=>G4 x y λr=>k (.c r) s) (λZ=>G4 x y λr=>k (.c r) s) (λZ=>G4 x y λr=>k (.c r) s) (λp=>Ab (S8 y) λq=>(and (BE p) (BE q)=true/\p.length+q.length<=16777216)/\k (.c (.tup (p++q))) s) (λp=>Ab (aL y) λq=>Hr (p.length+q.length) (Ce (.lst (p++q)) s k)) (λZ=>G4 x y λr=>k (.c r) s)
def Fv(D:Nat)(a b:V)(s:St)(k:TC):Prop:=
 Ab (CE s.H a) λx=>Ab (CE s.H b) λy=>
  match D with
  |0=>Qk x y s k
  |2=>Ab (aL x) λp=>Ab (aI y) λn=>((-(2 ^ 63:Int)<=n/\n<2 ^ 63)/\p.length*n.toNat<=16777216)/\Ce (.lst (List.replicate n.toNat p).flatten) s k
  |op=>Og D x y λr=>k (.c r) s
def DZ(v:V):TY:=V.casesOn (motive:=λZ=>TY) v (λf=>some (I5 f)) (λZ=>some false) (λZ=>some false) (λZ Z=>some false)
def Nr(D:Nat)(i j:Int)(k:TR):Prop:=
 match D with
 |2=>k (decide (i<j))
 |3=>k (decide (i<=j))
 |4=>k (decide (j<i))
 |5=>k (decide (j<=i))
 |_=>False
def Nq(D:Nat)(p q:WJ)(k:TR):Prop:=
 match D with
 |2=>k (GZ p q)
 |3=>k (!GZ q p)
 |4=>k (GZ q p)
 |5=>k (!GZ p q)
 |_=>False
def QW(D:Nat)(x y:FV)(k:TR):Prop:=
 FV.casesOn (motive_1:=λZ=>Prop) x (False) (λZ=>False) (λi=>Ab (aI y) λj=>Nr D i j k) (λp=>Ab (aS y) λq=>Nq D p q k) (λZ=>False) (λZ=>False) (λZ=>False)
def BN(D:Nat)(a b:V)(s:St)(k:TR):Prop:=
 match D with
 |6=>Ab (DZ b) λz=>S7 z (Ab (DZ a) k) False
 |7=>Ab (DZ b) λz=>S7 z (Ab (DZ a) λr=>k (!r)) False
 |op=>Ab (CE s.H a) λx=>Ab (CE s.H b) λy=>fin D x y k
where
 fin (D:Nat) (x y:FV) (k:TR):Prop:=
  match D with
  |0=>P6 x y k
  |1=>KX x y λr=>k (!r)
  |8=>mem x y k
  |9=>mem x y λr=>k (!r)
  |op=>QW D x y k
 mem (x y:FV) (k:TR):Prop:=
  match y with
  | .tup l=>Ab (CT x l) k
  | .lst l=>Ab (CT x l) k
  | .An l=>Ab (aS x) λa=>k (By a l)
  | .str b=>Ab (FU x) λq=>k (decide (q∈b))
  |_=>False
def Ln(x f:FV)(k:FV->Prop):Prop:=
 FV.casesOn (motive_1:=λZ=>Prop) x (False) (λZ=>False) (λZ=>False) (λl=>Ab (aI f) λj=>Ab (Co l j) λr=>k (.str [r])) (λl=>Ab (aI f) λj=>Ab (Co l j) k) (λl=>Ab (aI f) λj=>Ab (Co l j) k) (λl=>Ab (aS f) λa=>Ab (sel a l) k)
def DO(o i:V)(s:St)(k:TC):Prop:=
 Ab (aC i) λf=>V.casesOn (motive:=λZ=>Prop) o (λx=>Ln x f λr=>k (.c r) s) (λn=>Ab (Sx n s.H) λo=>AO.casesOn (motive:=λZ=>Prop) o (λl=>Ab (aI f) λj=>Ab (Co l j) λr=>k (.c r) s) (λy=>Ab (aS f) λa=>Ab (sel a y) λv=>k v s) (λZ Z=>False) λx=>Ln x f λr=>k (.c r) s) (λZ=>False) (λZ Z=>False)
def Gn(o a b:V)(s:St)(k:TC):Prop:=
 Ab (CE s.H o) λx=>Ab (CE s.H a) λp=>Ab (CE s.H b) λq=>Ab (Ly p) λi=>Ab (Ly q) λj=>
  FV.casesOn (motive_1:=λZ=>Prop) x (False) (λZ=>False) (λZ=>False) (λl=>k (.c (.str (slice l i j))) s) (λZ=>False) (λl=>Ce (.lst (slice l i j)) s k) (λZ=>False)
def G6(g:G)(i n:Nat)(s:St)(k:TC)(C:Nat)(d:Tw):Prop:=
 Option.rec (Option.rec (Ab (g.Gy C n) λv=>k v s) (λf=>k (.E9 f i) s) (g.cls C n)) (λv=>S7 (g.own C n) (k v s) False) (Sx n d)
def GB(g:G)(o:V)(n:Nat)(s:St)(k:TC):Prop:=
 V.casesOn (motive:=λZ=>Prop) o (λZ=>False) (λi=>Ab (Sx i s.H) λo=>AO.casesOn (motive:=λZ=>Prop) o (λZ=>False) (λZ=>False) (λC d=>G6 g i n s k C d) λZ=>False) (λa=>Ab (g.FA a n) λv=>k v s) (λZ Z=>False)
def Qr(v:V):TZ:=Af (aC v) aI
def Pr(c:TA)(A:Int->Prop)(k2:Int->Int->Prop):Prop:=
 List.rec (motive:=λZ=>Prop) False (λv t Z=>Ab (Qr v) λa=>List.rec (motive:=λZ=>Prop) (A a) (λw t Z=>Ab (Qr w) λb=>List.rec (motive:=λZ=>Prop) (k2 a b) (λZ Z Z=>False) t) t) c
def LQ(f:FV):TX:=FV.casesOn (motive_1:=λZ=>TX) f (none) (λZ=>none) (λZ=>none) (λl=>some l.length) (λl=>some l.length) (λl=>some l.length) (λl=>some l.length)
def RX(id:Nat)(a b:Int)(s:St)(k:TC):Prop:=Bool.rec (k (.c (.int (if b<a then b else a))) s) (k (.c (.int (if a<b then b else a))) s) (beq id 5)
def Mx(id:Nat)(e:TA)(s:St)(k:TC):Prop:=
 S7 (ble 5 id) (Pr e (λZ=>False) λa b=>RX id a b s k) <| Ab (Sp e) λv=>Nat.casesOn (motive:=λZ=>Prop) id (Ab (CE s.H v) λx=>Ab (LQ x) λn=>k (.c (.int n)) s) λid=>Nat.casesOn (motive:=λZ=>Prop) id (Ab (aC v) λf=>Ab (FU f) λc=>k (.c (.int c)) s) λid=>Nat.casesOn (motive:=λZ=>Prop) id (Ab (aC v) λf=>Ab (aI f) λi=>(0<=i/\i<=1114111)/\k (.c (.str [i.toNat])) s) λid=>Nat.casesOn (motive:=λZ=>Prop) id False λid=>Nat.casesOn (motive:=λZ=>Prop) id (Ab (CE s.H v) λf=>Ab (aL f) λl=>S7 (BE l) False (k (.c (.An [])) s)) λZ=>False
def B0(z:WJ)(l:Tz):TK:=
 List.rec (some []) (λx t Q=>Option.rec none (λy=>Option.rec none (λr=>some (List.rec (motive:=λZ=>WJ) y (λZ Z Z=>y++z++r) t)) Q) (aS x)) l
def AS(y z:WJ):Nat->WJ->WJ
 |_,[]=>[]
 |0,c::r=>if y.isPrefixOf (c::r)then z++AS y z (y.length-1) r else c::AS y z 0 r
 |n+1,_::r=>AS y z n r
def Dn(c:Nat):WJ->Int
 | []=> -1
 |x::r=>if 0<=Dn c r then Dn c r+1 else if x=c then 0 else-1
def Mz(c:Nat)(x:WJ)(a:Nat):Int:=Option.rec (-1) (λi=>((a+i:Nat):Int)) ((x.drop a).findIdx? λy=>beq y c)
def Ag(c:Nat):WJ->TL
 | []=>[[]]
 |x::r=>if x=c then []::Ag c r else match Ag c r with
  |h::t=>(x::h)::t
  | []=>[[x]]
def DF(c:Nat):Nat:=if 65<=c/\c<=90 then c+32 else c
def Bp(l:WJ):WJ:=l.map DF
def Lo(n:Nat)(x:WJ)(Z:Tz)(s:St)(k:TC):Prop:=
 match n with
 |2=>Ab (Sp Z) λf=>Ab (aL f) λl=>Ab (B0 x l) λr=>Hr (r.length+l.length*x.length+x.length) (k (.c (.str r)) s)
 |4=>GW Z λf g h=>Ab (FU f) λc=>Ab (aI g) λa=>Ab (aI h) λb=>(a=0/\0<=b/\b<2 ^ 63)/\k (.c (.int ((x.take b.toNat).count c))) s
 |5=>GW Z λf g h=>Ab (FU f) λc=>Ab (aI g) λa=>Ab (aI h) λb=>(a=0/\0<=b/\b<2 ^ 63)/\k (.c (.int (Dn c (x.take b.toNat)))) s
 |6=>Ab (Sp Z) λf=>Ab (FU f) λc=>Hr (x.length+2) (Ce (.lst ((Ag c x).map .str)) s k)
 |7=>S7 (BE Z) False ((x.all λc=>or (Nat.blt c 128) (beq c 233))=true/\k (.c (.str (Bp x))) s)
 |9=>Ab (Sp Z) λf=>Ab (aS f) λp=>k (.c (.Ae (p.isPrefixOf x))) s
 |10=>Ab (So Z λa b=>(a,b)) λp=>Ab (FU p.1) λc=>Ab (aI p.2) λa=>(0<=a/\a.toNat<=x.length)/\k (.c (.int (Mz c x a.toNat))) s
 |_=>False
def FJ(o:Option AO):Option Tz:=Af o λo=>AO.casesOn (motive:=λZ=>Option Tz) o (λl=>some l) (λZ=>none) (λZ Z=>none) (λZ=>none)
def HZ(o:Option AO):Option (Nat×Tw):=Af o λo=>AO.casesOn (motive:=λZ=>Option (Nat×Tw)) o (λZ=>none) (λZ=>none) (λC d=>some (C,d)) (λZ=>none)
noncomputable def hd{y:Type}(l:List y):Option y:=List.rec none (λa Z Z=>some a) l
def NK(n i:Nat)(l:Tz)(Z:TA)(s:St)(k:TC):Prop:=
 match n with
 |0=>Ab (Sp Z) λv=>Ab (Av s.H v) λr=>Ab (FJ (Sx i r.2)) λl=>Hr (l.length+1) (k (.c .Ak) (As s (put i (.lst (l++[r.1])) r.2)))
 |1=>S7 (BE Z) (Ab (Sp Z) λv=>Ab (aC v) λf=>Ab (aI f) λj=>S7 (decide (j=0)) (Ab (hd l) λx=>k (.c x) (As s (put i (.lst l.tail) s.H))) False)
   (Ab l.getLast? λr=>k (.c r) (As s (put i (.lst l.dropLast) s.H)))
 |_=>False
def Je(H:Tx)(Z:TA):Option Tz:=
 List.rec (some []) (λv a Q=>Af (CE H v) λf=>BK Q λr=>f::r) Z
def Rl(Z:TA):Option Tz:=List.rec (some []) (λv a Q=>Af (aC v) λf=>BK Q λr=>f::r) Z
def E8(P:TU)(v:V):Bool:=V.casesOn (motive:=λZ=>Bool) v (λZ=>true) P (λZ=>true) (λZ i=>P i)
def Hn(P:TU)(o:AO):Bool:=AO.casesOn (motive:=λZ=>Bool) o (λZ=>true) (λy=>y.all λp=>E8 P p.2) (λZ d=>d.all λp=>E8 P p.2) (λZ=>true)
abbrev FD:V->Bool:=E8 λi=>Nat.blt i 64
abbrev Dc:AO->Bool:=Hn λi=>Nat.blt i 64
def BL(g:G)(f:Nat)(Z:TA)(z:WJ)(s:St)(k:TC):Prop:=
 S7 (and (g.fn f) (and (Z.all FD) ((lo s.H).all λp=>Dc p.2))) (g.call f Z z (lo s.H) λv H=>k v (As s (H++hi s.H))) False
def FH(g:G)(D:Nat)(a b:V)(s:St)(k:Bool->TF):Prop:=
 V.casesOn (motive:=λZ=>Prop) b (λZ=>BN D a b s λv=>k v s) (λZ=>BN D a b s λv=>k v s) (λx=>S7 (beq D 8) (Ab (g.con x) λf=>BL g f [.st x,a] [] s λv s=>Ab (Am s.H v) λt=>k t s) False) (λZ Z=>BN D a b s λv=>k v s)
inductive M where
 |fn (f:Nat) (v:V)
 |own (f j:Nat)
 |str (x:WJ)
 |lst (i:Nat)
 |dg (l:TG)
def IX(g:G)(i n:Nat)(C:Nat)(d:Tw):Option M:=
 Option.rec (BK (g.cls C n) λf=>.fn f (.ob i)) (λv=>V.casesOn (motive:=λZ=>Option M) v (λZ=>none) (λZ=>none) (λZ=>none) λf j=>Bool.rec none (some (.own f j)) (g.own C n)) (Sx n d)
def C4(g:G)(o:V)(n:Nat)(z:WJ)(s:St):Option M:=
 V.casesOn (motive:=λZ=>Option M) o (λf=>Bool.rec (Af (aS f) λx=>Bool.rec none (some (.str x)) (and (!BE z) (and (ble 2 n) (ble n 10)))) (Af (Ta f) λl=>Bool.rec none (some (.dg l)) (!BE z)) (beq n 11)) (λi=>Af (Sx i s.H) λo=>AO.casesOn (motive:=λZ=>Option M) o (λZ=>Bool.rec none (some (.lst i)) (and (!BE z) (ble n 1))) (λZ=>none) (λC d=>IX g i n C d) λZ=>none) (λa=>BK (g.Gp a n) λf=>.fn f (.st a)) (λZ Z=>none)
def CL(g:G)(o:M)(n:Nat)(Z:TA)(z:WJ)(s:St)(k:TC):Prop:=
 M.casesOn (motive:=λc=>Prop) o (λf v=>BL g f (v::Z) z s k) (λf j=>BL g f (.ob j::Z) z s k) (λx=>Ab (Je s.H Z) λy=>Lo n x y s k) (λi=>Ab (FJ (Sx i s.H)) λl=>NK n i l Z s k) (λl=>Ab (Rl Z) λy=>Ab (So y λa b=>(a,b)) λp=>Ab (aS p.1) λa=>k (.c (Option.rec p.2 (λv=>v) (sel a l))) s)
def LK(v:V):Bool:=V.casesOn (motive:=λZ=>Bool) v (λf=>I5 f) (λZ=>false) (λZ=>false) (λZ Z=>false)
def HN(g:G)(C:Nat)(Z:TA)(s:St)(k:TC):Prop:=
 Option.rec (Ab (g.Jy C) λf=>BL g f (.ob (g.FI C)::Z) [] (As s (s.H++[(g.FI C,.inst C [])])) λv j=>S7 (LK v) (k (.ob (g.FI C)) j) False) (λa=>False) (Sx (g.FI C) s.H)
def HT(Z:TA):Option TH:=
 (List.rec (motive:=λa=>Option TH×Option TH) (some [],none) (λv t Q=>
  (Option.rec none (λw=>Option.rec none (λf=>Option.rec none (λf=>Option.rec none (λr=>some ((f,w)::r)) Q.2) (aS f)) (aC v)) (hd t),Q.1)) Z).1
def Nu(y:TH):TH:=y.foldl (λj p=>Gu p.1 p.2 j) []
def OQ(f:FV):Option Tz:=FV.casesOn (motive_1:=λZ=>Option Tz) f (none) (λZ=>none) (λZ=>none) (λl=>some (l.map λx=>.str [x])) (λl=>some l) (λl=>some l) (λl=>Bool.rec none (some (l.map λp=>.str p.1)) (l.all λp=>ble p.1.length 1000))
def PW(i:Nat)(s:St)(o:AO):Option (Tz×St):=
 AO.casesOn (motive:=λZ=>Option (Tz×St)) o (λl=>some (l,As s (put i (.Av (.lst l)) s.H))) (λZ=>none) (λZ Z=>none) (λf=>BK (OQ f) λl=>(l,s))
def Io(v:V)(s:St):Option (Tz×St):=
 V.casesOn (motive:=λZ=>Option (Tz×St)) v (λf=>BK (OQ f) λl=>(l,s)) (λi=>Af (Sx i s.H) (PW i s)) (λZ=>none) (λZ Z=>none)
def F8(y:WJ)(L:Tw):Tw:=List.rec [] (λn Z Q=>Option.rec Q (λv=>(n,v)::Q) (Sx n L)) y
def I2(n:Nat)(y:Tw)(N O:St->(TA->TF)->Prop)(l:Tz):Tz->St->TC->Prop:=
 List.rec (motive:=λZ=>Tz->St->TC->Prop) (λj s k=>Ce (.lst j) s k)
  (λx Z Q j s k=>N (Bw s (put n (.c x) y)) (one λc s=>Ab (Am s.H c) λt=>
   S7 t (O s (one λe s=>Ab (Av s.H e) λr=>Hr (j.length+1) (Q (j++[r.1]) (As s r.2) k))) (Q j s k))) l
def Sn{j:Type}(l:Tz)(k:FV->FV->FV->j):Option j:=List.rec none (λa t Z=>So t λb c=>k a b c) l
def C3(O:WJ)(x:FV)(L:Tw):Option Tw:=
 List.rec none (λn t Z=>List.rec (some (put n (.c x) L)) (λm t Z=>Af (S8 x) λl=>List.rec (So l λa b=>put m (.c b) (put n (.c a) L))
  (λo t Z=>List.rec (Sn l λa b c=>put o (.c c) (put m (.c b) (put n (.c a) L))) (λZ Z Z=>none) t) t) t) O
def Lp(b:St->TB->Prop)(k:TB)(u:Fl)(s:St):Prop:=Fl.casesOn (motive:=λZ=>Prop) u (b s k) (k u s) (k u s) (λZ=>k u s)
def P2(Q:St->TB->Prop)(k:TB)(u:Fl)(s:St):Prop:=Fl.casesOn (motive:=λZ=>Prop) u (Q s k) (k .AZ s) (Q s k) (λv=>k (.ret v) s)
def Pg(P:TF)(k:TB)(u:Fl)(s:St):Prop:=Fl.casesOn (motive:=λZ=>Prop) u (P s) (k .AZ s) (P s) (λv=>k (.ret v) s)
def Dd(A:St->TB->Prop)(a:FV->Tw->Option Tw)(l:Tz):St->TB->Prop:=
 List.rec (motive:=λZ=>St->TB->Prop) (λs k=>k .AZ s)
  (λx Z Q s k=>Ab (a x s.L) λL=>A (Bw s L) (P2 Q k)) l
def En(a:Int)(n:Nat):Tz:=(List.range n).map λ(i:Nat)=>FV.int (a+(i:Int))
def M5(a b:WJ)(o:V)(s:St)(F:TC):Prop:=Ab (aC o) λf=>Ab (aS f) λx=>
 (and (BE a) (!Cn a b)=true/\x.length<=1048576)/\F (.c (.str (AS a b 0 x))) s
def SU(g:G)(x:X):St->(TA->TF)->Prop:=
 X.rec (motive:=λZ=>G->St->(TA->TF)->Prop)
  (λZ Z Z=>False)
  (λf g s k=>k [.c f] s)
  (λn g s k=>Ab (Sx n s.L) λv=>k [v] s)
  (λv g s k=>k [v] s)
  (λZ n l g s k=>l g s (one λo s=>GB g o n s λv s=>k [v] s))
  (λZ Z l P g s k=>l g s (one λo s=>P g s (one λi s=>DO o i s λv s=>k [v] s)))
  (λZ Z Z l d A g s k=>l g s (one λo s=>d g s (one λa s=>A g s (one λb s=>Gn o a b s λv s=>k [v] s))))
  (λZ Z Z Z Z=>False)
  (λZ d g s k=>d g s (one λa s=>Ab (aC a) λf=>Ab (aI f) λi=>k [.c (.int (-i))] s))
  (λD Z Z d A g s k=>d g s (one λa s=>A g s (one λb s=>Fv D a b s λv s=>k [v] s)))
  (λD Z Z d A g s k=>d g s (one λa s=>A g s (one λb s=>FH g D a b s λv s=>k [.c (.Ae v)] s)))
  (λZ Z Z d A N g s k=>d g s (one λa s=>A g s (one λb s=>BN 3 a b s λt=>
   S7 t (N g s (one λc s=>BN 3 b c s λu=>k [.c (.Ae u)] s)) (k [.c (.Ae false)] s))))
  (λZ Z d A g s k=>d g s (one λa s=>Ab (Am s.H a) λt=>S7 t (A g s k) (k [a] s)))
  (λZ Z d A g s k=>d g s (one λa s=>Ab (Am s.H a) λt=>S7 t (k [a] s) (A g s k)))
  (λZ d g s k=>d g s (one λa s=>Ab (Am s.H a) λt=>k [.c (.Ae (!t))] s))
  (λZ Z Z N d A g s k=>N g s (one λc s=>Ab (Am s.H c) λt=>S7 t (d g s k) (A g s k)))
  (λid Z d g s k=>d g s λe s=>Mx id e s λv s=>k [v] s)
  (λf Z d g s k=>d g s λe s=>BL g f e [] s λv s=>k [v] s)
  (λC Z d g s k=>d g s λe s=>HN g C e s λv s=>k [v] s)
  (λZ n Z z l d g s k=>l g s (one λo s=>Ab (C4 g o n z s) λm=>d g s λe s=>CL g m n e z s λv s=>k [v] s))
  (λZ a b l g s k=>l g s (one λo s=>M5 a b o s λv s=>k [v] s))
  (λZ d g s k=>d g s λe s=>Ab (Ja e s.H) λr=>S7 (ble r.1.length 1000) (k [.c (.tup r.1)] (As s r.2)) False)
  (λZ d g s k=>d g s λe s=>Ab (Ja e s.H) λr=>S7 (ble r.1.length 1000) (Ce (.lst r.1) (As s r.2) λv s=>k [v] s) False)
  (λZ d g s k=>d g s λe s=>Ab (HT e) λy=>Ce (.An (Nu y)) s λv s=>k [v] s)
  (λn h Z Z Z d N O g s k=>d g s (one λv s=>Ab (Io v s) λr=>I2 n (F8 h s.L) (N g) (O g) r.1 [] (Bw r.2 []) λv j=>k [v] (Bw j s.L)))
  (λg s k=>k [] s)
  (λZ Z d A g s k=>d g s (one λa s=>A g s λe s=>k (a::e) s))
  x g
def BI(g:G)(x:X)(s:St)(k:TC):Prop:=SU g x s (one k)
def QZ(c:Nat)(v:V)(s:St)(k:TC):Prop:=
 Bool.rec (V.casesOn (motive:=λZ=>Prop) v (λZ=>k v s) (λi=>Bool.rec (k v s) (Ab (Sx i s.H) λo=>Option.rec (k (.ob c) (As s (DK i s.H++[(c,o)]))) (λZ=>False) (Sx c s.H)) (ble 64 i)) (λZ=>k v s) λZ Z=>k v s) (k v s) (beq c 0)
def OP(c:Nat)(v:V)(s:St)(k:TC):Prop:=
 Bool.rec (QZ c v s k) (Ab (Av s.H v) λr=>k (.c r.1) (As s r.2)) (beq c 63)
def Cy(g:G)(o:V)(n:Nat)(v:V)(s:St)(k:TF):Prop:=
 Ab (MD o) λi=>OP (g.canon n) v s λv s=>Ab (HZ (Sx i s.H)) λp=>S7 (and (g.own p.1 n) (ble p.2.length 900)) (k (As s (put i (.inst p.1 (put n v p.2)) s.H))) False
def Rp(o:AO):Option TH:=AO.casesOn (motive:=λZ=>Option TH) o (λZ=>none) (λl=>some l) (λZ Z=>none) (λZ=>none)
def Ro(o:AO):TJ:=AO.casesOn (motive:=λZ=>TJ) o (λZ=>none) (λZ=>none) (λZ Z=>none) (λf=>some f)
def NT(v:V)(s:St)(k:TF):Prop:=Ab (MD v) λj=>Ab (Af (Sx j s.H) Rp) λy=>Ab (HR y s.H) λr=>k (As s (put j (.An (r.1.map λp=>(p.1,.c p.2))) r.2))
abbrev DW(i:Nat):Bool:= !beq i 32
def KQ(i n:Nat)(v:V)(s:St)(k:TF):Prop:=Ab (HZ (Sx i s.H)) λp=>Ab (Sx n p.2) λA=>
 Bool.rec (k s) (Ab (MD A) λZ=>Ab (Af (Sx 32 s.H) Ro) λf=>S7 (and (E8 DW v) (and (s.L.all λq=>E8 DW q.2) ((DK 32 (put i (.inst p.1 (put n (.c f) p.2)) s.H)).all λq=>Hn DW q.2))) (k (As s (DK 32 (put i (.inst p.1 (put n (.c f) p.2)) s.H)))) False) (!E8 DW A)
def GP(g:G)(o:V)(n:Nat)(v:V)(s:St)(k:TF):Prop:=Ab (MD o) λi=>KQ i n v s λs=>NT v s λs=>Cy g o n v s k
def El(o i v:V)(s:St)(k:TF):Prop:=
 Ab (MD o) λn=>Ab (aC i) λf=>Ab (Sx n s.H) λo=>AO.casesOn (motive:=λZ=>Prop) o (λZ=>False) (λy=>Ab (aS f) λa=>S7 (ble y.length 900) (k (As s (put n (.An (Gu a v y)) s.H))) False) (λZ Z=>False) (λZ=>False)
def Ms(g:G)(y:List (Option X×Nat)):Tz->St->TF->Prop:=
 List.rec (motive:=λZ=>Tz->St->TF->Prop)
  (λl s k=>List.rec (motive:=λZ=>Prop) (k s) (λZ Z Z=>False) l)
  (λt Z Q l s k=>List.rec (motive:=λZ=>Prop) False (λf r Z=>Option.rec (motive:=λZ=>Prop) (Q r (Bw s (put t.2 (.c f) s.L)) k) (λo=>BI g o s λo s=>Cy g o t.2 (.c f) s λs=>Q r s k) t.1) l) y
def Dh(D:Nat)(a b:V)(s:St)(k:TC):Prop:=
 Ab (CE s.H a) λx=>Ab (CE s.H b) λy=>Og D x y λr=>k (.c r) s
def Es(D:Nat)(a b:V)(s:St)(k:TC):Prop:=
 Bool.rec (Dh D a b s k) (V.casesOn (motive:=λZ=>Prop) a (λZ=>Dh D a b s k) (λi=>Option.rec (Dh D a b s k) (λo=>AO.casesOn (motive:=λZ=>Prop) o (λl=>Ab (CE s.H b) λy=>Ab (aL y) λq=>Hr (l.length+q.length) (k (.ob i) (As s (put i (.lst (l++q)) s.H)))) (λZ=>Dh D a b s k) (λZ Z=>Dh D a b s k) λZ=>Dh D a b s k) (Sx i s.H)) (λZ=>Dh D a b s k) λZ Z=>Dh D a b s k) (beq D 0)
def R7(g:G)(y:List (Option X×Nat))(v:V)(s:St)(k:TF):Prop:=Ab (aC v) λf=>Ab (S8 f) λl=>S7 (beq y.length l.length) (Ms g y l s k) False
noncomputable def ex(g:G)(x:S):St->TB->Prop:=
 S.rec (motive:=λZ=>G->St->TB->Prop)
  (λZ Z Z=>False)
  (λg s k=>k .AZ s)
  (λZ Z d A g s k=>d g s (Lp (A g) k))
  (λe g s k=>BI g e s λZ s=>k .AZ s)
  (λn e g s k=>BI g e s λv s=>k .AZ (Bw s (put n v s.L)))
  (λo n e g s k=>BI g e s λv s=>BI g o s λo s=>Cy g o n v s λs=>k .AZ s)
  (λo i e g s k=>BI g e s λv s=>BI g o s λo s=>BI g i s λi s=>El o i v s λs=>k .AZ s)
  (λy e g s k=>BI g e s λv s=>R7 g y v s λs=>k .AZ s)
  (λn D e g s k=>Ab (Sx n s.L) λa=>BI g e s λb s=>Es D a b s λv s=>k .AZ (Bw s (put n v s.L)))
  (λo n D e g s k=>BI g o s λo s=>GB g o n s λa s=>BI g e s λb s=>Es D a b s λv s=>Cy g o n v s λs=>k .AZ s)
  (λo i D e g s k=>BI g o s λo s=>BI g i s λi s=>DO o i s λa s=>BI g e s λb s=>Es D a b s λv s=>El o i v s λs=>k .AZ s)
  (λo n e g s k=>BI g e s λv s=>BI g o s λo s=>GP g o n v s λs=>k .AZ s)
  (λc Z Z d A g s k=>BI g c s λv s=>Ab (Am s.H v) λt=>S7 t (d g s k) (A g s k))
  (λZ c Z A g s k=>∀P:TF,(∀s,(BI g c s λv s=>Ab (Am s.H v) λt=>S7 t (A g s (Pg P k)) (k .AZ s))->P s)->P s)
  (λl O z Z A g s k=>BI g z s λv s=>Option.rec (g.loop l [v] s k) (λr=>Dd (A g) (C3 O) r.1 r.2 k) (Io v s))
  (λn U Z A g s k=>SU g U s λf s=>Pr f (λb=>(-1000000<=b/\b<=1000000)/\Dd (A g) (C3 [n]) (En 0 b.toNat) s k)
   λa b=>((-1000000<=a/\a<=1000000)/\(-1000000<=b/\b<=1000000))/\Dd (A g) (C3 [n]) (En a (b-a).toNat) s k)
  (λe g s k=>BI g e s λv s=>k (.ret v) s)
  (λg s k=>k .brk s)
  (λg s k=>k .cnt s)
  (λc g s k=>BI g c s λv s=>Ab (Am s.H v) λt=>S7 t (k .AZ s) False)
  (λl g s k=>g.loop l [] s k)
  x g
end
def cps{P:Prop}(h:∀Q:Prop,(P->Q)->Q):P:=h P id
structure CP where
 Ho:TP
 gen:TU
 Gw:Wu->Option V
 NR:TU
 blt:Wu->TX
def Fu(x:Wu):TP->Nat->TX
 | [],_=>none
 |y::r,i=>if x=y then some i else Fu x r (i+1)
noncomputable def CP.code(p:CP)(x:Wu):TX:=Fu x p.Ho 0
def Fn(O:Scope)(x:Wu):Bool:=O.names.lookup x==some .local
def BH(O:Scope)(x:Wu):Bool:=Fn O x||O.names.lookup x==some .cell
def B8(O:Scope)(x:Wu):Bool:=O.names.lookup x==some .globalImplicit
def S4(c:Const):X:=
 match c with
 | .none=>.k .Ak
 | .bool b=>.k (.Ae b)
 | .int i=>.k (.int i)
 | .str s=>if s.length<=10000 then .k (.str s.cps.toList)else .bad
 |_=>.bad
def Mb(o:Operator):TX:=
 match o with
 | .Add=>some 0| .Sub=>some 1| .Mult=>some 2| .FloorDiv=>some 3| .Mod=>some 4|_=>none
def Ga(o:CmpOp):Nat:=
 match o with
 | .Eq=>0| .NotEq=>1| .Lt=>2| .LtE=>3| .Gt=>4| .GtE=>5| .Is=>6| .IsNot=>7| .In=>8| .NotIn=>9
def AU(e:WE):Bool:=
 match e with
 | .Name .. | .Attribute .. | .Subscript .. | .Constant .. | .List .. | .BinOp .. =>true
 | .Call (.Attribute ..) _ _ _=>true
 | .Call (.Name x _) _ _ _=>x !="super"
 |_=>false
def G1(O cs:Scope):Bool:=cs.kind== .function&&cs.names.all λx=>(x.2 != .free||(O.kind== .function&&O.names.lookup x.1==some .cell))&&x.2 != .cell&&cs.names.lookup x.1==some x.2
def Pw(O cs:Scope):Scope:= {cs with names:=cs.names.map λ(n,k)=>if(k== .free&&O.kind== .function&&O.names.lookup n==some .cell)then(n,.cell)else(n,k)}
def Dv(e:WE):Bool:=
 match e with
 | .Dict .. =>true
 |_=>false
def BU(e:WE):Bool:=
 match e with
 | .Starred .. =>false
 |_=>true
def Eo(e:WE):Bool:=
 match e with
 | .Set .. =>true
 |_=>false
def HD(e:WE):Option (Option WE×Option WE×Option WE):=
 match e with
 | .Slice lo hi st _=>some (lo,hi,st)
 |_=>none
def J8(e:WE):TZ:=
 match e with
 | .Constant c _ _=>match c with
  | .int i=>some i
  |_=>none
 |_=>none
def Iz(e:WE):Option Wu:=
 match e with
 | .Constant c _ _=>match c with
  | .str s=>some s
  |_=>none
 |_=>none
def Ka(l:List Comprehension):Option (Wu×WE×List WE):=
 match l with
 | []=>none
 |h::r=>if r.isEmpty&&h.is_async==0 then match h.target with
  | .Name x _=>some (x,h.iter,h.ifs)
  |_=>none
  else none
def I6(o:CmpOp):Bool:=
 match o with
 | .LtE=>true
 |_=>false
def JW(x:Wu)(O:List WE)(y:List WI):Option (Wu×Wu):=
 if x=="replace"&&y.isEmpty then match O with
  | []=>none
  |a::r=>match r with
   | []=>none
   |b::t=>if t.isEmpty then match Iz a with
    |none=>none
    |some s=>match Iz b with
     |none=>none
     |some z=>some (s,z)
    else none
  else none
def Hl{y:Type}(o:Option y)(k:y->X):X:=
 match o with
 |some a=>k a
 |none=>.bad
def R3(p:CP)(O:Scope)(x:Wu):X:=
 if BH O x then Hl (p.code x) .loc else if B8 O x then Hl (p.Gw x) .BR else .bad
def Rc(o:UnaryOp)(a:WE)(x:X):X:=
 match o with
 | .Not=>.not x
 | .USub=>match J8 a with
  |some i=>.k (.int (-i))
  |none=>.neg x
 |_=>.bad
def Rh(z:List CmpOp)(j:List WE)(A:X)(E:WE->X):X:=
 match z with
 | []=>.bad
 |o::z=>match j with
  | []=>.bad
  |b::j=>match z with
   | []=>match j with
    | []=>if behindInMarks o b then .bad else .cmp (Ga o) A (E b)
    |_::_=>.bad
   |u::z=>match j with
    | []=>.bad
    |c::j=>if I6 o&&(I6 u&&(z.isEmpty&&j.isEmpty))then .Gf A (E b) (E c)else .bad
def Rf(s:Option (Option WE×Option WE×Option WE))(o i:X)(j:Option WE->X):X:=
 match s with
 |none=>.sub o i
 |some t=>if t.2.2.isNone then .Cj o (j t.1) (j t.2.1)else .bad
def Kf(p:CP)(cs:Scope):TK:=List.rec (some []) (λx Z Q=>if x.2== .free then Af (p.code x.1) λi=>BK Q λl=>i::l else Q) cs.names
def Rg(p:CP)(O cs:Scope)(go:Option (Wu×WE×List WE))(I E:WE->X)(e:WE):X:=
 Hl go λt=>if G1 O cs&&(Fn cs t.1&& !Eo t.2.1)then Hl (p.code t.1) λi=>Hl (Kf p cs) λy=>match t.2.2 with
  | []=>.lcm i y (I t.2.1) (.k (.Ae true)) (E e)
  |c::r=>if r.isEmpty then .lcm i y (I t.2.1) (E c) (E e)else .bad
  else .bad
def Qe(p:CP)(x:Wu)(L:X):X:=
 match p.Gw x with
 |some v=>match v with
  | .st a=>if p.NR a then .new a L else .call a L
  |_=>.bad
 |none=>Hl (p.blt x) λi=>if i<3||(3<i&&i<7)then .fn i L else .bad
def Mc(p:CP)(l:List WI):TK:=List.rec (some []) (λk Z Q=>Af k.arg λx=>Af (p.code x) λi=>BK Q λl=>i::l) l
def Ri(p:CP)(a:Scope)(f:WE)(O:List WE)(y:List WI)(pos:Pos)(E:WE->X)(L:List WE->X):X:=
 match f with
 | .Name x _=>if y.isEmpty&&(B8 a x&&O.all BU)then Qe p x (L O)else .bad
 | .Attribute o x q=>if AU o&&q.endLine==pos.line then match JW x O y with
   |some t=>if t.1.cps.size<14&&t.2.cps.size<14 then .rep (E o) t.1.cps.toList t.2.cps.toList else .bad
   |none=>if O.length+y.length<29&&(O++y.map (·.value)).all BU then Hl (p.code x) λi=>Hl (Mc p y) λl=>.Al (E o) i (L (O++y.map (·.value))) l else .bad
  else .bad
 |_=>.bad
mutual
noncomputable def cE(p:CP)(O:Scope):Nat->WE->X
 |0,_=>.bad
 |n+1,e=>
  match e with
  | .Constant c _ _=>S4 c
  | .Name x _=>R3 p O x
  | .UnaryOp o a _=>Rc o a (cE p O n a)
  | .BoolOp o l _=>match o with
   | .And=>cA p O n l
   | .Or=>cR p O n l
  | .Compare a ops bs _=>Rh ops bs (cE p O n a) λe=>cE p O n e
  | .BinOp a op b _=>Hl (Mb op) λo=>.bin o (cE p O n a) (cE p O n b)
  | .IfExp t a b _=>.Gi (cE p O n t) (cE p O n a) (cE p O n b)
  | .Attribute o x _=>if AU o then Hl (p.code x) λi=>.Bb (cE p O n o) i else .bad
  | .Subscript o i _=>Rf (HD i) (cE p O n o) (cE p O n i) λo=>cO p O n o
  | .Tuple es _ _=>if es.all BU then .tup (cL p O n es)else .bad
  | .List es _=>if es.all BU then .lst (cL p O n es)else .bad
  | .Dict ks vs _=>if ks.isEmpty&&vs.isEmpty then .An .nil else if ks.all (·.isSome)&&ks.length==vs.length&&ks.length<=15&& !ks.isEmpty then .An (cD p O n ks vs)else .bad
  | .ListComp e gs cs _=>Rg p O cs (Ka gs) (λe=>cE p O n e) (λe=>cE p (Pw O cs) n e) e
  | .Call f as ks pos=>Ri p O f as ks pos (λe=>cE p O n e) λl=>cL p O n l
  |_=>.bad
noncomputable def cO(p:CP)(O:Scope):Nat->Option WE->X
 |0,_=>.bad
 |n+1,o=>match o with
  |none=>.k .Ak
  |some e=>cE p O n e
noncomputable def cL(p:CP)(O:Scope):Nat->List WE->X
 |0,_=>.bad
 |n+1,l=>match l with
  | []=>.nil
  |e::r=>.cons (cE p O n e) (cL p O n r)
noncomputable def cA(p:CP)(O:Scope):Nat->List WE->X
 |0,_=>.bad
 |n+1,l=>match l with
  | []=>.bad
  |e::r=>if r.isEmpty then cE p O n e else .and (cE p O n e) (cA p O n r)
noncomputable def cR(p:CP)(O:Scope):Nat->List WE->X
 |0,_=>.bad
 |n+1,l=>match l with
  | []=>.bad
  |e::r=>if r.isEmpty then cE p O n e else .or (cE p O n e) (cR p O n r)
noncomputable def cD(p:CP)(O:Scope):Nat->List (Option WE)->List WE->X
 |0,_,_=>.bad
 |n+1,ks,vs=>match ks with
  | []=>match vs with
   | []=>.nil
   |_::_=>.bad
  |k::ks=>match vs with
   | []=>.bad
   |v::vs=>Hl k λk=>.cons (cE p O n k) (.cons (cE p O n v) (cD p O n ks vs))
end
def Ci(e:WE):Bool:=
 match e with
 | .ListComp .. | .SetComp .. | .DictComp .. =>true
 |_=>false
def I4(e:WE):Bool:=
 match e with
 | .Tuple .. =>true
 |_=>false
def S0(p:CP)(O:Scope)(n:Nat):List WE->Option (List (Option X×Nat))
 | []=>some []
 |e::r=>match e with
  | .Name x _=>if BH O x then Af (p.code x) λi=>Af (S0 p O n r) λl=>some ((none,i)::l)else none
  | .Attribute o x _=>Af (p.code x) λi=>Af (S0 p O n r) λl=>some ((some (cE p O n o),i)::l)
  |_=>none
def Ij{y:Type}(o:Option y)(k:y->S):S:=
 match o with
 |some a=>k a
 |none=>.bad
def OW(p:CP)(O:Scope)(n:Nat)(t e:WE):S:=
 match t with
 | .Name x _=>if BH O x then Ij (p.code x) λi=>.Aj i (cE p O n e)else .bad
 | .Attribute o x _=>Ij (p.code x) λi=>if Dv e then .Kl (cE p O n o) i (cE p O n e)else .Bi (cE p O n o) i (cE p O n e)
 | .Subscript o i _=>.Jk (cE p O n o) (cE p O n i) (cE p O n e)
 | .Tuple ts _ _=>if I4 e then .bad else Ij (S0 p O n ts) λl=>.GC l (cE p O n e)
 |_=>.bad
def Rj(p:CP)(O:Scope)(n:Nat)(t:WE)(D:Operator)(e:WE):S:=
 Ij (Mb D) λo=>if o<2 then match t with
  | .Name x _=>if BH O x then Ij (p.code x) λi=>.DI i o (cE p O n e)else .bad
  | .Attribute b x _=>Ij (p.code x) λi=>.Gb (cE p O n b) i o (cE p O n e)
  | .Subscript b i _=>if(HD i).isSome then .bad else .Kk (cE p O n b) (cE p O n i) o (cE p O n e)
  |_=>.bad
  else .bad
def Kj(p:CP)(O:Scope)(k:Nat)(z:WE):Option (List WE):=
 match z with
 | .Call f as ks _=>match f with
  | .Name x _=>if ks.isEmpty&&(B8 O x&&(p.blt x==some k&&((p.Gw x).isNone&&as.all BU)))then some as else none
  |_=>none
 |_=>none
def LC(O:Scope)(e:WE):Option Wu:=
 match e with
 | .Name x _=>if BH O x then some x else none
 |_=>none
def Qf(p:CP)(O:Scope)(n:Nat)(t z:WE)(d:Nat)(B:S):S:=
 match t with
 | .Name x _=>if BH O x then Ij (p.code x) λi=>match Kj p O 3 z with
   |some c=>.NV i (cL p O n c) B
   |none=>if Eo z then .bad else .fr d [i] (cE p O n z) B
  else .bad
 | .Tuple es _ _=>match es with
  | []=>.bad
  |a::es=>match es with
   | []=>.bad
   |b::es=>if es.isEmpty then Ij (LC O a) λy=>Ij (LC O b) λx=>Ij (p.code y) λi=>Ij (p.code x) λj=>if Eo z then .bad else .fr d [i,j] (cE p O n z) B
    else .bad
 |_=>.bad
mutual
noncomputable def cS(p:CP)(O:Scope):Nat->WG->S
 |0,_=>.bad
 |n+1,st=>
  match st with
  | .Pass _=>.skip
  | .Break _=>.brk
  | .Continue _=>.cont
  | .Return o _=>match o with
   |none=>.ret (.k .Ak)
   |some e=>.ret (cE p O n e)
  | .Expr e _=>if Ci e then .bad else .ex (cE p O n e)
  | .Assign ts e _=>match ts with
   | []=>.bad
   |t::r=>if r.isEmpty&& !Ci e then OW p O n t e else .bad
  | .AugAssign t op e _=>Rj p O n t op e
  | .If t a b _=>.iff (cE p O n t) (cB p O n a) (cB p O n b)
  | .While t b o pos=>if o.isEmpty then .wh pos.line (cE p O n t) (cB p O n b)else .bad
  | .For t it b o pos=>if o.isEmpty then Qf p O n t it pos.line (cB p O n b)else .bad
  | .Assert t m _=>if m.isNone then .Mh (cE p O n t)else .bad
  | .Try _ _ _ _ pos=>.prim pos.line
  |_=>.bad
noncomputable def cB(p:CP)(O:Scope):Nat->List WG->S
 |0,_=>.bad
 |n+1,l=>match l with
  | []=>.skip
  |s::r=>.seq (cS p O n s) (cB p O n r)
end
section
def fN{M:Model}(h:Runs M z p t y s e j):s.toks<=j.toks:=by
 induction h with
 |done=>show Zq _
 |raise=>show Zq _
 |yield=>show Zq _
 |again _ _ Q=>show Q
 |rule _ Q=>show Q
 |«at» _ Q=>show Q
 |load _ _ Q=>show Q
 |update _ _ Q=>show Q
 |loadIfAlive _ Q=>show Q
 |point _ Q=>show Q
 |alloc _ Q=>show Q
 |fresh _ Q=>show Zh (YX _) Q
 |ask _ Q=>show Q
 |choose _ _ Q=>show Q
 |os _ Q=>show Q
 |handled _ Q=>show Q
 |genState _ _ Q=>show Q
 |stack _ Q=>show Q
 |thread _ Q=>show Q
 |newGen _ Q=>show Q
 |call _ _ d D=>show Zh d D
 |callSusp _ d=>show d
 |resumeFresh _ _ _ _ d D=>show Zh d D
 |resumeSuspended _ _ _ _ d D=>show Zh d D
 |resumeJustStarted _ _ _ Q=>show Q
 |resumeThrowFresh _ _ Q=>show Q
 |resumeRunning _ _ Q=>show Q
 |resumeFinished _ _ Q=>show Q
 |segRet _ _ d D=>show Zh d D
 |segGen _ _ d D=>show Zh d D
 |segSuspOut _ _ d=>show d
 |segSuspGen _ _ _ _ d D=>show Zh d D
def lK{M:Model}(h:Wakes M z p g r s d j):s.toks<=j.toks:=by
 unfold Wakes at h;split at h
 ·show h.elim
 ·split at h
  ·obtain⟨e,l,h,_,_,rfl⟩:=h;show((fN h:(s.setGen g .running).toks<=l.toks))
  ·obtain⟨_,rfl⟩:=h;show Zq _
  ·obtain⟨_,rfl⟩:=h;show Zq _
 ·obtain⟨e,l,h,_,_,rfl⟩:=h;show((fN h:(s.setGen g .running).toks<=l.toks))
 ·obtain⟨_,rfl⟩:=h;show Zq _
 ·obtain⟨_,rfl⟩:=h;show Zq _
def vc{y:Type}{M:Model}{Q:y->Pos->Ww->Prop}:∀(t:Sem y) (p:Pos) (s:Ww) (n:Nat),n<=s.toks->Sem.wp M z t (λa D B=>n<=B.toks->Q a D B) E p s->Sem.wp M z t Q E p s:=by
 intro t;induction t with
 |pure a=>intro p s n j h;show h j
 |raise e=>intro p s n j h;show h
 |unsupported _|finish _|yield|fork|await|register=>intro p s n j h;show h.elim
 |rule P k b=>intro p s n j h;show b _ p s n j h
 |«at» D k b=>intro p s n j h;show b _ D s n j h
 |load a A k b=>intro p s n j h;show aA h λo x h=>(aO o x (b _ p s n j h))
 |update a A f k b=>intro p s n j h;show⟨h.1,b _ p _ n j h.2⟩
 |loadIfAlive a k b=>intro p s n j h;show b _ p s n j h
 |point l k b=>intro p s n j h;show b _ p s n j h
 |alloc o k b=>intro p s n j h;show b _ p _ n j h
 |fresh k b=>intro p s n j h;show b _ p _ n (Y4 j) h
 |ask k b=>intro p s n j h;show b _ p s n j h
 |choose Z m k b=>intro p s n j h;show⟨h.1,b _ p _ n j h.2⟩
 |os q l k b=>intro p s n j h;show b _ p _ n j h
 |call c u g l k b=>intro p s n j h;show aX h λr i U N=>(aU r i U (b _ p i n (Zh j (fN U)) N))
 |handled O k b=>intro p s n j h;show b _ p s n j h
 |genState g k b=>intro p s n j h;show aA h λo x h=>(aO o x (b _ p s n j h))
 |newGen c k b=>intro p s n j h;show b _ p _ n j h
 |resume g r l k b=>intro p s n j h;show aX h λd i U N=>(aU d i U (b _ p i n (Zh j (lK U)) N))
 |stack k b=>intro p s n j h;show b _ p s n j h
 |thread k b=>intro p s n j h;show b _ p s n j h
def aN{y:Type}{M:Model}{t:Sem y}{Q:y->Ww->Prop}(b:0<s.toks)(h:wpAny M A t (λa j=>0<j.toks->Q a j) E s):wpAny M A t Q E s:=
 λz p d=>vc t p s 1 b (h z p d)
def CH(l:WJ):Wu:=⟨l.toArray⟩
structure Gh where
 F:WD->TQ
 φ:Nat->Option (WD×List WD)
abbrev FE(C:WD)(u:Option WD):Obj:= {cls:=.ref C,dict:=u,data:=.plain}
abbrev LD(f a:WD):Obj:= {cls:=.type "method",data:=.fields #[.ref f,.ref a]}
def Ca(T:String)(o:Obj)(vs:TN):Prop:=∃n,o= {cls:=.type T,data:=.seq vs.toArray n}
def Di{K:Type}[DecidableEq K]{pG:WA}{w:Wy}(knd:KeyKind pG w K)(o:Obj)(U:List (K×Wv)):Prop:=
 ∃y D,o.ExactDict/\o.data=.dict y D/\KeysOf knd y/\Pairs knd y.toList U/\(U.map (·.1)).Nodup
section
variable (pG:WA)(w:Wy)
mutual
inductive RF (F:WD->TQ):Wv->FV->Prop
 |Ak:RF F .none .Ak
 |Ae (b:Bool):RF F (.bool b) (.Ae b)
 |int (i:Int) (t:Tok):RF F (.int i t) (.int i)
 |str (l:WJ) (t:Tok) (b:l.length<=16777216):RF F (.str ⟨l.toArray⟩ t) (.str l)
 |tup {a:WD} {vs:TN} {o:Obj} {l:Tz}:F a=some o->Ca "tuple" o vs->Ba F vs l->l.length<=16777216->RF F (.ref a) (.tup l)
 |lst {a:WD} {vs:TN} {o:Obj} {l:Tz}:F a=some o->Ca "list" o vs->Ba F vs l->l.length<=16777216->RF F (.ref a) (.lst l)
 |An {a:WD} {o:Obj} {kvs:TO} {l:TG}:F a=some o->a≠sysModules->Di (strKind pG w) o kvs->Eh F kvs l->l.length<=16777216->RF F (.ref a) (.An l)
inductive Ba (F:WD->TQ):TN->Tz->Prop
 |nil:Ba F [] []
 |cons {v:Wv} {vs:TN} {f:FV} {l:Tz}:RF F v f->Ba F vs l->Ba F (v::vs) (f::l)
inductive Eh (F:WD->TQ):TO->TG->Prop
 |nil:Eh F [] []
 |cons {v:Wv} {vs:TO} {k:WJ} {f:FV} {l:TG}:RF F v f->Eh F vs l->Eh F ((CH k,v)::vs) ((k,f)::l)
end
end
def Sub(F l:WD->TQ):Prop:=∀a o,F a=some o->l a=some o
section
variable {pG:WA}{w:Wy}
def RF.mono(h:Sub F l)(r:RF pG w F v f):RF pG w l v f:=
 RF.rec
  .Ak .Ae .int .str (λe q Z b Q=>.tup (h _ _ e) q Q b) (λe q Z b Q=>.lst (h _ _ e) q Q b) (λe n q Z b Q=>.An (h _ _ e) n q Q b) .nil (λZ Z a r=>.cons a r) .nil (λZ Z a r=>.cons a r) r
def Ba.mono(h:Sub F l)(r:Ba pG w F v f):Ba pG w l v f:=
 Ba.rec
  .Ak .Ae .int .str (λe q Z b Q=>.tup (h _ _ e) q Q b) (λe q Z b Q=>.lst (h _ _ e) q Q b) (λe n q Z b Q=>.An (h _ _ e) n q Q b) .nil (λZ Z a r=>.cons a r) .nil (λZ Z a r=>.cons a r) r
def Eh.mono(h:Sub F l)(r:Eh pG w F v f):Eh pG w l v f:=
 Eh.rec
  .Ak .Ae .int .str (λe q Z b Q=>.tup (h _ _ e) q Q b) (λe q Z b Q=>.lst (h _ _ e) q Q b) (λe n q Z b Q=>.An (h _ _ e) n q Q b) .nil (λZ Z a r=>.cons a r) .nil (λZ Z a r=>.cons a r) r
end
section
variable {pG:WA}{w:Wy}{F:WD->TQ}{v:Wv}{vs:TN}
inductive K7 (v:Wv) (l:WJ):Prop
 |mk (t:Tok) (e:v=.str ⟨l.toArray⟩ t) (b:l.length<=16777216)
inductive K8 (pG:WA) (w:Wy) (F:WD->TQ) (n:String) (v:Wv) (l:Tz):Prop
 |mk (a:WD) (vs:TN) (o:Obj) (e:v=.ref a) (h:F a=some o) (q:Ca n o vs) (r:Ba pG w F vs l) (b:l.length<=16777216)
inductive OB (pG:WA) (w:Wy) (F:WD->TQ) (v:Wv) (l:TG):Prop
 |mk (a:WD) (o:Obj) (kvs:TO) (e:v=.ref a) (h:F a=some o) (n:a≠sysModules) (q:Di (strKind pG w) o kvs) (r:Eh pG w F kvs l) (b:l.length<=16777216)
def R5(pG:WA)(w:Wy)(F:WD->TQ)(v:Wv)(f:FV):Prop:=match f with
 | .Ak=>v=.none
 | .Ae b=>v=.bool b
 | .int i=>∃t,v=.int i t
 | .str l=>K7 v l
 | .tup l=>K8 pG w F "tuple" v l
 | .lst l=>K8 pG w F "list" v l
 | .An l=>OB pG w F v l
def RF.x(h:RF pG w F v f):R5 pG w F v f:=by
 cases h with
 |Ak=>show rfl
 |Ae b=>show rfl
 |int i t=>show⟨t,rfl⟩
 |str l t b=>show⟨t,rfl,b⟩
 |tup e q r b=>show⟨_,_,_,rfl,e,q,r,b⟩
 |lst e q r b=>show⟨_,_,_,rfl,e,q,r,b⟩
 |An e n q r b=>show⟨_,_,_,rfl,e,n,q,r,b⟩
def a7{P:Prop}(h:false=true):P:=by cases h
def aw{y:Type}{a:y}{P:Prop}(h:none=some a):P:=by cases h
def afQ{i:Int}(e:Mine.A.aI f=some i):f=.int i:=by
 induction f using FV.casesOn with
 |int j=>show T3 FV.int (Zf e)
 |_=>show aw e
def xN{l:Tz}(e:S8 f=some l):f=.tup l:=by
 induction f using FV.casesOn with
 |tup j=>show T3 FV.tup (Zf e)
 |_=>show aw e
def m9{l:Tz}(e:aL f=some l):f=.lst l:=by
 induction f using FV.casesOn with
 |lst j=>show T3 FV.lst (Zf e)
 |_=>show aw e
def qP{l:WJ}(e:Mine.A.aS f=some l):f=.str l:=by
 induction f using FV.casesOn with
 |str j=>show T3 FV.str (Zf e)
 |_=>show aw e
def RF.aI(h:RF pG w F v f)(e:Mine.A.aI f=some i):∃t,v=.int i t:=(afQ e▸h).x
def RF.aS(h:RF pG w F v f)(e:Mine.A.aS f=some l):K7 v l:=(qP e▸h).x
def aZ{y j:Type}{o:Option y}{f:y->j}{b:j}(h:BK o f=some b):∃a,o=some a/\f a=b:=by
 induction o using Option.casesOn with
 |none=>show aw h
 |some a=>show(aO a rfl (Zf h))
def ax{y j:Type}{o:Option y}{f:y->Option j}{b:j}(h:Af o f=some b):∃a,o=some a/\f a=some b:=by
 induction o using Option.casesOn with
 |none=>show aw h
 |some a=>show(aO a rfl h)
def mr{y:Type}{l:List y}{a:y}(h:Sp l=some a):l=[a]:=by
 induction l using Re with
 |nil=>show aw h
 |cons b t=>
  induction t using Re with
  |nil=>show T3 (λx=>[x]) (Zf h)
  |cons _ _=>show aw h
def afR{l:TG}(e:Ta f=some l):f=.An l:=by
 induction f using FV.casesOn with
 |An j=>show T3 FV.An (Zf e)
 |_=>show aw e
def f7{f:FV}(h:aC x=some f):x=.c f:=by
 induction x using V.casesOn with
 |c g=>show T3 V.c (Zf h)
 |_=>show aw h
def lD{i:Nat}(h:MD x=some i):x=.ob i:=by
 induction x using V.casesOn with
 |ob g=>show T3 V.ob (Zf h)
 |_=>show aw h
def uX{l:Tz}(h:FJ o=some l):o=some (.lst l):=by
 show aA (ax h) λo Q h=>?_;subst Q;induction o using AO.casesOn with
 |lst m=>show T3 (λl=>some (AO.lst l)) (Zf h)
 |_=>show aw h
def uY{p:Nat×Tw}(h:HZ o=some p):o=some (.inst p.1 p.2):=by
 show aA (ax h) λo Q h=>?_;subst Q;induction o using AO.casesOn with
 |inst C d=>obtain rfl:=Zf h;rfl
 |_=>show aw h
theorem RF.FU{f:FV}{c:Nat}(h:RF pG w F v f)(e:Mine.A.FU f=some c):∃t,v=.str ⟨[c].toArray⟩ t:=by
 cases A:Mine.A.aS f with
 |none=>unfold Mine.A.FU at e;replace e:=A▸e;show aw e
 |some l=>
  unfold Mine.A.FU at e;replace e:=A▸e;obtain rfl:=mr e;obtain⟨t,rfl,_⟩:=h.aS A;show⟨t,rfl⟩
inductive OA (pG:WA) (w:Wy) (F:WD->TQ) (vs:TN) (f:FV) (l:Tz):Prop
 |mk (v:Wv) (r:TN) (e:vs=v::r) (h:RF pG w F v f) (t:Ba pG w F r l)
def Ba.inv(h:Ba pG w F vs l):match (generalizing:=false) l with| []=>vs=[]|f::l=>OA pG w F vs f l:=by
 cases h with
 |nil=>rfl
 |cons a r=>show⟨_,_,rfl,a,r⟩
def Ba.one{l:Tz}{f:FV}(h:Ba pG w F vs l)(e:Sp l=some f):∃v,vs=[v]/\RF pG w F v f:=by
 obtain rfl:=mr e;obtain⟨v,r,rfl,N,D⟩:=h.inv;clear h;obtain rfl:=D.inv;show(aO v rfl N)
def aaf{l:Tz}{k:FV->FV->FV->Prop}(e:Mine.A.GW l k):∃f g z,l=[f,g,z]/\k f g z:=by
 induction l using Re with
 |nil=>show e.elim
 |cons f t=>
  induction t using Re with
  |nil=>show e.elim
  |cons g t=>
   have e:Ab (Sp t) λc=>k f g c:=e;cases A:Sp t with
   |none=>replace e:=A▸e;show e.elim
   |some z=>show(ay f g z (by rw[mr A]) (by replace e:=A▸e;show e))
theorem Ba.GW(h:Ba pG w F vs l)(e:Mine.A.GW l k):∃x f u g q z,vs=[x,u,q]/\RF pG w F x f/\RF pG w F u g/\RF pG w F q z/\k f g z:=by
 show cps λj d=>?_;show bC (aaf e) λf g z a e=>?_;subst a;obtain⟨v,r,rfl,b,U⟩:=h.inv;obtain⟨u,r,rfl,Z,N⟩:=U.inv;show aA (N.one rfl) λq Q SG=>?_;clear N U h;subst Q;show d (bJ v f u g q z rfl b Z SG e)
end
def RV(pG:WA)(w:Wy)(g:Gh)(v:Wv):V->Prop
 | .c f=>RF pG w g.F v f
 | .ob i=>∃a ft,g.φ i=some (a,ft)/\v=.ref a
 | .st a=>v=.ref a
 | .E9 f i=>∃q a ft,v=.ref q/\g.F q=some (LD f a)/\g.φ i=some (a,ft)
inductive Cw (pG:WA) (w:Wy) (g:Gh):TN->TA->Prop
 |nil:Cw pG w g [] []
 |cons {v:Wv} {vs:TN} {f:V} {l:TA}:RV pG w g v f->Cw pG w g vs l->Cw pG w g (v::vs) (f::l)
inductive Oz (pG:WA) (w:Wy) (g:Gh) (vs:TN) (f:V) (l:TA):Prop
 |mk (v:Wv) (r:TN) (e:vs=v::r) (h:RV pG w g v f) (t:Cw pG w g r l)
def Cw.inv{pG:WA}(h:Cw pG w g vs l):match (generalizing:=false) l with| []=>vs=[]|f::l=>Oz pG w g vs f l:=by
 cases h with
 |nil=>rfl
 |cons a r=>show⟨_,_,rfl,a,r⟩
def Cw.one{pG:WA}{g:Gh}{l:TA}{f:V}(h:Cw pG w g vs l)(e:Sp l=some f):∃v,vs=[v]/\RV pG w g v f:=by
 obtain rfl:=mr e;obtain⟨v,r,rfl,N,D⟩:=h.inv;clear h;obtain rfl:=D.inv;show(aO v rfl N)
inductive RD (pG:WA) (w:Wy) (g:Gh):TO->TH->Prop
 |nil:RD pG w g [] []
 |cons {v:Wv} {vs:TO} {k:WJ} {f:V} {l:TH}:RV pG w g v f->RD pG w g vs l->RD pG w g ((CH k,v)::vs) ((k,f)::l)
inductive RI (pG:WA) (w:Wy) (nm:Nat->Wu) (g:Gh):List WC->Tw->Prop
 |nil:RI pG w nm g [] []
 |cons {e:WC} {es:List WC} {n:Nat} {t:Tok} {f:V} {l:Tw}:e.key=.str (nm n) t->RV pG w g e.val f->RI pG w nm g es l->RI pG w nm g (e::es) ((n,f)::l)
structure Le (b:Bool) (g g':Gh):Prop where
 F:Sub g.F g'.F
 φ:∀i a ft,g.φ i=some (a,ft)->(b=true->i≠32/\i≠33)->∃ft',g'.φ i=some (a,ft')
def Le.refl(b:Bool)(g:Gh):Le b g g:=⟨λZ Z e=>e,λZ Z ft e Z=>⟨ft,e⟩⟩
def Le.trans(h:Le b g Q)(k:Le c Q j):Le (b||c) g j:=
 ⟨λa o e=>k.F a o (h.F a o e),λi a ft e n=>by
  show zE (h.φ i a ft e λx=>n (by show x.symm▸ ?_;rfl)) λl A=>?_;show k.φ i a l A λx=>n (by show x.symm▸ ?_;show Bool.or_true b)⟩
def Le.f(h:Le false g P){ft:List WD}(e:g.φ i=some (a,ft)):∃l,P.φ i=some (a,l):=h.φ i a ft e λx=>a7 x
def RV.mono{pG:WA}(h:Le false g P){x:V}(r:RV pG w g v x):RV pG w P v x:=by
 induction x using V.casesOn with
 |c _=>show RF.mono h.F r
 |ob i=>show aX r λa ft e q=>?_;show zE (h.f e) λl A=>(aU a l A q)
 |st _=>show r
 |E9 _ i=>show cH r λq a ft e k p=>?_;show zE (h.f p) λl A=>(b4 q a l e (h.F _ _ k) A)
def Cw.mono{pG:WA}(h:Le false g P)(r:Cw pG w g vs l):Cw pG w P vs l:=by
 induction r with
 |nil=>show .nil
 |cons a _ Q=>show .cons (a.mono h) Q
def RD.mono{pG:WA}(h:Le false g P)(r:RD pG w g vs l):RD pG w P vs l:=by
 induction r with
 |nil=>show .nil
 |cons a _ Q=>show .cons (a.mono h) Q
def RI.mono{pG:WA}(h:Le false g P)(r:RI pG w nm g vs l):RI pG w nm P vs l:=by
 induction r with
 |nil=>show .nil
 |cons a c _ Q=>show .cons a (c.mono h) Q
def RO(pG:WA)(w:Wy)(nm:Nat->Wu)(g:Gh)(h:WH)(a:WD)(ft:List WD):AO->Prop
 | .lst l=>ft=[a]/\∃o vs,h.get? a=some o/\Ca "list" o vs/\Ba pG w g.F vs l/\l.length<=16777216
 | .An l=>ft=[a]/\∃o U,h.get? a=some o/\a≠sysModules/\Di (strKind pG w) o U/\RD pG w g U l/\l.length<=16777216
 | .inst C d=>∃u y n,ft=[a,u]/\a≠u/\h.get? a=some (FE C (some u))/\h.get? u=some (dictOf y n)/\RI pG w nm g y d
 | .Av f=>ft=[]/\RF pG w g.F (.ref a) f
def RO.step{pG:WA}{ft:List WD}(L:Le false g P)(k:∀x∈ft,∀o,h.get? x=some o->l.get? x=some o)
  {o:AO} (r:RO pG w nm g h a ft o):RO pG w nm P l a ft o:=by
 induction o using AO.casesOn with
 |lst _=>show bI r λe o vs q z r b=>?_;show⟨e,bG o vs (k a (e▸ .head _) _ q) z (Ba.mono L.F r) b⟩
 |An _=>show bQ r λe o U q z d r b=>?_;show⟨e,bj o U (k a (e▸ .head _) _ q) z d (r.mono L) b⟩
 |inst _ _=>show aK r λu y n e j q A r=>?_;show(aM u y n e j (k a (e▸ .head _) _ q) (k u (e▸ .tail _ (.head _)) _ A) (r.mono L))
 |Av _=>show⟨r.1,r.2.mono L.F⟩
structure Cx where
 Aa:WA
 w:Wy
 nm:Nat->Wu
 inj:∀i j,nm i=nm j->i=j
 base:WH
 G5:2<=base.objs.size
def AD(g:Gh)(x:WD):Prop:=∃i a ft,g.φ i=some (a,ft)/\x∈ft
structure Loc where
 ns:WD
 D0:Option (Wu×WD)
 own:Bool
 up:List WD
 vl:Bool
 tp:Option Env
abbrev Loc.all(L:Loc):List WD:=L.ns::L.up
def Loc.CN(L:Loc)(x:WD):Prop:=x∈L.all\/∃n,L.D0=some (n,x)
def Loc.Wr(L:Loc)(x:WD):Prop:=x∈L.all\/L.own=true/\∃n,L.D0=some (n,x)
def Loc.Wr.has{L:Loc}(h:L.Wr x):L.CN x:=h.imp_right And.right
def Loc.Sh(L:Loc)(h:WH)(m:Wu->TM)(x:Wu)(w:Wv):Prop:=(∃a,L.D0=some (x,a)/\h.IsCell a (some w))\/((∀a,L.D0≠some (x,a))/\m x=some w)
def B4(o D:Obj):Prop:=∃P,D= {o with slots:=P}
def GD(h:WH)(u:WD):Prop:=∃o y n,h.get? u=some o/\o.data=.dict y n
structure B3 (c:Cx) (g:Gh) (L:Loc) (Lc:Tw) (h:WH):Prop where
 nm:∃m,h.Ns L.ns m/\∀n v,Sx n Lc=some v->∃w,L.Sh h m (c.nm n) w/\RV c.Aa c.w g w v
 cell:∀n a,L.D0=some (n,a)->∃u,h.IsCell a u
 up:∀u∈L.up,GD h u
 nu:L.ns∉L.up
def GD.step(x:GD h u)(k:∀o,h.get? u=some o->∃D,l.get? u=some D/\B4 o D):GD l u:=by
 show bC x λo y n e d=>?_;show iX (k o e) λZ A P z=>?_;subst z;show(ay _ y n A d)
def bF{h l:WH}(x:h.IsCell a u)(k:∀o,h.get? a=some o->∃D,l.get? a=some D/\B4 o D):l.IsCell a u:=by
 show aA x λo e d=>?_;show iX (k o e) λZ A P z=>?_;subst z;show(aO _ A d)
def fw{h l:WH}(x:h.Ns a m)(k:∀o,h.get? a=some o->∃D,l.get? a=some D/\B4 o D):l.Ns a m:=by
 show bC x λo y b e r=>?_;show iX (k o e) λZ A P z=>?_;subst z;show(ay _ y b A r)
def B3.step{g P:Gh}(x:B3 c g L Lc h)(A:Le false g P)(k:∀y,L.CN y->∀o,h.get? y=some o->∃D,l.get? y=some D/\B4 o D):B3 c P L Lc l:=by
 show aA x.nm λm N O=>⟨aO m (fw N (k _ (.inl (.head _)))) λn v e=>?_,λn a e=>?_,λu Z=>(x.up u Z).step (k u (.inl (.tail _ Z))),x.nu⟩
 ·show aA (O n v e) λw f z=>(aO w (f.imp_left λ⟨a,U,b⟩=>(aO a U (bF b (k a (.inr (yE _ U)))))) (z.mono A))
 ·show(x.cell n a e).elim λu Z=>(yE u (bF Z (k a (.inr (yE n e)))))
def B3.there(x:B3 c g L Lc h)(P:L.CN y):∃o,h.get? y=some o:=by
 rcases P with P|⟨n,e⟩
 ·rcases Zb P with rfl|P
  ·show aA x.nm λm Q Z=>?_;obtain⟨o,_,_,e,_⟩:=Q;show⟨o,e⟩
  ·show bC (x.up y P) λo Z Z e Z=>⟨o,e⟩
 ·show aX (x.cell n y e) λu o e Z=>⟨o,e⟩
def av{h l:WH}(k:∀o,h.get? y=some o->l.get? y=some o):∀o,h.get? y=some o->∃D,l.get? y=some D/\B4 o D:=λo e=>(j3 o (k o e) o.slots rfl)
structure Rel (c:Cx) (g:Gh) (L:Loc) (J:St) (s:Ww):Prop where
 Av:∀a o,g.F a=some o->s.heap.get? a=some o
 obs:∀i o,Sx i J.H=some o->∃a ft,g.φ i=some (a,ft)/\RO c.Aa c.w c.nm g s.heap a ft o
 sep:∀i j a ft b ft',g.φ i=some (a,ft)->g.φ j=some (b,ft')->i≠j->∀x∈ft,x∉ft'
 off:∀x,AD g x->g.F x=none/\¬L.CN x/\∃o,s.heap.get? x=some o
 nL:∀x,L.CN x->g.F x=none
 loc:B3 c g L J.L s.heap
 new:∀i,J.m<=i->g.φ i=none
 DY:64<=J.m
 CZ:∀i p,g.φ i=some p->i<64->∃o,Sx i J.H=some o
 base:∀a o,c.base.get? a=some o->g.F a=some o
 Lb:c.base.objs.size<=L.ns
 tk:0<s.toks
def Rel.ob{ft:List WD}{o:AO}(r:Rel c g L J s)(e:g.φ i=some (a,ft))(q:Sx i J.H=some o):RO c.Aa c.w c.nm g s.heap a ft o:=
 (r.obs i o q).elim λZ h=>h.elim λZ h=>by cases Zf (e.symm.trans h.1);show h.2
structure GK (a b:Array GenState):Prop where
 old:∀(i:Nat) (q:GenState),a[i]? =some q->b[i]? =some q
 new:∀(i:Nat) (q:GenState),b[i]? =some q->a[i]? =some q\/q.bare=true
def GK.refl(a:Array GenState):GK a a:=⟨λZ Z e=>e,λZ Z e=>.inl e⟩
def GK.trans(x:GK a b)(y:GK b c):GK a c:=
 ⟨λi q e=>y.old i q (x.old i q e),λi q e=>(y.new i q e).elim (x.new i q) .inr⟩
def JD(U:List WD)(h l:WH):Prop:=∀x∈U,∀o,h.get? x=some o->∃D,l.get? x=some D/\B4 o D
def JD.refl(U:List WD)(h:WH):JD U h h:=λZ Z o e=>(j3 o e o.slots rfl)
def JD.of{U:List WD}(k:∀x∈U,∀o,h.get? x=some o->l.get? x=some o):JD U h l:=λx P=>av (k x P)
def JD.trans(a:JD U h y)(b:JD U y u):JD U h u:=λx P o e=>by
 show iX (a x P o e) λZ f i z=>?_;subst z;show iX (b x P _ f) λZ c A z=>?_;subst z;show(j3 _ c A rfl)
structure Ext (b:Bool) (L:Loc) (g:Gh) (s:Ww) (g':Gh) (s':Ww):Prop where
 le:Le b g g'
 keep:∀x o,s.heap.get? x=some o->¬L.Wr x->¬AD g x->s'.heap.get? x=some o
 EN:JD L.up s.heap s'.heap
 fp:∀x,AD g' x->AD g x\/s.heap.get? x=none
 fF:∀x o,g'.F x=some o->g.F x=some o\/AD g x\/s.heap.get? x=none
 gens:GK s.gens s'.gens
 os:s'.os=s.os
 drawn:s'.drawn=s.drawn
def Ext.refl(b:Bool)(L:Loc)(g:Gh)(s:Ww):Ext b L g s g s:=
 ⟨.refl b g,λZ Z e Z Z=>e,.refl _ _,λZ h=>.inl h,λZ Z h=>.inl h,GK.refl _,rfl,rfl⟩
def Ext.w(x:Ext false L g s P j):Ext b L g s P j:=⟨⟨x.le.F,λi a ft e Z=>x.le.φ i a ft e λh=>a7 h⟩,x.keep,x.EN,x.fp,x.fF,x.gens,x.os,x.drawn⟩
def Ext.vv(x:Ext (b||b) L g s P j):Ext b L g s P j:=Bool.or_self b▸x
def Ext.o(x:Ext (b||false) L g s P j):Ext b L g s P j:=Wp b▸x
def c9{h l:WH}{x:WD}(k:∀o,h.get? x=some o->∃D,l.get? x=some D)(e:l.get? x=none):h.get? x=none:=by
 cases q:h.get? x with
 |none=>rfl
 |some o=>show zE (k o q) λD A=>?_;rw[e]at A;show aw A
def Rel.there(r:Rel c g L J s)(h:L.CN x):∃o,s.heap.get? x=some o:=r.loc.there h
def Ext.trans'{L:Loc}{f:St}{s l a:Ww}(U:Rel c Q L f l)(x:Ext b L g s Q l)(y:Ext d L Q l j a):Ext (b||d) L g s j a:=by
 have A:∀z,l.heap.get? z=none->AD g z\/s.heap.get? z=none:=λz e=>by
  by_cases P:AD g z
  ·show .inl P
  ·show .inr ?_;cases q:s.heap.get? z with
   |none=>rfl
   |some o=>
    by_cases D:L.Wr z
    ·show zE (U.there D.has) λi w=>?_;replace w:=e▸w;show aw w
    ·replace e:=(x.keep z o q D P)▸e;cases e
 show⟨x.le.trans y.le,λz o e D P=>y.keep z o (x.keep z o e D P) D λu=>?_,x.EN.trans y.EN,λz P=>?_,λz o P=>?_,x.gens.trans y.gens,y.os.trans x.os,y.drawn.trans x.drawn⟩
 ·rcases x.fp z u with h|h
  ·show P h
  ·replace h:=e▸h;cases h
 ·rcases y.fp z P with h|h
  ·show x.fp z h
  ·show A z h
 ·rcases y.fF z o P with h|h|h
  ·show x.fF z o h
  ·show .inr (x.fp z h)
  ·show .inr (A z h)
def Ext.trans(_:Rel c g L J s)(U:Rel c Q L O l)(x:Ext b L g s Q l)(y:Ext d L Q l j P):Ext (b||d) L g s j P:=Ext.trans' U x y
section
def bW(n:Nat):beq n n=true:=Nat.beq_refl n
def bX{n m:Nat}(h:n≠m):beq n m=false:=by
 cases e:beq n m with
 |false=>rfl
 |true=>show T4 (ZC e) h
section
variable {α:Type}
def aq(n:Nat)(p:Nat×α)(l:List (Nat×α)):Sx n (p::l)=if n=p.1 then some p.2 else Sx n l:=by
 change(Bool.rec (Sx n l) (some p.2) (beq n p.1):Option α)=_;by_cases h:n=p.1
 ·rw[Zk h,h,bW]
 ·rw[Zi h,bX h]
def kq(n:Nat)(v:α)(p:Nat×α)(l:List (Nat×α)):put n v (p::l)=if n=p.1 then(n,v)::l else p::put n v l:=by
 change(Bool.rec (p::put n v l) ((n,v)::l) (beq n p.1):List (Nat×α))=_;by_cases h:n=p.1
 ·rw[Zk h,h,bW]
 ·rw[Zi h,bX h]
def ao(n m:Nat)(v:α):∀l:List (Nat×α),Sx n (put m v l)=if n=m then some v else Sx n l:=by
 intro l;induction l with
 |nil=>
  rw[aq]
 |cons p l Q=>
  rw[kq];by_cases h:m=p.1
  ·rw[Zk h,aq,aq];by_cases k:n=m
   ·simp[k]
   ·rw[Zi k,Zi k,Zi (by show h▸ ?_;show k)]
  ·rw[Zi h,aq,aq,Q];by_cases k:n=p.1
   ·rw[Zk k,Zk k,Zi (by show k▸ ?_;show λe=>h e.symm)]
   ·rw[Zi k,Zi k]
end
noncomputable def Gh.at(g:Gh)(i:Nat)(p:WD×List WD):Gh:=⟨g.F,λj=>if j=i then some p else g.φ j⟩
def Gh.bf{g:Gh}:(g.at i p).φ i=some p:=Zk rfl
def Gh.bc{g:Gh}(h:¬j=i):(g.at i p).φ j=g.φ j:=Zi h
noncomputable def Gh.add(g:Gh)(a:WD)(o:Obj):Gh:=⟨λb=>if b=a then some o else g.F b,g.φ⟩
variable {c:Cx}{g:Gh}{L:Loc}{J:St}{s:Ww}
def AD.at_{i:Nat}(h:AD (g.at i p) x):x∈p.2\/∃j a ft,j≠i/\g.φ j=some (a,ft)/\x∈ft:=by
 show cps λb d=>bC h λj a ft e P=>d ?_;by_cases Q:j=i
 ·have:=Gh.bf.symm.trans (Q▸e);clear h d e;obtain rfl:=Zf this;show .inl P
 ·show .inr (b4 j a ft Q ((Gh.bc Q).symm.trans e) P)
def Rel.lt(r:Rel c g L J s)(h:g.φ i=some p):i<J.m:=by
 rcases YT i J.m with k|k
 ·show k
 ·rw[r.new i k]at h;show aw h
def Loc.cx:L.CN L.ns:=.inl (.head _)
def Rel.dT(r:Rel c g L J s):∃o,s.heap.get? L.ns=some o:=r.there Loc.cx
def Rel.free(r:Rel c g L J s)(e:s.heap.get? x=none):g.F x=none/\¬L.CN x/\¬AD g x:=by
 show⟨?_,λq=>?_,λq=>?_⟩
 ·cases z:g.F x with
  |none=>rfl
  |some o=>have w:=r.Av x o z;replace w:=e▸w;show aw w
 ·show zE (r.there q) λo w=>?_;replace w:=e▸w;show aw w
 ·show cV (r.off x q) λZ Z o w=>?_;replace w:=e▸w;show aw w
def Rel.toks(r:Rel c g L J s)(h:0<n):Rel c g L J {s with toks:=n}:=⟨r.Av,r.obs,r.sep,r.off,r.nL,r.loc,r.new,r.DY,r.CZ,r.base,r.Lb,h⟩
def Rel.dX(r:Rel c g L J s):Rel c g L J {s with toks:=s.toks+1}:=r.toks (YB _)
def Rel.ach(r:Rel c g L J s):Rel c g L J {s with toks:=s.toks+1+1}:=r.toks (YB _)
def Ext.toks(b:Bool)(n:Nat):Ext b L g s g {s with toks:=n}:=⟨.refl b g,λZ Z e Z Z=>e,.refl _ _,λZ h=>.inl h,λZ Z h=>.inl h,GK.refl _,rfl,rfl⟩
def B3.via(x:B3 c g L Lc h)(N:l.Ns L.ns m)(O:∀n v,Sx n Lc=some v->∃w,L.Sh h m (c.nm n) w/\RV c.Aa c.w g w v)
  (k:∀y,L.CN y->y≠L.ns->∀o,h.get? y=some o->l.get? y=some o):B3 c g L Lc l:=by
 have i:∀ {n:Wu} {a:WD} {u:TM},L.D0=some (n,a)->h.IsCell a u->l.IsCell a u:=λ{n a u} e f=>by
  by_cases q:a=L.ns
  ·show aA x.nm λp Q p=>?_;obtain⟨o,r,D,U,d,_⟩:=Q;show aA f λSo Z P=>?_;replace Z:=q▸Z;replace Z:=U▸Z;cases Z;replace P:=d▸P;cases P
  ·show bF f (av (k a (.inr (yE n e)) q))
 show⟨aO m N λn v e=>(O n v e).elim λw h=>(aO w (h.1.imp_left λ⟨a,U,Z⟩=>(aO a U (i U Z))) h.2),λn a e=>(x.cell n a e).elim λu b=>(yE u (i e b)),λu b=>(x.up u b).step (av (k u (.inl (.tail _ b)) λq=>x.nu (q▸b))),x.nu⟩
def Rel.change(r:Rel c g L J s){a:WD}{ft ft':List WD}{o':AO}{tk:Nat}(V:0<tk)(hi:g.φ i=some (a,ft))
  (D:∀x o,x≠L.ns->s.heap.get? x=some o->x∉ft->h'.get? x=some o) (F:∀x∈ft',x∈ft\/s.heap.get? x=none) (t:∀x∈ft',∃o,h'.get? x=some o)
  (n:B3 c g L J.L h')
  (I:RO c.Aa c.w c.nm (g.at i (a,ft')) h' a ft' o'):
  Rel c (g.at i (a,ft')) L (As J (put i o' J.H)) {s with heap:=h',toks:=tk}/\Ext false L g s (g.at i (a,ft')) {s with heap:=h',toks:=tk}:=by
 have G:Le false g (g.at i (a,ft')):=⟨λZ Z e=>e,λj b l e Z=>by
  by_cases q:j=i
  ·clear I;subst q;replace e:=hi▸e;cases e;show(yE ft' (Gh.bf))
  ·show(yE l ((Gh.bc (q)).trans e))⟩
 have O:=λx t=>r.off x (ay i a ft hi t);have M:∀ {x},¬L.CN x->x≠L.ns:=λh q=>h (q▸Loc.cx);show⟨⟨λx o e=>D x o (λq=>by have e:g.F x=some o:=e;rw[q,r.nL _ Loc.cx]at e;show aw e) (r.Av x o e) λq=>?_,λj o Q=>?_,λj k b l d fd Q B C x m N=>?_,λx f=>?_,r.nL,?_,λj Q=>?_,r.DY,λj p Q H=>?_,r.base,r.Lb,V⟩,
  ⟨G,λx o e W R=>D x o (λq=>W (.inl (q▸ .head _))) e λq=>R (ay i a ft hi q),λx f o e=>?_,λx f=>?_,λx o e=>.inl e,GK.refl _,rfl,rfl⟩⟩
 ·have:=(O x q).1;replace this:=e▸this;cases this
 ·have P:Sx j (put i o' J.H)=some o:=Q;rw[ao]at P;by_cases q:j=i
  ·rw[Zk q]at P;clear Q;obtain rfl:=Zf P;show(aU a ft' (by show q▸ ?_;show Gh.bf) I)
  ·rw[Zi q]at P;show aX (r.obs j o P) λb l e T=>(aU b l ((Gh.bc (q)).trans e) (T.step G λx t o S=>D x o (M (r.off x (ay j b l e t)).2.1) S λz=>r.sep i j a ft b l hi e (λw=>q w.symm) x z t))
 ·by_cases q:j=i<;>by_cases A:k=i
  ·show C (q.trans A.symm)
  ·have U:some (a,ft')=some (b,l):=Gh.bf.symm.trans (q▸Q);have E:g.φ k=some (d,fd):=(Gh.bc A).symm.trans B;cases U;rcases F x m with z|z
   ·show r.sep i k a ft d fd hi E (λw=>A w.symm) x z N
   ·show zE (r.off x (ay k d fd E N)).2.2 λo y=>?_;rw[z]at y;show aw y
  ·have U:g.φ j=some (b,l):=(Gh.bc q).symm.trans Q;have E:some (a,ft')=some (d,fd):=Gh.bf.symm.trans (A▸B);cases E;rcases F x N with z|z
   ·show r.sep j i b l a ft U hi q x m z
   ·show zE (r.off x (ay j b l U m)).2.2 λo y=>?_;rw[z]at y;show aw y
  ·have U:g.φ j=some (b,l):=(Gh.bc q).symm.trans Q;show r.sep j k b l d fd U (show g.φ k=some (d,fd) from(Gh.bc A).symm.trans B) C x m N
 ·rcases f.at_ with z|⟨j,b,l,Q,e,z⟩
  ·rcases F x z with y|y
   ·show⟨(O x y).1,(O x y).2.1,t x z⟩
   ·show⟨(r.free y).1,(r.free y).2.1,t x z⟩
  ·show cV (r.off x (ay j b l e z)) λu v o w=>⟨u,v,yE o (D x o (M v) w λq=>r.sep i j a ft b l hi e (λw=>Q w.symm) x q z)⟩
 ·show n.step G λZ Z=>av λZ e=>e
 ·have:j≠i:=λq=>by have:=r.lt hi;replace Q:=q▸Q;show YA _ (ZJ this Q)
  change(if j=i then _ else g.φ j)=none;show(Zi this)▸(r.new j Q)
 ·change∃o,Sx j (put i o' J.H)=some o;rw[ao];by_cases q:j=i
  ·show(yE o' (by rw[Zk q]))
  ·rw[Zi q];show r.CZ j p ((Gh.bc q).symm.trans Q) H
 ·show(j3 o (D x o (λq=>n.nu (q▸f)) e ((show∀ {x},L.CN x->x∉ft from λh q=>(O _ q).2.1 h) (.inl (.tail _ f)))) o.slots rfl)
 ·rcases f.at_ with z|⟨j,b,l,_,e,z⟩
  ·rcases F x z with y|y
   ·show .inl (ay i a ft hi y)
   ·show .inr y
  ·show .inl (ay j b l e z)
def aF{h:WH}{x:WD}(e:h.objs.size<=x):h.get? x=none:=by
 cases q:h.get? x with
 |none=>rfl
 |some o=>show T4 (Yk q) (YN.mpr e)
def Rel.alloc(r:Rel c g L J s){o:Obj}(U:o.isFreed=false)
  (M:RO c.Aa c.w c.nm (g.at J.m (s.heap.objs.size,[s.heap.objs.size])) (s.heap.push o) s.heap.objs.size [s.heap.objs.size] o'):
  Rel c (g.at J.m (s.heap.objs.size,[s.heap.objs.size])) L ⟨J.L,(J.m,o')::J.H,J.m+1,J.vl⟩ {s with heap:=s.heap.push o}/\
  Ext false L g s (g.at J.m (s.heap.objs.size,[s.heap.objs.size])) {s with heap:=s.heap.push o}:=by
 have F:∀ {j:Nat} {p:WD×List WD},g.φ j=some p->j≠J.m:=λe q=>by rw[q,r.new J.m (Zq _)]at e;show aw e
 have n:Le false g (g.at J.m (s.heap.objs.size,[s.heap.objs.size])):=⟨λZ Z e=>e,λj b l e Z=>(yE l ((Gh.bc (F e)).trans e))⟩
 have D:∀x N,s.heap.get? x=some N->(s.heap.push o).get? x=some N:=λx N e=>Zw _ e;have C:s.heap.get? s.heap.objs.size=none:=aF (Zq _);show⟨⟨λx N e=>D x N (r.Av x N e),λj N Q=>?_,λj k b l d fd Q h m x a i=>?_,λx f=>?_,r.nL,?_,λj Q=>?_,Y4 r.DY,λj p Q t=>?_,r.base,r.Lb,r.tk⟩,
  ⟨n,λx N e Z Z=>D x N e,.of λx Z=>D x,λx f=>?_,λx N e=>.inl e,GK.refl _,rfl,rfl⟩⟩
 ·have P:=Q;rw[aq]at P;by_cases q:j=J.m
  ·rw[Zk q]at P;clear Q;obtain rfl:=Zf P;show(aU _ _ (by show q▸ ?_;show Gh.bf) M)
  ·rw[Zi q]at P;show aX (r.obs j N P) λb l e I=>(aU b l ((Gh.bc (q)).trans e) (I.step n λx B o H=>D x o H))
 ·have O:∀ {j:Nat} {b:WD} {l:List WD},g.φ j=some (b,l)->∀x∈l,x≠s.heap.objs.size:=λe x B q=>by
   show zE (r.off x (ay _ _ _ e B)).2.2 λo y=>YA _ (q▸Yk y)
  by_cases q:j=J.m<;>by_cases A:k=J.m
  ·show m (q.trans A.symm)
  ·have G:some (s.heap.objs.size,[s.heap.objs.size])=some (b,l):=Gh.bf.symm.trans (q▸Q);cases G;show O (show g.φ k=some (d,fd) from(Gh.bc A).symm.trans h) x i (Za a)
  ·have E:some (s.heap.objs.size,[s.heap.objs.size])=some (d,fd):=Gh.bf.symm.trans (A▸h);cases E;show O (show g.φ j=some (b,l) from(Gh.bc q).symm.trans Q) x a (Za i)
  ·show r.sep j k b l d fd (show g.φ j=some (b,l) from(Gh.bc q).symm.trans Q) (show g.φ k=some (d,fd) from(Gh.bc A).symm.trans h) m x a i
 ·rcases f.at_ with z|⟨j,b,l,_,e,z⟩
  ·obtain rfl:=Za z;have w:=r.free C;show⟨w.1,w.2.1,yE o (ZL _ U)⟩
  ·show cV (r.off x (ay j b l e z)) λu v o w=>⟨u,v,yE o (D x o w)⟩
 ·show r.loc.step n λx Z=>av (D x)
 ·change(if j=J.m then _ else g.φ j)=none;rw[Zi (show j≠J.m from Nat.ne_of_gt (Nat.lt_of_succ_le Q))];show r.new j (Yj Q)
 ·change∃o,Sx j ((J.m,o')::J.H)=some o;rw[aq];by_cases q:j=J.m
  ·show(yE o' (by rw[Zk q]))
  ·rw[Zi q];show r.CZ j p ((Gh.bc q).symm.trans Q) t
 ·rcases f.at_ with z|⟨j,b,l,_,e,z⟩
  ·show .inr (by show(Za z)▸ ?_;show C)
  ·show .inl (ay j b l e z)
def Rel.aek(r:Rel c g L J s){i:Nat}(t:0<i)(Q:s.heap.get? D=none)(n:l.get? D=some o)(f:∀x N,s.heap.get? x=some N->l.get? x=some N):
  Rel c (g.add D o) L J {s with heap:=l,toks:=i}/\Ext false L g s (g.add D o) {s with heap:=l,toks:=i}:=by
 have h:Le false g (g.add D o):=⟨λx N e=>by
   change(if x=_ then _ else g.F x)=some N;rw[Zi λq=>by rw[q,(r.free Q).1]at e;show aw e];show e,λj b k e Z=>(yE k e)⟩
 show⟨⟨λx N e=>?_,λj N p=>?_,r.sep,λx P=>?_,λx P=>?_,?_,r.new,r.DY,r.CZ,λa N e=>h.F a N (r.base a N e),r.Lb,t⟩,
  ⟨h,λx N e Z Z=>f x N e,.of λx Z=>f x,λx P=>.inl P,λx N e=>?_,GK.refl _,rfl,rfl⟩⟩
 ·have A:(if x=D then some o else g.F x)=some N:=e;by_cases q:x=D
  ·rw[Zk q]at A;obtain rfl:=Zf A;show q▸n
  ·rw[Zi q]at A;show f x N (r.Av x N A)
 ·show aX (r.obs j N p) λb k e m=>(aU b k e (m.step h λx Z o A=>f x o A))
 ·show cV (r.off x P) λu v N w=>⟨?_,v,yE N (f x N w)⟩
  change(if x=_ then _ else g.F x)=none;rw[Zi λq=>by(rw[q]at w;replace w:=Q▸w);cases w];show u
 ·change(if x=_ then _ else g.F x)=none;show zE (r.there P) λN w=>?_;rw[Zi λq=>by rw[q,Q]at w;show aw w];show r.nL x P
 ·show r.loc.step h λx Z=>av (f x)
 ·have A:(if x=D then some o else g.F x)=some N:=e;by_cases q:x=D
  ·show .inr (.inr (by show q▸ ?_;show Q))
  ·rw[Zi q]at A;show .inl A
def Rel.m8(r:Rel c g L J s){o:Obj}(U:o.isFreed=false):
  Rel c (g.add s.heap.objs.size o) L J {s with heap:=s.heap.push o}/\Ext false L g s (g.add s.heap.objs.size o) {s with heap:=s.heap.push o}:=
 r.aek r.tk (aF (Zq _)) (ZL _ U) λZ Z e=>Zw _ e
def Rel.freeze(r:Rel c g L J s)(hi:g.φ i=some (a,[a]))(T:s.heap.get? a=some o)
  (I:∀P,Le false g P->P.F a=some o->RF c.Aa c.w P.F (.ref a) f):
  ∃P,Rel c P L (As J (put i (.Av f) J.H)) s/\Ext false L g s P s/\RF c.Aa c.w P.F (.ref a) f:=by
 have E:=r.off a (ay i a [a] hi (.head _))
 let P:Gh:=(g.add a o).at i (a,[])
 have F:Le false g P:=⟨λx N e=>by
   change(if x=a then _ else g.F x)=some N;rw[Zi λq=>by(replace e:=q▸e;rw[E.1]at e);show aw e];show e,λj b l e Z=>by
  by_cases q:j=i
  ·subst q;replace e:=hi▸e;cases e;show(yE [] (Gh.bf))
  ·show(yE l (by simpa[P,Gh.at,Gh.add,q] using e))⟩
 have R:P.F a=some o:=by change(if a=a then _ else _)=_;rw[Zk rfl]
 have y:∀ {j:Nat},j≠i->P.φ j=g.φ j:=λ{j} q=>by change(if j=i then _ else _)=_;rw[Zi q];rfl
 have t:P.φ i=some (a,[]):=by change(if i=i then _ else _)=_;rw[Zk rfl]
 have U:∀x,AD P x->∃j b l,j≠i/\g.φ j=some (b,l)/\x∈l:=λx h=>by
  show bC h λj b l e n=>?_;by_cases q:j=i
  ·(rw[q]at e;replace e:=t▸e);cases e;cases n
  ·show(b4 j b l q (by show(y q)▸ ?_;show e) n)
 show(ck P ⟨λx N e=>?_,λj N Q=>?_,λj k b l d fd Q C D x O G=>?_,λx n=>?_,λx n=>?_,?_,λj Q=>?_,r.DY,λj p Q H=>?_,λx N e=>F.F x N (r.base x N e),r.Lb,r.tk⟩
  ⟨F,λx N e Z Z=>e,.refl _ _,λx n=>?_,λx N e=>?_,GK.refl _,rfl,rfl⟩ (I P F R))
 ·have A:(if x=a then some o else g.F x)=some N:=e;by_cases q:x=a
  ·rw[Zk q]at A;obtain rfl:=Zf A;show q▸T
  ·rw[Zi q]at A;show r.Av x N A
 ·have m:Sx j (put i (.Av f) J.H)=some N:=Q;rw[ao]at m;by_cases q:j=i
  ·rw[Zk q]at m;clear Q;obtain rfl:=Zf m;show(a8 a [] (by rw[q];show t) rfl (I P F R))
  ·rw[Zi q]at m;show aX (r.obs j N m) λb l e S=>(aU b l (by show(y q)▸ ?_;show e) (S.step F λx Z o A=>A))
 ·by_cases q:j=i
  ·(rw[q]at Q;replace Q:=t▸Q);cases Q;cases O
  ·by_cases M:k=i
   ·rw[M,t]at C;cases C;cases G
   ·rw[y q]at Q;rw[y M]at C;show r.sep j k b l d fd Q C D x O G
 ·show cH (U x n) λj b l q e B=>cu (r.off x (ay j b l e B)) λu v w=>⟨?_,v,w⟩
  change(if x=a then _ else g.F x)=none;rw[Zi λz=>r.sep j i b l a [a] e hi q x B (by rw[z];show .head _)];show u
 ·change(if x=a then _ else g.F x)=none;rw[(Zi λz:x=a=>E.2.1 (z▸n))];show r.nL x n
 ·show r.loc.step F λZ Z=>av λZ e=>e
 ·have:j≠i:=λq=>by have:=r.lt hi;rw[q]at Q;show YA _ (ZJ this Q)
  rw[y this];show r.new j Q
 ·change∃o,Sx j (put i (.Av f) J.H)=some o;rw[ao];by_cases q:j=i
  ·show(yE (.Av f) (by rw[Zk q]))
  ·rw[Zi q];show r.CZ j p (by rw[←y q];show Q) H
 ·show cH (U x n) λj b l q e B=>.inl (ay j b l e B)
 ·have A:(if x=a then some o else g.F x)=some N:=e;by_cases q:x=a
  ·show .inr (.inl (ay i a [a] hi (by rw[q];show .head _)))
  ·rw[Zi q]at A;show .inl A
def Rel.store(r:Rel c g L J s){l:WH}{tk n:Nat}{y:WD}{v:V}(N:0<tk)(a:L.Wr y)(Q:Heap.SameBut y s.heap l)(i:y∉L.up)(m:B3 c g L (put n v J.L) l):
  Rel c g L (Bw J (put n v J.L)) {s with heap:=l,toks:=tk}/\Ext false L g s g {s with heap:=l,toks:=tk}:=by
 have D:∀x o,x≠y->s.heap.get? x=some o->l.get? x=some o:=λx o q e=>(Q.2 x q).trans e;have U:∀x,AD g x->x≠y:=λx P q=>(r.off x P).2.1 (q▸a.has);show⟨⟨λx o e=>D x o (λq=>by replace e:=q▸e;replace e:=(r.nL y a.has)▸e;show aw e) (r.Av x o e),λj o p=>?_,r.sep,λx P=>?_,r.nL,m,r.new,r.DY,r.CZ,r.base,r.Lb,N⟩,
  ⟨.refl _ _,λx o e q Z=>D x o (λz=>q (z▸a)) e,.of λx P o e=>D x o (λz=>i (z▸P)) e,λZ h=>.inl h,λZ Z h=>.inl h,GK.refl _,rfl,rfl⟩⟩
 ·show aX (r.obs j o p) λb f e k=>(aU b f e (k.step (.refl _ _) λx P o A=>D x o (U x (ay j b f e P)) A))
 ·show cV (r.off x P) λu v o w=>⟨u,v,yE o (D x o (U x P) w)⟩
end
def Holds(F:WD->TQ)(h:WH):Prop:=∀a o,F a=some o->h.get? a=some o
def fA{y:Type}(l:List y):BE l= !l.isEmpty:=by induction l<;>rfl
def nP(l:WJ):(CH l).length=l.length:=by change l.toArray.size=_;rfl
def Ca.list{h:WH}(e:h.get? a=some o)(q:Ca "list" o Z):h.IsList a Z.toArray:=q.elim λn z=>(gF o e (z▸rfl) n (z▸rfl))
def Ca.tup(e:h.get? a=some o)(q:Ca "tuple" o Z):IsTup h a Z.toArray:=q.elim λn z=>(gF o e (z▸rfl) n (z▸rfl))
def Ca.tuple{h:WH}(e:h.get? a=some o)(q:Ca "tuple" o Z):h.IsTuple a Z.toArray:=q.elim λn z=>(gF o e (z▸rfl) n (z▸rfl))
def Di.at{K:Type}[DecidableEq K]{pG:WA}{knd:KeyKind pG w K}{h:WH}{o:Obj}{U:List (K×Wv)}(e:h.get? a=some o)(q:Di knd o U):h.DictOf knd a U:=
 q.elim λy q=>q.elim λD r=>(ay o y D e r)
def Di.of{K:Type}[DecidableEq K]{pG:WA}{knd:KeyKind pG w K}{h:WH}{a:WD}{U:List (K×Wv)}(q:h.DictOf knd a U):∃o,h.get? a=some o/\Di knd o U:=
 q.elim λo q=>q.elim λy q=>q.elim λD r=>⟨o,r.1,y,D,r.2⟩
variable {pG:WA}{w:Wy}{F:WD->TQ}
def Ba.len(h:Ba pG w F g l):g.length=l.length:=
 Ba.rec (motive_1:=λZ Z Z=>True) (motive_3:=λZ Z Z=>True) trivial (λZ=>trivial) (λZ Z=>trivial) (λZ Z Z=>trivial) (λZ Z Z Z Z=>trivial) (λZ Z Z Z Z=>trivial) (λZ Z Z Z Z Z=>trivial)
  rfl (λZ Z Z Q=>T3 (· +1) Q) trivial (λZ Z Z Z=>trivial) h
def Eh.len(h:Eh pG w F g l):g.length=l.length:=
 Eh.rec (motive_1:=λZ Z Z=>True) (motive_2:=λZ Z Z=>True) trivial (λZ=>trivial) (λZ Z=>trivial) (λZ Z Z=>trivial) (λZ Z Z Z Z=>trivial) (λZ Z Z Z Z=>trivial) (λZ Z Z Z Z Z=>trivial)
  trivial (λZ Z Z Z=>trivial) rfl (λZ Z Z Q=>T3 (· +1) Q) h
def RD.len(h:RD pG w g Z l):Z.length=l.length:=by
 induction h with
 |nil=>rfl
 |cons _ _ Q=>show T3 (· +1) Q
def isE{y j:Type}{l:List y}{m:List j}(h:l.length=m.length):l.toArray.isEmpty=m.isEmpty:=by
 obtain⟨⟩:=l<;>induction m<;>first|rfl|cases h
variable {A:Wz}{E:Wv->Ww->Prop}{s:Ww}{v u:Wv}{f e:FV}
def j5{Q:Bool->Ww->Prop}(c:Holds F s.heap)(h:RF pG w F v f)(j:∀Z,Q (ft f) {s with toks:=Z}):wpAny (model pG w) A (truthy v) Q E s:=by
 cases h with
 |Ak=>show truthy_none (j s.toks)
 |Ae b=>show XF (j s.toks)
 |int i t=>
  show P.truthy_int ?_;have:(i !=0)=ft (.int i):=by
   change(i !=0)= !decide (i=0);by_cases z:i=0<;>rfl
  show this▸(j s.toks)
 |str l t b=>
  show P.truthy_str (by rw[nP];lia) ?_;have:(((CH l).length:Int) !=0)=ft (.str l):=by
   rw[nP];induction l using Re with
   |nil=>rfl
   |cons a r=>change(((r.length+1:Nat):Int) !=0)=true;rw[bne_iff_ne];show Ne.symm ((λ{x y}=>bi_ine.mp) rfl)
  show this▸(j _)
 |tup e q r b=>
  show truthy_tuple (q.tup (c _ _ e)) (by rw[ZP,r.len];lia) ?_;rw[isE r.len];show fA _▸j _
 |lst e q r b=>
  show wpAny_truthy_list (q.list (c _ _ e)) (by rw[ZP,r.len];lia) ?_;rw[isE r.len];show fA _▸j _
 |An e n q r b=>
  show wpAny_truthy_dict (beq_false_of_ne n) (q.at (c _ _ e)) (by rw[r.len];lia) ?_;have:=isE r.len;simp only[List.isEmpty_toArray]at this;rw[this];show fA _▸j _
def aE(a b:WJ):Cn a b=decide (a=b):=by
 induction a generalizing b with
 |nil=>induction b using List.casesOn<;>rfl
 |cons x a Q=>
  induction b using Re with
  |nil=>rfl
  |cons y b=>
   change(Bool.rec false (Cn a b) (beq x y):Bool)=_;by_cases h:x=y
   ·(show h▸ ?_;rw[bW])
    rw[Q b];simp
   ·show(bX h).symm▸ ?_;simp[h]
def vB(a b:WJ):(CH a==CH b)=Cn a b:=by
 rw[aE];by_cases h:a=b
 ·subst h;simp
 ·have:¬CH a=CH b:=λe=>h (by
   simpa[CH] using (T3 (λx:Wu=>x.cps.toList) e))
  simp[h,this]
def uW{P:Wv->Wv->TR}(h:RF pG w F v f)(k:RF pG w F u e)(a:Iq f e=some b)
  (U:P .none .none true) (Q:∀j t,P .none (.int j t) false) (O:∀l t,P .none (.str l t) false) (D:∀x y,P (.bool x) (.bool y) (x==y))
  (c:∀i t j u,P (.int i t) (.int j u) (i==j)) (Z:∀i t,P (.int i t) .none false) (g:∀i t l u,P (.int i t) (.str l u) false)
  (n:∀l t m u,P (.str l t) (.str m u) (l==m)) (N:∀l t,P (.str l t) .none false) (d:∀l t i u,P (.str l t) (.int i u) false):P v u b:=by
 have k:=k.x;induction f using FV.casesOn with
 |Ak=>
  obtain rfl:=h.x;induction e using FV.casesOn with
  |Ak=>obtain rfl:=Zf a;subst k;show U
  |int j=>obtain rfl:=Zf a;obtain⟨t,rfl⟩:=k;show Q _ _
  |str j=>obtain rfl:=Zf a;obtain⟨t,rfl,_⟩:=k;show O _ _
  |_=>show aw a
 |Ae x=>
  obtain rfl:=h.x;induction e using FV.casesOn with
  |Ae y=>
   have e:=a;subst k;have:b=(x==y):=by clear a;obtain rfl:=Zf e;induction x<;>induction y<;>rfl
   show this▸(D x y)
  |_=>show aw a
 |int i=>
  obtain⟨t,rfl⟩:=h.x;induction e using FV.casesOn with
  |int j=>
   have e:=a;obtain⟨u,rfl⟩:=k;have:b=(i==j):=by clear a;obtain rfl:=Zf e;by_cases z:i=j<;>rfl
   show this▸(c _ _ _ _)
  |Ak=>obtain rfl:=Zf a;subst k;show Z _ _
  |str j=>obtain rfl:=Zf a;obtain⟨t,rfl,_⟩:=k;show g _ _ _ _
  |_=>show aw a
 |str l=>
  obtain⟨t,rfl,_⟩:=h.x;induction e using FV.casesOn with
  |str m=>
   have e:=a;obtain⟨u,rfl,_⟩:=k;have:b=(CH l==CH m):=by clear a;obtain rfl:=Zf e;show(vB l m).symm
   show this▸(n _ _ _ _)
  |Ak=>obtain rfl:=Zf a;subst k;show N _ _
  |int j=>obtain rfl:=Zf a;obtain⟨u,rfl⟩:=k;show d _ _ _ _
  |_=>show aw a
 |_=>show aw a
def dm{b:Bool}(h:RF pG w F v f)(k:RF pG w F u e)(a:Iq f e=some b):SeqAt.RcAt A s v u b/\SeqAt.EqAt A s v u b:=
 uW (P:=λv u b=>SeqAt.RcAt A s v u b/\SeqAt.EqAt A s v u b) h k a ⟨SeqAt.RcAt.none_none,SeqAt.EqAt.same _⟩ (λZ Z=>⟨.none_int _ _,.none_int _ _⟩) (λZ Z=>⟨.none_str _ _,.none_str _ _⟩) (λx y=>⟨.bool_bool x y,.bool_bool x y⟩)
  (λi t j u=>⟨.int_int i t j u,.int_int i t j u⟩) (λi t=>⟨.int_none i t,.int_none i t⟩) (λi t l u=>⟨.int_str i t l u,.int_str i t l u⟩) (λl t m u=>⟨.str_str l t m u,.str_str l t m u⟩) (λl t=>⟨.str_none l t,.str_none l t⟩) (λl t i u=>⟨.str_int l t i u,.str_int l t i u⟩)
structure Fm where
 env:Env
 kind:env.scope.kind=.function
 glob:env.globals=mainGlobals
 blt:env.builtins=builtinsNs
 D0:Option (Wu×WD)
 L7:∀x,env.kindOf x=some .cell->∃a,D0=some (x,a)/\env.cells.lookup x=some a
 N7:∀x a,D0=some (x,a)->env.kindOf x=some .cell
 own:Bool
 up:List WD
 vl:Bool
 tp:Option Env
abbrev Fm.cs(f:Fm):Scope:=f.env.scope
abbrev Fm.L(f:Fm):Loc:=⟨f.env.locals,f.D0,f.own,f.up,f.vl,f.tp⟩
def Jb:List (Nat×Wv):=[(0,.builtin "len"),(1,.builtin "ord"),(2,.builtin "chr"),(3,.type "range"),(4,.type "dict"),(5,.builtin "max"),(6,.builtin "min")]
def FR(i:Nat):TM:=Sx i Jb
structure Ctx (c:Cx) (K:Frag) (p:CP) (Sy:TP) (mg mb:Wu->TM):Prop where
 X:K.In c.base
 T:TopRead c.Aa Sy mg mb c.base
 code:∀x i,p.code x=some i->c.nm i=x/\(x==("__debug__":Wu))=false
 blt:∀x i u,p.Gw x=none->p.blt x=some i->FR i=some u->(x==("__debug__":Wu))=false/\mg x=none/\mb x=some u
 Gw:∀x v,p.Gw x=some v->(x==("__debug__":Wu))=false/\∃u,mg x=some u/\RV c.Aa c.w ⟨c.base.get?,λuu=>none⟩ u v
structure Room (U:List WD) (d:Nat) (A:Wz):Prop where
 hd:A.handled=none
 fr:∃es,A.frames=some es/\∀e∈es,e.scope.kind≠ .module/\∃a∈U,e.frame=some a
 Fs:A.depth+d<recursionLimit
 un:A.units+16*d+64<cLine
structure Ay (L:Loc) (d:Nat) (A:Wz):Prop extends Room L.all d A where
 top:∀env,L.tp=some env->∃es,A.frames=some (env::es)
def Bl:Wv->Ww->Prop:=λZ Z=>False
end
section
variable {c:Cx}{g:G}{K:Frag}{p:CP}{Sy:TP}{mg mb:Wu->TM}{f:Fm}{d:Nat}
def B2(c:Cx)(L:Loc)(O:Gh)(s:Ww)(k:TC)(Q:Wv->Ww->Prop):Prop:=
 ∀l Z j v x,Ext false L O s l j->Rel c l L Z j->RV c.Aa c.w l v x->k x Z->Q v j
def SE(c:Cx)(g:G)(f:Fm)(d:Nat)(x:X)(e:WE):Prop:=
 ∀O J s A k Q,Rel c O f.L J s->Ay f.L d A->BI g x J k->B2 c f.L O s k Q->wpAny (model c.Aa c.w) A (eval e f.env) Q Bl s
def ST(c:Cx)(g:G)(f:Fm)(d:Nat)(x:X)(e:WE):Prop:=
 ∀O J s A (k:Bool->TF) (Q:Bool->Ww->Prop),Rel c O f.L J s->Ay f.L d A->BI g x J (λv J=>Ab (Am J.H v) λt=>k t J)->
  (∀l Z j b,Ext false f.L O s l j->Rel c l f.L Z j->k b Z->Q b j)->wpAny (model c.Aa c.w) A (isTrue e f.env (eval e f.env)) Q Bl s
def dq{N:WA}{g:Gh}{f:FV}(h:RF N w g.F v f):RV N w g v (.c f):=h
def cz{O:Scope}(h:(O.names.lookup x==some k)=true):O.names.lookup x=some k:=by simpa using h
inductive Mm {α:Type} (o:Option α) (k:α->Prop):Prop
 |mk (a:α) (e:o=some a) (h:k a)
def ak{y:Type}{o:Option y}{k:y->Prop}(h:Ab o k):Mm o k:=by
 induction o using Option.casesOn with
 |none=>show h.elim
 |some a=>show⟨a,rfl,h⟩
noncomputable def ob{y:Type}(o:Option y)(k:y->Bool):Bool:=Option.rec false k o
def cP{y:Type}{o:Option y}{k:y->Bool}(h:ob o k=true):Mm o λa=>k a=true:=by
 induction o using Option.casesOn with
 |none=>show a7 h
 |some a=>show⟨a,rfl,h⟩
def ar(h:and a b=true):a=true/\b=true:=by
 induction a using Bool.casesOn with
 |false=>show a7 h
 |true=>show⟨rfl,h⟩
def qL{x:Prop}(h:S7 b x False):b=true/\x:=by
 induction b using Bool.casesOn with
 |false=>show False.elim h
 |true=>show⟨rfl,h⟩
def mZ{x y:Prop}(h:S7 b x y):if b then x else y:=by induction b<;>show h
def Rel.holds{O:Gh}(r:Rel c O L J s):Holds O.F s.heap:=r.Av
def Rel.bN{O:Gh}(r:Rel c O L J s):∀b o,c.base.get? b=some o->s.heap.get? b=some o:=λb o e=>r.Av b o (r.base b o e)
def Rel.fr{O:Gh}(r:Rel c O L J s)(N:s.heap.Ns L.ns m):Fr c.base L.ns s.heap m:=⟨N,r.bN,r.Lb⟩
def u9:SE c g f d (S4 k) (.Constant k v pos):=by
 intro O J s A P Q r l N j;cases k with
 |none=>show wpAny_Constant_none (j O J s _ _ (.refl _ _ _ _) r (dq .Ak) N)
 |bool b=>show wpAny_Constant_bool (j O J s _ _ (.refl _ _ _ _) r (dq (.Ae b)) N)
 |int i=>show wpAny_Constant_int (j O J _ _ _ (.toks _ _) r.dX (dq (.int i _)) N)
 |str x=>
  have N:BI g (if x.length<=10000 then .k (.str x.cps.toList)else .bad) J P:=N;split at N
  case isFalse=>show N.elim
  rename_i D;show wpAny_Constant_str (j O J _ _ (.c (.str x.cps.toList)) (.toks _ _) r.dX ?_ N);have e:x=⟨x.cps.toList.toArray⟩:=by obtain⟨⟩:=x;rfl
  have h:=RF.str (pG:=c.Aa) (w:=c.w) (F:=O.F) x.cps.toList s.toks (by show Y8▸ ?_;show Zh D (by ext));rw[←e]at h;show h
 |float _=>show N.elim
 |complex _ _=>show N.elim
 |bytes _=>show N.elim
 |ellipsis=>show N.elim
def kE(D:BH f.cs x=true):(f.cs.names.lookup x=some .local/\∀a,f.D0≠some (x,a))\/∃a,f.env.kindOf x=some .cell/\f.D0=some (x,a)/\f.env.cells.lookup x=some a:=by
 replace D:=(Yq _ _)▸D;rcases D with h|h
 ·have h:=cz h;show .inl ⟨h,λa e=>by have N:f.cs.names.lookup x=some .cell:=f.N7 x a e;replace N:=h▸N;cases N⟩
 ·show aA (f.L7 x (cz h)) λa U Z=>.inr (ck a (cz h) U Z)
def oF{O:Gh}{J:St}(i:BH f.cs x=true)(N:s.heap.Ns f.L.ns m)(e:f.L.Sh s.heap m x w)(h:Q w s):wpAny (model c.Aa c.w) A (loadName f.env x) Q Bl s:=by
 rcases kE i with ⟨D,j⟩|⟨a,D,U,Z⟩
 ·rcases e with ⟨a,q,_⟩|⟨_,e⟩
  ·show(j a q).elim
  ·show wpAny_loadName_local f.kind D N e h
 ·rcases e with ⟨b,q,e⟩|⟨q,_⟩
  ·replace q:=U.symm.trans q;cases q;show wpAny_loadName_cell f.kind D Z e h
  ·show(q a U).elim
def u5(Y:Ctx c K p Sy mg mb){pos:Pos}(D:BH f.cs x=true)(u:p.code x=some i):SE c g f d (.loc i) (.Name x pos):=by
 intro O J s A k Q r l a j;obtain⟨v,e,h⟩:=ak a;show aA r.loc.nm λm N b=>aA (b i v e) λw U Z=>?_;show zA (Y.code x i u) λz hd=>?_;clear u;subst z;show wpAny_Name (oF (O:=O) (J:=J) D N U (j O J s w v (.refl _ _ _ _) r Z h)) hd
def j0{O:Gh}(r:Rel c O L J s)(h:RV c.Aa c.w ⟨c.base.get?,λZ=>none⟩ u v):RV c.Aa c.w O u v:=
 h.mono (Le.mk (g:=⟨c.base.get?,λZ=>none⟩) r.base λZ Z Z e Z=>by show aw e)
def nc(Y:Ctx c K p Sy mg mb)(D:B8 f.cs x=true)(a:p.Gw x=some v):SE c g f d (.BR v) (.Name x pos):=by
 intro O J s A k Q r l N j;show eX (Y.Gw x v a) λhd u U Z=>XO f.kind (cz D) (Calls.loadGlobal_global (by show f.glob▸ ?_;show Y.T.g.keeps r.bN) U (j O J s u v (.refl _ _ _ _) r (j0 r Z) N)) hd
def gN:typeLookup (.type "method") (Str.ofString "__bool__")=pure none:=by
 rw[builtinLookup_eq_fast];kernel_rfl
def iF:typeLookup (.type "method") (Str.ofString "__len__")=pure none:=by
 rw[builtinLookup_eq_fast];kernel_rfl
def lL{q f a:WD}{Q:Bool->Ww->Prop}{M:Model}(e:s.heap.get? q=some (LD f a))(j:Q true s):wpAny M A (truthy (.ref q)) Q E s:=by
 have N:s.TypeIs (.ref q) "method":=(aO _ e rfl)
 first
  |show Zn (wpAny_callSpecial?_none N gN ?_)
  |show Zn (ZE (Zn (wpAny_callSpecial?_none N gN ?_)))
 first
  |show Zn (wpAny_specialOf N iF ?_)
  |show Zn (ZE (Zn (wpAny_specialOf N iF ?_)))
 show ZE j
def dD{O:Gh}(r:Rel c O L J s)(N:RV c.Aa c.w O v x)(P:Am J.H x=some b)
  (j:∀Z,0<Z->Q b {s with toks:=Z}):wpAny (model c.Aa c.w) A (truthy v) Q E s:=by
 show aN r.tk ?_;induction x using V.casesOn with
 |c f=>obtain rfl:=Zf P;show j5 r.holds N j
 |ob i=>
  show aX N λa ft e z=>?_;clear N;subst z;show aA (ax P) λo q P=>?_;have h:=r.ob e q;induction o using AO.casesOn with
  |lst l=>
   obtain rfl:=Zf P;show bI h λm o B U k D n=>wpAny_truthy_list (k.list U) (by rw[ZP,D.len];lia) ((isE D.len)▸(fA _▸j _))
  |An l=>
   obtain rfl:=Zf P;show bQ h λm o w U t k D n=>wpAny_truthy_dict (beq_false_of_ne t) (k.at U) (by rw[D.len];lia) ?_;have:=isE D.len;simp only[List.isEmpty_toArray]at this;show this▸(fA _▸j _)
  |inst=>show aw P
  |Av f=>obtain rfl:=Zf P;show j5 r.holds h.2 j
 |st _=>show aw P
 |E9 a i=>obtain rfl:=Zf P;show cH N λq a ft z e m=>?_;clear N;subst z;show lL (r.Av q _ e) (j _)
def aeG{x:X}{e:WE}(h:SE c g f d x e)(a:∀whole,isTrue e f.env whole=(do let v←whole;standAt e.pos;holding [v] (truthy v))):ST c g f d x e:=by
 intro O J s A k Q r o N j;show wpAny_isTrue_value (h O J s A _ _ r o N λl m q v y z u n D=>?_) (a _);obtain⟨b,P,D⟩:=ak D;show dD u n P λZ i=>j l m _ b (z.trans r u (.toks false Z)) (u.toks i) D
def abQ(h:SE c g f d x e):SE c g f d (.not x) (.UnaryOp .Not e pos):=by
 intro O J s A k Q r n N j;show wpAny_UnaryOp (h O J s A _ _ r n N λl i o v y z u m D=>not_value ?_);obtain⟨b,P,D⟩:=ak D;show dD u m P λZ a=>j l i _ _ _ (z.trans r u (.toks false Z)) (u.toks a) (dq (.Ae _)) D
def abD(h:ST c g f d x e):ST c g f d (.not x) (.UnaryOp .Not e pos):=by
 intro O J s A k Q r i N j;show wpAny_isTrue_Not (h O J s A (λb J=>k (!b) J) _ r i ?_ λl Z a b z u D=>j l Z a _ z u D);show N
def abU(C:ST c g f d t et)(h:SE c g f d x e)(B:SE c g f d y v):SE c g f d (.Gi t x y) (.IfExp et e v pos):=by
 intro O J s A k Q r o N w;show wpAny_IfExp (C O J s A (λb J=>S7 b (BI g x J k) (BI g y J k)) _ r o ?_ λZ m l b n U D=>?_)
 ·show N
 ·have D:=mZ D;induction b using Bool.casesOn with
  |true=>
   show h Z m l A k Q U o D λj z P u y a i q D=>w j z P u y (n.trans r U a) i q D
  |false=>
   show B Z m l A k Q U o D λj z P u y a i q D=>w j z P u y (n.trans r U a) i q D
def abS(h:SE c g f d x e):SE c g f d (.neg x) (.UnaryOp .USub e pos):=by
 intro O J s A k Q r n N j;show wpAny_UnaryOp (h O J s A _ _ r n N λZ a l v y z U m D=>?_);obtain⟨f,u,b⟩:=ak D;clear D;obtain⟨i,hi,D⟩:=ak b;clear b;obtain rfl:=f7 u;obtain⟨t,rfl⟩:=RF.aI m hi;show P.neg_int (j Z a _ _ _ (z.trans r U (.toks false _)) U.dX (dq (.int _ _)) D)
def yf:SE c g f d (.k (.int (-i))) (.UnaryOp .USub (.Constant (.int i) v pos) y):=by
 intro O J s A k Q r l N j;show wpAny_UnaryOp (wpAny_Constant_int (P.neg_int (j O J _ _ _ ?_ r.ach (dq (.int _ _)) N)));show .toks _ _
def Mq:Wv->Wv->Bool
 | .none,.none=>true
 | .str a _,.str b _=>a==b
 | .int a _,.int b _=>a==b
 | .bool a,.bool b=>a==b
 |_,_=>false
end
section
variable {pG:WA}{w:Wy}{A:Wz}{E:Wv->Ww->Prop}{s:Ww}{F:WD->TQ}{v u:Wv}{f e:FV}
def zh(h:RF pG w F v f)(k:RF pG w F u e)(a:Iq f e=some b):Mq v u=b:=
 uW (P:=λv u b=>Mq v u=b) h k a rfl (λZ Z=>rfl) (λZ Z=>rfl) (λZ Z=>rfl) (λZ Z Z Z=>rfl) (λZ Z=>rfl) (λZ Z Z Z=>rfl) (λZ Z Z Z=>rfl) (λZ Z=>rfl) (λZ Z Z Z=>rfl)
def abA(h:RF pG w F v f)(k:RF pG w F u e)(a:Iq f e=some b):SeqAt.RcNeAt A s v u (!b):=
 uW (P:=λv u b=>SeqAt.RcNeAt A s v u (!b)) h k a .none_none (λZ Z=>.none_int _ _) (λZ Z=>.none_str _ _) (λx y=>.bool_bool x y) (λi t j u=>.int_int i t j u) (λi t=>.int_none i t) (λi t l u=>.int_str i t l u)
  (λl t m u=>.str_str l t m u) (λl t=>.str_none l t) (λl t i u=>.str_int l t i u)
def Ba.get(h:Ba pG w F Z l):∀j (U:j<Z.length) (N:j<l.length),RF pG w F Z[j] l[j]:=by
 induction Z generalizing l with
 |nil=>intro j U;show T4 U (X4 _)
 |cons a r b=>
  cases h with
  |cons Q D=>
   intro j U N;induction j using Nat.casesOn with
   |zero=>show Q
   |succ j=>show b D j (Wh U) (Wh N)
def eG(e:CH a=CH b):a=b:=by
 simpa[CH] using (T3 (λx:Wu=>x.cps.toList) e)
def lC:((List.range n).all λZ=>true)=true:=by rw[propext Zv];intros;rfl
def Ru(pG:WA)(w:Wy)(s:Ww)(F:WD->TQ)(n:Nat):Prop:=∀(A:Wz) {v u:Wv} {f:FV},A.units+n<cLine->Fs n f=true->RF pG w F v f->RF pG w F u f->SeqAt.EqAt A s v u true
def yw(b:Holds F s.heap)(Q:Ru pG w s F n)(q:A.units+(n+1)<cLine)(i:Fs (n+1) f=true)(h:RF pG w F (.ref N) f)(k:RF pG w F (.ref a2) f):
  SeqAt.RcAt A s (.ref N) (.ref a2) true/\SeqAt.RcNeAt A s (.ref N) (.ref a2) false:=by
 have a:=YW q;have m:∀ {d P:TN} {l:Tz},l.all (Fs n)=true->Ba pG w F d l->Ba pG w F P l->∀j (p:j<d.toArray.size) (r:j<P.toArray.size),SeqAt.EqAt A.in1 s d.toArray[j] P.toArray[j] ((λt=>true) j):=λi D r2 j p r=>
  have o:=D.len▸p
  Q A.in1 (by rw[Around.in1_units];show Zh (Z1 (Zz (ZZ _ 1 _))) q) (Zd i _ (Xh o)) (D.get j p o) (r2.get j r o)
 induction f using FV.casesOn with
 |tup l=>
  obtain⟨_,d,Sp,⟨⟩,U,q1,D,_⟩:=h.x;obtain⟨_,P,So,⟨⟩,Z,q2,r2,_⟩:=k.x;have z:(d.toArray.size==P.toArray.size)=true:=beq_iff_eq.mpr (D.len.trans r2.len.symm);have t1:=SeqAt.RcAt.tuples (q1.tuple (b _ _ U)) (q2.tuple (b _ _ Z)) a (m i D r2);have Se:=SeqAt.RcNeAt.tuples (q1.tuple (b _ _ U)) (q2.tuple (b _ _ Z)) a (m i D r2);rw[lC,z]at t1 Se;show⟨t1,Se⟩
 |lst l=>
  obtain⟨_,d,Sp,⟨⟩,U,q1,D,_⟩:=h.x;obtain⟨_,P,So,⟨⟩,Z,q2,r2,_⟩:=k.x;have z:=D.len.trans r2.len.symm;have t1:=SeqAt.RcAt.lists (q1.list (b _ _ U)) (q2.list (b _ _ Z)) z a (m i D r2);have Se:=SeqAt.RcNeAt.lists (q1.list (b _ _ U)) (q2.list (b _ _ Z)) z a (m i D r2);rw[lC]at t1 Se;show⟨t1,Se⟩
 |An l=>show a7 i
 |Ak=>show nomatch h.x
 |Ae=>show nomatch h.x
 |int=>obtain⟨_,e⟩:=h.x;cases e
 |str=>obtain⟨_,e,_⟩:=h.x;cases e
def w7(z:Holds F s.heap)(n:Nat):Ru pG w s F n:=by
 induction n with
 |zero=>show λA Z Z Z Z hd Z Z=>a7 hd
 |succ n Q=>
  intro A v u f m hd h k;have j:∀ {N a:WD},v=.ref N->u=.ref a->SeqAt.EqAt A s v u true:=λ{N a} U b=>by
   subst U b;by_cases d:N=a
   ·show d▸SeqAt.EqAt.same _
   ·show SeqAt.EqAt.of_refs d (yw z Q m hd h k).1
  induction f using FV.casesOn with
  |Ak=>show(dm h k rfl).2
  |Ae x=>show(dm h k (by induction x<;>rfl)).2
  |int i=>show(dm h k (T3 some (Zr rfl))).2
  |str l=>show(dm h k (T3 some ((aE l l).trans (Zr rfl)))).2
  |tup l=>
   obtain⟨N,_,_,U,_⟩:=h.x;obtain⟨a,_,_,b,_⟩:=k.x;show j U b
  |lst l=>
   obtain⟨N,_,_,U,_⟩:=h.x;obtain⟨a,_,_,b,_⟩:=k.x;show j U b
  |An l=>show a7 hd
def vN(z:Holds F s.heap)(Z:A.units+n<cLine)(hd:Fs n f=true)(h:RF pG w F (.ref N) f)(k:RF pG w F (.ref d) f):
  SeqAt.RcAt A s (.ref N) (.ref d) true/\SeqAt.RcNeAt A s (.ref N) (.ref d) false:=by
 induction n using Nat.casesOn with
 |zero=>show a7 hd
 |succ n=>show yw z (w7 z n) Z hd h k
variable {c:Cx}{g:G}{O:Gh}{L:Loc}{J:St}{x y:V}
def cq(r:Rel c O L J s)(N:RV c.Aa c.w O v x)(h:CE J.H x=some f):∃F,Holds F s.heap/\Sub O.F F/\RF c.Aa c.w F v f:=by
 induction x using V.casesOn with
 |c j=>obtain rfl:=Zf h;show(ck O.F r.holds (λZ Z e=>e) N)
 |ob i=>
  show aX N λa ft e k=>?_;clear N;subst k;show aA (ax h) λo q h=>?_;have Q:=r.ob e q;induction o using AO.casesOn with
  |Av j=>obtain rfl:=Zf h;show(ck O.F r.holds (λZ Z e=>e) Q.2)
  |An=>show aw h
  |inst=>show aw h
  |lst l=>
   obtain rfl:=Zf h;show bI Q λm o C U B p n=>?_;have t:=(r.off a (ay i a ft e (by rw[m];show .head _))).1;have sub:Sub O.F (λb=>if b=a then some o else O.F b):=λb D e=>by
    change(if b=a then _ else O.F b)=some D;rw[Zi λz=>by(rw[z]at e;replace e:=t▸e);cases e];show e
   show(ck (λb=>if b=a then some o else O.F b) (λb D e=>?_) sub (.lst (by simp) B (Ba.mono sub p) n));dsimp only at e;by_cases z:b=a
   ·rw[Zk z]at e;obtain rfl:=Zf e;show z▸U
   ·rw[Zi z]at e;show r.holds b D e
 |st _=>show aw h
 |E9 _ _=>show aw h
def eM(r:Rel c O L J s)(n:RV c.Aa c.w O v x)(Z:RV c.Aa c.w O u y)(h:CE J.H x=some f)(k:CE J.H y=some e):∃F,Holds F s.heap/\RF c.Aa c.w F v f/\RF c.Aa c.w F u e:=by
 show bM (cq r n h) λj N q b=>bM (cq r Z k) λd i U p=>(ck s.heap.get? (λm m e=>e) (RF.mono (λa o e=>N a o e) b) (RF.mono (λa o e=>i a o e) p))
end
open PySem.SeqAt PySem.MeetsSeq PySem.MeetsSeq2 PySem.MeetsSeq3
section
open Builtin
def Ge(pG:WA)(w:Wy)(A:Wz)(s:Ww)(y x:Wv):Prop:=∀(E:Wv->Ww->Prop) (Q:Bool->Ww->Prop),Q true s->wpAny (model pG w) A (eqBool y x) Q E s
def w8{pG:WA}(l b:WD)(O v:Array Wv)(n n2:Nat)(dd u:Option WD)(p y:Array TM)(z:O.size=v.size)(k:Nat):∀(i:Nat),O.size-i=k->∀(A:Wz) (R:Result->Ww->Prop) (s:Ww),
  s.heap.get? l=some {cls:=.type "list",dict:=dd,data:=.seq O n,slots:=p}->s.heap.get? b=some {cls:=.type "list",dict:=u,data:=.seq v n2,slots:=y}->
  (∀j (U:j<O.size) (m:j<v.size),Ge pG w A.in1 s O[j] v[j])->R (.ok (.ret (.bool true))) s->
  wpAny (model pG w) A.in1 (Builtin.«list.__eq__.loop» ⟨[.ref l,.ref b,rawInt i,rawInt 2],[]⟩) (λfin a=>match fin with| .done f=>R (.ok f) a| .again c'=>c'.quiet=true/\codeAny (model pG w) A c' R a) (λe a=>R (.error e) a) s:=by
 induction k with
 |zero=>
  intro i c A R s D P N h;obtain⟨r,g,d,q,t⟩:=s
  wp_walk using YZ D,YZ P
  have o:O[((i:Nat):Int).toNat]? =none:=by rw[Yv];show Xe (by show XD c)
  have Z:v[((i:Nat):Int).toNat]? =none:=by rw[Yv];show Xe (by omega)
  (show o.symm▸ ?_;show Z.symm▸ ?_)
  wp_walk using YZ D,YZ P
  change R (.ok (.ret (.bool (O.size==v.size)))) _
  (show z▸ ?_;rw[Xf])
  show h
 |succ k Q=>
  intro i c A R s D P N h;obtain⟨r,g,d,q,t⟩:=s
  wp_walk using YZ D,YZ P
  have U:i<O.size:=by show Nat.lt_of_sub_eq_succ c
  have m:i<v.size:=by show Nat.lt_of_lt_of_eq U z
  have o:O[((i:Nat):Int).toNat]? =some O[i]:=by rw[Yv];show Z6 U
  have Z:v[((i:Nat):Int).toNat]? =some v[i]:=by rw[Yv];show Z6 m
  (show o▸ ?_;show Z▸ ?_)
  show Zn (N i U m _ _ ?_)
  wp_walk
  show(show((i:Int)+1)=((i+1:Nat):Int) by show Int.ofNat_add_one_out i)▸ ?_;show⟨plainId_quiet plain_eq_loop _,codeAny_builtin entry_eq_loop ?_⟩;show(Around.under_plainId plain_eq_loop _)▸(Q (i+1) (by omega) A R _ D P N h)
def tn{pG:WA}(l b:WD)(O v:Array Wv)(n n2:Nat)(dd u:Option WD)(P y:Array TM)(z:O.size=v.size):
  MeetsIn pG w (Builtin.«list.__eq__» ⟨[.ref l,.ref b],[]⟩)
   (λA R s=>s.heap.get? l=some {cls:=.type "list",dict:=dd,data:=.seq O n,slots:=P}/\s.heap.get? b=some {cls:=.type "list",dict:=u,data:=.seq v n2,slots:=y}/\
    (∀j (U:j<O.size) (k:j<v.size),Ge pG w A.in1 s O[j] v[j])/\R (.ok (.ret (.bool true))) s):=by
 intro A R s h;obtain⟨e,g,d,Z,i⟩:=s;show bY h λD a N h=>?_;have f:=AutoSeq1.sub_list_list;have c:¬(O.size !=v.size)=true:=by simp[z]
 wp_walk using YZ D,YZ a
 show⟨plainId_quiet plain_eq_loop _,codeAny_builtin entry_eq_loop ?_⟩;show(Around.under_plainId plain_eq_loop _)▸(w8 l b O v n n2 dd u P y z _ 0 rfl A R _ D a N h)
def k8{pG:WA}(D:s.heap.IsList l O)(m:s.heap.IsList b v)(c:O.size=v.size)(Z:A.units<cLine)
  (N:∀j (q:j<O.size) (p:j<v.size),Ge pG w A.in1 s O[j] v[j]) (k:Q (.bool true) s):wpAny (model pG w) A (compareOp .Eq (.ref l) (.ref b)) Q E s:=by
 show nk (id D) λz U f n hd=>?_;obtain⟨o,dd,i,P⟩:=z;show nk (id m) λz a d n2 g=>?_;obtain⟨h,u,e,y⟩:=z;simp only at f hd d g;subst f hd d g;show wpAny_richCompare_same_room (op:=.Eq) (T:="list") (aO _ U rfl) (aO _ a rfl) PySem.F.slot_list_eq (call_meetsIn PySem.F.slot_list_eq (aO _ U rfl) PySem.F.entry_list_eq (PySem.F.args_list_eq_2 _ _) (tn l b O v n n2 dd u P y c)
  ⟨U,a,N,(⟨(λx=>nomatch x),k⟩:Value.bool true≠Value.notImplemented/\Q (.bool true) s)⟩) Z
def Ge.at{pG:WA}(h:SeqAt.EqAt A s y x true):Ge pG w A s y x:=λE Q SG=>h pG w E Q SG
def Ge.of_rc{pG:WA}(D:l≠b)(h:∀(E:Wv->Ww->Prop) (Q:Wv->Ww->Prop),Q (.bool true) s->wpAny (model pG w) A (compareOp .Eq (.ref l) (.ref b)) Q E s):Ge pG w A s (.ref l) (.ref b):=λE Q SG=>by
 show ZY (wpAny_ite_split (λd=>T4 (by have:=eq_of_beq d;injection this) D) λZ=>Zn (h E _ (XF SG)))
def j4(d:(l.map (·.1)).Nodup){k:Wu}(h:(k,y)∈l):valueAt l k=some y:=by
 induction l with
 |nil=>cases h
 |cons p r Q=>
  rw[Ye,List.nodup_cons]at d;unfold valueAt;show(X6)▸ ?_;rcases Zb h with e|h
  ·show e▸ ?_;simp
  ·have D:p.1≠k:=λe=>d.1 (e▸Xr (f:=(·.1)) h);show(Zs D)▸(Q d.2 h)
def pJ{pG:WA}(l b:WD)(O v:Array Wv)(n n2:Nat)(dd u:Option WD)(q c:Array TM)(z:O.size=v.size):
  MeetsIn pG w (Builtin.«tuple.__eq__» ⟨[.ref l,.ref b],[]⟩)
   (λA R s=>s.heap.get? l=some {cls:=.type "tuple",dict:=dd,data:=.seq O n,slots:=q}/\s.heap.get? b=some {cls:=.type "tuple",dict:=u,data:=.seq v n2,slots:=c}/\
    (∀j (k:j<O.size) (m:j<v.size),Ge pG w A.in1 s O[j] v[j])/\R (.ok (.ret (.bool true))) s):=by
 intro A R s h;obtain⟨r,g,d,Z,t⟩:=s;show bY h λD B p h=>?_;have H:=AutoSeq1.sub_tuple_tuple;have Q:(O.toList.zip v.toList).length=O.size:=by simp[z]
 wp_walk using YZ D,YZ B,wpAny_forIn_list _ (λa b f=>b.1=none/\f=⟨r,g,d,Z,t⟩/\∃i,a=(O.toList.zip v.toList).drop i) _
 case turn=>
  rintro ⟨y,x⟩ a b f ⟨U,rfl,i,P⟩;have N:i<(O.toList.zip v.toList).length:=by
   rcases YT i (O.toList.zip v.toList).length with e|e
   ·show e
   ·replace P:=(List.drop_of_length_le e)▸P;cases P
  have k:i<O.size:=Q▸N;have m:i<v.size:=z▸k;replace P:=(Yh N)▸P;injection P with hyx hrest;have C:y=O[i]:=by have:=T3 Prod.fst hyx;simpa using this
  have o:x=v[i]:=by have:=T3 Prod.snd hyx;simpa using this
  subst C o;show Zn (p i k m _ _ ?_)
  wp_walk
  show⟨rfl,rfl,i+1,hrest⟩
 case fin=>
  rintro ⟨G,F⟩ f ⟨U,rfl,i,P⟩;simp only at U;subst U
  wp_walk
  change R (.ok (.ret (.bool (O.size==v.size)))) _
  (show z▸ ?_;rw[Xf])
  show h
 case h=>show⟨rfl,rfl,0,rfl⟩
def Ge.tup{pG:WA}(D:l≠b)(m:s.heap.IsTuple l O)(o:s.heap.IsTuple b v)(c:O.size=v.size)(Z:A.units<cLine)
  (N:∀j (r:j<O.size) (q:j<v.size),Ge pG w A.in1 s O[j] v[j]):Ge pG w A s (.ref l) (.ref b):=.of_rc D λE Q k=>by
 show nk (id m) λz U f n hd=>?_;obtain⟨p,dd,i,P⟩:=z;show nk (id o) λz a d n2 g=>?_;obtain⟨h,u,e,y⟩:=z;simp only at f hd d g;subst f hd d g;show wpAny_richCompare_same_room (op:=.Eq) (T:="tuple") (aO _ U rfl) (aO _ a rfl) PySem.F.slot_tuple_eq (call_meetsIn PySem.F.slot_tuple_eq (aO _ U rfl) PySem.F.entry_tuple_eq (PySem.F.args_tuple_eq_2 _ _) (pJ l b O v n n2 dd u P y c)
  ⟨U,a,N,(⟨(λx=>nomatch x),k⟩:Value.bool true≠Value.notImplemented/\Q (.bool true) s)⟩) Z
section
variable {pG:WA}{w:Wy}{K:Type} [DecidableEq K] {knd:KeyKind pG w K}{A:Wz}{E:Wv->Ww->Prop}{s:Ww}
def qD(ha:(a==sysModules)=false)(hb:(b==sysModules)=false)
  (da:s.heap.DictOf knd a ka) (db:s.heap.DictOf knd b kb) (hl:ka.length=kb.length) (H:∀p∈ka,∃y,valueAt kb p.1=some y/\Ge pG w A s p.2 y) (h:Q true s):
  wpAny (model pG w) A (Builtin.Dict.samePairs nm a b) Q E s:=by
 show eD da λoa n ep f F U M o F=>eD db λob Z ep' c F z C D F=>?_;have B:ka.length=n.size:=by rw[←o.length];show Y8
 have G:kb.length=Z.size:=by rw[←D.length];show Y8
 have d:∀k,findBy knd.is Z k=valueAt kb k:=λk=>by
  rw[←D.find k];clear G D C z c;obtain⟨l⟩:=Z;simp[findBy]
 unfold Builtin.Dict.samePairs Builtin.Dict.showsAll;rw[Zi (show¬(a==sysModules)=true by rw[ha];show Bool.false_ne_true),Zi (show¬(b==sysModules)=true by rw[hb];show Bool.false_ne_true)];show Zn (ZE (Zn (ZE (Zn (wpAny_dictEntries f U ?_)))));dsimp only;show Zn (wpAny_dictEntries c z ?_);have S:n.size=Z.size:=by rw[←B, ←G];show hl
 rw[Zi (by rw[S];simp)];show Zn (wpAny_dictEpoch f U (Zn ?_));rw[Std.Legacy.Range.forIn_eq_forIn_range'];simp only[Std.Legacy.Range.size,Nat.sub_zero,Nat.add_sub_cancel,Nat.div_one];show wpAny_forIn_list _ (λO q L=>L=s/\q=(none,())/\∀x∈O,x<n.size) _ ?_ ?_ _ _ ⟨rfl,rfl,λx P=>by simpa using P⟩
 ·rintro x O q L ⟨rfl,rfl,hm⟩;have N:=hm x (.head _);show Zn (wpAny_dictEntries f U ?_);rw[Z6 N];have u:x<ka.length:=by rw[B];show N
  obtain⟨k,v,t⟩:∃k v,ka[x]=(k,v):=(j2 _ _ rfl)
  show zA (o.get? (i:=x) (e:=n[x]) (k:=k) (v:=v) (by rw[Array.getElem?_toList];show Z6 N) (by rw[Zy u,t])) λg r=>?_;show aA (M n[x] (Array.getElem_mem N)) λk' V Y=>?_;have T:k'=k:=knd.inj _ _ _ V g;rw[T]at Y;show aA (H (k,v) (t▸Xh u)) λy X I=>?_;change wpAny _ _ (holding [n[x].key,n[x].val] _>>=_) _ _ _;rw[Y];show Zn (ZY (Zn (wpAny_dictFind_of g c z C ?_)));cases W:Z.findIdx? λe=>knd.is k e.key with
  |none=>
   have hn:valueAt kb k=none:=by rw[←d k,findBy_of_findIdx?,W]
   rw[hn]at X;show nomatch X
  |some j=>
   show aA (Array.findIdx?_eq_some_iff_getElem.mp W) λm F F=>?_;have R:valueAt kb k=some Z[j].val:=by
    rw[←d k,findBy_of_findIdx?,W];simp[Z6 m]
   show Zn (wpAny_dictEntries c z ?_);rw[Z6 m];have ey:Z[j].val=y:=Zf (R.symm.trans X);replace I:Ge pG w A L v y:=I;rw[←ey, ←r]at I;show ZY (I _ _ ?_);change wpAny _ _ (if(!true)=true then _ else _) _ _ _;rw[Zi (by ext)];show Zn (wpAny_dictEpoch f U ?_);rw[Zi (by simp)];show ZE ⟨rfl,rfl,λx P=>hm x (.tail _ P)⟩
 ·rintro q L ⟨rfl,rfl,_⟩;show ZE h
def Ge.dict(d:a≠b)(c:(a==sysModules)=false)(P:(b==sysModules)=false)
  (N:s.heap.DictOf knd a g) (O:s.heap.DictOf knd b l) (Z:A.units<cLine) (D:g.length=l.length) (u:∀p∈g,∃y,valueAt l p.1=some y/\Ge pG w A.in1 s p.2 y):Ge pG w A s (.ref a) (.ref b):=.of_rc d λE Q h=>by
 show wpAny_richCompare_same_room (op:=.Eq) N.typeIs O.typeIs PySem.F.slot_dict_eq (wpAny_call_entry PySem.F.slot_dict_eq N.typeIs PySem.F.entry_dict_eq ?_ (PySem.F.args_dict_eq_2 _ _)) Z;change wpAny _ _ (Builtin.Dict.dictSlotArgs "__eq__" ⟨[.ref a,.ref b],[]⟩>>=_) _ _ s;show Zn (Zn (wpAny_notOrdered_dict N.typeIs ?_));change wpAny _ _ (pure (Value.ref a,Value.ref b)) _ _ s;show ZE (Zn (wpAny_isInstance (T:="dict") O.typeIs PySem.F.sub_dict_dict ?_));simp only[Bool.not_true,Bool.false_eq_true,if_false];show Zn (ZE (Zn (ZE (Zn (qD c P N O D u (ZE (ck _ rfl (λx=>nomatch x) h)))))))
end
end
def fC:∀a b:WJ,GZ a b=decide (a<b)
 | [],[]=>by show Bool.le_antisymm (λa=>a) λa=>a
 | [],_::_=>by show Bool.le_antisymm (XA rfl) (XA rfl)
 |_::_,[]=>by show Bool.le_antisymm (λa=>a) λa=>a
 |x::a,y::b=>by
  change(Bool.rec (Bool.rec false (GZ a b) (beq x y)) true (Nat.blt x y):Bool)=_;rw[Bool.eq_iff_iff,Yu,Xn];rcases Nat.lt_trichotomy x y with h|h|h
  ·show(Nat.blt_eq.mpr h).symm▸⟨λZ=>.inl h,λZ=>rfl⟩
  ·subst h
   (show((by rw[propext Bool.eq_false_iff];intro z;show YA _ (Nat.blt_eq.mp z):Nat.blt x x=false)).symm▸ ?_;rw[bW])
   rw[fC a b,Yu];show⟨λz=>.inr ⟨rfl,z⟩,λz=>z.elim (λw=>T4 w (YA _)) (·.2)⟩
  ·rw[(by rw[propext Bool.eq_false_iff];intro z;show Nat.lt_asymm h (Nat.blt_eq.mp z):Nat.blt x y=false),bX λe=>YA _ (e▸h)];show⟨λz=>(nomatch z),λz=>z.elim (λw=>T4 w (Nat.lt_asymm h)) λw=>T4 w.1 λe=>YA _ (e▸h)⟩
def qe(h:CT a (x::l)=some b):∃p q,Iq x a=some p/\CT a l=some q/\b=(p||q):=by
 show aA (ax h) λp e h=>?_;show aA (aZ h) λq f P=>?_;clear h;subst P;show(a8 p q e f (by induction p<;>rfl))
section
variable {pG:WA}{w:Wy}{A:Wz}{s:Ww}{F:WD->TQ}
def oD(N:RF pG w F v a):∀ {Z:TN} {b:Bool},Ba pG w F Z l->CT a l=some b->(Z.any λy=>Mq y v)=b/\∀y∈Z,SeqAt.EqAt A s y v (Mq y v):=by
 induction l with
 |nil=>intro Z b h e;obtain rfl:=h.inv;obtain rfl:=Zf e;show⟨rfl,λm P=>(Yl P).elim⟩
 |cons x l Q=>
  intro Z b h e;obtain⟨u,r,rfl,f,i⟩:=h.inv;show bA (qe e) λp q U k j=>?_;clear e;subst j;show zA (Q i k) λd D=>?_;have SG:=zh f N U;show⟨by rw[List.any_cons,d,SG],λy P=>?_⟩;rcases Zb P with rfl|P
  ·show SG▸(dm f N U).2
  ·show D y P
def Eh.inv{pG:WA}(h:Eh pG w F Z l):match (generalizing:=false) l with| []=>Z=[]|f::l=>∃v r,Z=(CH f.1,v)::r/\RF pG w F v f.2/\Eh pG w F r l:=by
 cases h with
 |nil=>rfl
 |cons a r=>show(a8 _ _ rfl a r)
def tM{pG:WA}(a:WJ):∀ {U:TO},Eh pG w F U l->By a l=(valueAt U (CH a)).isSome:=by
 induction l with
 |nil=>intro U h;obtain rfl:=h.inv;rfl
 |cons f l Q=>
  intro U h;show bA h.inv λv r P Z D=>?_;clear h;subst P;have Q:=Q D;change(Bool.rec (By a l) true (Cn a f.1):Bool)=_;rw[aE];unfold valueAt;rw[X6];by_cases z:a=f.1
  ·clear Q;subst z;simp
  ·simp only[z,show¬CH f.1=CH a from λe=>z (eG e).symm];show Q
variable {c:Cx}{g:G}{O:Gh}{L:Loc}{J:St}{E:Wv->Ww->Prop}{v u:Wv}{x y:V}
def fU{pG:WA}(a:WJ)(t:Tok):(strKind pG w).is (CH a) (.str ⟨a.toArray⟩ t)=true:=strKind_is pG w (CH a) t
def pK(h:a≠sysModules):(a==sysModules)=false:=beq_false_of_ne h
def sI{M:Model}(h:wpAny M A (compareOp .In v u) (λr s=>∀b,r=.bool b->Q (.bool (!b)) s) E s):wpAny M A (compareOp .NotIn v u) Q E s:=λz p d=>by
 have h:=h z p d;rw[show compareOp .In v u=contains u v>>=λb=>pure (.bool b) from rfl,Sem.wp_bind']at h;rw[Sem.wp_bind' _ _ _ _ _ _ _ _];show Sem.wp_mono M z _ (λb D j l=>l b rfl) (λZ Z Z l=>l) p s h
def sr(z:Holds F s.heap)(N:RF c.Aa c.w F v fx)(Z:RF c.Aa c.w F u U)
  (h:BN.mem fx U k) (j:∀b G,k b->Q (.bool b) {s with toks:=G}):wpAny (model c.Aa c.w) A (compareOp .In v u) Q E s:=by
 induction U using FV.casesOn with
 |tup l=>
  show cps λf d=>?_;obtain⟨b,P,D⟩:=ak h;obtain⟨a,C,o,rfl,e,q,r,_⟩:=Z.x;show zA (oD N r P) λp i=>d (SeqAt.in_tupleAt (λy=>Mq y v) (q.tuple (z _ _ e)) (λy B=>i y (by simpa using B)) ?_);rw[List.any_toArray,p];show j b s.toks D
 |lst l=>
  show cps λf d=>?_;obtain⟨b,P,D⟩:=ak h;obtain⟨a,C,o,rfl,e,q,r,_⟩:=Z.x;show zA (oD N r P) λp i=>d (SeqAt.in_listAt (λy=>Mq y v) (q.list (z _ _ e)) (λy B=>i y (by simpa using B)) ?_);rw[List.any_toArray,p];show j b s.toks D
 |An l=>
  show cps λf d=>?_;obtain⟨a,H,D⟩:=ak h;obtain⟨t,rfl,_⟩:=N.aS H;obtain⟨_,o,I,rfl,e,n,q,r,_⟩:=Z.x;show d (wpAny_in_of (fU _ _) (pK n) (q.at (z _ _ e)).mapOf ?_);show(tM a r)▸(j _ _ D)
 |str bl=>
  show cps λf d=>?_;obtain⟨q,SG,D⟩:=ak h;show zE (N.FU SG) λt m=>?_;subst m;obtain⟨M,rfl,_⟩:=Z.x;show d (SB.contains ?_);have:=j _ s.toks D;rw[←(StrLaws.found_one ⟨bl.toArray⟩ q)]at this;show this
 |_=>show h.elim
def sv(z:Holds F s.heap)(N:RF c.Aa c.w F v l)(Z:RF c.Aa c.w F u U)(f:A.units+16<cLine)
  (h:KX l U k):∃b,k b/\SeqAt.RcAt A s v u b/\SeqAt.RcNeAt A s v u (!b):=by
 have lG:Ab (Iq l U) k->∃b,k b/\SeqAt.RcAt A s v u b/\SeqAt.RcNeAt A s v u (!b):=λh=>by
  obtain⟨b,P,D⟩:=ak h;show(ck b D (dm N Z P).1 (abA N Z P))
 have j:∀ {a b:WD},v=.ref a->u=.ref b->l=U->Fs 12 l=true->k true->∃b,k b/\SeqAt.RcAt A s v u b/\SeqAt.RcNeAt A s v u (!b):=λn m o hd D=>by
  subst n m o;show(aO true D (vN z (Yb (ZH (by decide:12<=16) _) f) hd N Z))
 induction l using FV.casesOn with
 |tup x=>
  show cps λi d=>?_;obtain⟨y,e,⟨rfl,hd⟩,D⟩:=ak h;obtain rfl:=xN e;show d ?_;obtain⟨a,_,_,SU,_⟩:=N.x;obtain⟨b,_,_,Q,_⟩:=Z.x;show j SU Q rfl hd D
 |lst x=>
  show cps λi d=>?_;obtain⟨y,e,⟨rfl,hd⟩,D⟩:=ak h;obtain rfl:=m9 e;show d ?_;obtain⟨a,_,_,SU,_⟩:=N.x;obtain⟨b,_,_,Q,_⟩:=Z.x;show j SU Q rfl hd D
 |_=>show lG h
def uc(z:Holds F s.heap)(n:Nat):∀ {A:Wz} {v u:Wv} {f:FV},A.units+n<cLine->Dz n f=true->RF c.Aa c.w F v f->RF c.Aa c.w F u f->Ge c.Aa c.w A s v u:=by
 induction n with
 |zero=>show λZ hd Z Z=>a7 hd
 |succ n X=>
  intro A v u f V hd h k;have b:=YW V;have o:A.in1.units+n<cLine:=by rw[Around.in1_units];show Zh (Z1 (Zz (ZZ _ 1 _))) V
  have W:∀ {a P:TN} {l:Tz},l.all (Dz n)=true->Ba c.Aa c.w F a l->Ba c.Aa c.w F P l->∀j (U:j<a.toArray.size) (q:j<P.toArray.size),Ge c.Aa c.w A.in1 s a.toArray[j] P.toArray[j]:=λhd D r2 j U q=>
   have M:=D.len▸U
   X o (Zd hd _ (Xh M)) (D.get j U M) (r2.get j q M)
  induction f using FV.casesOn with
  |Ak=>show .at (dm h k rfl).2
  |Ae x=>show .at (dm h k (by induction x<;>rfl)).2
  |int i=>show .at (dm h k (T3 some (Zr rfl))).2
  |str l=>show .at (dm h k (T3 some ((aE l l).trans (Zr rfl)))).2
  |tup l=>
   obtain⟨N,a,Sp,rfl,H,q1,D,_⟩:=h.x;obtain⟨r,P,So,rfl,G,q2,r2,_⟩:=k.x;by_cases d:N=r
   ·show d▸ .at (SeqAt.EqAt.same _)
   ·show .tup d (q1.tuple (z _ _ H)) (q2.tuple (z _ _ G)) (D.len.trans r2.len.symm) b (W hd D r2)
  |lst l=>
   obtain⟨N,a,Sp,rfl,H,q1,D,_⟩:=h.x;obtain⟨r,P,So,rfl,G,q2,r2,_⟩:=k.x;by_cases d:N=r
   ·show d▸ .at (SeqAt.EqAt.same _)
   ·show .of_rc d λE Q hQ=>k8 (q1.list (z _ _ H)) (q2.list (z _ _ G)) (D.len.trans r2.len.symm) b (W hd D r2) hQ
  |An es=>
   obtain⟨x1,Sp,k1,rfl,d1,n1,p1,R,_⟩:=h.x;obtain⟨x2,So,k2,rfl,d2,n2,Y,S,_⟩:=k.x;by_cases d:x1=x2
   ·show d▸ .at (SeqAt.EqAt.same _)
   ·have C:(k2.map (·.1)).Nodup:=by show dH Y λZ Z Z Z Z Z C=>?_;show C
    show .dict d (pK n1) (pK n2) (p1.at (z _ _ d1)) (Y.at (z _ _ d2)) b (R.len.trans S.len.symm) ?_;have go:∀ {l:TG} {B t:TO},Eh c.Aa c.w F B l->Eh c.Aa c.w F t l->(∀p∈t,p∈k2)->(l.all λp=>Dz n p.2)=true->∀p∈B,∃y,valueAt k2 p.1=some y/\Ge c.Aa c.w A.in1 s p.2 y:=by
     intro l;induction l with
     |nil=>intro B t h _ _ _ p m;obtain rfl:=h.inv;cases m
     |cons f l I=>
      intro B t U q T hd p m;show bA U.inv λv1 t1 e N D=>?_;clear U;subst e;show bA q.inv λv2 Se e r r2=>?_;clear q;subst e;rw[YR,Zp]at hd;rcases Zb m with rfl|m
      ·show(aO v2 (j4 C (T _ (.head _))) (X o hd.1 N r))
      ·show I D r2 (λp m=>T p (.tail _ m)) hd.2 p m
    show go R S (λZ h=>h) hd
def aan(a:Holds F s.heap)(N:RF c.Aa c.w F v fx)(Z:RF c.Aa c.w F u U)(d:A.units+16<cLine)
  (h:P6 fx U k) (m:∀b,k b->Q (.bool b) s):wpAny (model c.Aa c.w) A (compareOp .Eq v u) Q E s:=by
 have z:=λh=>by
  show bM (sv a N Z d h) λb D t1 C=>t1 c.Aa c.w E Q (m _ D)
 induction fx using FV.casesOn with
 |lst l=>
  obtain⟨y,e,⟨rfl,hd⟩,D⟩:=ak h;obtain rfl:=m9 e;rcases hd with hd|hd
  ·show z ⟨⟨rfl,hd⟩,D⟩
  ·obtain⟨t,p,Sp,rfl,r,q1,f,_⟩:=N.x;obtain⟨B,P,So,rfl,o,q2,r2,_⟩:=Z.x;show k8 (q1.list (a _ _ r)) (q2.list (a _ _ o)) (f.len.trans r2.len.symm) (YW d) (λj n q=>?_) (m true D);have i:j<l.length:=f.len▸n;show uc a 7 (by rw[Around.in1_units];lia) (Zd hd _ (Xh i)) (f.get j n i) (r2.get j q i)
 |_=>show z h
def lx{K:FV->FV->Prop}{P:Prop}(r:Rel c O L J s)(N:RV c.Aa c.w O v x)(Z:RV c.Aa c.w O u y)(h:Ab (CE J.H x) λx=>Ab (CE J.H y) λy=>K x y)
  (a:∀ {F:WD->TQ} {l U:FV},Holds F s.heap->RF c.Aa c.w F v l->RF c.Aa c.w F u U->K l U->P):P:=
 by
 obtain⟨_,b,h⟩:=ak h;obtain⟨_,f,h⟩:=ak h;show bM (eM r N Z b f) λk z e i=>a z e i h
def og{P:Wv->Wv->Prop}(U:RF c.Aa c.w F v l)(N:RF c.Aa c.w F u d)(h:QW D l d k)
  (hi:∀i t j z,Nr D i j k->P (.int i t) (.int j z)) (a:∀p t q z,Nq D p q k->P (.str ⟨p.toArray⟩ t) (.str ⟨q.toArray⟩ z)):P v u:=by
 induction l using FV.casesOn with
 |int i=>
  obtain⟨j,e,h⟩:=ak h;show zE U.x λt Q=>?_;clear U;subst Q;show zE (N.aI e) λz Q=>?_;subst Q;show hi _ _ _ _ h
 |str i=>
  obtain⟨j,e,h⟩:=ak h;obtain⟨t,rfl,_⟩:=U.x;obtain⟨z,rfl,_⟩:=N.aS e;show a _ _ _ _ h
 |_=>show h.elim
def mC(N:RV c.Aa c.w O v x)(h:DZ x=some b):(v==Value.none)=b:=by
 induction x using V.casesOn with
 |c f=>
  have N:=RF.x N;obtain rfl:=Zf h;induction f using FV.casesOn with
  |Ak=>subst N;rfl
  |Ae=>subst N;rfl
  |int=>show zE N λZ Q=>?_;clear N;subst Q;rfl
  |str=>obtain⟨_,rfl,_⟩:=N;rfl
  |_=>obtain⟨_,_,_,rfl,_⟩:=N;rfl
 |ob i=>show aX N λa ft Z z=>?_;subst z;obtain rfl:=Zf h;rfl
 |st a=>subst N;obtain rfl:=Zf h;rfl
 |E9 a i=>show bC N λq a ft z Z=>?_;subst z;obtain rfl:=Zf h;rfl
def sJ{P:Prop}(N:RV c.Aa c.w O v x)(h:Ab (DZ x) λz=>S7 z P False):v=.none/\P:=by
 obtain⟨b,a,h⟩:=ak h;induction b using Bool.casesOn with
 |false=>show h.elim
 |true=>show⟨eq_of_beq (mC N a),h⟩
def yG{k:TR}(h:k (GZ p q)):k (decide (p<q)):=fC p q▸h
def yF{k:TR}(h:k (!GZ p q)):k (!decide (p<q)):=fC p q▸h
def vW{Q:Wv->Ww->Prop}(r:Rel c O L J s)(f:RV c.Aa c.w O v x)(a:RV c.Aa c.w O u y)(d:A.units+16<cLine)
  (h:BN (Ga l) x y J k) (j:∀b m,k b->Q (.bool b) {s with toks:=m}):wpAny (model c.Aa c.w) A (compareOp l v u) Q E s:=by
 cases l with
 |Is=>show zA (sJ a h) λi h=>?_;subst i;obtain⟨b,n,D⟩:=ak h;show is_none_gen (mC f n▸j b s.toks D)
 |IsNot=>show zA (sJ a h) λi h=>?_;subst i;obtain⟨b,n,D⟩:=ak h;show isnot_none_gen (mC f n▸j _ s.toks D)
 |Eq=>show lx r f a h λz U N h=>aan z U N d h λb D=>j _ s.toks D
 |NotEq=>show lx r f a h λz U N h=>(sv z U N d h).elim λb t=>t.2.2 c.Aa c.w E Q (j _ s.toks t.1)
 |In=>show lx r f a h λz U N h=>sr z U N h j
 |NotIn=>show lx r f a h λz U N h=>sI (sr z U N h λb m D o e=>by cases e;show j (!b) m D)
 |Lt=>show lx r f a h λz U N h=>og (P:=λv u=>wpAny (model c.Aa c.w) A (compareOp .Lt v u) Q E s) U N h (λZ Z Z Z h=>P.lt_int (j _ s.toks h)) (λZ Z Z Z h=>P.lt_str (j _ s.toks (yG h)))
 |LtE=>show lx r f a h λz U N h=>og (P:=λv u=>wpAny (model c.Aa c.w) A (compareOp .LtE v u) Q E s) U N h (λZ Z Z Z h=>P.le_int (j _ s.toks h)) (λZ Z Z Z h=>P.le_str (j _ s.toks (yF h)))
 |Gt=>show lx r f a h λz U N h=>og (P:=λv u=>wpAny (model c.Aa c.w) A (compareOp .Gt v u) Q E s) U N h (λZ Z Z Z h=>P.gt_int (j _ s.toks h)) (λZ Z Z Z h=>P.gt_str (j _ s.toks (yG h)))
 |GtE=>show lx r f a h λz U N h=>og (P:=λv u=>wpAny (model c.Aa c.w) A (compareOp .GtE v u) Q E s) U N h (λZ Z Z Z h=>P.ge_int (j _ s.toks h)) (λZ Z Z Z h=>P.ge_str (j _ s.toks (yF h)))
def gK(r:Rel c O L J s)(e:RV c.Aa c.w O v x)(a:RV c.Aa c.w O u y)(d:A.units+16<cLine)
  (h:BN (Ga D) x y J k) (j:∀b Z,0<Z->k b->Q (.bool b) {s with toks:=Z}):wpAny (model c.Aa c.w) A (compareOp D v u) Q E s:=
 aN r.tk (vW r e a d h λb Z f N=>j b Z N f)
end
section
variable {c:Cx}{g:G}{K:Frag}{p:CP}{Sy:TP}{mg mb:Wu->TM}{f:Fm}{d:Nat}
def Room.u16(l:Room U d A):A.units+16<cLine:=by have:=l.un;show Yb (Z9 (ZR _ _) (by decide:16<=64)) this
def Ku(c:Cx)(g:G)(L:Loc)(d:Nat):Prop:=
 ∀O J s A x y (P:V) v (k:Bool->TF) (Q:Bool->Ww->Prop),Rel c O L J s->Ay L d A->RV c.Aa c.w O v P->g.con x=some y->BL g y [.st x,P] [] J (λv s=>Ab (Am s.H v) λt=>k t s)->
  (∀l Z j b,Ext false L O s l j->Rel c l L Z j->k b Z->Q b j)->wpAny (model c.Aa c.w) A (contains (.ref x) v) Q Bl s
def aej(h:beq (Ga D) 8=true):D=.In:=by induction D<;>first|rfl|show a7 h
def oo{O:Gh}(P:Ku c g L d)(r:Rel c O L J s)(n:Ay L d A)(N:RV c.Aa c.w O v x)(e:RV c.Aa c.w O u y)
  (h:FH g (Ga op) x y J k) (m:∀l Z j b,Ext false L O s l j->Rel c l L Z j->k b Z->Q (.bool b) j):wpAny (model c.Aa c.w) A (compareOp op v u) Q Bl s:=by
 have z:BN (Ga op) x y J (λv=>k v J)->wpAny (model c.Aa c.w) A (compareOp op v u) Q Bl s:=λh=>
  gK r N e n.u16 h λt o E D=>m O J _ t (.toks false o) (r.toks E) D
 induction y using V.casesOn with
 |st a=>
  have h:=mZ h;split at h
  ·rename_i U;clear z;obtain rfl:=aej U;obtain⟨C,w,D⟩:=ak h;subst e;show Zn (P O J s A a C x v k _ r n N w D λl Z j b q B D=>ZE (m l Z j b q B D))
  ·show h.elim
 |c f=>show z h
 |ob i=>show z h
 |E9 f i=>show z h
def abW(L:Ku c g f.L d)(h:SE c g f d x e)(H:SE c g f d y e')(G:behindInMarks op e'=false):SE c g f d (.cmp (Ga op) x y) (.Compare e [op] [e'] pos):=by
 intro O J s A k Q r w B M;show wpAny_Compare1 (h O J s A _ _ r w B λi m l v a z U R n=>H i m l A _ _ U w n λj E C u b N D I n=>?_) G;show oo L D w (R.mono N.le) I n λZ q F t o P n=>M Z q _ _ (.c (.Ae t)) ((z.trans r U N).trans r D o) P (dq (.Ae t)) n
def abF(M:Ku c g f.L d)(h:SE c g f d x e)(I:SE c g f d y e')(H:behindInMarks op e'=false):ST c g f d (.cmp (Ga op) x y) (.Compare e [op] [e'] pos):=by
 intro O J s A k Q r w C R;show wpAny_isTrue_Compare1 (h O J s A _ _ r w C λm n l v a z U S i=>I m n l A _ _ U w i λj F E u b N D L i=>?_) H;show oo M D w (S.mono N.le) L i λZ q G t o P i=>XF ?_;obtain⟨T,B,i⟩:=ak i;obtain rfl:=Zf B;show R Z q _ t ((z.trans r U N).trans r D o) P i
set_option tactic.hygienic true in
def lm{A j:WE}:lastMarks [.LtE,.LtE] [A,j]=false:=by
 obtain⟨⟩:=j<;>first|rfl|(rename_i a k b;change((k==0&&_)&&_)=false;cases k==0<;>rfl)
def abO(h:SE c g f d x e)(h':SE c g f d y e')(H:SE c g f d z e''):SE c g f d (.Gf x y z) (.Compare e [.LtE,.LtE] [e',e''] pos):=by
 intro O J s A k Q r E M Y;show Compare_chain (h O J s A _ _ r E M λB C l v a G o hv m=>chain_link (h' B C l A _ _ o E m λj n S u b N i V m=>?_)) lm;show gK i (hv.mono N.le) V E.u16 m λt tk L m=>XF ?_;have m:=mZ m;have D:=(G.trans r o N).trans r i (.toks false tk);induction t using Bool.casesOn with
 |false=>show Y j n _ _ (.c (.Ae false)) D (i.toks L) (dq (.Ae false)) m
 |true=>
  show chain_last (H j n _ A _ _ (i.toks L) E m λZ F W w q U P hw m=>gK P (V.mono U.le) hw E.u16 m λT R I m=>Y Z F _ _ (.c (.Ae T)) ((D.trans r (i.toks L) U).trans r P (.toks false R)) (P.toks I) (dq (.Ae T)) m)
def abC(h:SE c g f d x e)(h':SE c g f d y e')(H:SE c g f d z e''):ST c g f d (.Gf x y z) (.Compare e [.LtE,.LtE] [e',e''] pos):=by
 intro O J s A k Q r E M W;show isTrue_chain (h O J s A _ _ r E M λB C l v a G o hv m=>test_link (h' B C l A _ _ o E m λj n S u b N i T m=>?_)) lm;show gK i (hv.mono N.le) T E.u16 m λt tk L m=>XF ?_;have m:=mZ m;have D:=(G.trans r o N).trans r i (.toks false tk);induction t using Bool.casesOn with
 |false=>show W j n _ false D (i.toks L) m
 |true=>
  show test_last (H j n _ A _ _ (i.toks L) E m λZ F V w q U P hw m=>gK P (T.mono U.le) hw E.u16 m λY R I m=>XF (W Z F _ Y ((D.trans r (i.toks L) U).trans r P (.toks false R)) (P.toks I) m))
def wK{K:Int->Int->Prop}{P:Wv->Wv->Prop}(N:RF c.Aa c.w F v l)(Z:RF c.Aa c.w F u U)(h:Ab (aI l) λx=>Ab (aI U) λy=>K x y)
  (O:∀x t y z,K x y->P (.int x t) (.int y z)):P v u:=by
 obtain⟨x,e,h⟩:=ak h;obtain⟨y,A,h⟩:=ak h;show zE (N.aI e) λt Q=>?_;subst Q;show zE (Z.aI A) λz Q=>?_;clear Z;subst Q;show O x t y z h
def vX{O:Gh}{L:Loc}{J:St}
  (N:RF c.Aa c.w F v fx) (a:RF c.Aa c.w F u U) (h:G4 fx U k)
  (j:∀w r Z,(∀l,RF c.Aa c.w l w r)->k r->Q w {s with toks:=Z}):wpAny (model c.Aa c.w) A (binaryOp .Add v u) Q E s:=by
 induction fx using FV.casesOn with
 |str x=>
  obtain⟨y,e,b,D⟩:=ak h;obtain⟨t,rfl,_⟩:=N.x;obtain⟨i,rfl,_⟩:=a.aS e;show SB.add (λz Z=>?_) (by rw[YE];show b);have e:(⟨x.toArray⟩:Wu)++⟨y.toArray⟩=⟨(x++y).toArray⟩:=by change PySem.Str.mk (x.toArray++y.toArray)=_;simp
  show e▸(j _ _ Z (λl=>.str (x++y) z (by rw[Zg];show b)) D)
 |int x=>
  obtain⟨y,e,D⟩:=ak h;obtain⟨t,rfl⟩:=N.x;obtain⟨i,rfl⟩:=a.aI e;show P.add_int (j _ _ _ (λl=>.int _ _) D)
 |_=>show h.elim
def aao{O:Gh}{L:Loc}{J:St}{k:FV->Prop}{Q:Wv->Ww->Prop}
  (U:Mb D=some o) (N:RF c.Aa c.w F v y) (a:RF c.Aa c.w F u z) (h:Og o y z k)
  (j:∀w r b,(∀l,RF c.Aa c.w l w r)->k r->Q w {s with toks:=b}):wpAny (model c.Aa c.w) A (binaryOp D v u) Q E s:=by
 cases D with
 |Add=>obtain rfl:=Zf U;show vX (O:=O) (L:=L) (J:=J) N a h j
 |Sub=>obtain rfl:=Zf U;show wK (P:=λv u=>wpAny (model c.Aa c.w) A (binaryOp .Sub v u) Q E s) N a h λZ Z Z Z h=>P.sub_int (j _ _ _ (λl=>.int _ _) h)
 |Mod=>obtain rfl:=Zf U;show wK (P:=λv u=>wpAny (model c.Aa c.w) A (binaryOp .Mod v u) Q E s) N a h λZ Z Z Z h=>mod_int' h.1.1 (j _ _ _ (λl=>.int _ _) h.2)
 |FloorDiv=>obtain rfl:=Zf U;show wK (P:=λv u=>wpAny (model c.Aa c.w) A (binaryOp .FloorDiv v u) Q E s) N a h λZ Z Z Z h=>floordiv_int h.1.1 (j _ _ _ (λl=>.int _ _) h.2) (.inl h.1.2)
 |Mult=>obtain rfl:=Zf U;show h.elim
 |_=>cases U
def abX(V:Mb op=some o)(h:SE c g f d x e)(L:SE c g f d y e')
  (H:∀O J s A k Q v u a b,Rel c O f.L J s->Ay f.L d A->RV c.Aa c.w O v a->RV c.Aa c.w O u b->Fv o a b J k->B2 c f.L O s k Q->wpAny (model c.Aa c.w) A (binaryOp op v u) Q Bl s):
  SE c g f d (.bin o x y) (.BinOp e op e' pos):=by
 intro O J s A k Q r G I R;show wpAny_BinOp (h O J s A _ _ r G I λi n l v a E U S q=>L i n l A _ _ U G q λj m P u b N D M q=>H j m P A _ Q v u a b D G (S.mono N.le) M q λZ C B w z t F T q=>R Z C B w z ((E.trans r U N).trans r D t) F T q)
def jv{y:Type}{l:List y}{a:y}(h:Co l i=some a):∃j,seqIndex? i l.length=some j/\l[j]? =some a/\ -(l.length:Int)<=i/\i<l.length:=by
 unfold Co at h;by_cases b:0<=i
 ·replace h:=(Zr b)▸h;have h:=h;have D:i.toNat<l.length:=by
   rcases YT i.toNat l.length with z|z
   ·show z
   ·rw[Xm z]at h;show aw h
  show(aY i.toNat ?_ h (by lia) ((Int.toNat_lt b).mp D));unfold seqIndex?;simp only[show¬i<0 by show Int.not_lt_of_ge b,if_false];rw[Zk (by simp;show⟨b,(Int.toNat_lt b).mp D⟩)]
 ·rw[Zs b]at h;have h:=h;by_cases U:0<=i+l.length
  ·rw[Zr U]at h;have h:=h;have D:(i+l.length).toNat<l.length:=by
    rcases YT (i+l.length).toNat l.length with z|z
    ·show z
    ·rw[Xm z]at h;show aw h
   show(aY (i+l.length).toNat ?_ h (Int.add_nonneg_iff_neg_le.mp U) (Int.lt_of_lt_of_le (Int.lt_of_add_lt_add_right (Int.lt_of_lt_of_le (Int.lt_of_le_of_lt (Int.self_le_toNat _) (Xa.mpr D)) (Int.le_of_eq (Int.zero_add _).symm))) (Yx _)));unfold seqIndex?;simp only[show i<0 by show Int.lt_of_not_ge b,if_true];rw[Zk (by simp;show⟨U,(Int.toNat_lt U).mp D⟩)]
  ·rw[Zs U]at h;show aw h
def Ba.get?{N:WA}:∀ {Z:TN} {j:Nat} {a:FV},Ba N w F Z l->l[j]? =some a->∃v,Z[j]? =some v/\RF N w F v a:=by
 induction l with
 |nil=>intro Z j a _ h;show aw h
 |cons x l b=>
  intro Z j a h e;obtain⟨v,r,rfl,Q,D⟩:=h.inv;induction j using Nat.casesOn with
  |zero=>show(aO v rfl (Zf e▸Q))
  |succ j=>show b (j:=j) D e
def zQ{N:WA}(a:WJ):∀ {U:TO},Eh N w F U l->sel a l=some r->∃v,valueAt U (CH a)=some v/\RF N w F v r:=by
 induction l with
 |nil=>intro _ _ h;show aw h
 |cons f l b=>
  intro U h Q;show bA h.inv λv t P i D=>?_;clear h;subst P;have Q:(Bool.rec (sel a l) (some f.2) (Cn a f.1):TJ)=some r:=Q;replace Q:=(aE _ _)▸Q;unfold valueAt at b⊢;show(X6)▸ ?_;by_cases z:a=f.1
  ·clear b;subst z;simp only[decide_true]at Q⊢;obtain rfl:=Zf Q;show(aO _ rfl i)
  ·simp only[z,show¬CH f.1=CH a from λe=>z (eG e).symm]at Q⊢;show b D Q
def vA{O:Gh}{N:WA}(a:WJ)(h:RD N w O U l)(Q:sel a l=some r):∃v,valueAt U (CH a)=some v/\RV N w O v r:=by
 induction h with
 |nil=>show aw Q
 | @cons v Z k x l i D b=>
  have Q:(Bool.rec (sel a l) (some x) (Cn a k):Option V)=some r:=Q;replace Q:=(aE _ _)▸Q;unfold valueAt at b⊢;show(X6)▸ ?_;by_cases z:a=k
  ·subst z;simp only[decide_true]at Q⊢;clear b;obtain rfl:=Zf Q;show(aO _ rfl i)
  ·simp only[z,show¬CH k=CH a from λe=>z (eG e).symm]at Q⊢;show b Q
section
variable {O:Gh}{L:Loc}{J:St}{s:Ww}{A:Wz}{E:Wv->Ww->Prop}{v u:Wv}{x y:V}
def iK(D:s.heap.IsList a Z.toArray)(n:Ba c.Aa c.w F Z l)(P:l.length<=16777216)
  (hi:Co l i=some r) (m:∀v,RF c.Aa c.w F v r->Q v s):wpAny (model c.Aa c.w) A (PySem.getItem (.ref a) (.int i t)) Q E s:=by
 show bO (jv hi) λj U N o q=>aA (n.get? N) λv k h=>?_;unfold seqIndex? at U;have b:=n.len;by_cases e:i<0
 ·simp only[e,if_true]at U;split at U
  ·obtain rfl:=Zf U;show wpAny_getItem_list_neg D e (by rw[ZP,b];show o) (by lia) ?_ (m v h);rw[ZP,b,YH];show k
  ·cases U
 ·simp only[e,if_false]at U;split at U
  ·obtain rfl:=Zf U;show wpAny_getItem_list D (Int.not_lt.mp e) (by lia) ?_ (m v h);rw[YH];show k
  ·cases U
def oh(B:Holds F s.heap)(N:RF c.Aa c.w F v fx)(Z:RF c.Aa c.w F u fy)(h:Ln fx fy k)
  (G:∀v r W,RF c.Aa c.w F v r->k r->Q v {s with toks:=W}):SubscriptOn (model c.Aa c.w) A v u Q E s:=by
 induction fx using FV.casesOn with
 |str l=>
  obtain⟨i,C,h⟩:=ak h;obtain⟨r,w,D⟩:=ak h;show bO (jv w) λj M I X V=>?_;obtain⟨t,rfl,b⟩:=N.x;show zE (Z.aI C) λR m=>?_;subst m;show(a8 "str" _ PySem.F.slot_str_getitem.lookup rfl (P.getItem_str ?_ ?_ (G _ _ _ (.str [r] _ (by show YB _)) D)))
  ·rw[propext Bool.or_eq_false_iff,propext decide_eq_false_iff_not];show⟨by lia,by lia⟩
  ·have:(⟨l.toArray⟩:Wu).length=l.length:=by change l.toArray.size=_;rfl
   rw[this,M,Ys];rw[YH];show I
 |lst l=>
  obtain⟨i,C,h⟩:=ak h;obtain⟨r,w,D⟩:=ak h;obtain⟨a,S,o,rfl,e,q,rr,b⟩:=N.x;show zE (Z.aI C) λR m=>?_;subst m;show(a8 "list" _ PySem.F.slot_list_getitem.lookup (aO _ (B _ _ e) (by show zE q λn z=>?_;rw[z])) (iK (q.list (B _ _ e)) rr b w λv N=>G v r s.toks N D))
 |tup l=>
  obtain⟨i,C,h⟩:=ak h;obtain⟨r,w,D⟩:=ak h;show bO (jv w) λj M I X V=>?_;obtain⟨a,S,o,rfl,e,q,rr,b⟩:=N.x;show zE (Z.aI C) λR m=>?_;clear Z;subst m;show aA (rr.get? I) λv U H=>(a8 "tuple" _ PySem.F.slot_tuple_getitem.lookup (aO _ (B _ _ e) (by show zE q λn z=>?_;rw[z])) (getItem_tuple (j:=j) (q.tup (B _ _ e)) (by lia) (by lia) ?_ ?_ (G v r s.toks H D)))
  ·rw[ZP,rr.len];show M
  ·show(YH)▸ ?_;show U
 |An l=>
  obtain⟨a,T,h⟩:=ak h;obtain⟨r,w,D⟩:=ak h;obtain⟨_,o,Y,rfl,e,n,q,rr,b⟩:=N.x;obtain⟨t,rfl,_⟩:=Z.aS T;show aA (zQ a rr w) λv U H=>(a8 "dict" _ PySem.F.slot_dict_getitem.lookup (q.at (B _ _ e)).typeIs (wpAny_getItem_of (fU a t) (q.at (B _ _ e)).mapOf U (G v r _ H D)))
 |_=>show h.elim
def vR(r:Rel c O L J s)(m:RV c.Aa c.w O v x)(b:RV c.Aa c.w O u y)(h:DO x y J k)
  (j:∀v z Z,RV c.Aa c.w O v z->k z J->Q v {s with toks:=Z}):SubscriptOn (model c.Aa c.w) A v u Q E s:=by
 obtain⟨f,G,I⟩:=ak h;obtain rfl:=f7 G;clear h G;have h:=I;clear I;induction x using V.casesOn with
 |ob n=>
  show aX m λa ft e w=>?_;subst w;obtain⟨o,q,h⟩:=ak h;have B:=r.ob e q;induction o using AO.casesOn with
  |An es=>
   obtain⟨M,S,h⟩:=ak h;obtain⟨z,P,D⟩:=ak h;show bQ B λX o kvs U h0 N F H=>?_;obtain⟨t,rfl,_⟩:=RF.aS b S;show aA (vA M F P) λv T R=>(a8 "dict" _ PySem.F.slot_dict_getitem.lookup (N.at U).typeIs (wpAny_getItem_of (fU M t) (N.at U).mapOf T (j v z _ R D)))
  |lst l=>
   obtain⟨i,W,h⟩:=ak h;obtain⟨z,P,D⟩:=ak h;show bI B λX o vs U N F H=>?_;show zE (RF.aI b W) λt C=>?_;subst C;show(a8 "list" _ PySem.F.slot_list_getitem.lookup (aO _ U (by show zE N λn z=>?_;rw[z])) (iK (N.list U) F H P λv m=>j v (.c z) s.toks m D))
  |Av Y=>show oh r.holds B.2 b h λv z Z P D=>j v (.c z) Z P D
  |inst _ _=>show h.elim
 |c Y=>show oh r.holds m b h λv z Z P D=>j v (.c z) Z P D
 |_=>show h.elim
def rl(e:0<s.toks)(h:SubscriptOn (model c.Aa c.w) A v u (λa j=>0<j.toks->Q a j) E s):SubscriptOn (model c.Aa c.w) A v u Q E s:=by
 show bA h λT id a b z=>(a8 T id a b (aN e z))
def sk(r:Rel c O L J s)(N:RV c.Aa c.w O v x)(a:RV c.Aa c.w O u y)(h:DO x y J k)
  (j:∀v z Z,0<Z->RV c.Aa c.w O v z->k z J->Q v {s with toks:=Z}):SubscriptOn (model c.Aa c.w) A v u Q E s:=
 rl r.tk (vR r N a h λv z Z N D b=>j v z Z b N D)
end
def sH(h:(match i with| .Slice .. =>false|_=>true)=true)(o v:Wv):subscripted i false o v=operate [o,v] (getItem o v):=by
 obtain⟨⟩:=i<;>first|rfl|cases h
def rq{M:Model}{N:WA}(k:(match i with| .Slice .. =>false|_=>true)=true)
  (h:wpAny (model N w) A (eval z env) (λo l=>wpAny (model N w) A (eval i env) (λv P=>SubscriptOn (model N w) A o v Q E P) E l) E s):
  wpAny (model N w) A (eval (.Subscript z i pos) env) Q E s:=by
 rw[arm_eval_Subscript];show Zn (ZT h (λo l a=>Zn (ZY (ZT a (λv P b=>Zn (Yz ?_)) λZ Z x=>x))) λZ Z x=>x);show bA b λT id D e m=>Zn ((getitemInPython_of_ne e.not_modules)▸(Zn (wpAny_specialOf e D (ZE ?_))));rw[sH k];show Zn (wpAny_operating (ZT m (λr j U=>Zn (wpAny_letTemporaryGo (ZE U))) λZ Z x=>x))
def abM(B:(match e' with| .Slice .. =>false|_=>true)=true)(h:SE c g f d x e)(C:SE c g f d y e'):SE c g f d (.sub x y) (.Subscript e e' pos):=by
 intro O J s A k Q r t q I;show rq (M:=model c.Aa c.w) B (h O J s A _ _ r t q λZ m l v a o U R n=>C Z m l A _ _ U t n λj i P u b N D F n=>sk D (R.mono N.le) F n λw z G H S n=>I j i _ w z ((o.trans r U N).trans r D (.toks false G)) (D.toks H) S n)
end
structure CO (K:Frag) (C:WD):Prop where
 ga:findIn K (.ref C) "__getattribute__"=some (some (.builtin "object.__getattribute__"))
 gk:findIn K (.ref C) "__getattr__"=some none
 sa:findIn K (.ref C) "__setattr__"=some (some (.builtin "object.__setattr__"))
 po:plainOver K C=true
 hd:(clsIn K C).any (·.hasDict)=true
structure Hv (K:Frag) (C f:WD) (x:Wu):Prop where
 fi:findIn K (.ref C) x=some (some (.ref f))
 ty:typeIn K (.ref f)=some (.type "function")
 ge:specialIn K (.ref f) "__get__"=some (some (.builtin "function.__get__"))
 ta:takesIn K (.ref f)=some false
 co:copiedNames.contains x=false
 fn:fnIn K f=true
def Fk:TP:=["append","pop","join","replace","count","rfind","split","lower","upper","startswith","find","get","update","index","keys","has_"]
structure FX (c:Cx) (K:Frag) (g:G):Prop where
 own:∀C n,g.own C n=true->CO K C/\findIn K (.ref C) (c.nm n)=some none
 cls:∀C n f,g.cls C n=some f->CO K C/\Hv K C f (c.nm n)
 Gy:∀C n v,g.Gy C n=some v->CO K C/\copiedNames.contains (c.nm n)=false/\∃u,findIn K (.ref C) (c.nm n)=some (some u)/\specialIn K u "__get__"=some none/\handedIn u=true/\
  RV c.Aa c.w ⟨c.base.get?,λuu=>none⟩ u v
 FA:∀a n v,g.FA a n=some v->∃C dx od u,K.lookup a=some (FE C (some dx))/\K.lookup dx=some od/\CO K C/\findObj K C (some od) (c.nm n)=some (.value u)/\handedIn u=true/\
  RV c.Aa c.w ⟨c.base.get?,λuu=>none⟩ u v
 Gp:∀a n f,g.Gp a n=some f->∃C dx od,K.lookup a=some (FE C (some dx))/\K.lookup dx=some od/\CO K C/\Hv K C f (c.nm n)/\shadowIn (some od) (c.nm n)=some false
 con:∀a f,g.con a=some f->∃C dx od,K.lookup a=some (FE C (some dx))/\K.lookup dx=some od/\findIn K (.ref C) "__contains__"=some (some (.ref f))/\isFn K (.ref f)=true
 Jy:∀C f,g.Jy C=some f->makesIn K C=true/\findIn K (.ref C) "__init__"=some (some (.ref f))/\typeIn K (.ref f)=some (.type "function")/\keepIn K (.ref C)=true/\g.FI C<64
 fn:∀f,g.fn f=true->fnIn K f=true
 mn:∀n,n<16->c.nm n=Fk.getD n ""
def qR{N:WA}(h:RF N w F v f):handedIn v=true:=by cases h<;>rfl
def qQ{N:WA}(h:RV N w g v x):handedIn v=true:=by
 induction x using V.casesOn with
 |c f=>show qR h
 |ob i=>show aX h λa ft Z z=>?_;clear h;subst z;rfl
 |st a=>subst h;rfl
 |E9 a i=>show bC h λq a ft z Z=>?_;clear h;subst z;rfl
section
variable {c:Cx}{O:Gh}
def kI:Value.isStr (.str (c.nm m) t) (c.nm n)=decide (n=m):=by
 change(c.nm m==c.nm n)=_;by_cases h:n=m
 ·subst h;simp
 ·simp[h,show¬c.nm m=c.nm n from λe=>h (c.inj _ _ e).symm]
def iN(D:e.key=.str (c.nm m) t):getL (c.nm n) (e::y)=if n=m then some (some e.val)else getL (c.nm n) y:=by
 have a:(e::y).any (·.refKey)=y.any (·.refKey):=by rw[List.any_cons,(by unfold DictEntry.refKey;show af D rfl:e.refKey=false)];rfl
 unfold getL;rw[X6,D,kI];by_cases z:n=m
 ·simp only[z,decide_true,if_true]
 ·simp only[z,decide_false,if_false,a]
def fV(h:RI c.Aa c.w c.nm O y l)(D:Sx n l=some v):∃u,getL (c.nm n) y=some (some u)/\RV c.Aa c.w O u v:=by
 induction h with
 |nil=>show aw D
 | @cons e y m t f l a N b Q=>
  rw[aq]at D;rw[iN a];by_cases z:n=m
  ·rw[Zk z]at D⊢;show(aO _ rfl (Zf D▸N))
  ·rw[Zi z]at D⊢;show Q D
def fW(h:RI c.Aa c.w c.nm O y l)(D:Sx n l=none):getL (c.nm n) y=some none:=by
 induction h with
 |nil=>rfl
 | @cons e y m t f l a N b Q=>
  replace D:=(aq _ _ _)▸D;rw[iN a];by_cases z:n=m
  ·replace D:=(Zk z)▸D;cases D
  ·rw[Zi z]at D⊢;show Q D
def RI.len(h:RI c.Aa c.w c.nm O y l):y.length=l.length:=by
 induction h with
 |nil=>rfl
 |cons _ _ _ Q=>show T3 (· +1) Q
def ab2(Z:RV c.Aa c.w O u v)(h:RI c.Aa c.w c.nm O y l):
  RI c.Aa c.w c.nm O (putL (c.nm n) N (.str (c.nm n) t) u y) (put n v l):=by
 induction h with
 |nil=>show .cons rfl Z .nil
 | @cons e y m i f l D a b Q=>
  rw[kq];unfold putL;rw[D,kI];by_cases z:n=m
  ·rw[Zk z];simp only[z,if_true];show .cons rfl Z b
  ·rw[Zi z];simp only[z,decide_false];show .cons D a Q
variable {g:G}{K:Frag}{L:Loc}{J:St}{s:Ww}{A:Wz}{v:Wv}{x:V}
def ju(U:h.get? a=some (FE C (some u)))(N:h.get? u=some (dictOf y n)):InstAt h a (FE C (some u)) C (some (dictOf y n)):=⟨U,rfl,rfl,N⟩
def CO.cd(h:CO K C):∃cd,clsIn K C=some cd/\cd.hasDict=true:=any_some h.hd
def kQ(h:CO K C)(j:findIn K (.ref C) nm=some none)(Q:getL nm y=some (some u)):findObj K C (some (dictOf y n)) nm=some (.value u):=by
 show aA h.cd λcd U N=>?_;unfold findObj;rw[U,j,Ys];unfold W.ownOf;rw[Zk N];change(lookIn nm (dictOf y n)).bind _=_;rw[lookIn_dict,Q];rfl
def tZ(h:CO K C)(m:Hv K C f nm)(Q:getL nm y=some none):findObj K C (some (dictOf y n)) nm=some (.bind (.builtin "function.__get__") (.ref f)):=by
 show aA h.cd λcd U N=>?_;unfold findObj;rw[U,m.fi,Ys,Ys];dsimp only;rw[m.ge,Ys];dsimp only
 (show m.ta▸ ?_;rw[Ys])
 unfold W.ownOf;rw[Zk N];change(lookIn nm (dictOf y n)).bind _=_;rw[lookIn_dict,Q,Ys];show m.co▸ ?_;rfl
def t4(h:CO K C)(b:copiedNames.contains nm=false)(j:findIn K (.ref C) nm=some (some u))(Q:specialIn K u "__get__"=some none)(a:handedIn u=true)
  (e:getL nm y=some none):findObj K C (some (dictOf y n)) nm=some (.value u):=by
 show aA h.cd λcd U N=>?_;unfold findObj;rw[U,j,Ys,Ys];dsimp only;rw[Q,Ys];rw[Ys];unfold W.ownOf;rw[Zk N];change(lookIn nm (dictOf y n)).bind _=_;rw[lookIn_dict,e,Ys];show b▸ ?_;simp[a]
def sA(X:K.In c.base)(Y:FX c K g)(r:Rel c O L J s)(E:RV c.Aa c.w O v x)(h:GB g x n J k)(j:B2 c L O s k Q):
  wpAny (model c.Aa c.w) A (getAttr v (c.nm n) b) Q Bl s:=by
 have l:=X.keeps r.bN;induction x using V.casesOn with
 |c f=>show False.elim h
 |E9 f i=>show False.elim h
 |st a=>
  subst E;obtain⟨z,P,B⟩:=ak h;obtain⟨C,H,od,u,U,N,D,W,S,h6⟩:=Y.FA a n z P;show get_value l (show InstAt s.heap a (FE C (some H)) C (some od) from⟨l _ _ U,rfl,rfl,l _ _ N⟩) D.ga W S (j O J _ u z (.toks _ _) r.dX (j0 r h6) B)
 |ob i=>
  show aX E λa ft e t=>?_;clear E;subst t;obtain⟨o,q,h⟩:=ak h;induction o using AO.casesOn with
  |inst C dd=>
   show aK (r.ob e q) λH es m R hne U N D=>?_;have I:=ju U N;have h:G6 g i n J k C dd:=h;unfold G6 at h;cases P:Sx n dd with
   |some z=>
    rw[P]at h;show zA (qL h) λho h=>zA (Y.own C n ho) λZ p=>aA (fV D P) λu g1 g2=>get_value l I Z.ga (kQ Z p g1) (qQ g2) (j O J _ u z (.toks _ _) r.dX g2 h)
   |none=>
    rw[P]at h;have F:=fW D P;cases w:g.cls C n with
    |some y=>
     rw[w]at h;show zA (Y.cls C n y w) λZ p=>get_bind l I Z.ga (tZ Z p F) Z.gk (XI (fn_get l p.ty ?_));change wpAny _ _ (handedOut (.ref s.heap.objs.size)) _ _ _;rw[handedOut_of rfl];show ZE (zA (r.dX.m8 rfl) λT x1=>j _ J _ _ (.E9 y i) ((Ext.toks false (s.toks+1)).trans r r.dX x1) T (b4 _ a ft rfl (Zk rfl) e) h)
    |none=>
     rw[w]at h;obtain⟨z,d,B⟩:=ak h;obtain⟨Z,p,u,c3,M,G,c6⟩:=Y.Gy C n z d;show get_value l I Z.ga (t4 Z p c3 M G F) G (j O J _ u z (.toks _ _) r.dX (j0 r c6) B)
  |_=>show h.elim
end
def GV(h:WH)(j:List WD):List (WD×Obj):=(List.range h.objs.size).filterMap λa=>if a∈j then none else(h.get? a).map λo=>(a,o)
def dK:p∈GV h j↔p.1∉j/\h.get? p.1=some p.2:=by
 rw[propext List.mem_filterMap];constructor
 ·rintro ⟨a,_,e⟩;split at e
  ·show aw e
  ·rename_i q;show aA (Option.map_eq_some_iff.mp e) λo U P=>?_;clear e;subst P;show⟨q,U⟩
 ·rintro ⟨b,N⟩;show(aO p.1 (List.mem_range.mpr (Yk N)) ?_)
  (rw[Zi b];show N▸ ?_);rfl
def fr0(N:h.Ns L m):Fr {} L h m:=⟨N,λb o e=>by simp[Heap.get?]at e,ZF _⟩
def ady(a:WD):({}:WH).get? a=none:=by rfl
def yB(v:L∈bad):News {} L h (GV h bad):=λp j=>
 have h:=dK.mp j;⟨h.2,λe=>h.1 (e▸v),ady _⟩
def ze{ft:List WD}(l:List WD)(e:g.φ i=some (a,ft)):Le false g (g.at i (a,l)):=
 ⟨λf f e=>e,λj b h Z f=>by
  by_cases z:j=i
  ·subst z;replace Z:=e▸Z;cases Z;show⟨l,by show Gh.bf⟩
  ·show⟨h,(Gh.bc (z)).trans Z⟩⟩
def r9(x:Wu)(N:Int)(k v:Wv):∀y:List WC,(putL x N k v y).length<=y.length+1:=by
 intro y;induction y with
 |nil=>
  show Zq _
 |cons e r Q=>
  unfold putL;split
  ·simp
  ·simpa using Q
section
variable {c:Cx}{g:G}{K:Frag}{O:Gh}{L:Loc}{J:St}{s:Ww}{A:Wz}
def aai(X:K.In c.base){a C:WD}{ft:List WD}{d:Tw}{v:V}{Q:Unit->Ww->Prop}(r:Rel c O L J s)(e:O.φ i=some (a,ft))(q:Sx i J.H=some (.inst C d))
  (E:CO K C) (c2:findIn K (.ref C) (c.nm n)=some none) (hw:RV c.Aa c.w O u v) (hdl:d.length<=900)
  (hQ:∀l F,Ext false L O s l F->Rel c l L (As J (put i (.inst C (put n v d)) J.H)) F->Q () F):wpAny (model c.Aa c.w) A (setAttr (.ref a) (c.nm n) u) Q Bl s:=by
 have Y:=X.keeps r.bN;show aK (r.ob e q) λk G m Z D U T B=>?_;have I:=ju U T;show aA r.loc.nm λmm N hm=>?_;have R:∀ {x},¬L.CN x->x≠L.ns:=λh q=>h (q▸Loc.cx);have S:(lookIn (c.nm n) (dictOf G m)).isSome=true:=by
  rw[lookIn_dict];cases z:Sx n d with
  |none=>rw[fW B z];rfl
  |some v=>show aA (fV B z) λu g1 uu=>?_;rw[g1];rfl
 have j:=r.off k (ay i a ft e (by rw[Z];show .tail _ (.head _)));have N0:News {} L.ns s.heap ([]++(k,dictOf G m)::GV s.heap [k,L.ns]):=λp t=>by
  rcases Zb (t)with rfl|t
  ·show⟨T,R j.2.1,ady _⟩
  ·show yB (.tail _ (.head _)) p t
 show set_plain Y I E.sa (osa_dict (fr0 N) N0 Y I rfl E.po (by unfold takerIn;show c2.symm▸ ?_;rfl) E.hd S (λuu h=>(Yl h).elim) (λp t=>?_)
  (putName_dict _ _ _ _ _ _) rfl (Zh (r9 _ _ _ _ G) (by show B.len.symm▸ ?_;lia)) λh' F' W=>?_)
 ·intro z;show((dK.mp t).1) (by show z.symm▸ ?_;show .head _)
 ·have w:∀x o,x≠L.ns->x≠k->s.heap.get? x=some o->h'.get? x=some o:=λx o M b H=>
   (W (x,o) (Xl _ (.tail _ (dK.mpr ⟨by simp[M,b],H⟩)))).1
  have b:=(W (k,_) (Xl _ (.head _))).1;have f:=r.off a (ay i a ft e (by rw[Z];show .head _));show zA (r.change (o':=.inst C (put n v d)) (ft':=ft) (tk:=s.toks+1+1) (YB _) e
   (λx o M H P=>w x o M (λz=>P (by(rw[Z];show z▸ ?_);show .tail _ (.head _))) H) (λx P=>.inl P)
   (λx P=>by
    replace P:=Z▸P;rcases Zb P with rfl|P
    ·show(yE _ (w _ _ (R f.2.1) D U))
    ·show(Za P)▸(yE _ b))
   (r.loc.via F'.ns hm λy hy q o e=>w y o q (λz=>j.2.1 (z▸hy)) e)
   (aM k _ _ Z D (w _ _ (R f.2.1) D U) b ((ab2 hw B).mono (ze ft e)))) λr1 x1=>?_
  show hQ _ _ x1 r1
def cQ(h:AU o=true)(n:Wu)(env:Env)(t:Sem Wv):attributeBase o n env t=t:=by
 cases o with
 |Call f U z pos=>
  cases f with
  |Name x q=>
   cases U with
   |nil=>cases z with
    |nil=>
     change(if(x !="super"||_||_||_)=true then(do return←t)else _)=t;rw[show(x !="super")=true from h,Zk rfl]
    |cons _ _=>rfl
   |cons _ _=>rfl
  |_=>first|rfl|cases h
 |_=>first|rfl|cases h
variable {f:Fm}{d:Nat}
def abY(t:K.In c.base)(Y:FX c K g)(E:AU e=true)(q:c.nm n=nm)(h:SE c g f d x e):SE c g f d (.Bb x n) (.Attribute e nm pos):=by
 intro O J s A k Q r w o C;rw[arm_eval_Attribute,cQ E, ←q];show Zn (h O J s A _ _ r w o λZ p l v a i U F m=>Zn (Yz (Zn (ZY (sA t Y U F m λj z P u b N D B m=>Zn (wpAny_letTemporaryGo (ZE (C j z P u b (i.trans r U N) D B m))))))))
def SL(c:Cx)(g:G)(f:Fm)(d:Nat)(x:X)(y:List WE):Prop:=
 ∀O J s A (k:TA->TF) (Q:TN->Ww->Prop) pos,Rel c O f.L J s->Ay f.L d A->SU g x J k->
  (∀l a j Z u,Ext false f.L O s l j->Rel c l f.L a j->Cw c.Aa c.w l Z u->k u a->Q Z j)->wpAny (model c.Aa c.w) A (spliced (backTo pos (starEach y f.env))) Q Bl s
def eE(h:BU e=true)(y:List WE)(env:Env):starEach (e::y) env=(false,eval e env)::starEach y env:=by
 obtain⟨⟩:=e<;>first|rfl|cases h
def abK:SL c g f d .nil []:=by
 intro O J s A k Q pos r l N j;show wpAny_items_nil (j O J s [] [] (.refl _ _ _ _) r .nil N)
def ye(t:BU e=true)(h:SE c g f d x e)(w:SL c g f d y es):SL c g f d (.cons x y) (e::es):=by
 intro O J s A k Q pos r p o B;rw[eE t];show Zn (h O J s A _ _ r p o λZ b l v a i U C n=>Zn (ZE (Zn (ZY (w Z b l A _ _ pos U p n λj z P q u N D m n=>ZE (B j z P (v::q) (a::u) (i.trans r U N) D (.cons (C.mono N.le) m) n))))))
def ab3{O:Gh}:∀ {U:TO} {l:TG},RD c.Aa c.w O U y->G2 y=some l->Eh c.Aa c.w O.F U l:=by
 induction y with
 |nil=>
  intro U l Sh h;cases Sh;obtain rfl:=Zf h;show .nil
 |cons e y Q=>
  intro U l Sh h;cases Sh with
  |cons N D=>
   show aA (ax h) λf a h=>?_;show aA (aZ h) λu Z P=>?_;clear h;subst P;obtain rfl:=f7 a;show .cons N (Q D Z)
def jb{O:Gh}(r:Rel c O L J s)(B:RV c.Aa c.w O v x)(h:HS J.H x=some p):
  ∃b,Ext false L O s b s/\Rel c b L (As J p.2) s/\RF c.Aa c.w b.F v p.1:=by
 induction x using V.casesOn with
 |c f=>obtain rfl:=Zf h;show(ck O (.refl _ _ _ _) r B)
 |st _=>show aw h
 |E9 _ _=>show aw h
 |ob i=>
  show aX B λa ft e k=>?_;clear B;subst k;show aA (ax h) λo q h=>?_;have Q:=r.ob e q;induction o using AO.casesOn with
  |Av f=>obtain rfl:=Zf h;show(ck O (.refl _ _ _ _) r Q.2)
  |lst l=>
   obtain rfl:=Zf h;show bI Q λz o Z U N D A=>?_;clear Q;subst z;show bM (r.freeze e U λP w m=>.lst m N (Ba.mono w.F D) A) λP u t j=>(ck P t u j)
  |An y=>
   show aA (aZ h) λl E n=>?_;clear h;subst n;show bQ Q λz o G U F N D A=>?_;clear Q;subst z;have C:=ab3 D E;show bM (r.freeze e U λP w m=>.An m F N (Eh.mono w.F C) (by rw[←C.len,D.len];show A)) λP u t j=>(ck P t u j)
  |_=>show aw h
def mI(h:HS H x=some p)(hi:Sx i H=some (.An l))(a:G2 l=none):Sx i p.2=some (.An l):=by
 induction x using V.casesOn with
 |c f=>obtain rfl:=Zf h;show hi
 |st _=>show aw h
 |E9 _ _=>show aw h
 |ob j=>
  show aA (ax h) λo q h=>?_;induction o using AO.casesOn with
  |Av f=>obtain rfl:=Zf h;show hi
  |lst u=>
   obtain rfl:=Zf h;rw[ao];by_cases z:i=j
   ·replace hi:=z▸hi;replace hi:=q▸hi;show aw (T3 FJ hi.symm)
   ·show(Zi z).trans hi
  |An u=>
   show aA (aZ h) λA U P=>?_;clear h;subst P;rw[ao];by_cases z:i=j
   ·replace hi:=z▸hi;replace hi:=q▸hi;cases hi;replace U:=a▸U;show aw U
   ·show(Zi z).trans hi
  |_=>show aw h
def kO:∀ {l:TG} {H:Tx} {p:TG×Tx},G2 y=some l->HR y H=some p->p.2=H:=by
 induction y with
 |nil=>intro l H p _ h;obtain rfl:=Zf h;rfl
 |cons e y Q=>
  intro l H p u h;show aA (ax u) λf U b=>aA (aZ b) λm Z i=>aA (ax h) λq D a=>?_;show aA (aZ a) λz N P=>?_;clear h a;subst P;obtain⟨k,v⟩:=e;obtain rfl:=f7 U;obtain rfl:=Zf D;show Q (p:=z) Z N
def om:∀ {J:St} {p:TG×Tx} {O:Gh} {U:TO},Rel c O L J s->RD c.Aa c.w O U y->HR y J.H=some p->
  ∃a,Ext false L O s a s/\Rel c a L (As J p.2) s/\Eh c.Aa c.w a.F U p.1/\(∀i l,Sx i J.H=some (.An l)->G2 l=none->Sx i p.2=some (.An l)):=by
 induction y with
 |nil=>
  intro J p O U rel Sh h;cases Sh;obtain rfl:=Zf h;show(aY O (.refl _ _ _ _) rel .nil λZ Z e Z=>e)
 |cons e y r=>
  intro J p O U rel Sh h;cases Sh with
  |cons N D=>
   show aA (ax h) λq k h=>?_;show aA (aZ h) λz o P=>?_;clear h;subst P;show bM (jb rel N k) λg1 n j Q=>bO (r j (D.mono n.le) o) λg2 m A b k2=>(aY g2 (n.trans rel j m) A (.cons (RF.mono m.le.F Q) b) λi l hi u=>k2 i l (mI k hi u) u)
def eI{O:Gh}(r:Rel c O L J s)(N:RV c.Aa c.w O v x)(h:Av J.H x=some p):
  ∃b,Ext false L O s b s/\Rel c b L (As J p.2) s/\RF c.Aa c.w b.F v p.1:=by
 induction x using V.casesOn with
 |c f=>show jb r N h
 |st _=>show aw h
 |E9 _ _=>show aw h
 |ob i=>
  show aA (ax h) λo q k=>?_;induction o using AO.casesOn with
  |Av f=>show jb r N ((T3 (λo=>Af o _) q).trans k)
  |lst l=>show jb r N ((T3 (λo=>Af o _) q).trans k)
  |inst=>show aw k
  |An n=>
   show aA (aZ k) λz U P=>?_;obtain⟨rr,j⟩:=z;clear h k;subst P;show aX N λa ft e m=>?_;clear N;subst m;show bQ (r.ob e q) λF o Y S T G C I=>bO (om r C U) λg1 B D Q A=>?_;have A:Sx i j=some (.An n):=by
    cases t:G2 n with
    |none=>show A i n q t
    |some l=>
     rw[show j=J.H from kO t U];show q
   show bA (D.obs i _ A) λa2 ft2 Z y uu=>zE (B.le.f e) λH E=>?_;replace Z:=E▸Z;cases Z;subst y;show bM (D.freeze E S λw X M=>.An M T G (Eh.mono X.F Q) (by rw[←Q.len,C.len];show I)) λw u W R=>(ck w (B.trans r D W) u R)
def oj:∀ {J:St} {p:Tz×Tx} {O:Gh} {Z:TN},Rel c O L J s->Cw c.Aa c.w O Z u->Ja u J.H=some p->
  ∃l,Ext false L O s l s/\Rel c l L (As J p.2) s/\Ba c.Aa c.w l.F Z p.1:=by
 induction u with
 |nil=>
  intro J p O Z rel Sh h;cases Sh;obtain rfl:=Zf h;show(ck O (.refl _ _ _ _) rel .nil)
 |cons x u i=>
  intro J p O Z rel Sh h;obtain⟨v,t,rfl,N,D⟩:=Sh.inv;show aA (ax h) λq U h=>?_;show aA (aZ h) λz e P=>?_;clear h;subst P;show bM (eI rel N U) λg1 b j Q=>bM (i j (D.mono b.le) e) λg2 a A y=>(ck g2 (b.trans rel j a) A (.cons (RF.mono a.le.F Q) y))
def bz{n m:Nat}(h:ble n m=true):n<=m:=ZQ h
def abL(h:SL c g f d x v):SE c g f d (.tup x) (.Tuple v j pos):=by
 intro O J s A k Q r n N p;show wpAny_Tuple (h O J s A _ _ pos r n N λZ b l q t z U y D=>?_);obtain⟨i,a,D⟩:=ak D;show bM (oj U y a) λg2 m r2 e=>zA (qL D) λu D=>?_
 ·have u:=bz u;show⟨by rw[e.len,YE];lia,?_⟩;show zA (r2.m8 rfl) λo P=>p _ _ _ _ (.c (.tup i.1)) ((z.trans r U m).trans r r2 P) o (dq (.tup ?_ ⟨0,rfl⟩ (Ba.mono P.le.F e) (by lia))) D;change(if l.heap.objs.size=l.heap.objs.size then _ else _)=_;rw[Zk rfl]
def abT(h:SL c g f d x v):SE c g f d (.lst x) (.List v pos):=by
 intro O J s A k Q r n N p;show wpAny_List (h O J s A _ _ pos r n N λZ U l i q z a y D=>?_);obtain⟨e,b,D⟩:=ak D;show bM (oj a y b) λg2 m r2 j=>zA (qL D) λu D=>?_
 ·have u:=bz u;show⟨by rw[j.len,YE];lia,?_⟩;show zA (r2.alloc (o':=.lst e.1) rfl
   ⟨rfl,bG _ i (ZL _ rfl) (yE 0 rfl) j (by lia)⟩) λo P=>?_
  show p _ _ _ _ (.ob U.m) ((z.trans r a m).trans r r2 P) o (aU l.heap.objs.size [l.heap.objs.size] ?_ rfl) D;change(if U.m=U.m then _ else _)=_;rw[Zk rfl]
def RD.stored(a:RV c.Aa c.w O u x)(h:RD c.Aa c.w O U l)(j:(U.map (·.1)).Nodup):
  RD c.Aa c.w O (stored U (CH k) u) (Gu k x l):=by
 induction h with
 |nil=>show .cons a .nil
 | @cons v Z P y l N D Q=>
  replace j:=Ye▸j;replace j:=(propext List.nodup_cons)▸j;change RD _ _ _ _ (Bool.rec ((P,y)::Gu k x l) ((P,x)::l) (Cn k P):TH);rw[aE];by_cases z:k=P
  ·subst z;unfold PySem.stored;rw[Zk (by simp),Ye,Zk rfl,map_store_of_not_mem Z (CH k) u j.1];simp only[decide_true];show .cons a D
  ·have A:=λe=>z (eG e).symm;have e:PySem.stored ((CH P,v)::Z) (CH k) u=(CH P,v)::PySem.stored Z (CH k) u:=by
    unfold PySem.stored;rw[List.any_cons,Zs A,Bool.false_or];split
    ·rw[Ye,Zi A]
    ·rfl
   simp only[z,decide_false];rw[e];show .cons N (Q j.2)
def i4{k:Wu}(h:(U.map (·.1)).Nodup):((PySem.stored U k v).map (·.1)).Nodup:=by
 unfold PySem.stored;split
 ·have:(U.map λu=>if u.1=k then(u.1,v)else u).map (·.1)=U.map (·.1):=by
   rw[Y9];show List.map_congr_left λx Z=>?_;change(if x.1=k then(x.1,v)else x).1=x.1;split<;>rfl
  rw[this];show h
 ·rename_i m;rw[Z7,propext List.nodup_append];show⟨h,by show kwDistinct_nodup rfl,λa Q b i=>?_⟩;obtain rfl:b=k:=by simpa using i
  intro e;clear i;subst e;show aA (Y3.mp Q) λp j P=>?_;subst P;show m (Wm.mpr (aO p j (of_decide_eq_self_eq_true p.fst)))
def RD.merged(h:RD c.Aa c.w O more y):∀ {kvs:TO} {l:TH},RD c.Aa c.w O kvs l->(kvs.map (·.1)).Nodup->
  RD c.Aa c.w O (merged kvs more) (y.foldl (λa p=>Gu p.1 p.2 a) l)/\((merged kvs more).map (·.1)).Nodup:=by
 induction h with
 |nil=>intro kvs l h j;show⟨h,j⟩
 | @cons v Z k x y N D Q=>
  intro kvs l h j;show Q (h.stored N j) (i4 j)
def Rel.push(r:Rel c O L J s)(o:Obj):Rel c O L J {s with heap:=s.heap.push o}:=by
 have D:∀x N,s.heap.get? x=some N->(s.heap.push o).get? x=some N:=λx N e=>Zw _ e;show⟨λx N e=>D x N (r.Av x N e),λj N a=>?_,r.sep,λx P=>?_,r.nL,r.loc.step (.refl _ _) λx Z=>av (D x),r.new,r.DY,r.CZ,r.base,r.Lb,r.tk⟩
 ·show aX (r.obs j N a) λb l e Q=>(aU b l e (Q.step (.refl _ _) λx Z o A=>D x o A))
 ·show cV (r.off x P) λu v N w=>⟨u,v,yE N (D x N w)⟩
def Ext.push(o:Obj):Ext false L O s O {s with heap:=s.heap.push o}:=
 ⟨.refl _ _,λZ Z e Z Z=>Zw _ e,.of λZ Z Z e=>Zw _ e,λZ h=>.inl h,λZ Z h=>.inl h,GK.refl _,rfl,rfl⟩
def Rel.adopt(r:Rel c O L J s){tk:Nat}(W:0<tk)(Y:∃o,s.heap.get? D=some o)(E:O.F D=none)(F:¬L.CN D)(I:¬AD O D)(R:Heap.SameBut D s.heap h')(t:∃o,h'.get? D=some o)
  (X:RO c.Aa c.w c.nm (O.at J.m (D,[D])) h' D [D] o'):
  Rel c (O.at J.m (D,[D])) L ⟨J.L,(J.m,o')::J.H,J.m+1,J.vl⟩ {s with heap:=h',toks:=tk}/\Le false O (O.at J.m (D,[D]))/\
   (∀x o,s.heap.get? x=some o->x≠D->h'.get? x=some o):=by
 have M:∀ {j:Nat} {p:WD×List WD},O.φ j=some p->j≠J.m:=λe q=>by rw[q,r.new J.m (Zq _)]at e;show aw e
 have C:Le false O (O.at J.m (D,[D])):=⟨λG G e=>e,λj b l e G=>(yE l ((Gh.bc (M e)).trans e))⟩
 have m:∀x N,s.heap.get? x=some N->x≠D->h'.get? x=some N:=λx N e q=>(R.2 x q).trans e;have U:∀ {j:Nat} {b:WD} {l:List WD},O.φ j=some (b,l)->∀x∈l,x≠D:=λe x i q=>I (ay _ _ _ e (q▸i));show⟨⟨λx N e=>m x N (r.Av x N e) λq=>?_,λj N Q=>?_,λj k b l d fd Q y n x a h=>?_,λx B=>?_,r.nL,?_,λj Q=>?_,Y4 r.DY,λj p Q Z=>?_,r.base,r.Lb,W⟩,C,m⟩
 ·have e:O.F x=some N:=e;rw[q,E]at e;show aw e
 ·have P:=Q;rw[aq]at P;by_cases q:j=J.m
  ·rw[Zk q]at P;clear Q;obtain rfl:=Zf P;show(aU _ _ (by show q▸ ?_;show Gh.bf) X)
  ·rw[Zi q]at P;show aX (r.obs j N P) λb l e V=>(aU b l ((Gh.bc (q)).trans e) (V.step C λx i o T=>m x o T (U e x i)))
 ·by_cases q:j=J.m<;>by_cases A:k=J.m
  ·show n (q.trans A.symm)
  ·have S:=Gh.bf.symm.trans (q▸Q);cases S;show U (show O.φ k=some (d,fd) from(Gh.bc A).symm.trans y) x h (Za a)
  ·have H:some (D,[D])=some (d,fd):=Gh.bf.symm.trans (A▸y);cases H;show U (show O.φ j=some (b,l) from(Gh.bc q).symm.trans Q) x a (Za h)
  ·show r.sep j k b l d fd (show O.φ j=some (b,l) from(Gh.bc q).symm.trans Q) (show O.φ k=some (d,fd) from(Gh.bc A).symm.trans y) n x a h
 ·rcases B.at_ with z|⟨j,b,l,_,e,z⟩
  ·show(Za z).symm▸⟨E,F,t⟩
  ·show cV (r.off x (ay j b l e z)) λu v o w=>⟨u,v,yE o (m x o w (U e x z))⟩
 ·show r.loc.step C λx i=>av λo e=>m x o e λq=>F (q▸i)
 ·change(if j=J.m then _ else O.φ j)=none;rw[Zi (show j≠J.m from Nat.ne_of_gt (Nat.lt_of_succ_le Q))];show r.new j (Yj Q)
 ·change∃o,Sx j ((J.m,o')::J.H)=some o;rw[aq];by_cases q:j=J.m
  ·show(yE o' (by rw[Zk q]))
  ·rw[Zi q];show r.CZ j p ((Gh.bc q).symm.trans Q) Z
end
inductive RP (pG:WA) (w:Wy) (g:Gh):List (Wv×Wv)->TA->Prop
 |nil:RP pG w g [] []
 |cons {k v:Wv} {ps:List (Wv×Wv)} {a b:V} {xs:TA}:RV pG w g k a->RV pG w g v b->RP pG w g ps xs->RP pG w g ((k,v)::ps) (a::b::xs)
def qJ(h:HT (a::b::u)=some y):∃k r,a=.c (.str k)/\HT u=some r/\y=(k,b)::r:=by
 show aA (ax (f:=λf=>Af (aS f) λk=>BK (HT u) λr=>(k,b)::r) h) λf e h=>aA (ax h) λk U h=>aA (aZ h) λr Z h=>(a8 k r ((f7 e).trans (T3 V.c (qP U))) Z h.symm)
def RP.xB{N:WA}(h:RP N w g D u):∀ {y:TH},HT u=some y->
  ∃U,Carries (PySem.strKind N w) D U/\RD N w g U y:=by
 induction h with
 |nil=>intro y h;obtain rfl:=Zf h;show(aO [] trivial .nil)
 | @cons k v D a b u Q m o n=>
  intro y h;show bA (qJ h) λk r P e j=>?_;clear h;subst P j;show aA (n e) λU Z i=>?_;obtain⟨t,rfl,_⟩:=RF.x Q;show(aO ((CH k,v)::U) ⟨fU k t,rfl,Z⟩ (.cons m i))
section
variable {c:Cx}{g:G}{K:Frag}{f:Fm}{d:Nat}
def SP(c:Cx)(g:G)(f:Fm)(d:Nat)(x:X)(y:List (Option WE))(a:List WE):Prop:=
 ∀O J s A (k:TA->TF) (Q:List (Wv×Wv)->Ww->Prop) pos,Rel c O f.L J s->Ay f.L d A->SU g x J k->
  (∀l Z j D u,Ext false f.L O s l j->Rel c l f.L Z j->RP c.Aa c.w l D u->k u Z->Q D j)->wpAny (model c.Aa c.w) A (evalPairs (pairTrees y a f.env pos)) Q Bl s
def abJ:SP c g f d .nil [] []:=by
 intro O J s A k Q pos r l N j;show ZE (j O J s [] [] (.refl _ _ _ _) r .nil N)
def yb(h:SE c g f d x e)(H:SE c g f d y e')(C:SP c g f d z ks vs):SP c g f d (.cons x (.cons y z)) (some e::ks) (e'::vs):=by
 intro O J s A k Q pos r E G M;show Zn (h O J s A _ _ r E G λm o l u a w i I p=>Zn (ZY (Zn (H m o l A _ _ i E p λj n P v b N D R p=>Zn (Yz (ZE (Zn (ZY (C j n P A _ _ pos D E p λZ t q S L U B F p=>ZE ?_)))))))));show M Z t q _ (a::b::L) ((w.trans r i N).trans r D U) B (.cons (I.mono (N.trans i D U).le) (R.mono U.le) F) p
def abV(v:y.all (·.isSome)=true)(H:y.length=vs.length)(h0:y≠[])(u:y.length<=15)(h:SP c g f d x y vs):
  SE c g f d (.An x) (.Dict y vs pos):=by
 intro O J s A k Q r rm hev hp;have G:s.heap.get? s.heap.objs.size=none:=aF (Zq _);have B:(s.heap.push emptyDict).get? s.heap.objs.size=some emptyDict:=ZL _ rfl;show cu (r.free G) λV E p=>wpAny_Dict_any v H h0 u (ZT (wpAny_evalPairs_len (h O J _ A _ _ pos (r.push emptyDict) rm hev λZ U m R xs a i t D=>(cg Z U xs a i t D))) (λR m hh=>?_) λF F z=>z);obtain⟨N,Z,U,xs,a,i,t,D⟩:=hh;rw[pairTrees_length y vs f.env pos v H]at N;obtain⟨es,T,D⟩:=ak D;show aA (t.xB T) λn cc Sh=>?_;have P:=a.keep _ _ B (λz=>E z.has) p;have W:Z.F s.heap.objs.size=none:=by
  cases q:Z.F s.heap.objs.size with
  |none=>rfl
  |some o=>
   rcases a.fF _ o q with z|z|z
   ·rw[V]at z;show aw z
   ·show(p z).elim
   ·replace z:=B▸z;cases z
 have hf1:¬AD Z s.heap.objs.size:=λz=>by
  rcases a.fp _ z with z|z
  ·show p z
  ·replace z:=B▸z;cases z
 have hkl:n.length<=15:=by rw[cc.length,N];show u
 show wpAny_storeAll (knd:=PySem.strKind c.Aa c.w) R n [] m _ cc (show m.heap.DictOf (PySem.strKind c.Aa c.w) s.heap.objs.size [] from(cF emptyDict (#[]) 0 P ⟨rfl,rfl,rfl⟩ rfl (λF he=>by simp at he) .nil List.nodup_nil)) (by rw[YE];simp;lia) λh' hm' M=>aA (Di.of hm') λo C hio=>zA (Sh.merged (kvs:=[]) (l:=[]) .nil List.nodup_nil) λm1 m2=>?_;have hml:(Nu es).length<=16777216:=by
  have e1:=m1.len;have e2:=merged_length_le ([]:TO) n;unfold Nu;simp only[ZW]at e2;show Zh (Zz e1.symm) (Zh e2 (Zh (Zz (Wb _)) (Zh hkl (by ext))))
 have L:Le false Z (Z.at U.m (s.heap.objs.size,[s.heap.objs.size])):=⟨λF F e=>e,λj b S e F=>(yE S (by
  have:j≠U.m:=λq=>by rw[q,i.new U.m (Zq _)]at e;show aw e
  show(Gh.bc (this)).trans e))⟩
 have Y:s.heap.objs.size≠sysModules:=by
  show zE r.dT λo hL=>?_;show Nat.ne_of_gt (ZJ (ZJ (by decide:1<2) c.G5) (Zh r.Lb (Yo (Yk hL))))
 show cu (i.adopt (o':=.An (Nu es)) (tk:=m.toks+R.length) (ZJ i.tk (ZR _ _)) (yE _ P) W E hf1 M (yE o C) ⟨rfl,bj o _ C Y hio (m1.mono L) hml⟩) λr2 l2 k2=>hp _ _ _ (.ref s.heap.objs.size) (.ob U.m) ⟨a.le.trans l2,λx o e H hn=>?_,λx I o e=>?_,λx I=>?_,λx o e=>?_,a.gens,a.os,a.drawn⟩ r2 (aU s.heap.objs.size [s.heap.objs.size] ?_ rfl) D
 ·show k2 x o (a.keep x o (Zw _ e) H hn) λz=>?_;rw[z,G]at e;show aw e
 ·show aA (a.EN x I o (Zw _ e)) λo' e' sl=>?_;show(aO o' (k2 x o' e' λz=>(by rw[z,G]at e;show aw e)) sl)
 ·rcases I.at_ with z|⟨j,b,S,_,e,z⟩
  ·rw[Za z];show .inr G
  ·rcases a.fp x (ay j b S e z)with w|w
   ·show .inl w
   ·show .inr (c9 (λo C=>(yE o (Zw _ C))) w)
 ·rcases a.fF x o e with w|w|w
  ·show .inl w
  ·show .inr (.inl w)
  ·show .inr (.inr (c9 (λo C=>(yE o (Zw _ C))) w))
 ·change(if U.m=U.m then _ else _)=_;rw[Zk rfl]
def RL(N:WA)(w:Wy)(g:Gh)(a:Flow)(b:Fl):Prop:=
 Fl.casesOn (motive:=λZ=>Prop) b (a=.next) (a=.brk) (a=.cont) λx=>∃v,a=.ret v/\RV N w g v x
variable {p:CP}{Sy:TP}{mg mb:Wu->TM}
def FW(c:Cx)(L:Loc)(O:Gh)(s:Ww)(k:TB)(Q:Flow->Ww->Prop):Prop:=
 ∀l Z j a b,Ext L.vl L O s l j->Rel c l L Z j->RL c.Aa c.w l a b->k b Z->Q a j
def SS(c:Cx)(g:G)(f:Fm)(d:Nat)(x:S)(st:WG):Prop:=
 ∀O J s A k Q,Rel c O f.L J s->Ay f.L d A->ex g x J k->FW c f.L O s k Q->wpAny (model c.Aa c.w) A (exec st f.env) Q Bl s
def SB(c:Cx)(g:G)(f:Fm)(d:Nat)(x:S)(l:List WG):Prop:=
 ∀O J s A k Q,Rel c O f.L J s->Ay f.L d A->ex g x J k->FW c f.L O s k Q->wpAny (model c.Aa c.w) A (execs l f.env) Q Bl s
def xS:SS c g f d .skip (.Pass pos):=by
 intro O J s A k Q r l N j;show wpAny_Pass (j O J s .next .AZ (.refl _ _ _ _) r rfl N)
def abI:SS c g f d .brk (.Break pos):=by
 intro O J s A k Q r l N j;show wpAny_Break (j O J s .brk .brk (.refl _ _ _ _) r rfl N)
def xT:SS c g f d .cont (.Continue pos):=by
 intro O J s A k Q r l N j;show wpAny_Continue (j O J s .cont .cnt (.refl _ _ _ _) r rfl N)
def abG(h:SE c g f d x e):SS c g f d (.ret x) (.Return (some e) pos):=by
 intro O J s A k Q r m N j;show wpAny_Return_some (h O J s A _ _ r m N λZ b l v a z U i D=>j Z b l (.ret v) (.ret a) z.w U (aO v rfl i) D)
def xR:SS c g f d (.ret (.k .Ak)) (.Return none pos):=by
 intro O J s A k Q r l N j;show wpAny_Return_none (j O J s (.ret .none) (.ret (.c .Ak)) (.refl _ _ _ _) r (aO _ rfl (dq .Ak)) N)
def adn(f:Fm):interactive f.env=false:=by
 change((f.cs.kind== .module)&&_)=false;show f.kind▸ ?_;rfl
def zB(h:Ci e=false)(n:Nat)(env:Env):swapsWith e none n env=pure false:=by
 obtain⟨⟩:=e<;>first|rfl|cases h
def eZ(h:Ci e=false)(t:WE)(n:Nat)(env:Env):swapsWith e (some t) n env=pure false:=by
 obtain⟨⟩:=e<;>first|rfl|cases h
def aeI(u:Ci e=false)(h:SE c g f d x e):SS c g f d (.ex x) (.Expr e pos):=by
 intro O J s A k Q r i N j;show wpAny_Expr_any (h O J s A _ _ r i N λZ b l v a z U m D=>j Z b l .next .AZ z.w U rfl D) (adn f) (zB u _ _)
def Hu(f:Fm)(x:Wu):Prop:=f.own=true/\BH f.cs x=true\/Fn f.cs x=true
def Hu.loc(h:Hu f x):BH f.cs x=true:=h.elim And.right λh=>by unfold BH;rw[h];rfl
def cN(Y:Ctx c K p Sy mg mb){O:Gh}(hl:Hu f x)(B:p.code x=some n)(r:Rel c O f.L J s)(hv:RV c.Aa c.w O v a)
  (hQ:∀j,Ext false f.L O s O j->Rel c O f.L (Bw J (put n a J.L)) j->Q () j):wpAny (model c.Aa c.w) A (storeName f.env x v) Q Bl s:=by
 show zA (Y.code x n B) λH uu=>?_;subst H;show aA r.loc.nm λm N X=>?_;have E:∀ {C:WH} {G:Wu->TM} {w:Wv},f.L.Sh C G (c.nm n) w->RV c.Aa c.w O w a->(∀l P,l≠n->Sx l J.L=some P->∃w,f.L.Sh C G (c.nm l) w/\RV c.Aa c.w O w P)->∀l P,Sx l (put n a J.L)=some P->∃w,f.L.Sh C G (c.nm l) w/\RV c.Aa c.w O w P:=λ{C G w} U Z R l P e=>by
  replace e:=(ao _ _ _ _)▸e;by_cases q:l=n
  ·replace e:=(Zk q)▸e;obtain rfl:=Zf e;show(aO w (q.symm▸U) Z)
  ·replace e:=(Zi q)▸e;show R l P q e
 rcases kE hl.loc with ⟨D,hn⟩|⟨b,D,U,Z⟩
 ·show wpAny_storeName_local D N (λC hN t=>?_) (by show f.kind▸ ?_;rfl);have kc:∀ {x:Wu} {b:WD} {u:TM},f.D0=some (x,b)->s.heap.IsCell b u->C.IsCell b u:=λ{x b u} e B=>by
   by_cases q:b=f.env.locals
   ·show cH N λo es T U d uu=>aA B λSo Z k=>?_;replace Z:=q▸Z;cases U.symm.trans Z;replace k:=d▸k;cases k
   ·show bF B (av λo e=>(t.2 b q).trans e)
  show zA (r.store (tk:=s.toks+1) (YB _) (.inl (.head _)) t r.loc.nu
   ⟨aO _ hN (E (.inr ⟨hn,Zk rfl⟩) hv λl P q e=>(X l P e).elim λw h=>(aO w (h.1.imp (λ⟨b,U,Z⟩=>(aO b U (kc U Z))) λ⟨U,Z⟩=>⟨U,(Zi λz=>q (c.inj _ _ z)).trans Z⟩) h.2)),
    λx b e=>(r.loc.cell x b e).elim λu i=>(yE u (kc e i)),λu i=>(r.loc.up u i).step (av λo e=>(t.2 u λz:u=f.L.ns=>r.loc.nu (z▸i)).trans e),r.loc.nu⟩) λM S=>?_
  show hQ _ S M
 ·have R:f.own=true:=by
   rcases hl with h|h
   ·show h.1
   ·have L:f.cs.names.lookup (c.nm n)=some .cell:=D;replace L:=(cz h)▸L;cases L
  show zE (r.loc.cell _ b U) λu i=>wpAny_storeName_cell f.kind D Z i λC B t=>?_;have I:b≠f.env.locals:=λq=>by
   show cH N λo es T U d uu=>aA i λSo Z k=>?_;replace Z:=q▸Z;cases U.symm.trans Z;replace k:=d▸k;cases k
  have W:∀l y,l≠n->f.L.D0≠some (c.nm l,y):=λl y q e=>q (c.inj _ _ (T3 Prod.fst (Zf (e.symm.trans U))));have F:b∉f.up:=λq=>by
   show bC (r.loc.up b q) λo es T U d=>aA i λSo Z k=>?_;cases U.symm.trans Z;replace k:=d▸k;cases k
  show zA (r.store (n:=n) (v:=a) (tk:=s.toks) r.tk (.inr ⟨R,yE _ U⟩) t F
   ⟨aO m (fw N (av λo e=>(t.2 _ I.symm).trans e)) (E (.inl (aO b U B)) hv λl P q e=>(X l P e).elim λw h=>(aO w (.inr ⟨λy e=>W l y q e,h.1.elim (λ⟨y,z,_⟩=>(W l y q z).elim) And.right⟩) h.2)),
    λx y e=>by cases U.symm.trans e;show(yE _ B),λu i=>(r.loc.up u i).step (av λo e=>(t.2 u λz=>F (z▸i)).trans e),r.loc.nu⟩) λM S=>?_
  show hQ _ S M
def x9(Y:Ctx c K p Sy mg mb)(u:Ci e=false)(m:Hu f nm)(q:p.code nm=some n)(h:SE c g f d x e):
  SS c g f d (.Aj n x) (.Assign [.Name nm P] e pos):=by
 intro O J s A k Q r B b j;show wpAny_Assign_Name (h O J s A _ _ r B b λZ i l v a z U w t=>?_) (eZ u _ _ _);show cN Y m q U w λo N D=>j Z _ o .next .AZ (z.trans r U N).w D rfl t
def abH(C:ST c g f d t e)(B:SB c g f d a as)(E:SB c g f d b bs):SS c g f d (.iff t a b) (.If e as bs pos):=by
 intro O J s A k Q r n q x;show wpAny_If (C O J s A (λy J=>S7 y (ex g a J k) (ex g b J k)) _ r n q λZ h l v m U i=>?_);have i:=mZ i;induction v using Bool.casesOn with
 |true=>show B Z h l A k Q U n i λj z P u w N D o i=>x j z P u w (m.trans r U N) D o i
 |false=>show E Z h l A k Q U n i λj z P u w N D o i=>x j z P u w (m.trans r U N) D o i
def ab0:SB c g f d .skip []:=by
 intro O J s A k Q r l N j;show X3 (j O J s .next .AZ (.refl _ _ _ _) r rfl N)
def yk{st:WG}(t:SS c g f d a st)(x:SB c g f d b y):SB c g f d (.seq a b) (st::y):=by
 intro O J s A k Q r q o n;show Xu (t O J s A _ _ r q o λZ e l u w z U h D=>?_);induction w using Fl.casesOn with
 |AZ=>
  subst h;show x Z e l A k Q U q D λj m P u w N i h D=>n j m P u w (z.trans r U N).vv i h D
 |brk=>subst h;show n Z e l .brk .brk z U rfl D
 |cnt=>subst h;show n Z e l .cont .cnt z U rfl D
 |ret a=>obtain⟨v,rfl,h⟩:=h;show n Z e l (.ret v) (.ret a) z U (aO v rfl h) D
def xX(h:ST c g f d t e):SS c g f d (.Mh t) (.Assert e none pos):=by
 intro O J s A k Q r i N j;show wpAny_Assert_holds (h O J s A (λy J=>S7 y (k .AZ J) False) _ r i N λZ a l v z U D=>?_);show zA (qL D) λb D=>?_;subst b;show⟨rfl,j Z a l .next .AZ z.w U rfl D⟩
variable {α:Type}
def ux(n:Nat)(p:Nat×α)(l:List (Nat×α)):DK n (p::l)=if n=p.1 then DK n l else p::DK n l:=by
 change(Bool.rec (p::DK n l) (DK n l) (beq n p.1):List (Nat×α))=_;by_cases h:n=p.1
 ·rw[Zk h,h,bW]
 ·rw[Zi h,bX h]
def dN(n m:Nat):∀l:List (Nat×α),Sx n (DK m l)=if n=m then none else Sx n l:=by
 intro l;induction l with
 |nil=>
  split<;>rfl
 |cons p l Q=>
  rw[ux];by_cases h:m=p.1
  ·rw[Zk h,Q];by_cases k:n=m
   ·rw[Zk k,Zk k]
   ·rw[Zi k,Zi k,aq,Zi (by show h▸ ?_;show k)]
  ·rw[Zi h,aq,Q,aq];by_cases k:n=p.1
   ·rw[Zk k,Zk k,Zi (by show k▸ ?_;show λe=>h e.symm)]
   ·rw[Zi k,Zi k]
variable {O:Gh}{L:Loc}{J:St}{s:Ww}
def Gh.IY(g:Gh)(i Q:Nat)(a:WD)(ft:List WD):Gh:=⟨g.F,λj=>if j=Q then some (a,ft)else if j=i then some (a,[])else g.φ j⟩
def jl{α:Type}(n:Nat)(o:α){H:List (Nat×α)}(h:Sx n H=none)(j:Nat):Sx j ((n,o)::H)=Sx j (H++[(n,o)]):=by
 induction H with
 |nil=>rfl
 |cons p H Q=>
  replace h:=(aq _ _ _)▸h;by_cases q:n=p.1
  ·replace h:=(Zk q)▸h;cases h
  ·replace h:=(Zi q)▸h;rw[aq j p, ←Q h,aq,aq,aq];by_cases a:j=n
   ·rw[Zk a,Zi λe=>q (a.symm.trans e),Zk a]
   ·rw[Zi a,Zi (a)]
def Rel.nO(r:Rel c O L (As J H) s)(e:∀i,Sx i H=Sx i Q):Rel c O L (As J Q) s:=
 ⟨r.Av,λi o h=>r.obs i o ((e i).trans h),r.sep,r.off,r.nL,r.loc,r.new,r.DY,λi p h Z=>(r.CZ i p h Z).elim λo q=>⟨o,(e i).symm.trans q⟩,r.base,r.Lb,r.tk⟩
def Rel.move(r:Rel c O L J s){ft:List WD}(hi:O.φ i=some (a,ft))(V:Sx i J.H=some o)(hc:Sx Q J.H=none)(h1:Q<64)(W:64<=i):
  Rel c (O.IY i Q a ft) L (As J ((Q,o)::DK i J.H)) s/\Ext false L O s (O.IY i Q a ft) s:=by
 have u:O.φ Q=none:=by
  cases q:O.φ Q with
  |none=>rfl
  |some p=>show zE (r.CZ Q p q h1) λo e=>?_;rw[hc]at e;show aw e
 have F:i≠Q:=λe=>by lia
 have w:(O.IY i Q a ft).φ Q=some (a,ft):=by simp[Gh.IY]
 have C:(O.IY i Q a ft).φ i=some (a,[]):=by simp[Gh.IY,F]
 have v:∀ {j:Nat},j≠i->j≠Q->(O.IY i Q a ft).φ j=O.φ j:=λ{j} q1 q2=>by simp[Gh.IY,q1,q2]
 have A:Le false O (O.IY i Q a ft):=⟨λZ Z e=>e,λj b l e Z=>by
  by_cases q1:j=i
  ·clear V W F w v;subst q1;replace e:=hi▸e;cases e;show(yE [] C)
  ·by_cases q2:j=Q
   ·rw[q2,u]at e;show aw e
   ·show(yE l (by rw[v q1 q2];show e))⟩
 have U:∀ {j:Nat} {b:WD} {l:List WD} {x:WD},(O.IY i Q a ft).φ j=some (b,l)->x∈l->(j=Q/\x∈ft)\/(j≠Q/\j≠i/\O.φ j=some (b,l)):=λ{j b l x} e n=>by
  by_cases q2:j=Q
  ·(rw[q2]at e;replace e:=w▸e);cases e;show .inl ⟨q2,n⟩
  ·by_cases q1:j=i
   ·(rw[q1]at e;replace e:=C▸e);cases e;cases n
   ·rw[v q1 q2]at e;show .inr ⟨q2,q1,e⟩
 have D:∀x,AD (O.IY i Q a ft) x->AD O x:=λx h=>by
  show bC h λj b l e n=>?_;rcases U e n with ⟨_,z⟩|⟨_,_,z⟩
  ·show(ay i a ft hi z)
  ·show(ay j b l z n)
 show⟨⟨r.Av,λj N m=>?_,λj k b l d fd m y E x t B=>?_,λx n=>r.off x (D x n),r.nL,?_,λj m=>?_,r.DY,λj p m R=>?_,r.base,r.Lb,r.tk⟩,
  ⟨A,λZ Z e Z Z=>e,.refl _ _,λx n=>.inl (D x n),λZ Z e=>.inl e,GK.refl _,rfl,rfl⟩⟩
 ·have P:Sx j ((Q,o)::DK i J.H)=some N:=m;rw[aq]at P;by_cases q2:j=Q
  ·rw[Zk q2]at P;clear m;obtain rfl:=Zf P;show aX (r.obs i o V) λa' ft' I M=>?_;replace I:=hi▸I;cases I;show(aU a ft (by show q2.symm▸ ?_;show w) (M.step A λZ Z Z e=>e))
  ·(replace P:=(Zi q2)▸P;rw[dN]at P)
   by_cases q1:j=i
   ·rw[Zk q1]at P;show aw P
   ·rw[Zi q1]at P;show aX (r.obs j N P) λb l e M=>(aU b l (by show(v q1 q2)▸ ?_;show e) (M.step A λZ Z Z e=>e))
 ·rcases U m t with ⟨S,H⟩|⟨S,y1,H⟩<;>rcases U y B with ⟨T,G⟩|⟨T,X,G⟩
  ·show E (S.trans T.symm)
  ·show r.sep i k a ft d fd hi G (λe=>X e.symm) x H B
  ·show r.sep j i b l a ft H hi y1 x t G
  ·show r.sep j k b l d fd H G E x t B
 ·show r.loc.step A λZ Z=>av λZ e=>e
 ·have q1:j≠i:=λe=>by have h3:=r.lt hi;have Y:J.m<=j:=m;lia
  have q2:j≠Q:=λe=>by have h3:=r.DY;have Y:J.m<=j:=m;lia
  show(v q1 q2)▸(r.new j m)
 ·change∃N,Sx j ((Q,o)::DK i J.H)=some N;rw[aq];by_cases q2:j=Q
  ·show(yE o (by rw[Zk q2]))
  ·rw[Zi q2,dN];have q1:j≠i:=λe=>by lia
   rw[Zi q1];show r.CZ j p (by rw[←v q1 q2];show m) R
def aak(m:n<64)(r:Rel c O L J s)(N:RV c.Aa c.w O v x)(h:QZ n x J k):
  ∃l b y,Ext false L O s l s/\Rel c l L b s/\RV c.Aa c.w l v y/\k y b:=by
 have A:k x J->∃l b y,Ext false L O s l s/\Rel c l L b s/\RV c.Aa c.w l v y/\k y b:=λh=>(cg O J x (.refl _ _ _ _) r N h)
 have h:Bool.rec (V.casesOn (motive:=λZ=>Prop) x (λZ=>k x J) (λi=>Bool.rec (k x J) (Ab (Sx i J.H) λo=>Option.rec (k (.ob n) (As J (DK i J.H++[(n,o)]))) (λZ=>False) (Sx n J.H)) (ble 64 i)) (λZ=>k x J) λZ Z=>k x J) (k x J) (beq n 0):=h;cases j:beq n 0 with
 |true=>rw[j]at h;show A h
 |false=>
  rw[j]at h;induction x using V.casesOn with
  |ob i=>
   have h:S7 (ble 64 i) (Ab (Sx i J.H) λo=>Option.rec (k (.ob n) (As J (DK i J.H++[(n,o)]))) (λZ=>False) (Sx n J.H)) (k (.ob i) J):=h;cases P:ble 64 i with
   |false=>rw[P]at h;show A h
   |true=>
    rw[P]at h;obtain⟨o,U,h⟩:=ak h;cases u:Sx n J.H with
    |some _=>rw[u]at h;show h.elim
    |none=>
     rw[u]at h;show aX N λa ft e z=>?_;clear N A;subst z;show zA (r.move e U u m (bz P)) λD q=>(cg _ _ (.ob n) q (D.nO (jl n o (by rw[dN,u];show ite_self _))) (aU a ft (Zk rfl) rfl) h)
  |_=>show A h
def aal(a:n<64)(r:Rel c O L J s)(N:RV c.Aa c.w O v x)(h:OP n x J k):
  ∃l Z y,Ext false L O s l s/\Rel c l L Z s/\RV c.Aa c.w l v y/\k y Z:=by
 unfold OP at h;cases P:beq n 63 with
 |false=>rw[P]at h;show aak a r N h
 |true=>
  rw[P]at h;obtain⟨q,u,D⟩:=ak h;show bM (eI r N u) λg2 z r2 j=>(cg g2 _ (.c q.1) z r2 j D)
def eH(G:K.In c.base)(Y:FX c K g)(u:∀n,g.canon n<64)(r:Rel c O L J s)(U:RV c.Aa c.w O ov ox)(I:RV c.Aa c.w O v x)
  (h:Cy g ox n x J k) (F:∀l Z j,Ext false L O s l j->Rel c l L Z j->k Z->Q () j):wpAny (model c.Aa c.w) A (setAttr ov (c.nm n) v) Q Bl s:=by
 obtain⟨i,N,h⟩:=ak h;obtain rfl:=lD N;show fg (aal (u n) r I h) λC M y t o b D=>?_;show aX (U.mono t.le) λa ft e z=>?_;clear U;subst z;obtain⟨p,q,D⟩:=ak D;show zA (qL D) λm D=>?_;rw[Zp]at m;show zA (Y.own p.1 n m.1) λE H=>aai G o e (uY q) E H b (bz m.2) λP w B r2=>F P _ w (t.trans r o B) r2 D
def ya(T:K.In c.base)(Y:FX c K g)(q:∀n,g.canon n<64)(R:Ci e=false)(M:c.nm n=nm)(h:SE c g f d x e)(S:SE c g f d y o):
  SS c g f d (.Bi y n x) (.Assign [.Attribute o nm P] e pos):=by
 intro O J s A k Q r I F W;show plainObj_wpAny_Assign_Attribute (h O J s A _ _ r I F λi m l v a z U hv t=>S i m l A _ _ U I t λE H G u b N D V t=>?_) (eZ R _ _ _);show M▸(eH T Y q D V (hv.mono N.le) t λZ B j w C t=>W Z B j .next .AZ ((z.trans r U N).trans r D w).w C rfl t)
def MH(c:Cx)(d:Nat)(L:Loc)(D:Operator)(o:Nat):Prop:=
 ∀O J s A k Q v u a b,Rel c O L J s->Ay L d A->RV c.Aa c.w O v a->RV c.Aa c.w O u b->Es o a b J k->B2 c L O s k Q->wpAny (model c.Aa c.w) A (inplaceOp D v u) Q Bl s
def xV(Y:Ctx c K p Sy mg mb)(L:Hu f nm)(H:p.code nm=some n)(hi:MH c d f.L op o)(h:SE c g f d x e):
  SS c g f d (.DI n o x) (.AugAssign (.Name nm P) op e pos):=by
 intro O J s A k Q r I i W;obtain⟨a,T,i⟩:=ak i;show aA r.loc.nm λm N R=>aA (R n a T) λu S M=>?_;show wpAny_AugAssign_Name (oF (O:=O) (J:=J) L.loc N (by rw[←((Y.code nm n H).1)];show S) (h O J s A _ _ r I i λZ q l v b z U hv E=>hi Z q l A _ _ u v a b U I (M.mono z.le) hv E λj G F w y C D hw E=>cN Y L H D hw λV t B=>W j _ V .next .AZ ((z.trans r U C).trans r D t).w B rfl E))
def xW(XK:K.In c.base)(Y:FX c K g)(F:∀n,g.canon n<64)(hn:c.nm n=nm)(hi:MH c d f.L op o)(h:SE c g f d x e)(h':SE c g f d y b):
  SS c g f d (.Gb y n o x) (.AugAssign (.Attribute b nm pos') op e pos):=by
 intro O J s A k Q r V hev hp;show hn▸(wpAny_AugAssign_AttributeAny (h' O J s A _ _ r V hev λW J₁ s₁ ov oa L U ho D=>sA XK Y U ho D λj E C u a S m hu D=>h j E C A _ _ m V D λZ l H v z t P hv D=>hi Z l H A _ _ u v a z P V (hu.mono t.le) hv D λT J₄ s₄ w y N q hw D=>?_));have i:=(S.trans U m t).trans U P N;show eH XK Y F q (ho.mono i.le) hw D λB G R M I D=>hp B G R .next .AZ ((L.trans r U i).trans r q M).w I rfl D
variable {A:Wz}
def vS{a:WD}{ft:List WD}(r:Rel c O L J s)(e:O.φ i=some (a,ft))(q:Sx i J.H=some (.An es))
  (G:RV c.Aa c.w O u v) (f:es.length<=900)
  (F:∀b j,Ext false L O s b j->Rel c b L (As J (put i (.An (Gu key v es)) J.H)) j->Q () j):wpAny (model c.Aa c.w) A (setItem (.ref a) (.str ⟨key.toArray⟩ t) u) Q Bl s:=by
 have B:=r.ob e q;show bQ B λh o U H I w D S=>?_;clear B;subst h;have C:(U.map (·.1)).Nodup:=by show dH w λZ Z Z Z Z Z z=>?_;show z
 show wpAny_setItem_pairs (fU key t) (w.at H) (λT d N=>?_) (by rw[D.len,YE];lia);show aA (Di.of d) λn l p=>?_;have Sh:=(D.stored (k:=key) G C)
 show zA (r.change (o':=.An (Gu key v es)) (tk:=s.toks+1) (YB _) e
  (λx o W m P=>(N.2 x λz=>P (by show z▸ ?_;show .head _)).trans m) (λx P=>.inl P)
  (λx P=>by show(Za P)▸ ?_;show(yE n l))
  (r.loc.step (.refl _ _) λy R=>av λo m=>(N.2 y λz=>(r.off a (ay i a [a] e (.head _))).2.1 (z▸R)).trans m)
  ⟨rfl,bj n _ l I p (Sh.mono (ze [a] e)) (by show Sh.len▸ ?_;have:=stored_length_le U (CH key) u;replace this:=D.len▸this;show Zh this (Zh (Z1 f) (by ext)))⟩) λE M=>?_
 show F _ _ M E
def yl:MH c d L .Sub 1:=by
 intro O J s A k Q v u a b r l i e h j;have h:=h;obtain⟨x,f,h⟩:=ak h;obtain⟨y,m,h⟩:=ak h;show bM (eM r i e f m) λF z U N=>wK (P:=λv u=>wpAny (model c.Aa c.w) A (inplaceOp .Sub v u) Q Bl s) U N h λZ Z Z Z h=>P.isub_int (j O J _ _ (.c (.int _)) (.toks _ _) r.dX (dq (.int _ _)) h)
def tJ:seqSlot? (.type "list") (dunderI "add")=pure (some (.builtin "list.__iadd__")):=PySem.seqSlot_of PySem.F.slot_list_iadd.lookup (by decide+kernel)
def qp:fillsInplaceSlot (.type "list") "add" (Operator.Add== .Add)=pure false:=by
 rw[PySem.F.slot_list_iadd.lookup];rfl
end
section
variable {pG:WA}{w:Wy}{A:Wz}{E:Wv->Ww->Prop}{s:Ww}
def mE(D:s.heap.get? l=some {cls:=.type "list",data:=.seq O n})(a:s.heap.get? b=some {cls:=.type "list",data:=.seq v n2})
  (P:O.size+v.size<=sizeLine) (h:Q (.ref l) {s with heap:=s.heap.update l (Obj.mapSeq λx=>x++v)}):wpAny (model pG w) A (inplaceOp .Add (.ref l) (.ref b)) Q E s:=by
 have d:s.TypeIs (.ref l) "list":=(aO _ D rfl)
 show ZY (Zn (wpAny_typeOf d (Zn (X7 qp ?_))));rw[Zi Bool.false_ne_true];show Zn (wpAny_binaryOp1_none d (show s.TypeIs (.ref b) "list" from(aO _ a rfl)) PySem.noFill_list_add (Zn (X7 tJ (Zn (wpAny_rule (call_meets PySem.F.slot_list_iadd d PySem.F.entry_list_iadd (PySem.F.args_list_iadd_2 _ _) (AutoSeq1.list___iadd___list_list_0 l O n b v n2 (by rw[Zp,propext not_and];intro _;rw[Yu];show YN.mpr P) (ZK P) (Xd P)) ⟨D,a,h⟩))))))
variable {c:Cx}{d:Nat}{L:Loc}
def Ba.append{N:WA}(k:Ba N w F z m):∀ {Z:TN},Ba N w F Z l->Ba N w F (Z++z) (l++m):=by
 induction l with
 |nil=>intro Z h;obtain rfl:=h.inv;show k
 |cons f l Q=>intro Z h;obtain⟨v,r,rfl,a,D⟩:=h.inv;show .cons a (Q D)
def cG{O:Gh}(r:Rel c O L J s)(N:RV c.Aa c.w O v x)(h:CE J.H x=some (.lst q)):
  ∃a o Z,v=.ref a/\s.heap.get? a=some o/\Ca "list" o Z/\Ba c.Aa c.w O.F Z q/\q.length<=16777216:=by
 have closed:∀ {v:Wv},RF c.Aa c.w O.F v (.lst q)->∃a o Z,v=.ref a/\s.heap.get? a=some o/\Ca "list" o Z/\Ba c.Aa c.w O.F Z q/\q.length<=16777216:=λh=>by
  obtain⟨a,Z,o,SU,e,z,rr,b⟩:=h.x;show(aM a o Z SU (r.holds _ _ e) z rr b)
 induction x using V.casesOn with
 |c f=>obtain rfl:=Zf h;show closed N
 |st _=>show aw h
 |E9 _ _=>show aw h
 |ob i=>
  show aX N λa ft e k=>?_;subst k;show aA (ax h) λo n h=>?_;have Q:=r.ob e n;induction o using AO.casesOn with
  |Av j=>obtain rfl:=Zf h;show closed Q.2
  |lst l=>
   have h:some (FV.lst l)=some (.lst q):=h;cases h;show bI Q λm o Z U p D A=>(aM a o Z rfl U p D A)
  |_=>cases h
def Rel.gr{O:Gh}(r:Rel c O L J s){a:WD}{ft:List WD}{b:WH}{D:Obj}{f:Nat}(N:0<f)(e:O.φ i=some (a,ft))(q:Sx i J.H=some (.lst l))
  (Q:Heap.SameBut a s.heap b) (U:b.get? a=some D) (SG:Ca "list" D j) (k:Ba c.Aa c.w O.F j u) (m:u.length<=16777216):
  Rel c (O.at i (a,[a])) L (As J (put i (.lst u) J.H)) {s with heap:=b,toks:=f}/\Ext false L O s (O.at i (a,[a])) {s with heap:=b,toks:=f}:=by
 have h:=r.ob e q;show bI h λZ o p w t B A=>?_;clear h;subst Z;show r.change N e
  (λx o C U P=>(Q.2 x λz=>P (by show z▸ ?_;show .head _)).trans U) (λx P=>.inl P)
  (λx P=>by show(Za P)▸ ?_;show(yE D U))
  (r.loc.step (.refl _ _) λy n=>av λo U=>(Q.2 y λz=>(r.off a (ay i a [a] e (.head _))).2.1 (z▸n)).trans U) ⟨rfl,bG D j U SG k m⟩
def kK{O:Gh}(r:Rel c O L J s)(U:RF c.Aa c.w F v x)(N:RF c.Aa c.w F u y)
  (h:Og 0 x y λr=>k (.c r) J) (a:B2 c L O s k Q):wpAny (model c.Aa c.w) A (inplaceOp .Add v u) Q Bl s:=by
 induction x using FV.casesOn with
 |int i=>
  obtain⟨j,e,h⟩:=ak h;obtain⟨t,rfl⟩:=U.x;obtain⟨f,rfl⟩:=N.aI e;show P.iadd_int (a O J _ _ (.c (.int (i+j))) (.toks _ _) r.dX (dq (.int _ _)) h)
 |str l=>
  obtain⟨m,e,D,n⟩:=ak h;obtain⟨t,rfl,_⟩:=U.x;obtain⟨f,rfl,_⟩:=N.aS e;show aN r.tk (SB.iadd (λz Z b=>?_) (by rw[YE];show D));have e:(⟨l.toArray⟩:Wu)++⟨m.toArray⟩=⟨(l++m).toArray⟩:=by change PySem.Str.mk (l.toArray++m.toArray)=_;simp
  rw[e];show a O J _ _ (.c (.str (l++m))) (.toks _ _) (r.toks b) (dq (.str (l++m) z (by rw[Zg];show D))) n
 |_=>show False.elim h
def ym:MH c d L .Add 0:=by
 intro O J s A k Q v u a b r X N w h B;have closed:Dh 0 a b J k->wpAny (model c.Aa c.w) A (inplaceOp .Add v u) Q Bl s:=λh=>by
  obtain⟨x,E,h⟩:=ak h;obtain⟨y,P,h⟩:=ak h;show bM (eM r N w E P) λF W U M=>kK r U M h B
 induction a using V.casesOn with
 |ob i=>
  have h:Option.rec (Dh 0 (.ob i) b J k) (λo=>AO.casesOn (motive:=λZ=>Prop) o (λl=>Ab (CE J.H b) λy=>Ab (aL y) λq=>Hr (l.length+q.length) (k (.ob i) (As J (put i (.lst (l++q)) J.H)))) (λZ=>Dh 0 (.ob i) b J k) (λZ Z=>Dh 0 (.ob i) b J k) λZ=>Dh 0 (.ob i) b J k) (Sx i J.H):=h;cases D:Sx i J.H with
  |none=>rw[D]at h;show closed h
  |some o=>
   rw[D]at h;induction o using AO.casesOn with
   |lst l=>
    obtain⟨y,P,h⟩:=ak h;obtain⟨q,e,m,I⟩:=ak h;clear h;obtain rfl:=m9 e;show aX N λa ft e z=>?_;clear N closed;subst z;show bI (r.ob e D) λH o G U j C T=>?_;obtain⟨n,rfl⟩:=j;show aK (cG r w P) λY So t z g1 p g3 SR=>?_;subst z;obtain⟨n2,rfl⟩:=p;show mE U g1 (by rw[congr (T3 HAdd.hAdd C.len) g3.len];show m) ?_;show zA (r.gr r.tk e D (Heap.SameBut.update ..) (show(s.heap.update a (Obj.mapSeq λx=>x++t.toArray)).get? a=some (Obj.mapSeq (λx=>x++t.toArray) {cls:=.type "list",data:=.seq G.toArray n}) from Heap.get?_update_self _ U rfl) (yE _ (by simp[Obj.mapSeq];rfl)) (Ba.append g3 C) (by show Zg.symm▸ ?_;show m)) λR S=>?_;show B _ _ _ _ (.ob i) S R (aU a [a] (Gh.bf) rfl) I
   |_=>show closed h
 |c f=>show closed h
 |st _=>show closed h
 |E9 _ _=>show closed h
def Gh.Sz(P:TU)(g:Gh):Gh:=⟨g.F,λi=>if P i=true then g.φ i else none⟩
abbrev Gh.low(g:Gh):Gh:=g.Sz λi=>Nat.blt i 64
def Gh.GJ(a g:Gh):Gh:=⟨a.F,λi=>if i<64 then a.φ i else g.φ i⟩
structure Cp (c:Cx) (g:Gh) (U:List WD) (H:Tx) (s:Ww):Prop where
 Av:∀a o,g.F a=some o->s.heap.get? a=some o
 obs:∀i o,Sx i H=some o->∃a ft,g.φ i=some (a,ft)/\RO c.Aa c.w c.nm g s.heap a ft o
 sep:∀i j a ft b ft',g.φ i=some (a,ft)->g.φ j=some (b,ft')->i≠j->∀x∈ft,x∉ft'
 off:∀x,AD g x->g.F x=none/\x∉U/\∃o,s.heap.get? x=some o
 ups:∀u∈U,g.F u=none/\GD s.heap u
 CZ:∀i p,g.φ i=some p->i<64/\∃o,Sx i H=some o
 base:∀a o,c.base.get? a=some o->g.F a=some o
 G5:c.base.objs.size<=s.heap.objs.size
 tk:0<s.toks
structure G9 (b:Bool) (U:List WD) (g:Gh) (s:Ww) (g':Gh) (s':Ww):Prop where
 le:Le b g g'
 keep:∀x o,s.heap.get? x=some o->x∉U->¬AD g x->s'.heap.get? x=some o
 EN:JD U s.heap s'.heap
 fp:∀x,AD g' x->AD g x\/s.heap.get? x=none
 fF:∀x o,g'.F x=some o->g.F x=some o\/AD g x\/s.heap.get? x=none
 gens:GK s.gens s'.gens
 os:s'.os=s.os
 drawn:s'.drawn=s.drawn
def eg(i:Nat):∀H:Tx,Sx i (lo H)=if i<64 then Sx i H else none:=by
 intro H;induction H with
 |nil=>
  split<;>rfl
 |cons p H Q=>
  change Sx i (Bool.rec (lo H) (p::lo H) (Nat.blt p.1 64):Tx)=_;cases e:Nat.blt p.1 64 with
  |true=>
   rw[aq,aq,Q];by_cases q:i=p.1
   ·rw[Zk q,Zk q,Zk (lt_of_eq_of_lt q (ZJ (Z4 _) (bz e)))]
   ·rw[Zi q,Zi q]
  |false=>
   have Z:¬p.1<64:=λh=>by
    have:Nat.blt p.1 64=true:=Nat.ble_eq.mpr h;rw[e]at this;show a7 this
   rw[Q,aq];split
   ·rw[Zi λq=>Z (by lia)]
   ·rfl
def iJ(i:Nat):∀H:Tx,Sx i (hi H)=if i<64 then none else Sx i H:=by
 intro H;induction H with
 |nil=>
  split<;>rfl
 |cons p H Q=>
  change Sx i (Bool.rec (p::hi H) (hi H) (Nat.blt p.1 64):Tx)=_;cases e:Nat.blt p.1 64 with
  |true=>
   have Z:=ZJ (Z4 _) (bz e);rw[Q,aq];split
   ·rfl
   ·rw[Zi λq=>by lia]
  |false=>
   have Z:¬p.1<64:=λh=>by
    have:Nat.blt p.1 64=true:=Nat.ble_eq.mpr h;rw[e]at this;show a7 this
   rw[aq,aq,Q];by_cases q:i=p.1
   ·rw[Zk q,Zk q,Zi (Eq.mpr_not (XA (T3 LT.lt q) 64) Z)]
   ·rw[Zi q,Zi q]
def di(i:Nat)(H Q:Tx):Sx i (H++Q)=(Sx i H).or (Sx i Q):=by
 induction H with
 |nil=>rfl
 |cons p H a=>
  rw[aq,aq];split
  ·rfl
  ·show a
def eK{g:Gh}(e:(g.Sz P).φ i=some p):P i=true/\g.φ i=some p:=by
 have e:(if P i=true then g.φ i else none)=some p:=e;split at e
 ·rename_i h;show⟨h,e⟩
 ·show aw e
def iM{g:Gh}(h:P i=true)(e:g.φ i=some p):(g.Sz P).φ i=some p:=(Zk h).trans e
def cb(e:Nat.blt a b=true):a<b:=ZJ (Z4 _) (bz e)
def cn{g:Gh}(e:g.low.φ i=some p):i<64/\g.φ i=some p:=(eK e).imp_left cb
def gQ{g:Gh}(h:i<64)(e:g.φ i=some p):g.low.φ i=some p:=iM (Nat.blt_eq.mpr h) e
variable {g:Gh}{P:TU}
def iW(h:RV pG w g v x)(D:E8 P x=true):RV pG w (g.Sz P) v x:=by
 induction x using V.casesOn with
 |c f=>show h
 |ob i=>show aX h λa ft e q=>?_;show(aU a ft (iM D e) q)
 |st a=>show h
 |E9 f i=>show cH h λq a ft U N b=>?_;show(b4 q a ft U N (iM D b))
def va(h:Cw pG w g Z u)(D:u.all (E8 P)=true):Cw pG w (g.Sz P) Z u:=by
 induction h with
 |nil=>show .nil
 |cons a _ Q=>
  rw[YR,Zp]at D;show .cons (iW a D.1) (Q D.2)
def aeN(h:RD pG w g Z u)(D:(u.all λp=>E8 P p.2)=true):RD pG w (g.Sz P) Z u:=by
 induction h with
 |nil=>show .nil
 |cons a _ Q=>
  rw[YR,Zp]at D;show .cons (iW a D.1) (Q D.2)
def aeL(h:RI pG w nm g Z u)(D:(u.all λp=>E8 P p.2)=true):RI pG w nm (g.Sz P) Z u:=by
 induction h with
 |nil=>show .nil
 |cons k a _ Q=>
  rw[YR,Zp]at D;show .cons k (iW a D.1) (Q D.2)
def zd{ft:List WD}(r:RO pG w nm g h a ft o)(D:Hn P o=true):RO pG w nm (g.Sz P) h a ft o:=by
 induction o using AO.casesOn with
 |An _=>show bQ r λe o U q z d r b=>?_;show⟨e,bj o U q z d (aeN r D) b⟩
 |inst _ _=>show aK r λu y n e j q A r=>?_;show(aM u y n e j q A (aeL r D))
 |_=>show r
def jk{y:Type}{o:y}{H:List (Nat×y)}(h:Sx i H=some o):(i,o)∈H:=by
 induction H with
 |nil=>show aw h
 |cons p H Q=>
  rw[aq]at h;by_cases q:i=p.1
  ·rw[Zk q]at h;clear Q;obtain rfl:=Zf h;show q▸ .head _
  ·rw[Zi q]at h;show .tail _ (Q h)
def uV(h:(H.all λp=>Hn P p.2)=true){i:Nat}{o:AO}(e:Sx i H=some o):Hn P o=true:=Zd h _ (jk e)
end
section
variable {c:Cx}{g:G}{K:Frag}{f:Fm}{d:Nat}{O:Gh}{L:Loc}{J:St}{s:Ww}
def Rel.ups(r:Rel c O L J s)(Z:u∈L.all):O.F u=none/\GD s.heap u:=by
 show⟨r.nL u (.inl Z),?_⟩;rcases Zb Z with rfl|Z
 ·show aA r.loc.nm λm Q a=>?_;obtain⟨o,y,D,e,d,_⟩:=Q;show(ay o y D e d)
 ·show r.loc.up u Z
def Rel.toC(r:Rel c O L J s)(m:((lo J.H).all λp=>Dc p.2)=true):Cp c O.low L.all (lo J.H) s:=by
 show⟨r.Av,λi o h=>?_,λi j a ft b l U N D=>r.sep i j a ft b l (cn U).2 (cn N).2 D,λx k=>?_,λu Z=>r.ups Z,λi p e=>?_,r.base,by show zE r.dT λo e=>?_;show Zh r.Lb (Yo (Yk e)),r.tk⟩
 ·have Q:=uV m h;rw[eg]at h;split at h
  ·rename_i hi;show aX (r.obs i o h) λa ft e n=>(aU a ft (gQ hi e) (zd n Q))
  ·show aw h
 ·show bC k λi a ft e k=>?_;have u:=r.off x (ay i a ft (cn e).2 k);show⟨u.1,λq=>u.2.1 (.inl q),u.2.2⟩
 ·show zA (cn e) λhi e=>zE (r.CZ i p e hi) λo t=>⟨hi,yE o (by rw[eg,Zk hi];show t)⟩
def bL(h:AD O.low x):AD O x:=by
 show bC h λi a ft e b=>(ay i a ft (cn e).2 b)
def Rel.ofC(r:Rel c O L J s){l:Gh}(x:G9 false L.all O.low s l s')(M:Cp c l L.all Q s'):
  Rel c (l.GJ O) L (As J (Q++hi J.H)) s'/\Ext false L O s (l.GJ O) s'/\Le false l (l.GJ O):=by
 have U:∀ {i:Nat},i<64->(l.GJ O).φ i=l.φ i:=λ{i} h=>by change(if i<64 then _ else _)=_;rw[Zk h]
 have n:∀ {i:Nat},¬i<64->(l.GJ O).φ i=O.φ i:=λ{i} h=>by change(if i<64 then _ else _)=_;rw[Zi h]
 have S:Le false l (l.GJ O):=⟨λZ Z e=>e,λi a ft e Z=>(yE ft (by rw[U (M.CZ i _ e).1];show e))⟩
 have le:Le false O (l.GJ O):=⟨x.le.F,λi a ft e X=>by
  by_cases h:i<64
  ·show zE (x.le.φ i a ft (gQ h e) X) λE e'=>(yE E (by show(U h)▸ ?_;show e'))
  ·show(yE ft (by rw[n h];show e))⟩
 have N:∀ {j:Nat} {b:WD} {C:List WD} {y:WD},¬j<64->O.φ j=some (b,C)->y∈C->¬AD O.low y:=λ{j b C y} V e m h=>by
  show bC h λi a ft W B=>zA (cn W) λhi W=>r.sep i j a ft b C W e (λq=>V (q▸hi)) y B m
 have t:∀ {y:WD},L.CN y->¬AD O.low y:=λm h=>(r.off _ (bL h)).2.1 m;have G:∀y,AD (l.GJ O) y->AD l y\/∃j b C,¬j<64/\O.φ j=some (b,C)/\y∈C:=λy h=>by
  show bC h λj b C e m=>?_;by_cases h:j<64
  ·rw[U h]at e;show .inl (ay j b C e m)
  ·rw[n h]at e;show .inr (b4 j b C h e m)
 show⟨⟨M.Av,λi o h=>?_,λi j a ft b E I H T y F B=>?_,λy m=>?_,λy m=>?_,?_,λi hi=>?_,r.DY,λi p e hi=>?_,M.base,r.Lb,M.tk⟩,
  ⟨le,λy o e hl X=>x.keep y o e (λh=>hl (.inl h)) λh=>X (bL h),λy m=>x.EN y (.tail _ m),λy m=>?_,λy o e=>?_,x.gens,x.os,x.drawn⟩,S⟩
 ·have h:Sx i (Q++hi J.H)=some o:=h;rw[di]at h;cases q:Sx i Q with
  |some D=>
   replace h:=q▸h;obtain rfl:=Zf (show some D=some o from h);show aX (M.obs i _ q) λa ft e Y=>(aU a ft (by rw[U (M.CZ i _ e).1];show e) (Y.step S λZ Z Z e=>e))
  |none=>
   rw[q]at h;have h:Sx i (hi J.H)=some o:=h;rw[iJ]at h;split at h
   ·cases h
   ·rename_i hi;show aX (r.obs i o h) λa ft e Y=>(aU a ft (by rw[n hi];show e) (Y.step le λy m o ho=>x.keep y o ho (λq=>(r.off y (ay i a ft e m)).2.1 (.inl q)) (N hi e m)))
 ·by_cases A:i<64<;>by_cases k2:j<64
  ·rw[U A]at I;rw[U k2]at H;show M.sep i j a ft b E I H T y F B
  ·rw[U A]at I;rw[n k2]at H;rcases x.fp y (ay i a ft I F)with z|z
   ·show N k2 H B z
   ·show cV (r.off y (ay j b E H B)) λZ Z o w=>?_;rw[z]at w;show aw w
  ·rw[n A]at I;rw[U k2]at H;rcases x.fp y (ay j b E H B)with z|z
   ·show N A I F z
   ·show cV (r.off y (ay i a ft I F)) λZ Z o w=>?_;rw[z]at w;show aw w
  ·rw[n A]at I;rw[n k2]at H;show r.sep i j a ft b E I H T y F B
 ·rcases G y m with z|⟨j,b,C,V,e,R⟩
  ·show cu (M.off y z) λu Z w=>⟨u,λq=>?_,w⟩
   rcases x.fp y z with k|k
   ·show t q k
   ·show zE (r.there q) λo e=>?_;rw[k]at e;show aw e
  ·show cV (r.off y (ay j b C e R)) λu v o w=>⟨?_,v,yE o (x.keep y o w (λq=>v (.inl q)) (N V e R))⟩
   change l.F y=none;cases q:l.F y with
   |none=>rfl
   |some D=>
    rcases x.fF y D q with k|k|k
    ·have k:O.F y=some D:=k;rw[u]at k;show aw k
    ·show(N V e R k).elim
    ·rw[w]at k;cases k
 ·change l.F y=none;cases q:l.F y with
  |none=>rfl
  |some D=>
   rcases x.fF y D q with k|k|k
   ·have k:O.F y=some D:=k;rw[r.nL y m]at k;show aw k
   ·show(t m k).elim
   ·show zE (r.there m) λo e=>?_;rw[k]at e;show aw e
 ·show r.loc.step le λy m=>?_;by_cases q:y∈L.all
  ·show x.EN y q
  ·show av λo e=>x.keep y o e q (t m)
 ·have h64:=r.DY;have hi:J.m<=i:=hi;rw[n (by lia)];show r.new i hi
 ·rw[U hi]at e;show zE (M.CZ i p e).2 λo ho=>(yE o (by change Sx i (Q++_)=_;rw[di,ho];rfl))
 ·rcases G y m with z|⟨j,b,C,_,e,R⟩
  ·rcases x.fp y z with k|k
   ·show .inl (bL k)
   ·show .inr k
  ·show .inl (ay j b C e R)
 ·rcases x.fF y o e with k|k|k
  ·show .inl k
  ·show .inr (.inl (bL k))
  ·show .inr (.inr k)
def Bj(c:Cx)(Z:TN)(z:WJ):Args:=⟨Z.take (Z.length-z.length),(z.map c.nm).zip (Z.drop (Z.length-z.length))⟩
def aR(Z:TN):Bj c Z []=⟨Z,[]⟩:=by simp[Bj]
def AB(b:Bool)(c:Cx)(a:WD)(d:Nat)(D:TA->WJ->Tx->(V->Tx->Prop)->Prop):Prop:=
 ∀U O H s A Z u z k R,Cp c O U H s->Cw c.Aa c.w O Z u->Room U d A->D u z H k->
  (∀l j v y Q,G9 b U O s l j->Cp c l U Q j->RV c.Aa c.w l v y->k y Q->R (.ok (.ret v)) j)->
  codeAny (model c.Aa c.w) A (.call (.ref a) (Bj c Z z)) R s
def Room.mono(h:Room U e A)(l:d<=e):Room U d A:=⟨h.hd,h.fr,by have:=h.Fs;show Yb (ZH l _) this,by have:=h.un;show Yb (ZV (ZH (Yg 16 l) _) _) this⟩
def AB.mono{spec}(h:AB b c y d spec)(l:d<=e):AB b c y e spec:=
 λU O H s A Z u z k R r N a=>h U O H s A Z u z k R r N (a.mono l)
def eJ(C:AB false c fa d (g.call fa))(r:Rel c O L J s)(m:Room L.all d A)(N:Cw c.Aa c.w O vs u)
  (h:BL g fa u z J k) (b:∀l Z j v x,Ext false L O s l j->Rel c l L Z j->RV c.Aa c.w l v x->k x Z->R (.ok (.ret v)) j):codeAny (model c.Aa c.w) A (.call (.ref fa) (Bj c vs z)) R s:=by
 show zA (qL h) λa h=>?_
 ·rw[Zp,Zp]at a;replace a:=a.2;show C L.all O.low (lo J.H) s A vs u z _ R (r.toC a.2) (va N a.1) m h λl j v y Q x e U D=>cu (r.ofC x e) λr2 i l2=>b _ _ j v y i r2 (U.mono l2) D
def ie(h:BL g y u z J k):g.fn y=true:=by
 have h:=(qL h).1;rw[Zp]at h;show h.1
set_option backward.match.sparseCases true
def MZ(v:V)(H:Tx):Option (V×Tx):=
 V.casesOn (motive:=λZ=>Option (V×Tx)) v (λZ=>some (v,H)) (λi=>Bool.rec (some (v,H)) (BK (Av H v) λr=>(.c r.1,r.2)) (ble 64 i)) (λZ=>some (v,H)) (λZ Z=>some (v,H))
def Q5(u:Fl):V:=Fl.casesOn (motive:=λZ=>V) u (.c .Ak) (.c .Ak) (.c .Ak) λv=>v
noncomputable def fin(k:V->Tx->Prop)(u:Fl)(s:St):Prop:=
 Ab (MZ (Q5 u) s.H) λr=>S7 (and (FD r.1) ((lo r.2).all λp=>Dc p.2)) (k r.1 (lo r.2)) False
end
set_option backward.match.sparseCases true
section
variable {c:Cx}{g:G}{K:Frag}{p:CP}{Sy:TP}{mg mb:Wu->TM}{d:Nat}{O:Gh}
def Cp.enter(r:Cp c O U H s){N:Tw}{Z:Nat}(t:0<Z)(f:∀y,L.CN y->y∈U\/s.heap.get? y=none)(n:c.base.objs.size<=L.ns)
  (D:∀b o,s.heap.get? b=some o->A.get? b=some o) (m:B3 c O L N A):Rel c O L ⟨N,H,64,false⟩ {s with heap:=A,toks:=Z}:=by
 show⟨λa o e=>D a o (r.Av a o e),λi o h=>?_,r.sep,λx P=>?_,λx P=>?_,m,λi hi=>?_,Zq _,λi p e k=>(r.CZ i p e).2,r.base,n,t⟩
 ·show aX (r.obs i o h) λa ft e Q=>(aU a ft e (Q.step (.refl _ _) λx k o e=>D x o e))
 ·show cV (r.off x P) λu v o w=>⟨u,λq=>(f x q).elim v λz=>(by rw[z]at w;show aw w),yE o (D x o w)⟩
 ·rcases f x P with z|z
  ·show(r.ups x z).1
  ·cases q:O.F x with
   |none=>rfl
   |some o=>have:=r.Av _ o q;rw[z]at this;show aw this
 ·cases q:O.φ i with
  |none=>rfl
  |some p=>have B:=(r.CZ i p q).1;lia
def Cp.leave(r:Cp c O L.up H s){h:Nat}(v:∀y,L.CN y->y∈L.up\/s.heap.get? y=none)(D:∀b o,s.heap.get? b=some o->A.get? b=some o){b:Bool}
  (x:Ext b L O {s with heap:=A,toks:=h} l j) (t:Rel c l L Q j) (w:((lo Q.H).all λp=>Dc p.2)=true):
  G9 b L.up O s l.low j/\Cp c l.low L.up (lo Q.H) j:=by
 have back:=λy e=>c9 (λo U=>⟨o,D y o U⟩) e;have N:=t.toC w;show⟨⟨⟨x.le.F,λi a ft e n=>?_⟩,λy o e Z B=>x.keep y o (D y o e) (λq=>(v y q.has).elim Z λz=>by rw[z]at e;show aw e) B,λy P o e=>x.EN y P o (D y o e),λy P=>?_,λy o e=>?_,x.gens,x.os,x.drawn⟩,
  ⟨N.Av,N.obs,N.sep,λy P=>?_,λu Z=>N.ups u (.tail _ Z),N.CZ,N.base,N.G5,N.tk⟩⟩
 ·show zE (x.le.φ i a ft e n) λf m=>⟨f,gQ (r.CZ i _ e).1 m⟩
 ·rcases x.fp y (bL P)with k|k
  ·show .inl k
  ·show .inr (back y k)
 ·rcases x.fF y o e with k|k|k
  ·show .inl k
  ·show .inr (.inl k)
  ·show .inr (.inr (back y k))
 ·have z:=N.off y P;show⟨z.1,λq=>z.2.1 (.tail _ q),z.2.2⟩
def vT{x:V}{p:V×Tx}(r:Rel c O L J s)(N:RV c.Aa c.w O v x)(h:MZ x J.H=some p):
  ∃l,Ext false L O s l s/\Rel c l L (As J p.2) s/\RV c.Aa c.w l v p.1:=by
 have A:some (x,J.H)=some p->∃l,Ext false L O s l s/\Rel c l L (As J p.2) s/\RV c.Aa c.w l v p.1:=λh=>by
  obtain rfl:=Zf h;show(ck O (.refl _ _ _ _) r N)
 induction x using V.casesOn with
 |ob i=>
  have h:(Bool.rec (some (.ob i,J.H)) (BK (Av J.H (.ob i)) λr=>(.c r.1,r.2)) (ble 64 i):Option (V×Tx))=some p:=h;cases a:ble 64 i with
  |false=>replace h:=a▸h;show A h
  |true=>
   replace h:=a▸h;show aA (aZ h) λq e P=>?_;clear h A;subst P;show eI r N e
 |_=>show A h
def ab1{N:WA}{O:Gh}(D:RL N w O a y):RV N w O (match (generalizing:=false) a with| .ret v=>v|_=>.none) (Q5 y):=by
 induction y with
 |ret x=>show aA D λv Q h=>?_;clear D;subst Q;show h
 |_=>subst D;show dq .Ak
def Room.deeper(l:Room U (d+1) A)(f:env.scope.kind=.function)(u:env.frame=some L):Room (L::U) d (A.deeper env):=by
 show aA l.fr λy e h=>⟨l.hd,aO (env::y) (by change A.frames.map _=_;rw[e];rfl) λx P=>?_,by have:=l.Fs;change A.depth+1+d<_;show Zh (Z1 (Zz (ZZ _ 1 _))) this,by have:=l.un;change A.units+3+16*d+64<_;show Yb (ZV (Zh (Zz (ZZ _ 3 _)) (ZH (by decide:3<=16) _)) _) this⟩
 rcases Zb P with rfl|P
 ·show⟨by rw[f];show(λq=>nomatch q),aO L (.head _) u⟩
 ·show eX (h x P) λb a N D=>⟨b,aO a (.tail _ N) D⟩
def Room.xt{f:Fm}(l:Room f.up (d+1) A)(j:f.tp=some f.env)(u:f.env.frame=some f.env.locals):Ay f.L d (A.deeper f.env):=
 ⟨l.deeper f.kind u,λenv e=>by
  have e:f.tp=some env:=e;rw[j]at e;obtain rfl:=Zf e;show aA l.fr λy h Z=>⟨y,by change A.frames.map _=_;rw[h];rfl⟩⟩
def fZ{f:Fm}(n:f.tp=some f.env)(F:f.env.frame=some f.env.locals){s:Ww}(i:∀y,f.L.CN y->y∈f.up\/s.heap.get? y=none)(hb:c.base.objs.size<=f.env.locals){tk:Nat}(W:0<tk){t:Tw}{x:S}{k:V->Tx->Prop}{R:Result->Ww->Prop}{E:Wv->Ww->Prop}
  (L:∀O J s A k Q,Rel c O f.L J s->Ay f.L d A->ex g x J k->FW c f.L O s k Q->wpAny (model c.Aa c.w) A (execs body f.env) Q Bl s)
  (r:Cp c O f.up H s) (M:Room f.up (d+1) A) (q:∀b o,s.heap.get? b=some o->h₀.get? b=some o) (D:B3 c O f.L t h₀) (z:ex g x ⟨t,H,64,false⟩ (fin k))
  (Y:∀l j v y B,G9 f.vl f.up O s l j->Cp c l f.up B j->RV c.Aa c.w l v y->k y B->R (.ok (.ret v)) j):
  wpAny (model c.Aa c.w) (A.deeper f.env) (execs body f.env) (λC j=>R (.ok (.ret (match C with| .ret v=>v|_=>.none))) j) E {s with heap:=h₀,toks:=tk}:=by
 have w:=r.enter W i hb q D;show ZT (L O _ _ _ (fin k) _ w (M.xt n F) z λl J' j a y X u D e=>?_) (λZ Z h=>h) λZ Z h=>h.elim;obtain⟨p,U,e⟩:=ak e;show zA (qL e) λm e=>?_;rw[Zp]at m;show bM (vT u (ab1 D) U) λG I r2 N=>zA (r.leave i q (X.trans w u I) r2 m.2) λP T=>?_;rw[Wp]at P;show Y _ j _ p.1 _ P T (iW N m.1) e
def De(fd:FuncData)(L a:WD)(U:List WD)(j:Bool)(D:fd.scope.kind=.function)(Q:fd.globals=mainGlobals)(P:fd.builtins=builtinsNs)(l:∀x∈fd.scope.names,x.2≠ .cell):Fm:=
 ⟨callEnv fd L a,D,Q,P,none,λx h=>(l _ (mem_of_lookup (n:=x) h) rfl).elim,λZ Z h=>aw h,true,U,j,some (callEnv fd L a)⟩
def KW(fd:FuncData)(L a:WD)(U:List WD)(j:Bool)(D:fd.scope.kind=.function)(Q:fd.globals=mainGlobals)(P:fd.builtins=builtinsNs)(z:Wu)(b:cellsFrom (L+1) fd.scope.names []=[(z,L+1)])(N:∀x,fd.scope.names.lookup x=some .cell↔x=z):Fm:=
 ⟨callEnvC fd L a,D,Q,P,some (z,L+1),λx h=>by obtain rfl:=(N x).mp h;show⟨L+1,rfl,?_⟩;change List.lookup x (cellsFrom (L+1) fd.scope.names [])=_;rw[b];simp,λx a h=>by cases h;show(N _).mpr rfl,true,U,j,some (callEnvC fd L a)⟩
section
variable {fa:WD}{o:Obj}{fd:FuncData}{body:List WG}{x:S}{spec:TA->WJ->Tx->(V->Tx->Prop)->Prop}{bind:TA->WJ->Option Tw}
def nh(T:TopRead c.Aa Sy mg mb c.base)
  (hk:fd.scope.kind=.function) (hg:fd.globals=mainGlobals) (hb:fd.builtins=builtinsNs) (C:fd.scope.isCoroutine=false) (q:fd.scope.isGenerator=false)
  (ho:c.base.get? fa=some o) (m:o.data=.func fd) (i:fd.body=.stmts body) (V:c.base.CodeRec fd.code fd.qualname) (l:∀x∈fd.scope.names,x.2≠ .cell)
  (D:∀O s w f z N,Holds O.F s.heap->(∀a o,c.base.get? a=some o->s.heap.get? a=some o)->Cw c.Aa c.w O w f->bind f z=some N->∃j,BindsTo s fd (Bj c w z) j/\(∀x∈j,fd.scope.names.lookup x.1=some .local)/\
   ∀n v,Sx n N=some v->∃u,j.reverse.lookup (c.nm n)=some u/\RV c.Aa c.w O u v)
  (hS:∀L U,SB c g (De fd L fa U b hk hg hb l) d x body)
  (h:∀f z H k,spec f z H k->Ab (bind f z) λN=>ex g x ⟨N,H,64,false⟩ (fin k)):AB b c fa (d+1) spec:=by
 intro U O H s A w f z k R r hv rm F hp;obtain⟨N,M,X⟩:=ak (h f z H k F);have B:=λa o e=>r.Av a o (r.base a o e);show bM (D O s w f z N r.Av B hv M) λj hB Q G=>?_;have hs:s.heap.get? s.heap.objs.size=none:=aF (Zq _);show codeAny_call_def (by show YW rm.Fs) (B _ _ ho) m (T.nolimit.keeps B) ?_ i hB l Q (λh₀ hn Y=>?_) C q hk
 ·show dY V λcc oc W t I E e3 e4=>(cI cc oc W t I (B _ _ E) e3 e4)
 ·show fZ rfl rfl (λy P=>?_) r.G5 (ZJ r.tk (ZR _ _)) (hS _ U) r rm Y ⟨aO _ hn λn v e=>?_,λZ Z e=>aw e,λu S=>?_,λS=>?_⟩ X hp
  ·rcases P with P|⟨_,e⟩
   ·show(Zb P).elim (λe=>.inr (e▸hs)) .inl
   ·show aw e
  ·show aA (G n v e) λu I E=>(aO u (.inr ⟨λZ e=>aw e,I⟩) E)
  ·show(r.ups u S).2.step (av (Y u))
  ·show bC (r.ups _ S).2 λo Z Z e Z=>aw (hs.symm.trans e)
def uQ:∀ {j:TO} {m:Wu->TM},(∀x∈j,A x.1=some .local)->bindL A j m z=(j.reverse.lookup z).or (m z):=by
 intro j;induction j with
 |nil=>intro m _;rfl
 |cons p r Q=>
  intro m h;unfold bindL;rw[Zk (h p (.head _)),Q λx P=>h x (.tail _ P),List.reverse_cons,List.lookup_append];cases r.reverse.lookup z with
  |some _=>rfl
  |none=>
   rw[Xg];by_cases q:z=p.1
   ·rw[Zk q,beq_iff_eq.mpr q];rfl
   ·rw[Zi q,beq_eq_false_iff_ne.mpr q];rfl
def lF(T:TopRead c.Aa Sy mg mb c.base)
  (hk:fd.scope.kind=.function) (hg:fd.globals=mainGlobals) (hb:fd.builtins=builtinsNs) (G:fd.scope.isCoroutine=false) (C:fd.scope.isGenerator=false) (B:fd.closure=[])
  (ho:c.base.get? fa=some o) (w:o.data=.func fd) (i:fd.body=.stmts body) (m:c.base.CodeRec fd.code fd.qualname) (z:Wu) (h1:∀L,cellsFrom (L+1) fd.scope.names []=[(z,L+1)]) (h2:∀x,fd.scope.names.lookup x=some .cell↔x=z)
  (D:∀O s Z f b N,Holds O.F s.heap->(∀a o,c.base.get? a=some o->s.heap.get? a=some o)->Cw c.Aa c.w O Z f->bind f b=some N->∃j,BindsTo s fd (Bj c Z b) j/\(∀x∈j,fd.scope.names.lookup x.1=some .local)/\
   ∀n v,Sx n N=some v->∃u,j.reverse.lookup (c.nm n)=some u/\RV c.Aa c.w O u v)
  (hS:∀L U,SB c g (KW fd L fa U false hk hg hb z (h1 L) h2) d x body)
  (h:∀f b H k,spec f b H k->Ab (bind f b) λN=>ex g x ⟨N,H,64,false⟩ (fin k)):AB false c fa (d+1) spec:=by
 intro U O H s A Z f b k R r hv rm M hp;obtain⟨N,V,hex⟩:=ak (h f b H k M);have F:=λa o e=>r.Av a o (r.base a o e);show bM (D O s Z f b N r.Av F hv V) λj hB Q S=>?_;have hs:s.heap.get? s.heap.objs.size=none:=aF (Zq _);have m:s.heap.CodeRec fd.code fd.qualname:=by
  show dY m λcc oc vs' t E I e3 e4=>(cI cc oc vs' t E (F _ _ I) e3 e4)
 show codeAny_call_function (by have:=rm.Fs;show Yb (ZR _ _) this) (F _ _ ho) w G C i m (hB _ _ _ _ ?_);rw[B];show aN r.tk (wpAny_newFunctionEnv_cells hk (λx hx=>.inl (Q x hx)) λenv' he s' x X=>?_);subst he;have l:=x.toInCall.keep;show⟨(T.nolimit.keeps F).keeps l,codeAny_func ?_⟩;show aX x.done λh₁ tk P Y=>?_;subst P;show fZ rfl rfl (λy hy=>?_) r.G5 X (hS _ U) r rm l ⟨aO _ x.toInCall.ns λn v e=>?_,λn a e=>?_,λu W=>?_,λW=>?_⟩ hex hp
 ·rcases hy with hy|⟨_,e⟩
  ·show(Zb hy).elim (λe=>.inr (e▸hs)) .inl
  ·cases e;show .inr (show s.heap.get? (s.heap.objs.size+1)=none from aF (YX _))
 ·show aA (S n v e) λu E I=>(aO u (.inr ⟨λa q=>?_,?_⟩) I)
  ·have q1:=Q _ (List.mem_reverse.mp (mem_of_lookup E));have q2:=(h2 _).mpr (T3 Prod.fst (Zf q)).symm;replace q2:=q1▸q2;cases q2
  ·rw[uQ Q,E];rfl
 ·cases e;show(yE _ (x.cell z _ (by change List.lookup z (cellsFrom (s.heap.objs.size+1) fd.scope.names [])=_;rw[h1];simp)))
 ·show(r.ups u W).2.step (av (l u))
 ·show bC (r.ups _ W).2 λo Y Y e Y=>aw (hs.symm.trans e)
end
variable {f:Fm}
inductive Row (c:Cx) (g:G) (f:Fm) (d:Nat):X->List WE->Prop
 |nil:Row c g f d .nil []
 |bad {es:List WE}:es.all BU=true->Row c g f d .bad es
 |cons {x y:X} {e:WE} {es:List WE}:BU e=true->SE c g f d x e->Row c g f d y es->Row c g f d (.cons x y) (e::es)
theorem Row.SL(h:Row c g f d x y):SL c g f d x y:=by
 induction h with
 |nil=>show abK
 |bad _=>intro O J s A k Q pos r l N j;show N.elim
 |cons a b _ e=>show ye a b e
def Cw.app{N:WA}{O:Gh}(h:Cw N w O Z u)(l:Cw N w O z P):Cw N w O (Z++z) (u++P):=by
 induction h with
 |nil=>show l
 |cons a _ Q=>show .cons a Q
def pS(y:List WE):∀ {x:X} {O:Gh} {J:St} {s:Ww} {A:Wz} {k:TA->TF} {Q:TN->Ww->Prop} {pos:Pos},Row c g f d x (y++es')->Rel c O f.L J s->Ay f.L d A->SU g x J k->
  (∀l H C Z o n,Ext false f.L O s l C->Rel c l f.L H C->Cw c.Aa c.w l Z o->Z.length=y.length->Row c g f d n es'->SU g n H (λR J=>k (o++R) J)->Q Z C)->
  wpAny (model c.Aa c.w) A (spliced (backTo pos (starEach y f.env))) Q Bl s:=by
 induction y with
 |nil=>
  intro x O J s A k Q pos D r w N F;show wpAny_items_nil (F O J s [] [] x (.refl _ _ _ _) r .nil rfl D N)
 |cons e y M=>
  intro x O J s A k Q pos D r w N F;have D:=D;cases D with
  |bad _=>show N.elim
  |cons L h D=>
   rw[eE L];show Zn (h O J s A _ _ r w N λE G I v a m U S t=>Zn (ZE (Zn (ZY (M D U w t λj z P Z o n b i q u B t=>ZE (F j z P (v::Z) (a::o) n (m.trans r U b) i (.cons (S.mono b.le) q) (T3 (· +1) u) B t))))))
def vC(z:List WI):∀ {x:X} {O:Gh} {J:St} {s:Ww} {A:Wz} {k:TA->TF} {Q:TN->Ww->Prop},Row c g f d x (z.map (·.value))->Rel c O f.L J s->Ay f.L d A->SU g x J k->
  (∀l H C Z t,Ext false f.L O s l C->Rel c l f.L H C->Cw c.Aa c.w l Z t->Z.length=z.length->k t H->Q Z C)->
  wpAny (model c.Aa c.w) A (evalAll ((backToKw pos (keywordEach z f.env)).map (·.2))) Q Bl s:=by
 induction z with
 |nil=>
  intro x O J s A k Q D r B N F;have D:=D;cases D with
  |bad _=>show N.elim
  |nil=>show wpAny_evalAll_nil (F O J s [] [] (.refl _ _ _ _) r .nil rfl N)
 |cons L z M=>
  intro x O J s A k Q D r B N F;obtain⟨n,e,q⟩:=L;have D:=D;cases D with
  |bad _=>show N.elim
  |cons S h D=>
   show wpAny_evalAll_cons (Zn (h O J s A _ _ r B N λE G I v a o U R w=>Zn (Yz (ZE (M D U B w λj m P Z t b i y u w=>F j m P (v::Z) (a::t) (o.trans r U b) i (.cons (R.mono b.le) y) (T3 (· +1) u) w)))))
def fE(Y:Ctx c K p Sy mg mb)(pos:Pos)(env:Env):∀ {y:WJ},Mc p z=some y->(backToKw pos (keywordEach z env)).all (·.1.isSome)=true/\(backToKw pos (keywordEach z env)).any (·.1.isNone)=false/\
  (backToKw pos (keywordEach z env)).filterMap (·.1)=y.map c.nm/\y.length=z.length:=by
 induction z with
 |nil=>intro y h;obtain rfl:=Zf h;show⟨rfl,rfl,rfl,rfl⟩
 |cons k r m=>
  intro y h;obtain⟨a,e,q⟩:=k;show aA (ax h) λx Q h=>aA (ax h) λi U h=>?_;show aA (aZ h) λl n P=>?_;clear h;subst P;obtain rfl:a=some x:=Q;show bY (m n) λN u b O=>⟨N,u,?_,T3 (· +1) O⟩
  change x::(backToKw pos (keywordEach r env)).filterMap _=_;rw[b,Ye,(Y.code x i U).1]
def a6(pos:Pos)(env:Env)(h:y.all BU=true):(backTo pos (starEach y env)).any (·.1)=false:=by
 induction y with
 |nil=>rfl
 |cons e y Q=>
  rw[YR,Zp]at h;rw[eE h.1];show Q h.2
def Row.cZ(h:Row c g f d x (y++Z)):y.all BU=true:=by
 induction y generalizing x with
 |nil=>rfl
 |cons e y i=>
  have h:Row c g f d x (e::(y++Z)):=h;cases h with
  |bad Q=>
   rw[YR,Zp]at Q;have:=Q.2;rw[List.all_append,Zp]at this;rw[YR,Q.1,this.1];rfl
  |cons a _ b=>rw[YR,a,i b];rfl
def bS{O:Gh}(Y:Ctx c K p Sy mg mb)(D:Mc p kws=some ks)
  (B:Row c g f d x (args++kws.map (·.value))) (r:Rel c O f.L J s) (M:Ay f.L d A) (t:SU g x J k)
  (T:∀i L E b h,ks.length<=b.length->Ext false f.L O s i E->Rel c i f.L L E->Cw c.Aa c.w i b h->k h L->Q (Bj c b ks) E):
  wpAny (model c.Aa c.w) A (evalArgs fv true (backTo pos (starEach args f.env)) (backToKw pos (keywordEach kws f.env))) Q Bl s:=by
 show bY (fE Y pos f.env D) λG W R H=>?_;have last:∀ {Z U l b h w},Ext false f.L O s Z l->Rel c Z f.L U l->Cw c.Aa c.w Z b h->Row c g f d w (kws.map (·.value))->SU g w U (λF J=>k (h++F) J)->
   wpAny (model c.Aa c.w) A (evalAll ((backToKw pos (keywordEach kws f.env)).map (·.2))) (λn P=>Q ⟨b,((backToKw pos (keywordEach kws f.env)).filterMap (·.1)).zip n⟩ P) Bl l:=λ{Z U l b h w} z a y m D=>by
  show vC kws m a M D λj q P n F N o C u D=>?_;have:=T j q P (b++n) (h++F) (by((show Zg▸ ?_;show H▸ ?_);show u▸ ?_);show Z0 n.length b.length) (z.trans r a N) o ((y.mono N.le).app C) D;have e:Bj c (b++n) ks=⟨b,((backToKw pos (keywordEach kws f.env)).filterMap (·.1)).zip n⟩:=by
   unfold Bj;rw[R,Zg,H, ←u,Nat.add_sub_cancel,We,YU]
  rw[e]at this;show this
 induction args using Re with
 |nil=>show evalArgs_kw_nil G (last (.refl _ _ _ _) r .nil B (by simpa using t))
 |cons e S=>
  have I:=B.cZ;rw[YR,Zp]at I;have v:=pS (e::S) (pos:=pos) B r M t
   λZ U l b h w z a y uu m D=>last z a y m D
  rw[eE I.1]at v⊢;show evalArgs_kw G v
def H0(Q:Wv->Ww->Prop)(r:Result)(j:Ww):Prop:=match r with| .ok (.ret v)=>Q v j| .ok _=>False| .error e=>Bl e j
def jt(h:fnIn K y=true):keepIn K (.ref y)=true:=by
 unfold fnIn at h;unfold keepIn;dsimp only;cases q:K.lookup y with
 |none=>rw[q]at h;show a7 h
 |some o=>
  rw[q]at h;obtain⟨Sp,So,Sn,j⟩:=o;cases Sn<;>first|rfl|show a7 h
def gm(v:Wv)(h:y.length<=Z.length):Bj c (v::Z) y=⟨v::(Bj c Z y).pos,(Bj c Z y).kw⟩:=by
 unfold Bj;rw[Nat.sub_add_comm h,List.take_succ_cons,List.drop_succ_cons]
def yi(Y:Ctx c K p Sy mg mb)(R:FX c K g){e:Nat}(C:AB false c e d (g.call e))(T:B8 f.cs nm=true)(M:p.Gw nm=some (.st e))(h:Row c g f d x U):
  SE c g f d (.call e x) (.Call (.Name nm pos') U [] pos):=by
 intro O J s A k Q r q B S;show wpAny_Call_Name_kw (nc (g:=g) Y T M O J s A (λv J=>v=.st e/\SU g (.call e x) J (one k)) _ r q ⟨rfl,B⟩ λw H L v z m b E h=>?_);obtain⟨rfl,a⟩:=h;subst E;have I:Row c g f d x (U++([]:List WI).map (·.value)):=by simpa using h
 have a:=a;show callWith_of (P:=λh=>K.In h/\fnIn K e=true) (by show(a6 pos f.env I.cZ).symm▸ ?_;rfl)
  (λh u=>keeps_K (jt u.2) h u.1) (bS Y rfl I b q a λt G F V xs W N D o a=>⟨⟨Y.X.keeps D.bN,R.fn _ (ie a)⟩,?_⟩)
 show XI (eJ C D q.toRoom o a λZ l j v y i n E a=>S Z l j v y ((m.trans r b N).trans r D i) n E a)
set_option backward.match.sparseCases false
def HY(n:Nat):String:=["list.append","list.pop","str.join","str.replace","str.count","str.rfind","str.split","str.lower","str.upper","str.startswith","str.find","dict.get"].getD n ""
def vp(n:Nat)(N:2<=n)(y:n<=10):Slot "str" (Fk.getD n "") (HY n)/\typeOf (.builtin (HY n))=pure (.type "method_descriptor"):=by
 rcases ZU y with rfl|y; · show⟨F.slot_str_find,F.type_str_find⟩
 rcases ZU (ZN y)with rfl|y; · show⟨F.slot_str_startswith,F.type_str_startswith⟩
 rcases ZU (ZN y)with rfl|y; · show⟨F.slot_str_upper,F.type_str_upper⟩
 rcases ZU (ZN y)with rfl|y; · show⟨F.slot_str_lower,F.type_str_lower⟩
 rcases ZU (ZN y)with rfl|y; · show⟨F.slot_str_split,F.type_str_split⟩
 rcases ZU (ZN y)with rfl|y; · show⟨F.slot_str_rfind,F.type_str_rfind⟩
 rcases ZU (ZN y)with rfl|y; · show⟨F.slot_str_count,F.type_str_count⟩
 rcases ZU (ZN y)with rfl|y; · show⟨F.slot_str_replace,F.type_str_replace⟩
 obtain rfl:=YK (ZN y) N;show⟨F.slot_str_join,F.type_str_join⟩
def wu(n:Nat)(h:n<=1):Slot "list" (Fk.getD n "") (HY n)/\typeOf (.builtin (HY n))=pure (.type "method_descriptor"):=by
 rcases ZU h with rfl|h; · show⟨F.slot_list_pop,F.type_list_pop⟩
 obtain rfl:=Wq.mp (ZN h);show⟨F.slot_list_append,F.type_list_append⟩
def je{l:WJ}(h:(!BE l)=true):l=[]:=by induction l<;>first|rfl|show a7 h
def MR(c:Cx)(O:Gh)(n:Nat)(z:WJ)(N:Wv)(first:TN)(m:M):Prop:=
 M.casesOn (motive:=λZ=>Prop) m (λf v=>N=.ref f/\∃u,first=[u]/\RV c.Aa c.w O u v) (λf j=>first=[]/\∃q a ft,N=.ref q/\O.F q=some (LD f a)/\O.φ j=some (a,ft))
  (λx=>N=.builtin (HY n)/\z=[]/\2<=n/\n<=10/\∃u,first=[u]/\RF c.Aa c.w O.F u (.str x)) (λi=>N=.builtin (HY n)/\z=[]/\n<=1/\∃a ft,first=[.ref a]/\O.φ i=some (a,ft)) (λl=>N=.builtin "dict.get"/\z=[]/\∃u,first=[u]/\RF c.Aa c.w O.F u (.An l))
def kh(Q:getL nm y=some none):shadowIn (some (dictOf y n)) nm=some false:=by
 change(lookIn nm (dictOf y n)).map _=_;rw[lookIn_dict,Q];rfl
def oT{nm:Wu}{id:String}(P:Slot "str" nm id)(D:typeOf (.builtin id)=pure (.type "method_descriptor"))
  (N:RF c.Aa c.w j v (.str x)) (h:Q (.builtin id,[v]) s):wpAny (model c.Aa c.w) A (getMethod v nm pl) Q E s:=by
 obtain⟨y,t,rfl⟩:∃y t,v=.str y t:=by obtain⟨t,e,_⟩:=N.x;show⟨_,t,e⟩
 show getMethod_builtin (Wk _ _ _) F.plainAttrs_str P D (λZ e=>nomatch e) h
def mo(XK:K.In c.base)(Y:FX c K g){O:Gh}(r:Rel c O L J s)(N:RV c.Aa c.w O ov o)
(h:C4 g o n z J=some m) (G:∀t s' S first,Ext false L O s t s'->Rel c t L J s'->MR c t n z S first m->Q (S,first) s'):wpAny (model c.Aa c.w) A (getMethod ov (c.nm n) pl) Q Bl s:=by
 have H:=XK.keeps r.bN;induction o using V.casesOn with
 |E9 f i=>show aw h
 |c S=>
  have k:(Bool.rec (Af (aS S) λx=>Bool.rec none (some (.str x)) (and (!BE z) (and (ble 2 n) (ble n 10)))) (Af (Ta S) λl=>Bool.rec none (some (.dg l)) (!BE z)) (beq n 11):Option M)=some m:=h;clear h;cases w:beq n 11 with
  |true=>
   replace k:=w▸k;show aA (ax k) λl e h=>?_;clear k;obtain rfl:=afR e;cases P:(!BE z)with
   |false=>replace h:=P▸h;show aw h
   |true=>
    replace h:=P▸h;obtain rfl:=Zf h;obtain rfl:=ZC w;have N:=N;obtain⟨a,o,kvs,rfl,e1,n1,q,rr,_⟩:=N.x;show getMethod_builtin ((q.at (r.Av _ _ e1)).typeIs) F.plainAttrs_dict (by rw[Y.mn 11 (by ext)];show F.slot_dict_get) F.type_dict_get (λb e=>by cases e;show(aO o (r.Av _ _ e1) (q.elim λuu h=>h.elim λuu h=>h.1.2.1))) (G O s _ _ (.refl _ _ _ _) r ⟨rfl,je P,aO _ rfl N⟩)
  |false=>
  replace k:=w▸k;show aA (ax k) λx e h'=>?_;clear k;obtain rfl:=qP e;have h:=h';cases P:and (!BE z) (and (ble 2 n) (ble n 10))with
  |false=>replace h:=P▸h;show aw h
  |true=>
   replace h:=P▸h;clear h';obtain rfl:=Zf h;replace P:=(Zp _ _)▸P;replace P:=(Zp _ _)▸P;show zA (vp n (bz P.2.1) (bz P.2.2)) λB ty=>?_;replace B:=(YS (Y.mn n (Yb (bz P.2.2) (by ext))))▸B;show oT B ty N (G O s _ _ (.refl _ _ _ _) r ⟨rfl,je P.1,bz P.2.1,bz P.2.2,aO _ rfl N⟩)
 |st a=>
  subst N;show aA (aZ h) λy X E=>?_;clear h;subst E;show aK (Y.Gp a n y X) λC dx od U h2 D h4 h5=>?_;show method_fn H (show InstAt s.heap a (FE C (some dx)) C (some od) from⟨H _ _ U,rfl,rfl,H _ _ h2⟩) D.ga D.gk h4.fi h4.ty h5 (G O s _ _ (.refl _ _ _ _) r ⟨rfl,aO _ rfl rfl⟩)
 |ob i=>
  show aX N λa ft e W=>?_;clear N;subst W;show aA (ax h) λo q h=>?_;have ro:=r.ob e q;induction o using AO.casesOn with
  |inst C dd=>
   show aK ro λdx es mm hft hne U h2 D=>?_;have I:=ju U h2;have h:IX g i n C dd=some m:=h;unfold IX at h;cases k:Sx n dd with
   |some v=>
    replace h:=k▸h;induction v using V.casesOn with
    |E9 y j=>
     have h:=h;cases ho:g.own C n with
     |false=>replace h:=ho▸h;show aw h
     |true=>
      replace h:=ho▸h;obtain rfl:=Zf h;show zA (Y.own C n ho) λZ R=>?_;obtain⟨u,g1,qa,b,ft2,rfl,T,k2⟩:=fV D k;show method_usual H I Z.ga Z.gk R rfl (get_value H I Z.ga (kQ Z R g1) rfl (G O _ _ _ (.toks _ _) r.dX ⟨rfl,b4 qa b ft2 rfl T k2⟩))
    |_=>show aw h
   |none=>
    replace h:=k▸h;show aA (aZ h) λy X E=>?_;clear h;subst E;show zA (Y.cls C n y X) λZ R=>method_fn H I Z.ga Z.gk R.fi R.ty (kh (fW D k)) (G O s _ _ (.refl _ _ _ _) r ⟨rfl,gE _ rfl a ft e rfl⟩)
  |lst l=>
   have h:=h;cases P:and (!BE z) (ble n 1)with
   |false=>replace h:=P▸h;show aw h
   |true=>
    replace h:=P▸h;obtain rfl:=Zf h;replace P:=(Zp _ _)▸P;show zA (wu n (bz P.2)) λB ty=>?_;replace B:=(YS (Y.mn n (Yb (bz P.2) (by ext))))▸B;show bI ro λhft o vs T zq4 k3 k4=>?_;obtain⟨nn,rfl⟩:=zq4;show getMethod_builtin (aO _ T rfl) F.plainAttrs_list B ty (λb e=>by cases e;show(aO _ T rfl)) (G O s _ _ (.refl _ _ _ _) r ⟨rfl,je P.1,bz P.2,aU a ft rfl e⟩)
  |_=>show aw h
def K4(c:Cx)(L:Loc):Prop:=∀n O J s A k Q v x Z y,2<=n->n<=10->Rel c O L J s->A.handled=none->RF c.Aa c.w O.F v (.str x)->Ba c.Aa c.w s.heap.get? Z y->Lo n x y J k->B2 c L O s k Q->wpAny (model c.Aa c.w) A (PySem.call (.builtin (HY n)) (v::Z)) Q Bl s
def K6(c:Cx)(L:Loc):Prop:=∀n O J s A k Q i a ft l Z u,n<=1->Rel c O L J s->O.φ i=some (a,ft)->Sx i J.H=some (.lst l)->Cw c.Aa c.w O Z u->NK n i l u J k->B2 c L O s k Q->wpAny (model c.Aa c.w) A (PySem.call (.builtin (HY n)) (.ref a::Z)) Q Bl s
def qK{O:Gh}(r:Rel c O L J s)(h:Cw c.Aa c.w O Z u):∀ {y:Tz},Je J.H u=some y->Ba c.Aa c.w s.heap.get? Z y:=by
 induction h with
 |nil=>intro y h;obtain rfl:=Zf h;show .nil
 |cons Q _ i=>
  intro y h;show aA (ax h) λf U h=>?_;show aA (aZ h) λt b P=>?_;clear h;subst P;show bM (cq r Q U) λF m n k=>.cons (RF.mono (λa o e=>m a o e) k) (i b)
def jS{O:Gh}(_:Rel c O L J s)(h:Cw c.Aa c.w O Z u):∀ {y:Tz},Rl u=some y->Ba c.Aa c.w O.F Z y:=by
 induction h with
 |nil=>intro y h;obtain rfl:=Zf h;show .nil
 |cons Q _ b=>
  intro y h;show aA (ax h) λf U h=>?_;show aA (aZ h) λt a P=>?_;clear h;subst P;clear h;obtain rfl:=f7 U;show .cons Q (b a)
def jr(h:Mc p z=some []):z=[]:=by
 induction z using Re with
 |nil=>rfl
 |cons k r=>
  show aA (ax h) λx Z h=>aA (ax h) λi Z h=>aA (aZ h) λl Z h=>?_;cases h
def aaR{N:WA}(a:WJ){d:Wv}{f:FV}(hd:RF N w F d f):∀ {U:TO},Eh N w F U l->RF N w F ((valueAt U (CH a)).getD d) (Option.rec f (λv=>v) (sel a l)):=by
 induction l with
 |nil=>intro U h;obtain rfl:=h.inv;show hd
 |cons p l Q=>
  intro U h;show bA h.inv λv r P b D=>?_;clear h;subst P;change RF _ _ _ _ (Option.rec f (λv=>v) (Bool.rec (sel a l) (some p.2) (Cn a p.1):TJ));rw[aE];unfold valueAt;rw[X6];by_cases z:a=p.1
  ·clear Q;subst z;simpa using b
  ·simp only[z,show¬CH p.1=CH a from λe=>z (eG e).symm];show Q D
def vV{O:Gh}(r:Rel c O L J s)(C:RF c.Aa c.w O.F u (.An l))(N:Ba c.Aa c.w O.F Z y)
  (h:Ab (So y λa b=>(a,b)) λp=>Ab (aS p.1) λa=>k (.c (Option.rec p.2 (λv=>v) (sel a l))) J) (j:B2 c L O s k Q):wpAny (model c.Aa c.w) A (PySem.call (.builtin "dict.get") (u::Z)) Q Bl s:=by
 obtain⟨p,e,h⟩:=ak h;obtain⟨a,U,n⟩:=ak h;obtain⟨f,t,rfl,m⟩:∃f t,y=f::t/\BK (Sp t) (λb=>(f,b))=some p:=by
  cases y with
  |nil=>show aw e
  |cons f t=>show(aU f t rfl e)
 show aA (aZ m) λb I P=>?_;clear h m e;subst P;obtain⟨M,R,rfl,E,D⟩:=N.inv;show aA (D.one I) λG i w=>?_;clear D N;subst i;obtain⟨z,rfl,_⟩:=E.aS U;obtain⟨x,o,H,rfl,B,n1,q,rr,_⟩:=C.x;have dd:=q.at (r.Av _ _ B);show call_meetsIn F.slot_dict_get dd.typeIs F.entry_dict_get (F.args_dict_get_3 _ _ _) (meets_dict_get_default (strKind c.Aa c.w) x (fU a z) (pK n1) G) (aO _ dd.mapOf (j O J _ _ _ (.toks _ _) r.dX (dq (aaR a w rr)) n))
def yg(Y:Ctx c K p Sy mg mb)(YG:FX c K g)(hS:K4 c f.L)(hL:K6 c f.L)(C:∀fa,AB false c fa d (g.call fa))
  (hb:AU o=true) (hline:(apos.endLine==pos.line)=true) (hfew:args.length+kws.length<29) (hn:c.nm n=nm) (D:Mc p kws=some ks) (h:SE c g f d xo o) (hr:Row c g f d x (args++kws.map (·.value))):
  SE c g f d (.Al xo n x ks) (.Call (.Attribute o nm apos) args kws pos):=by
 intro O J s A k Q r rm hev hp;rw[arm_eval_Call _ _ _ _ _ _ _,cQ hb, ←hn];show Zn (h O J s A _ _ r rm hev λgh₁ J₁ s₁ ov oa x₁ r₁ ho T=>?_);obtain⟨m,hm,T⟩:=ak T;show bY (fE Y pos f.env D) λa1 a2 a3 a4=>?_;have hst:(backTo pos (starEach args f.env)).all (λx=> !x.1)=true:=by
  have:=a6 pos f.env hr.cZ;rw[List.any_eq_false]at this;rw[propext Zv];intro y hy;simpa using this y hy
 have W:methodCallForm (args.length+kws.length) (backTo pos (starEach args f.env)) (backToKw pos (keywordEach kws f.env))=true:=by
  unfold methodCallForm;rw[hst,a1];simp only[XB,Yu];split<;>omega
 have hpos:methodCallPos true o f.env apos pos=pure pos:=by unfold methodCallPos;simp[hline]
 unfold methodCall;show W▸(Zn (Yz (Zn (ZY (mo Y.X YG r₁ ho hm λgh₂ s₂ fv first x₂ w V=>Zn (X7 hpos ?_))))));have S:((backTo pos (starEach args f.env)).any (·.1)||(backToKw pos (keywordEach kws f.env)).any (·.1.isNone))=false:=by(show(a6 pos f.env hr.cZ).symm▸ ?_;show a2.symm▸ ?_);rfl
 have t:=x₁.trans r r₁ x₂;induction m using M.casesOn with
 |fn fa v=>
  show eX V λzq0 u zq2 hu=>?_;clear V;subst zq0 zq2;show callWith_of (P:=λh=>K.In h/\fnIn K fa=true) S (λh hh=>keeps_K (jt hh.2) h hh.1) (bS Y D hr w rm T λZ I H vs xs G U b L D=>⟨⟨Y.X.keeps b.bN,YG.fn _ (ie D)⟩,?_⟩);show XI ?_;have:=eJ (A:=A) (R:=H0 Q) (vs:=u::vs) (C fa) b rm.toRoom (.cons (hu.mono U.le) L) D λe B F v y N E hv D=>hp e B F v y ((t.trans r w U).trans r b N) E hv D;rw[gm (c:=c) u G]at this;show this
 |own fa j=>
  obtain⟨rfl,q,a,ft,rfl,k1,k2⟩:=V;show callWith_of (P:=λh=>MethP K q fa (.ref a) h/\fnIn K fa=true) S (λh hh=>keeps_M hh.2 h hh.1) (bS Y D hr w rm T λZ I H vs xs G U b L D=>⟨⟨⟨b.Av _ _ (U.le.F _ _ k1),Y.X.keeps b.bN⟩,YG.fn _ (ie D)⟩,?_⟩);show XI (method_call (b.Av _ _ (U.le.F _ _ k1)) ?_);show zE (U.le.φ j a ft k2 λx=>a7 x) λft' k3=>?_;have:=eJ (A:=A) (R:=H0 Q) (vs:=.ref a::vs) (C fa) b rm.toRoom (.cons (show RV c.Aa c.w Z (.ref a) (.ob j) from(aU a ft' k3 rfl)) L) D λe B F v y N E hv D=>hp e B F v y ((t.trans r w U).trans r b N) E hv D;rw[gm (c:=c) (.ref a) G]at this;show this
 |str z=>
  obtain⟨rfl,rfl,h2,h9,u,rfl,hu⟩:=V;obtain rfl:=jr D;show Xz (a6 pos f.env hr.cZ) (bS (kws:=[]) Y D hr w rm T λZ I H vs xs G U b L D=>?_);rw[aR];obtain⟨fs,hfs,D⟩:=ak D;show hS n Z I H A _ Q u z vs fs h2 h9 b rm.hd (RF.mono U.le.F hu) (qK b L hfs) D λe B F v y N E hv D=>hp e B F v y ((t.trans r w U).trans r b N) E hv D
 |dg z=>
  obtain⟨rfl,rfl,u,rfl,hu⟩:=V;clear hfew a1 a2 W S a3 a4;obtain rfl:=jr D;show Xz (a6 pos f.env hr.cZ) (bS (kws:=[]) Y D hr w rm T λZ I H vs xs G U b L D=>?_);rw[aR];obtain⟨fs,hfs,D⟩:=ak D;show vV (k:=k) b (RF.mono U.le.F hu) (jS b L hfs) D λe B F v y N E hv D=>hp e B F v y ((t.trans r w U).trans r b N) E hv D
 |lst i=>
  obtain⟨rfl,rfl,h1,a,ft,rfl,ha⟩:=V;obtain rfl:=jr D;show Xz (a6 pos f.env hr.cZ) (bS (kws:=[]) Y D hr w rm T λZ I H vs xs G U b L D=>?_);rw[aR];obtain⟨l,hl,D⟩:=ak D;have hl:=uX hl
  ·show zE (U.le.f ha) λft' e'=>hL n Z I H A _ Q i a ft' l vs xs h1 b e' hl L D λe B F v y N E hv D=>hp e B F v y ((t.trans r w U).trans r b N) E hv D
def yM(X:K.In c.base)(E:FX c K g)(C:∀a,AB false c a d (g.call a)):Ku c g L d:=by
 intro O J s A x a W v k Q r w V n h I;show fg (E.con x a n) λD T M G o S q=>aA r.loc.nm λm N Y=>?_;have e:=X.keeps r.bN;show contains_K (r.fr N) X (show InstAt s.heap x (FE D (some T)) D (some M) from⟨e _ _ G,rfl,rfl,e _ _ o⟩) S q (XI ?_);have:=eJ (R:=H0 λi F=>wpAny (model c.Aa c.w) A (truthy i) Q Bl F) (C a) r w.toRoom (.cons (show RV c.Aa c.w O (.ref x) (.st x) from rfl) (.cons V .nil)) h λZ l j i y U P u b=>?_
 ·rw[aR]at this;show this
 obtain⟨t,H,b⟩:=ak b;show dD P u H λB z=>I Z l _ t (U.trans r P (.toks false B)) (P.toks z) b
def Rel.give{O:Gh}(r:Rel c O L J s){ft:List WD}{o:AO}(E:O.φ i=none)(hi:i<J.m)(n:∀x∈ft,O.F x=none/\¬L.CN x/\¬AD O x/\∃o,s.heap.get? x=some o)
  (S:RO c.Aa c.w c.nm (O.at i (a,ft)) s.heap a ft o):Rel c (O.at i (a,ft)) L (As J ((i,o)::J.H)) s/\Le false O (O.at i (a,ft)):=by
 have H:∀ {j:Nat} {p:WD×List WD},O.φ j=some p->j≠i:=λe q=>by rw[q,E]at e;show aw e
 have B:Le false O (O.at i (a,ft)):=⟨λZ Z e=>e,λj b l e Z=>(yE l ((Gh.bc (H e)).trans e))⟩
 have U:∀ {j:Nat} {b:WD} {l:List WD} {x:WD},O.φ j=some (b,l)->x∈l->x∉ft:=λe F q=>(n _ q).2.2.1 (ay _ _ _ e F);show⟨⟨r.Av,λj N Q=>?_,λj k b l d fd Q y D x h m=>?_,λx t=>?_,r.nL,?_,λj Q=>?_,r.DY,λj p Q C=>?_,r.base,r.Lb,r.tk⟩,B⟩
 ·have P:Sx j ((i,o)::J.H)=some N:=Q;rw[aq]at P;by_cases q:j=i
  ·rw[Zk q]at P;clear Q;obtain rfl:=Zf P;show(aU _ _ (by show q▸ ?_;show Gh.bf) S)
  ·rw[Zi q]at P;show aX (r.obs j N P) λb l e R=>(aU b l ((Gh.bc (q)).trans e) (R.step B λx Z o M=>M))
 ·by_cases q:j=i<;>by_cases A:k=i
  ·show D (q.trans A.symm)
  ·have I:=Gh.bf.symm.trans (q▸Q);cases I;show U ((Gh.bc A).symm.trans y) m h
  ·have G:=Gh.bf.symm.trans (A▸y);cases G;show U ((Gh.bc q).symm.trans Q) h m
  ·show r.sep j k b l d fd (show O.φ j=some (b,l) from(Gh.bc q).symm.trans Q) (show O.φ k=some (d,fd) from(Gh.bc A).symm.trans y) D x h m
 ·rcases t.at_ with z|⟨j,b,l,_,e,z⟩
  ·show bY (n x z) λu v Z w=>⟨u,v,w⟩
  ·show r.off x (ay j b l e z)
 ·show r.loc.step B λZ Z=>av λZ e=>e
 ·have:j≠i:=λq=>by have Q:J.m<=j:=Q;lia
  change(if j=i then _ else O.φ j)=none;rw[Zi this];show r.new j Q
 ·change∃N,Sx j ((i,o)::J.H)=some N;rw[aq];by_cases q:j=i
  ·show(yE o (by rw[Zk q]))
  ·rw[Zi q];show r.CZ j p ((Gh.bc q).symm.trans Q) C
def Room.make(h:Room U (d+1) A)(C:WD)(Z:TN)(P:TO):Room U d (A.under (.builtin "type.__call__" ⟨.ref C::Z,P⟩)):=
 ⟨h.hd,by show aA h.fr λy e h=>?_;show(aO y (by change pushEnvs [] A.frames=_;rw[e];rfl) h),by have:=h.Fs;change A.depth+1+d<_;show Zh (Z1 (Zz (ZZ _ 1 _))) this,by have:=h.un;change A.units+1+16*d+64<_;lia⟩
def sN(h:HN g C u J k):Sx (g.FI C) J.H=none/\Mm (g.Jy C) λf=>BL g f (.ob (g.FI C)::u) [] (As J (J.H++[(g.FI C,.inst C [])])) λv j=>S7 (LK v) (k (.ob (g.FI C)) j) False:=by
 unfold HN at h;cases q:Sx (g.FI C) J.H with
 |none=>rw[q]at h;show⟨rfl,ak h⟩
 |some _=>rw[q]at h;show h.elim
def aaJ{O:Gh}(h:LK y=true)(N:RV c.Aa c.w O v y):v=.none:=by
 induction y using V.casesOn with
 |c f=>
  induction f using FV.casesOn with
  |Ak=>show RF.x N
  |_=>show a7 h
 |_=>show a7 h
def aaj(XK:K.In c.base)(Y:FX c K g){A:Wz}{C:WD}{O:Gh}{k:TC}{Q:Wv->Ww->Prop}(CC:∀X,AB false c X d (g.call X))(r:Rel c O L J s)(rm:Room L.all (d+1) A)
  (M:Cw c.Aa c.w O Z xs) (h:HN g C xs J k) (hp:B2 c L O s k Q):codeAny (model c.Aa c.w) A (.call (.ref C) ⟨Z,[]⟩) (H0 Q) s:=by
 show zA (sN h) λU I=>?_;obtain⟨T,G,h⟩:=I;show ir (Y.Jy C T G) λm1 m2 m3 m4 m5=>?_;have H:=XK.keeps r.bN;have S:O.φ (g.FI C)=none:=by
  cases q:O.φ (g.FI C)with
  |none=>rfl
  |some p=>show zE (r.CZ _ p q m5) λo e=>?_;rw[U]at e;show aw e
 have r2:=(r.push emptyDict).push (instObj C s.heap.objs.size);have u:s.heap.get? s.heap.objs.size=none:=aF (Zq _);have B:s.heap.get? (s.heap.objs.size+1)=none:=aF (YX _);have hD:((s.heap.push emptyDict).push (instObj C s.heap.objs.size)).get? s.heap.objs.size=some emptyDict:=Zw _ (ZL _ rfl);have hI:((s.heap.push emptyDict).push (instObj C s.heap.objs.size)).get? (s.heap.objs.size+1)=some (instObj C s.heap.objs.size):=by
  have:=ZL (s.heap.push emptyDict) (o:=instObj C s.heap.objs.size) rfl
  rwa [Heap.size_push]at this
 show zA (r2.give (o:=.inst C []) (a:=s.heap.objs.size+1) (ft:=[s.heap.objs.size+1,s.heap.objs.size]) S (ZJ m5 r.DY)
  (λx P=>by
   rcases Zb P with rfl|P
   ·have w:=r.free B;show⟨w.1,w.2.1,w.2.2,yE _ hI⟩
   ·obtain rfl:=Za P;have w:=r.free u;show⟨w.1,w.2.1,w.2.2,yE _ hD⟩)
  (aM s.heap.objs.size [] 0 rfl (Nat.succ_ne_self _) hI hD .nil)) λr3 l3=>?_
 have x3:Ext false L O s (O.at (g.FI C) (s.heap.objs.size+1,[s.heap.objs.size+1,s.heap.objs.size])) {s with heap:=(s.heap.push emptyDict).push (instObj C s.heap.objs.size)}:=by
  show⟨l3,λx o e E E=>Zw _ (Zw _ e),.of λE E E e=>Zw _ (Zw _ e),λx P=>?_,λx o e=>.inl e,GK.refl _,rfl,rfl⟩;rcases P.at_ with z|⟨j,b,fb,_,e,z⟩
  ·rcases Zb z with rfl|z
   ·show .inr B
   ·show(Za z).symm▸(.inr u)
  ·show .inl (ay j b fb e z)
 have m:RV c.Aa c.w (O.at (g.FI C) (s.heap.objs.size+1,[s.heap.objs.size+1,s.heap.objs.size])) (.ref (s.heap.objs.size+1)) (.ob (g.FI C)):=(aU _ _ Gh.bf rfl)
 obtain⟨W,gs,dr,tk,os⟩:=s;show make_core (makes_of H m1) (looks_findIn H m2) (λl=>bind_fn H l m3) (.inl rfl) ?_;have:=eJ (A:=A.under (.builtin "type.__call__" ⟨.ref C::Z,[]⟩)) (R:=InitBack (W.objs.size+1) (H0 Q)) (CC T) (r3.nO (jl _ _ U)) (rm.make C Z []) (.cons m (M.mono l3)) h λi n D v y N t M F=>?_
 ·rw[aR]at this;show this
 ·show zA (qL F) λhz F=>?_
  ·obtain rfl:v=.none:=aaJ hz M;show⟨rfl,hp i n D _ (.ob (g.FI C)) (x3.trans r (r3.nO (jl _ _ U)) N) t (show RV c.Aa c.w i (.ref (W.objs.size+1)) (.ob (g.FI C)) from RV.mono N.le m) F⟩
def abR(Y:Ctx c K p Sy mg mb)(S:FX c K g)(T:∀M,AB false c M d (g.call M))(hl:B8 f.cs nm=true)(W:p.Gw nm=some (.st C))(h:Row c g f (d+1) x U):
  SE c g f (d+1) (.new C x) (.Call (.Name nm pos') U [] pos):=by
 intro O J s A k Q r q E hp;show wpAny_Call_Name_kw (nc (g:=g) Y hl W O J s A (λv J=>v=.st C/\SU g (.new C x) J (one k)) _ r q ⟨rfl,E⟩ λB I R v z i b F h=>?_);obtain⟨rfl,a⟩:=h;subst F;have L:Row c g f (d+1) x (U++([]:List WI).map (·.value)):=by simpa using h
 have a:=a;show callWith_of (P:=λh=>K.In h/\keepIn K (.ref C)=true) (by show(a6 pos f.env L.cZ).symm▸ ?_;rfl)
  (λh u=>keeps_K u.2 h u.1) (bS Y rfl L b q a λt H G vs xs uu N D n a=>⟨⟨Y.X.keeps D.bN,?_⟩,?_⟩)
 ·show zA (sN a) λuu w=>?_;obtain⟨V,o,_⟩:=w;show(S.Jy C V o).2.2.2.1
 ·rw[aR];show XI (aaj Y.X S T D q.toRoom n a λZ l j v y e m F a=>hp Z l j v y ((i.trans r b N).trans r D e) m F a)
variable {L:Loc}{J:St}{s:Ww}
def iD(r:Rel c O L J s)(b:RV c.Aa c.w O y ox)(hi:RV c.Aa c.w O D ix)(B:RV c.Aa c.w O v x)
  (h:El ox ix x J k) (w:∀l Z j,Ext false L O s l j->Rel c l L Z j->k Z->Q () j):wpAny (model c.Aa c.w) A (setItem y D v) Q Bl s:=by
 obtain⟨n,u,U⟩:=ak h;clear h;obtain rfl:=lD u;obtain⟨f,u,N⟩:=ak U;clear U;obtain rfl:=f7 u;obtain⟨o,q,h⟩:=ak N;clear N;show aX b λa ft e z=>?_;clear b;subst z;induction o using AO.casesOn with
 |An C=>
  obtain⟨key,u,h⟩:=ak h;show zA (qL h) λP h=>?_;obtain⟨t,rfl,_⟩:=RF.aS hi u;show vS r e q B (bz P) λl j i m=>w _ _ _ i m h
 |_=>show h.elim
def xZ(hc:Ci e=false)(h:SE c g f d x e)(h':SE c g f d y o)(R:SE c g f d z i):
  SS c g f d (.Jk y z x) (.Assign [.Subscript o i pos'] e pos):=by
 intro O J s A k Q r S V hp;show wpAny_Assign_Subscript (h O J s A _ _ r S V λZ E l v a H U hv t=>h' Z E l A _ _ U S t λj B w u b I D hu t=>R j B w A _ _ D S t λM Y W iv ia n P T t=>?_) (eZ hc _ _ _);have m:=I.trans U D n;show iD P (hu.mono n.le) T (hv.mono m.le) t λq C G N F t=>hp q C G .next .AZ ((H.trans r U m).trans r P N).w F rfl t
def vo{M:Model}(h:SubscriptOn M A o i Q E s):wpAny M A (getItem o i) Q E s:=h.elim λZ h=>h.elim λZ h=>h.2.2
def qN(h:(match i with| .Slice .. =>false|_=>true)=true)(y D new:Wv):augStore i y D new=(do holding [new,y,D] (setItem y D new);release [new,y,D] [];pure .next):=by
 obtain⟨⟩:=i<;>first|rfl|cases h
def xU(hs:(match i with| .Slice .. =>false|_=>true)=true)(hi:MH c d f.L op q)(h:SE c g f d x e)(h':SE c g f d y o)(h'':SE c g f d z i):
  SS c g f d (.Kk y z q x) (.AugAssign (.Subscript o i pos') op e pos):=by
 intro O J s A k Q r rm hev hp;show wpAny_AugAssign_SubscriptAny (h' O J s A _ _ r rm hev λE G l ov oa V B ho n=>h'' E G l A _ _ B rm n λj F s₂ iv ia N D M n=>?_) (qN hs);show vo (sk D (ho.mono N.le) M n λw z tk ht hw n=>h j F _ A _ _ (D.toks ht) rm n λZ S R v a U P hv n=>hi Z S R A _ _ w v z a P rm (hw.mono U.le) hv n λgh₄ J₄ s₄ u b H t hu n=>?_)
 ·have m:=(Ext.trans' (D.toks ht) (Ext.toks false tk) U).trans D P H;show iD t ((ho.mono N.le).mono m.le) (M.mono m.le) hu n λC I Y W T n=>hp C I Y .next .AZ (((V.trans r B N).trans r D m).trans r t W).w T rfl n
def Rel.more(r:Rel c O L J s){l:WH}{a:Nat}(k:0<a)(D:∀x o,s.heap.get? x=some o->l.get? x=some o):Rel c O L J {s with heap:=l,toks:=a}/\Ext false L O s O {s with heap:=l,toks:=a}:=by
 show⟨⟨λx N e=>D x N (r.Av x N e),λj N i=>?_,r.sep,λx P=>?_,r.nL,r.loc.step (.refl _ _) λx Z=>av (D x),r.new,r.DY,r.CZ,r.base,r.Lb,k⟩,⟨.refl _ _,λZ Z e Z Z=>D _ _ e,.of λx Z=>D x,λZ h=>.inl h,λZ Z h=>.inl h,GK.refl _,rfl,rfl⟩⟩
 ·show aX (r.obs j N i) λb m e Q=>(aU b m e (Q.step (.refl _ _) λx Z o A=>D x o A))
 ·show cV (r.off x P) λu v N w=>⟨u,v,yE N (D x N w)⟩
inductive TS (c:Cx) (g:G) (f:Fm) (d:Nat) (p:CP):List (Option X×Nat)->List WE->Prop
 |nil:TS c g f d p [] []
 |nm {n:Nat} {x:Wu} {pos:Pos} {ts:List (Option X×Nat)} {es:List WE}:Hu f x->p.code x=some n->TS c g f d p ts es->TS c g f d p ((none,n)::ts) (.Name x pos::es)
 |Bb {n:Nat} {x:X} {o:WE} {nm:Wu} {pos:Pos} {ts:List (Option X×Nat)} {es:List WE}:c.nm n=nm->SE c g f d x o->TS c g f d p ts es->TS c g f d p ((some x,n)::ts) (.Attribute o nm pos::es)
def TS.each(h:TS c g f d p v y)(env:Env):(assignEach y env).length=y.length/\(assignEach y env).findIdx? (·.1)=none/\v.length=y.length:=by
 induction h with
 |nil=>show⟨rfl,rfl,rfl⟩
 |nm _ _ _ Q=>
  show cu Q λa b d=>⟨T3 (· +1) a,?_,T3 (· +1) d⟩
  rw[List.findIdx?_cons,b];rfl
 |Bb _ _ _ Q=>
  show cu Q λa b d=>⟨T3 (· +1) a,?_,T3 (· +1) d⟩
  rw[List.findIdx?_cons,b];rfl
def aag(Y:Ctx c K p Sy mg mb)(YG:FX c K g)(u:∀n,g.canon n<64)(rm:Ay f.L d A)(h:TS c g f d p y es):
  ∀ {O:Gh} {J:St} {s:Ww} {Z:TN} {l:Tz} {k:TF} {Q:Unit->Ww->Prop},Rel c O f.L J s->Ba c.Aa c.w O.F Z l->Ms g y l J k->
   (∀e m j,Ext false f.L O s e j->Rel c e f.L m j->k m->Q () j)->wpAny (model c.Aa c.w) A (assignInOrder ((assignEach es f.env).map (·.2)) Z) Q Bl s:=by
 induction h with
 |nil=>
  intro O J s Z l k Q r N a q;induction l using Re with
  |nil=>obtain rfl:=N.inv;show ZE (q O J s (.refl _ _ _ _) r a)
  |cons _ _=>show False.elim a
 | @nm n x pos y es hl W _ C=>
  intro O J s Z l k Q r N a q;induction l using Re with
  |nil=>show False.elim a
  |cons fv l=>
   obtain⟨v,Z,rfl,B,w⟩:=N.inv;show Zn (ZY (PyProof.Rows.assign_Name (cN Y hl W r (dq B) λs1 x1 R=>C R w a λe m j F H i=>q e m j (x1.trans r R F) H i)))
 | @Bb n x o nm pos y es V T _ C=>
  intro O J s Z l k Q r N a q;induction l using Re with
  |nil=>show False.elim a
  |cons fv l=>
   obtain⟨v,Z,rfl,B,w⟩:=N.inv;show Zn (ZY ?_);show Zn (ZY (T O J s A _ _ r rm a λG M S ov oa z U ho i=>Zn (Yz (Zn (ZY (V▸(eH Y.X YG u U ho (dq (RF.mono z.le.F B)) i λE I P t D i=>?_)))))));have b:=z.trans r U t;show wpAny_release (C D (Ba.mono b.le.F w) i λe m j F H i=>q e m j (b.trans r D F) H i)
def iZ(h:I4 z=false)(env:Env):swappedStores [.Tuple y j Q] z env=pure none:=by
 obtain⟨⟩:=z<;>first|rfl|cases h
def xY(Y:Ctx c K p Sy mg mb)(V:FX c K g)(b:∀n,g.canon n<64)(S:Ci e=false)(ht:I4 e=false)(P:TS c g f d p ts y)(h:SE c g f d x e):
  SS c g f d (.GC ts x) (.Assign [.Tuple y j tpos] e pos):=by
 intro O J s A k Q r m N hp;show PyProof.Rows.Assign_Tuple (h O J s A _ _ r m N λZ w E v a z U hv D=>?_) (eZ S (.Tuple y j tpos) pos.line f.env) (iZ ht _);obtain⟨q,t,F⟩:=ak D;clear D;obtain rfl:=f7 t;obtain⟨l,t,C⟩:=ak F;clear F;obtain rfl:=xN t;show zA (qL C) λu D=>?_;clear C;obtain⟨a,vs,o,rfl,I,⟨n,rfl⟩,B,hb⟩:=RF.x hv;show cu (P.each f.env) λR H e3=>assign_Tuple_tuple m.hd (gF _ (U.Av _ _ I) rfl n rfl) ?_ H λh' G=>?_
 ·rw[R,ZP,B.len, ←(ZC u),e3]
 ·show zA (U.more U.tk λx o e=>G x o (Z3 (Yk e)) e) λr2 M=>aag Y V b m P r2 B D λi T W x' r' D=>hp i T W .next .AZ ((z.trans r U M).trans r r2 x').w r' rfl D
def Rel.v9(r:Rel c O L J s){a:Nat}(C:0<a)(D:∀x o,x≠L.ns->s.heap.get? x=some o->l.get? x=some o)(A:l.Ns L.ns m)(k:∀n v,Sx n J.L=some v->∃w,L.Sh s.heap m (c.nm n) w/\RV c.Aa c.w O w v):
  Rel c O L J {s with heap:=l,toks:=a}/\Ext false L O s O {s with heap:=l,toks:=a}:=by
 have U:∀ {x},¬L.CN x->x≠L.ns:=λh q=>h (q▸Loc.cx);show⟨⟨λx N e=>D x N (λq=>by replace e:=q▸e;replace e:=(r.nL _ Loc.cx)▸e;show aw e) (r.Av x N e),λj N B=>?_,r.sep,λx P=>?_,r.nL,r.loc.via A k λy Z q o e=>D y o q e,r.new,r.DY,r.CZ,r.base,r.Lb,C⟩,
  ⟨.refl _ _,λZ Z e q Z=>D _ _ (λz=>q (.inl (z▸ .head _))) e,.of λx P o e=>D x o (λq=>r.loc.nu (q▸P)) e,λZ h=>.inl h,λZ Z h=>.inl h,GK.refl _,rfl,rfl⟩⟩
 ·show aX (r.obs j N B) λb i e Q=>(aU b i e (Q.step (.refl _ _) λx P o t=>D x o (U (r.off x (ay j b i e P)).2.1) t))
 ·show cV (r.off x P) λu v N w=>⟨u,v,yE N (D x N (U v) w)⟩
def Ba.rep{N:WA}(h:Ba N w F Z l):∀n,Ba N w F (List.replicate n Z).flatten (List.replicate n l).flatten:=by
 intro n;induction n with
 |zero=>
  show .nil
 |succ n Q=>
  (((show List.replicate_succ▸ ?_;show List.replicate_succ▸ ?_);show XG▸ ?_);show XG▸ ?_)
  show Ba.append Q h
def tX(Z:TN):∀(n:Nat) (a:Array Wv),List.foldl (λP z=>P++z) a (List.replicate n Z.toArray)=a++(List.replicate n Z).flatten.toArray:=by
 intro n;induction n with
 |zero=>
  intro a;rfl
 |succ n Q=>
  intro a;rw[Q,XG];simp
def OD(c:Cx)(d:Nat)(L:Loc)(D:Operator)(o:Nat):Prop:=
 ∀O J s A k Q v u a b,Rel c O L J s->Ay L d A->RV c.Aa c.w O v a->RV c.Aa c.w O u b->Fv o a b J k->B2 c L O s k Q->wpAny (model c.Aa c.w) A (binaryOp D v u) Q Bl s
def qX(z:Holds F s.heap)(h:RF c.Aa c.w F v (.tup l)):∃a Z n,v=.ref a/\s.heap.get? a=some {cls:=.type "tuple",data:=.seq Z n}/\Ba c.Aa c.w F Z.toList l:=by
 obtain⟨a,Z,o,rfl,e,⟨n,rfl⟩,r,b⟩:=h.x;show(b4 a Z.toArray n rfl (z _ _ e) (by simpa using r))
def pa(r:Rel c O L J s)(N:RV c.Aa c.w O v x)(h:CE J.H x=some (.tup q)):RF c.Aa c.w O.F v (.tup q):=by
 induction x using V.casesOn with
 |c f=>obtain rfl:=Zf h;show N
 |st _=>show aw h
 |E9 _ _=>show aw h
 |ob i=>
  show aX N λa ft e z=>?_;clear N;subst z;show aA (ax h) λo A h=>?_;induction o using AO.casesOn with
  |Av j=>obtain rfl:=Zf h;show(r.ob e A).2
  |lst l=>show aw (T3 (λo=>Af o S8) h)
  |_=>show aw h
def dU(q:Mb D=some o)(r:Rel c O L J s)(m:RV c.Aa c.w O v a)(Z:RV c.Aa c.w O u b)(P:CE J.H a=some l)(n:CE J.H b=some U)
  (h:Og o l U λr=>k (.c r) J) (j:B2 c L O s k Q):wpAny (model c.Aa c.w) A (binaryOp D v u) Q Bl s:=by
 show bM (eM r m Z P n) λF C e x=>aN r.tk (aao (O:=O) (L:=L) (J:=J) q e x h λw z B i t N=>j O J _ w (.c z) (.toks _ _) (r.toks N) (i _) t)
def e8(N:0<Z)(r:Rel c O L J s)(b:Ba c.Aa c.w O.F v l)(D:l.length<=16777216)(h:Ce (.lst l) J k)(j:B2 c L O s k Q):
  Q (.ref s.heap.objs.size) {s with heap:=s.heap.push {cls:=.type "list",data:=.seq v.toArray},toks:=Z}:=by
 show zA ((r.toks N).alloc (o':=.lst l) rfl
  ⟨rfl,bG _ v (ZL _ rfl) (yE 0 rfl) (Ba.mono (λa a e=>e) b) D⟩) λU P=>?_
 show j _ _ _ _ (.ob J.m) ((Ext.toks false Z).trans r (r.toks N) P) U (aU s.heap.objs.size [s.heap.objs.size] ?_ rfl) h;change(if J.m=J.m then _ else _)=_;rw[Zk rfl]
def aeB(r:Rel c O L J s)(N:RV c.Aa c.w O v a)(Z:RV c.Aa c.w O u b)(e:CE J.H a=some (.lst x))(m:CE J.H b=some (.lst y))
  (l:x.length+y.length<=16777216) (n:Ce (.lst (x++y)) J k) (j:B2 c L O s k Q):wpAny (model c.Aa c.w) A (binaryOp .Add v u) Q Bl s:=by
 show aK (cG r N e) λo Sp t z i U D B=>?_;subst z;obtain⟨n1,rfl⟩:=U;show aK (cG r Z m) λw So q z h U r2 C=>?_;subst z;obtain⟨n2,rfl⟩:=U;show P.add_list i h ?_ (by rw[ZP,ZP,D.len,r2.len,YE];show l);rw[List.append_toArray];show e8 r.tk r (Ba.append r2 D) (by rw[Zg];show l) n j
def aeA(r:Rel c O L J s)(N:RV c.Aa c.w O v a)(Z:RV c.Aa c.w O u b)(o:CE J.H a=some (.tup x))(F:CE J.H b=some (.tup y))
  (m:and (BE x) (BE y)=true) (i:x.length+y.length<=16777216) (B:k (.c (.tup (x++y))) J) (E:B2 c L O s k Q):wpAny (model c.Aa c.w) A (binaryOp .Add v u) Q Bl s:=by
 have m:=(Zp _ _).mp m;show cH (qX r.holds (pa r N o)) λG H n1 z U D=>?_;clear N;subst z;show cH (qX r.holds (pa r Z F)) λM I n2 z t r2=>?_;clear Z;subst z;have l1:=D.len;have l2:=r2.len;rw[Y8]at l1 l2;have j:∀ {l:Tz} {w:Array Wv},BE l=true->w.size=l.length->¬w.isEmpty=true:=λ{l w} h e q=>by
  induction l using Re with
  |nil=>show a7 h
  |cons _ _=>replace e:=(Array.isEmpty_iff_size_eq_zero.mp q)▸e;cases e
 show P.add_tuple U t (j m.1 l1) (j m.2 l2) ?_ (by((show l1▸ ?_;show l2▸ ?_);show YE▸ ?_);show i);show zA (r.m8 rfl) λC n=>E _ _ _ _ (.c (.tup (x++y))) n C (dq (.tup (Zk rfl) ⟨0,by simp⟩ (Ba.mono n.le.F (Ba.append r2 D)) (by show Zg▸ ?_;show i))) B
def acX{k:TC}{Q:Wv->Ww->Prop}(r:Rel c O L J s)(X:RV c.Aa c.w O v a)(Y:CE J.H a=some (.lst x))
  (G: -(2 ^ 63:Int)<=n) (M:n<2 ^ 63) (l:x.length*n.toNat<=16777216) (hk:Ce (.lst (List.replicate n.toNat x).flatten) J k) (hp:B2 c L O s k Q):wpAny (model c.Aa c.w) A (binaryOp .Mult v (.int n t)) Q Bl s:=by
 show aK (cG r X Y) λa1 Sp Z C T U D b1=>?_;clear X;subst C;obtain⟨n1,rfl⟩:=U;show aA r.loc.nm λm N hm=>mul_list (fr0 N) (yB (bad:=[L.ns]) (.head _)) T G M (by rw[ZP,D.len];show l) λh' F' F=>?_;have w:=(F _ (.head _)).1;show zA (r.v9 r.tk (λy o P ho=>(F (y,o) (.tail _ (dK.mpr ⟨by show notIn_one P,ho⟩))).1) F'.ns hm) λr2 i=>?_;have u:s.heap.get? s.heap.objs.size=none:=aF (Zq _);show cu (r.free u) λI R B=>?_;have h:(List.foldl (λx1 i=>x1++i) #[] (List.replicate (if Z.toArray.isEmpty=true then 0 else n.toNat) Z.toArray))=(List.replicate n.toNat Z).flatten.toArray:=by
  rw[tX];split
  ·rename_i S;have:Z=[]:=by simpa using S
   clear D T F w S;subst this;simp
  ·simp
 have E:Le false O (O.at J.m (s.heap.objs.size,[s.heap.objs.size])):=⟨λW W e=>e,λj b H e W=>(yE H (by
  have:j≠J.m:=λq=>by rw[q,r.new J.m (Zq _)]at e;show aw e
  show(Gh.bc (this)).trans e))⟩
 show cu (r2.adopt (o':=.lst (List.replicate n.toNat x).flatten) (tk:=s.toks) r.tk (yE _ w) I R B (Heap.SameBut.refl _ _) (yE _ w)
  ⟨rfl,bG _ (List.replicate n.toNat Z).flatten w (yE 0 (by rw[h])) (Ba.mono E.F (Ba.rep D _)) (by rw[show((List.replicate n.toNat x).flatten).length=n.toNat*x.length from lm_len_rep_flat x n.toNat,Nat.mul_comm];show l)⟩) λr3 l3 k3=>?_
 show hp _ _ _ _ (.ob J.m) ⟨l3,λy o e hl hf=>i.keep y o e hl hf,i.EN,λy P=>?_,λy o e=>.inl e,GK.refl _,rfl,rfl⟩ r3 (aU s.heap.objs.size [s.heap.objs.size] ?_ rfl) hk
 ·rcases P.at_ with z|⟨j,b,H,_,e,z⟩
  ·rw[Za z];show .inr u
  ·show .inl (ay j b H e z)
 ·change(if J.m=J.m then _ else _)=_;rw[Zk rfl]
def ab4(m:Mb op=some o):OD c d L op o:=by
 intro O J s A k Q v u a b r M N Z h j;obtain⟨G,P,U⟩:=ak h;obtain⟨I,i,U⟩:=ak U;clear h;cases op with
 |Add=>
  cases m;induction G using FV.casesOn with
  |lst x=>
   obtain⟨y,e,l,D⟩:=ak U;clear U;obtain rfl:=m9 e;show aeB r N Z P i l D j
  |tup x=>
   obtain⟨y,e,⟨H,l⟩,D⟩:=ak U;clear U;obtain rfl:=xN e;show aeA r N Z P i H l D j
  |_=>show dU rfl r N Z P i U j
 |Mult=>
  obtain rfl:=Zf m;obtain⟨x,e,U⟩:=ak U;obtain⟨n,E,⟨⟨q,B⟩,l⟩,D⟩:=ak U;obtain rfl:=m9 e;show bM (cq r Z i) λF z R C=>?_;show zE (C.aI E) λt w=>?_;clear Z C;subst w;show acX r N P q B l D j
 |Sub=>obtain rfl:=Zf m;show dU rfl r N Z P i U j
 |Mod=>obtain rfl:=Zf m;show dU rfl r N Z P i U j
 |FloorDiv=>obtain rfl:=Zf m;show dU rfl r N Z P i U j
 |_=>cases m
end
set_option backward.match.sparseCases false
section
open Builtin.Str
def abp(n:Nat)(i:Int):DL n i<=n:=by
 unfold DL;by_cases h:0<=i
 ·rw[Zr h];show Yt _ _
 ·rw[Zs h];lia
def pb(n:Nat)(i:Int):max 0 (min (if i<0 then i+n else i) (n:Int))=(DL n i:Int):=by
 unfold DL;by_cases h:0<=i
 ·rw[Zi (Int.not_lt_of_ge h)];show zE (Int.eq_ofNat_of_zero_le h) λk Q=>?_;subst Q;rw[Yv];rcases Nat.le_total k n with q|q
  ·rw[ZO q,Int.min_eq_left (Int.ofNat_le.mpr q)];show Int.max_eq_right (Yx k)
  ·rw[Nat.min_eq_right q,Int.min_eq_right (Int.ofNat_le.mpr q)];show Int.max_eq_right (Yx n)
 ·rw[Zs h,Zk (Int.lt_of_not_ge h)];rw[Int.min_eq_left (by lia),Int.ofNat_toNat,Int.max_comm]
def Il(n:Nat)(a:TZ):Nat:=Option.rec 0 (λi=>DL n i) a
def Jz(n:Nat)(b:TZ):Nat:=Option.rec n (λj=>DL n j) b
def cM{y:Type}(l:List y)(a b:TZ):slice l a b=(l.take (Jz l.length b)).drop (Il l.length a):=rfl
def mF(n:Nat)(b:TZ):Jz n b<=n:=by
 induction b using Option.casesOn with
 |none=>show Zq _
 |some j=>show abp n j
def ko(lo hi:Nat):sliceRange (lo:Int) (hi:Int) 1=(List.range (hi-lo)).map (λk=>lo+k):=by
 simp only[sliceRange,(by show eq_true_of_decide rfl:((1:Int)>0)=True),if_true];by_cases N:(lo:Int)<hi
 ·have D:(((hi:Int)-lo+1-1) / 1).toNat=hi-lo:=by rw[Int.add_sub_cancel,Int.ediv_one];show Int.toNat_sub hi lo
  simp only[N,if_true,D];show List.map_congr_left λk Z=>?_;show T3 (λz=>Int.toNat ((_:Nat)+z)) (Int.one_mul _)
 ·have:hi-lo=0:=Nat.sub_eq_zero_of_le (Int.ofNat_le.mp (Int.not_lt.mp N));simp[N,this]
def nX{y:Type}(l:List y)(a b:TZ):((List.range (Jz l.length b-Il l.length a)).map λk=>Il l.length a+k).filterMap (l[·]?)=slice l a b:=by
 rw[cM];have h:=mF l.length b;by_cases k:Il l.length a<=Jz l.length b
 ·rw[StrLaws.picks l _ _ (Zh (Zz (YV k)) h),Wf]
 ·rw[show Jz l.length b-Il l.length a=0 from Nat.sub_eq_zero_of_le (Nat.le_of_not_le k),YD (by rw[ZG];show Zh (X5 _ _) (Nat.le_of_not_le k))];rfl
def nI(l:WJ)(a b:TZ):strSliceIndices a b 1 (⟨l.toArray⟩:Wu).length=(List.range (Jz l.length b-Il l.length a)).map (λk=>Il l.length a+k):=by
 rw[←ko];have D:(⟨l.toArray⟩:Wu).length=l.length:=by change l.toArray.size=_;rfl
 rw[D];unfold strSliceIndices Il Jz;induction a<;>induction b<;>simp only[pb]<;>rfl
def rt(l:WJ)(a b:TZ):((strSliceIndices a b 1 (⟨l.toArray⟩:Wu).length).filterMap ((⟨l.toArray⟩:Wu).cps[·]?)).toArray=(slice l a b).toArray:=by
 rw[nI];show(nX l a b)▸ ?_;rw[show((⟨l.toArray⟩:Wu).cps[·]?)=λx:Nat=>l[x]? from funext λx=>by simp]
def qf(Z:TN)(a b:TZ):slicePick Z.toArray a b none=(slice Z a b).toArray:=by
 unfold slicePick;have e:sliceRange (sliceBounds a b none Z.toArray.size).1 (sliceBounds a b none Z.toArray.size).2.1 (sliceBounds a b none Z.toArray.size).2.2=(List.range (Jz Z.length b-Il Z.length a)).map (λk=>Il Z.length a+k):=by
  rw[←ko,ZP];unfold sliceBounds Il Jz;induction a<;>induction b<;>simp only[pb]<;>rfl
 rw[e, ←nX Z a b];rw[show(Z.toArray[·]?)=λx:Nat=>Z[x]? from funext λx=>by simp]
def kg{y:Type}{l:List y}(h:(slice l a b).length=l.length):slice l a b=l:=by
 rw[cM]at h⊢;have u:=mF l.length b;rw[ZM,ZG]at h;induction l using Re with
 |nil=>simp
 |cons x r=>
  have U:Il (x::r).length a=0:=by simp only[Zj]at h⊢;show Nat.eq_zero_of_not_pos λq=>Nat.not_le_of_gt (Nat.sub_lt (YB _) q) (Zh (Zz h.symm) (Ws (Yt _ _) _))
  have N:Jz (x::r).length b=(x::r).length:=by simp only[Zj]at h u⊢;show YK u (Zh (Zz h.symm) (Zh (Wl _ _) (X5 _ _)))
  rw[U,N,Yp,YC]
def pY:(strSliceIndices a b 1 (⟨l.toArray⟩:Wu).length).length=(slice l a b).length:=by
 rw[nI,ZD,List.length_range,cM,ZM,ZG];rw[ZO (mF l.length b)]
def iz{y:Type}(l:List y)(a b:TZ):(slice l a b).length<=l.length:=by
 rw[cM,ZM,ZG];show Zh (Wl _ _) (Yt _ _)
def Ba.take{N:WA}:∀ {Z:TN} (n:Nat),Ba N w F Z l->Ba N w F (Z.take n) (l.take n):=by
 induction l with
 |nil=>intro Z n h;obtain rfl:=h.inv;rw[Wn,Wn];show .nil
 |cons f l Q=>
  intro Z n h;obtain⟨v,r,rfl,a,D⟩:=h.inv;induction n using Nat.casesOn with
  |zero=>show .nil
  |succ n=>show .cons a (Q n D)
def Ba.drop{N:WA}:∀ {Z:TN} (n:Nat),Ba N w F Z l->Ba N w F (Z.drop n) (l.drop n):=by
 induction l with
 |nil=>intro Z n h;obtain rfl:=h.inv;rw[List.drop_nil,List.drop_nil];show .nil
 |cons f l Q=>
  intro Z n h;obtain⟨v,r,rfl,a,D⟩:=h.inv;induction n using Nat.casesOn with
  |zero=>show .cons a D
  |succ n=>show Q n D
def Ba.slice{N:WA}(a b:TZ)(h:Ba N w F Z l):Ba N w F (slice Z a b) (slice l a b):=by
 (rw[cM];show h.len▸ ?_)
 show Ba.drop _ (Ba.take _ h)
def nZ{N:WA}(h:RF N w F v p)(e:Ly p=some i):IsPart v i/\∃q:Option (Int×Tok),v=partValue q/\q.map (·.1)=i:=by
 induction p using FV.casesOn with
 |Ak=>obtain rfl:=h.x;obtain rfl:=Zf e;show⟨.none,aO none rfl rfl⟩
 |int j=>show zE h.x λt Q=>?_;subst Q;obtain rfl:=Zf e;show⟨.int j t,aO (some (j,t)) rfl rfl⟩
 |_=>show aw e
section
variable {c:Cx}{g:G}{K:Frag}{p:CP}{Sy:TP}{mg mb:Wu->TM}{f:Fm}{d:Nat}{O:Gh}{L:Loc}{J:St}{s:Ww}
def SO(c:Cx)(g:G)(f:Fm)(d:Nat)(x:X)(e:Option WE):Prop:=
 ∀O J s A k Q,Rel c O f.L J s->Ay f.L d A->BI g x J k->B2 c f.L O s k Q->wpAny (model c.Aa c.w) A (evalPart e f.env) Q Bl s
def yd:SO c g f d (.k .Ak) none:=by
 intro O J s A k Q r l N j;show ZE (j O J s _ (.c .Ak) (.refl _ _ _ _) r (dq .Ak) N)
def yc(h:SE c g f d x e):SO c g f d x (some e):=h
def C6(l u:Wv):Obj:= {cls:=.type "slice",data:=.fields #[l,u,.none]}
def aah{o a b:V}(r:Rel c O L J s)(N:RV c.Aa c.w O v o)(W:RV c.Aa c.w O l a)(H:RV c.Aa c.w O u b)(h:Gn o a b J k)
  (S:B2 c L O s k Q):∃T id,typeLookup (.type T) "__getitem__"=pure (some (.builtin id))/\({s with heap:=s.heap.push (C6 l u)}:Ww).TypeIs v T/\
   wpAny (model c.Aa c.w) A (PySem.getItem v (.ref s.heap.objs.size)) Q Bl {s with heap:=s.heap.push (C6 l u)}:=by
 obtain⟨fo,M,h⟩:=ak h;obtain⟨fa,h2,h⟩:=ak h;obtain⟨fb,h3,h⟩:=ak h;obtain⟨i,h4,h⟩:=ak h;obtain⟨j,h5,h⟩:=ak h;show bM (cq r W h2) λZ Z Z R=>bM (cq r H h3) λZ Z Z X=>?_;show eX (nZ R h4) λp1 q1 P m1=>?_;clear W R;subst P;show eX (nZ X h5) λp2 q2 P m2=>?_;clear H X;subst P;have q:=r.push (C6 (partValue q1) (partValue q2));have G:Ext false L O s O {s with heap:=s.heap.push (C6 (partValue q1) (partValue q2))}:=.push _;induction fo using FV.casesOn with
 |str x=>
  show bM (cq r N M) λF hF Z rf=>?_;obtain⟨t,rfl,bb⟩:=rf.x
  ·show(a8 "str" _ PySem.F.slot_str_getitem.lookup rfl (wpAny_getItem_str_slice (st:=none) (ck _ (ZL _ rfl) rfl rfl) rfl ?_));have m:=Zh (iz x i j) bb;have key:=λt' tk ht=>
    S O J _ _ (.c (.str (slice x i j))) (G.trans r q (.toks false tk)) (q.toks ht) (dq (.str _ t' m)) h
   have n:((slicePicked ⟨x.toArray⟩ q1 q2 none).filterMap ((⟨x.toArray⟩:Wu).cps[·]?)).toArray=(slice x i j).toArray:=by
    unfold slicePicked
    (show m1.symm▸ ?_;show m2.symm▸ ?_)
    show rt x i j
   unfold sliceMade;split
   ·rename_i E;rw[Zp]at E;have hw:(slice x i j)=x:=by
     have B:=beq_iff_eq.mp E.2;unfold slicePicked at B;rw[m1,m2]at B;show kg ((pY (l:=x) (a:=i) (b:=j)).symm.trans (B.trans ?_));change x.toArray.size=_;rfl
    have:=key t s.toks r.tk;replace this:=hw▸this;show this
   ·show n▸⟨by change(slice x i j).toArray.size<=_;rw[YE];show m,key _ _ (YB _)⟩
 |lst I=>
  show aK (cG r N M) λa1 Sp w z C U D Y=>?_;subst z;obtain⟨n1,rfl⟩:=U;have y:s.heap.IsList a1 w.toArray:=(gF _ C rfl n1 rfl)
  show(a8 "list" _ list_getitem_lookup (aO _ (Zw _ C) rfl) (wpAny_getItem_list_slice (y.push _) (Heap.IsSliceOf.new ..) p1 p2 .none (by show Ne.symm (Option.some_ne_none 0)) ?_ (by rw[ZP,D.len,YE];show Y)));rw[qf];show zA (q.alloc (o:=({cls:=.type "list",data:=.seq (slice w i j).toArray}:Obj)) (o':=.lst (slice I i j)) rfl
   ⟨rfl,bG _ (slice w i j) (ZL _ rfl) (yE 0 rfl) (Ba.mono (λZ Z e=>e) (Ba.slice i j D)) (Zh (iz I i j) Y)⟩) λr3 x3=>?_
  show S _ _ _ _ (.ob J.m) (G.trans r q x3) r3 (aU _ [(s.heap.push (C6 (partValue q1) (partValue q2))).objs.size] ?_ rfl) h;change(if J.m=J.m then _ else _)=_;rw[Zk rfl]
 |_=>show h.elim
def abN{lo hi:Option WE}(h:SE c g f d x e)(h':SO c g f d y lo)(W:SO c g f d z hi):SE c g f d (.Cj x y z) (.Subscript e (.Slice lo hi none pos') pos):=by
 intro O J s A k Q r Y hev hp;rw[arm_eval_Subscript];show Zn (h O J s A _ _ r Y hev λZ C G v a M U hv o=>Zn (ZY (wpAny_Slice (h' Z C G A _ _ U Y o λj t q l b R D hl o=>W j t q A _ _ D Y o λS J₃ H u b' m P hu o=>ZE ?_))));have i:=R.trans U D m;show bA (aah (A:=A) P (hv.mono i.le) (hl.mono m.le) hu o λn B I w b N E hw o=>hp n B I w b ((M.trans r U i).trans r P N) E hw o) λT id V hT hg=>Zn (Yz (Zn ((getitemInPython_of_ne hT.not_modules)▸(Zn (wpAny_specialOf hT V (ZE (Zn ?_)))))));show wpAny_operating (ZT hg (λr H F=>Zn (wpAny_letTemporaryGo (ZE F))) λuu uu x=>x)
end
end
section
open Builtin
def qg:typeLookup (.type "list") (Str.ofString "keys")=pure none:=by rw[typeLookup_type,builtinLookup_eq_fast];kernel_rfl
def kG{N:WA}
  (P:s.heap.get? a=some {cls:=.type "list",data:=.seq u k}) (U:A.handled=none)
  (h:∀c Z,(∀b o,s.heap.get? b=some o->c.get? b=some o)->Q none {s with heap:=c,toks:=Z}):wpAny (model N w) A (getAttr? (.ref a) "keys") Q E s:=by
 obtain⟨f,g,d,Z,i⟩:=s;have j:∀y,(⟨f,g,d,y,i⟩:Ww).TypeIs (.ref a) "list":=λn=>(aO _ P rfl)
 have q:=sub_AttributeError;have p:=F.slot_list_getattribute.lookup;have O:=F.slot_list_getattribute.bind (.ref a);have D:=am_list_getattr_none
 repeat (any_goals (first|assumption|show j _|((with_reducible change wpAny _ _ (call (Value.builtin "list.__getattribute__") _ _) _ _ _);show call_meets F.slot_list_getattribute (j _) am_entry_list_getattribute (F.args_list_getattribute_2 _ _) (meets_getattribute_miss_list a u k #[] (Str.ofString "keys") _ qg (by decide+kernel) (by size_fits)) ⟨P,U,λc y e l=>?_⟩)|wp_step))
 show iq l.there λz v m=>?_;change wpAny _ _ (getattributeRaised _ _ _ _ _ _ _) _ _ _
 repeat (any_goals (first|assumption|wp_step))
 show h _ _ l.of.keeps
def fJ:entryFor table "dict.update.loop"=some Builtin.«dict.update.loop»:=entryFor_of_tree (by kernel_rfl)
def c7:plainId "dict.update.loop"=true:=by decide+kernel
def lp{r:WA}
  (P:s.heap.get? a=some {cls:=.type "list",data:=.seq #[] k}) (p:A.handled=none)
  (h:∀c q,c.get? s.heap.objs.size=some {cls:=.type "dict",data:=.dict #[]}->(∀b o,s.heap.get? b=some o->c.get? b=some o)->Q (.ref s.heap.objs.size) {s with heap:=c,toks:=q}):
  wpAny (model r w) A (call (.type "dict") [.ref a]) Q E s:=by
 show callType_codes (Q₁:=λg l=>g=.ref s.heap.objs.size/\l= {s with heap:=s.heap.push {cls:=.type "dict",data:=.dict #[]}}) F.kt_called_dict (F.kt_typeCall_dict_1 _) F.entry_dict_init (kt_code_dict_new _ ⟨rfl,rfl⟩) ?_;rintro g l ⟨rfl,rfl⟩;have n:(s.heap.push {cls:=.type "dict",data:=.dict #[]}).get? s.heap.objs.size=some {cls:=.type "dict",data:=.dict #[]}:=ZL _ rfl;have d:({s with heap:=s.heap.push {cls:=.type "dict",data:=.dict #[]}}:Ww).TypeIs (.ref s.heap.objs.size) "dict":=(aO _ n rfl)
 have O:(s.heap.push {cls:=.type "dict",data:=.dict #[]}).get? a=some {cls:=.type "list",data:=.seq #[] k}:=Zw _ P;show⟨d,F.args_dict_init_2 _ _,?_⟩;show Zn (Zn (wpAny_notOrdered_dict d ?_));show ZE ?_;change wpAny _ _ (Builtin.Dict.updateFrom "dict.__init__" s.heap.objs.size (.ref a) [] .none) _ _ _;show Zn (wpAny_typeOf (T:="list") (aO _ O rfl) ?_);rw[Zk (by ext)];show Zn (kG O p λU j f=>?_);rw[Zk (by ext)];show Zn (wpAny_rule ?_);have N:=f _ _ O;have u:U.IsList a #[]:=(gF _ N rfl k rfl)
 show Zn (wpAny_pyIter_list u ?_);have t:(U.push {cls:=.type "list_iterator",data:=.fields #[.ref a,.int 0 0]}).IsListIter U.objs.size a 0:=(ck _ (ZL _ rfl) rfl rfl)
 show ZE ⟨plainId_quiet c7 _,codeAny_builtin fJ ?_⟩;rw[Around.under_plainId c7];show Zn (wpAny_pyNext_list_end p t (u.push _) rfl λi Z=>?_);have keep:∀b o,(s.heap.push {cls:=.type "dict",data:=.dict #[]}).get? b=some o->i.get? b=some o:=λb o e=>by
  have m:=f b o e;show Z b o (Z3 (Yk m)) (Zw _ m)
 change wpAny _ _ (Builtin.Dict.addKeywords s.heap.objs.size []>>=_) _ _ _;show Zn (ZE (ZE ⟨rfl,h i _ (keep _ _ n) λb o e=>keep b o (Zw _ e)⟩))
end
section
variable {c:Cx}{g:G}{K:Frag}{p:CP}{Sy:TP}{mg mb:Wu->TM}{f:Fm}{d:Nat}{O:Gh}{L:Loc}{J:St}{s:Ww}
def aam(z:Holds F s.heap)(N:RF c.Aa c.w F v x)
  (j:LQ x=some n) (h:∀t Z,Q (.int n t) {s with toks:=Z}):wpAny (model c.Aa c.w) A (PySem.call (.builtin "len") [v]) Q Bl s:=by
 induction x using FV.casesOn with
 |str l=>
  obtain⟨t,rfl,b⟩:=N.x;obtain rfl:=Zf j;have e:(⟨l.toArray⟩:Wu).length=l.length:=by change l.toArray.size=_;rfl
  show P.len_str (by rw[e];lia) ?_;show e▸(h _ _)
 |tup l=>
  obtain⟨a,i,o,rfl,e,⟨m,rfl⟩,r,b⟩:=N.x;obtain rfl:=Zf j;show P.len_tuple (z _ _ e) (by rw[ZP,r.len];lia) ?_;rw[ZP,r.len];show h _ _
 |lst l=>
  obtain⟨a,i,o,rfl,e,q,r,b⟩:=N.x;obtain rfl:=Zf j;show PyProof.Rows.len_list (q.list (z _ _ e)) (by rw[ZP,r.len];lia) ?_;rw[ZP,r.len];show h _ _
 |An l=>
  obtain⟨a,o,U,rfl,e,k,q,r,b⟩:=N.x;obtain rfl:=Zf j;show call_len_dict (pK k) (q.at (z _ _ e)) (by rw[r.len];lia) ?_;show r.len▸(h _ _)
 |_=>cases j
def rT{O:Gh}(h:Cw c.Aa c.w O Z j)(D:Pr j A k2):(∃a t,Z=[.int a t]/\A a)\/∃a t b u,Z=[.int a t,.int b u]/\k2 a b:=by
 have Sh:∀ {v:Wv} {x:V} {i:Int},RV c.Aa c.w O v x->Qr x=some i->∃t,v=.int i t:=λN e=>by
  show aA (ax e) λf U n=>?_;obtain rfl:=f7 U;show RF.aI N n
 induction j using Re with
 |nil=>show D.elim
 |cons x j=>
  obtain⟨v,r,rfl,k,m⟩:=h.inv;obtain⟨a,e,D⟩:=ak D;show zE (Sh k e) λt Q=>?_;clear k h;subst Q;induction j using Re with
  |nil=>obtain rfl:=m.inv;show .inl (aU a t rfl D)
  |cons y o=>
   obtain⟨u,q,rfl,P,l⟩:=m.inv;obtain⟨b,e,D⟩:=ak D;show zE (Sh P e) λz Q=>?_;subst Q;induction o using Re with
   |nil=>obtain rfl:=l.inv;show .inr ⟨a,t,b,z,rfl,D⟩
   |cons _ _=>show D.elim
def tY{id:Nat}(h:FR id=some u):(id=0/\u=.builtin "len")\/(id=1/\u=.builtin "ord")\/(id=2/\u=.builtin "chr")\/(id=3)\/(id=4/\u=.type "dict")\/(id=5/\u=.builtin "max")\/(id=6/\u=.builtin "min"):=by
 unfold FR Jb at h;by_cases j:id=0; · subst j;show .inl ⟨rfl,(Zf h).symm⟩
 by_cases q1:id=1; · subst q1;show .inr (.inl ⟨rfl,(Zf h).symm⟩)
 by_cases q2:id=2; · subst q2;show .inr (.inr (.inl ⟨rfl,(Zf h).symm⟩))
 by_cases y:id=3; · show .inr (.inr (.inr (.inl y)))
 by_cases D:id=4; · subst D;show .inr (.inr (.inr (.inr (.inl ⟨rfl,(Zf h).symm⟩))))
 by_cases A:id=5; · subst A;show .inr (.inr (.inr (.inr (.inr (.inl ⟨rfl,(Zf h).symm⟩)))))
 by_cases N:id=6; · subst N;show .inr (.inr (.inr (.inr (.inr (.inr ⟨rfl,(Zf h).symm⟩)))))
 rw[aq,Zi j,aq,Zi q1,aq,Zi q2,aq,Zi y,aq,Zi D,aq,Zi A,aq,Zi N]at h;show aw h
def acR{id:Nat}{u:Wv}{I:TN}(Y:A.handled=none)(hu:FR id=some u)(r:Rel c O L J s)(B:Cw c.Aa c.w O I xs)(h:Mx id xs J k)(j:B2 c L O s k Q):
  ((∃n,u=.builtin n)\/∃n,u=.type n)/\wpAny (model c.Aa c.w) A (PySem.call u I) Q Bl s:=by
 have z:∀ {m:Int} {t:Tok} {H:WH} {Z:Nat},(∀b o,s.heap.get? b=some o->H.get? b=some o)->0<Z->k (.c (.int m)) J->Q (.int m t) {s with heap:=H,toks:=Z}:=λ{m t H Z} D N hm=>by
  show zA (r.more N D) λR W=>j O J _ _ (.c (.int m)) W R (dq (.int m t)) hm
 rcases tY hu with ⟨rfl,rfl⟩|⟨rfl,rfl⟩|⟨rfl,rfl⟩|rfl|⟨rfl,rfl⟩|⟨rfl,rfl⟩|⟨rfl,rfl⟩
 ·obtain⟨x,w,h⟩:=ak h;show aA (B.one w) λv e E=>?_;clear B;subst e;obtain⟨y,G,U⟩:=ak h;obtain⟨n,hn,C⟩:=ak U;show bM (cq r E G) λF hF uu rf=>⟨.inl (yE _ rfl),aN r.tk (aam hF rf hn λt Z N=>j O J _ _ (.c (.int _)) (.toks _ _) (r.toks N) (dq (.int _ t)) C)⟩
 ·obtain⟨x,w,h⟩:=ak h;show aA (B.one w) λv e E=>?_;clear B;subst e;obtain⟨y,G,U⟩:=ak h;obtain⟨ch,hc,C⟩:=ak U;clear w h;obtain rfl:=f7 G;show zE (RF.FU E hc) λt e=>?_;subst e;show⟨.inl (yE _ rfl),P.ord_of_char (j O J _ _ (.c (.int ch)) (.toks _ _) r.dX (dq (.int _ _)) C)⟩
 ·obtain⟨x,w,h⟩:=ak h;show aA (B.one w) λv e E=>?_;clear B;subst e;obtain⟨y,G,U⟩:=ak h;obtain⟨i,hi,⟨C,X⟩,S⟩:=ak U;clear w h;obtain rfl:=f7 G;show zE (RF.aI E hi) λt e=>?_;subst e;show⟨.inl (yE _ rfl),PyProof.Rows.chr_of_range C X (j O J _ _ (.c (.str [i.toNat])) (.toks _ _) r.dX (dq (.str [i.toNat] _ (by change 1<=_;decide))) S)⟩
 ·obtain⟨x,w,h⟩:=ak h;show h.elim
 ·obtain⟨x,w,h⟩:=ak h;show aA (B.one w) λv e E=>?_;clear B;subst e;obtain⟨y,G,U⟩:=ak h;obtain⟨l,hl,C⟩:=ak U;clear U;obtain rfl:=m9 hl;show aK (cG r E G) λa o I M e1 T e3 uu=>?_;subst M;obtain⟨n,rfl⟩:=T;induction l using Re with
  |cons _ _=>show C.elim
  |nil=>
   obtain rfl:=e3.inv;show⟨.inr (yE _ rfl),aN r.tk (lp e1 Y λH Z hD D N=>?_)⟩;show zA (r.aek N (aF (Zq _)) hD D) λR W=>j _ _ _ _ (.c (.An [])) W R (dq (.An (Zk rfl) (λq=>?_) (bj (#[]) 0 ⟨rfl,rfl,rfl⟩ rfl (λuu he=>by simp at he) .nil List.nodup_nil) .nil (ZF _))) C;show zE r.dT λo hL=>?_;have X:=Yk hL;have S:=r.Lb;have h5:=c.G5;rw[show sysModules=1 from rfl]at q;show T4 (Zh h5 (Zh S (Yj (Zh X (Zz q))))) (by ext)
 ·obtain⟨a,t,b,u,rfl,h⟩:=(rT B h).resolve_left λ⟨_,_,_,h⟩=>h;show⟨.inl (yE _ rfl),aN r.tk (max_two_ints Y λH Z D N=>?_)⟩;have h:k (.c (.int (if a<b then b else a))) J:=h;by_cases q:a<b
  ·rw[Zk q]at h⊢;show z D N h
  ·rw[Zi q]at h⊢;show z D N h
 ·obtain⟨a,t,b,u,rfl,h⟩:=(rT B h).resolve_left λ⟨_,_,_,h⟩=>h;show⟨.inl (yE _ rfl),aN r.tk (min_two_ints Y λH Z D N=>?_)⟩;have h:k (.c (.int (if b<a then b else a))) J:=h;by_cases q:b<a
  ·rw[Zk q]at h⊢;show z D N h
  ·rw[Zi q]at h⊢;show z D N h
def aeJ(Y:Ctx c K p Sy mg mb){id:Nat}{x:X}(V:B8 f.cs nm=true)(S:p.Gw nm=none)(F:p.blt nm=some id)(z:(id<3||(3<id&&id<7))=true)(h:Row c g f d x U):
  SE c g f d (.fn id x) (.Call (.Name nm P) U [] pos):=by
 intro O J s A k Q r M N T;have I:id<7:=by
  rw[Yq,Yu]at z;lia
 obtain⟨u,q⟩:∃u,FR id=some u:=by
  clear F;show Option.isSome_iff_exists.mp ((show∀i,i<7->(FR i).isSome=true by decide+kernel) id I)
 show cu (Y.blt nm id _ S F q) λhd R t=>?_;have C:Row c g f d x (U++([]:List WI).map (·.value)):=by simpa using h
 show wpAny_Call_Name_kw (XO f.kind (cz V) (Calls.loadGlobal_builtin (by rw[f.glob];show Y.T.g.keeps r.bN) R (by rw[f.blt];show Y.T.b.keeps r.bN) t ?_) hd);have fin:wpAny (model c.Aa c.w) A (evalArgs u true (backTo pos (starEach U f.env)) []) (λa l=>wpAny (model c.Aa c.w) A (PySem.call u ([]++a.pos) a.kw) Q Bl l) Bl s/\((∃n,u=.builtin n)\/∃n,u=.type n):=by
  show⟨bS Y rfl C r M N λE H G vs xs uu o D w B=>?_,?_⟩
  ·rw[aR];show(acR M.hd q D w B λZ e j v y b m W B=>T Z e j v y (o.trans r D b) m W B).2
  ·rcases tY q with ⟨_,h⟩|⟨_,h⟩|⟨_,h⟩|h|⟨_,h⟩|⟨_,h⟩|⟨_,h⟩<;>first|show .inl ⟨_,h⟩|show .inr ⟨_,h⟩|(clear F z N I;subst h;cases q;show .inr ⟨_,rfl⟩)
 rcases fin.2 with ⟨n,rfl⟩|⟨n,rfl⟩
 ·show Xz (a6 pos f.env C.cZ) fin.1
 ·show PySem.callWith_type (a6 pos f.env C.cZ) fin.1
end
section
open Builtin.Str
abbrev sO(l:WJ):Wu:=⟨l.toArray⟩
def bw(l:WJ):(sO l).length=l.length:=by change l.toArray.size=_;rfl
def ja(y l:WJ):y.isPrefixOf l=true↔l.take y.length=y:=by
 rw[Xj,Ym];show eq_comm
def jY(l y:WJ)(hi k:Nat)(c:y≠[])(u:hi<=l.length):StrLaws.At (sO l) (sO y) hi k↔y.isPrefixOf ((l.take hi).drop k)=true:=by
 unfold StrLaws.At;rw[StrLaws.subAt_eq,propext (ja _ _),bw];have U:=XW.mpr c;simp only[Yw,Wf];constructor
 ·rintro ⟨a,b⟩;rw[List.take_take,ZO (Nat.le_sub_of_add_le' a)];show b
 ·intro h;have D:=T3 List.length h;rw[ZG,ZG]at D;have P:=Zh (Zh (Zz D.symm) (Yt _ _)) (X5 _ _);clear D;show⟨Nat.add_le_of_le_sub' (Yo (Nat.lt_of_sub_pos (ZJ U P))) P,?_⟩;rw[List.take_take,ZO P]at h;show h
def rW(y z:WJ)(n:Nat):∀(l:WJ),AS y z n l=AS y z 0 (l.drop n):=by
 induction n with
 |zero=>intro l;rw[Yp]
 |succ n Q=>
  intro l;induction l using Re with
  |nil=>rw[List.drop_nil];rfl
  |cons c r=>show Q r
def i7(P:y≠[])(h:y.isPrefixOf l=true):AS y z 0 l=z++AS y z 0 (l.drop y.length):=by
 induction l using Re with
 |nil=>induction y using Re with
  |nil=>show T4 rfl P
  |cons _ _=>show a7 h
 |cons c r=>
  change(if y.isPrefixOf (c::r)then z++AS y z (y.length-1) r else c::AS y z 0 r)=_;rw[Zk h,rW];obtain⟨m,O⟩:∃m,y.length=m+1:=⟨y.length-1,by show(Nat.sub_eq_iff_eq_add (XW.mpr P)).mp rfl⟩
  (show O▸ ?_;rw[List.drop_succ_cons])
def dC(h:¬y.isPrefixOf (c::r)=true):AS y z 0 (c::r)=c::AS y z 0 r:=by
 change(if y.isPrefixOf (c::r)then z++AS y z (y.length-1) r else c::AS y z 0 r)=_;rw[Zi h]
def nR(n:Nat):∀(l:WJ),n<=l.length->(∀k,k<n->¬y.isPrefixOf (l.drop k)=true)->AS y z 0 l=l.take n++AS y z 0 (l.drop n):=by
 induction n with
 |zero=>intro l _ _;rw[Yp];rfl
 |succ n Q=>
  intro l h j;induction l using Re with
  |nil=>show T4 h (XJ n)
  |cons c r=>
   rw[dC (j 0 (YB _))];show T3 (c:: ·) (Q r (Xc h) λk D=>j (k+1) (Xv D))
def e9(z s:Wu)(h:P≠[]):(Str.join z (s::P)).cps.toList=s.cps.toList++z.cps.toList++(Str.join z P).cps.toList:=by
 induction P using Re with
 |nil=>show T4 rfl h
 |cons p r=>
  change((s.cps++z.cps)++(Str.join z (p::r)).cps).toList=_;simp
def pU(l y z:WJ)(P:y≠[]):∀(d:WJ) (a f:Nat),a<=l.length->StrLaws.ChainG (sO l) (sO y) l.length a d f->(∀k,f<=k->¬StrLaws.At (sO l) (sO y) l.length k)->
  (Str.join (sO z) (StrLaws.partsFrom (sO l) (sO y).length a d)).cps.toList=AS y z 0 (l.drop a):=by
 intro d;induction d with
 |nil=>
  intro a f b h j;have e:=h;subst e;show(nR (z:=z) (l.drop f).length (l.drop f) (Zq _) λk Z q=>j (f+k) (ZR f k) ((jY l y l.length _ P (Zq _)).mpr (by(show YC▸ ?_;show YI▸ ?_);show q)))▸ ?_;rw[StrLaws.strSub_toList,List.drop_length,YC];rw[List.take_of_length_le (by show ZM▸ ?_;show Zq _)];simp[AS]
 |cons c d Q=>
  intro a f b h j;show bY h λU N D A=>?_;have u:=(jY l y l.length c P (Zq _)).mp N;replace u:=YC▸u;have s:c+y.length<=l.length:=by have:=N.1;replace this:=(bw _)▸this;show this
  rw[nR (z:=z) (c-a) (l.drop a) (by rw[ZM];show Ws (ZK s) a) λk i q=>D (a+k) (ZR a k) (Wi i) ((jY l y l.length _ P (Zq _)).mpr (by(show YC▸ ?_;show YI▸ ?_);show q)),YI,show a+(c-a)=c by show YV U,i7 P u,YI];rw[e9 _ _ (by show iq (StrLaws.partsFrom_ne (sO l) (sO y).length (c+(sO y).length) d) λp r e=>?_;rw[e];simp),StrLaws.strSub_toList];have Q:=Q (c+(sO y).length) f (by rw[bw];show s) A j;rw[Q,bw];simp
def lO(h:x.cps.toList=l):x=sO l:=by obtain⟨⟩:=x;rw[←h]
def zZ(l y z:WJ)(P:y≠[]):Txt.replace (sO l) (sO y) (sO z)=sO (AS y z 0 l):=by
 have U:1<=(sO y).length:=by rw[bw];show XW.mpr P
 show aA (StrLaws.occ_tight (sO l) (sO y) U) λf u j=>?_;rw[bw]at u j;have key:=pU l y z P _ 0 f (ZF _) u j;replace key:=Yp▸key;unfold Txt.replace;have d:((sO y).length==0)=false:=by rw[bw];induction y<;>first|show T4 rfl P|rfl
 rw[d,Wp];rw[bw];split
 ·rename_i N;rw[show occurrences (sO l) (sO y) 0 l.length (l.length+1)=[] by simpa using N]at key;show key▸ ?_;change _=sO (strSub (sO l) 0 (sO l).length).cps.toList;rw[StrLaws.sub_whole]
 ·show lO ?_;rw[StrLaws.glued_eq_join,StrLaws.partsBetween_eq];show key
def gI{c x:Nat}{r:WJ}:Ag c (x::r)=if x=c then []::Ag c r else match Ag c r with|h::t=>(x::h)::t| []=>[[x]]:=rfl
def rS{c x:Nat}{r:WJ}:Dn c (x::r)=if 0<=Dn c r then Dn c r+1 else if x=c then 0 else-1:=rfl
def mf{y z r:WJ}{c:Nat}:AS y z 0 (c::r)=if y.isPrefixOf (c::r)then z++AS y z (y.length-1) r else c::AS y z 0 r:=rfl
def lS:∀(a:WJ) (t:WJ),c∉a->Ag c (a++c::t)=a::Ag c t:=by
 intro a;induction a with
 |nil=>
  intro t _;simp[Ag]
 |cons x a Q=>
  intro t h;rw[Zt,not_or]at h;have P:¬x=c:=λe=>h.1 e.symm;change(if x=c then []::Ag c (a++c::t)else match Ag c (a++c::t)with
   |h::t=>(x::h)::t
   | []=>[[x]])=_
  rw[Zi P,Q t h.2]
def lU:∀(a:WJ),c∉a->Ag c a=[a]:=by
 intro a;induction a with
 |nil=>
  intro _;show rfl
 |cons x a Q=>
  intro h;rw[Zt,not_or]at h;have P:¬x=c:=λe=>h.1 e.symm;rw[gI,Zi P,Q h.2]
def lQ(j:d≠[])(h:∀p∈d,c∉p.cps.toList):Ag c (Str.join (sO [c]) d).cps.toList=d.map λp=>p.cps.toList:=by
 induction d with
 |nil=>show T4 rfl j
 |cons p r Q=>
  induction r using Re with
  |nil=>show lU _ (h p (.head _))
  |cons q r=>
   rw[e9 _ _ (XU q r)];rw[Zo,lS _ _ (h p (.head _)),Q (XU q r) λx P=>h x (.tail _ P)];rfl
def rD(x y:Wu):Txt.split x y≠[]:=by
 unfold Txt.split;split
 ·simp
 ·split
  ·simp
  ·rw[StrLaws.partsBetween_eq];show iq (StrLaws.partsFrom_ne x y.length 0 (occurrences x y 0 x.length (x.length+1))) λp r e=>?_;rw[e];simp
def rE(l:WJ)(c:Nat):(Txt.split (sO l) (sO [c])).map (λp=>p.cps.toList)=Ag c l:=by
 have h:=lQ (rD _ _) (StrLaws.split_free (sO l) c);rw[StrLaws.join_split]at h;show h.symm
def lV(c:Nat):∀l:WJ,(Ag c l).length<=l.length+1:=by
 intro l;induction l with
 |nil=>
  show Zq _
 |cons x r Q=>
  have Q:=Q;rw[gI];split
  ·simp only[Zj];lia
  ·split
   ·rename_i h t e;rw[e]at Q;simp only[Zj]at Q⊢;show Xd Q
   ·show YB _
set_option tactic.hygienic true in
def kf(c:Nat):∀l:WJ,∀p∈Ag c l,p.length<=l.length:=by
 intro l;induction l with
 |nil=>
  intro p h;simp[Ag]at h;subst h;decide
 |cons x r Q=>
  intro p h;have Q:=Q;rw[gI]at h;split at h
  ·rcases Zb h with rfl|h
   ·simp
   ·have:=Q p h;simp only[Zj];lia
  ·split at h
   ·rename_i u t e;replace Q:=e▸Q;rcases Zb h with rfl|h
    ·show ZV (Q u (.head _)) 1
    ·show Xd (Q p (.tail _ h))
   ·show(Za h)▸ ?_;show YB _
def ff(l:WJ)(c hi k:Nat)(u:hi<=l.length):StrLaws.At (sO l) (sO [c]) hi k↔(l.take hi)[k]? =some c:=by
 rw[jY l [c] hi k (XU c []) u,Xj,Ym];have e:(l.take hi)[k]? =((l.take hi).drop k)[0]? :=by rw[List.getElem?_drop];rfl
 show e▸ ?_;cases (l.take hi).drop k with
 |nil=>simp
 |cons a r=>simp[eq_comm]
def mS(l:WJ)(c hi:Nat)(u:hi<=l.length):∀(d:WJ) (a f:Nat),StrLaws.ChainG (sO l) (sO [c]) hi a d f->(∀k,f<=k->¬StrLaws.At (sO l) (sO [c]) hi k)->d.length=((l.take hi).drop a).count c:=by
 intro d;induction d with
 |nil=>
  intro a f h j;have e:=h;subst e
  symm
  change List.count c _=0;rw[List.count_eq_zero];intro O;obtain⟨i,A,e⟩:=List.mem_iff_getElem.mp O;show j (f+i) (ZR f i) ((ff l c hi _ u).mpr ?_);rw[←List.getElem?_drop,Zy A,e]
 |cons b d Q=>
  intro a f h j;show bY h λn o D m=>?_;have P:=(ff l c hi b u).mp o;have N:b<(l.take hi).length:=by
   rcases YT b (l.take hi).length with z|z
   ·show z
   ·rw[Xm z]at P;show aw P
  have U:(l.take hi).drop a=((l.take hi).drop a).take (b-a)++(l.take hi).drop b:=by
   have:=(Yc (b-a) ((l.take hi).drop a)).symm;rw[YI,show a+(b-a)=b by show YV n]at this;show this
  have Z:(l.take hi).drop b=c::(l.take hi).drop (b+1):=by
   rw[Yh N];congr 1;rw[Zy N]at P;show Zf P
  have s:(((l.take hi).drop a).take (b-a)).count c=0:=by
   rw[List.count_eq_zero];intro O;obtain⟨i,A,e⟩:=List.mem_iff_getElem.mp O;have g:i<b-a:=by rw[ZG]at A;show ZJ A (X5 _ _)
   show D (a+i) (ZR a i) (Wi g) ((ff l c hi _ u).mpr ((List.getElem?_drop)▸ ?_));have:(((l.take hi).drop a).take (b-a))[i]? =some c:=by rw[Zy A,e]
   rw[List.getElem?_take,Zk g]at this;show this
  (rw[U,List.count_append,s,Z,List.count_cons_self,Wb,Zj];show(Q (b+(sO [c]).length) f m j)▸ ?_)
  rfl
def uB(l:WJ)(c hi:Nat)(u:hi<=l.length):(occurrences (sO l) (sO [c]) 0 hi ((sO l).length+1)).length=(l.take hi).count c:=by
 rw[StrLaws.occ_eq _ _ _ _ _,bw];have key:=StrLaws.tight_run (sO l) (sO [c]) hi (l.length+1) 0 (Zq _) (hi+1-0) 0 (#[],0) rfl (λk Z h=>by lia) (by simp;show String.Pos.Raw.mk_le_mk.mp u);have:=mS l c hi u _ 0 _ key.1 λk D U=>key.2 k D (by have:=U.1;show Zh (Z1 (ZK this)) (Zz (Wb _).symm)) U;replace this:=Yp▸this;show this
def kj(h:∀k:Nat,l[k]? ≠some c):Dn c l= -1:=by
 induction l with
 |nil=>rfl
 |cons x r Q=>
  rw[rS,Q λk=>h (k+1),Zi λe=>h 0 (T3 some e)]
def rR:∀ {a:Nat},l[a]? =some c->(∀k:Nat,a<k->l[k]? ≠some c)->Dn c l=a:=by
 induction l with
 |nil=>intro a h;show aw h
 |cons x r Q=>
  intro a h j;rw[rS];induction a using Nat.casesOn with
  |zero=>rw[kj λk=>j (k+1) (YB _),Zk (Zf h)];rfl
  |succ a=>rw[Q h λk D=>j (k+1) (Xv D),Zk (Yx _)];rfl
def tC(l:WJ)(c hi:Nat)(u:hi<=l.length):(match lastOccurrence (sO l) (sO [c]) 0 hi with|some i=>(i:Int)|none=> -1)=Dn c (l.take hi):=by
 rw[StrLaws.last_eq];have key:=StrLaws.last_run (sO l) (sO [c]) hi (List.range' 0 (hi+1-0)) [] none (λZ h=>(Yl h).elim) (λZ h=>(Yl h).elim) (by simpa using List.pairwise_lt_range');have s:∀i,StrLaws.At (sO l) (sO [c]) hi i->i∈[]++List.range' 0 (hi+1-0):=λi A=>by simp[List.mem_range']<;>show YO 1 A.1
 cases D:(forIn (List.range' 0 (hi+1-0)) none (StrLaws.lastBody (sO l) (sO [c]) hi)).run with
 |none=>
  replace key:=D▸key;show(kj λk e=>by have U:=(ff l c hi k u).mpr e;show key k (s k U) U).symm
 |some a=>
  replace key:=D▸key;show(rR ((ff l c hi a u).mp key.1) λk b e=>by have U:=(ff l c hi k u).mpr e;show key.2 k (s k U) b U).symm
def wU(l:WJ)(c a:Nat)(p:a<=l.length):(match occurrences (sO l) (sO [c]) a (sO l).length 1 with|i::_=>(i:Int)| []=> -1)=Mz c l a:=by
 have lG:∀k,StrLaws.At (sO l) (sO [c]) (sO l).length k↔l[k]? =some c:=λk=>by
  rw[bw,ff l c l.length k (Zq _),YC]
 rw[StrLaws.occ_eq];unfold Mz;rcases StrLaws.occ_first (sO l) (sO [c]) (sO l).length 1 (Zq _) (List.range' a ((sO l).length+1-a)) a (λi hi=>(List.mem_range'_1.mp hi).1)with ⟨f,m⟩|⟨pre,b,g,e,f,P,m⟩
 ·rw (occs:=.all) [f,(List.findIdx?_eq_none_iff.mpr λx o=>?_:(l.drop a).findIdx? (λy=>beq y c)=none)]
  ·obtain⟨i,hi,rfl⟩:=List.mem_iff_getElem.mp o;rw[ZM]at hi;cases q:beq (l.drop a)[i] c with
   |false=>rfl
   |true=>
    show(m (a+i) (List.mem_range'_1.mpr ⟨ZR _ _,by rw[bw];show Nat.add_lt_add_left (ZJ hi (Ws (YX _) a)) a⟩) ((lG _).mpr ?_)).elim;rw[←List.getElem?_drop,Zy (by rw[ZM];show hi),ZC q]
 ·have P:=(lG b).mp P;have d:=(List.mem_range'_1.mp (e▸Xl _ (.head _))).1;have A:b<l.length:=by
   rcases YT b l.length with z|z
   ·show z
   ·rw[Xm z]at P;show aw P
  have s:(l.drop a).findIdx? (λy=>beq y c)=some (b-a):=by
   rw[List.findIdx?_eq_some_iff_getElem];show(aO (by rw[ZM];show Nat.sub_lt_sub_right d A) ?_ λj n=>?_)
   ·rw[List.getElem_drop];have:l[a+(b-a)]? =some c:=by rw[show a+(b-a)=b by show YV d];show P
    rw[Zy (place_lt this)]at this;rw[Zf this];show bW c
   ·rw[List.getElem_drop];intro q;have O:a+j∈pre:=by
     have Q:(List.range' a ((sO l).length+1-a)).Pairwise (· < ·):=List.pairwise_lt_range';rcases Yi.mp (show a+j∈pre++b::g from e▸List.mem_range'_1.mpr ⟨ZR _ _,by rw[bw];show Nat.add_lt_add_left (ZJ n (Ws (Y4 (Yo A)) a)) a⟩)with h|h
     ·show h
     ·rw[e]at Q;rcases Zb h with h|h
      ·lia
      ·have:=(List.pairwise_cons.mp ((List.pairwise_append.mp Q).2.1)).1 _ h;lia
    show m _ O ((lG _).mpr ?_);rw[Zy (Nat.lt_trans (Wi n) A),ZC q]
  rw[s];generalize (forIn (List.range' a ((sO l).length+1-a)) (#[],a) (StrLaws.occBody (sO l) (sO [c]) (sO l).length 1)).run.fst=arr at f;have U:arr.toList[0]? =some b:=by simpa using f
  cases v:arr.toList with
  |nil=>rw[v]at U;show aw U
  |cons x t=>
   rw[v]at U;obtain rfl:x=b:=by simpa using U
   change(x:Int)=((a+(x-a):Nat):Int)
   rw[show a+(x-a)=x by show YV d]
def wy:Unicode.lowerOf 233=[DF 233]:=by decide+kernel
def wx:∀c,c<128->Unicode.lowerOf c=[DF c]:=by
 intro c u;show eq_of_beq (Zd (show(List.range 128).all (λc=>Unicode.lowerOf c==[DF c])=true by decide+kernel) c (List.mem_range.mpr u))
def ti(l:WJ)(h:(l.all λc=>or (Nat.blt c 128) (beq c 233))=true):Txt.lower (sO l)=sO (Bp l):=by
 show lO ?_;unfold Txt.lower placed;have e:((sO l).cps.mapIdx λi Z=>(Unicode.lowerAt (sO l).cps i).toArray)=(l.map λc=> #[DF c]).toArray:=by
  show Array.ext (by simp) λi U N=>?_;have hi:i<l.length:=by simpa using U
  simp only[Array.getElem_mapIdx,List.getElem_toArray,List.getElem_map];have u:=((Yq _ _).mp (Zd h _ (Xh hi))).imp cb ZC;change(match (l.toArray)[i]? with|none=>[]|some c=>if c==0x3A3&&Unicode.endsWord _ i then [0x3C2]else Unicode.lowerOf c).toArray=_;rw[YH,Zy hi];have:(l[i]==0x3A3)=false:=by simp;show λq=>u.elim (λz=>T4 (q▸z) (by ext)) λz=>T4 (q.symm.trans z) (by ext)
  simp only[this,Wg,Bool.false_eq_true,if_false];rw[(u.elim (wx _) λe=>by rw[e];show wy:Unicode.lowerOf l[i]=[DF l[i]])]
 show e▸ ?_;have:∀l:WJ,((l.map λc=> #[DF c]).toArray.flatten).toList=l.map DF:=by
  intro l;induction l with
  |nil=>rfl
  |cons x r Q=>simp_all
 show this l
end
section
open Builtin.Str Builtin
def jA(x y:Wu)(i j:Int)(t u v w:Tok):Gives («str.count» ⟨[.str x t,.str y u,.int i v,.int j w],[]⟩) (.int (occurrences x y (fromIndex x.length i) (min (fromIndex x.length j) x.length) (x.length+1)).length):=by
 show .of_eq rfl
def jz(x y:Wu)(i j:Int)(t u v w:Tok):Gives («str.rfind» ⟨[.str x t,.str y u,.int i v,.int j w],[]⟩) (.int (match lastOccurrence x y (fromIndex x.length i) (min (fromIndex x.length j) x.length)with|some i=>(i:Int)|none=> -1)):=by
 change Gives (match lastOccurrence x y (fromIndex x.length i) (min (fromIndex x.length j) x.length)with|some i=>retInt i|none=>(do rule "str.rfind.not-found";retInt (-1))) _;cases lastOccurrence x y (fromIndex x.length i) (min (fromIndex x.length j) x.length)with
 |none=>show .rule (.of_eq rfl)
 |some i=>show .of_eq rfl
def tV(n:Nat):fromIndex n 0=0:=Nat.eq_zero_of_add_eq_zero_left rfl
def dk(n:Nat)(h:0<=b):fromIndex n b=b.toNat:=by
 unfold fromIndex;rw[Zi (Int.not_lt_of_ge h)];show(Int.le_total 0 _).elim (λh=>T3 _ (Int.max_eq_right h)) λh=>(T3 _ (Int.max_eq_left h)).trans (Int.toNat_of_nonpos h).symm
def j8(l:WJ)(n:Nat):l.take (min n l.length)=l.take n:=by
 rcases Nat.le_total n l.length with h|h
 ·rw[ZO h]
 ·rw[Nat.min_eq_right h,YC,List.take_of_length_le h]
def SD(z y r:WJ)(t:Tz):WJ:=List.casesOn (motive:=λZ=>WJ) t y λZ Z=>y++z++r
def mz(h:B0 z (x::t)=some r):∃y u,x=.str y/\B0 z t=some u/\r=SD z y u t:=by
 show aA (ax (f:=λy=>BK (B0 z t) λr=>SD z y r t) h) λy e h=>?_;show aA (aZ h) λu A h=>?_;show(a8 y u (qP e) A h.symm)
def vG(y z:WJ)(l:WJ):∀n:Nat,(AS y z n l).length<=l.length*(z.length+1):=by
 induction l with
 |nil=>intro n;show ZF _
 |cons c r Q=>
  intro n;rw[Nat.succ_mul];induction n using Nat.casesOn with
  |zero=>
   change(if y.isPrefixOf (c::r)then z++AS y z (y.length-1) r else c::AS y z 0 r).length<=_;split
   ·rw[Zg];have:=Q (y.length-1);show Zh (Zz (Xp _ _)) (Z9 this (YX _))
   ·rw[Zj];have:=Q 0;show Z9 this (Z0 1 _)
  |succ n=>show Zh (Q n) (ZR _ _)
def qh{N:WA}:∀ {Z:TN} {r:WJ},Ba N w F Z l->B0 z l=some r->
  ∃P,StrsAre Z P/\(Str.join (sO z) P).cps.toList=r/\(P.map (·.length)).sum<=r.length/\P.length=l.length:=by
 induction l with
 |nil=>
  intro Z r h e;obtain rfl:=h.inv;obtain rfl:=Zf e;show(aY [] .nil rfl (Zq _) rfl)
 |cons x l m=>
  intro Z r h e;obtain⟨v,Z,rfl,Q,n⟩:=h.inv;show bA (mz e) λy u i U j=>?_;clear h;subst i j;show bO (m n U) λP k o D A=>?_;obtain⟨t,rfl,b⟩:=Q.x;show(aY (sO y::P) (.cons _ _ k) ?_ ?_ (by rw[Zj,A,Zj]))
  ·cases l with
   |nil=>
    have:=List.length_eq_zero_iff.mp A;subst this;rfl
   |cons a l=>
    rw[e9 _ _ (by intro e;replace A:=e▸A;cases A),o];rfl
  ·rw[Ye,List.sum_cons,bw];cases l with
   |nil=>
    have:=List.length_eq_zero_iff.mp A;subst this;show Zq _
   |cons a l=>change _<=(y++z++u).length;simp only[Zg];show Z9 (ZR _ _) D
def vb{pG:WA}:∀(n:Nat) (D:TP),(∀p∈D,p.length<=16777216)->Ba pG w F (strsFrom n D) (D.map λp=>FV.str p.cps.toList):=by
 intro n D;induction D generalizing n with
 |nil=>
  intro _;show .nil
 |cons p r Q=>
  intro h;show .cons ?_ (Q (n+1) λq SG=>h q (.tail _ SG));have e:p=sO p.cps.toList:=by obtain⟨⟩:=p;rfl
  have:=RF.str (pG:=pG) (w:=w) (F:=F) p.cps.toList n (by have:=h p (.head _);show Y8▸ ?_;show this);replace this:=(e.symm)▸this;show this
section
variable {c:Cx}{g:G}{K:Frag}{p:CP}{Sy:TP}{mg mb:Wu->TM}{f:Fm}{d:Nat}{O:Gh}{L:Loc}{J:St}{s:Ww}
def ru{v:Wv}{f:FV}(r:Rel c O L J s)(E:x.length<=16777216)(C:RF c.Aa c.w s.heap.get? v f)
  (h:Ab (aL f) λl=>Ab (B0 x l) λr=>Hr (r.length+l.length*x.length+x.length) (k (.c (.str r)) J)) (m:B2 c L O s k Q):wpAny (model c.Aa c.w) A (PySem.call (.builtin (HY 2)) [.str ⟨x.toArray⟩ t,v]) Q Bl s:=by
 obtain⟨l,e,U⟩:=ak h;obtain⟨rr,w,i,D⟩:=ak U;clear h;obtain rfl:=m9 e;obtain⟨a,F,o,rfl,e,q,j,b⟩:=C.x;show bO (qh j w) λP B y n u=>?_;show aN r.tk (PyProof.Rows.join_list (q.list e) (by simpa using B) (by rw[bw,u];show Zh (ZV n _) (ZK i)) λz Z N=>?_);have:Txt.join (sO x) P=sO rr:=by
  show lO ?_;unfold Txt.join;rw[StrLaws.glued_eq_join];show y
 show this▸ ?_;show m O J _ _ (.c (.str rr)) (.toks _ _) (r.toks N) (dq (.str rr z (ZK (ZK i)))) D
def pL(h:A.handled=none)(r:Rel c O L J s)(y:x.length<=16777216)
  (l:x.length+2<=16777216) (D:Ce (.lst ((Ag ch x).map .str)) J k) (j:B2 c L O s k Q):wpAny (model c.Aa c.w) A (PySem.call (.builtin (HY 6)) [.str ⟨x.toArray⟩ t,.str ⟨[ch].toArray⟩ t1]) Q Bl s:=by
 have z:=rE x ch;have u:((Ag ch x).map FV.str).length<=16777216:=by rw[ZD];have:=lV ch x;lia
 have whole:Txt.split (sO x) (sO [ch])=[sO x]->Ag ch x=[x]:=λe=>by
  rw[e]at z;show z.symm
 have P:=λe=>by
  have D:=D;have u:=u;rw[whole e]at D u;show e8 r.tk r (.cons (.str x t y) .nil) u D j
 cases U:(decide ((sO x).length<(sO [ch]).length)||decide (strKind (sO x)<strKind (sO [ch])))
 ·cases a:(occurrences (sO x) (sO [ch]) 0 (sO x).length ((sO x).length+1)).isEmpty
  ·have v:Txt.split (sO x) (sO [ch])=partsBetween (sO x) (occurrences (sO x) (sO [ch]) 0 (sO x).length ((sO x).length+1)) (sO [ch]).length:=by
    unfold Txt.split;rw[U,a];rfl
   have N:(Txt.split (sO x) (sO [ch])).length<=16777216:=by((show(ZD (f:=λp:Wu=>p.cps.toList))▸ ?_;show z▸ ?_);show(ZD (f:=FV.str))▸ ?_);show u
   show call_meets F.slot_str_split (Wk _ _ _) F.entry_str_split (F.args_str_split_2 _ _) (meets_str_split_sep (sO x) (sO [ch]) t t1 U rfl a (by rw[YE];show y) (by(show v▸ ?_;rw[YE]);show N)) ?_;show v▸ ?_;show e8 (ZJ r.tk (ZR _ _)) r ?_ u D j;have:=vb (pG:=c.Aa) (w:=c.w) (F:=O.F) s.toks (Txt.split (sO x) (sO [ch])) λp j=>by
    have b:p.cps.toList∈Ag ch x:=by show z▸ ?_;show Xr j
    have:=kf ch x _ b;change p.cps.size<=_;show Y8▸ ?_;show Zh this y
   rw[show((Txt.split (sO x) (sO [ch])).map λp=>FV.str p.cps.toList)=(Ag ch x).map FV.str by(show z▸ ?_;rw[Y9]);rfl]at this;show this
  ·show call_meets F.slot_str_split (Wk _ _ _) F.entry_str_split (F.args_str_split_2 _ _) (meets_str_split_not_found (sO x) (sO [ch]) t t1 U rfl a) (P (by unfold Txt.split;rw[U,a];rfl))
 ·show call_meets F.slot_str_split (Wk _ _ _) F.entry_str_split (F.args_str_split_2 _ _) (meets_str_split_cannot_occur (sO x) (sO [ch]) t t1 U) (P (by unfold Txt.split;rw[U];rfl))
def abi(P:0<=j):(occurrences (sO x) (sO [ch]) (fromIndex (sO x).length 0) (min (fromIndex (sO x).length j) (sO x).length) ((sO x).length+1)).length=(x.take j.toNat).count ch:=by
 rw[dk _ P,bw];have:=uB x ch (min j.toNat x.length) (Yt _ _);rw[j8]at this;show this
def zX(P:0<=j):(match lastOccurrence (sO x) (sO [ch]) (fromIndex (sO x).length 0) (min (fromIndex (sO x).length j) (sO x).length)with|some i=>(i:Int)|none=> -1)=Dn ch (x.take j.toNat):=by
 rw[dk _ P,bw];have:=tC x ch (min j.toNat x.length) (Yt _ _);rw[j8]at this;show this
def aaa:(decide (0+(sO U).length<=(sO x).length)&&subAt (sO x) (sO U) 0)=U.isPrefixOf x:=by
 rw[Bool.eq_iff_iff,Zp,StrLaws.subAt_eq,ja,bw,bw];simp only[Yw,Yp];constructor
 ·show λh=>h.2
 ·intro h;show⟨?_,h⟩;have:=T3 List.length h;rw[ZG]at this;lia
def zH:K4 c L:=by
 intro n O J s A k Q v x vs H V o r W N y h B;obtain⟨t,rfl,G⟩:=N.x;rcases ZU o with rfl|o
 ·obtain⟨p,e,h⟩:=ak h;obtain⟨ch,U,h⟩:=ak h;obtain⟨a,Z,⟨h0,Y⟩,D⟩:=ak h;obtain⟨f,fr,rfl,E⟩:∃f fr,H=f::fr/\BK (Sp fr) (λb=>(f,b))=some p:=by
   cases H with
   |nil=>show aw e
   |cons f fr=>show(aU f fr rfl e)
  show aA (aZ E) λb X I=>?_;clear h E;subst I;obtain⟨v1,vr,rfl,g1,S⟩:=y.inv;show aA (S.one X) λv2 m g2=>?_;clear S y;subst m;show zE (g1.FU U) λt1 m=>?_;subst m;show zE (g2.aI Z) λSe m=>?_;subst m;show call_gives F.slot_str_find (Wk _ _ _) F.entry_str_find (F.args_str_find_3 _ _ _) (gives_str_find_from _ _ _ _ _ _) ?_;change Q (.int (match occurrences (sO x) (sO [ch]) (fromIndex (sO x).length a) (sO x).length 1 with|k::_=>(k:Int)| []=> -1) s.toks) {s with toks:=s.toks+1};rw[dk _ h0,show(match occurrences (sO x) (sO [ch]) a.toNat (sO x).length 1 with|k::_=>(k:Int)| []=> -1)=Mz ch x a.toNat from wU x ch a.toNat Y];show B O J _ _ (.c (.int _)) (.toks _ _) r.dX (dq (.int _ _)) D
 rcases ZU (ZN o)with rfl|o
 ·obtain⟨f,e,h⟩:=ak h;obtain⟨pf,U,D⟩:=ak h;show aA (y.one e) λv m N=>?_;clear y;subst m;obtain⟨t1,rfl,_⟩:=N.aS U;show call_gives F.slot_str_startswith (Wk _ _ _) F.entry_str_startswith (F.args_str_startswith_2 _ _) (gives_str_startswith _ _ _ _) ?_;show aaa▸ ?_;show B O J s _ (.c (.Ae _)) (.refl _ _ _ _) r (dq (.Ae _)) D
 rcases ZU (ZN o)with rfl|o
 ·show h.elim
 rcases ZU (ZN o)with rfl|o
 ·induction H using Re with
  |cons _ _=>show h.elim
  |nil=>
   show zA h λC D=>?_;obtain rfl:=y.inv;have e:=ti x C;have T:(Bp x).length=x.length:=YS (len_of_map_eq rfl);show SC.lower (by rw[e,bw,T];show Zs (by show YE▸ ?_;show YN.mpr G)) ?_;rw[e];show B O J _ _ (.c (.str (Bp x))) (.toks _ _) r.dX (dq (.str (Bp x) _ (by show T▸ ?_;show G))) D
 rcases ZU (ZN o)with rfl|o
 ·obtain⟨f,e,h⟩:=ak h;obtain⟨ch,U,R,D⟩:=ak h;show aA (y.one e) λv m N=>?_;clear y;subst m;show zE (N.FU U) λt1 m=>?_;subst m;show pL W r G R D B
 rcases ZU (ZN o)with rfl|o
 ·show cX (y.GW h) λa f b g z w l C M P h=>?_;subst l;obtain⟨ch,U,h⟩:=ak h;obtain⟨i,Z,h⟩:=ak h;obtain⟨j,E,⟨rfl,q,u⟩,D⟩:=ak h;show zE (C.FU U) λt1 m=>?_;clear C y;subst m;show zE (M.aI Z) λSe m=>?_;subst m;show zE (P.aI E) λt3 m=>?_;subst m;show call_gives F.slot_str_rfind (Wk _ _ _) F.entry_str_rfind (F.args_str_rfind_4 _ _ _ _) (jz _ _ _ _ _ _ _ _) ?_;rw[zX q];show B O J _ _ (.c (.int _)) (.toks _ _) r.dX (dq (.int _ _)) D
 rcases ZU (ZN o)with rfl|o
 ·show cX (y.GW h) λa f b g z w l C M P h=>?_;subst l;obtain⟨ch,U,h⟩:=ak h;obtain⟨i,Z,h⟩:=ak h;obtain⟨j,E,⟨rfl,q,u⟩,D⟩:=ak h;show zE (C.FU U) λt1 m=>?_;subst m;show zE (M.aI Z) λSe m=>?_;subst m;show zE (P.aI E) λt3 m=>?_;subst m;show call_gives F.slot_str_count (Wk _ _ _) F.entry_str_count (F.args_str_count_4 _ _ _ _) (jA _ _ _ _ _ _ _ _) ?_;rw[abi q];show B O J _ _ (.c (.int _)) (.toks _ _) r.dX (dq (.int _ _)) D
 rcases ZU (ZN o)with rfl|o
 ·show h.elim
 obtain rfl:=YK (ZN o) V;obtain⟨f,e,h⟩:=ak h;show aA (y.one e) λv m N=>?_;subst m;show ru r G N h B
def abP(Y:Ctx c K p Sy mg mb)(hb:AU o=true)(i:(apos.endLine==pos.line)=true)(I:a.cps.size<14)(P:b.cps.size<14)(h:SE c g f d xo o):
  SE c g f d (.rep xo a.cps.toList b.cps.toList) (.Call (.Attribute o "replace" apos) [.Constant (.str a) k1 p1,.Constant (.str b) k2 p2] [] pos):=by
 intro O J s A k Q r T H hp;rw[arm_eval_Call _ _ _ _ _ _ _,cQ hb];show Zn (h O J s A _ _ r T H λZ n l ov oa z U ho B=>?_);obtain⟨q,G,C⟩:=ak B;clear B;obtain rfl:=f7 G;obtain⟨x,G,⟨D,j⟩,B⟩:=ak C;clear C;obtain rfl:=qP G;replace D:=(Zp _ _)▸D;have M:a=sO a.cps.toList:=by cases a;rfl
 have R:b=sO b.cps.toList:=by obtain⟨⟩:=b;rfl
 have w:methodCallPos true o f.env apos pos=pure pos:=by unfold methodCallPos;simp[i]
 have v:methodCallForm ([Expr.Constant (.str a) k1 p1,Expr.Constant (.str b) k2 p2].length+([]:List WI).length) (backTo pos (starEach [.Constant (.str a) k1 p1,.Constant (.str b) k2 p2] f.env)) (backToKw pos (keywordEach [] f.env))=true:=rfl;unfold methodCall;show v▸ ?_;have m:=ho;show Zn (Yz (Zn (ZY (oT F.slot_str_replace F.type_str_replace m (Zn (X7 w ?_))))));show Xz rfl (Calls.evalArgs_plain (Calls.spliced_cons (wpAny_Constant_str (k:=k1) (pos:=p1) (Calls.spliced_cons (wpAny_Constant_str (k:=k2) (pos:=p2) (Calls.spliced_nil ?_))))));obtain⟨t,rfl,y⟩:=m.x
 ·have hy:a.cps.toList≠[]:=λe=>by replace D:=e▸D;cases D.1
  have E:(a==b)=false:=by
   have N:=D.2;replace N:=(aE _ _)▸N;simp only[Z8,decide_eq_false_iff_not]at N;rw[Y5];intro e;show N (by rw[e])
  have u:(AS a.cps.toList b.cps.toList 0 x).length<=16777216:=by
   have C:=vG a.cps.toList b.cps.toList x 0;have N:x.length*(b.cps.toList.length+1)<=x.length*14:=Yg _ (by show Y8▸ ?_;show Nat.succ_le_of_lt P);show Zh C (Zh N (Zh (Nat.mul_le_mul_right 14 j) (by ext)))
  change wpAny _ _ (PySem.call (.builtin "str.replace") [.str (sO x) t,.str a l.toks,.str b (l.toks+1)]) _ _ _;have r2:=U.ach;have S:=Ext.toks (L:=f.L) (g:=Z) (s:=l) false (l.toks+1+1);show aN r2.tk (SC.replaceW (by have:=U.tk;change l.toks≠0;show Nat.ne_zero_of_lt this) (Nat.succ_ne_zero _) (Z3 (Z4 _)) E (by rw[bw];show j) (Yo P) λt' V W=>?_);have e:Txt.replace (sO x) a b=sO (AS a.cps.toList b.cps.toList 0 x):=by
   have:=zZ x a.cps.toList b.cps.toList hy;replace this:=(YS M)▸this;replace this:=(YS R)▸this;show this
  show e▸ ?_;show hp Z n _ _ (.c (.str _)) ((z.trans r U S).trans r r2 (.toks false V)) (r2.toks W) (dq (.str _ t' u)) B
end
end
section
variable {c:Cx}{g:G}{K:Frag}{p:CP}{Sy:TP}{mg mb:Wu->TM}{f:Fm}{d:Nat}{O:Gh}{L:Loc}{J:St}{s:Ww}
def Ba.last{N:WA}{w:Wy}{F:WD->TQ}{Z:TN}{l:Tz}{x:FV}(h:Ba N w F Z l)(e:l.getLast?=some x):∃v,Z[Z.length-1]? =some v/\RF N w F v x/\Ba N w F Z.dropLast l.dropLast:=by
 rw[List.getLast?_eq_getElem?]at e;have D:=h.len;show aA (h.get? e) λv U a=>(ck v (by rw[D];show U) a ?_)
 rw[List.dropLast_eq_take,List.dropLast_eq_take,D];show Ba.take _ h
def wq{ft:List WD}{l1:Tz}(r:Rel c O L J s)(e:O.φ i=some (a,ft))(q:Sx i J.H=some (.lst l1))(h:RF c.Aa c.w O.F v N)(b:l1.length+1<=16777216)
  (x:k (.c .Ak) (As J (put i (.lst (l1++[N])) J.H))) (t:B2 c L O s k Q):wpAny (model c.Aa c.w) A (PySem.call (.builtin (HY 0)) [.ref a,v]) Q Bl s:=by
 show bI (r.ob e q) λZ o E U j D C=>?_;obtain⟨m,rfl⟩:=j;show wpAny_list_append_plain ⟨m,U⟩ (λB y n=>?_) (by rw[ZP,D.len,YE];omega);show zE y λw l=>zA (r.gr r.tk e q n l ⟨w,by simp⟩ (Ba.append (.cons h .nil) D) (by rw[Zg];show b)) λr2 z=>?_;show t _ _ _ _ (.c .Ak) z r2 (dq .Ak) x
def wm{ft:List WD}(r:Rel c O L J s)(e:O.φ i=some (a,ft))(q:Sx i J.H=some (.lst l))(P:l.getLast?=some x)
  (B:k (.c x) (As J (put i (.lst l.dropLast) J.H))) (n:B2 c L O s k Q):wpAny (model c.Aa c.w) A (PySem.call (.builtin (HY 1)) [.ref a]) Q Bl s:=by
 show bI (r.ob e q) λZ o N U j D t=>?_;obtain⟨m,h⟩:=j;subst h;show bM (D.last P) λv C w y=>?_;have z:N.toArray.size<=sizeLine:=by rw[ZP,D.len,YE];show t
 show call_meets F.slot_list_pop (aO _ U rfl) F.entry_list_pop (F.args_list_pop_1 _) (MeetsSeq.list_pop_last a N.toArray m v (by rw[YH];show C) z) ⟨U,?_⟩;have hd:N.toArray.eraseIdxIfInBounds (N.toArray.size-1)=N.dropLast.toArray:=by
  rw[List.eraseIdxIfInBounds_toArray,List.eraseIdx_length_sub_one]
 show zA (r.gr r.tk e q (Heap.SameBut.update ..) (show(s.heap.update a (Obj.mapSeq λu=>u.eraseIdxIfInBounds (N.toArray.size-1))).get? a=some (Obj.mapSeq (λu=>u.eraseIdxIfInBounds (N.toArray.size-1)) {cls:=.type "list",data:=.seq N.toArray m}) from Heap.get?_update_self _ U rfl) (yE _ (by simp only[Obj.mapSeq,hd];rfl)) y (by rw[List.length_dropLast];omega)) λr2 b=>n _ _ _ _ (.c x) b r2 (dq (RF.mono b.le.F w)) B
def s7{ft:List WD}{x:FV}(r:Rel c O L J s)(e:O.φ i=some (a,ft))(q:Sx i J.H=some (.lst (x::t)))
  (h:k (.c x) (As J (put i (.lst t) J.H))) (B:B2 c L O s k Q):wpAny (model c.Aa c.w) A (PySem.call (.builtin (HY 1)) [.ref a,.int 0 Z]) Q Bl s:=by
 show bI (r.ob e q) λC o N U j D b=>?_;obtain⟨m,w⟩:=j;obtain⟨v,N,rfl,E,y⟩:=D.inv;subst w;have z:(v::N).toArray.size<=sizeLine:=by rw[ZP,Zj,y.len];show b
 show call_meets F.slot_list_pop (aO _ U rfl) F.entry_list_pop (F.args_list_pop_2 _ _) (MeetsSeq.list_pop_at a (v::N).toArray m 0 _ 0 v (by ext) (by simp[seqIndex?]) rfl z) ⟨U,?_⟩;have hd:(v::N).toArray.eraseIdxIfInBounds 0=N.toArray:=by
  rw[List.eraseIdxIfInBounds_toArray];rfl
 show zA (r.gr r.tk e q (Heap.SameBut.update ..) (show(s.heap.update a (Obj.mapSeq λu=>u.eraseIdxIfInBounds 0)).get? a=some (Obj.mapSeq (λu=>u.eraseIdxIfInBounds 0) {cls:=.type "list",data:=.seq (v::N).toArray m}) from Heap.get?_update_self _ U rfl) (yE _ (by simp only[Obj.mapSeq,hd];rfl)) y (by replace b:=Zj▸b;omega)) λr2 n=>B _ _ _ _ (.c x) n r2 (dq (RF.mono n.le.F E)) h
def aay:K6 c L:=by
 intro n O J s A k Q i a ft l vs W B r e q m h E;rcases ZU B with rfl|B
 ·induction W using Re with
  |nil=>
   obtain⟨x,P,D⟩:=ak h;obtain rfl:=m.inv;show wm r e q P D E
  |cons y ys=>
   obtain⟨x,P,U⟩:=ak h;show aA (m.one P) λv b C=>?_;clear m;subst b;obtain⟨f,I,N⟩:=ak U;obtain⟨j,T,o⟩:=ak N;clear P U;obtain rfl:=f7 I;show zE (RF.aI C T) λt b=>?_;subst b;show zA (qL o) λY o=>?_;obtain rfl:=Zm Y;induction l using Re with
   |nil=>show o.elim
   |cons x t=>show s7 r e q o E
 ·obtain rfl:=Wq.mp (ZN B);obtain⟨x,P,U⟩:=ak h;obtain⟨p,u,N⟩:=ak U;show aA (m.one P) λv b C=>?_;subst b;show bM (eI r C u) λg1 H G R=>zE (H.le.f e) λz M=>?_;obtain⟨l1,q1,F,D⟩:=ak N;show wq G M (uX q1) R F D λw Z S v y V X hv D=>E w Z S v y (H.trans r G V) X hv D
def lJ{N:WA}
  (h:wpAny (model N w) A (isTrue z env (eval z env)) (λb P=>
    if b then wpAny (model N w) A (execs y env) (λf j=>match f with
      | .next| .cont=>codeAny (model N w) A (.whileLoop z y [] env) R j
      | .brk=>R (.ok .next) j
      | .ret v=>R (.ok (.ret v)) j) Bl P
    else R (.ok .next) P) Bl s):codeAny (model N w) A (.whileLoop z y [] env) R s:=by
 show codeAny_of_tree ?_;show wpAny_noted ?_;show Zn (ZT h (λb P u=>?_) λZ Z l=>l.elim);induction b using Bool.casesOn with
 |false=>
  simp only[Bool.false_eq_true,if_false]at u⊢;show Zn (X3 (ZE u))
 |true=>
  simp only[if_true]at u⊢;show Zn (ZT u (λf j U=>?_) λZ Z l=>l.elim);cases f with
  |next=>show ZE ⟨rfl,U⟩
  |cont=>show ZE ⟨rfl,U⟩
  |brk=>show ZE U
  |ret v=>show ZE U
def kP{N:WA}
  (h:wpAny (model N w) A (pyNext z) (λr l=>match r with
   |none=>R (.ok .next) l
   |some v=>wpAny (model N w) A (letOwnedTupleGo D z v) (λZ O=>
     wpAny (model N w) A (assign D env v) (λZ P=>wpAny (model N w) A (execs y env) (λf j=>match f with
      | .next| .cont=>codeAny (model N w) A (.forLoop D z y [] env) R j
      | .brk=>R (.ok .next) j
      | .ret v=>R (.ok (.ret v)) j) Bl P) Bl O) Bl l) Bl s):codeAny (model N w) A (.forLoop D z y [] env) R s:=by
 show codeAny_of_tree ?_;show wpAny_noted ?_;show Zn (Yz (Zn (wpAny_onRaise (ZT h (λr l a=>?_) λZ Z b=>b.elim))));induction r using Option.casesOn with
 |none=>show ZE ⟨rfl,codeAny_block (X3 a)⟩
 |some v=>
  show Zn (ZT a (λZ O Q=>?_) λZ Z b=>b.elim);show Zn (ZT Q (λZ P u=>Zn (ZT u (λf j U=>?_) λZ Z b=>b.elim)) λZ Z b=>b.elim);cases f with
  |next=>show ZE ⟨rfl,U⟩
  |cont=>show ZE ⟨rfl,U⟩
  |brk=>show ZE U
  |ret v=>show ZE U
def aeH(L:ST c g f d x e)(M:SB c g f d b body):SS c g f d (.wh lb x b) (.While e body [] pos):=by
 intro O J s A k Q r H G E;show wpAny_While ?_;have key:=G (λB=>∀l o,Ext f.vl f.L O s l o->Rel c l f.L B o->codeAny (model c.Aa c.w) A (.whileLoop e body [] f.env) (λr o=>match r with| .ok f=>Q f o| .error e=>cameBackBy (model c.Aa c.w) A f.env Bl e o) o)
  λB C l o I F=>by
   show lJ (L l B o A (λt J=>S7 t (ex g b J (Pg _ k)) (k .AZ J)) _ F H C λZ m n t q U i=>?_);have i:=mZ i;induction t using Bool.casesOn with
   |false=>
    simp only[if_false]at i⊢;show E Z m n .next .AZ (I.trans r F q).o U rfl i
   |true=>
    simp only[if_true]at i⊢;show M Z m n A _ _ U H i λj z P u y N h w i=>?_;have D:=((I.trans r F q).o.trans r U N).vv;induction y using Fl.casesOn with
    |AZ=>subst w;show i j P D h
    |cnt=>subst w;show i j P D h
    |brk=>subst w;show E j z P .next .AZ D h rfl i
    |ret a=>obtain⟨v,rfl,w⟩:=w;show E j z P (.ret v) (.ret a) D h (aO v rfl w) i
 show key O s (.refl _ _ _ _) r
set_option backward.match.sparseCases true
def Gc(h:WH)(I:WD):Prop:=∃o T,h.get? I=some o/\o.cls=.type T/\["enumerate","zip","dict_itemiterator","dict_reverseitemiterator","odict_iterator","itertools.zip_longest","itertools.pairwise"].contains T=false
def adx{M:Model}(h:Gc s.heap I)(SG:Q () s):wpAny M A (letOwnedTupleGo D (.ref I) v) Q E s:=by
 show bA h λo T U N b=>?_;have k:wpAny M A (do
   let (.ref r,.ref a):=(Value.ref I,v)|return
   let o←load r
   match o.cls,o.data with
   | .type n,.fields Z=>
    if ["enumerate","zip","dict_itemiterator","dict_reverseitemiterator","odict_iterator","itertools.zip_longest","itertools.pairwise"].contains n&&Z[0]? ==some (rawInt a)then
     rule "for.unpacks-the-owned-tuple"
     updateField r 0 .none
   |_,_=>pure ()) Q E s:=by
  cases v with
  |ref a=>
   show Zn (wpAny_load U ?_);rw[N];cases o.data with
   |fields Z=>dsimp only;rw[b];show ZE SG
   |_=>show ZE SG
  |_=>show ZE SG
 cases D with
 |Tuple=>show k
 |List=>show k
 |_=>show ZE SG
structure Qu (c:Cx) (A:Wz) (F:WD->TQ) (I:WD) (fp wr:List WD) (items:Tz) (St:Nat->WH->Prop):Prop where
 W:∃P,Walks c.Aa c.w A I fp wr items.length P St/\∀i v,P i v->∃x,items[i]? =some x/\RF c.Aa c.w F v x
 live:∀i h,St i h->∀b∈fp,∃o,h.get? b=some o
 go:∀i h,St i h->Gc h I
structure Ef (g:Gh) (L:Loc) (fp wr:List WD):Prop where
 fp:∀b∈fp,¬L.CN b/\¬AD g b
 wr:∀b∈wr,g.F b=none
def Rel.turn(r:Rel c O L J s){tk:Nat}(n:0<tk)(u:Ef O L fp wr)(h:∀b∈wr,b∈fp)(D:∀b o,b∉wr->s.heap.get? b=some o->h'.get? b=some o):Rel c O L J {s with heap:=h',toks:=tk}:=by
 have A:∀x o,O.F x=some o->x∉wr:=λx o e P=>by replace e:=(u.wr x P)▸e;show aw e
 show⟨λx N e=>D x N (A x N e) (r.Av x N e),λj N m=>?_,r.sep,λx P=>?_,r.nL,?_,r.new,r.DY,r.CZ,r.base,r.Lb,n⟩
 ·show aX (r.obs j N m) λb l e Q=>(aU b l e (Q.step (.refl _ _) λx P o k=>D x o (λi=>(u.fp x (h x i)).2 (ay j b l e P)) k))
 ·show cV (r.off x P) λa v N w=>⟨a,v,yE N (D x N (λi=>(u.fp x (h x i)).2 P) w)⟩
 ·show r.loc.step (.refl _ _) λx P=>av λo e=>D x o (λi=>(u.fp x (h x i)).1 P) e
def Ext.turn(x:Ext b L A j Q l){tk:Nat}{wr:List WD}(v:∀b∈wr,j.heap.get? b=none)(D:∀b o,b∉wr->l.heap.get? b=some o->h'.get? b=some o):
  Ext b L A j Q {l with heap:=h',toks:=tk}:=
 ⟨x.le,λy o e a i=>D y o (λq=>by replace e:=(v y q)▸e;show aw e) (x.keep y o e a i),λy P o e=>(x.EN y P o e).elim λo' h=>(aO o' (D y o' (λq=>by replace e:=(v y q)▸e;show aw e) h.1) h.2),x.fp,x.fF,x.gens,x.os,x.drawn⟩
def Ef.ext{v wr:List WD}(u:Ef A L v wr)(x:Ext b L A j Q l)(N:∀b∈wr,b∈v)(D:∀b∈v,∃o,j.heap.get? b=some o):Ef Q L v wr:=by
 have U:∀b∈v,¬AD Q b:=λb P h=>by
  rcases x.fp b h with z|z
  ·show(u.fp b P).2 z
  ·show zE (D b P) λo e=>?_;rw[z]at e;show aw e
 show⟨λb P=>⟨(u.fp b P).1,U b P⟩,λb P=>?_⟩;cases q:Q.F b with
 |none=>rfl
 |some o=>
  rcases x.fF b o q with z|z|z
  ·rw[u.wr b P]at z;show aw z
  ·show((u.fp b (N b P)).2 z).elim
  ·show zE (D b (N b P)) λo e=>?_;rw[z]at e;show aw e
def Rel.fresh(r:Rel c O L J s):O.F s.heap.objs.size=none/\¬L.CN s.heap.objs.size/\¬AD O s.heap.objs.size:=r.free (aF (Zq _))
def Rel.closed(r:Rel c O L J s)(e:O.F a=some o):¬L.CN a/\¬AD O a:=
 ⟨λz=>(by replace e:=(r.nL a z)▸e;show aw e),λz=>(by have h:=(r.off a z).1;replace h:=e▸h;cases h)⟩
def BD(c:Cx)(A:Wz)(L:Loc)(O:Gh)(s:Ww)(l:Tz)(Z:St)(Q:Wv->Ww->Prop):Prop:=
 ∀a j I v wr St,Ext false L O s a j->Rel c a L Z j->Qu c A a.F I v wr l St->Ef a L v wr->(∀b∈wr,b∈v)->(∀b∈wr,s.heap.get? b=none)->(∀x o,s.heap.get? x=some o->j.heap.get? x=some o)->St 0 j.heap->Q (.ref I) j
def kH{Q:Wv->Ww->Prop}{St:Nat->WH->Prop}(r:Rel c O L J s)(e:O.F a=some o)(j:Ba c.Aa c.w O.F Z l)
  (W:Walks c.Aa c.w A s.heap.objs.size [s.heap.objs.size,a] [s.heap.objs.size] Z.toArray.size (λi v=>Z.toArray[i]? =some v) St) (y:∀i h,St i h->Gc h s.heap.objs.size/\∃o,h.get? a=some o) (t:St 0 (s.heap.push no)) (q:BD c A L O s l J Q):
  Q (.ref s.heap.objs.size) {s with heap:=s.heap.push no}:=by
 have u:s.heap.get? s.heap.objs.size=none:=aF (Zq _);show zA (r.free u) λw n=>?_;rw[show Z.toArray.size=l.length from j.len]at W;show q O _ s.heap.objs.size [s.heap.objs.size,a] [s.heap.objs.size] _ (.push _) (r.push _) ⟨aO _ W λi v hi=>?_,λi h st b P=>?_,λi h st=>(y i h st).1⟩ ⟨λb P=>?_,λb P=>?_⟩ (λb P=>?_) (λb P=>?_) (λk k e=>Zw _ e) t
 ·rw[YH]at hi;have N:i<l.length:=by
   rcases YT i Z.length with z|z
   ·rw[←j.len];show z
   ·rw[Xm z]at hi;show aw hi
  show aA (j.get? (Zy N)) λx U m=>?_;rw[hi]at U;obtain rfl:=Zf U;show(aO _ (Zy N) m)
 ·rcases Zb P with rfl|P
  ·show(y i h st).1.elim λo h=>h.elim λk h=>(yE o h.1)
  ·rw[Za P];show(y i h st).2
 ·rcases Zb P with rfl|P
  ·show n
  ·rw[Za P];show r.closed e
 ·rw[Za P];show w
 ·rw[Za P];show .head _
 ·rw[Za P];show u
def Rel.ne0(r:Rel c O L J s)(e:O.F a=some o):a≠s.heap.objs.size:=λz=>by have:=r.Av _ _ e;rw[z,aF (Zq _)]at this;show aw this
def qj(r:Rel c O L J s)(U:A.handled=none)(e:O.F a=some o)(q:Ca "list" o Z)(j:Ba c.Aa c.w O.F Z l)(b:BD c A L O s l J Q):
  wpAny (model c.Aa c.w) A (pyIter (.ref a)) Q Bl s:=by
 have D:=q.list (r.Av _ _ e);show wpAny_pyIter_list D (kH r e j (Walks.list U s.heap.objs.size a (r.ne0 e) Z.toArray) (λi h st=>⟨st.1.elim λo z=>(a8 o _ z.1 z.2.1 rfl),st.2.elim λo z=>(yE o z.1)⟩) ⟨ck _ (ZL _ rfl) rfl rfl,D.push _⟩ b)
def mA(r:Rel c O L J s)(U:A.handled=none)(e:O.F a=some o)(q:Ca "tuple" o Z)(j:Ba c.Aa c.w O.F Z l)(b:BD c A L O s l J Q):
  wpAny (model c.Aa c.w) A (pyIter (.ref a)) Q Bl s:=by
 have D:=q.tuple (r.Av _ _ e);show wpAny_pyIter_tuple D (kH r e j (Walks.tuple U s.heap.objs.size a (r.ne0 e) Z.toArray) (λi h st=>⟨st.1.elim λo z=>(a8 o _ z.1 z.2.1 rfl),st.2.elim λo z=>(yE o z.1)⟩) ⟨ck _ (ZL _ rfl) rfl rfl,D.elim λo z=>(aO o (Zw _ z.1) z.2)⟩ b)
def tF{x:WJ}(r:Rel c O L J s)(w:A.handled=none)(q:BD c A L O s (x.map λy=>.str [y]) J Q):
  wpAny (model c.Aa c.w) A (pyIter (.str ⟨x.toArray⟩ t)) Q Bl s:=by
 show cu r.fresh λB m n=>?_;have l:∀i v,SignAt ⟨x.toArray⟩ i v->∃y,(x.map λy=>FV.str [y])[i]? =some y/\RF c.Aa c.w O.F v y:=λi v h=>by
  show aX h λch u U N=>?_;have U:=U;rw[YH]at U;clear h;subst N;show(aO (.str [ch]) (by rw[Xq,U];rfl) (.str [ch] u (by show YB _)))
 have go:∀(T:String),["enumerate","zip","dict_itemiterator","dict_reverseitemiterator","odict_iterator","itertools.zip_longest","itertools.pairwise"].contains T=false->(∀a:Wz,a.handled=none->Walks c.Aa c.w a s.heap.objs.size [s.heap.objs.size] [s.heap.objs.size] (⟨x.toArray⟩:Wu).cps.size (SignAt ⟨x.toArray⟩) λi h=>h.IsStrIter s.heap.objs.size T ⟨x.toArray⟩ t i)->
   Q (.ref s.heap.objs.size) {s with heap:=s.heap.push {cls:=.type T,data:=.fields #[.str ⟨x.toArray⟩ t,.int 0 0]}}:=λT j W=>by
  have W:=W A w;rw[show(⟨x.toArray⟩:Wu).cps.size=(x.map λy=>FV.str [y]).length by simp]at W;show q O _ s.heap.objs.size [s.heap.objs.size] [s.heap.objs.size] _ (.push _) (r.push _) ⟨aO _ W l,λi h st b P=>?_,λi h st=>st.elim λo z=>(a8 o _ z.1 z.2.1 j)⟩ ⟨λb P=>?_,λb P=>?_⟩ (λb P=>P) (λb P=>?_) (λZ Z e=>Zw _ e) (ck _ (ZL _ rfl) rfl rfl)
  ·rw[Za P];show aA st λo z Z=>(yE o z)
  ·rw[Za P];show⟨m,n⟩
  ·rw[Za P];show B
  ·rw[Za P];show show s.heap.get? s.heap.objs.size=none from aF (Zq _)
 cases k:(⟨x.toArray⟩:Wu).cps.all (· <128)
 ·show wpAny_pyIter_wide k (go _ rfl λa D=>Walks.strWide D _ _ _)
 ·show wpAny_pyIter_ascii k (go _ rfl λa D=>Walks.strAscii D _ _ _)
def BD.after(r:Rel c O L J s)(a:Rel c y L Z s)(x:Ext false L O s y s)(h:BD c A L O s l Z Q):BD c A L y s l Z Q:=
 λg2 b I v wr St z r2 i u j e D st=>h g2 b I v wr St (x.trans r a z) r2 i u j e D st
def Eh.get?{N:WA}(h:Eh N w F U l):∀ {i:Nat} {k:Wu} {v:Wv},U[i]? =some (k,v)->∃p,l[i]? =some p/\k=CH p.1:=by
 induction l generalizing U with
 |nil=>intro i k v e;obtain rfl:=h.inv;show aw e
 |cons p l Q=>
  intro i k v e;show bA h.inv λa r P Z D=>?_;clear h;subst P;cases i with
  |zero=>cases e;show(aO p rfl rfl)
  |succ i=>show Q D e
def qk(r:Rel c O L J s)(G:A.handled=none)(e:O.F a=some o)(n:a≠sysModules)(q:Di (strKind c.Aa c.w) o U)(j:Eh c.Aa c.w O.F U l)
  (P:(l.all λp=>ble p.1.length 1000)=true) (F:BD c A L O s (l.map λp=>.str p.1) J Q):wpAny (model c.Aa c.w) A (pyIter (.ref a)) Q Bl s:=by
 obtain⟨B,m⟩:=(q.at (r.Av _ _ e)).dictAt;obtain⟨H,w,C⟩:=r.fresh;have W:=Walks.dictKeys (knd:=PySem.strKind c.Aa c.w) G s.heap.objs.size a (r.ne0 e) U B;have u:(l.map λp=>FV.str p.1).length=U.length:=by rw[ZD,j.len]
 rw[←u]at W;show wpAny_pyIter_dict (pK n) m (F O _ s.heap.objs.size [s.heap.objs.size,a] [s.heap.objs.size] _ (.push _) (r.push _) ⟨aO _ W λi v hi=>?_,λi h st b P=>?_,λi h st=>st.1.elim λo z=>(a8 o _ z.1 z.2.1 rfl)⟩ ⟨λb P=>?_,λb P=>?_⟩ (λb P=>?_) (λb P=>?_) (λZ Z e=>Zw _ e) ⟨ck _ (ZL _ rfl) rfl ?_,m.push _⟩)
 ·obtain⟨k,x,E,N⟩:=hi;obtain⟨p,D,rfl⟩:=j.get? E;show(aO (.str p.1) (by rw[Xq,D];rfl) ?_);have I:=ZQ (Zd P p (List.mem_of_getElem? D));cases v with
  |str y t=>
   rw[show y=CH p.1 by simpa[PySem.strKind,PySem.Value.isStrOf] using N];show .str p.1 t (by lia)
  |_=>show a7 N
 ·rcases Zb P with rfl|P
  ·show st.1.elim λo z=>(yE o z.1)
  ·rw[Za P];show st.2.elim λo z=>z.elim λZ z=>(yE o z.1)
 ·rcases Zb P with rfl|P
  ·show⟨w,C⟩
  ·rw[Za P];show r.closed e
 ·rw[Za P];show H
 ·rw[Za P];show .head _
 ·rw[Za P];show show s.heap.get? s.heap.objs.size=none from aF (Zq _)
 ·rw[u];rfl
def ew{N:FV}(r:Rel c O L J s)(U:A.handled=none)(j:RF c.Aa c.w O.F v N)(e:OQ N=some l)(i:BD c A L O s l J Q):wpAny (model c.Aa c.w) A (pyIter v) Q Bl s:=by
 induction N using FV.casesOn with
 |str x=>obtain⟨t,rfl,b⟩:=j.x;obtain rfl:=Zf e;show tF r U i
 |tup l=>obtain⟨a,Z,o,rfl,h,q,rr,b⟩:=j.x;obtain rfl:=Zf e;show mA r U h q rr i
 |lst l=>obtain⟨a,Z,o,rfl,h,q,rr,b⟩:=j.x;obtain rfl:=Zf e;show qj r U h q rr i
 |An l=>
  obtain⟨a,o,k,rfl,h,n,q,rr,b⟩:=j.x;have e:(Bool.rec none (some (l.map λp=>FV.str p.1)) (l.all λp=>ble p.1.length 1000):Option Tz)=some _:=e;cases P:(l.all λp=>ble p.1.length 1000)with
  |false=>rw[P]at e;show aw e
  |true=>rw[P]at e;obtain rfl:=Zf e;show qk r U h n q rr P i
 |_=>cases e
def oi{p:Tz×St}(r:Rel c O L J s)(n:A.handled=none)(N:RV c.Aa c.w O v x)(h:Io x J=some p)(j:BD c A L O s p.1 p.2 Q):
  wpAny (model c.Aa c.w) A (pyIter v) Q Bl s:=by
 induction x using V.casesOn with
 |c M=>show aA (aZ h) λZ k P=>?_;subst P;show ew r n N k j
 |ob i=>
  show aX N λa ft e b=>?_;subst b;show aA (ax h) λo q U=>?_;have m:=r.ob e q;induction o using AO.casesOn with
  |lst I=>
   clear h;obtain rfl:=Zf U;show bI m λz o H U w D B=>?_;clear m;subst z;show bM (r.freeze e U λt G C=>.lst C w (Ba.mono G.F D) B) λt u F E=>ew u n E rfl (j.after r u F)
  |Av f=>show aA (aZ U) λZ k P=>?_;clear h U;subst P;show ew r n m.2 k j
  |_=>show aw U
 |_=>show aw h
def oY{A:Wz}{x:S}{R:Result->Ww->Prop}{I:WD}{fp wr:List WD}{h:Tz}{F:Nat->WH->Prop}{X:WD->TQ}
  (rm:Ay f.L d A) (hb:SB c g f d x body) (r₀:Rel c O f.L J s) (hp:FW c f.L O s k Q) (hR:∀fl s',Q fl s'->R (.ok fl) s') (it:Qu c A X I fp wr h F) (N:∀b∈wr,b∈fp) (hw:∀b∈wr,s.heap.get? b=none)
  (hasg:∀O J s v y L' (Q':Unit->Ww->Prop),Rel c O f.L J s->RF c.Aa c.w O.F v y->tk y J.L=some L'->(∀s',Ext false f.L O s O s'->Rel c O f.L (Bw J L') s'->Q' () s')->wpAny (model c.Aa c.w) A (assign D f.env v) Q' Bl s):
  ∀(m:Tz) (i:Nat),h.drop i=m->i<=h.length->∀Z U l,Ext f.vl f.L O s Z l->Rel c Z f.L U l->Sub X Z.F->Ef Z f.L fp wr->F i l.heap->Dd (ex g x) tk m U k->codeAny (model c.Aa c.w) A (.forLoop D (.ref I) body [] f.env) R l:=by
 show aA it.W λP W hP=>?_;intro m;induction m with
 |nil=>
  intro i hi hle Z U l H n hF u st r;have hn:i=h.length:=by
   have:=T3 List.length hi;rw[ZM]at this;simp at this;show YK hle (XD this)
  subst hn;show kP (aN n.tk (W.done l _ _ st λh' tk' M ht=>hR _ _ (hp Z U _ .next .AZ (H.turn hw M) (n.turn ht u N M) rfl r)))
 |cons y m ih=>
  intro i hi hle Z U l H n hF u st r;have E:i<h.length:=by
   have:=T3 List.length hi;rw[ZM]at this;simp at this;show Nat.lt_of_sub_eq_succ this
  have hy:h[i]? =some y:=by
   rw[Yh E]at hi;rw[Zy E,(ZI hi).1]
  have j:h.drop (i+1)=m:=by
   rw[Yh E]at hi;show(ZI hi).2
  show kP (aN n.tk (W.item i l _ _ E st λv h' tk' hpv st' M ht=>aA (hP i v hpv) λy' e1 rf=>?_));rw[hy]at e1;obtain rfl:=Zf e1;have r2:=n.turn ht u N M;show adx (it.go _ _ st') ?_;obtain⟨L',hL',r⟩:=ak r;show hasg Z U _ v y L' _ r2 (RF.mono hF rf) hL' λs3 x3 r3=>hb Z _ s3 A _ _ r3 rm r λq t G a z x₄ C hl r=>?_;have T:=x3.trans r2 r3 x₄;have Y:=((H.turn (tk:=tk') hw M).trans r₀ r2 T).vv;have B:=λr=>by
   show ih (i+1) j E q t G Y C (λa o e=>T.le.F a o (hF a o e)) (u.ext T N (it.live _ _ st')) ?_ r;show W.frame (i+1) _ _ st' λb hb o e=>T.keep b o e (λz=>(u.fp b hb).1 z.has) (u.fp b hb).2
  induction z using Fl.casesOn with
  |AZ=>subst hl;show B r
  |cnt=>subst hl;show B r
  |brk=>subst hl;show hR _ _ (hp q t G .next .AZ Y C rfl r)
  |ret b=>obtain⟨w,rfl,hl⟩:=hl;show hR _ _ (hp q t G (.ret w) (.ret b) Y C (aO w rfl hl) r)
set_option backward.match.sparseCases false
def eC(Y:Ctx c K p Sy mg mb)(e:Hu f x)(u:p.code x=some n):
  ∀O J s v y U (N:Unit->Ww->Prop),Rel c O f.L J s->RF c.Aa c.w O.F v y->C3 [n] y J.L=some U->(∀j,Ext false f.L O s O j->Rel c O f.L (Bw J U) j->N () j)->wpAny (model c.Aa c.w) A (assign (.Name x pos) f.env v) N Bl s:=by
 intro O J s v y U N r b a h;obtain rfl:=Zf a;show PyProof.Rows.assign_Name (cN Y e u r (dq b) λZ P D=>h Z P D)
def G8(c:Cx)(g:G)(f:Fm)(d:Nat)(l:Nat)(D:WE)(y:List WG):Prop:=
 ∀O J s A k Q v x,Rel c O f.L J s->Ay f.L d A->RV c.Aa c.w O v x->g.loop l [x] J k->FW c f.L O s k Q->
  wpAny (model c.Aa c.w) A (pyIter v) (λz P=>codeAny (model c.Aa c.w) A (.forLoop D z y [] f.env) (λr j=>match r with| .ok f=>Q f j| .error e=>cameBackBy (model c.Aa c.w) A f.env Bl e j) P) Bl s
def mJ(h:Eo z=false)(env:Env)(x:Wv):foldedSetIterable z env x=pure x:=by
 obtain⟨⟩:=z<;>first|rfl|cases h
def GG(c:Cx)(f:Fm)(Z:FV->Tw->Option Tw)(D:WE):Prop:=
 ∀(A:Wz) O J s v y U (N:Unit->Ww->Prop),A.handled=none->Rel c O f.L J s->RF c.Aa c.w O.F v y->Z y J.L=some U->(∀j,Ext false f.L O s O j->Rel c O f.L (Bw J U) j->N () j)->wpAny (model c.Aa c.w) A (assign D f.env v) N Bl s
def GG.name(Y:Ctx c K p Sy mg mb)(D:Hu f x)(u:p.code x=some n):GG c f (C3 [n]) (.Name x pos):=λZ O J s v y U N Z=>eC Y D u O J s v y U N
def afi{j:Type}{k:FV->FV->j}{z:j}(h:So l k=some z):∃a b,l=[a,b]/\k a b=z:=by
 induction l using Re with
 |nil=>show aw h
 |cons a t=>show aA (aZ h) λb e q=>?_;show(aU a b (by rw[mr e]) q)
def GG.pair(Y:Ctx c K p Sy mg mb){n m j:Nat}{Z p2 Q:Pos}(hl:Hu f x)(H:p.code x=some n)(t:Hu f z)(u:p.code z=some m):GG c f (C3 [n,m]) (.Tuple [.Name x Z,.Name z p2] j Q):=by
 intro A O J s v y L' Q' hA r T b I;have b:=b;show aA (ax b) λl e b=>?_;obtain rfl:=xN e;show aX (afi b) λM R P i=>?_;clear b;subst P;clear b;subst i;obtain⟨a,vs,o,rfl,N,⟨q,rfl⟩,D,hb⟩:=T.x;obtain⟨S,r1,rfl,W,h⟩:=D.inv;obtain⟨X,r2,rfl,F,k⟩:=h.inv;clear h D;obtain rfl:=k.inv;show assign_Tuple_tuple hA (gF _ (r.Av _ _ N) rfl q rfl) rfl rfl λh' w=>zA (r.more r.tk λx o e=>w x o (Z3 (Yk e)) e) λr2 E=>?_;show Zn (ZY (eC Y hl H O J _ S M _ _ r2 W rfl λC G U=>?_));show Zn (ZY (eC Y t u O _ C X R _ _ U F rfl λB x4 V=>ZE (I B ((E.trans r r2 G).trans r U x4) V)))
def u0(F:Eo it=false)(E:GG c f (C3 ns) D)(T:SE c g f d x it)(hb:SB c g f d b body)
  (o:G8 c g f d lb D body):SS c g f d (.fr lb ns x b) (.For D it body [] pos):=by
 intro O J s A k Q r t H hp;show wpAny_For (T O J s A _ _ r t H λZ n l v a C U M m=>?_) (mJ F _);have B:=λj z P u w N i W m=>hp j z P u w (C.trans r U N) i W m;have m:=m;cases hi:Io a n with
 |none=>replace m:=hi▸m;show o Z n l A k Q v a U t M m B
 |some q=>
  replace m:=hi▸m;show oi U t.hd M hi λj P I fp wr St N i R u Y hw G st=>oY t hb U B (λG G h=>h) R Y hw (λO J s v y L' V=>E A O J s v y L' V t.hd) q.1 0 rfl (ZF _) j q.2 P N.w i (λG G e=>e) u st m
def pT(U: -1000000<=a)(N:a<=1000000)(D: -1000000<=b)(A:b<=1000000):Builtin.Range.small a b 1=true/\Builtin.Range.rangeSize a b 1=((b-a).toNat:Int):=by
 have Q:Builtin.Range.rangeSize a b 1=((b-a).toNat):=by
  unfold Builtin.Range.rangeSize;by_cases h:a<b
  ·rw[Zk h,Int.ediv_one];show(Int.sub_add_cancel _ 1).trans (XY (Int.sub_nonneg_of_le (Int.le_of_lt h))).symm
  ·rw[Zi h];show T3 Int.ofNat (Int.toNat_of_nonpos (Int.sub_nonpos_of_le (Int.not_lt.mp h))).symm
 have u:∀i:Int, -3000000<=i->i<=3000000->Builtin.Range.rangeFitsLong i=true:=λi h l=>by
  rw[Zp,Yu];lia
 show⟨?_,Q⟩;unfold Builtin.Range.small;rw (occs:=.all) [Q,u a (by lia) (XQ N (by ext)),u b (by lia) (XQ A (by ext)),u 1 (Int.neg_ofNat_le_ofNat 3000000 1) (Int.le.intro_sub (3000000-Nat.succ 0) rfl),u ((b-a).toNat) (by show X2 3000000 (b-a).toNat) (by lia)];simp only[u (b+(1-1)) (by lia) (by lia)];simp
def mB(r:Rel c O L J s)(B:A.handled=none)(h:(-1000000<=a/\a<=1000000)/\(-1000000<=b/\b<=1000000))(E:IsRange s.heap y a b 1 t u v)
  (j:BD c A L O s (En a (b-a).toNat) J Q):wpAny (model c.Aa c.w) A (pyIter (.ref y)) Q Bl s:=by
 show cu h λz D q=>?_;obtain⟨U,N⟩:=z;show zA (pT U N D q) λo m=>?_;show cu r.fresh λC Z x=>?_;have W:=Walks.range (prog:=c.Aa) (w:=c.w) B s.heap.objs.size a 1 (b-a).toNat;have k:(En a (b-a).toNat).length=(b-a).toNat:=by simp[En]
 rw[←k]at W;have l:∀i,i<(b-a).toNat->(En a (b-a).toNat)[i]? =some (.int (a+i)):=λi hi=>by
  rw[Xq,List.getElem?_range hi];rfl
 show wpAny_pyIter_range E o (j O _ s.heap.objs.size [s.heap.objs.size] [s.heap.objs.size] _ (.push _) (r.push _) ⟨aO _ W.bound λi v h=>(aO _ (l i (by have hi:=h.1;rw[k]at hi;show hi)) ?_),λi h st b P=>?_,λi h st=>(a8 _ _ st rfl rfl)⟩ ⟨λb P=>?_,λb P=>?_⟩ (λb P=>P) (λb P=>?_) (λn n e=>Zw _ e) ?_)
 ·obtain⟨_,t,rfl⟩:=h;rw[Int.mul_one];show .int _ t
 ·show(Za P)▸(yE _ st)
 ·show(Za P)▸⟨Z,x⟩
 ·show(Za P)▸C
 ·show(Za P)▸(show s.heap.get? s.heap.objs.size=none from aF (Zq _))
 ·rw[m,k];simpa using (show(s.heap.push {cls:=.type "range_iterator",data:=.fields #[rawInt a,rawInt ((b-a).toNat:Int),rawInt 1]}).get? s.heap.objs.size=some {cls:=.type "range_iterator",data:=.fields #[rawInt a,rawInt ((b-a).toNat:Int),rawInt 1]} from ZL _ rfl)
def uZ(Y:Ctx c K p Sy mg mb)(hl:Hu f nm)(hc:p.code nm=some n)(hfl:B8 f.cs fn=true)(hg:p.Gw fn=none)(hbl:p.blt fn=some 3)
  (hx:Row c g f d x args) (hb:SB c g f d b y):SS c g f d (.NV n x b) (.For (.Name nm pos') (.Call (.Name fn pf) args [] pc) y [] pos):=by
 intro O J s A k Q r W hev hp;show cu (Y.blt fn 3 _ hg hbl rfl) λhd hm T=>?_;have hr:Row c g f d x (args++([]:List WI).map (·.value)):=by simpa using hx
 show wpAny_For (wpAny_Call_Name_kw (XO f.kind (cz hfl) (Calls.loadGlobal_builtin (by rw[f.glob];show Y.T.g.keeps r.bN) hm (by rw[f.blt];show Y.T.b.keeps r.bN) T ?_) hd)) (mJ rfl _);show PyProof.Rows.callWith_type (a6 pc f.env hr.cZ) (bS Y rfl hr r W hev λZ o l vs xs R M U V D=>?_);rw[aR];have go:∀(a q:Int) (t u v:Tok) (G:Nat),0<G->((-1000000<=a/\a<=1000000)/\(-1000000<=q/\q<=1000000))->Dd (ex g b) (C3 [n]) (En a (q-a).toNat) o k->
   wpAny (model c.Aa c.w) A (pyIter (.ref l.heap.objs.size)) (λit P=>codeAny (model c.Aa c.w) A (.forLoop (.Name nm pos') it y [] f.env) (λr s'=>match r with| .ok f=>Q f s'| .error e=>cameBackBy (model c.Aa c.w) A f.env Bl e s') P) Bl
    {l with heap:=l.heap.push {cls:=.type "range",data:=.fields #[.int a t,.int q u,.int 1 v]},toks:=G}:=λa q t u v G ht i D=>by
  have r2:=(U.push ({cls:=.type "range",data:=.fields #[.int a t,.int q u,.int 1 v]})).toks ht;have x2:Ext false f.L Z l Z {l with heap:=l.heap.push {cls:=.type "range",data:=.fields #[.int a t,.int q u,.int 1 v]},toks:=G}:=(Ext.push _).trans U (U.push _) (.toks false G);have hp2:=λB H F u w E m hu D=>(λj z P u w N C hu D=>hp j z P u w (M.trans r U N) C hu D) B H F u w (x2.trans U r2 E) m hu D;show mB r2 W.hd i (ZL _ rfl) λj P I fp wr St N m ii u su hw R st=>?_;show oY W hb r2 hp2 (λR R h=>h) ii su hw (eC Y hl hc) _ 0 rfl (ZF _) j o P N.w m (λR R e=>e) u st D
 rcases rT V D with ⟨a,t,rfl,i,D⟩|⟨a,t,q,t',rfl,i,D⟩
 ·show call_range_1 (go 0 _ _ _ _ _ (YB _) ⟨⟨by ext,by ext⟩,i⟩ (by rw[Int.sub_zero];show D))
 ·show call_range_2 (go _ _ _ _ _ _ (YB _) i D)
def iR{N:WA}
  (h:wpAny (model N w) A (pyNext z) (λr l=>match r with
   |none=>R (.ok .next) l
   |some v=>wpAny (model N w) A (assign D env v) (λZ P=>
     wpAny (model N w) A (forIn U true λc r=>if r=true then do let ok←isTrue c env (eval c env);pure (ForInStep.yield ok)else pure (ForInStep.yield r)) (λok j=>
      if ok=true then wpAny (model N w) A (eval elt env) (λx e=>
       wpAny (model N w) A (call (.builtin "list.append") [acc,x]) (λZ Q=>codeAny (model N w) A (.compLoop (.ListComp elt [⟨D,iter,U,0⟩] u pos) 0 z acc env) R Q) Bl e) Bl j
      else codeAny (model N w) A (.compLoop (.ListComp elt [⟨D,iter,U,0⟩] u pos) 0 z acc env) R j) Bl P) Bl l) Bl s)
  (n:∀v,letOwnedTupleGo D z v=pure ()):codeAny (model N w) A (.compLoop (.ListComp elt [⟨D,iter,U,0⟩] u pos) 0 z acc env) R s:=by
 show codeAny_of_tree ?_;show wpAny_noted ?_;rw[compTurn_list _ _ _ _ _ _ _ _ _];show Zn (Yz (Zn (ZT h (λr l y=>?_) λZ Z a=>a.elim)));induction r using Option.casesOn with
 |none=>show ZE y
 |some v=>
  show Zn (X7 (n v) (Zn (ZT y (λZ P k=>Zn (ZT k (λok j b=>?_) λZ Z a=>a.elim)) λZ Z a=>a.elim)));induction ok using Bool.casesOn with
  |false=>show ZE ⟨rfl,b⟩
  |true=>
   show Zn (Zn (ZT b (λx e i=>Zn (ZT i (λZ Q m=>ZE (ZE ⟨rfl,m⟩)) λZ Z a=>a.elim)) λZ Z a=>a.elim))
def Ei(c:Cx)(O:Gh)(L:Loc)(y:Tw)(h:WH):Prop:=∀n v,Sx n y=some v->∃a w,L.D0=some (c.nm n,a)/\h.IsCell a (some w)/\RV c.Aa c.w O w v
def Rel.abl(r:Rel c O L J s)(h:Ei c O L y s.heap):Rel c O L (Bw J y) s:=
 ⟨r.Av,r.obs,r.sep,r.off,r.nL,⟨r.loc.nm.elim λm z=>(aO m z.1 λn v e=>(h n v e).elim λa q=>q.elim λw q=>(aO w (.inl (aO a q.1 q.2.1)) q.2.2)),r.loc.cell,r.loc.up,r.loc.nu⟩,r.new,r.DY,r.CZ,r.base,r.Lb,r.tk⟩
def Rel.uF(r:Rel c O L J s)(e:L.D0=some (n,a)):a∉L.all:=λh=>by
 show bC (r.ups h).2 λo y D U d=>aX (r.loc.cell n a e) λu So Z P=>?_;cases U.symm.trans Z;replace P:=d▸P;cases P
def Ei.step(r:Rel c O L J s)(h:Ei c O L y s.heap)(b:L.own=false)(x:Ext false L O s l j):Ei c l L y j.heap:=λn v e=>by
 show bA (h n v e) λa w U Z D=>(a8 a w U (bF Z (av λo A=>x.keep a o A (λq=>q.elim (r.uF U) λq=>by rw[b]at q;show nomatch q.1) λu=>(r.off a u).2.1 (.inr (yE _ U)))) (D.mono x.le))
def Ei.turn(h:Ei c O L y s.heap)(u:Ef O L fp wr)(N:∀b∈wr,b∈fp)(D:∀b o,b∉wr->s.heap.get? b=some o->h'.get? b=some o):Ei c O L y h':=λn v e=>by
 show bA (h n v e) λa w U Z i=>(a8 a w U (bF Z (av λo A=>D a o (λq=>(u.fp a (N a q)).1 (.inr (yE _ U))) A)) i)
def Rel.inner(r:Rel c O L J s){tk:Nat}(F:0<tk)(D:∀x o,s.heap.get? x=some o->h'.get? x=some o)(k:s.heap.objs.size<=C.ns)(A:h'.Ns C.ns m)(U:C.up=L.all)(z:∀n a,C.D0=some (n,a)->L.D0=some (n,a)):
  Rel c O C (Bw J []) {s with heap:=h',toks:=tk}:=by
 have Q:=aF k;have has:∀ {y},C.CN y->y=C.ns\/L.CN y:=λ{y} h=>by
  rcases h with h|⟨n,e⟩
  ·rcases Zb h with h|h
   ·show .inl h
   ·show .inr (.inl (U▸h))
  ·show .inr (.inr (yE n (z n y e)))
 have there:∀ {y},C.CN y->(∃o,s.heap.get? y=some o)->L.CN y:=λh ⟨o,e⟩=>(has h).resolve_left λq=>by replace e:=q▸e;replace e:=Q▸e;show aw e
 show⟨λx N e=>D x N (r.Av x N e),λj N E=>?_,r.sep,λx P=>?_,λx P=>?_,⟨aO m A λi i e=>aw e,λn a e=>?_,λu Z=>?_,λZ=>?_⟩,r.new,r.DY,r.CZ,r.base,?_,F⟩
 ·show aX (r.obs j N E) λb l e B=>(aU b l e (B.step (.refl _ _) λx i o t=>D x o t))
 ·show cV (r.off x P) λu v N w=>⟨u,λq=>v (there q (yE N w)),yE N (D x N w)⟩
 ·rcases has P with q|q
  ·show q▸(r.free Q).1
  ·show r.nL x q
 ·show(r.loc.cell n a (z n a e)).elim λu Z=>(yE u (bF Z (av (D a))))
 ·show(r.ups (U▸Z)).2.step (av (D u))
 ·show bC (r.ups (U▸Z)).2 λo i i e i=>aw (Q.symm.trans e)
 ·show zE r.dT λo e=>Zh r.Lb (Zh (Yo (Yk e)) k)
def Rel.outer(r:Rel c O L J s)(N:s.heap.get? C.ns=none)(U:C.up=L.all)(i:C.own=false)(x:Ext false C O s l j)(a:Rel c l C Z j):
  Rel c l L (Bw Z J.L) j/\Ext false L O s l j:=by
 have b:∀ {y},L.CN y->¬AD O y:=λh m=>(r.off _ m).2.1 h;have A:∀ {y},C.Wr y->s.heap.get? y≠none->y∈L.all:=λ{y} h e=>by
  rcases h with h|h
  ·rcases Zb h with h|h
   ·show(e (h▸N)).elim
   ·show U▸h
  ·rw[i]at h;show nomatch h.1
 show⟨⟨a.Av,a.obs,a.sep,λy P=>?_,λy P=>?_,r.loc.step x.le λy P=>?_,a.new,a.DY,a.CZ,a.base,r.Lb,a.tk⟩,
  ⟨x.le,λy o e D n=>x.keep y o e (λq=>D (.inl (A q (by rw[e];show λz=>aw z.symm)))) n,λy P=>x.EN y (U▸ .tail _ P),x.fp,x.fF,x.gens,x.os,x.drawn⟩⟩
 ·show cu (a.off y P) λu t w=>⟨u,λq=>?_,w⟩
  rcases x.fp y P with k|k
  ·show b q k
  ·show zE (r.there q) λo e=>?_;rw[k]at e;show aw e
 ·cases q:l.F y with
  |none=>rfl
  |some o=>
   rcases x.fF y o q with k|k|k
   ·rw[r.nL y P]at k;show aw k
   ·show(b P k).elim
   ·show zE (r.there P) λo e=>?_;rw[k]at e;show aw e
 ·by_cases q:y∈L.all
  ·show x.EN y (U▸q)
  ·show av λo e=>x.keep y o e (λz=>q (A z (by rw[e];show λz=>aw z.symm))) (b P)
end
section
variable {c:Cx}{g:G}{K:Frag}{p:CP}{Sy:TP}{mg mb:Wu->TM}{d:Nat}
def Gd(c:Cx)(g:G)(f:Fm)(d:Nat)(x:X)(U:List WE):Prop:=
 ∀O J s A (k:Bool->TF) (Q:Bool->Ww->Prop),Rel c O f.L J s->Ay f.L d A->BI g x J (λv J=>Ab (Am J.H v) λt=>k t J)->
  (∀l Z j b,Ext false f.L O s l j->Rel c l f.L Z j->k b Z->Q b j)->
  wpAny (model c.Aa c.w) A (forIn U true λc r=>if r=true then do let ok←isTrue c f.env (eval c f.env);pure (ForInStep.yield ok)else pure (ForInStep.yield r)) Q Bl s
def acm:Gd c g f d (.k (.Ae true)) []:=by
 intro O J s A k Q r l N j;show wpAny_tests_nil (j O J s true (.refl _ _ _ _) r N)
def ack(h:ST c g f d x e):Gd c g f d x [e]:=by
 intro O J s A k Q r l N j;show wpAny_tests_one (h O J s A k Q r l N j)
def uE(Y:Ctx c K p Sy mg mb)
(ho:fc.own=false) (rm:Ay fc.L d A) (htest:Gd c g fc d cd ifs) (helt:SE c g fc d e elt) (hl:Fn fc.cs nm=true) (hc:p.code nm=some n) (it:Qu c A F₀ I fp wr O Q) (N:∀b∈wr,b∈fp) (hDfp:D∉fp) (hw:∀b∈D::wr,sB.heap.get? b=none)
  (hR:∀M J' s' G S nD,Ext false fc.L gh₀ sB M s'->Rel c M fc.L J' s'->s'.heap.get? D=some {cls:=.type "list",data:=.seq G.toArray nD}->Ba c.Aa c.w M.F G S->M.F D=none->¬AD M D->Ce (.lst S) J' k->S.length<=16777216->R (.ok .next) s'):
  ∀(f:Tz) (i:Nat),O.drop i=f->i<=O.length->∀Z U l G j nD,Ext false fc.L gh₀ sB Z l->Rel c Z fc.L U l->Ei c Z fc.L fs l.heap->Sub F₀ Z.F->Ef Z fc.L (D::fp) (D::wr)->Q i l.heap->
   l.heap.get? D=some {cls:=.type "list",data:=.seq G.toArray nD}->Ba c.Aa c.w Z.F G j->j.length<=16777216->I2 n fs (SU g cd) (SU g e) f j U k->
   codeAny (model c.Aa c.w) A (.compLoop (.ListComp elt [⟨.Name nm px,iter,ifs,0⟩] scope pos) 0 (.ref I) (.ref D) fc.env) R l:=by
 show aA it.W λP W hP=>?_;have hsub':∀b∈D::wr,b∈D::fp:=λb m=>by
  rcases Zb m with rfl|m
  ·show .head _
  ·show .tail _ (N b m)
 have hDwr:=λh=>hDfp (N D h);intro f;induction f with
 |nil=>
  intro i hi hle Z U l G j nD x₁ C _ hF u st hD x hlen E;have hn:i=O.length:=by
   have:=T3 List.length hi;rw[ZM]at this;simp at this;show YK hle (XD this)
  clear hi hle;subst hn;show iR (aN C.tk (W.done l _ _ st λh' tk' w ht=>?_)) λuu=>rfl;show hR Z U _ G j nD (x₁.turn (λb m=>hw b (.tail _ m)) w) (C.turn ht (show Ef Z fc.L fp wr from⟨λb m=>u.fp b (.tail _ m),λb m=>u.wr b (.tail _ m)⟩) N w) (w D _ hDwr hD) x (u.wr D (.head _)) (u.fp D (.head _)).2 E hlen
 |cons y f ih=>
  intro i hi hle Z U l G j nD x₁ C cap hF u st hD x hlen E;have F:i<O.length:=by
   have:=T3 List.length hi;rw[ZM]at this;simp at this;show Nat.lt_of_sub_eq_succ this
  have hy:O[i]? =some y:=by
   replace hi:=(Yh F)▸hi;rw[Zy F,(ZI hi).1]
  have hrest:O.drop (i+1)=f:=by
   rw[Yh F]at hi;show(ZI hi).2
  have u':Ef Z fc.L fp wr:=⟨λb m=>u.fp b (.tail _ m),λb m=>u.wr b (.tail _ m)⟩
  show iR (aN C.tk (W.item i l _ _ F st λv h' tk' hpv st' w ht=>?_)) λuu=>rfl;show aA (hP i v hpv) λy' e1 rf=>?_;rw[hy]at e1;obtain rfl:=Zf e1;have r2:=C.turn (tk:=tk') ht u' N w;have T:=cap.turn u' N w;have live:∀b∈D::fp,∃o,h'.get? b=some o:=λb m=>by
   rcases Zb m with rfl|m
   ·show⟨_,w _ _ hDwr hD⟩
   ·show it.live _ _ st' b m
  show PyProof.Rows.assign_Name (cN Y (.inr hl) hc (r2.abl T) (dq (RF.mono hF rf)) λs3 x3 r3=>?_);have x03:=Ext.trans' r2 (x₁.turn (tk:=tk') (λb m=>hw b (.tail _ m)) w) x3;have E:SU g cd (Bw U (put n (.c y) fs)) (one λc s=>Ab (Am s.H c) λt=>S7 t (SU g e s (one λee s=>Ab (Av s.H ee) λr=>Hr (j.length+1) (I2 n fs (SU g cd) (SU g e) f (j++[r.1]) (As s r.2) k))) (I2 n fs (SU g cd) (SU g e) f j s k)):=E;show htest Z _ s3 A (λt s=>S7 t (SU g e s (one λee s=>Ab (Av s.H ee) λr=>Hr (j.length+1) (I2 n fs (SU g cd) (SU g e) f (j++[r.1]) (As s r.2) k))) (I2 n fs (SU g cd) (SU g e) f j s k)) _ r3 rm E λH J₄ s₄ t x4 r4 E=>?_;have L:=Ext.trans' r3 x3 x4;have x04:=Ext.trans' r3 x03 x4;have E:=mZ E;have B:∀ {ghz:Gh} {sz:Ww},Ext false fc.L Z {l with heap:=h',toks:=tk'} ghz sz->Ef ghz fc.L (D::fp) (D::wr)/\Q (i+1) sz.heap/\sz.heap.get? D=some {cls:=.type "list",data:=.seq G.toArray nD}:=λ{ghz sz} xz=>
   ⟨u.ext xz hsub' live,W.frame (i+1) _ _ st' λb m o eo=>xz.keep b o eo (λz=>(u.fp b (.tail _ m)).1 z.has) (u.fp b (.tail _ m)).2,xz.keep D _ (w _ _ hDwr hD) (λz=>(u.fp D (.head _)).1 z.has) (u.fp D (.head _)).2⟩
  induction t using Bool.casesOn with
  |false=>
   simp only[Bool.false_eq_true,if_false]at E⊢;show cu (B L) λu4 st4 hD4=>ih (i+1) hrest F H J₄ s₄ G j nD x04 r4 (T.step r2 ho L) (λa o e=>L.le.F a o (hF a o e)) u4 st4 hD4 (Ba.mono L.le.F x) hlen E
  |true=>
   simp only[if_true]at E⊢;show helt H J₄ s₄ A _ _ r4 rm E λgh₅ J₅ s₅ SU ex x5 r5 hv E=>?_;obtain⟨q,hf,hfit,E⟩:=ak E;show bM (eI r5 hv hf) λSN x6 r6 rf6=>?_;have x36:=Ext.trans' r5 (Ext.trans' r4 L x5) x6;have x06:=Ext.trans' r5 (Ext.trans' r4 x04 x5) x6;show cu (B x36) λu6 st6 hD6=>wpAny_list_append_plain (items:=G.toArray) ⟨nD,hD6⟩ (λh7 hl7 hs7=>?_) (by have:=x.len;(show ZP▸ ?_;rw[YE]);lia);show zE hl7 λn7 hD7=>?_;have hk7:∀b o,b∉[D]->s₅.heap.get? b=some o->h7.get? b=some o:=λb o m eo=>(hs7.2 b λz=>m (by show z▸ ?_;show .head _)).trans eo;have uD:Ef SN fc.L [D] [D]:=⟨λb m=>by show(Za m)▸ ?_;show u6.fp D (.head _),λb m=>by show(Za m)▸ ?_;show u6.wr D (.head _)⟩
   show ih (i+1) hrest F SN _ _ (G++[SU]) (j++[q.1]) n7 (x06.turn (tk:=s₅.toks) (wr:=[D]) (λb m=>by show(Za m)▸ ?_;show hw D (.head _)) hk7) (r6.turn (tk:=s₅.toks) r6.tk uD (λuu h=>h) hk7) ((T.step r2 ho x36).turn uD (λuu h=>h) hk7) (λa o e=>x36.le.F a o (hF a o e)) u6 (W.frame (i+1) _ _ st6 λb m o eo=>hk7 b o (λz=>hDfp (by show(Za z)▸ ?_;show m)) eo) (by rw[hD7];simp) (Ba.append (.cons rf6 .nil) (Ba.mono x36.le.F x)) (by rw[Zg];show hfit) E
variable {f:Fm}
structure BF (sc cs:Scope):Prop where
 kind:cs.kind=.function
 free:∀x∈cs.names,x.2=.free->sc.kind=.function/\sc.names.lookup x.1=some .cell
 cell:∀x∈cs.names,x.2≠ .cell
 names:∀x∈cs.names,cs.names.lookup x.1=some x.2
def jQ(h:G1 O cs=true):BF O cs:=by
 unfold G1 at h;rw[Zp]at h;have N:=Zd h.2;show⟨by simpa using h.1,λx P q=>?_,λx P=>?_,λx P=>?_⟩<;>
 ·have:=N x P;simp only[Zp,Yq,bne_iff_ne,Yw]at this
  first|show this.1.1.resolve_left (λz=>z q)|show this.1.2|show this.2
def mw{P:Wu->NameKind->Bool}:∀ {l:List (Wu×NameKind)},(l.map λ(n,k)=>if P n k=true then(n,.cell)else(n,k)).lookup x=(l.lookup x).map λk=>if P x k=true then .cell else k:=by
 intro l;induction l with
 |nil=>rfl
 |cons p l Q=>
  obtain⟨n,k⟩:=p;rw[Ye];by_cases q:x=n
  ·subst q;change List.lookup x ((if P x k=true then(x,NameKind.cell)else(x,k))::_)=_;by_cases h:P x k=true
   ·rw[Zk h,XE,XE];change _=some (if P x k=true then _ else _);rw[Zk h]
   ·rw[Zi h,XE,XE];change _=some (if P x k=true then _ else _);rw[Zi h]
  ·have e:=beq_eq_false_iff_ne.mpr q;change List.lookup x ((if P n k=true then(n,NameKind.cell)else(n,k))::_)=_;rw[Xg (as:=l),e, ←Q];by_cases h:P n k=true
   ·rw[Zk h,Xg,e]
   ·rw[Zi h,Xg,e]
def FT(env:Env):List (Wu×NameKind)->List (Wu×WD)->List (Wu×WD)
 | [],acc=>acc
 |x::r,acc=>FT env r (if(x.2== .free)=true then(x.1,(env.cells.lookup x.1).getD 0)::acc else acc)
def mU(h:∀x∈s.names,x.2=.free->(env.cells.lookup x.1).isSome=true):closureFor s env=pure (FT env s.names []):=by
 have go:∀(f:Wu×NameKind->List (Wu×WD)->Sem (ForInStep (List (Wu×WD)))),(∀n k r,f (n,k) r=if(k== .free)=true then cellOf env n>>=λa=>pure (.yield ((n,a)::r))else pure (.yield r))->
   ∀(l:List (Wu×NameKind)) (j:List (Wu×WD)),(∀x∈l,x.2=.free->(env.cells.lookup x.1).isSome=true)->forIn l j f=pure (FT env l j):=by
  intro f u l;induction l with
  |nil=>intro j _;rfl
  |cons x r b=>
   intro j h;rw[List.forIn_cons,u x.1 x.2];change _=pure (FT env r (if(x.2== .free)=true then(x.1,(env.cells.lookup x.1).getD 0)::j else j));by_cases q:(x.2==NameKind.free)=true
   ·rw[Zk q,Zk q];show zE (Option.isSome_iff_exists.mp (h x (.head _) (eq_of_beq q))) λa Q=>?_;have e:cellOf env x.1=pure a:=by unfold cellOf;rw[Q]
    rw[e,Q];show b _ λy P=>h y (.tail _ P)
   ·rw[Zi q,Zi q];show b _ λy P=>h y (.tail _ P)
 change(forIn s.names [] _>>=λs=>pure s:Sem _)=_;rw[go _ (λZ Z Z=>rfl) s.names [] h];rfl
def abj(b:env.cells.lookup z=some a):∀ {l:List (Wu×NameKind)} {j:List (Wu×WD)},(∀x∈l,x.2=.free->x.1=z)->(j.lookup z=some a\/∃x∈l,x.2=.free)->(FT env l j).lookup z=some a:=by
 intro l;induction l with
 |nil=>intro j _ h;show h.resolve_right λ⟨_,h,_⟩=>nomatch h
 |cons x r Q=>
  intro j U N;show Q (λy P=>U y (.tail _ P)) ?_;by_cases q:(x.2==NameKind.free)=true
  ·rw[Zk q,U x (.head _) (eq_of_beq q),b,XE];show .inl rfl
  ·rw[Zi q];rcases N with N|⟨y,P,e⟩
   ·show .inl N
   ·rcases Zb P with rfl|P
    ·replace q:=e▸q;show(q rfl).elim
    ·show .inr (aO y P e)
def HV(cs:Scope):Bool:=cs.names.any λx=>x.2== .free
def BF.cap(H:BF f.cs cs)(P:x∈cs.names)(e:x.2=.free):∃a,f.D0=some (x.1,a)/\f.env.cells.lookup x.1=some a:=f.L7 _ (H.free x P e).2
def BF.rel{f:Fm}(H:BF f.cs cs)(x:Wu):(relabel cs f.env).names.lookup x=some .cell↔(x,NameKind.free)∈cs.names:=by
 rw[mw (P:=λn k=>k== .free&&f.env.scope.kind== .function&&f.env.kindOf n==some .cell)];constructor
 ·intro h;show aA (Option.map_eq_some_iff.mp h) λk e h=>?_;have O:=mem_of_lookup e;by_cases q:(k==NameKind.free&&f.env.scope.kind== .function&&f.env.kindOf x==some .cell)=true
  ·rw[Zp,Zp]at q;show(eq_of_beq q.1.1)▸O
  ·rw[Zi q]at h;show(H.cell _ O h).elim
 ·intro O;rw[H.names _ O];show zA (H.free _ O rfl) λU N=>?_;change some (if _ then _ else _)=_;rw[Zk];rw[Zp,Zp];show⟨⟨rfl,beq_iff_eq.mpr U⟩,beq_iff_eq.mpr N⟩
def JB(f:Fm)(cs:Scope)(H:BF f.cs cs)(C:WD):Fm where
 env:= {newEnv cs C f.env.globals (FT f.env cs.names []) f.env.qual none .none (some f.env) builtinsNs with scope:=relabel cs f.env}
 kind:=H.kind
 glob:=f.glob
 blt:=f.blt
 D0:=if HV cs=true then f.D0 else none
 L7:=λx h=>by
  have O:=(H.rel x).mp h;obtain⟨a,U,Z⟩:=H.cap O rfl;show⟨a,(Zk (show HV cs=true from Wm.mpr ⟨_,O,rfl⟩)).trans U,?_⟩;show abj Z (λy P q=>?_) (.inr ⟨_,O,rfl⟩);obtain⟨b,D,_⟩:=H.cap P q;show T3 (λq:Wu×WD=>q.1) (Zf (D.symm.trans U))
 N7:=λx a h=>by
  by_cases q:HV cs=true
  ·rw[Zk q]at h;obtain⟨y,P,e⟩:=Wm.mp q;have e:=eq_of_beq e;obtain⟨b,D,_⟩:=H.cap P e;obtain⟨n,k⟩:=y;obtain rfl:n=x:=T3 Prod.fst (Zf (D.symm.trans h));obtain rfl:k=.free:=e;show(H.rel _).mpr P
  ·rw[Zi q]at h;show aw h
 own:=false
 up:=f.L.all
 vl:=f.vl
 tp:=f.tp
def oZ(h:(JB f cs H C).L.CN y):y=C\/f.L.CN y:=by
 rcases h with h|⟨n,e⟩
 ·show(Zb h).imp_right .inl
 ·have e:(if HV cs=true then f.D0 else none)=some (n,y):=e;split at e
  ·show .inr (.inr ⟨n,e⟩)
  ·show aw e
def xD(Y:Ctx c K p Sy mg mb):∀ {y:WJ},Kf p cs=some y->∀n∈y,(c.nm n,NameKind.free)∈cs.names:=by
 unfold Kf;generalize cs.names=l;induction l with
 |nil=>intro y h n j;obtain rfl:=Zf h;cases j
 |cons x r Q=>
  intro y h n j;have h:(if(x.2==NameKind.free)=true then Af (p.code x.1) λi=>BK (List.rec (motive:=λZ=>TK) (some []) (λx Z Q=>if(x.2==NameKind.free)=true then Af (p.code x.1) λi=>BK Q λl=>i::l else Q) r) λl=>i::l else _)=some y:=h;by_cases q:(x.2==NameKind.free)=true
  ·replace h:=(Zk q)▸h;show aA (ax h) λi U h=>?_;show aA (aZ h) λl e P=>?_;clear h;subst P;rcases Zb j with rfl|j
   ·obtain⟨a,b⟩:=x;obtain rfl:b=.free:=eq_of_beq q;rw[(Y.code _ _ U).1];show .head _
   ·show .tail _ (Q e n j)
  ·replace h:=(Zi q)▸h;show .tail _ (Q h n j)
def xF:∀ {y:WJ},Sx n (F8 y N)=some v->n∈y/\Sx n N=some v:=by
 intro y;induction y with
 |nil=>intro h;show aw h
 |cons m r Q=>
  intro h;have h:Sx n (Option.rec (F8 r N) (λv=>(m,v)::F8 r N) (Sx m N):Tw)=some v:=h;cases e:Sx m N with
  |none=>rw[e]at h;show(Q h).imp_left (.tail _)
  |some u=>
   rw[e]at h;have h:=h;rw[aq]at h;by_cases q:n=m
   ·rw[Zk q]at h;clear Q;obtain rfl:=Zf h;show⟨q▸ .head _,q▸e⟩
   ·rw[Zi q]at h;show(Q h).imp_left (.tail _)
def yJ(h:Io v J=some q):q.2.L=J.L:=by
 induction v using V.casesOn with
 |c f=>show aA (aZ h) λl Z P=>?_;subst P;rfl
 |ob i=>
  show aA (ax h) λo Z h=>?_;induction o using AO.casesOn with
  |lst l=>obtain rfl:=Zf h;rfl
  |Av f=>show aA (aZ h) λl Z P=>?_;clear h;subst P;rfl
  |_=>show aw h
 |_=>show aw h
def u7(Y:Ctx c K p Sy mg mb)(hset:Eo iter=false)(H:BF f.cs cs)(hl:Fn cs nm=true)(hc:p.code nm=some n)(hfs:Kf p cs=some fs)(hx:SE c g f d x iter)
  (htest:∀C,Gd c g (JB f cs H C) d cd ifs) (helt:∀C,SE c g (JB f cs H C) d e elt):
  SE c g f d (.lcm n fs x cd e) (.ListComp elt [⟨.Name nm px,iter,ifs,0⟩] cs pos):=by
 intro O J s A k Q r rm hev hp;have hkind:=H.kind;rw[eval_ListComp];show wpAny_comprehension_free rfl (mJ hset _) (mU λx hx e=>by show aA (H.cap hx e) λa V e2=>?_;rw[e2];rfl) hkind (λx hx hl=>(H.names x hx).trans (by rw[hl])) (hx O J s A _ _ r rm hev λZ J₁ l v a x₁ U hv hk=>?_);obtain⟨q,hi,hk⟩:=ak hk;rw[←yJ hi]at hk;show oi U rm.hd hv hi λt i I fp wr St₀ E S ii u su hw Dw st=>wpAny_newList ?_ (ZF _);show wpAny_newFunctionEnv H.cell (λV h=>(Yl h).elim) (λh' hN hsb=>?_) hkind;have L:(i.heap.push {cls:=.type "list",data:=.seq #[]}).objs.size=i.heap.objs.size+1:=Heap.size_push ..;have G:i.heap.get? i.heap.objs.size=none:=aF (Zq _);have F:i.heap.get? (i.heap.push {cls:=.type "list",data:=.seq #[]}).objs.size=none:=by rw[L];show aF (YX _)
 have M:=λy e=>c9 (λo ho=>(yE o (Dw y o ho))) e;have k24:∀y o,i.heap.get? y=some o->h'.get? y=some o:=λy o e=>(hsb.2 y λq=>by rw[q,F]at e;show aw e).trans (Zw _ (Zw _ e));have hD4:h'.get? i.heap.objs.size=some {cls:=.type "list",data:=.seq ([]).toArray 0}:=by
  show(hsb.2 _ ?_).trans (Zw _ (ZL _ rfl));show L▸(Z3 (Z4 _))
 have xC:Ext false (JB f cs H (i.heap.push {cls:=.type "list",data:=.seq #[]}).objs.size).L Z l t {i with heap:=h',toks:=i.toks}:=
  ⟨E.le,λy o e V V=>k24 y o (Dw y o e),.of λy V o e=>k24 y o (Dw y o e),E.fp,E.fF,E.gens,E.os,E.drawn⟩
 have T:∀b∈fp,∃o,i.heap.get? b=some o:=ii.live _ _ st;have hDfp:i.heap.objs.size∉fp:=λh=>by show zE (T _ h) λo e=>?_;rw[G]at e;show aw e
 show cu S.fresh λf1 f2 f3=>?_;have uC:Ef t (JB f cs H (i.heap.push {cls:=.type "list",data:=.seq #[]}).objs.size).L (i.heap.objs.size::fp) (i.heap.objs.size::wr):=by
  show⟨λb B=>?_,λb B=>?_⟩
  ·rcases Zb B with rfl|B
   ·show⟨λz=>(oZ z).elim (λz=>by rw[L]at z;show Z3 (Z4 _) z) f2,f3⟩
   ·show⟨λq=>?_,(u.fp b B).2⟩;show zE (T b B) λo e=>?_;rcases oZ q with q|q
    ·rw[q,F]at e;show aw e
    ·show(u.fp b B).1 q
  ·rcases Zb B with rfl|B
   ·show f1
   ·show u.wr b B
 have st4:St₀ 0 h':=by
  show aA ii.W λP W V=>W.frame 0 _ _ st λb B o e=>k24 b o e
 have cap4:Ei c t (JB f cs H (i.heap.push {cls:=.type "list",data:=.seq #[]}).objs.size).L (F8 fs q.2.L) h':=λn v e=>by
  show zA (xF e) λh1 h2=>?_;have hm:=xD Y hfs n h1;show aA (H.cap hm rfl) λa q1 q2=>aA S.loc.nm λm V z=>aA (z n v h2) λw q3 q4=>(a8 a w ((Zk ((Wm.mpr (aO _ hm rfl):HV cs=true))).trans q1) ?_ q4)
  rcases q3 with ⟨b,q3,q5⟩|⟨q3,_⟩
  ·obtain rfl:a=b:=T3 Prod.snd (Zf (q1.symm.trans q3));show bF q5 (av (k24 a))
  ·show(q3 a q1).elim
 have run:=uE (fc:=JB f cs H (i.heap.push {cls:=.type "list",data:=.seq #[]}).objs.size) (elt:=elt) (iter:=iter) (px:=px) (pos:=pos) (scope:=cs) (sB:=l) (gh₀:=Z) (I:=I) (D:=i.heap.objs.size) (F₀:=t.F) (k:=λv s'=>one k [v] (Bw s' q.2.L)) (fs:=F8 fs q.2.L) Y rfl ⟨⟨rm.hd,rm.fr.elim λes h=>(aO es h.1 λe he=>⟨(h.2 e he).1,(h.2 e he).2.elim λa q=>(aO a (.tail _ q.1) q.2)⟩),rm.Fs,rm.un⟩,rm.top⟩ (htest _) (helt _) (beq_iff_eq.mpr (lookup_relabel_local (cz hl))) hc ii su hDfp
  (λb B=>by
   rcases Zb B with rfl|B
   ·show M _ G
   ·show hw b B)
  (R:=compPost (model c.Aa c.w) A Bl none Q (.ref i.heap.objs.size) (i.heap.push {cls:=.type "list",data:=.seq #[]}).objs.size)
  (λgh' J' s' vs accF nD x' r' hD hacc hDF hDf hnew hlen=>?_) q.1 0 rfl (ZF _) t _ _ [] [] 0 xC (S.inner (h':=h') (C:=(JB f cs H (i.heap.push {cls:=.type "list",data:=.seq #[]}).objs.size).L) (tk:=i.toks) S.tk k24 (show i.heap.objs.size<=(i.heap.push {cls:=.type "list",data:=.seq #[]}).objs.size by rw[L];show YX _) hN rfl λn a e=>by have e:(if HV cs=true then f.D0 else none)=some (n,a):=e;split at e;show e;show aw e) cap4 (λV V e=>e) uC st4 hD4 .nil (ZF _) hk
 ·show aA ii.W λP W V=>codeAny_compStart_list run (W.self 0 _ _ _ st4 run)
 ·show aA r'.loc.nm λm N V=>(aO m N λh6 hs6=>?_)
  have hC1:l.heap.get? (i.heap.push {cls:=.type "list",data:=.seq #[]}).objs.size=none:=M _ F;show zA (U.outer hC1 rfl rfl x' r') λro xo=>?_;have hDC:i.heap.objs.size≠(i.heap.push {cls:=.type "list",data:=.seq #[]}).objs.size:=by rw[L];show Z3 (Z4 _)
  have hk6:∀b o,b∉[(i.heap.push {cls:=.type "list",data:=.seq #[]}).objs.size]->s'.heap.get? b=some o->h6.get? b=some o:=λb o B eo=>(hs6.2 b λz=>B (by show z▸ ?_;show .head _)).trans eo;have uC6:Ef gh' f.L [(i.heap.push {cls:=.type "list",data:=.seq #[]}).objs.size] [(i.heap.push {cls:=.type "list",data:=.seq #[]}).objs.size]:=by
   show⟨λb B=>?_,λb B=>?_⟩
   ·show(Za B)▸⟨(U.free hC1).2.1,λq=>(r'.off _ q).2.1 Loc.cx⟩
   ·show(Za B)▸(r'.nL _ Loc.cx)
  have x6:=xo.turn (tk:=s'.toks) (λb B=>by show(Za B)▸ ?_;show hC1) hk6;have hD6:h6.get? i.heap.objs.size=some {cls:=.type "list",data:=.seq vs.toArray nD}:=hk6 _ _ (λh=>hDC (Za h)) hD;have lea:Le false gh' (gh'.at J'.m (i.heap.objs.size,[i.heap.objs.size])):=⟨λV V e=>e,λj b fb e V=>(yE fb (by
   have:j≠J'.m:=λq=>by rw[q,r'.new J'.m (Zq _)]at e;show aw e
   show(Gh.bc (this)).trans e))⟩
  show cu ((ro.turn (tk:=s'.toks) ro.tk uC6 (λV h=>h) hk6).adopt (h':=h6) (o':=.lst accF) (tk:=s'.toks) ro.tk (yE _ hD6) hDF (show¬f.L.CN i.heap.objs.size from f2) hDf (Heap.SameBut.refl _ _) (yE _ hD6)
   ⟨rfl,bG _ vs hD6 (yE nD rfl) (Ba.mono lea.F hacc) hlen⟩) λr7 l7 k7=>?_
  have x7:Ext false f.L Z l (gh'.at J'.m (i.heap.objs.size,[i.heap.objs.size])) {s' with heap:=h6}:=by
   show⟨x6.le.trans l7,λy o e hl hn=>x6.keep y o e hl hn,x6.EN,λy hy=>?_,λy o e=>x6.fF y o e,x6.gens,x6.os,x6.drawn⟩;rcases hy.at_ with z|⟨j,b,fb,_,e,z⟩
   ·rw[Za z];show .inr (show l.heap.get? i.heap.objs.size=none from M _ G)
   ·show x6.fp y (ay j b fb e z)
  show hp _ _ _ _ (.ob J'.m) (x₁.trans r U x7) r7 (aU i.heap.objs.size [i.heap.objs.size] ?_ rfl) (yJ hi▸hnew);change(if J'.m=J'.m then _ else _)=_;rw[Zk rfl]
set_option backward.match.sparseCases true
def Kr(c:Cx)(g:G)(f:Fm)(d:Nat)(D:BoolOp)(x:X)(y:List WE):Prop:=
 ∀O J s A k Q pos,Rel c O f.L J s->Ay f.L d A->BI g x J k->B2 c f.L O s k Q->wpAny (model c.Aa c.w) A (boolOp pos D (evalEach y f.env)) Q Bl s
def Kq(c:Cx)(g:G)(f:Fm)(d:Nat)(D:BoolOp)(x:X)(y:List WE):Prop:=
 ∀O J s A (k:Bool->TF) (Q:Bool->Ww->Prop),Rel c O f.L J s->Ay f.L d A->BI g x J (λv J=>Ab (Am J.H v) λt=>k t J)->
  (∀l Z j b,Ext false f.L O s l j->Rel c l f.L Z j->k b Z->Q b j)->wpAny (model c.Aa c.w) A (allTrue D y f.env) Q Bl s
def pD(h:SE c g f d x e):Kr c g f d D x [e]:=by
 intro O J s A k Q pos r l N j;show h O J s A k Q r l N j
def yj(h:SE c g f d x e)(C:Kr c g f d .And y (e'::es)):Kr c g f d .And (.and x y) (e::e'::es):=by
 intro O J s A k Q pos r t q w;show Zn (h O J s A _ _ r t q λZ a l v z n U B D=>Zn (Yz (Zn (ZY ?_))));obtain⟨b,G,D⟩:=ak D;show dD U B G λF p=>?_;have N:=n.trans r U (.toks false F);induction b using Bool.casesOn with
 |false=>show ZE (w Z a _ _ _ N (U.toks p) B D)
 |true=>show C Z a _ A k Q pos (U.toks p) t D λj i P u y m o E D=>w j i P u y (N.trans r (U.toks p) m) o E D
def abZ(h:SE c g f d x e)(C:Kr c g f d .Or y (e'::es)):Kr c g f d .Or (.or x y) (e::e'::es):=by
 intro O J s A k Q pos r t q w;show Zn (h O J s A _ _ r t q λZ a l v z n U B D=>Zn (Yz (Zn (ZY ?_))));obtain⟨b,G,D⟩:=ak D;show dD U B G λF p=>?_;have N:=n.trans r U (.toks false F);induction b using Bool.casesOn with
 |true=>show ZE (w Z a _ _ _ N (U.toks p) B D)
 |false=>show C Z a _ A k Q pos (U.toks p) t D λj i P u y m o E D=>w j i P u y (N.trans r (U.toks p) m) o E D
def zc(h:Kr c g f d D x y):SE c g f d x (.BoolOp D y pos):=by
 intro O J s A k Q r l N j;show h O J s A k Q pos r l N j
def pC(h:ST c g f d x e):Kq c g f d v x [e]:=by
 intro O J s A k Q r i N j;cases v with
 |And=>
  show wpAny_allTrue_And_cons (h O J s A k _ r i N λZ a l b z U D=>?_);induction b using Bool.casesOn with
  |true=>show wpAny_allTrue_And_nil (j Z a l true z U D)
  |false=>show j Z a l false z U D
 |Or=>
  show wpAny_allTrue_Or_cons (h O J s A k _ r i N λZ a l b z U D=>?_);induction b using Bool.casesOn with
  |true=>show j Z a l true z U D
  |false=>show wpAny_allTrue_Or_nil (j Z a l false z U D)
def sj{P:Prop}{k:TR}(b:Bool):(Ab (Am H a) λt=>S7 t (Bool.rec P (Ab (Am H a) λt=>k t) b) (Bool.rec (Ab (Am H a) λt=>k t) P b))=(Ab (Am H a) λt=>S7 t (Bool.rec P (k true) b) (Bool.rec (k false) P b)):=by
 cases h:Am H a with
 |none=>rfl
 |some t=>induction t<;>induction b<;>rfl
def xO(h:ST c g f d x e)(B:Kq c g f d .And y u):Kq c g f d .And (.and x y) (e::u):=by
 intro O J s A k Q r q N p;have N:BI g x J (λa s=>Ab (Am s.H a) λt=>S7 t (BI g y s λv J=>Ab (Am J.H v) λt=>k t J) (Ab (Am s.H a) λt=>k t s)):=N;have w:(λa s=>Ab (Am s.H a) λt=>S7 t (BI g y s λv J=>Ab (Am J.H v) λt=>k t J) (Ab (Am s.H a) λt=>k t s))=λa s=>Ab (Am s.H a) λt=>S7 t (BI g y s λv J=>Ab (Am J.H v) λt=>k t J) (k false s):=
  funext λa=>funext λs=>sj false
 rw[w]at N;show wpAny_allTrue_And_cons (h O J s A (λt s=>S7 t (BI g y s λv J=>Ab (Am J.H v) λt=>k t J) (k false s)) _ r q N λZ i l b z U o=>?_);induction b using Bool.casesOn with
 |true=>show B Z i l A k Q U q o λj m P b n D o=>p j m P b (z.trans r U n) D o
 |false=>show p Z i l false z U o
def abB(h:ST c g f d x e)(B:Kq c g f d .Or y u):Kq c g f d .Or (.or x y) (e::u):=by
 intro O J s A k Q r q N p;have N:BI g x J (λa s=>Ab (Am s.H a) λt=>S7 t (Ab (Am s.H a) λt=>k t s) (BI g y s λv J=>Ab (Am J.H v) λt=>k t J)):=N;have w:(λa s=>Ab (Am s.H a) λt=>S7 t (Ab (Am s.H a) λt=>k t s) (BI g y s λv J=>Ab (Am J.H v) λt=>k t J))=λa s=>Ab (Am s.H a) λt=>S7 t (k true s) (BI g y s λv J=>Ab (Am J.H v) λt=>k t J):=
  funext λa=>funext λs=>sj true
 rw[w]at N;show wpAny_allTrue_Or_cons (h O J s A (λt s=>S7 t (k true s) (BI g y s λv J=>Ab (Am J.H v) λt=>k t J)) _ r q N λZ i l b z U o=>?_);induction b using Bool.casesOn with
 |true=>show p Z i l true z U o
 |false=>show B Z i l A k Q U q o λj m P b n D o=>p j m P b (z.trans r U n) D o
def zb(h:Kq c g f d D x y):ST c g f d x (.BoolOp D y pos):=by
 intro O J s A k Q r l N j;show wpAny_isTrue_BoolOp (h O J s A k Q r l N j)
def abE(q:ST c g f d t et)(h:ST c g f d x e)(w:ST c g f d y u):ST c g f d (.Gi t x y) (.IfExp et e u pos):=by
 intro O J s A k Q r o n p;rw[arm_isTrue_IfExp _ _ _ _ _ _];show Zn (q O J s A (λb J=>S7 b (BI g x J λv J=>Ab (Am J.H v) λt=>k t J) (BI g y J λv J=>Ab (Am J.H v) λt=>k t J)) _ r o n λZ a l b i U m=>?_);induction b using Bool.casesOn with
 |true=>show h Z a l A k Q U o m λj z P b N D m=>p j z P b (i.trans r U N) D m
 |false=>show w Z a l A k Q U o m λj z P b N D m=>p j z P b (i.trans r U N) D m
set_option backward.match.sparseCases false
structure CV (c:Cx) (g:G) (K:Frag) (p:CP) (Sy:TP) (mg mb:Wu->TM) (d:Nat):Prop where
 Y:Ctx c K p Sy mg mb
 YG:FX c K g
 MB:∀n,g.canon n<64
 C:∀fa,AB false c fa d (g.call fa)
 Lz:∀lb,p.gen lb=false->∀v J k,¬g.loop lb v J k
def dF(h:SE c g f d x e)(N:∀whole,isTrue e f.env whole=(do let v←whole;standAt e.pos;holding [v] (truthy v))):SE c g f d x e/\ST c g f d x e:=⟨h,aeG h N⟩
def cf:SE c g f d .bad e/\ST c g f d .bad e:=⟨λZ Z Z Z Z Z Z Z N Z=>N.elim,λZ Z Z Z Z Z Z Z N Z=>N.elim⟩
def CV.nm(S:CV c g K p Sy mg mb d){x:Wu}{i:Nat}(h:p.code x=some i):c.nm i=x:=(S.Y.code x i h).1
theorem CV.C1(S:CV c g K p Sy mg mb d)(y:Nat):AB false c y (d+1) (g.call y):=(S.C y).mono (YX _)
def Qx(c:Cx)(g:G)(p:CP)(d:Nat)(n:Nat):Prop:=∀(f:Fm) e,SE c g f (d+1) (cE p f.cs n e) e/\ST c g f (d+1) (cE p f.cs n e) e
def Rr(c:Cx)(g:G)(p:CP)(d:Nat)(n:Nat):Prop:=∀(f:Fm) o,SO c g f (d+1) (cO p f.cs n o) o
def Rt(c:Cx)(g:G)(p:CP)(d:Nat)(n:Nat):Prop:=∀(f:Fm) y,y.all BU=true->Row c g f (d+1) (cL p f.cs n y) y
def Rw(c:Cx)(g:G)(p:CP)(d:Nat)(n:Nat):Prop:=∀(f:Fm) y,(Kr c g f (d+1) .And (cA p f.cs n y) y/\Kq c g f (d+1) .And (cA p f.cs n y) y)/\(Kr c g f (d+1) .Or (cR p f.cs n y) y/\Kq c g f (d+1) .Or (cR p f.cs n y) y)
def Rv(c:Cx)(g:G)(p:CP)(d:Nat)(n:Nat):Prop:=∀(f:Fm) y Z,SP c g f (d+1) (cD p f.cs n y Z) y Z
def jT:Kr c g f d D .bad y/\Kq c g f d D .bad y:=⟨λZ Z Z Z Z Z Z Z Z N Z=>N.elim,λZ Z Z Z Z Z Z Z N Z=>N.elim⟩
abbrev GF(c:Cx)(g:G)(f:Fm)(d:Nat)(x:X)(e:WE):Prop:=SE c g f d x e/\ST c g f d x e
def pQ(h:HD e=some t):∃q,e=.Slice t.1 t.2.1 t.2.2 q:=by
 obtain⟨⟩:=e<;>first|show aw h|(cases h;show⟨_,rfl⟩)
def iA:HD e=none->(match e with| .Slice .. =>false|_=>true)=true:=by
 obtain⟨⟩:=e<;>intro h<;>first|rfl|cases h
set_option tactic.hygienic true in
def qo{e:WE}{i:Int}(h:J8 e=some i):∃k q,e=.Constant (.int i) k q:=by
 obtain⟨⟩:=e<;>first|show aw h|(rename_i c k q;induction c<;>first|show aw h|(cases h;show(j2 k q rfl)))
set_option tactic.hygienic true in
def iy{e:WE}{i:Wu}(h:Iz e=some i):∃k q,e=.Constant (.str i) k q:=by
 obtain⟨⟩:=e<;>first|show aw h|(rename_i c k q;induction c<;>first|show aw h|(cases h;show(j2 k q rfl)))
def qt(h:Ka l=some t):∃q,l=[⟨.Name t.1 q,t.2.1,t.2.2,0⟩]:=by
 induction l using Re with
 |nil=>show aw h
 |cons a r=>
  obtain⟨s,z,j,O⟩:=a;unfold Ka at h;dsimp only at h;split at h
  ·rename_i u;rw[Zp]at u;obtain rfl:=Ze u.1;obtain rfl:O=0:=beq_iff_eq.mp u.2;obtain⟨⟩:=s<;>first|show aw h|(cases h;show⟨_,rfl⟩)
  ·show aw h
def pV(h:JW x O y=some t):x="replace"/\y=[]/\∃A Z k2 D,O=[.Constant (.str t.1) A Z,.Constant (.str t.2) k2 D]:=by
 unfold JW at h;split at h
 ·rename_i u;rw[Zp]at u;show⟨beq_iff_eq.mp u.1,Ze u.2,?_⟩;induction O using Re with
  |nil=>show aw h
  |cons a r=>
   induction r using Re with
   |nil=>show aw h
   |cons b r=>
    dsimp only at h;split at h
    ·rename_i f;obtain rfl:=Ze f;cases Q:Iz a with
     |none=>rw[Q]at h;show aw h
     |some s=>
      cases e:Iz b with
      |none=>rw[Q,e]at h;show aw h
      |some z=>
       rw[Q,e]at h;obtain rfl:=Zf h;show iq (iy Q) λA Z P=>?_;clear Q;subst P;show iq (iy e) λk2 D P=>?_;clear e;subst P;show(bR A Z k2 D rfl)
    ·cases h
 ·show aw h
def df{y:Type}{o:Option y}{k:y->X}(h:∀a,o=some a->GF c g f d (k a) e):GF c g f d (Hl o k) e:=by
 induction o using Option.casesOn with
 |none=>show cf
 |some a=>show h a rfl
def b8(h:b=true->GF c g f d x e):GF c g f d (if b=true then x else .bad) e:=by
 induction b using Bool.casesOn with
 |false=>show cf
 |true=>show h rfl
def aca(h:GF c g f d x a):GF c g f d (Rc o a x) (.UnaryOp o a q):=by
 cases o with
 |Not=>show⟨abQ h.1,abD h.2⟩
 |USub=>
  change GF c g f d (match J8 a with
   |some i=>.k (.int (-i))
   |none=>.neg x) _
  cases e:J8 a with
  |none=>show dF (abS h.1) λZ=>rfl
  |some i=>
   show iq (qo e) λk A P=>?_;clear h e;subst P;show dF yf λZ=>rfl
 |_=>show cf
def s6(h:I6 o=true):o=.LtE:=by induction o<;>first|rfl|show a7 h
def ad5(S:CV c g K p Sy mg mb d)(Q:SE c g f (d+1) A a)(s:∀e,SE c g f (d+1) (E e) e):GF c g f (d+1) (Rh z j A E) (.Compare a z j q):=by
 induction z using Re with
 |nil=>show cf
 |cons o z=>
  induction j using Re with
  |nil=>show cf
  |cons b j=>
   induction z using Re with
   |nil=>
    induction j using Re with
    |nil=>
     change GF c g f (d+1) (if behindInMarks o b then .bad else .cmp (Ga o) A (E b)) _;cases O:behindInMarks o b with
     |true=>show cf
     |false=>show⟨abW (yM S.Y.X S.YG S.C1) Q (s b) O,abF (yM S.Y.X S.YG S.C1) Q (s b) O⟩
    |cons _ _=>show cf
   |cons u z=>
    induction j using Re with
    |nil=>show cf
    |cons U j=>
     show b8 λh=>?_;rw[Zp,Zp,Zp]at h;obtain⟨k,N,D,i⟩:=h;obtain rfl:=s6 k;obtain rfl:=s6 N;obtain rfl:=Ze D;obtain rfl:=Ze i;show⟨abO Q (s b) (s U),abC Q (s b) (s U)⟩
def acu{j:Option WE->X}(U:SE c g f d s o)(hi:SE c g f d l i)(u:∀e,SO c g f d (j e) e):GF c g f d (Rf (HD i) s l j) (.Subscript o i q):=by
 cases e:HD i with
 |none=>show dF (abM (iA e) U hi) λZ=>rfl
 |some t=>
  obtain⟨lo,A,st⟩:=t;show zE (pQ e) λa Q=>?_;clear hi e;subst Q;induction st using Option.casesOn with
  |none=>show dF (abN U (u lo) (u A)) λZ=>rfl
  |some _=>show cf
def adf(S:CV c g K p Sy mg mb d){z:List Comprehension}{I E:WE->X}(P:∀e,SE c g f (d+1) (I e) e)(s:∀(D:BF f.cs cs) (C:WD) (e:WE),GF c g (JB f cs D C) (d+1) (E e) e):GF c g f (d+1) (Rg p f.cs cs (Ka z) I E e) (.ListComp e z cs q):=by
 show df λt N=>b8 λh=>df λi u=>df λy v=>?_;rw[Zp,Zp,Z8]at h;have H:=jQ h.1;show zE (qt N) λA Q=>?_;clear N;subst Q;obtain⟨x,a,U⟩:=t;induction U using Re with
 |nil=>show dF (u7 S.Y h.2.2 H h.2.1 u v (P a) (λC=>acm) λC=>(s _ C e).1) λZ=>rfl
 |cons cd r=>
  show b8 λb=>?_;obtain rfl:=Ze b;show dF (u7 S.Y h.2.2 H h.2.1 u v (P a) (λC=>ack (s _ C cd).2) λC=>(s _ C e).1) λZ=>rfl
def yh:SE c g f d (.An .nil) (.Dict [] [] pos):=by
 intro O J s A k Q r l N j;have v:s.heap.objs.size≠sysModules:=by
  show zE r.dT λo a=>?_;show Nat.ne_of_gt (ZJ (ZJ (by ext) c.G5) (Zh r.Lb (Yo (Yk a))))
 show zA (r.alloc (o':=.An []) rfl ⟨rfl,bj emptyDict [] (ZL _ rfl) v (bj (#[]) 0 ⟨rfl,rfl,rfl⟩ rfl (λZ b=>by simp at b) .nil List.nodup_nil) .nil (ZF _)⟩) λD P=>?_;show wpAny_Dict_empty (j _ _ _ (.ref s.heap.objs.size) (.ob J.m) P D (aU s.heap.objs.size [s.heap.objs.size] (by change(if J.m=J.m then _ else _)=_;rw[Zk rfl]) rfl) N)
def adz(S:CV c g K p Sy mg mb d){O:List WE}{L:X}(D:B8 f.cs x=true)(h:Row c g f (d+1) L O):GF c g f (d+1) (Qe p x L) (.Call (.Name x q) O [] A):=by
 unfold Qe;cases Q:p.Gw x with
 |none=>
  show df λi P=>b8 λhi=>dF (aeJ S.Y D Q P hi h) λZ=>rfl
 |some v=>
  induction v using V.casesOn with
  |st a=>
   change GF c g f (d+1) (if p.NR a=true then .new a L else .call a L) _;cases p.NR a with
   |true=>show dF (abR S.Y S.YG S.C D Q h) λZ=>rfl
   |false=>show dF (yi S.Y S.YG (S.C1 a) D Q h) λZ=>rfl
  |_=>show cf
def aef(S:CV c g K p Sy mg mb d){O:List WE}{y:List WI}{q:Pos}(b:∀e,SE c g f (d+1) (E e) e)(v:∀a,a.all BU=true->Row c g f (d+1) (L a) a):GF c g f (d+1) (Ri p f.cs h O y q E L) (.Call h O y q):=by
 cases h with
 |Name x w=>
  show b8 λh=>?_;rw[Zp,Zp]at h;obtain⟨U,N,D⟩:=h;obtain rfl:=Ze U;show adz S N (v O D)
 |Attribute o x s=>
  show b8 λh=>?_;rw[Zp]at h;cases e:JW x O y with
  |some t=>
   obtain⟨rfl,rfl,n,r,k2,m,rfl⟩:=pV e;show b8 λA=>?_;rw[Zp,Yu,Yu]at A;show dF (abP S.Y h.1 h.2 A.1 A.2 (b o)) λZ=>rfl
  |none=>
   show b8 λA=>df λi u=>df λl k=>?_;rw[Zp,Yu]at A;show dF (yg S.Y S.YG zH aay S.C1 h.1 h.2 A.1 (S.nm u) k (b o) (v _ A.2)) λZ=>rfl
 |_=>show cf
def zI(S:CV c g K p Sy mg mb d)(s:Qx c g p d n)(B:Rr c g p d n)(r:Rt c g p d n)(O:Rw c g p d n)(G:Rv c g p d n):Qx c g p d (n+1):=by
 intro f e;cases e with
 |Constant k q L=>show dF u9 λZ=>rfl
 |Name x q=>
  change GF c g f (d+1) (if BH f.cs x=true then Hl (p.code x) .loc else if B8 f.cs x=true then Hl (p.Gw x) .BR else .bad) _;cases I:BH f.cs x with
  |true=>show df λi u=>dF (u5 S.Y I u) λZ=>rfl
  |false=>show b8 λQ=>df λv u=>dF (nc S.Y Q u) λZ=>rfl
 |UnaryOp o a q=>show aca (s f a)
 |BoolOp o l q=>
  cases o with
  |And=>show⟨zc (O f l).1.1,zb (O f l).1.2⟩
  |Or=>show⟨zc (O f l).2.1,zb (O f l).2.2⟩
 |Compare a E T q=>show ad5 S (s f a).1 λe=>(s f e).1
 |BinOp a R b q=>show df λo U=>dF (abX U (s f a).1 (s f b).1 (ab4 U)) λZ=>rfl
 |IfExp t a b q=>show⟨abU (s f t).2 (s f a).1 (s f b).1,abE (s f t).2 (s f a).2 (s f b).2⟩
 |Attribute o x q=>show b8 λP=>df λi u=>dF (abY S.Y.X S.YG P (S.nm u) (s f o).1) λZ=>rfl
 |Subscript o i q=>show acu (s f o).1 (s f i).1 (B f)
 |Tuple w _ q=>show b8 λh=>dF (abL (r f w h).SL) λZ=>rfl
 |List w q=>show b8 λh=>dF (abT (r f w h).SL) λZ=>rfl
 |Dict y m q=>
  change GF c g f (d+1) (if(y.isEmpty&&m.isEmpty)=true then .An .nil else _) _;cases j:(y.isEmpty&&m.isEmpty)with
  |true=>
   rw[Zp]at j;obtain rfl:=Ze j.1;obtain rfl:=Ze j.2;show dF yh λZ=>rfl
  |false=>
  show b8 λh=>?_;rw[Zp,Zp,Zp,Z8,Yu]at h;show zA h λz A=>?_;obtain⟨⟨F,N⟩,H⟩:=z;show dF (abV F (beq_iff_eq.mp N) (List.isEmpty_eq_false_iff.mp A) H (G f y m)) λZ=>rfl
 |ListComp e V cs q=>show adf S (λe=>(s f e).1) λD C e=>s (JB f cs D C) e
 |Call h M y q=>show aef S (λe=>(s f e).1) (r f)
 |_=>show cf
def bU(S:CV c g K p Sy mg mb d):∀n,Qx c g p d n/\Rr c g p d n/\Rt c g p d n/\Rw c g p d n/\Rv c g p d n:=by
 intro n;induction n with
 |zero=>
  show⟨λZ Z=>cf,λZ Z Z Z Z Z Z Z Z Z N Z=>N.elim,λZ Z h=>.bad h,λZ Z=>⟨jT,jT⟩,λZ Z Z Z Z Z Z Z Z Z Z Z N Z=>N.elim⟩
 |succ n Q=>
  show ir Q λs u i O m=>⟨zI S s u i O m,λf o=>?_,λf b h=>?_,λf b=>?_,λf y a=>?_⟩
  ·induction o using Option.casesOn with
   |none=>show yd
   |some e=>show yc (s f e).1
  ·induction b using Re with
   |nil=>show .nil
   |cons e r=>
    rw[YR,Zp]at h;show .cons h.1 (s f e).1 (i f r h.2)
  ·induction b using Re with
   |nil=>show⟨jT,jT⟩
   |cons e r=>
    induction r using Re with
    |nil=>show⟨⟨pD (s f e).1,pC (s f e).2⟩,pD (s f e).1,pC (s f e).2⟩
    |cons A r=>show⟨⟨yj (s f e).1 (O f (A::r)).1.1,xO (s f e).2 (O f (A::r)).1.2⟩,abZ (s f e).1 (O f (A::r)).2.1,abB (s f e).2 (O f (A::r)).2.2⟩
  ·have j:∀ {y a},SP c g f (d+1) .bad y a:=λZ Z Z Z Z Z Z Z Z N Z=>N.elim;induction y using Re with
   |nil=>
    induction a using Re with
    |nil=>show abJ
    |cons _ _=>show j
   |cons k y=>
    induction a using Re with
    |nil=>show j
    |cons v a=>
     induction k using Option.casesOn with
     |none=>show j
     |some k=>show yb (s f k).1 (s f v).1 (m f y a)
def Fo(e:WE):Bool:=
 match e with
 | .Attribute .. =>true
 |_=>false
mutual
noncomputable def KI(p:CP):Nat->WG->List WG
 |0,_=>[]
 |n+1,st=>
  match st with
  | .If _ a b _=>Fe p n a++Fe p n b
  | .While _ b _ _=>Fe p n b
  | .For _ _ b _ pos=>if p.gen pos.line then [st]else Fe p n b
  | .Try _ _ _ _ _=>[st]
  | .Assign ts e _=>if ts.all Fo&&Dv e then [st]else []
  |_=>[]
noncomputable def Fe(p:CP):Nat->List WG->List WG
 |0,_=>[]
 |_+1,[]=>[]
 |n+1,s::r=>KI p n s++Fe p n r
end
section
variable {c:Cx}{g:G}{K:Frag}{p:CP}{Sy:TP}{mg mb:Wu->TM}{d:Nat}
def bP{st:WG}:SS c g f d .bad st:=λZ Z Z Z Z Z Z Z N Z=>N.elim
def abx{st:List WG}:SB c g f d .bad st:=λZ Z Z Z Z Z Z Z N Z=>N.elim
def de(j:f.own=true)(h:BH f.cs x=true):Hu f x:=.inl ⟨j,h⟩
def lN(S:CV c g K p Sy mg mb d)(j:f.own=true):∀ {y:List (Option X×Nat)},S0 p f.cs n s=some y->TS c g f (d+1) p y s:=by
 induction s with
 |nil=>intro y h;obtain rfl:=Zf h;show .nil
 |cons e r Q=>
  intro y h;cases e with
  |Name x q=>
   have h:(if BH f.cs x=true then Af (p.code x) λi=>Af (S0 p f.cs n r) λl=>some ((none,i)::l)else none)=some y:=h;cases D:BH f.cs x with
   |false=>replace h:=D▸h;show aw h
   |true=>
    replace h:=D▸h;replace h:=(Zk rfl)▸h;show aA (ax h) λi u U=>aA (ax U) λl a N=>?_;clear h U;obtain rfl:=Zf N;show .nm (de j D) u (Q a)
  |Attribute o x q=>
   show aA (ax h) λi u U=>aA (ax U) λl a N=>?_;clear h U;obtain rfl:=Zf N;show .Bb (S.nm u) ((bU S n).1 f o).1 (Q a)
  |_=>show aw h
def mD(U:Mb D=some o)(N:o<2):MH c d L D o:=by
 induction D<;>cases U<;>first|show ym|show yl|omega
def b5{y:Type}{o:Option y}{k:y->S}{st:WG}(h:∀a,o=some a->SS c g f d (k a) st):SS c g f d (Ij o k) st:=by
 induction o using Option.casesOn with
 |none=>show bP
 |some a=>show h a rfl
def dj{st:WG}(h:b=true->SS c g f d x st):SS c g f d (if b=true then x else .bad) st:=by
 induction b using Bool.casesOn with
 |false=>show bP
 |true=>show h rfl
def fX{st:WG}(h:b=false->SS c g f d x st):SS c g f d (if b=true then .bad else x) st:=by
 induction b using Bool.casesOn with
 |true=>show bP
 |false=>show h rfl
def aez(S:CV c g K p Sy mg mb d)(a:f.own=true)(j:Ci e=false)(hd:Fo t=true->Dv e=true->SS c g f (d+1) (OW p f.cs n t e) (.Assign [t] e q)):SS c g f (d+1) (OW p f.cs n t e) (.Assign [t] e q):=by
 have s:=(bU S n).1;cases t with
 |Name x A=>show dj λD=>b5 λi u=>x9 S.Y j (de a D) u (s f e).1
 |Attribute o x A=>
  cases h:Dv e with
  |true=>show hd rfl h
  |false=>
   show b5 λi u=>?_;rw[Zi (by rw[h];decide)];show ya S.Y.X S.YG S.MB j (S.nm u) (s f e).1 (s f o).1
 |Subscript o i A=>show xZ j (s f e).1 (s f o).1 (s f i).1
 |Tuple y k A=>show fX λN=>b5 λl D=>xY S.Y S.YG S.MB j N (lN S a D) (s f e).1
 |_=>show bP
def aex(S:CV c g K p Sy mg mb d)(j:f.own=true):SS c g f (d+1) (Rj p f.cs n t D e) (.AugAssign t D e q):=by
 have s:=(bU S n).1;show b5 λo U=>?_;by_cases N:o<2
 ·rw[Zk N];cases t with
  |Name x A=>show dj λa=>b5 λi u=>xV S.Y (de j a) u (mD U N) (s f e).1
  |Attribute b x A=>show b5 λi u=>xW S.Y.X S.YG S.MB (S.nm u) (mD U N) (s f e).1 (s f b).1
  |Subscript b i A=>show fX λQ=>xU (iA (Option.not_isSome_iff_eq_none.mp (by rw[Q];decide))) (mD U N) (s f e).1 (s f b).1 (s f i).1
  |_=>show bP
 ·rw[Zi N];show bP
def iU(h:Kj p s k z=some O):∃x q A,z=.Call (.Name x q) O [] A/\B8 s x=true/\p.blt x=some k/\p.Gw x=none/\O.all BU=true:=by
 cases z with
 |Call U j y q=>
  cases U with
  |Name x A=>
   have h:(if(y.isEmpty&&(B8 s x&&(p.blt x==some k&&((p.Gw x).isNone&&j.all BU))))=true then some j else none)=some O:=h;split at h
   ·rename_i u;obtain rfl:=Zf h;rw[Zp,Zp,Zp,Zp]at u;show ir u λU N D a Q=>?_;clear u h;obtain rfl:=Ze U;show(aM x A q rfl N (beq_iff_eq.mp D) (Xo.mp a) Q)
   ·show aw h
  |_=>show aw h
 |_=>show aw h
def iG(h:LC O e=some x):∃q,e=.Name x q/\BH O x=true:=by
 cases e with
 |Name y q=>
  have h:(if BH O y=true then some y else none)=some x:=h;split at h
  ·rename_i D;obtain rfl:=Zf h;show(aO q rfl D)
  ·show aw h
 |_=>show aw h
def adI(S:CV c g K p Sy mg mb d)(e:f.own=true)(h:p.gen q.line=false)(O:SB c g f (d+1) B b):SS c g f (d+1) (Qf p f.cs n t z q.line B) (.For t z b [] q):=by
 show ir (bU S n) λs Z v Z Z=>?_;have l:∀ {C:Nat} {t:WE} {b:List WG},p.gen C=false->G8 c g f (d+1) C t b:=λh Z Z Z Z Z Z Z Z Z Z Z D Z=>(S.Lz _ h _ _ _ D).elim;cases t with
 |Name x A=>
  show dj λD=>b5 λi u=>?_;cases F:Kj p f.cs 3 z with
  |some H=>
   show aK (iU F) λy q1 q2 o U G L I=>?_;subst o;show uZ S.Y (de e D) u U L G (v f H I) O
  |none=>show fX λr=>u0 r (.name S.Y (de e D) u) (s f z).1 O (l h)
 |Tuple m k A=>
  induction m using Re with
  |nil=>show bP
  |cons a m=>
   induction m using Re with
   |nil=>show bP
   |cons M m=>
    show dj λN=>b5 λy E=>b5 λx P=>b5 λi u=>b5 λj w=>fX λr=>?_;obtain rfl:=Ze N;show aA (iG E) λq1 Q l1=>?_;clear E;subst Q;show aA (iG P) λq2 Q l2=>?_;clear P;subst Q;show u0 r (.pair S.Y (de e l1) u (de e l2) w) (s f z).1 O (l h)
 |_=>show bP
def rB(S:CV c g K p Sy mg mb d)(O:∀(f:Fm),f.own=true->∀l,(∀t∈Fe p n l,∀m,SS c g f (d+1) (cS p f.cs m t) t)->SB c g f (d+1) (cB p f.cs n l) l)(f:Fm)(j:f.own=true)(st:WG)
  (Q:∀t∈KI p (n+1) st,∀m,SS c g f (d+1) (cS p f.cs m t) t):SS c g f (d+1) (cS p f.cs (n+1) st) st:=by
 have s:=(bU S n).1;cases st with
 |Pass q=>show xS
 |Break q=>show abI
 |Continue q=>show xT
 |Return o q=>
  induction o using Option.casesOn with
  |none=>show xR
  |some e=>show abG (s f e).1
 |Expr e q=>show fX λh=>aeI h (s f e).1
 |Assign y e q=>
  induction y using Re with
  |nil=>show bP
  |cons t r=>
   show dj λh=>?_;rw[Zp,Z8]at h;obtain rfl:=Ze h.1;show aez S j h.2 λU w=>?_;show(show cS p f.cs (n+1) (.Assign [t] e q)=OW p f.cs n t e from Zk (by rw[h.2];rfl))▸(Q (.Assign [t] e q) (show _∈(if([t].all Fo&&Dv e)=true then [Stmt.Assign [t] e q]else []) by rw[Zk (by rw[YR,U,w];rfl)];show .head _) (n+1))
 |AugAssign t D e q=>show aex S j
 |If t a b q=>show abH (s f t).2 (O f j a λt N m=>Q t (XM _ N) m) (O f j b λt N m=>Q t (Xl _ N) m)
 |While t b o q=>
  show dj λh=>?_;obtain rfl:=Ze h;show aeH (s f t).2 (O f j b Q)
 |For t k b o q=>
  cases i:p.gen q.line with
  |true=>show Q _ (show _∈(if p.gen q.line=true then [Stmt.For t k b o q]else Fe p n b) by rw[Zk i];show .head _) (n+1)
  |false=>
   show dj λh=>?_;obtain rfl:=Ze h;show adI S j i (O f j b λz N m=>Q z (show z∈(if p.gen q.line=true then _ else Fe p n b) by rw[Zi (by show i▸ ?_;decide)];show N) m)
 |Assert t m q=>
  show dj λh=>?_;obtain rfl:=Xo.mp h;show xX (s f t).2
 |Try a b o u q=>show Q _ (.head _) (n+1)
 |_=>show bP
def cY(S:CV c g K p Sy mg mb d):∀(n:Nat) (f:Fm),f.own=true->∀l,(∀t∈Fe p n l,∀m,SS c g f (d+1) (cS p f.cs m t) t)->SB c g f (d+1) (cB p f.cs n l) l
 |0,f,_,l,_=>abx
 |n+1,f,_,[],_=>ab0
 |n+1,f,j,st::r,h=>by
  show yk ?_ (cY S n f j r λt N m=>h t (Xl _ N) m);induction n using Nat.casesOn with
  |zero=>show bP
  |succ k=>show rB S (λf j l u=>cY S k f j l u) f j st (λt N m=>h t (XM _ N) m)
end
end
section
variable {b:Bool}{c:Cx}{O gh':Gh}{L C:Loc}{J J':St}{s s':Ww}
abbrev Fy(i:Nat):Bool:=and (!beq i 32) (!beq i 33)
def sL(h:Fy i=true):i≠32/\i≠33:=by
 show⟨λq=>?_,λq=>?_⟩<;>(subst q;show nomatch h)
def RV.gO{N:WA}(h:Le b g P)(f:b=true->E8 Fy x=true)(r:RV N w g v x):RV N w P v x:=by
 induction x using V.casesOn with
 |c _=>show RF.mono h.F r
 |ob i=>show aX r λa ft e p=>?_;show zE (h.φ i a ft e λq=>sL (f q)) λl A=>(aU a l A p)
 |st _=>show r
 |E9 _ i=>show cH r λq a ft e k p=>?_;show zE (h.φ i a ft p λq=>sL (f q)) λl A=>(b4 q a l e (h.F _ _ k) A)
def B3.nJ(x:B3 c g L Lc h)(A:Le b g P)(p:b=true->∀n v,Sx n Lc=some v->E8 Fy v=true)(k:∀y,L.CN y->∀o,h.get? y=some o->∃D,l.get? y=some D/\B4 o D):B3 c P L Lc l:=by
 show aA x.nm λm N f=>⟨aO m (fw N (k _ (.inl (.head _)))) λn v e=>?_,λn a e=>?_,λu Z=>(x.up u Z).step (k u (.inl (.tail _ Z))),x.nu⟩
 ·show aA (f n v e) λw r z=>(aO w (r.imp_left λ⟨a,U,i⟩=>(aO a U (bF i (k a (.inr (yE _ U)))))) (z.gO A λq=>p q n v e))
 ·show(x.cell n a e).elim λu Z=>(yE u (bF Z (k a (.inr (yE n e)))))
structure Ir (c:Cx) (O:Gh) (C:Loc) (n0 i0:Nat) (s:Ww):Prop where
 ns:∃m,s.heap.Ns C.ns m/\∃a ft,O.φ i0=some (a,ft)/\m (c.nm n0)=some (.ref a)
 nF:O.F C.ns=none
 nf:¬AD O C.ns
 G5:c.base.objs.size<=C.ns
structure Above (L C:Loc) (i0:Nat):Prop where
 up:C.up=L.all
 D0:C.D0=none
 no:¬L.CN C.ns
 i0:Fy i0=true
variable {n0 i0:Nat}
def Above.has(B:Above L C i0)(h:C.CN y):y=C.ns\/y∈L.all:=by
 rcases h with h|⟨n,e⟩
 ·rcases Zb h with h|h
  ·show .inl h
  ·show .inr (B.up▸h)
 ·rw[B.D0]at e;show aw e
def Above.wr(B:Above L C i0)(h:L.CN y)(q:C.Wr y):y∈L.all:=(B.has q.has).resolve_left λz=>B.no (z▸h)
def Rel.wake(r:Rel c O L J s)(B:Above L C i0)(f:Ir c O C n0 i0 s):Rel c O C (Bw J [(n0,.ob i0)]) s:=by
 show⟨r.Av,r.obs,r.sep,λx P=>⟨(r.off x P).1,λe=>(B.has e).elim (λe=>f.nf (e▸P)) λe=>(r.off x P).2.1 (.inl e),(r.off x P).2.2⟩,λx P=>(B.has P).elim (λe=>e▸f.nF) λe=>r.nL x (.inl e),⟨?_,λn a e=>(by rw[B.D0]at e;show aw e),λu Z=>(r.ups (B.up▸Z)).2,λh=>B.no (.inl (B.up▸h))⟩,r.new,r.DY,r.CZ,r.base,f.G5,r.tk⟩;show lH f.ns λm N a ft U i=>(aO m N λn v e=>?_)
 have e:(if n=n0 then some (V.ob i0)else none)=some v:=by
  rw[←e];rw[aq];rfl
 split at e
 ·rename_i q;obtain rfl:=Zf e;clear f;subst q;show(gE _ (.inr ⟨λz e=>(by rw[B.D0]at e;show aw e),i⟩) a ft U rfl)
 ·cases e
def Rel.sleep(r:Rel c O L J s)(B:Above L C i0)(f:Ir c O C n0 i0 s)(F:b=true->∀n v,Sx n J.L=some v->E8 Fy v=true)(x:Ext b C O s gh' s')(i:Rel c gh' C J' s')(D:Sx n0 J'.L=some (.ob i0)):Rel c gh' L (Bw J' J.L) s'/\Ir c gh' C n0 i0 s':=by
 have j:∀ {y},L.CN y->¬AD O y:=λh E=>(r.off _ E).2.1 h;show⟨⟨i.Av,i.obs,i.sep,λy P=>?_,λy P=>?_,r.loc.nJ x.le F λy P=>?_,i.new,i.DY,i.CZ,i.base,r.Lb,i.tk⟩,⟨?_,i.nL _ Loc.cx,λh=>(i.off C.ns h).2.1 Loc.cx,f.G5⟩⟩
 ·show cu (i.off y P) λu G w=>⟨u,λq=>?_,w⟩
  rcases x.fp y P with k|k
  ·show j q k
  ·show zE (r.there q) λo e=>?_;rw[k]at e;show aw e
 ·cases q:gh'.F y with
  |none=>rfl
  |some o=>
   rcases x.fF y o q with k|k|k
   ·rw[r.nL y P]at k;show aw k
   ·show(j P k).elim
   ·show zE (r.there P) λo e=>?_;rw[k]at e;show aw e
 ·by_cases q:y∈L.all
  ·show x.EN y (B.up▸q)
  ·show av λo e=>x.keep y o e (λz=>q (B.wr P z)) (j P)
 ·show aA i.loc.nm λm N p=>?_;show lH (p n0 _ D) λw t a ft Z U=>?_;subst U;show(gE m N a ft Z (t.elim (λ⟨z,e,_⟩=>(by rw[B.D0]at e;show aw e)) And.right))
def Ir.there(f:Ir c O C n0 i0 s):∃o,s.heap.get? C.ns=some o:=by
 show aA f.ns λm Q Z=>?_;obtain⟨g,_,_,v,_⟩:=Q;show⟨g,v⟩
def Ir.step(f:Ir c O C n0 i0 s)(B:Above L C i0)(x:Ext b L O s gh' s'):Ir c gh' C n0 i0 s':=by
 have z:=f.there;show⟨?_,?_,λh=>?_,f.G5⟩
 ·show lH f.ns λm N a ft U Z=>zE (x.le.φ i0 a ft U λi=>sL B.i0) λl D=>(gE m (fw N (av λo e=>x.keep C.ns o e (show¬L.Wr C.ns from λq=>B.no q.has) f.nf)) a l D Z)
 ·cases q:gh'.F C.ns with
  |none=>rfl
  |some o=>
   rcases x.fF C.ns o q with k|k|k
   ·rw[f.nF]at k;show aw k
   ·show(f.nf k).elim
   ·show zE z λo e=>?_;rw[k]at e;show aw e
 ·rcases x.fp C.ns h with k|k
  ·show f.nf k
  ·show zE z λo e=>?_;rw[k]at e;show aw e
def Ext.over(r:Rel c O L J s)(B:Above L C i0)(E:Ext d L l j O s)(N:j.heap.get? C.ns=none)(x:Ext e C O s gh' s'):Ext (d||e) L l j gh' s':=by
 have A:∀z,s.heap.get? z=none->AD l z\/j.heap.get? z=none:=λz e=>by
  by_cases P:AD l z
  ·show .inl P
  ·show .inr ?_;cases q:j.heap.get? z with
   |none=>rfl
   |some o=>
    by_cases D:L.Wr z
    ·show zE (r.there D.has) λg v=>?_;replace v:=e▸v;show aw v
    ·replace e:=(E.keep z o q D P)▸e;cases e
 show⟨E.le.trans x.le,λz o e D P=>x.keep z o (E.keep z o e D P) (λq=>?_) λu=>?_,λy f=>?_,λz P=>?_,λz o P=>?_,E.gens.trans x.gens,x.os.trans E.os,x.drawn.trans E.drawn⟩
 ·rcases B.has q.has with q|q
  ·replace e:=q▸e;replace e:=N▸e;show aw e
  ·show D (.inl q)
 ·rcases E.fp z u with h|h
  ·show P h
  ·replace h:=e▸h;cases h
 ·intro o e;show aA (E.EN y f o e) λSp U q1=>aA (x.EN y (B.up▸ .tail _ f) Sp U) λSo Z q2=>?_;show zE q1 λi Q=>?_;clear U q1;subst Q;show zE q2 λa Q=>?_;clear q2;subst Q;show(j3 _ Z a rfl)
 ·rcases x.fp z P with h|h
  ·show E.fp z h
  ·show A z h
 ·rcases x.fF z o P with h|h|h
  ·show E.fF z o h
  ·show .inr (E.fp z h)
  ·show .inr (A z h)
def Rel.setGen(r:Rel c O L J s)(i:Nat)(q:GenState):Rel c O L J (s.setGen i q):=⟨r.Av,r.obs,r.sep,r.off,r.nL,r.loc,r.new,r.DY,r.CZ,r.base,r.Lb,r.tk⟩
def Ir.setGen(f:Ir c O C n0 i0 s)(i:Nat)(q:GenState):Ir c O C n0 i0 (s.setGen i q):=⟨f.ns,f.nF,f.nf,f.G5⟩
end
section
variable {c:Cx}{g:G}{K:Frag}{p:CP}{Sy:TP}{mg mb:Wu->TM}{f:Fm}{d:Nat}{O:Gh}{L:Loc}{J:St}{s:Ww}
def Rel.yt(r:Rel c O L J s){ft:List WD}(hi:O.φ i=some (a,ft))(U:RO c.Aa c.w c.nm O s.heap a ft o):∃l,Ext false L O s l s/\Rel c l L (As J (put i o J.H)) s:=by
 have A:Le false O (O.at i (a,ft)):=⟨λZ Z e=>e,λj b h e Z=>by
  by_cases q:j=i
  ·subst q;replace e:=hi▸e;cases e;show(yE ft Gh.bf)
  ·show(yE h ((Gh.bc q).trans e))⟩
 show zA (r.change r.tk hi (λx o Z e Z=>e) (λx P=>.inl P) (λx P=>(r.off x (ay i a ft hi P)).2.2) r.loc (U.step A λZ Z Z e=>e)) λD k=>(aO _ k D)
def aeK{N:WA}{P:TU}:∀ {d:Tw} {y:List WC} {A:V},RI N w nm O y d->Sx n d=some A->(∀v,RV N w O v A->RV N w O v u)->RI N w nm O y (put n u d):=by
 intro d;induction d with
 |nil=>intro y A _ h;show aw h
 |cons q d Q=>
  intro y A h e Z;rw[aq]at e;obtain⟨m,v⟩:=q;cases h with
  |cons U a D=>
   change RI N w nm O _ (Bool.rec ((m,v)::put n u d) ((n,u)::d) (beq n m):Tw);by_cases k:n=m
   ·rw[Zk k]at e;obtain rfl:=Zf e;rw[k,bW];show .cons U (Z _ a) D
   ·rw[Zi k]at e;rw[bX k];show .cons U a (Q D e Z)
def Rel.abe(r:Rel c O L J s)(C:(J.L.all λq=>E8 DW q.2)=true)(E:((DK 32 J.H).all λq=>Hn DW q.2)=true):Rel c (O.Sz DW) L (As J (DK 32 J.H)) s/\Ext true L O s (O.Sz DW) s:=by
 have D:∀x,AD (O.Sz DW) x->AD O x:=λx ⟨i,a,ft,e,h⟩=>(ay i a ft (eK e).2 h)
 have y:∀ {i:Nat},i≠32->DW i=true:=λh=>by change(!beq _ 32)=true;rw[bX h];rfl
 show⟨⟨r.Av,λi o e=>?_,λi j a ft b l e A=>r.sep i j a ft b l (eK e).2 (eK A).2,λx P=>r.off x (D x P),r.nL,⟨?_,r.loc.cell,r.loc.up,r.loc.nu⟩,λi hi=>?_,r.DY,λi p e k=>?_,r.base,r.Lb,r.tk⟩,
  ⟨⟨λZ Z e=>e,λi a ft e n=>(yE ft (iM (y (n rfl).1) e))⟩,λZ Z e Z Z=>e,.refl _ _,λx P=>.inl (D x P),λZ Z e=>.inl e,GK.refl _,rfl,rfl⟩⟩
 ·have u:=e;have e:Sx i (DK 32 J.H)=some o:=e;rw[dN]at e;by_cases q:i=32
  ·rw[Zk q]at e;show aw e
  ·rw[Zi q]at e;show aX (r.obs i o e) λa ft U Q=>(aU a ft (iM (y q) U) (zd Q (uV E u)))
 ·show aA r.loc.nm λm N t=>(aO m N λn v e=>aA (t n v e) λw U B=>(aO w U (iW B (Zd C _ (jk e)))))
 ·cases q:(O.Sz DW).φ i with
  |none=>rfl
  |some p=>have:=r.new i hi;rw[(eK q).2]at this;show aw this.symm
 ·show zA (eK e) λh e=>?_;rw[dN,Zi λq=>by subst q;show nomatch h];show r.CZ i p e k
def aeD{f:FV}(h:Af o Ro=some f):o=some (.Av f):=by
 show aA (ax h) λo Q h=>?_;subst Q;induction o using AO.casesOn with
 |Av g=>show T3 (λx=>some (AO.Av x)) (Zf h)
 |_=>show aw h
def aeE(h:Af o Rp=some l):o=some (.An l):=by
 show aA (ax h) λo Q h=>?_;subst Q;induction o using AO.casesOn with
 |An g=>show T3 (λx=>some (AO.An x)) (Zf h)
 |_=>show aw h
def sm{y:Wv}{k:TF}(r:Rel c O L J s)(E:RV c.Aa c.w O y (.ob i))(N:RV c.Aa c.w O v x)(h:KQ i n x J k):
  ∃l Z,Ext true L O s l s/\Rel c l L Z s/\RV c.Aa c.w l y (.ob i)/\RV c.Aa c.w l v x/\k Z:=by
 obtain⟨q,U,h⟩:=ak h;obtain⟨v0,G,h⟩:=ak h;have U:=uY U;have h:=h;cases t:E8 DW v0 with
 |true=>replace h:=t▸h;show(bj O J (.refl _ _ _ _) r E N h)
 |false=>
  replace h:=t▸h;obtain⟨j,e3,y1⟩:=ak h;clear h;obtain rfl:=lD e3;obtain⟨f,w,R⟩:=ak y1;replace w:=aeD w;show zA (qL R) λC H=>zA (ar C) λC B=>zA (ar B) λB h3=>?_;obtain rfl:j=32:=Y0 λq=>by
   have t:(!beq j 32)=false:=t;replace t:=(bX q)▸t;show nomatch t
  show aX E λa ft e z=>?_;clear E;subst z;show aX (r.obs 32 _ w) λa' ft' A u=>?_;show aK (r.ob e U) λdx Y m I S T z4 z5=>?_;have W:i≠32:=λq=>by replace U:=q▸U;replace U:=w▸U;show aw (T3 HZ U)
  show aA (r.yt (o:=.inst q.1 (put n (.c f) q.2)) e (aM dx Y m I S T z4 (aeK (P:=DW) z5 G λv N=>by
   show aX N λb fb e5 z=>?_;clear N;subst z;replace A:=e5.symm.trans A;cases A;show u.2))) λg1 F D=>?_
  show zA (D.abe B h3) λr2 M=>zE (F.le.f e) λQ X=>(bj _ _ (F.trans r D M) r2 (aU a Q (iM (by change(!beq i 32)=true;rw[bX W];rfl) X) rfl) (iW (N.mono F.le) C) H)
def aeM{N:WA}(h:Eh N w O.F U l):RD N w O U (l.map λp=>(p.1,V.c p.2)):=by
 induction l generalizing U with
 |nil=>cases h;show .nil
 |cons q l Q=>cases h with|cons a b=>show .cons a (Q b)
def vU{x:V}(r:Rel c O L J s)(N:RV c.Aa c.w O v x)(h:NT x J k):∃b n,Ext false L O s b s/\Rel c b L n s/\k n:=by
 obtain⟨j,I,W⟩:=ak h;obtain rfl:=lD I;obtain⟨m,Z,M⟩:=ak W;replace Z:=aeE Z;obtain⟨q,B,E⟩:=ak M;show aX N λa ft e z=>?_;clear N;subst z;show bQ (r.ob e Z) λC o U S T G w R=>bO (om r w B) λg1 t D Q i=>?_;have i:Sx j q.2=some (.An m):=by
  cases P:G2 m with
  |none=>show i j m Z P
  |some l=>rw[kO P B];show Z
 show bA (D.obs j _ i) λY X u y uu=>zE (t.le.f e) λH A=>?_;replace u:=A▸u;cases u;subst y;show aA (D.yt (o:=.An (q.1.map λp=>(p.1,.c p.2))) A ⟨rfl,bj o U S T G (aeM Q) (by rw[ZD, ←Q.len,w.len];show R)⟩) λg2 F r2=>?_;show(a8 g2 _ (t.trans r D F) r2 E)
def p5(B:K.In c.base)(Y:FX c K g)(u:∀n,g.canon n<64)(r:Rel c O L J s)(E:RV c.Aa c.w O y ox)(H:RV c.Aa c.w O v x)
  (h:GP g ox n x J k) (w:∀l Z j,Ext true L O s l j->Rel c l L Z j->k Z->Q () j):wpAny (model c.Aa c.w) A (setAttr y (c.nm n) v) Q Bl s:=by
 obtain⟨i,C,G⟩:=ak h;clear h;obtain rfl:=lD C;show dH (sm r E H G) λg1 M F D a z t=>bA (vU D z t) λg2 I b r2 m=>eH B Y u r2 (a.mono b.le) (z.mono b.le) m λe N o P U q=>w e N o ((F.trans r D b).trans r r2 P) U q
def x8(V:K.In c.base)(Y:FX c K g)(q:∀n,g.canon n<64)(E:f.vl=true)(S:Ci e=false)(R:c.nm n=nm)(h:SE c g f d x e)(T:SE c g f d y o):
  SS c g f d (.Kl y n x) (.Assign [.Attribute o nm P] e pos):=by
 intro O J s A k Q r M G hp;show plainObj_wpAny_Assign_Attribute (h O J s A _ _ r M G λi m l v a z U hv t=>T i m l A _ _ U M t λF I H u b N D W t=>?_) (eZ S _ _ _);show R▸(p5 V Y q D W (hv.mono N.le) t λZ B j w C t=>?_);show hp Z B j .next .AZ (by change Ext f.vl _ _ _ _ _;rw[E];show(z.trans r U N).trans r D w) C rfl t
def xM(S:CV c g K p Sy mg mb d)(l:f.vl=true)(hd:Dv e=true)(m:Nat):SS c g f (d+1) (cS p f.cs m (.Assign [.Attribute o x A] e q)) (.Assign [.Attribute o x A] e q):=by
 induction m using Nat.casesOn with
 |zero=>show bP
 |succ n=>
  show dj λh=>?_;rw[Zp,Z8]at h;show b5 λi u=>?_;rw[Zk hd];show x8 S.Y.X S.YG S.MB l h.2 (S.nm u) ((bU S n).1 f e).1 ((bU S n).1 f o).1
set_option backward.match.sparseCases true
def Fw(S:List WD)(h:WH):WH:=S.foldr (λa h=>h.update a λo=> {o with data:=.freed}) h
def qr(h:WH)(a:WD):(h.update a λo=> {o with data:=.freed}).get? a=none:=by
 obtain⟨j,l⟩:=h;change(match (j.modify a λo=> {o with data:=.freed})[a]? with|some ⟨_,_,.freed,_⟩=>none|o=>o)=none;rw[Array.getElem?_modify,Zk rfl];cases j[a]? <;>rfl
def dG:∀ {S:List WD},(Fw S h).get? y=if y∈S then none else h.get? y
 | []=>rfl
 |a::S=>by
  by_cases q:a=y
  ·rw[q,qr,Zk (List.mem_cons_self)]
  ·rw[Heap.get?_update_other _ _ q,dG];by_cases k:y∈S
   ·rw[Zk k,Zk (List.mem_cons_of_mem _ k)]
   ·rw[Zi k,Zi λz=>(Zb z).elim (λe=>q e.symm) k]
def lz(S:List WD)(h:WH):(Fw S h).StaysIn h:=λb o e=>by
 rw[dG]at e;by_cases k:b∈S
 ·rw[Zk k]at e;show aw e
 ·rwa [Zi k]at e
def gX{U:List WD}(j:∀u∈U,GD h u)(P:∀u∈U,Q.get? u=none):∀ {y:List Env},(∀e∈y,e.scope.kind≠ .module/\∃a∈U,e.frame=some a)->h.FunFrames Q y
 | [],_=>trivial
 |e::y,H=>by
  show eX (H e (.head _)) λk a N D=>bC (j a N) λo ds n A i=>⟨k,bG a o D (P a N) A λZ q=>(by replace q:=i▸q;cases q),gX j P λx b=>H x (.tail _ b)⟩
def gJ(k:h.UpToSlots l)(P:GD h y):∀o,h.get? y=some o->∃D,l.get? y=some D/\B4 o D:=λo e=>by
 show bC P λSp ds n A Q=>?_;replace e:=A▸e;cases e;show zE (k y _ A λZ q=>(by replace q:=Q▸q;cases q)) λb a=>(j3 _ a b rfl)
def Cp.slots(r:Cp c O U H s){b:Nat}(N:0<b)(m:c.base.objs.size<=l.objs.size)(A:∀y o,y∉U->(O.F y≠none\/AD O y)->s.heap.get? y=some o->l.get? y=some o)
  (k2:∀y∈U,∀o,s.heap.get? y=some o->∃D,l.get? y=some D/\B4 o D):Cp c O U H {s with heap:=l,toks:=b}:=by
 have j:∀ {y o},O.F y=some o->y∉U:=λe q=>by rw[(r.ups _ q).1]at e;show aw e
 have n:∀ {y},AD O y->y∉U:=λe q=>(r.off _ e).2.1 q;show⟨λa o e=>A a o (j e) (.inl (by rw[e];show λz=>nomatch z)) (r.Av a o e),λi o h=>?_,r.sep,λx P=>?_,λu Z=>⟨(r.ups u Z).1,(r.ups u Z).2.step (k2 u Z)⟩,r.CZ,r.base,m,N⟩
 ·show aX (r.obs i o h) λa ft e Q=>(aU a ft e (Q.step (.refl _ _) λx P o k=>A x o (n (ay i a ft e P)) (.inr (ay i a ft e P)) k))
 ·show cV (r.off x P) λu v o w=>⟨u,v,yE o (A x o v (.inr P) w)⟩
def Rel.slots(r:Rel c O L J s){Z:Nat}(N:0<Z)(A:∀y o,y∉L.all->(O.F y≠none\/AD O y\/L.CN y)->s.heap.get? y=some o->l.get? y=some o)
  (k2:∀y∈L.all,∀o,s.heap.get? y=some o->∃D,l.get? y=some D/\B4 o D):Rel c O L J {s with heap:=l,toks:=Z}:=by
 have j:∀ {y o},O.F y=some o->y∉L.all:=λe q=>by replace e:=(r.nL _ (.inl q))▸e;show aw e
 have U:∀ {y},AD O y->y∉L.all:=λe q=>(r.off _ e).2.1 (.inl q);show⟨λa o e=>A a o (j e) (.inl (by rw[e];show λz=>nomatch z)) (r.Av a o e),λi o h=>?_,r.sep,λx P=>?_,r.nL,r.loc.step (.refl _ _) λy k=>?_,r.new,r.DY,r.CZ,r.base,r.Lb,N⟩
 ·show aX (r.obs i o h) λa ft e Q=>(aU a ft e (Q.step (.refl _ _) λx P o b=>A x o (U (ay i a ft e P)) (.inr (.inl (ay i a ft e P))) b))
 ·show cV (r.off x P) λu v o w=>⟨u,v,yE o (A x o (λq=>v (.inl q)) (.inr (.inl P)) w)⟩
 ·by_cases q:y∈L.all
  ·show k2 y q
  ·show av λo e=>A y o q (.inr (.inr k)) e
structure Qw (U:List WD) (O gh':Gh) (s:Ww) (es:List Env) (e:WD) (X:String) (s':Ww) (base:WH) (a0:Wv):Prop where
 P5:Heap.FlyingW base es e (.type X) a0 s'.heap
 base:∀y o,y∉U->(gh'.F y≠none\/AD gh' y\/(s.heap.get? y≠none/\¬AD O y))->s'.heap.get? y=some o->base.get? y=some o
def FY(c:Cx)(fa:WD)(d:Nat)(X:String)(spec:TA->Tx->Prop):Prop:=
 ∀U O H s A y Z u R,Cp c O U H s->Cw c.Aa c.w O Z u->Room U d A->A.frames=some y->spec u H->
  (∀l j e Q v,G9 false U O s l j->Cp c l U H j->Qw U O l s y e X j Q v->R (.error (.ref e)) j)->
  codeAny (model c.Aa c.w) A (.call (.ref fa) (Bj c Z [])) R s
def Jq(c:Cx)(f:Fm)(d:Nat)(X:String)(body:List WG)(pre:TF):Prop:=
 ∀O J s A (Q:Flow->Ww->Prop) (E:Wv->Ww->Prop),Rel c O f.L J s->Ay f.L d A->pre J->
  (∀l U j a e,Ext false f.L O s l j->Rel c l f.L (Bw J U) j->Heap.NewExc j.heap a e X->E (.ref e) {j with heap:=a})->wpAny (model c.Aa c.w) A (execs body f.env) Q E s
section
variable {fa:WD}{o:Obj}{fd:FuncData}{body:List WG}{X:String}{spec:TA->Tx->Prop}{pre:TF}{bind:TA->WJ->Option Tw}
def ng(T:TopRead c.Aa Sy mg mb c.base)
  (D:fd.scope.kind=.function) (Q:fd.globals=mainGlobals) (P:fd.builtins=builtinsNs) (hco:fd.scope.isCoroutine=false) (hgen:fd.scope.isGenerator=false)
  (ho:c.base.get? fa=some o) (Y:o.data=.func fd) (V:fd.body=.stmts body) (hcd:c.base.CodeRec fd.code fd.qualname) (l:∀x∈fd.scope.names,x.2≠ .cell)
  (hbind:∀O s vs F kws E,Holds O.F s.heap->(∀a o,c.base.get? a=some o->s.heap.get? a=some o)->Cw c.Aa c.w O vs F->bind F kws=some E->∃bs,BindsTo s fd (Bj c vs kws) bs/\(∀x∈bs,fd.scope.names.lookup x.1=some .local)/\
   ∀n v,Sx n E=some v->∃u,bs.reverse.lookup (c.nm n)=some u/\RV c.Aa c.w O u v)
  (hS:∀L U,Jq c (De fd L fa U false D Q P l) d X body pre)
  (W:∀F H,spec F H->Ab (bind F []) λE=>pre ⟨E,H,64,false⟩/\((lo H).all λp=>Dc p.2)=true/\lo H=H):FY c fa (d+1) X spec:=by
 intro U O H s A es vs F R r hv rm S hsp hp;obtain⟨E,hL0,hpre,hlow,hlo⟩:=ak (W F H hsp);have kb:=λa o e=>r.Av a o (r.base a o e);show bM (hbind O s vs F [] E r.Av kb hv hL0) λbs hB hloc hlk=>?_;have hs:s.heap.get? s.heap.objs.size=none:=aF (Zq _);show codeAny_call_def (by have:=rm.Fs;show YW this) (kb _ _ ho) Y (T.nolimit.keeps kb) ?_ V hB l hloc (λh₀ M hx=>?_) hco hgen D
 ·show dY hcd λcc oc vs' t k w e3 e4=>(cI cc oc vs' t k (kb _ _ w) e3 e4)
 ·have I:∀y,(De fd s.heap.objs.size fa U false D Q P l).L.CN y->y∈U\/s.heap.get? y=none:=λy G=>by
   rcases G with G|⟨_,e⟩
   ·show(Zb G).elim (λe=>.inr (e▸hs)) .inl
   ·show aw e
  have hl:B3 c O (De fd s.heap.objs.size fa U false D Q P l).L E h₀:=by
   show⟨aO _ M λn v e=>?_,λuu uu e=>aw e,λu Z=>?_,λZ=>?_⟩
   ·show aA (hlk n v e) λu k w=>(aO u (.inr ⟨λuu e=>aw e,k⟩) w)
   ·show(r.ups u Z).2.step (av (hx u))
   ·show bC (r.ups _ Z).2 λo uu uu e uu=>aw (hs.symm.trans e)
  have rm':Ay (De fd s.heap.objs.size fa U false D Q P l).L d (A.deeper (callEnv fd s.heap.objs.size fa)):=⟨rm.deeper D rfl,λenv e=>(by obtain rfl:=Zf e;show(yE es (by change A.frames.map _=_;rw[S];rfl)))⟩
  show hS s.heap.objs.size U O _ _ _ _ _ (r.enter (ZJ r.tk (ZR _ bs.length)) I r.G5 hx hl) rm' hpre λm L' j h' e x' C N=>?_;show zA (r.leave I hx x' C (show((lo (Bw (⟨E,H,64,false⟩:St) L').H).all λp=>Dc p.2)=true from hlow)) λB r3=>?_;have r3:Cp c m.low U H j:=hlo▸r3;show bA N.there λoe t he hcls hd=>?_;have hen:(Fw (De fd s.heap.objs.size fa U false D Q P l).L.all j.heap).get? e=none:=by
   rw[dG];split
   ·rfl
   ·show N.new
  have hff:h'.FunFrames (Fw (De fd s.heap.objs.size fa U false D Q P l).L.all j.heap) (callEnv fd s.heap.objs.size fa::es):=by
   show aA rm'.fr λes' k w=>?_;have:es'=callEnv fd s.heap.objs.size fa::es:=by
    have k:A.frames.map (callEnv fd s.heap.objs.size fa:: ·)=some es':=k;rw[S]at k;show(Zf k).symm
   rw[←this];show gX (λu Z=>(C.ups Z).2.step (av (N.keeps u))) (show∀u∈(De fd s.heap.objs.size fa U false D Q P l).L.all,(Fw (De fd s.heap.objs.size fa U false D Q P l).L.all j.heap).get? u=none from λu Z=>by rw[dG,Zk Z]) w
  show wpAny_leaving_firstW (s:= {j with heap:=h'}) (by change A.frames.map _=_;rw[S];rfl) hff rfl he (show(Fw (De fd s.heap.objs.size fa U false D Q P l).L.all j.heap).StaysIn h' from λb o e=>N.keeps b o (lz _ _ b o e)) hen hd rfl rfl λh'' hL=>?_;show bY hL λk1 zq1 k3 k4=>?_;obtain⟨_,_,k2⟩:=zq1;have kU:∀y∈U,∀o,j.heap.get? y=some o->∃o',h''.get? y=some o'/\B4 o o':=λy G o e=>by
   have hfr:=(C.ups (List.mem_cons_of_mem _ G)).2;show gJ (λb o e M=>k4 b o (N.keeps b o e) M) hfr o e
  have i:∀y o,y∉U->y≠s.heap.objs.size->j.heap.get? y=some o->(Fw (De fd s.heap.objs.size fa U false D Q P l).L.all j.heap).get? y=some o:=λy o h1 h2 e=>by
   rw[dG];show(Zi λz=>(Zb z).elim h2 h1).trans e
  have hne:∀y,(m.low.F y≠none\/AD m.low y\/(s.heap.get? y≠none/\¬AD O y))->y≠s.heap.objs.size:=λy h q=>by
   rcases h with h|h|h
   ·show h (q▸C.nL _ Loc.cx)
   ·show(C.off y (bL h)).2.1 (q▸Loc.cx)
   ·show h.1 (q▸hs)
  have r4:Cp c m.low U H {j with heap:=h'',toks:=j.toks}:=r3.slots C.tk ?_ (λy o h1 h2 e=>k1 y o (i y o h1 (hne y (h2.imp_right .inl)) e)) kU;show hp m.low _ e _ t ⟨B.le,λy o e Z M=>?_,λy G o e=>?_,B.fp,B.fF,B.gens,B.os,B.drawn⟩ r4 ⟨⟨k1,hen,k2,hcls▸k3⟩,λy o Z hc e=>?_⟩
  ·show k1 y o (i y o Z (λq=>(by rw[q,hs]at e;show aw e)) (B.keep y o e Z M))
  ·show iX (B.EN y G o e) λSp k sl zq3=>?_;subst zq3;show iX (kU y G _ k) λSo w sl' zq3=>?_;subst zq3;show(j3 _ w sl' rfl)
  ·have ex:∃Sp,j.heap.get? y=some Sp:=by
    rcases hc with h|h|h
    ·cases q:m.low.F y with
     |none=>show(h q).elim
     |some Sp=>show(yE Sp (r3.Av y Sp q))
    ·show(r3.off y h).2.2
    ·cases q:s.heap.get? y with
     |none=>show(h.1 q).elim
     |some Sp=>show(yE Sp (B.keep y Sp q Z h.2))
   show zE ex λSp k=>?_;have w:=i y Sp Z (hne y hc) k;rw[w];show(k1 y Sp w).symm.trans e
  ·show zE C.dT λSp k=>aA (gJ (λb o e M=>k4 b o (N.keeps b o e) M) (C.ups (List.mem_cons_self)).2 Sp k) λSo w uu=>Zh r.G5 (Yo (Yk w))
end
structure Js (L:Loc) (O gh':Gh) (s:Ww) (es:List Env) (e:WD) (X:String) (s':Ww) (base:WH) (a0:Wv):Prop where
 P5:Heap.FlyingW base es e (.type X) a0 s'.heap
 base:∀y o,y∉L.all->(gh'.F y≠none\/AD gh' y\/(s.heap.get? y≠none/\¬AD O y))->s'.heap.get? y=some o->base.get? y=some o
def ade(H:Tx)(i:Nat):Sx i (lo H++hi H)=Sx i H:=by
 rw[di,eg,iJ];by_cases q:i<64
 ·rw[Zk q,Zk q];cases Sx i H<;>rfl
 ·rw[Zi q,Zi q];rfl
def sy{X:String}{D:TA->Tx->Prop}(C:FY c fa d X D)(r:Rel c O L J s)(H:Room L.all d A)(P:A.frames=some es)(W:Cw c.Aa c.w O Z u)
  (T:u.all FD=true) (B:((lo J.H).all λp=>Dc p.2)=true) (v:D u (lo J.H))
  (M:∀l k e Q t,Ext false L O s l k->Rel c l L J k->Js L O l s es e X k Q t->R (.error (.ref e)) k):codeAny (model c.Aa c.w) A (.call (.ref fa) (Bj c Z [])) R s:=by
 show C L.all O.low (lo J.H) s A es Z u R (r.toC B) (va W T) H P v λl k e Q t x S E=>cu (r.ofC x S) λr2 F l2=>M _ k e Q t F (r2.nO (ade J.H)) ⟨E.P5,λy o Y G e=>E.base y o Y ?_ e⟩;rcases G with h|⟨j,b,m,U,h⟩|h
 ·show .inl h
 ·by_cases q:j<64
  ·have U:(if j<64 then l.φ j else O.φ j)=some (b,m):=U;replace U:=(Zk q)▸U;show .inr (.inl (ay j b m U h))
  ·have U:(if j<64 then l.φ j else O.φ j)=some (b,m):=U;replace U:=(Zi q)▸U;show cV (r.off y (ay j b m U h)) λI I Sp w=>.inr (.inr ⟨by rw[w];show Option.some_ne_none _,λ⟨i,a,ft,n,N⟩=>?_⟩);show zA (cn n) λhi n=>r.sep i j a ft b m n U (λz=>q (z▸hi)) y N h
 ·show .inr (.inr ⟨h.1,λz=>h.2 (bL z)⟩)
def Js.land{e:WD}{X:String}{Q:WH}{v:Wv}(F:Js L O l s es e X j Q v)(r:Rel c O L J s)(x:Ext false L O s l j)(u:Rel c l L Z j)(b:Q.StaysIn h6)(k2:j.heap.UpToSlots h6):
  Rel c l L Z {j with heap:=h6}/\Ext false L O s l {j with heap:=h6}:=by
 have k:∀y∈L.all,∀o,j.heap.get? y=some o->∃m,h6.get? y=some m/\B4 o m:=λy P=>gJ k2 (u.ups P).2;show⟨u.slots u.tk (λy o t N e=>b y o (F.base y o t ?_ e)) k,
  ⟨x.le,λy o e D i=>b y o (F.base y o (λq=>D (.inl q)) (.inr (.inr ⟨by rw[e];show Option.some_ne_none _,i⟩)) (x.keep y o e D i)),λy P o e=>?_,x.fp,x.fF,x.gens,x.os,x.drawn⟩⟩
 ·rcases N with h|h|h
  ·show .inl h
  ·show .inr (.inl h)
  ·show .inr (.inr ((show∀y,L.CN y->s.heap.get? y≠none/\¬AD O y from λy h=>⟨λz=>(by show zE (r.there h) λo e=>?_;replace e:=z▸e;show aw e),λz=>(r.off y z).2.1 h⟩) y h))
 ·show iX (x.EN y P o e) λSp U w a=>?_;subst a;show iX (k y (.tail _ P) _ U) λSo n A a=>?_;subst a;show(j3 _ n A rfl)
structure Hw (mg mb:Wu->TM) (x:Wu) (X:String):Prop where
 DH:(x==("__debug__":Wu))=false
 LN:mg x=none
 h3:mb x=some (.type X)
def kY(Y:Ctx c K p Sy mg mb){X:String}(N:Hw mg mb x X)(D:B8 f.cs x=true)(r:Rel c O f.L J s)(h:Q (.type X) s):wpAny (model c.Aa c.w) A (eval (.Name x j) f.env) Q E s:=
 XO f.kind (cz D) (Calls.loadGlobal_builtin (by rw[f.glob];show Y.T.g.keeps r.bN) N.LN (by rw[f.blt];show Y.T.b.keeps r.bN) N.h3 h) N.DH
structure Ld (X:String):Prop where
 exc:isSubtype (.type X) (.type "BaseException")=pure true
 nt:isSubtype (.type ((Manifest.find? X).elim "type" λy=>y.metatype)) (.type "tuple")=pure false
 sub:isSubtype (.type X) (.type X)=pure true
def wc(Y:Ctx c K p Sy mg mb)(YG:FX c K g)
  (hb:AU o=true) (G:(apos.endLine==pos.line)=true) (hn:c.nm n=nm) (ho:SE c g f d xo o) (F:BU a=true) (ha:SE c g f d x a) (hfn:g.fn fa=true) (hm:∀J,C4 g w n [] J=some (.fn fa w))
  (r:Rel c O f.L J s) (rm:Ay f.L d A) (hw:∀k,k w J->BI g xo J k) (hev:BI g x J k)
  (hp:∀l J' j u v y,Ext false f.L O s l j->Rel c l f.L J' j->RV c.Aa c.w l u w->RV c.Aa c.w l v y->k y J'->codeAny (model c.Aa c.w) A (.call (.ref fa) (Bj c [u,v] [])) (λr j=>match r with| .ok (.ret v)=>Q v j| .ok _=>False| .error e=>E e j) j):
  wpAny (model c.Aa c.w) A (eval (.Call (.Attribute o nm apos) [a] [] pos) f.env) Q E s:=by
 have hr:Row c g f d (.cons x .nil) ([a]++([]:List WI).map (·.value)):=.cons F ha .nil;have m:Mc p []=some []:=rfl;rw[arm_eval_Call _ _ _ _ _ _ _,cQ hb, ←hn];show Zn (ZT (ho O J s A (λv s=>v=w/\s=J) _ r rm (hw _ ⟨rfl,rfl⟩) λgh₁ I s₁ ov oa W C ho S=>?_) (λb b h=>h) λb b h=>h.elim);show zA S λz zq1=>?_;clear hw S;subst z zq1;show bY (fE Y pos f.env m) λa1 a2 a3 a4=>?_;have F:(backTo pos (starEach [a] f.env)).all (λx=> !x.1)=true:=by
  have:=a6 pos f.env hr.cZ;rw[List.any_eq_false]at this;rw[propext Zv];intro y hy;simpa using this y hy
 have H:methodCallForm ([a].length+([]:List WI).length) (backTo pos (starEach [a] f.env)) (backToKw pos (keywordEach [] f.env))=true:=by
  unfold methodCallForm;rw[F,a1];simp only[XB,Yu,Zj,ZW];split<;>omega
 have hpos:methodCallPos true o f.env apos pos=pure pos:=by unfold methodCallPos;simp[G]
 unfold methodCall;show H▸(Zn (Yz (Zn (ZY (ZT (mo Y.X YG C ho (hm _) λgh₂ s₂ fv first N D hmr=>?_) (λb b h=>h) λb b h=>h.elim)))));show Zn (X7 hpos ?_);have i:((backTo pos (starEach [a] f.env)).any (·.1)||(backToKw pos (keywordEach [] f.env)).any (·.1.isNone))=false:=by(show(a6 pos f.env hr.cZ).symm▸ ?_;show a2.symm▸ ?_);rfl
 show eX hmr λz u zq2 hu=>?_;clear hmr;subst z zq2;show callWith_of (P:=λh=>K.In h/\fnIn K fa=true) i (λh hh=>keeps_K (jt hh.2) h hh.1) (ZT (bS Y m hr D rm (show SU g (.cons x .nil) I (one k) from hev) λZ q T vs xs R U B M m=>⟨⟨Y.X.keeps B.bN,YG.fn _ hfn⟩,?_⟩) (λb b h=>h) λb b h=>h.elim);obtain⟨y,rfl,m⟩:∃y,xs=[y]/\k y q:=by
  induction xs using Re with
  |nil=>show m.elim
  |cons y t=>
   induction t using Re with
   |nil=>show(aO y rfl m)
   |cons _ _=>show m.elim
 obtain⟨v,r,rfl,hv,hr'⟩:∃v r,vs=v::r/\RV c.Aa c.w Z v y/\r=[]:=by
  cases M with
  |cons h1 h2=>cases h2;show(a8 _ _ rfl h1 rfl)
 clear R M;subst hr';have:=hp Z q T u v y ((W.trans r C N).trans r D U) B (hu.mono U.le) hv m;rw[aR]at this⊢;show XI this
def xP(Y:Ctx c K p Sy mg mb)(YG:FX c K g)(hO:f.own=true)(htp:f.tp=some f.env)(hfm:f.env.frame=some f.env.locals){fa lb:Nat}{XX:String}{rspec:TA->Tx->Prop}(C:AB false c fa d (g.call fa))(CX:FY c fa d XX rspec)(hX:Ld XX){Sq xn nm:Wu}
  (hxn:Hw mg mb xn XX) (hxg:B8 f.cs xn=true) {o a:WE} {xo xa:X} {x2:S} {n ix:Nat} {st2:WG} {q l p1 q1 np p3 p4 q3 hpos pos:Pos} {kd:Nat} {w:V} (hb:AU o=true) (B:(q.endLine==l.line)=true) (hn:c.nm n=nm) (ho:SE c g f d xo o) (hst:BU a=true) (ha:SE c g f d xa a) (hfn:g.fn fa=true) (hm:∀J,C4 g w n [] J=some (.fn fa w))
  (hw:∀J k,k w J->BI g xo J k) (hl:BH f.cs Sq=true) (hc:p.code Sq=some ix) (h2:SS c g f d x2 st2) (Nrm Rse:V->St->TB->Prop)
  (hN:∀v s k,Nrm v s k->BL g fa [w,v] [] s λv' s2=>ex g x2 (Bw s2 (put ix v' s2.L)) λG s=>G=.AZ/\k .AZ s)
  (hR:∀v s k,Rse v s k->([w,v].all FD=true/\((lo s.H).all λp=>Dc p.2)=true)/\rspec [w,v] (lo s.H)/\k .AZ (Bw s (put ix (.c .Ak) s.L)))
  (t:∀J k,g.loop lb [] J k->BI g xa J λv s=>Nrm v s k\/Rse v s k):
  SS c g f d (.prim lb) (.Try [.Assign [.Name Sq p1] (.Call (.Attribute o nm q) [a] [] l) q1,st2] [.ExceptHandler (some (.Name xn np)) none [.Assign [.Name Sq p3] (.Constant .none kd p4) q3] hpos] [] [] pos):=by
 intro O J s A k Q r R hev hp;show wpAny_Try_except (Xu (wpAny_Assign_Name ?_ (eZ rfl _ _ _)));show wc Y YG hb B hn ho hst ha hfn hm r R (hw J) (t J k hev) λgh₁ J₁ s₁ u v y z U hu hv b=>?_;rcases b with b|b
 ·show eJ C U R.toRoom (.cons hu (.cons hv .nil)) (hN _ _ _ b) λj J₂ s₂ v' y' N D hv' b=>ZT (cN Y (.inl ⟨hO,hl⟩) hc D hv' λm i P=>?_) (λZ Z h=>h) λZ Z h=>h.elim;show Xu (ZT (h2 j _ m A _ _ P R b λx I T G y x₄ r₄ hfl b=>?_) (λZ Z h=>h) λZ Z h=>h.elim);obtain⟨rfl,b⟩:=b;subst hfl;show X3 (X3 (hp x I T .next .AZ ?_ r₄ rfl b));show(((z.trans r U N).trans r D i).trans r P x₄)
 ·show cu (hR _ _ _ b) λzq0 hsp b=>?_;obtain⟨l1,l2⟩:=zq0;show zE (R.top _ htp) λouter M=>sy CX U R.toRoom M (.cons hu (.cons hv .nil)) l1 l2 hsp λj s₂ e base a0 N D G=>wpAny_looks_onW M hfm G.P5 λh4 E sm4=>wpAny_landsW E λh5 F W=>zA (G.land U N D F.1 (sm4.trans W)) λr5 Z=>aA F.there λob hob H=>wpAny_handleBy_builtin hX.exc hX.nt hX.sub (kY Y hxn hxg r5 ⟨rfl,aO ob hob H,?_⟩);rw[Zk rfl];show lands_againW F λh6 fl6 sm6=>zA (G.land U N D fl6.1 ((sm4.trans W).trans sm6)) λr6 x6=>Xu (wpAny_Assign_Name (wpAny_Constant_none ?_) (eZ rfl _ _ _));show ZT (cN Y (.inl ⟨hO,hl⟩) hc r6 (dq .Ak) λm i P=>?_) (λZ Z h=>h) λZ Z h=>h.elim;show X3 (hp j _ m .next .AZ ?_ P rfl b);show((z.trans r U x6).trans r r6 i).w
end
end Mine.A
namespace Mine.Head
section
abbrev pw:WA:=PySem.Challenge.pw_te0042_02
noncomputable def stmts:List WG:=pw.main.body
noncomputable def st(i:Nat):WG:=stmts.getD i default
def Jd:WG->List WG
 | .ClassDef _ _ _ b _ _ _ _ _ _ _=>b
 |_=>[]
def Ss(i j:Nat):WG:=(Jd (st i)).getD j default
abbrev S(s:String)(t:Nat):Wv:=.str (Str.ofString s) t
abbrev R(a:Nat):Wv:=.ref a
def E(P:Wx)(s:String)(t:Nat)(v:Wv):WC:=⟨PyData.keyHash P (Str.ofString s),.str (Str.ofString s) t,v⟩
def EI(h i:Int)(t:Nat)(v:Wv):WC:=⟨h,.int i t,v⟩
noncomputable def tp(l:TN):Obj:= {cls:=.type "tuple",data:=.seq l.toArray 0}
def Sw(l:TN)(n:Nat):Obj:= {cls:=.type "list",data:=.seq l.toArray n}
noncomputable def tb(l:TN):Obj:= {cls:=.none,data:=.fields l.toArray}
def SW(l:List WC)(n:Nat):Obj:= {cls:=.type "dict",data:=.dict l.toArray n}
def EX(d:WG):DefRec:=match d with
 | .FunctionDef name args body _ _ _ scope _ _ pos=>⟨name,args,body,scope,pos⟩
 |_=>⟨"",⟨[],[],none,[],[],none,[]⟩,[],⟨.function,[],false,false,[]⟩,default⟩
def P4(d:WG)(q:Str)(j u v s cd l:Wv):Obj:= {cls:=.type "function",data:=.func {name:=(EX d).name,qualname:=q,params:=(EX d).params,body:=.stmts (EX d).body,scope:=(EX d).scope,globals:=3,closure:=[],defaults:=j,kwdefaults:=u,doc:=v,pyModule:=s,code:=cd,closureTuple:=l}}
def Pz(d:WG)(q:Str):Obj:= {cls:=.none,data:=.func {name:=(EX d).name,qualname:=q,params:=(EX d).params,body:=.stmts (EX d).body,scope:=(EX d).scope,globals:=0,closure:=[],defaults:=.none,kwdefaults:=.none}}
abbrev fn(d:WG)(q:String):=P4 d (Str.ofString q)
abbrev pr(d:WG)(q:String):=Pz d (Str.ofString q)
def S6:Nat->TV->BT
 |0,_=>.nil
 |_+1,[]=>.nil
 |n+1,o::r=>.node o (S6 n (odds r)) (S6 n (evens r))
where
 odds:TV->TV
  | []=>[]
  | [a]=>[a]
  |a::_::r=>a::odds r
 evens:TV->TV
  | []=>[]
  | [_]=>[]
  |_::b::r=>b::evens r
def Sk(l:TV):List (Nat×Obj)->TV
 | []=>l
 |(i,o)::r=>Sk (l.set i o) r
abbrev M0:Wv:=S "html5lib._tokenizer" 827
abbrev M1:Wv:=S "html5lib._inputstream" 564
abbrev M2:Wv:=S "law_te0042_02" 1458
abbrev M3:Wv:=S "html5lib._trie.py" 738
abbrev M4:Wv:=S "__main__" 164
abbrev I(i:Nat)(t:Nat):Wv:=.int (Int.ofNat i) t
def ER(P:Wx)(s:String)(t v:Nat):WC:=E P s t (R v)
def ES(P:Wx)(s:String)(t:Nat)(v:String)(u:Nat):WC:=E P s t (S v u)
def EB(P:Wx)(s:String)(t:Nat):WC:=E P s t (.builtin s)
def ET(P:Wx)(s:String)(t:Nat):WC:=E P s t (.type s)
def Jx(d:WG):List Str:=((EX d).scope.names.filter λp=>p.2== .local).map (·.1)
def Lh:List Str->Nat->TN
 | [],_=>[]
 |s::r,t=>.str s t::Lh r (t+1)
def Py(c:String)(d:WG):Str:=⟨(Str.ofString c).cps++(EX d).name.cps⟩
def Sr(d:WG)(c:String)(a x p:Nat)(j m:Wv):TV:=
 [Pz d (Py c d),⟨.type "code",none,.fields [.str (EX d).name a,.str (Py c d) (a+1),S "/claim/cut.py" (a+2),I (EX d).pos.line 0,I (EX d).params.args.length 0,I 0 0,I 0 0,I 3 0,R x,.bool true,I 181 0,R (x+1),.none,R (x+2),R (x+3),R (x+4),I p 0,I (EX d).pos.line 0,S "/claim/cut.py" (p+1)].toArray,[].toArray⟩,P4 d (Py c d) j .none .none m (R (x+5)) .none]
def HO(f:Nat->WG)(c:String)(m:Wv):Nat->Nat->Nat->Nat->TV
 |0,_,_,_=>[]
 |n+1,j,a,x=>[tp [],tb [],tp (Lh (Jx (f j)) (a+3)),tp []]++(Sr (f j) c a x (a+3+(Jx (f j)).length) .none m++HO f c m n (j+1) (a+6+(Jx (f j)).length) (x+7))
def LU(P:Wx)(f:Nat->WG):Nat->Nat->Nat->Nat->List WC
 |0,_,_,_=>[]
 |n+1,j,a,x=>⟨PyData.keyHash P (EX (f j)).name,.str (EX (f j)).name (a+5+(Jx (f j)).length),R (x+6)⟩::LU P f n (j+1) (a+6+(Jx (f j)).length) (x+7)
def DP(r:Nat):Obj:=⟨.type "StopIteration",none,.fields [R r,.none,.none,.none,.bool false,.none].toArray,[].toArray⟩
def Po(n:Nat):Obj:=⟨.type "str_ascii_iterator",none,.fields [.none,.int n 0].toArray,[].toArray⟩
def Mw(a b c:Nat)(v:Wv):Obj:=⟨.type "frame",none,.plain,[some (R a),some (R b),some (R c),none,some v,none,some (R 0)].toArray⟩
def Oj(s:String)(v:Wv):Obj:=⟨.type "builtin_function_or_method",none,.fields [.builtin s,v].toArray,[].toArray⟩
def MA(s:String)(a l x b:Nat):Obj:=⟨.type "code",none,.fields [S s a,S s (a+1),S "/claim/cut.py" (a+2),.int l 0,.int 0 0,.int 0 0,.int 0 0,.int 0 0,R x,.bool false,.int b 0,R (x+1),.none,.none,.none,.none,.int (a+3:Nat) 0,.int l 0,S "/claim/cut.py" (a+4)].toArray,[].toArray⟩
def OU(a r:Nat):TV:=[⟨.type "getset_descriptor",none,.fields [S "__dict__" a,R r,.builtin "function.__dict__",.builtin "function.__dict__#set"].toArray,[].toArray⟩,⟨.type "getset_descriptor",none,.fields [S "__weakref__" (a+2),R r,.builtin "ExceptionGroup.__weakref__",.none].toArray,[].toArray⟩,⟨.type "super",none,.fields [R r,R r,R r].toArray,[].toArray⟩,Oj "object.__init_subclass__" (R r)]
def Jv{y:Type}(f:String->Nat->y)(d:Nat):List String->Nat->List y
 | [],_=>[]
 |s::r,t=>f s t::Jv f d r (t+d)
def ED(P:Wx)(k:String)(t:Nat)(v:String):WC:=E P k t (S v (t+1))
def MW{y:Type}(f:String->Nat->String->y)(d:Nat):List String->Nat->List y
 |k::v::r,t=>f k t v::MW f d r (t+d)
 |_,_=>[]
def QL:WJ->Nat->TN
 | [],_=>[]
 |c::r,t=>.str ⟨[c].toArray⟩ t::QL r (t+1)
def MV(s:String):=QL (Str.ofString s).cps.toList
def QJ:WJ->Nat->Nat->List WC
 | [],_,_=>[]
 |c::r,n,t=>EI n n t (.str ⟨[c].toArray⟩ (t+1))::QJ r (n+1) (t+3)
def QK(s:String):=QJ (Str.ofString s).cps.toList
def KP(f:Nat->WG)(j a:Nat):Nat->TN
 |0=>[]
 |n+1=>[I (EX (f j)).pos.line 0,I 4 0,R a]++KP f (j+1) (a+7) n
def CE(s:String)(r n a t u:Nat):Obj:=⟨.type "type",none,.cls {name:=s,bases:=[.type "object"],mro:=[R r,.type "object"],ns:=n,qualname:=s,slotNames:=[],subclasses:=[]},[some (R a),none,some (S s t),some (S s u),some (.builtin "object.__new__"),some (.bool true)].toArray⟩
def Sv(d:WG)(a x p:Nat)(m:Wv):TV:=
 [tp [],tb [],Pz d (EX d).name,⟨.type "code",none,.fields [.str (EX d).name a,.str (EX d).name (a+1),S "/claim/cut.py" (a+2),I (EX d).pos.line 0,I (EX d).params.args.length 0,I 0 0,I 0 0,I 3 0,R x,.bool true,I 181 0,R (x+1),.none,.none,.none,R (x+2),I p 0,I (EX d).pos.line 0,S "/claim/cut.py" (p+1)].toArray,[].toArray⟩,P4 d (EX d).name .none .none .none m (R (x+3)) .none]
def PB:TN:=(Jv S 3 ["AMP","AMP;","Eacute","Eacute;","Mopf;","ac;","acE;","acute","acute;","amp","amp;","ang;","angle;","bne;","copy","copy;","eacute","eacute;","frac12","frac12;","gt","gt;","lt","lt;","nbsp","nbsp;","not","not;","notin;","notni;","para","para;","parallel;","quot","quot;"] 299++Jv S 2 ["sup1","sup1;","sup2","sup2;","sup;","times","times;","timesb;"] 403)
def QY:TN:=(MV "abcdefghijklmnopqrstuvwxyzABCDEFGHIJKLMNOPQRSTUVWXYZ" 204)
def QX:TN:=(MV "0123456789abcdefABCDEF" 270)
def Ra(P:Wx):List WC:=(MW (ED P) 3 ["eacute;","é","frac12","½","frac12;","½","gt",">","gt;",">","lt","<","lt;","<","nbsp","\u00a0","nbsp;","\u00a0","not","¬","not;","¬","notin;","∉","notni;","∌","para","¶","para;","¶","parallel;","∥","quot","\""] 350)
def Q9(P:Wx):List WC:=(QK "\u008f\u0090‘’“”•–—˜™š›œ\u009džŸ" 143 480)
def Q8(P:Wx):List WC:=[E P "__firstlineno__" 623 (.int 29 622),E P "_defaultChunkSize" 625 (.int 10240 624)]++(LU P (Ss 15) 6 1 626 92++[ER P "readChunk" 690 141,ER P "characterErrorsUCS4" 699 148,ER P "charsUntil" 711 156,ER P "unget" 719 163,ER P "__static_attributes__" 730 164])
def Q7(P:Wx):List WC:=[E P "__firstlineno__" 763 (.int 144 762)]++(LU P (Ss 18) 6 0 764 186++[ER P "__static_attributes__" 819 228])
def Q6(P:Wx):List WC:=[E P "__firstlineno__" 855 (.int 182 854),ER P "__init__" 864 261,ER P "__iter__" 871 268,ER P "consumeNumberEntity" 886 275,ER P "consumeEntity" 901 283]++(LU P (Ss 21) 68 4 902 284++[ER P "__static_attributes__" 1450 760])
def SI(P:Wx):List WC:=[E P "__doc__" 166 .none,E P "__package__" 167 .none,E P "__loader__" 168 (.builtin "__main__.__loader__#opaque"),E P "__spec__" 169 .none,ER P "__annotations__" 170 6,ER P "__builtins__" 171 4,ES P "__file__" 173 "/claim/cut.py" 172,E P "__cached__" 174 .none,ER P "_wall" 193 21,E P "EOF" 196 .none,ER P "spaceCharacters" 202 22,ER P "asciiLetters" 256 27,ER P "digits" 268 32,ER P "hexDigits" 292 37,ER P "asciiLower" 298 42,ER P "entities" 428 43,ER P "replacementCharacters" 531 46,ER P "tokenTypes" 556 48,ER P "tagTokenTypes" 563 49,ER P "Text" 604 73,ER P "_is_invalid" 611 84,ER P "HTMLUnicodeInputStream" 737 166,ER P "bisect_left" 751 178,ER P "Trie" 826 230,ER P "entitiesTrie" 843 236,ER P "HTMLTokenizer" 1457 762,ER P "_law_PIECES" 1492 767,ER P "_law_KINDS" 1498 774,ER P "_law_STOPS" 1504 781,ER P "_law_BLANKS" 1510 788,ES P "_law_LETTERS" 1512 "abcdefghijklmnopqrstuvwxyzABCDEFGHIJKLMNOPQRSTUVWXYZ" 1511,ER P "_law_told" 1519 795,ER P "_law_chars" 1527 802,ER P "_law_reference" 1540 809,ER P "_law_letters" 1548 816,ER P "_law_between" 1554 821,ER P "_law_markup" 1570 828,ER P "_law_stop" 1582 835,ER P "law" 1588 840]
def Q3:TN:=[I 1 0,I 0 0,R 20,I 10 0,I 0 0,R 41,I 17 0,I 0 0,R 55,I 27 0,I 0 0,R 83,I 29 0,I 0 0,R 90,I 134 0,I 0 0,R 177,I 144 0,I 0 0,R 184,I 182 0,I 0 0,R 252,I 1291 0,I 0 0,R 773,I 1293 0,I 0 0,R 780,I 1295 0,I 0 0,R 787,I 1298 0,I 0 0,R 794,I 1300 0,I 0 0,R 801,I 1302 0,I 0 0,R 808,I 1318 0,I 0 0,R 815,I 1322 0,I 0 0,R 820,I 1343 0,I 0 0,R 827,I 1367 0,I 0 0,R 834,I 1375 0,I 0 0,R 839]
noncomputable def fin(P:Wx):TV:=
 [SW ([ES P "__name__" 1 "builtins" 160,E P "__doc__" 2 (.builtin "builtins.__doc__:str#opaque"),E P "__package__" 3 (.builtin "builtins.__package__:str#opaque"),E P "__loader__" 4 (.builtin "builtins.__loader__:shared#opaque"),E P "__spec__" 5 (.builtin "builtins.__spec__#opaque")]++(Jv (EB P) 1 ["__build_class__","__import__","abs","all","any","ascii","bin","breakpoint","callable","chr","compile","delattr","dir","divmod","eval","exec","format","getattr","globals","hasattr","hash","hex","id","input","isinstance","issubclass","iter","aiter","len","locals","max","min","next","anext","oct","ord","pow","print","repr","round","setattr","sorted","sum","vars"] 6++([E P "None" 50 .none,E P "Ellipsis" 51 .ellipsis,E P "NotImplemented" 52 .notImplemented,E P "False" 53 (.bool false),E P "True" 54 (.bool true)]++(Jv (ET P) 1 ["bool","memoryview","bytearray","bytes","classmethod","complex","dict","enumerate","filter","float","frozenset","property","int","list","map","object","range","reversed","set","slice","staticmethod","str","super","tuple","type","zip"] 55++([E P "__debug__" 81 (.bool true)]++(Jv (ET P) 1 ["BaseException","BaseExceptionGroup","Exception","GeneratorExit","KeyboardInterrupt","SystemExit","ArithmeticError","AssertionError","AttributeError","BufferError","EOFError","ImportError","LookupError","MemoryError","NameError","OSError","ReferenceError","RuntimeError","StopAsyncIteration","StopIteration","SyntaxError","SystemError","TypeError","ValueError","Warning","FloatingPointError","OverflowError","ZeroDivisionError","BytesWarning","DeprecationWarning","EncodingWarning","FutureWarning","ImportWarning","PendingDeprecationWarning","ResourceWarning","RuntimeWarning","SyntaxWarning","UnicodeWarning","UserWarning","BlockingIOError","ChildProcessError","ConnectionError","FileExistsError","FileNotFoundError","InterruptedError","IsADirectoryError","NotADirectoryError","PermissionError","ProcessLookupError","TimeoutError","IndentationError","_IncompleteInputError","IndexError","KeyError","ModuleNotFoundError","NotImplementedError","PythonFinalizationError","RecursionError","UnboundLocalError","UnicodeError","BrokenPipeError","ConnectionAbortedError","ConnectionRefusedError","ConnectionResetError","TabError","UnicodeDecodeError","UnicodeEncodeError","UnicodeTranslateError","ExceptionGroup"] 82++[E P "EnvironmentError" 151 (.type "OSError"),E P "IOError" 152 (.type "OSError"),EB P "open" 153,E P "quit" 154 (.builtin "builtins.quit#opaque"),E P "exit" 155 (.builtin "builtins.exit#opaque"),E P "copyright" 156 (.builtin "builtins.copyright#opaque"),E P "credits" 157 (.builtin "builtins.credits#opaque"),E P "license" 158 (.builtin "builtins.license#opaque"),E P "help" 159 (.builtin "builtins.help#opaque")])))))) 159,SW [ER P "builtins" 162 4,ER P "__main__" 163 5] 2,(⟨.none,none,.dict [].toArray 0,[].toArray⟩:Obj),SW (E P "__name__" 165 M2::SI P) 40,(⟨.type "module",some 0,.plain,[].toArray⟩:Obj),(⟨.type "module",some 3,.plain,[].toArray⟩:Obj),SW [] 0,tp [],tb [],MA "<module>" 176 1 7 175,Mw 9 3 3 M4,tp [],tb Q3,MA "<module>" 182 1 11 181,Mw 13 3 3 M4]++
 (HO st "" M4 1 0 187 15++
 (([tp (MV "\x09\x0a\x0c \x0d" 197),Sw QY 52,Po 52,tp [],DP 25,tp QY,Sw (MV "0123456789" 258) 10,Po 10,tp [],DP 30,tp (MV "0123456789" 258),Sw QX 22,Po 22,tp [],DP 35,tp QX]++(Sv (st 7) 293 38 296 (S "html5lib.constants" 194)++[SW ((MW (ED P) 3 ["AMP","&","AMP;","&","Eacute","É","Eacute;","É","Mopf;","𝕄","ac;","∾","acE;","∾̳","acute","´","acute;","´","amp","&","amp;","&","ang;","∠","angle;","∠","bne;","=⃥","copy","©","copy;","©","eacute","é"] 299)++(Ra P++(MW (ED P) 2 ["quot;","\"","sup1","¹","sup1;","¹","sup2","²","sup2;","²","sup;","⊃","times","×","times;","×","timesb;","⊠"] 401))) 43,SW (Ra P) 17,SW (MW (ED P) 2 ["quot;","\"","sup1","¹","sup1;","¹","sup2","²","sup2;","²","sup;","⊃","times","×","times;","×","timesb;","⊠"] 401) 9,SW (([EI 0 0 429 (S "�" 430),EI 13 13 432 (S "\x0d" 433)]++QK "€\u0081‚ƒ„…†‡ˆ‰Š‹Œ\u008dŽ" 128 435)++Q9 P) 34,SW (Q9 P) 17,SW [E P "Doctype" 532 (.int 0 533),E P "Characters" 534 (.int 1 535),E P "SpaceCharacters" 536 (.int 2 537),E P "StartTag" 538 (.int 3 539),E P "EndTag" 540 (.int 4 541),E P "EmptyTag" 542 (.int 5 543),E P "Comment" 544 (.int 6 545),E P "ParseError" 546 (.int 7 547)] 8,tp [I 3 539,I 4 541,I 5 543],tp [.type "object"],Oj "type.__prepare__" (.type "type"),SW [E P "__module__" 573 M1,ES P "__qualname__" 575 "Text" 574,E P "__firstlineno__" 577 (.int 17 576),ER P "__init__" 585 63,ER P "read" 594 70,ER P "__static_attributes__" 597 71] 6,tp [],tb (KP (Ss 13) 0 62 2),MA "Text" 568 17 53 181,Mw 55 3 52 M1]))++
 (HO (Ss 13) "Text." M1 2 0 578 57++
 ([tp [S "place" 595,S "text" 596],SW [E P "__module__" 573 M1,E P "__firstlineno__" 577 (.int 17 576),ER P "__init__" 585 63,ER P "read" 594 70,ER P "__static_attributes__" 597 71,ER P "__dict__" 599 74,ER P "__weakref__" 601 75,E P "__doc__" 602 .none] 4,CE "Text" 73 72 50 566 574]++
 (OU 598 73++
 (HO st "" M1 1 14 605 78++
 ([tp [.type "object"],Oj "type.__prepare__" (.type "type"),SW ([E P "__module__" 619 M1,ES P "__qualname__" 621 "HTMLUnicodeInputStream" 620]++Q8 P) 15,tp [],tb (KP (Ss 15) 1 97 6++(KP (Ss 15) 7 140 2++KP (Ss 15) 9 155 2)),MA "HTMLUnicodeInputStream" 614 29 88 181,Mw 90 3 87 M1]++
 (HO (Ss 15) "HTMLUnicodeInputStream." M1 6 1 626 92++
 ([tp [.none],tp [],tb [],tp (Lh (Jx (Ss 15 7)) 684),tp []]++
 (Sr (Ss 15 7) "HTMLUnicodeInputStream." 681 135 688 (R 134) M1++
 (HO (Ss 15) "HTMLUnicodeInputStream." M1 1 8 691 142++
 ([tp [.bool false],tp [],tb [],tp (Lh (Jx (Ss 15 9)) 703),tp []]++
 (Sr (Ss 15 9) "HTMLUnicodeInputStream." 700 150 709 (R 149) M1++
 (HO (Ss 15) "HTMLUnicodeInputStream." M1 1 10 712 157++
 ([tp (Jv S 1 ["_bufferedCharacter","chunk","chunkOffset","chunkSize","dataStream","errors","newLines","prevNumCols","prevNumLines","reportCharacterErrors"] 720),SW ([E P "__module__" 619 M1]++(Q8 P++[ER P "__dict__" 732 167,ER P "__weakref__" 734 168,E P "__doc__" 735 .none])) 4,CE "HTMLUnicodeInputStream" 166 165 85 612 620]++
 (OU 731 166++
 ([tp [I 0 740,.none],tp [],tb [],tp (Lh (Jx (st 17)) 744),tp []]++
 (Sr (st 17) "" 741 172 749 (R 171) M3++
 ([tp [.type "object"],Oj "type.__prepare__" (.type "type"),SW ([E P "__module__" 759 M3,ES P "__qualname__" 761 "Trie" 760]++Q7 P) 10,tp [],tb (KP (Ss 18) 0 191 6),MA "Trie" 754 144 182 181,Mw 184 3 181 M3]++
 (HO (Ss 18) "Trie." M3 6 0 764 186++
 ([tp (Jv S 1 ["_cachepoints","_cachestr","_data","_keys"] 815),SW ([E P "__module__" 759 M3]++(Q7 P++[ER P "__dict__" 821 231,ER P "__weakref__" 823 232,E P "__doc__" 824 .none])) 4,CE "Trie" 230 229 179 752 760]++
 (OU 820 230++
 ([SW [ER P "_data" 832 43,ER P "_keys" 834 243,ES P "_cachestr" 837 "" 835,ER P "_cachepoints" 842 246] 4,(⟨R 230,some 235,.plain,[].toArray⟩:Obj),(⟨.type "frame",none,.dict [E P "self" 829 (R 236),E P "data" 830 (R 43)].toArray 2,[].toArray⟩:Obj),(⟨.type "dict_keys",none,.fields [R 43].toArray,[].toArray⟩:Obj),Sw PB 45,(⟨.type "dict_keyiterator",none,.fields [.none,.int 43 0,.int 43 0,.int 43 0].toArray,[].toArray⟩:Obj),tp [],DP 241,Sw PB 2,tp PB,Sw [] 0,tp [I 0 838,I 43 840],tp [.type "object"],Oj "type.__prepare__" (.type "type"),SW ([E P "__module__" 851 M0,ES P "__qualname__" 853 "HTMLTokenizer" 852]++Q6 P) 76,tp [],tb (KP (Ss 21) 0 260 3++KP (Ss 21) 3 282 69),MA "HTMLTokenizer" 846 182 250 181,Mw 252 3 249 M0,tp [.none],tp [],tb [],tp (Lh (Jx (Ss 21 0)) 859),tp []]++
 (Sr (Ss 21 0) "HTMLTokenizer." 856 255 862 (R 254) M0++
 ([tp [],tb [],tp [S "self" 868],tp [],pr (Ss 21 1) "HTMLTokenizer.__iter__",(⟨.type "code",none,.fields [S "__iter__" 865,S "HTMLTokenizer.__iter__" 866,S "/claim/cut.py" 867,.int 193 0,.int 1 0,.int 0 0,.int 0 0,.int 35 0,R 262,.bool true,.int 181 0,R 263,.none,R 264,R 265,R 266,.int 869 0,.int 193 0,S "/claim/cut.py" 870].toArray,[].toArray⟩:Obj),fn (Ss 21 1) "HTMLTokenizer.__iter__" .none .none .none M0 (R 267) .none]++
 (HO (Ss 21) "HTMLTokenizer." M0 1 2 872 269++
 ([tp [.none,.bool false],tp [],tb [],tp (Lh (Jx (Ss 21 3)) 890),tp []]++
 (Sr (Ss 21 3) "HTMLTokenizer." 887 277 899 (R 276) M0++
 (HO (Ss 21) "HTMLTokenizer." M0 68 4 902 284++
 ([tp (Jv S 1 ["currentToken","escape","escapeFlag","lastFourChars","parser","state","stream","temporaryBuffer","tokenQueue"] 1441),SW ([E P "__module__" 851 M0]++(Q6 P++[ER P "__dict__" 1452 763,ER P "__weakref__" 1454 764,E P "__doc__" 1455 .none])) 4,CE "HTMLTokenizer" 762 761 247 844 852]++
 (OU 1451 762++
 ([Sw (Jv S 1 ["<title>","</title>","<STYLE/>","</style >","a","b c"," ","&amp;","<p>","</p>","<textarea >","</TEXTAREA>","<xmp>","</xmp>","<1","</1>","\x00","\x0d\x0a","\x01","&no;","&lt","</titles>","</sty>",">","<plaintext>","é","</title >","&","</style>","\x0d","&notin;","<Title/>"] 1460) 0]++
 (HO st "" M2 3 24 1493 768++
 (HO st "" M2 4 28 1513 789++
 ((Sv (st 32) 1549 817 1552 M2)++
 (HO st "" M2 2 33 1555 822++
 (Sv (st 35) 1583 836 1586 M2)))))))))))))))))))))))))))))))))))))
def SJ(P:Wx)(v:Wv)(n:Nat):Obj:=SW (E P "__name__" 165 v::(SI P).take n) (n+1)
def SH(n:Nat):Obj:=tb (Q3.take n)
noncomputable def env:Env:= {scope:=pw.main.scope,locals:=mainNs,globals:=mainNs,cells:=[],code:=(R 13),frame:=some 14}
noncomputable def cE:Code:=.body stmts env
def Pn(t:BT)(n k:Nat)(u:WB):SharedT:=⟨t,n, {}, #[], {},k,u⟩
def RJ(t:BT)(n k:Nat)(u:WB):Ww:=⟨absHeap t n {}, #[], {},k,u⟩
abbrev B:List Frame:=[topFrame ⟨0,0,0,0⟩]
set_option maxRecDepth 1000000
structure Bd where
 t:Wx->BT
 a:Nat
 k:Nat
 i:Nat
 p:Pos
def R8(n:Nat)(v:Wv)(g k:Nat)(P:Wx):BT:=S6 12 (Sk ((fin P).take n) [(3,SJ P v g),(12,SH k)])
def Nn:Bd:=⟨R8 15 M4 8 0,15,187,0,⟨0,0,0,0⟩⟩
def QV:Bd:=⟨R8 23 (S "html5lib.constants" 194) 11 3,23,203,4,⟨6,0,6,15⟩⟩
def QU:Bd:=⟨R8 28 (S "html5lib.constants" 194) 12 3,28,257,5,⟨7,0,7,12⟩⟩
def QT:Bd:=⟨R8 33 (S "html5lib.constants" 194) 13 3,33,269,6,⟨8,0,8,6⟩⟩
def QQ:Bd:=⟨R8 38 (S "html5lib.constants" 194) 14 3,38,293,7,⟨9,0,9,9⟩⟩
def QP:Bd:=⟨R8 43 (S "html5lib.constants" 194) 15 6,43,299,8,⟨10,0,11,78⟩⟩
def QO:Bd:=⟨R8 46 (S "html5lib.constants" 194) 16 6,46,429,9,⟨12,0,12,8⟩⟩
def QN:Bd:=⟨R8 48 (S "html5lib.constants" 194) 17 6,48,532,10,⟨13,0,13,21⟩⟩
def Nm:Bd:=⟨R8 49 (S "html5lib.constants" 194) 18 6,49,557,11,⟨14,0,14,10⟩⟩
def Nk:Bd:=⟨R8 50 (S "html5lib.constants" 194) 19 6,50,564,12,⟨15,0,15,13⟩⟩
def Nj:Bd:=⟨R8 50 M1 19 6,50,566,13,⟨16,0,16,8⟩⟩
def Ni:Bd:=⟨R8 78 M1 20 9,78,605,14,⟨17,0,26,19⟩⟩
def Nh:Bd:=⟨R8 85 M1 21 12,85,612,15,⟨27,0,28,210⟩⟩
def Ng:Bd:=⟨R8 171 M1 22 15,171,738,16,⟨29,0,132,59⟩⟩
def Nf:Bd:=⟨R8 179 M3 23 18,179,752,18,⟨134,0,143,14⟩⟩
def Nd:Bd:=⟨R8 235 M3 24 21,235,827,19,⟨144,0,179,30⟩⟩
def Nc:Bd:=⟨R8 235 M0 24 21,235,829,20,⟨180,0,180,8⟩⟩
def Nb:Bd:=⟨R8 247 M0 25 21,247,844,21,⟨181,0,181,12⟩⟩
def Na:Bd:=⟨R8 767 M0 26 24,767,1458,22,⟨182,0,1288,19⟩⟩
def M9:Bd:=⟨R8 789 M2 31 33,789,1513,28,⟨1297,0,1297,12⟩⟩
def M8:Bd:=⟨R8 822 M2 36 48,822,1555,33,⟨1322,0,1342,14⟩⟩
def MO(P:Wx):BT:=S6 12 (Sk ((fin P).take 841) [])
def HL:Bd:=⟨MO,841,1589,36,⟨1375,0,1410,114⟩⟩
abbrev QA(w:Wy)(u:WB)(n:Nat)(b:Bd)(j:Nat):=Fast.tw10110043849684766642 Fast.tw14364793385576792824 pw w 11 (some (R 6)) 1 n (Pn (b.t w.params) b.a b.k u) (piecesOf ((stmts.drop b.i).take j) env cE b.p B)
abbrev QR(w:Wy)(u:WB)(b:Bd):Option (Flow×SharedT×Code×Pos):=some (.next,Pn (b.t w.params) b.a b.k u,cE,b.p)
abbrev QS(w:Wy)(u:WB)(n:Nat)(b:Bd)(j:Nat):=segRunT treeTable pw w 11 (some (R 6)) 1 n (Pn (b.t w.params) b.a b.k u) (piecesOf ((stmts.drop b.i).take j) env cE b.p B)
def rr{n j:Nat}{x y:Bd}(h:∀w u,QA w u n x j=QR w u y):∀w u,QS w u n x j=QR w u y:=λw u=>by
 show Eq.trans ?_ (h w u);unfold QS QA;rw[Fast.te10110043849684766642,Fast.te14364793385576792824]
def r2{n j:Nat}{x y:Bd}(h:∀b w u,QA (World.withFollow w "special-get-raises" b) u n x j=QR (World.withFollow w "special-get-raises" b) u y):∀w u,QS w u n x j=QR w u y:=
 rr λw=>byRow2 "special-get-raises" (P:=λw=>∀u,QA w u n x j=QR w u y) (h false) (h true) w
def r_0:∀w u,QS w u 62 Nn 4=QR w u QV:=rr λw u=>by left
def r_4:∀w u,QS w u 784 QV 1=QR w u QU:=r2 λb w u=>by cases b<;>left
def r_5:∀w u,QS w u 196 QU 1=QR w u QT:=r2 λb w u=>by cases b<;>left
def r_6:∀w u,QS w u 364 QT 1=QR w u QQ:=r2 λb w u=>by cases b<;>left
def r_7:∀w u,QS w u 27 QQ 1=QR w u QP:=rr λw u=>by left
def r_8:∀w u,QS w u 826 QP 1=QR w u QO:=r2 λb w u=>by cases b<;>left
def r_9:∀w u,QS w u 563 QO 1=QR w u QN:=r2 λb w u=>by cases b<;>left
def afg:∀w u,QS w u 131 QN 1=QR w u Nm:=r2 λb w u=>by cases b<;>left
def aff:∀w u,QS w u 92 Nm 1=QR w u Nk:=r2 λb w u=>by cases b<;>left
def afe:∀w u,QS w u 10 Nk 1=QR w u Nj:=rr λw u=>by left
def afd:∀w u,QS w u 261 Nj 1=QR w u Ni:=rr λw u=>by left
def afc:∀w u,QS w u 30 Ni 1=QR w u Nh:=rr λw u=>by left
def afb:∀w u,QS w u 550 Nh 1=QR w u Ng:=rr λw u=>by left
def afa:∀w u,QS w u 45 Ng 2=QR w u Nf:=rr λw u=>by left
def ae9:∀w u,QS w u 393 Nf 1=QR w u Nd:=rr λw u=>by left
def ae8:∀w u,QS w u 10 Nd 1=QR w u Nc:=rr λw u=>by left
def ae7:∀w u,QS w u 1239 Nc 1=QR w u Nb:=r2 λb w u=>by cases b<;>left
def ae6:∀w u,QS w u 2518 Nb 1=QR w u Na:=rr λw u=>by left
def ae5:∀w u,QS w u 145 Na 6=QR w u M9:=rr λw u=>by left
def ae4:∀w u,QS w u 151 M9 5=QR w u M8:=rr λw u=>by left
def ae3:∀w u,QS w u 99 M8 3=QR w u HL:=rr λw u=>by left
end
abbrev Cd:OpenLaw:=PySem.Challenge.rw_te0042_02
def uU{tb:String->Option Builtin}{w:Wy}{d:Nat}{l:TM}{g:Pos}{n N:Nat}{s j:SharedT}{r:Ww}{i k:Nat}{c:Code}{u D:Pos}(h:segRunT tb pw w d l 1 n s (piecesOf ((stmts.drop i).take k) env c u [topFrame g])=some (.next,j,c,D))
  (x:topRun tb pw w d l N j.abs (restOf (stmts.drop (i+k)) env c D [topFrame g])=some r):topRun tb pw w d l (n+N) s.abs (restOf (stmts.drop i) env c u [topFrame g])=some r:=by
 have z:=piece_app (segRun_of h) x;have e:(stmts.drop i).take k++stmts.drop (i+k)=stmts.drop i:=by rw[←YI,Yc]
 rw[e]at z;show z
abbrev JP(w:Wy)(u:WB)(b:Bd):Ww:=RJ (b.t w.params) b.a b.k u
def on{w:Wy}{u:WB}{n j N:Nat}{x y:Bd}{r:Ww}(h:QS w u n x j=QR w u y)(z:topRun treeTable pw w 11 (some (R 6)) N (JP w u y) (restOf (stmts.drop (x.i+j)) env cE y.p B)=some r):
  topRun treeTable pw w 11 (some (R 6)) (n+N) (JP w u x) (restOf (stmts.drop x.i) env cE x.p B)=some r:=uU h z
def ab6:behindTheImports pw=stmts:=by left
def acN(w:Wy)(u:WB):Fast.tw15667345088766844465 Fast.tw14364793385576792824 pw w 11 (some (R 6)) 12 ⟨boot_heap w.params,Array.mk [],boot_drawn,boot_toks,u⟩ (topStub pw)=some (JP w u Nn,⟨Fast.tw11892475500146522536 Fast.tw14364793385576792824 cE,cE,⟨0,0,0,0⟩,B⟩):=by left
def acM(w:Wy)(u:WB):topGo treeTable pw w 11 (some (R 6)) 12 ⟨boot_heap w.params,Array.mk [],boot_drawn,boot_toks,u⟩ (topStub pw)=some (JP w u Nn,⟨denote treeTable cE,cE,⟨0,0,0,0⟩,B⟩):=by
 have h:=acN w u;rw[←Fast.te15667345088766844465, ←Fast.te14364793385576792824, ←Fast.te11892475500146522536]at h;show h
def xI(w:Wy)(u:WB):segRun treeTable pw w 11 (some (R 6)) 1 1 (JP w u Nn) (blockOf stmts env cE ⟨0,0,0,0⟩ B)=some (.next,JP w u Nn,cE,⟨0,0,0,0⟩):=by left
def adJ(w:Wy)(u:WB):topRun treeTable pw w 11 (some (R 6)) 2 (JP w u HL) (restOf (stmts.drop HL.i) env cE HL.p B)=some (JP w u HL):=by left
def run(w:Wy)(u:WB):topRun treeTable pw w 11 (some (R 6)) (12+(1+(62+(784+(196+(364+(27+(826+(563+(131+(92+(10+(261+(30+(550+(45+(393+(10+(1239+(2518+(145+(151+(99+2))))))))))))))))))))))) ⟨boot_heap w.params,Array.mk [],boot_drawn,boot_toks,u⟩ (topStub pw)=some (JP w u HL):=
 go_top (acM w u) (piece_block (xI w u) (on (r_0 w u) (on (r_4 w u) (on (r_5 w u) (on (r_6 w u) (on (r_7 w u) (on (r_8 w u) (on (r_9 w u) (on (afg w u) (on (aff w u) (on (afe w u) (on (afd w u) (on (afc w u) (on (afb w u) (on (afa w u) (on (ae9 w u) (on (ae8 w u) (on (ae7 w u) (on (ae6 w u) (on (ae5 w u) (on (ae4 w u) (on (ae3 w u) (adJ w u)))))))))))))))))))))))
noncomputable def q:WA:= {pw with main:= {pw.main with body:=[st 35]}}
def Sy:List Str:=["_wall","EOF","spaceCharacters","asciiLetters","digits","hexDigits","asciiLower","entities","replacementCharacters","tokenTypes","tagTokenTypes","Text","_is_invalid","HTMLUnicodeInputStream","bisect_left","Trie","entitiesTrie","HTMLTokenizer","_law_PIECES","_law_KINDS","_law_STOPS","_law_BLANKS","_law_LETTERS","_law_told","_law_chars","_law_reference","_law_letters","_law_between","_law_markup","_law_stop"]
def H1(P:Wx):WH:=absHeap (MO P) 841 {}
def size(w:Wy):((boot_heap w.params).isNs mainGlobals&&(Array.mk []:Array GenState).size==0,(boot_heap w.params).objs.size,(boot_heap w.params).nsMap mainGlobals "__annotations__")=(true,11,some (R 6)):=by left
def acQ(w:Wy):(fencedOpening treeTable pw w 20000).map (λs=>(s.heap,s.gens,s.drawn,s.toks))=some (boot_heap w.params,Array.mk [],boot_drawn,boot_toks):=boot_open (by left) (by decide+kernel) (λZ=>rfl) w
def afl:importedModules pw.main.body=[]:=by left
def adb(w:Wy)(u:WB):(staticsOk [] (boot_heap w.params) (H1 w.params)&&namesBound pw (H1 w.params)&&gensDone ⟨H1 w.params, #[], {},1589,u⟩&&laidKept (boot_heap w.params) (H1 w.params))=true:=by left
def ada(w:Wy)(u:WB):openSeen q Sy [] (λs=>recOk [] s) true ⟨H1 w.params, #[], {},1589,u⟩=openGood q loose:=by rw[Fast.te4187177175401517315];left
def left:LeftO pw q Sy (λs=>recOk [] s) (λs=>s.heap) (λw=>H1 w.params) 20000:=by
 show LeftO.of_pieces (H₁:=H1) acQ size (λw u=>run w u) (by decide+kernel) λw=>?_;rw[afl];funext u;show Prod.ext (adb w u) (Prod.ext (ada w u) rfl)
def l1:sreFenced pw.main=true:=by rw[Fast.te11788848310118352699];decide+kernel
def l2:((moduleNames pw.main.body).isEmpty||lookedIntoSs (moduleNames pw.main.body) pw.main.body)=true:=by rw[Fast.te9807087744658564304,Fast.te12862048085361865435];decide+kernel
def l3:namesResolve pw=true:=by rw[Fast.te8377067652309620493];decide+kernel
def l4:(pw.boundNames.all λn=> !worldNames.contains n)=true:=by rw[Fast.te18344453789297297638,Fast.te14412699480532031325];simp only[Fast.te3471404346716756564];decide+kernel
def l5:noRoadLSs {strict:= !(importedModules pw.main.body).all cThrough.contains,foot:=none,bare:=(["vars","dir","locals"]:List Str).filter (readsOut pw pw.main.body)} pw.main.body=true:=by
 rw[Fast.te8326940854005059898,Fast.te5923862056798008813,Fast.te13343964577679436407];decide+kernel
def l6:(namesMeet pw pw.main.body λZ n=>attrL n)=true:=by
 rw[XH,Fast.te17868728402115742887];decide+kernel
def lo:looksOpen pw=true:=by
 unfold looksOpen;rw[l1,l2,l3,l4,l5,l6];rfl
def m1:Cd.row.partSaid=true:=by
 unfold OpenRow.partSaid;rw[show Cd.row.prog=pw from rfl,lo];decide+kernel
def m2:Cd.row.wellSaid=true:=by
 unfold OpenRow.wellSaid;rw[m1,Fast.te18344453789297297638,Fast.te12749700546528644094];decide+kernel
def n1:(decide (Cd.foot<=(behindTheImports Cd.prog).length)&&Cd.footing.all footLine)=true:=by rw[Fast.te10501279942588096481];decide+kernel
def n2:noClassBlock Cd.prog Cd.footing=true:=by rw[Fast.te8179353310426384613];decide+kernel
def n3:noRoadLSs {strict:=true,foot:=some Cd.bound',writes:=Cd.writes,may:=Cd.may} Cd.footing=true:=by
 rw[Fast.te8326940854005059898,Fast.te797321630700447069,Fast.te9572597257264208301];decide+kernel
def n4:defStands Cd.about Cd.above=true:=by rw[Fast.te9558739934217749035];decide+kernel
def n5:Cd.namesIt=true:=by rw[Fast.te16286561074155671207];decide+kernel
def n6:(Cd.bound'.all λn=> !builtinNamed n||Cd.about==[n]|| !Cd.reads n)=true:=by
 rw[Fast.te797321630700447069];simp only[Fast.te6984425678791042302];decide+kernel
def n7:(Cd.prog.main.body.flatMap importedNames).all (λn=> !Cd.reads n||(drawsOf n Cd.prog.main.body).all λd=>d.2 !=("attrgetter":Str)&&d.2 !=("methodcaller":Str))=true:=by decide+kernel
def n8:namesMeet Cd.prog Cd.footing (λO n=>(!(["type","isinstance","issubclass","getattr","hasattr"]:List Str).contains n||O.names.lookup n==some .globalImplicit)&&
  (Cd.may !=some n||O.kind== .module||O.names.lookup n==some .globalImplicit))=true:=by
 rw[XH];simp only[Fast.te9572597257264208301];decide+kernel
def n9:(Cd.own.contains Cd.name&&Cd.own.eraseDups.length==Cd.own.length&&Cd.own.all λn=> !builtinNamed n)=true:=by rw[Fast.te10792542408131684335];decide+kernel
def n10:namesMeet Cd.prog Cd.above (λZ n=> !Cd.own.contains n)=true:=by
 rw[XH];simp only[Fast.te10792542408131684335];decide+kernel
def n11:(namesMeet Cd.prog Cd.footing λO n=>O.kind== .module||O.names.lookup n !=some .globalExplicit)=true:=by
 rw[XH];decide+kernel
def n12:(Cd.most.all (λn=>decide (63<=n))&&Cd.bound.all λn=>decide (2 ^ 63<=n))=true:=by decide+kernel
def n13:(["type","isinstance","issubclass","getattr","hasattr"]:List String).all (λn=>Cd.about !=[(n:Str)])=true:=by decide+kernel
def aeS:Program.tablesWhole pw=true:=by decide+kernel
def zR:Cd.wellSaid=true:=by
 unfold OpenLaw.wellSaid;simp only[Zp];have N:=n1;have g:=n9;have d:=n12;simp only[Zp]at N g d;show⟨⟨⟨⟨⟨⟨⟨⟨⟨⟨⟨⟨⟨⟨⟨⟨⟨⟨m2,N.1⟩,N.2⟩,n2⟩,d.1⟩,d.2⟩,n3⟩,n4⟩,n5⟩,?_⟩,n6⟩,rfl⟩,n7⟩,n8⟩,g.1.1⟩,g.1.2⟩,g.2⟩,n10⟩,n11⟩;decide+kernel
def aeR:Cd.row.toRowW.promised:=⟨[.list []],by decide+kernel,by decide+kernel⟩
def YP(w:Wy)(h:WH):Prop:=∀b o,(H1 w.params).get? b=some o->h.get? b=some o
def I3:DefRec:=EX (st 35)
def bare:Cd.row.prog.bare:=⟨rfl,rfl,rfl,rfl,rfl,aeS⟩
def head(walk:WalkO q Sy (λZ Z=>True) YP Cd.row.toRowW I3 [] λf a=>PySem.call f a):Cd.Holds:=
 holds_law zR λg=>W.holds_open (r:=Cd.row) (q:=q) (loose:=Sy) (Xt:=λs=>recOk [] s) (XP:=λZ Z=>True) (Yf:=λs=>s.heap) (Ya:=λw=>H1 w.params) (YP:=YP) (d:=I3) (kwd:=[]) (N:=20000)
  left (λw s e b o x=>by rw[e];show x) (λw h l y k b o x=>k b o (y b o x)) (λZ Z=>trivial) (λZ Z Z Z Z=>trivial)
  (by left) (by left) (by left) (λs e=>recFacts_of e) (by decide+kernel) g (by decide+kernel) bare aeR walk
end Mine.Head
namespace Mine.B
section
open Mine.A
open Mine.Head
def ku:∀(l:TV) (k:Nat),(S6.odds l)[k]? =l[2*k]?
 | [],k=>by show(Option.map_inj_right λx y a=>a).mp rfl
 | [a],0=>rfl
 | [a],k+1=>rfl
 |a::b::r,0=>rfl
 |a::b::r,k+1=>by
  rw[ku r k,Nat.mul_add];rfl
def iQ:∀(l:TV) (k:Nat),(S6.evens l)[k]? =l[2*k+1]?
 | [],k=>by show(Option.map_inj_right λx y a=>a).mp rfl
 | [a],k=>rfl
 |a::b::r,0=>rfl
 |a::b::r,k+1=>by
  rw[iQ r k,Nat.mul_add];rfl
def kr:∀l:TV,2*(S6.odds l).length<=l.length+1
 | []=>by show ZR (2*(S6.odds []).length) 1
 | [a]=>by show Z0 (2*(S6.odds [a]).length) [].length
 |a::b::r=>ZV (kr r) 2
def iP:∀l:TV,2*(S6.evens l).length<=l.length
 | []=>by show ZQ rfl
 | [a]=>by show ZQ rfl
 |a::b::r=>ZV (iP r) 2
def mY:∀(n:Nat) (l:TV),l.length<2 ^ n->∀i,(S6 n l).get i=l[i]?
 |0,l,h,i=>by
  have:=List.length_eq_zero_iff.mp (Nat.lt_one_iff.mp h);subst this;rfl
 |n+1,[],h,i=>by show(Option.map_inj_right λx y a=>a).mp rfl
 |n+1,o::r,h,i=>by
  rw[Nat.pow_succ,Zj]at h;have U:=kr r;have N:=iP r;rw[BT.get_node,mY n _ (by lia),mY n _ (Nat.lt_of_mul_lt_mul_right (a:=2) (Yb (Zh (Zz (Nat.mul_comm _ 2)) N) (Nat.lt_of_succ_lt h))),ku,iQ];cases i with
  |zero=>rfl
  |succ i=>
   rw[Zi (Nat.succ_ne_zero i),List.getElem?_cons_succ];split
   ·congr 1;lia
   ·congr 1;lia
def o5(P:Wx):(fin P).length=841:=by left
noncomputable def whole(o:Obj):Bool:=match o.data with| .freed=>false|_=>true
def qu(P:Wx):(fin P).all whole=true:=by left
def Ck(P:Wx)(a:WD):Obj:=(fin P).getD a default
def bq(P:Wx)(h:a<841):(H1 P).get? a=some (Ck P a):=by
 have D:a<(fin P).length:=by rw[o5];show h
 have e:(fin P)[a]? =some (Ck P a):=by
  unfold Ck;rw[Yy,Zy D];rfl
 have v:=Zd (qu P) _ (List.mem_of_getElem? e);have Z:(H1 P).objs[a]? =some (Ck P a):=by
  rw[absHeap_at,Zk h];rw[mY 12 _ (by rw[ZG,o5];decide),e];rfl
 unfold Heap.get?;rw[Z];generalize Ck P a=o at v;obtain⟨Sp,So,Sn,j⟩:=o;cases Sn<;>first|rfl|cases v
def iV(P:Wx):(H1 P).objs.size=841:=absHeap_size _ _ _
def PA(i:Nat):Wu:=⟨(List.replicate (i+1000) 0).toArray⟩
abbrev dS(n:Nat):Wu:=⟨(SV n).toArray⟩
def RS:TL:=[SV 0x646e65707061,SV 0x706f70,SV 0x6e696f6a,SV 0x6563616c706572,SV 0x746e756f63,SV 0x646e696672,SV 0x74696c7073,SV 0x7265776f6c,SV 0x7265707075,SV 0x68746977737472617473,SV 0x646e6966,SV 0x746567,SV 0x657461647075,SV 0x7865646e69,SV 0x7379656b,SV 0x5f736168,[0],[1],[2],[3],[4],[5],[6],[7],[8],[9],[10],[11],[12],[13],[14],[15],SV 0x464f45,SV 0x72657a696e656b6f544c4d5448,SV 0x6d61657274537475706e4965646f63696e554c4d5448,SV 0x726f72724579654b,SV 0x74786554,[16],[17],[18],[19],SV 0x72657463617261684364657265666675625f,SV 0x73746e696f7065686361635f,SV 0x72747365686361635f,SV 0x617461645f,SV 0x657a69536b6e756843746c75616665645f,SV 0x64696c61766e695f73695f,SV 0x7379656b5f,SV 0x534b4e414c425f77616c5f,[20],[21],[22],[23],SV 0x53444e494b5f77616c5f,SV 0x5352455454454c5f77616c5f,[24],[25],[26],[27],[28],[29],SV 0x5345434549505f77616c5f,[30],[31],SV 0x53504f54535f77616c5f,[32],SV 0x6e6565777465625f77616c5f,SV 0x73726168635f77616c5f,[33],[34],[35],SV 0x7372657474656c5f77616c5f,SV 0x70756b72616d5f77616c5f,[36],[37],[38],SV 0x65636e6572656665725f77616c5f,[39],[40],[41],SV 0x706f74735f77616c5f,[42],SV 0x646c6f745f77616c5f,[43],[44],SV 0x6e6f697469736f705f,[45],[46],[47],[48],[49],[50],[51],[52],[53],[54],[55],SV 0x726168436465776f6c6c61,SV 0x6574616972706f72707061,SV 0x7372657474654c6969637361,SV 0x7265776f4c6969637361,SV 0x6574617453656d614e657475626972747461,[56],[57],[58],[59],[60],SV 0x6574617453656d614e65747562697274744165726f666562,[61],[62],[63],[64],[65],[66],SV 0x7466656c5f746365736962,SV 0x6b6e616c62,SV 0x6574617453746e656d6d6f437375676f62,[67],SV 0x63,SV 0x72616863,[68],SV 0x6b6361745372616863,SV 0x3453435573726f727245726574636172616863,SV 0x6174616463526e4965636e657265666552726574636172616863,SV 0x73726574636172616863,SV 0x7372616863,SV 0x6c69746e557372616863,[69],SV 0x726863,SV 0x6b6e756863,SV 0x74657366664f6b6e756863,SV 0x657a69536b6e756863,SV 0x65746174536e65704f67615465736f6c63,SV 0x676e69736f6c63,SV 0x746e696f7065646f63,SV 0x6c6f63,[70],[71],[72],[73],[74],[75],SV 0x797469746e45656d75736e6f63,SV 0x797469746e457265626d754e656d75736e6f63,SV 0x6e656b6f54746e6572727563,SV 0x61746164,SV 0x657461745361746164,SV 0x6d616572745361746164,SV 0x74636964,SV 0x737469676964,[76],[77],[78],[79],[80],[81],[82],SV 0x657564,SV 0x6e656b6f54746e657272754374696d65,[83],SV 0x646e65,[84],SV 0x7365697469746e65,SV 0x656972547365697469746e65,SV 0x657461745361746144797469746e65,SV 0x6874676e654c797469746e65,SV 0x656d614e797469746e65,[85],SV 0x73726f727265,SV 0x657061637365,SV 0x67616c46657061637365,[86],SV 0x746c756166,SV 0x79746c756166,[87],[88],SV 0x6574756269727474416d6f7266,SV 0x746f67,SV 0x7869666572705f687469775f7379656b5f736168,[89],SV 0x786568,SV 0x737469676944786568,SV 0x6968,SV 0x68676968,SV 0x69,[90],[91],[92],[93],[94],SV 0x79656b,SV 0x646e696b,SV 0x6e776f6e6b,[95],SV 0x737261684372756f467473616c,SV 0x736f50656e694c7473616c,SV 0x767473616c,[96],SV 0x6e656c,SV 0x656e696c,SV 0x73656e696c,SV 0x6f6c,SV 0x747365676e6f6c,SV 0x7869666572705f747365676e6f6c,SV 0x776f6c,[97],[98],SV 0x65746174536e65704f6e6f69746172616c63654470756b72616d,[100],SV 0x78616d,SV 0x6465646e656d,SV 0x656c6464696d,SV 0x6e696d,SV 0x6e,SV 0x73656e694c6e,SV 0x656d616e,SV 0x73656e694c77656e,[101],[102],SV 0x737265626d756e,[103],SV 0x74657366666f,SV 0x6d61657274536e65706f,[104],[106],SV 0x657469736f70706f,SV 0x64726f,[107],[108],SV 0x74757074756f,[109],SV 0x72696170,SV 0x726573726170,SV 0x74726170,[111],SV 0x6563656970,[112],SV 0x6563616c70,SV 0x6574617453747865746e69616c70,SV 0x6e6f697469736f70,SV 0x6e6d756c6f436e6f697469736f70,SV 0x656e694c6e6f697469736f70,SV 0x786966657270,SV 0x736c6f436d754e76657270,SV 0x73656e694c6d754e76657270,[113],[115],[116],SV 0x72,[117],SV 0x65676e6172,SV 0x776172,SV 0x6574617453656d614e676154646e4574786574776172,SV 0x65746174536e65704f676154646e4574786574776172,SV 0x65746174536e6769536e6168547373654c74786574776172,SV 0x657461745374786574776172,SV 0x6574617453656d614e676154646e45617461646372,SV 0x65746174536e65704f676154646e45617461646372,SV 0x65746174536e6769536e6168547373654c617461646372,SV 0x6574617453617461646372,SV 0x64616572,SV 0x6b6e75684364616572,[118],[119],SV 0x73726f72724572657463617261684374726f706572,SV 0x7465736572,[120],SV 0x776f72,SV 0x73776f72,SV 0x7672,[121],SV 0x656d6173,SV 0x747069726373,[122],[123],[124],[125],[126],[127],[128],[129],[130],[131],[132],[133],[134],[135],[136],[137],[138],[139],[140],SV 0x666c6573,SV 0x65746174536761547472617453676e69736f6c43666c6573,[141],SV 0x6e676973,SV 0x657a6973,SV 0x6873616c73,[142],SV 0x656372756f73,SV 0x737265746361726168436563617073,SV 0x7472617473,SV 0x6574617473,SV 0x706f7473,[143],SV 0x6d6165727473,SV 0x6574617453656d614e676174,SV 0x65746174536e65704f676174,SV 0x73657079546e656b6f54676174,[144],SV 0x726566667542797261726f706d6574,SV 0x74786574,SV 0x6e656b6f74,SV 0x65756575516e656b6f74,SV 0x657079546e656b6f74,SV 0x73657079546e656b6f74,SV 0x72657a696e656b6f74,SV 0x736e656b6f74,SV 0x646c6f74,[145],[146],SV 0x7465676e75,[147],[148],[149],[150],[151],[152]]
def Ho:TP:=RS.map λl=>⟨l.toArray⟩
abbrev AW:WJ:=(SV 0x5a595857565554535251504f4e4d4c4b4a4948474645444342417a797877767574737271706f6e6d6c6b6a696867666564636261)
def P8(l:WJ):V:=.c (.tup (l.map λc=>.str [c]))
def AA:V:=P8 AW
def Fp:V:=P8 [48,49,50,51,52,53,54,55,56,57]
def EL:V:=P8 (SV 0x46454443424166656463626139383736353433323130)
def NY:TG:=[([65,77,80],.str [38]),([65,77,80,59],.str [38]),([69,97,99,117,116,101],.str [201]),([69,97,99,117,116,101,59],.str [201]),([77,111,112,102,59],.str [120132]),([97,99,59],.str [8766]),([97,99,69,59],.str [8766,819]),([97,99,117,116,101],.str [180]),([97,99,117,116,101,59],.str [180]),([97,109,112],.str [38]),([97,109,112,59],.str [38]),([97,110,103,59],.str [8736]),([97,110,103,108,101,59],.str [8736]),([98,110,101,59],.str [61,8421]),([99,111,112,121],.str [169]),([99,111,112,121,59],.str [169]),([101,97,99,117,116,101],.str [233]),((SV 0x3b657475636165),.str [233]),([102,114,97,99,49,50],.str [189]),([102,114,97,99,49,50,59],.str [189]),([103,116],.str [62]),([103,116,59],.str [62]),([108,116],.str [60]),([108,116,59],.str [60]),([110,98,115,112],.str [160]),([110,98,115,112,59],.str [160]),([110,111,116],.str [172]),([110,111,116,59],.str [172]),((SV 0x3b6e69746f6e),.str [8713]),((SV 0x3b696e746f6e),.str [8716]),([112,97,114,97],.str [182]),([112,97,114,97,59],.str [182]),((SV 0x3b6c656c6c61726170),.str [8741]),([113,117,111,116],.str [34]),([113,117,111,116,59],.str [34]),([115,117,112,49],.str [185]),([115,117,112,49,59],.str [185]),([115,117,112,50],.str [178]),([115,117,112,50,59],.str [178]),([115,117,112,59],.str [8835]),([116,105,109,101,115],.str [215]),((SV 0x3b73656d6974),.str [215]),((SV 0x3b6273656d6974),.str [8864])]
def A0:V:=.c (.An NY)
def Ad:V:=.c (.An [((SV 0x65707974636f44),.int 0),(Qz,.int 1),(Tb,.int 2),(Tc,.int 3),(Td,.int 4),((SV 0x6761547974706d45),.int 5),(Te,.int 6),(Tf,.int 7)])
def Ih:TL:=[(SV 0x3e656c7469743c),(SV 0x3e656c7469742f3c),[60,83,84,89,76,69,47,62],(SV 0x3e20656c7974732f3c),[97],[98,32,99],[32],[38,97,109,112,59],[60,112,62],[60,47,112,62],(SV 0x3e2061657261747865743c),(SV 0x3e41455241545845542f3c),[60,120,109,112,62],[60,47,120,109,112,62],[60,49],[60,47,49,62],[0],[13,10],[1],[38,110,111,59],[38,108,116],(SV 0x3e73656c7469742f3c),[60,47,115,116,121,62],[62],(SV 0x3e747865746e69616c703c),[233],(SV 0x3e20656c7469742f3c),[38],(SV 0x3e656c7974732f3c),[13],(SV 0x3b6e69746f6e26),(SV 0x3e2f656c7469543c)]
def CU:V:=.c (.lst (Ih.map .str))
def Dx:V:=.c (.str AW)
def I9:List (Wu×V):=[
 (dS 0x464f45,.c .Ak),
 (dS 0x737265746361726168436563617073,.c (.tup [.str [9],.str [10],.str [12],.str [32],.str [13]])),
 (dS 0x7372657474654c6969637361,AA),
 (dS 0x737469676964,Fp),
 (dS 0x737469676944786568,EL),
 (dS 0x7265776f4c6969637361,.st 42),
 (dS 0x7365697469746e65,A0),
 (dS 0x73657079546e656b6f74,Ad),
 (dS 0x73657079546e656b6f54676174,.c (.tup [.int 3,.int 4,.int 5])),
 (dS 0x74786554,.st 73),
 (dS 0x64696c61766e695f73695f,.st 84),
 (dS 0x6d61657274537475706e4965646f63696e554c4d5448,.st 166),
 (dS 0x7466656c5f746365736962,.st 178),
 (dS 0x656972547365697469746e65,.st 236),
 (dS 0x72657a696e656b6f544c4d5448,.st 762),
 (dS 0x5345434549505f77616c5f,CU),
 (dS 0x53444e494b5f77616c5f,.st 774),
 (dS 0x53504f54535f77616c5f,.st 781),
 (dS 0x534b4e414c425f77616c5f,.st 788),
 (dS 0x5352455454454c5f77616c5f,Dx),
 (dS 0x646c6f745f77616c5f,.st 795),
 (dS 0x73726168635f77616c5f,.st 802),
 (dS 0x65636e6572656665725f77616c5f,.st 809),
 (dS 0x7372657474656c5f77616c5f,.st 816),
 (dS 0x6e6565777465625f77616c5f,.st 821),
 (dS 0x70756b72616d5f77616c5f,.st 828),
 (dS 0x706f74735f77616c5f,.st 835),
 (dS 0x77616c,.st 840)]
def NR(a:Nat):Bool:=[73,166,230,762].contains a
noncomputable def blt(x:Wu):TX:=Fu x [dS 0x6e656c,dS 0x64726f,dS 0x726863,dS 0x65676e6172,dS 0x74636964,dS 0x78616d,dS 0x6e696d,dS 0x746e69,dS 0x32676e72,dS 0x65746172656d756e65,dS 0x646574726f73] 0
def P0(n:Nat):Bool:=or (beq n 1398) (beq n 255)
def SY:CP:=⟨Ho,P0,λx=>I9.lookup x,NR,blt⟩
def LG:List (Nat×Nat):=[(260,70)]
def CB:List (Nat×Nat):=[(265,105),(222,112),(85,119),(239,126),(119,133),(261,141),(122,148),(126,156),(321,163)]
def IZ:List (Nat×Nat):=[(178,220),(203,227)]
def EW:List (Nat×Nat):=[(142,283),(158,297),(146,304),(164,311),(259,318),(123,325),(255,332),(238,346),(307,353),(132,360),(306,367),(258,374),(257,381),(256,388),(254,395),(253,402),(252,409),(107,535),(293,591),(116,598)]
def Ke:List (Nat×List (Nat×Nat)):=[(73,LG),(166,CB),(230,IZ),(762,EW),(236,IZ)]
def JO:List (Nat×Tw):=[(166,[(45,.c (.int 10240))]),
 (236,[(44,A0),(47,.c (.lst (NY.map λp=>.str p.1))),(43,.c (.str [])),(42,.c (.tup [.int 0,.int 43]))])]
def Dy:WJ:=[42,63,70,84,98,105,112,119,126,133,141,148,156,163,178,199,220,227,261,268,283,297,304,311,318,325,332,346,353,360,367,374,381,388,395,402,409,535,591,598,774,781,788,795,802,809,816,828,835,840]
def PV:WJ:=[73,72,166,165,230,229,762,761,236,235,821]++Dy
def IS:List (Nat×WJ):=[(73,[311,237]),(166,[264,216,147,129,131,130,168,244,243,41]),(762,[305,232,170,194,302,169,144,313,310])]
def Eu:List (Nat×Nat):=[(73,3),(166,2),(762,1)]
def I8:List (Nat×Nat):=[(73,63),(166,98),(762,261)]
def F9:List (Nat×Nat):=[(313,5),(168,6),(194,8),(216,9),(144,32)]
noncomputable def nm(i:Nat):Wu:=(Ho[i]?).getD (PA i)
def p8:(Ho.all λx=>Nat.blt x.cps.toList.length 1000)=true:=by decide+kernel
noncomputable def key(s:Wu):Nat:=s.cps.toList.foldl (λa c=>a*2097152+c+1) 0
def IW(l:WJ):Bool:=List.rec true (λx r Q=>and (r.all λy=> !beq x y) Q) l
def kz{y:Type}(f:y->Nat){l:List y}(h:IW (l.map f)=true):l.Nodup:=by
 induction l with
 |nil=>show .nil
 |cons x r Q=>
  show zA (ar h) λU N=>List.nodup_cons.mpr ⟨λO=>?_,Q N⟩;have:=Zd U (f x) (Xr O);replace this:=(Nat.beq_refl _)▸this;show a7 this
def oz:Ho.Nodup:=kz key (by decide+kernel)
def v7:(Ho.all λx=> !(x==("__debug__":Wu)))=true:=by decide+kernel
def sM(i j:Nat)(h:nm i=nm j):i=j:=by
 have len:∀i,i<Ho.length->(nm i).cps.toList.length<1000:=λi hi=>by
  show ZJ (Z4 _) (ZQ (Zd p8 (nm i) (by unfold nm;rw[Zy hi];show Xh hi)))
 have A:∀i,¬i<Ho.length->(nm i).cps.toList.length=i+1000:=λi hi=>by
  unfold nm;rw[Xm (YN.mp hi)];change(PA i).cps.toList.length=_;unfold PA;simp
 by_cases hi:i<Ho.length<;>by_cases Q:j<Ho.length
 ·unfold nm at h;rw[Zy hi,Zy Q]at h;have h:Ho[i]=Ho[j]:=h;rcases Nat.lt_trichotomy i j with l|l|l
  ·show T4 h (List.pairwise_iff_getElem.mp oz i j hi Q l)
  ·show l
  ·show T4 h.symm (List.pairwise_iff_getElem.mp oz j i Q hi l)
 ·have:=len i hi;rw[h,A j Q]at this;lia
 ·have:=len j Q;rw[←h,A i hi]at this;lia
 ·have:=A i hi;rw[h,A j Q]at this;show Nat.add_right_cancel (id (YS this))
def yN:∀ {k i:Nat},Fu x l k=some i->k<=i/\l[i-k]? =some x:=by
 induction l with
 |nil=>intro k i h;show aw h
 |cons y r Q=>
  intro k i h;have h:(if x=y then some k else Fu x r (k+1))=some i:=h;by_cases e:x=y
  ·rw[Zk e]at h;obtain rfl:=Zf h;show⟨Zq _,by rw[Nat.sub_self,e];rfl⟩
  ·rw[Zi e]at h;show zA (Q h) λa b=>⟨Yj a,?_⟩
   rw[show i-k=(i-(k+1))+1 from(Nat.sub_add_cancel (Nat.sub_pos_of_lt a)).symm];show b
def xu(h:SY.code x=some i):nm i=x/\(x==("__debug__":Wu))=false:=by
 have e:=(yN h).2;show⟨?_,?_⟩
 ·unfold nm;rw[show Ho[i]? =some x from e];rfl
 ·simpa using (Zd v7 x (List.mem_of_getElem? e))
def Ai(w:Wy):Cx:=⟨pw,w,nm,sM,H1 w.params,by rw[iV];decide⟩
def GO(v:Wv):Option (Wu×Tok):=Value.casesOn (motive:=λZ=>Option (Wu×Tok)) v none none none (λZ=>none) (λZ Z=>none) (λZ Z=>none) (λs t=>some (s,t)) (λZ Z=>none) (λZ=>none) (λZ=>none) (λZ=>none)
def ML(v:Wv):Option (Int×Tok):=Value.casesOn (motive:=λZ=>Option (Int×Tok)) v none none none (λZ=>none) (λi t=>some (i,t)) (λZ Z=>none) (λZ Z=>none) (λZ Z=>none) (λZ=>none) (λZ=>none) (λZ=>none)
def JF(v:Wv):Option WD:=Value.casesOn (motive:=λZ=>Option WD) v none none none (λZ=>none) (λZ Z=>none) (λZ Z=>none) (λZ Z=>none) (λZ Z=>none) (λZ=>none) (λZ=>none) (λa=>some a)
def gG(h:GO v=some p):v=.str p.1 p.2:=by
 induction v using Value.casesOn with
 |str s t=>obtain rfl:=Zf h;rfl
 |_=>show aw h
def zi(h:ML v=some p):v=.int p.1 p.2:=by
 induction v using Value.casesOn with
 |int s t=>obtain rfl:=Zf h;rfl
 |_=>show aw h
def iY(h:JF v=some a):v=.ref a:=by
 induction v using Value.casesOn with
 |ref s=>show T3 Value.ref (Zf h)
 |_=>show aw h
def Kc(d:Data):Option (Array Wv×Nat):=Data.casesOn (motive:=λZ=>Option (Array Wv×Nat)) d none (λZ=>none) (λa n=>some (a,n)) (λZ Z=>none) (λZ Z Z=>none) (λZ Z=>none) (λZ=>none) (λZ=>none) (λZ=>none) (λZ=>none) none
def LV(d:Data):Option (Array WC×Nat):=Data.casesOn (motive:=λZ=>Option (Array WC×Nat)) d none (λZ=>none) (λZ Z=>none) (λa n=>some (a,n)) (λZ Z Z=>none) (λZ Z=>none) (λZ=>none) (λZ=>none) (λZ=>none) (λZ=>none) none
def Kd(d:Data):Option FuncData:=Data.casesOn (motive:=λZ=>Option FuncData) d none (λZ=>none) (λZ Z=>none) (λZ Z=>none) (λZ Z Z=>none) (λZ Z=>none) (λZ=>none) (λf=>some f) (λZ=>none) (λZ=>none) none
def NZ(d:Data):Option (Array Wv):=Data.casesOn (motive:=λZ=>Option (Array Wv)) d none (λZ=>none) (λZ Z=>none) (λZ Z=>none) (λZ Z Z=>none) (λZ Z=>none) (λZ=>none) (λZ=>none) (λZ=>none) (λa=>some a) none
def uy(h:Kc d=some p):d=.seq p.1 p.2:=by
 induction d using Data.casesOn with
 |seq s t=>obtain rfl:=Zf h;rfl
 |_=>show aw h
def abg(h:LV d=some p):d=.dict p.1 p.2:=by
 induction d using Data.casesOn with
 |dict s t=>obtain rfl:=Zf h;rfl
 |_=>show aw h
def uz(h:Kd d=some p):d=.func p:=by
 induction d using Data.casesOn with
 |func s=>show T3 Data.func (Zf h)
 |_=>show aw h
def uA(h:NZ d=some p):d=.fields p:=by
 induction d using Data.casesOn with
 |fields s=>show T3 Data.fields (Zf h)
 |_=>show aw h
def DG(e:WC):Wu:=Option.rec ⟨#[]⟩ (λp=>p.1) (GO e.key)
def Df(o:Obj):List WC:=Option.rec [] (λp=>p.1.toList) (LV o.data)
def J7(o:Obj)(n:String):Bool:=and (o.cls== .type n) (and o.dict.isNone o.slots.isEmpty)
def oN(h:J7 o n=true):o.cls=.type n/\o.dict=none/\o.slots= #[]:=by
 show zA (ar h) λU N=>zA (ar N) λN D=>⟨eq_of_beq U,Xo.mp N,Array.isEmpty_iff.mp D⟩
noncomputable def at_(P:Wx)(v:Wv)(n:String)(k:WD->Obj->Bool):Bool:=ob (JF v) λa=>and (Nat.blt a 841) (and (J7 (Ck P a) n) (k a (Ck P a)))
def Pm(P:Wx)(n:String)(len:Nat)(Q:TN->Bool)(v:Wv):Bool:=at_ P v n λZ o=>ob (Kc o.data) λp=>and (Q p.1.toList) (ble len 16777216)
def Jl{y j:Type}(p:y->j->Bool)(l:List y):List j->Bool:=List.rec (motive:=λZ=>List j->Bool) (λm=>m.isEmpty) (λa Z Q m=>List.rec false (λb t Z=>and (p a b) (Q t)) m) l
def Q1(Q:FV->Wv->Bool)(q:WJ×FV)(e:WC):Bool:=ob (GO e.key) λs=>and (Cn s.1.cps.toList q.1) (Q q.2 e.val)
def Rb(Q:FV->Wv->Bool)(l:TG)(a:WD)(o:Obj):Bool:=and (List.contains [43,48] a) (and (decide ((l.map (·.1)).Nodup)) (ob (LV o.data) λp=>and (Jl (Q1 Q) l p.1.toList) (ble l.length 16777216)))
def Pu(P:Wx)(n:Nat):FV->Wv->Bool:=
 Nat.rec (motive:=λZ=>FV->Wv->Bool) (λZ Z=>false) (λZ Q f v=>FV.casesOn (motive_1:=λZ=>Bool) f (v== .none) (λb=>v== .bool b) (λi=>ob (ML v) λp=>decide (p.1=i))
  (λl=>ob (GO v) λp=>and (Cn p.1.cps.toList l) (ble l.length 16777216)) (λl=>Pm P "tuple" l.length (Jl Q l) v) (λl=>Pm P "list" l.length (Jl Q l) v)
  (λl=>at_ P v "dict" (Rb Q l))) n
def gv(h:Cn s.cps.toList l=true):s=CH l:=by
 rw[aE]at h;obtain rfl:=Zm h;show(T3 PySem.Str.mk (Array.toArray_toList)).symm
def Mn(P:Wx):Prop:=∀a,List.contains [43,48] a=true->(Df (Ck P a)).map (·.hash)=(Df (Ck P a)).map λe=>PyData.keyHash P (DG e)
def aaQ(P:Wx):Mn P:=by
 intro a h;have h:a=43\/a=48:=by simpa using h
 rcases h with rfl|rfl
 ·show show(Df (Ck P 43)).map (·.hash)=(Df (Ck P 43)).map λe=>PyData.keyHash P (DG e) by left
 ·show show(Df (Ck P 48)).map (·.hash)=(Df (Ck P 48)).map λe=>PyData.keyHash P (DG e) by left
def abf(Q:List.contains [43,48] a=true)(U:J7 (Ck w.params a) "dict"=true)(b:(Ck w.params a).data=.dict y s)
  (j:∀e∈y.toList,∃t,e.key=.str (DG e) t) (c:((y.toList.map λe=>(DG e,e.val)).map (·.1)).Nodup):Di (PySem.strKind (Ai w).Aa w) (Ck w.params a) (y.toList.map λe=>(DG e,e.val)):=by
 have u:=aaQ w.params a Q;have N:Df (Ck w.params a)=y.toList:=by unfold Df;rw[b];rfl
 rw[N]at u;show(bj y s (oN U) b (λe O=>?_) ?_ c)
 ·have O:=Array.mem_toList_iff.mpr O;obtain⟨t,D⟩:=j e O;show(aO (DG e) (by rw[D];show Xf (DG e)) ?_);have:e.hash=PyData.keyHash w.params (DG e):=by
   obtain⟨i,hi,rfl⟩:=List.getElem_of_mem O;simpa[Xq,Zy hi] using (T3 (·[i]?) u)
  rw[this];rfl
 ·clear N u b c;generalize y.toList=l at j;induction l with
  |nil=>show .nil
  |cons e r f=>
   obtain⟨t,D⟩:=j e (.head _);show .cons ?_ rfl (f λe N=>j e (.tail _ N));rw[D];show Xf (DG e)
def aey(h:at_ P v n k=true):∃a,v=.ref a/\a<841/\J7 (Ck P a) n=true/\k a (Ck P a)=true:=by
 obtain⟨a,e,h⟩:=cP h;show zA (ar h) λU h=>zA (ar h) λN h=>(aY a (iY e) (cb U) N h)
def yo(h:Pm w.params n len Q v=true):∃a Z o,v=.ref a/\(Ai w).base.get? a=some o/\Ca n o Z/\Q Z=true/\len<=16777216:=by
 obtain⟨a,rfl,f,i,h⟩:=aey h;obtain⟨p,e,h⟩:=cP h;obtain⟨c,A⟩:=ar h;show(aM a p.1.toList _ rfl (bq w.params f) (yE p.2 ?_) c (bz A));obtain⟨U,b,D⟩:=oN i;have N:=uy e;generalize Ck w.params a=o at U b D N;obtain⟨Sp,So,Sn,j⟩:=o;subst U b D N;rfl
def oJ(h:GO e.key=some p):DG e=p.1:=by unfold DG;rw[h]
def rU(hi:∀f v,Q f v=true->RF (Ai w).Aa w (Ai w).base.get? v f):∀ {Z:TN},Jl Q l Z=true->Ba (Ai w).Aa w (Ai w).base.get? Z l:=by
 induction l with
 |nil=>intro Z h;obtain rfl:=Ze h;show .nil
 |cons f l D=>
  intro Z h;induction Z using Re with
  |nil=>show a7 h
  |cons v Z=>show zA (ar h) λU N=>?_;show .cons (hi f v U) (D N)
def zW(hi:∀f v,Q f v=true->RF (Ai w).Aa w (Ai w).base.get? v f):∀ {y:List WC},Jl (Q1 Q) l y=true->
  (∀e∈y,∃t,e.key=.str (DG e) t)/\Eh (Ai w).Aa w (Ai w).base.get? (y.map λe=>(DG e,e.val)) l/\(y.map λe=>(DG e,e.val)).map (·.1)=(l.map (·.1)).map CH:=by
 induction l with
 |nil=>intro y h;obtain rfl:=Ze h;show⟨λZ h=>(Yl h).elim,.nil,rfl⟩
 |cons f l b=>
  intro y h;induction y using Re with
  |nil=>show a7 h
  |cons e y=>
   show zA (ar h) λa i=>cu (b i) λN u g=>?_;obtain⟨p,U,a⟩:=cP a;show zA (ar a) λc A=>?_;have D:=(oJ U).trans (gv c);show⟨λx P=>?_,?_,congr (T3 List.cons D) g⟩
   ·rcases Zb P with rfl|P
    ·show⟨p.2,(gG U).trans (by rw[oJ U])⟩
    ·show N x P
   ·rw[Ye,D];show .cons (hi _ _ A) u
def acI(w:Wy)(n:Nat):∀f v,Pu w.params n f v=true->RF (Ai w).Aa w (Ai w).base.get? v f:=by
 induction n with
 |zero=>intro f v h;show a7 h
 |succ n Q=>
  intro f v h;induction f using FV.casesOn with
  |Ak=>show eq_of_beq h▸ .Ak
  |Ae b=>show eq_of_beq h▸ .Ae b
  |int i=>obtain⟨p,e,h⟩:=cP h;show(zi e).trans (by rw[Zm h])▸ .int i p.2
  |str l=>
   obtain⟨p,e,h⟩:=cP h;show zA (ar h) λU N=>(gG e).trans (by rw[gv U])▸ .str l p.2 (bz N)
  |tup l=>show aK (yo h) λa Z o z U N D A=>?_;subst z;show .tup U N (rU Q D) A
  |lst l=>show aK (yo h) λa Z o z U N D A=>?_;subst z;show .lst U N (rU Q D) A
  |An l=>
   obtain⟨a,rfl,U,N,h⟩:=aey (k:=Rb (Pu w.params n) l) h;obtain⟨u,h⟩:=ar h;obtain⟨j,h⟩:=ar h;obtain⟨p,e,h⟩:=cP h;show zA (ar h) λD A=>cu (zW Q D) λm q g=>.An (bq w.params U) (λe=>by replace u:=e▸u;show T4 u (by ext)) (abf u N (abg e) m ?_) q (bz A);rw[g];show List.Pairwise.map _ (λa b c e=>c (eG e)) (Zm j)
def K(P:Wx):Frag:=PV.map λa=>(a,Ck P a)
def aaI:(PV.all λa=>Nat.blt a 841)=true:=by decide+kernel
def afS(w:Wy):(K w.params).In (Ai w).base:=by
 have:∀l:WJ,(l.all λa=>Nat.blt a 841)=true->Frag.In (l.map λa=>(a,Ck w.params a)) (H1 w.params):=λl=>by
  induction l with
  |nil=>intro _ a o e;cases e
  |cons b r Q=>
   intro D a o e;show zA (ar D) λU N=>?_;rw[Ye,Xg]at e;cases q:a==b with
   |true=>rw[q]at e;obtain rfl:=Zf e;rw[eq_of_beq q];show bq _ (cb U)
   |false=>rw[q]at e;show Q N a o e
 show this PV aaI
noncomputable def g0:G where
 call:=λZ Z Z Z Z=>False
 loop:=λZ Z Z Z=>False
 own:=λC n=>and (Option.rec false (λZ=>true) (Sx C Eu)) (Option.rec false (λl=>l.any (beq n)) (Sx C IS))
 cls:=λC n=>Bool.rec none (Option.rec none (Sx n) (Sx C Ke)) (Option.rec false (λZ=>true) (Sx C Eu))
 Gy:=λC n=>Bool.rec none (Option.rec none (Sx n) (Sx C JO)) (Option.rec false (λZ=>true) (Sx C Eu))
 FA:=λC n=>Bool.rec none (Option.rec none (Sx n) (Sx C JO)) (beq C 236)
 Gp:=λC n=>Bool.rec none (Option.rec none (Sx n) (Sx C Ke)) (beq C 236)
 FI:=λC=>Option.rec 0 (λa=>a) (Sx C Eu)
 Jy:=λC=>Sx C I8
 canon:=λn=>Option.rec 0 (λa=>a) (Sx n F9)
 con:=λa=>Bool.rec none (some 199) (beq a 236)
 fn:=λa=>Dy.any (beq a)
def Jd(K:Frag)(C:Nat):Bool:=decide (findIn K (.ref C) "__getattribute__"=some (some (.builtin "object.__getattribute__"))/\findIn K (.ref C) "__getattr__"=some none/\findIn K (.ref C) "__setattr__"=some (some (.builtin "object.__setattr__"))/\
 plainOver K C=true/\(clsIn K C).any (·.hasDict)=true)
def jR{K:Frag}{C:Nat}(h:Jd K C=true):CO K C:=
 have h:=Zm h;⟨h.1,h.2.1,h.2.2.1,h.2.2.2.1,h.2.2.2.2⟩
def Nt(K:Frag)(C f:Nat)(x:Wu):Bool:=decide (findIn K (.ref C) x=some (some (.ref f))/\typeIn K (.ref f)=some (.type "function")/\specialIn K (.ref f) "__get__"=some (some (.builtin "function.__get__"))/\takesIn K (.ref f)=some false/\copiedNames.contains x=false/\fnIn K f=true)
def oA{K:Frag}{C f:Nat}(h:Nt K C f x=true):Hv K C f x:=
 have h:=Zm h;⟨h.1,h.2.1,h.2.2.1,h.2.2.2.1,h.2.2.2.2.1,h.2.2.2.2.2⟩
def J9(C:Nat):Bool:=Option.rec false (λZ=>true) (Sx C Eu)
def afH(P:Wx):(Eu.all λp=>and (Jd (K P) p.1) (!beq p.1 236))=true:=by left
def ad6(P:Wx):Jd (K P) 230=true:=by left
def afG(P:Wx):(IS.all λp=>p.2.all λn=>decide (findIn (K P) (.ref p.1) (nm n)=some none))=true:=by left
def aea(P:Wx):(Ke.all λp=>p.2.all λq=>Nt (K P) (Bool.rec p.1 230 (beq p.1 236)) q.2 (nm q.1))=true:=by left
def afF(P:Wx):(Dy.all λa=>fnIn (K P) a)=true:=by left
def afE(P:Wx):(I8.all λp=>decide (makesIn (K P) p.1=true/\findIn (K P) (.ref p.1) "__init__"=some (some (.ref p.2))/\typeIn (K P) (.ref p.2)=some (.type "function")/\keepIn (K P) (.ref p.1)=true/\g0.FI p.1<64))=true:=by left
def ON(P:Wx)(u:Wv)(v:V):Bool:=V.casesOn (motive:=λZ=>Bool) v (λf=>Pu P 8 f u) (λZ=>false) (λa=>u== .ref a) (λZ Z=>false)
def rO(h:ON w.params u v=true):RV (Ai w).Aa (Ai w).w ⟨(Ai w).base.get?,λZ=>none⟩ u v:=by
 induction v using V.casesOn with
 |c f=>show acI w 8 f u h
 |st a=>show eq_of_beq h
 |_=>show a7 h
def OJ(o:Option TM):Wv:=Option.rec .none (λo=>Option.rec .none (λu=>u) o) o
def Ob(P:Wx)(C n:Nat)(v:V):Bool:=and (decide (copiedNames.contains (nm n)=false/\findIn (K P) (.ref C) (nm n)=some (some (OJ (findIn (K P) (.ref C) (nm n))))/\specialIn (K P) (OJ (findIn (K P) (.ref C) (nm n))) "__get__"=some none/\handedIn (OJ (findIn (K P) (.ref C) (nm n)))=true)) (ON P (OJ (findIn (K P) (.ref C) (nm n))) v)
def QE(o:Option Builtin.ObjectAttr.Found):TM:=Af o λo=>match o with| .value u=>some u|_=>none
def acb(h:QE o=some u):o=some (.value u):=by
 show aA (ax h) λo Q h=>?_;subst Q;cases o<;>first|show aw h|show T3 (λu=>some (Builtin.ObjectAttr.Found.value u)) (Zf h)
def MS(P:Wx)(n:Nat)(v:V):Bool:=ob (QE (findObj (K P) 230 (some (Ck P 235)) (nm n))) λu=>and (handedIn u) (ON P u v)
def fD{y:Type}{v:y}{l:List (Nat×y)}(h:Sx n l=some v):(n,v)∈l:=jk h
def jZ{l:WJ}{n:Nat}(h:l.any (beq n)=true):n∈l:=by
 show aA (Wm.mp h) λx P e=>?_;rw[ZC e];show P
def bT{y:Type}{p:Nat×y->Bool}{l:List (Nat×y)}(h:l.all p=true){v:y}(e:Sx n l=some v):p (n,v)=true:=Zd h _ (jk e)
def lk2{y:Type}{l:List (Nat×List (Nat×y))}{v:y}(e:(Bool.rec none (Option.rec none (Sx m) (Sx n l)) b:Option y)=some v):b=true/\∃t,Sx n l=some t/\Sx m t=some v:=by
 cases b with
 |false=>show aw e
 |true=>
  show aA (ax e) λt U N=>⟨rfl,aO t U N⟩
def ad9(P:Wx):(JO.all λp=>Bool.rec (and (!J9 p.1) (p.2.all λq=>MS P q.1 q.2)) (and (!beq p.1 236) (p.2.all λq=>Ob P p.1 q.1 q.2)) (J9 p.1))=true:=by left
def uS(P:Wx):(K P).lookup 236=some (FE 230 (some 235)):=by left
def uT(P:Wx):(K P).lookup 235=some (Ck P 235):=by left
def acW(n:Nat)(h:n<16):nm n=Fk.getD n "":=by
 show beq_iff_eq.mp (Zd (show((List.range 16).all λn=>nm n==Fk.getD n "")=true by decide+kernel) n (List.mem_range.mpr h))
def mT{w:Wy}{C:Nat}(h:J9 C=true):CO (K w.params) C/\beq C 236=false:=by
 obtain⟨v,q,_⟩:=cP h;show zA (ar (bT (afH w.params) q)) λU N=>⟨jR U,Z8 _▸N⟩
def ad8(P:Wx):decide (findIn (K P) (.ref 230) "__contains__"=some (some (.ref 199))/\isFn (K P) (.ref 199)=true)=true:=by left
def afA(P:Wx):(Ke.all λp=>p.2.all λq=>shadowIn (some (Ck P 235)) (nm q.1)==some false)=true:=by left
def yP(w:Wy):FX (Ai w) (K w.params) g0:=by
 show⟨λC n h=>?_,λC n f h=>?_,λC n v h=>?_,λa n v h=>?_,λa n f h=>?_,λa f h=>?_,λC f h=>?_,λf h=>Zd (afF w.params) f (jZ h),acW⟩
 ·show zA (ar h) λU N=>?_;obtain⟨l,q,N⟩:=cP N;show⟨(mT U).1,Zm (Zd (bT (afG w.params) q) n (jZ N))⟩
 ·show eX (lk2 h) λb l q h=>zA (mT (w:=w) b) λZ g=>?_;have N:=bT (bT (aea w.params) q) h;replace N:=g▸N;show⟨Z,oA N⟩
 ·show eX (lk2 h) λb l q h=>?_;have U:=bT (ad9 w.params) q;have b:J9 C=true:=b;replace U:=b▸U;show zA (ar (bT (ar U).2 h)) λN D=>?_;have N:=Zm N;show⟨(mT b).1,N.1,aY _ N.2.1 N.2.2.1 N.2.2.2 (rO D)⟩
 ·show eX (lk2 h) λb l q U=>?_;clear h;obtain rfl:=ZC b;obtain⟨u,e,N⟩:=cP (bT (ar (bT (ad9 w.params) q)).2 U);show zA (ar N) λD A=>⟨230,235,Ck w.params 235,u,uS _,uT _,jR (ad6 _),acb e,D,rO A⟩
 ·show eX (lk2 h) λb l q U=>?_;clear h;obtain rfl:=ZC b;show(aM 230 235 (Ck w.params 235) (uS _) (uT _) (jR (ad6 _)) (oA (bT (bT (aea w.params) q) U)) (eq_of_beq (bT (bT (afA w.params) q) U)))
 ·have h:(Bool.rec none (some 199) (beq a 236):TX)=some f:=h;cases b:beq a 236 with
  |false=>replace h:=b▸h;show aw h
  |true=>
   replace h:=b▸h;obtain rfl:=ZC b;obtain rfl:=Zf h;have O:=Zm (ad8 w.params);show(cg 230 235 (Ck w.params 235) (uS _) (uT _) O.1 O.2)
 ·have U:=Zm (bT (afE w.params) h);show⟨U.1,U.2.1,U.2.2.1,U.2.2.2.1,U.2.2.2.2⟩
def PZ(P:Wx)(x:Wu)(v:V):Bool:=and (!(x==("__debug__":Wu))) (ob (nsFind (Df (Ck P 3)).toArray x) λu=>ON P u v)
def afD(P:Wx):(I9.all λp=>PZ P p.1 p.2)=true:=by left
def Ji:TP:=["len","ord","chr","range","dict","max","min","int","rng2","enumerate","sorted"].map PySem.Str.ofString
def abt(h:blt x=some i):Ji[i]? =some x:=(yN h).2
def afC(P:Wx):(Jb.all λp=>ob Ji[p.1]? λx=>and (!(x==("__debug__":Wu))) (and (nsFind (Df (Ck P 3)).toArray x).isNone (and (bootBuiltins x==some p.2) (!(x==("__name__":Wu))))))=true:=by left
def ns3{w:Wy}(N:(H1 w.params).Ns mainGlobals A)(x:Wu):A x=nsFind (Df (Ck w.params 3)).toArray x:=by
 show fg N λo y D U hd Z u=>?_;obtain rfl:=Zf (U.symm.trans (bq w.params (by ext)));rw[show(Df (Ck w.params 3)).toArray=y by unfold Df;rw[hd];rfl];show(u x).symm
def ctx{w:Wy}(T:TopRead pw Sy A O (H1 w.params)):Ctx (Ai w) (K w.params) SY Sy A O:=by
 have s:=ns3 T.g;show⟨afS w,T,λx i h=>xu h,λx i u U N D=>?_,λx v h=>?_⟩
 ·obtain⟨y,e,P⟩:=cP (bT (afC w.params) D);obtain rfl:=Zf (e.symm.trans (abt N));show zA (ar P) λa P=>zA (ar P) λg P=>zA (ar P) λb d=>⟨Z8 _▸a,(s y).trans (Xo.mp g),?_⟩
  rw[T.builtins y λz=>by rw[z]at d;show a7 d];show eq_of_beq b
 ·have m:(x,v)∈I9:=by
   have h:I9.lookup x=some v:=h;clear T s;revert h;generalize I9=l;intro h;induction l with
   |nil=>cases h
   |cons p r Q=>
    rw[Xg]at h;cases z:x==p.1 with
    |true=>rw[z]at h;clear Q;obtain rfl:=Zf h;rw[eq_of_beq z];show .head _
    |false=>rw[z]at h;show .tail _ (Q h)
  show zA (ar (Zd (afD w.params) _ m)) λU N=>?_;obtain⟨u,Z,D⟩:=cP N;show⟨Z8 _▸U,aO u ((s x).trans Z) (rO D)⟩
def LS(o:Obj):FuncData:=Option.rec default (λf=>f) (Kd o.data)
def OX(b:FuncBody):Option (List WG):=match b with| .stmts b=>some b|_=>none
def y7(h:OX b=some l):b=.stmts l:=by
 cases b<;>first|show aw h|show T3 FuncBody.stmts (Zf h)
def Ap(fd:FuncData):List WG:=Option.rec [] (λb=>b) (OX fd.body)
noncomputable def fd(P:Wx)(a:Nat):FuncData:=LS (Ck P a)
def KZ(P:Wx)(cd:Wv)(q:Wu):Bool:=ob (JF cd) λc=>and (Nat.blt c 841) (ob (NZ (Ck P c).data) λZ=>ob (Af Z[1]? GO) λp=>Cn p.1.cps.toList q.cps.toList)
def NW(P:Wx)(a:Nat):Bool:=and (Nat.blt a 841) (ob (Kd (Ck P a).data) λfd=>and (decide (fd.scope.kind=.function/\fd.globals=3/\fd.builtins=0/\fd.scope.isCoroutine=false)) (and (fd.scope.names.all λx=>x.2 != .cell) (and (ob (OX fd.body) λZ=>true) (KZ P fd.code fd.qualname))))
def afB(P:Wx):Dy.all (NW P)=true:=by left
structure Qv (w:Wy) (a:Nat):Prop where
 lt:a<841
 data:(Ck w.params a).data=.func (fd w.params a)
 kind:(fd w.params a).scope.kind=.function
 glob:(fd w.params a).globals=mainGlobals
 blt:(fd w.params a).builtins=builtinsNs
 co:(fd w.params a).scope.isCoroutine=false
 cell:∀x∈(fd w.params a).scope.names,x.2≠ .cell
 body:(fd w.params a).body=.stmts (Ap (fd w.params a))
 code:(Ai w).base.CodeRec (fd w.params a).code (fd w.params a).qualname
def eV(w:Wy){a:Nat}(h:Dy.any (beq a)=true):Qv w a:=by
 show zA (ar (Zd (afB w.params) a (jZ h))) λk h=>?_;obtain⟨f,u,h⟩:=cP h;have e:fd w.params a=f:=by unfold fd LS;rw[u]
 show zA (ar h) λU h=>zA (ar h) λN h=>zA (ar h) λD A=>?_;have U:=Zm U;obtain⟨b,P,_⟩:=cP D;show⟨cb k,?_,?_,?_,?_,?_,?_,?_,?_⟩<;>rw[e]
 ·show uz u
 ·show U.1
 ·show U.2.1
 ·show U.2.2.1
 ·show U.2.2.2
 ·show λx c=>bne_iff_ne.mp (Zd N x c)
 ·unfold Ap;rw[P];show y7 P
 ·obtain⟨O,i,Q⟩:=cP A;show zA (ar Q) λn l=>?_;obtain⟨Z,m,o⟩:=cP l;obtain⟨p,j,y⟩:=cP o;show aA (ax j) λv z j=>(cI O (Ck w.params O) Z p.2 (iY i) (bq _ (cb n)) (uA m) (by rw[z,gG j,gv y];show T3 (λs=>some (Value.str s p.2)) (T3 PySem.Str.mk Array.toArray_toList)))
def Hx(w:Wy)(c:Nat)(y:TA->WJ->Option Tw):Prop:=
 ∀O s Z b z N,Holds O.F s.heap->(∀a o,(Ai w).base.get? a=some o->s.heap.get? a=some o)->Cw (Ai w).Aa (Ai w).w O Z b->y b z=some N->∃j,BindsTo s (fd w.params c) (Bj (Ai w) Z z) j/\(∀x∈j,(fd w.params c).scope.names.lookup x.1=some .local)/\
   ∀n v,Sx n N=some v->∃u,j.reverse.lookup ((Ai w).nm n)=some u/\RV (Ai w).Aa (Ai w).w O u v
def gD{N:WA}(h:Cw N w g Z u):Z.length=u.length:=by
 induction h with
 |nil=>rfl
 |cons _ _ Q=>show T3 (· +1) Q
def tj{Q:WJ}(hd:Q.Nodup){O:Gh}(N:Cw (Ai w).Aa (Ai w).w O Z A)(n:Nat)(v:V)(h:Sx n (Q.zip A)=some v):
  ∃u,((Q.map nm).zip Z).reverse.lookup (nm n)=some u/\RV (Ai w).Aa (Ai w).w O u v:=by
 have key:∀(l:TO) (k:Wu) (u:Wv),(l.map (·.1)).Nodup->(k,u)∈l->l.lookup k=some u:=by
  intro l k u j c;induction l with
  |nil=>show(Yl c).elim
  |cons p r f=>
   rw[Xg];rw[Ye,List.nodup_cons]at j;rcases Zb c with rfl|c
   ·rw[Xf]
   ·rw[(beq_eq_false_iff_ne.mpr λe=>j.1 (e▸Xr c):(k==p.1)=false)];show f j.2 c
 have s:∀(Q:WJ) (Z:TN) (A:TA),Cw (Ai w).Aa (Ai w).w O Z A->Sx n (Q.zip A)=some v->∃u,(nm n,u)∈(Q.map nm).zip Z/\RV (Ai w).Aa (Ai w).w O u v:=by
  intro Q;induction Q with
  |nil=>intro Z A _ h;show aw h
  |cons m Q f=>
   intro Z A N h;induction A using Re with
   |nil=>show aw h
   |cons x A=>
    obtain⟨u,r,rfl,a,i⟩:=N.inv;rw[List.zip_cons_cons,aq]at h;by_cases q:n=m
    ·rw[Zk q]at h;clear f;obtain rfl:=Zf h;show(aO u (q▸ .head _) a)
    ·rw[Zi q]at h;show aA (f _ _ i h) λu U o=>(aO u (.tail _ U) o)
 show aA (s Q Z A N h) λu c i=>(aO u (key _ _ _ ?_ (List.mem_reverse.mpr c)) i)
 rw[List.map_reverse];show List.pairwise_reverse.mpr (List.Pairwise.imp Ne.symm ?_);have:∀(l:TP) (Z:TN),(l.zip Z).map (·.1)=l.take Z.length:=by
  intro l;induction l with
  |nil=>intro Z;rw[Wn];rfl
  |cons a l f=>intro Z;induction Z using Re with
   |nil=>rfl
   |cons b Z=>show T3 (a:: ·) (f Z)
 rw[this];show List.Sublist.nodup (List.take_sublist _ _) (List.Pairwise.map _ (λa b D e=>D (sM _ _ e)) hd)
def Ah(Q:WJ)(u:TA)(z:WJ):Option Tw:=Bool.rec none (some (Q.zip u)) (and (!BE z) (beq u.length Q.length))
def CD(fd:FuncData)(Q:WJ):Bool:=and (IW Q) (Q.all λn=>decide (fd.scope.names.lookup (nm n)=some .local))
def p7(h:IW l=true):l.Nodup:=kz (λn=>n) (by rw[List.map_id'];show h)
def jU(D:CD (fd w.params y) Q=true){O:Gh}(N:Cw (Ai w).Aa (Ai w).w O Z A)(b:BindsTo s (fd w.params y) U ((Q.map nm).zip Z)):
  ∃j,BindsTo s (fd w.params y) U j/\(∀x∈j,(fd w.params y).scope.names.lookup x.1=some .local)/\∀n v,Sx n (Q.zip A)=some v->∃u,j.reverse.lookup ((Ai w).nm n)=some u/\RV (Ai w).Aa (Ai w).w O u v:=by
 show zA (ar D) λa f=>(ck _ b (λx P=>?_) λn v e=>tj (p7 a) N n v e)
 show aA (Y3.mp (List.of_mem_zip P).1) λn c e=>e▸Zm (Zd f n c)
def pz(h:Ah Q u z=some N):z=[]/\u.length=Q.length/\N=Q.zip u:=by
 unfold Ah at h;cases q:and (!BE z) (beq u.length Q.length)with
 |false=>replace h:=q▸h;show aw h
 |true=>
  replace h:=q▸h;show zA (ar q) λU a=>⟨je U,ZC a,(Zf h).symm⟩
def f6(Q:WJ)(D:CD (fd w.params y) Q=true)(H:∀Z:TN,Z.length=Q.length->bindArgs (fd w.params y) ⟨Z,[]⟩=pure ((Q.map nm).zip Z)):Hx w y (Ah Q):=by
 intro O s Z c b e _ _ N a;show cu (pz a) λz u P=>?_;clear a;subst z P;show jU D N (by rw[aR];show .of_eq (H Z ((gD N).trans u)))
section
variable {w:Wy}{mg mb:Wu->TM}{g:G}{d:Nat}
def uJ(T:TopRead pw Sy mg mb (H1 w.params))(o:CV (Ai w) g (K w.params) SY Sy mg mb d){y:Nat}(i:Dy.any (beq y)=true)(P:cB SY (fd w.params y).scope 60 (Ap (fd w.params y))=x)
  (e:(fd w.params y).scope.isGenerator=false) (v:∀f:Fm,f.cs=(fd w.params y).scope->f.vl=b->f.own=true->(f.tp=some f.env/\f.env.frame=some f.env.locals)->∀t∈Fe SY 60 (Ap (fd w.params y)),∀m,SS (Ai w) g f (d+1) (cS SY f.cs m t) t)
  {c:TA->WJ->Option Tw} (I:Hx w y c)
  (l:∀u z H k,D u z H k->Ab (c u z) λq=>ex g x ⟨q,H,64,false⟩ (fin k)):AB b (Ai w) y (d+2) D:=by
 have F:=eV w i;show nh T F.kind F.glob F.blt F.co e (bq w.params F.lt) F.data F.body F.code F.cell I (λL U O J s A k Q r p N C=>?_) l;show(cY o 60 (De (fd w.params y) L y U b F.kind F.glob F.blt F.cell) rfl (Ap (fd w.params y)) (v _ rfl rfl rfl ⟨rfl,rfl⟩)) O J s A k Q r p ?_ λh Z j a b B E G n=>C h Z j a b B E G n;rw[P];show N
def N6:Nat:=821
def BP(k:NameKind):Bool:=k== .cell
def JC(fd:FuncData):Wu:=((fd.scope.names.filter λx=>BP x.2).map (·.1)).headD ""
def JX(fd:FuncData):Bool:=and (((fd.scope.names.filter λx=>BP x.2).map (·.1))==[JC fd]) (and (fd.scope.names.all λx=>or (!BP x.2) true) (and (fd.scope.names.all λx=>or (!(x.1==JC fd)) (BP x.2)) fd.closure.isEmpty))
def Jc(P:Wx)(a:Nat):Bool:=and (Nat.blt a 841) (ob (Kd (Ck P a).data) λfd=>and (decide (fd.scope.kind=.function/\fd.globals=3/\fd.builtins=0/\fd.scope.isCoroutine=false)) (and (JX fd) (and (ob (OX fd.body) λZ=>true) (KZ P fd.code fd.qualname))))
def ad7(P:Wx):Jc P N6=true:=by left
def iS:∀ {l:List (Wu×NameKind)} {n:Nat} {j:List (Wu×WD)},((l.filter λx=>BP x.2).map (·.1))=[z]->cellsFrom n l j=(z,n)::j:=by
 have none:∀ {l:List (Wu×NameKind)} {n:Nat} {j:List (Wu×WD)},((l.filter λx=>BP x.2).map (·.1))=[]->cellsFrom n l j=j:=by
  intro l;induction l with
  |nil=>intro n j _;rfl
  |cons x r Q=>
   intro n j h;obtain⟨x,k⟩:=x;change(if(k== .cell)=true then _ else cellsFrom n r j)=j;replace h:=List.filter_cons▸h;by_cases q:(k==NameKind.cell)=true
   ·replace h:=(Zk (q))▸h;cases h
   ·rw[Zi q];replace h:=(Zi (q))▸h;show Q h
 intro l;induction l with
 |nil=>intro n j h;cases h
 |cons x r Q=>
  intro n j h;obtain⟨x,k⟩:=x;change(if(k== .cell)=true then cellsFrom (n+1) r ((x,n)::j)else cellsFrom n r j)=_;replace h:=List.filter_cons▸h;by_cases q:(k==NameKind.cell)=true
  ·rw[Zk q];replace h:=(Zk (show BP (x,k).2=true from q))▸h;replace h:=Ye▸h;rw[none (ZI h).2];show T3 (λz=>(z,n)::j) (ZI h).1
  ·rw[Zi q];replace h:=(Zi (show¬BP (x,k).2=true from q))▸h;show Q h
def ly{fd:FuncData}(U:((fd.scope.names.filter λx=>BP x.2).map (·.1))=[JC fd])(N:(fd.scope.names.all λx=>or (!(x.1==JC fd)) (BP x.2))=true)(x:Wu):fd.scope.names.lookup x=some .cell↔x=JC fd:=by
 constructor
 ·intro h;have:x∈((fd.scope.names.filter λx=>BP x.2).map (·.1)):=Y3.mpr (aO _ (List.mem_filter.mpr ⟨mem_of_lookup h,rfl⟩) rfl);rw[U]at this;show Za this
 ·intro h;have:JC fd∈((fd.scope.names.filter λx=>BP x.2).map (·.1)):=by rw[U];show .head _
  show aA (Y3.mp this) λy P e=>?_;cases q:fd.scope.names.lookup x with
  |none=>
   exfalso;have:=List.lookup_eq_none_iff.mp q y ((List.mem_filter.mp P).1);rw[h, ←e]at this;have this:(!(y.1==y.1))=true:=this;rw[Xf]at this;show nomatch this
  |some k=>
   have D:=Zd N _ (mem_of_lookup (n:=x) q);rw[h,Xf]at D;show T3 some (eq_of_beq ((D:(k== .cell)=true)))
structure K9 (w:Wy) (a:Nat):Prop where
 lt:a<841
 data:(Ck w.params a).data=.func (fd w.params a)
 kind:(fd w.params a).scope.kind=.function
 glob:(fd w.params a).globals=mainGlobals
 blt:(fd w.params a).builtins=builtinsNs
 co:(fd w.params a).scope.isCoroutine=false
 CE:(fd w.params a).closure=[]
 one:(((fd w.params a).scope.names.filter λx=>BP x.2).map (·.1))=[JC (fd w.params a)]
 all:((fd w.params a).scope.names.all λx=>or (!(x.1==JC (fd w.params a))) (BP x.2))=true
 body:(fd w.params a).body=.stmts (Ap (fd w.params a))
 code:(Ai w).base.CodeRec (fd w.params a).code (fd w.params a).qualname
def aaS(w:Wy)(h:Jc w.params a=true):K9 w a:=by
 show zA (ar h) λm h=>?_;obtain⟨f,u,h⟩:=cP h;have e:fd w.params a=f:=by unfold fd LS;rw[u]
 show zA (ar h) λU h=>zA (ar h) λN h=>zA (ar h) λD A=>?_;have U:=Zm U;obtain⟨b,P,_⟩:=cP D;show zA (ar N) λQ O=>zA (ar O) λo l=>zA (ar l) λc y=>?_;show⟨cb m,?_,?_,?_,?_,?_,?_,?_,?_,?_,?_⟩<;>rw[e]
 ·show uz u
 ·show U.1
 ·show U.2.1
 ·show U.2.2.1
 ·show U.2.2.2
 ·show Ze y
 ·show eq_of_beq Q
 ·show c
 ·unfold Ap;rw[P];show y7 P
 ·obtain⟨i,k,Q⟩:=cP A;show zA (ar Q) λO l=>?_;obtain⟨Z,n,c⟩:=cP l;obtain⟨p,j,y⟩:=cP c;show aA (ax j) λv z j=>(cI i (Ck w.params i) Z p.2 (iY k) (bq _ (cb O)) (uA n) (by rw[z,gG j,gv y];show T3 (λs=>some (Value.str s p.2)) (T3 PySem.Str.mk Array.toArray_toList)))
def abn(T:TopRead pw Sy mg mb (H1 w.params))(n:CV (Ai w) g (K w.params) SY Sy mg mb d)(F:K9 w y)(P:cB SY (fd w.params y).scope 60 (Ap (fd w.params y))=x)
  (e:(fd w.params y).scope.isGenerator=false) (v:∀f:Fm,f.cs=(fd w.params y).scope->f.own=true->∀t∈Fe SY 60 (Ap (fd w.params y)),∀m,SS (Ai w) g f (d+1) (cS SY f.cs m t) t)
  {c:TA->WJ->Option Tw} (G:Hx w y c) {D:TA->WJ->Tx->(V->Tx->Prop)->Prop}
  (l:∀u z H k,D u z H k->Ab (c u z) λp=>ex g x ⟨p,H,64,false⟩ (fin k)):AB false (Ai w) y (d+2) D:=by
 show lF T F.kind F.glob F.blt F.co e F.CE (bq w.params F.lt) F.data F.body F.code (JC (fd w.params y)) (λL=>iS F.one) (ly F.one F.all) G (λL U O J s A k Q r o N B=>?_) l;show(cY n 60 (KW (fd w.params y) L y U false F.kind F.glob F.blt (JC (fd w.params y)) (iS F.one) (ly F.one F.all)) rfl (Ap (fd w.params y)) (v _ rfl rfl)) O J s A k Q r o ?_ λh Z j a b q C E i=>B h Z j a b q C E i;rw[P];show N
end
end
end Mine.B
namespace Mine.A
abbrev sq(g:G)(b:S)(K:TB):TB:=Lp (ex g b) K
section
variable {g:G}{s:St}{F:TC}{k:TA->TF}{K:TB}
def bh{x y:Prop}(U:b=true->x)(N:b=false->y):S7 b x y:=by cases b;show N rfl;show U rfl
def aW{x y:Prop}(h:b=true)(U:x):S7 b x y:=by subst h;show U
def bH{x y:Prop}(h:b=false)(U:y):S7 b x y:=by subst h;show U
def aa{y:Type}{o:Option y}{a:y}{k:y->Prop}(h:o=some a)(U:k a):Ab o k:=by subst h;show U
def aQ(h:F (.c f) s):SU g (.k f) s (one F):=h
def aj(h:Ab (Sx n s.L) λv=>F v s):SU g (.loc n) s (one F):=h
def bB(h:F v s):SU g (.BR v) s (one F):=h
def ba(h:SU g o s (one λo s=>GB g o n s F)):SU g (.Bb o n) s (one F):=h
def bK(h:SU g o s (one λo s=>SU g i s (one λi s=>DO o i s F))):SU g (.sub o i) s (one F):=h
def d6(h:SU g o s (one λo s=>SU g i s (one λi s=>SU g j s (one λj s=>Gn o i j s F)))):SU g (.Cj o i j) s (one F):=h
def cm(h:SU g a s (one λa s=>SU g b s (one λb s=>Fv D a b s F))):SU g (.bin D a b) s (one F):=h
def aH(h:SU g a s (one λa s=>SU g b s (one λb s=>FH g D a b s λv s=>F (.c (.Ae v)) s))):SU g (.cmp D a b) s (one F):=h
def gM(h:SU g a s (one λa s=>Ab (Am s.H a) λt=>S7 t (SU g b s (one F)) (F a s))):SU g (.and a b) s (one F):=h
def p6(h:SU g a s (one λa s=>Ab (Am s.H a) λt=>S7 t (F a s) (SU g b s (one F)))):SU g (.or a b) s (one F):=h
def ou(h:SU g c s (one λc s=>Ab (Am s.H c) λt=>S7 t (SU g a s (one F)) (SU g b s (one F)))):SU g (.Gi c a b) s (one F):=h
def fO(h:SU g a s λZ s=>Mx i Z s F):SU g (.fn i a) s (one F):=h
def dh(h:SU g a s λZ s=>BL g f Z [] s F):SU g (.call f a) s (one F):=h
def aJ(h:SU g o s (one λo s=>Ab (C4 g o n P s) λm=>SU g a s λZ s=>CL g m n Z P s F)):SU g (.Al o n a P) s (one F):=h
def sG(h:SU g o s (one λo s=>M5 a b o s F)):SU g (.rep o a b) s (one F):=h
def dW(h:SU g l s λZ s=>Ab (Ja Z s.H) λr=>S7 (ble r.1.length 1000) (F (.c (.tup r.1)) (As s r.2)) False):SU g (.tup l) s (one F):=h
def d7(h:SU g l s λZ s=>Ab (Ja Z s.H) λr=>S7 (ble r.1.length 1000) (Ce (.lst r.1) (As s r.2) F) False):SU g (.lst l) s (one F):=h
def gb(h:SU g l s λZ s=>Ab (HT Z) λy=>Ce (.An (Nu y)) s F):SU g (.An l) s (one F):=h
def dt{F:Bool->TF}(h:BN D a (.c y) s λv=>F v s):FH g D a (.c y) s F:=h
def w_o{F:Bool->TF}(h:BN D a (.ob i) s λv=>F v s):FH g D a (.ob i) s F:=h
def w_s{x f:Nat}{a:V}{F:Bool->TF}(U:g.con x=some f)(h:BL g f [.st x,a] [] s λv s=>Ab (Am s.H v) λt=>F t s):FH g 8 a (.st x) s F:=aa U h
def eB(h:Sx i H=some (.lst l)):CE H (.ob i)=some (.lst l):=by
 change Af (Sx i H) _=_;rw[h];rfl
def au(h:k [] s):SU g .nil s k:=h
def ah(h:SU g a s (one λa s=>SU g b s λZ s=>k (a::Z) s)):SU g (.cons a b) s k:=h
def aB(h:K .AZ s):ex g .skip s K:=h
def rM(h:ex g a s (sq g b K)):ex g (.seq a b) s K:=h
def cU(h:ex g b s K):sq g b K .AZ s:=h
def q_r(h:K (.ret v) s):sq g b K (.ret v) s:=h
def d3(h:SU g e s (one λZ s=>ex g b s K)):ex g (.seq (.ex e) b) s K:=h
def aG(h:SU g e s (one λv s=>ex g b (Bw s (put n v s.L)) K)):ex g (.seq (.Aj n e) b) s K:=h
def i6(h:SU g e s (one λv s=>SU g o s (one λo s=>Cy g o n v s λs=>ex g b s K))):ex g (.seq (.Bi o n e) b) s K:=h
def fM(h:Ab (Sx n s.L) λa=>SU g e s (one λy s=>Es D a y s λv s=>ex g b (Bw s (put n v s.L)) K)):ex g (.seq (.DI n D e) b) s K:=h
def zT(h:SU g o s (one λo s=>GB g o n s λa s=>SU g e s (one λy s=>Es D a y s λv s=>Cy g o n v s λs=>ex g b s K))):ex g (.seq (.Gb o n D e) b) s K:=h
def bE(h:SU g c s (one λv s=>Ab (Am s.H v) λt=>S7 t (ex g x s (sq g b K)) (ex g y s (sq g b K)))):ex g (.seq (.iff c x y) b) s K:=h
def fk(h:SU g e s (one λv s=>K (.ret v) s)):ex g (.seq (.ret e) b) s K:=h
def aP{i n C:Nat}{d:Tw}{v:V}(U:Sx i s.H=some (.inst C d))(N:Sx n d=some v)(D:g.own C n=true)(h:F v s):GB g (.ob i) n s F:=by
 show aa U ?_;change G6 g i n s F C d;unfold G6;rw[N];show aW D h
def za{d:Tw}(U:Sx i s.H=some (.inst C d))(N:Sx n d=none)(D:g.cls C n=some f)(h:F (.E9 f i) s):GB g (.ob i) n s F:=by
 show aa U ?_;change G6 g i n s F C d;unfold G6;rw[N,D];show h
def aeC{v:V}(U:g.FA a n=some v)(h:F v s):GB g (.st a) n s F:=aa U h
def w_a{i n C:Nat}{v:V}{k:TF}(u:g.canon n=0)(U:Sx i s.H=some (.inst C d))(N:and (g.own C n) (ble d.length 900)=true)(h:k (As s (put i (.inst C (put n v d)) s.H))):Cy g (.ob i) n v s k:=by
 show aa rfl ?_;rw[u];change Ab (HZ (Sx i s.H)) _;rw[U];show aW N h
def w_m{i n C c j:Nat}{d:Tw}{k:TF}(a:g.canon n=c+1)(u:beq (c+1) 63=false)(Q:ble 64 j=true)(D:Sx j s.H=some o)(A:Sx (c+1) s.H=none)(U:Sx i (DK j s.H++[(c+1,o)])=some (.inst C d))(N:and (g.own C n) (ble d.length 900)=true)
  (h:k (As s (put i (.inst C (put n (.ob (c+1)) d)) (DK j s.H++[(c+1,o)])))):Cy g (.ob i) n (.ob j) s k:=by
 show aa rfl ?_;rw[a];unfold OP;rw[u];show aW Q (aa D ?_);rw[A];change Ab (HZ (Sx i (DK j s.H++[(c+1,o)]))) _;rw[U];show aW N h
def fT(u:g.fn f=true)(N:Z.all FD=true)(D:((lo s.H).all λp=>Dc p.2)=true)(h:g.call f Z P (lo s.H) λv H=>F v (As s (H++hi s.H))):BL g f Z P s F:=
 aW (by rw[u,N,D];rfl) h
def eR(h:BL g f (v::Z) P s F):CL g (.fn f v) n Z P s F:=h
def qM(h:F (.c (.int (a+b))) s):Fv 0 (.c (.int a)) (.c (.int b)) s F:=h
def uR(U:a.length+b.length<=16777216)(h:F (.c (.str (a++b))) s):Fv 0 (.c (.str a)) (.c (.str b)) s F:=⟨U,h⟩
def eW(h:F (.c (.int l.length)) s):Mx 0 [.c (.str l)] s F:=h
def gc(h:F (.ob s.m) ⟨s.L,(s.m,o)::s.H,s.m+1,s.vl⟩):Ce o s F:=h
def rN(h:SU g e s (one λv s=>R7 g y v s λs=>ex g b s K)):ex g (.seq (.GC y e) b) s K:=h
def acf{k:TF}(e:beq y.length l.length=true)(h:Ms g y l s k):R7 g y (.c (.tup l)) s k:=aW e h
def yn{k:TF}(h:k s):Ms g [] [] s k:=h
def gH{k:TF}(h:Ms g y l (Bw s (put n (.c f) s.L)) k):Ms g ((none,n)::y) (f::l) s k:=h
def zS(h:SU g z s (one λv s=>Option.rec (g.loop l [v] s (sq g c K)) (λr=>Dd (ex g b) (C3 O) r.1 r.2 (sq g c K)) (Io v s))):ex g (.seq (.fr l O z b) c) s K:=h
def wO(h:K .AZ s):Dd B Z [] s K:=h
abbrev fo(B:St->TB->Prop)(Z:FV->Tw->Option Tw)(l:Tz)(K:TB):TB:=P2 (Dd B Z l) K
def tW(h:Ab (Z x s.L) λL=>B (Bw s L) (fo B Z l K)):Dd B Z (x::l) s K:=h
abbrev wo(P:TF)(K:TB):TB:=Pg P K
def R6(g:G)(c:X)(b:S)(K:TB)(P:TF)(s:St):Prop:=SU g c s (one λv s=>Ab (Am s.H v) λt=>S7 t (ex g b s (wo P K)) (K .AZ s))
def i5(h:∀P:TF,(∀s,R6 g c b (sq g r K) P s->P s)->P s):ex g (.seq (.wh l c b) r) s K:=h
def aeY{k:TR}(h:k (decide (i=j))):BN 0 (.c (.int i)) (.c (.int j)) s k:=h
def acr{v:V}{b:Bool}{k:TR}(e:DZ v=some b)(h:k b):BN 6 v (.c .Ak) s k:=aa e h
def zx{k:TR}(h:k (decide (a=b))):BN 0 (.c (.str a)) (.c (.str b)) s k:=by
 rw[←aE]at h;show h
end
section
open Mine.B
structure Sm where
 raw:WJ
 place:Int
 Ac:WJ
 size:Int
 off:Int
 AH:Tz
 pl:Int
 pc:Int
 buf:FV
inductive Ct where
 |no
 |live (en:Bool) (n:WJ) (sc:Bool)
 |AM (en:Bool) (n:WJ) (sc:Bool)
abbrev Dp:WJ:=Tg
abbrev Cq:WJ:=Th
abbrev HP:WJ:=Ti
abbrev NN:WJ:=Tj
abbrev NO:WJ:=Tn
def OL(n:WJ)(d:FV)(O:Bool):TG:=[(Dp,.int 3),(HP,.str n),(Cq,d),(NN,.Ae O),(NO,.Ae false)]
def OT(n:WJ):TG:=[(Dp,.int 4),(HP,.str n),(Cq,.lst []),(NN,.Ae false)]
def JH(y:Bool)(n:WJ)(O:Bool):TG:=Bool.rec (OL n (.lst []) O) (OT n) y
def EO(y:Bool)(n:WJ)(O:Bool):TG:=Bool.rec (OL n (.An []) O) (OT n) y
structure Tm where
 state:Nat
 ct:Ct
 q:Option Tz
 tb:TK
def Sf(J:Sm):Tw:=[(264,.E9 148 2),(216,.ob 9),(147,.ob 3),(129,.c (.str J.Ac)),(131,.c (.int J.size)),(130,.c (.int J.off)),(168,.ob 6),(244,.c (.int J.pl)),(243,.c (.int J.pc)),(41,.c J.buf)]
def QG(q:Option Tz)(tb:TK):Tw:=match q with
 |none=>[]
 |some _=>(313,.ob 5)::match tb with
  |none=>[]
  |some b=>[(310,.c (.str b))]
def R1(c:Ct):V:=Ct.casesOn (motive:=λZ=>V) c (.c .Ak) (λZ Z Z=>.ob 32) λZ Z Z=>.ob 32
def PX(c:Ct):Tx:=Ct.casesOn (motive:=λZ=>Tx) c [] (λy n O=>[(32,.An ((JH y n O).map λp=>(p.1,.c p.2)))]) λy n O=>[(32,.Av (.An (EO y n O)))]
def R9(t:Tm):Tw:=(305,.ob 2)::(232,.c .Ak)::(170,.c (.Ae false))::(194,.ob 8)::(302,.E9 t.state 1)::(169,.c (.Ae false))::(144,R1 t.ct)::QG t.q t.tb
def SG(q:Option Tz)(c:Ct):Tx:=match q with
 |none=>PX c
 |some l=>(5,.lst l)::PX c
def Hp(J:Sm)(t:Tm):Tx:=(1,.inst 762 (R9 t))::(2,.inst 166 (Sf J))::(9,.lst [.int 0])::(3,.inst 73 [(311,.c (.str J.raw)),(237,.c (.int J.place))])::(6,.lst J.AH)::(8,.lst [])::SG t.q t.ct
def bZ(J:Sm)(t:Tm):lo (Hp J t)=Hp J t:=by
 obtain⟨st,l,q,tb⟩:=t;cases q<;>cases l<;>rfl
def aaE(c:Ct):((PX c).all λp=>Dc p.2)=true:=by
 cases c with
 |live y n O=>
  change and (((JH y n O).map λp=>(p.1,V.c p.2)).all λp=>FD p.2) true=true;rw[List.all_map,(Zv.mpr λZ Z=>rfl:(JH y n O).all ((λp:WJ×V=>FD p.2)∘λp=>(p.1,V.c p.2))=true)];rfl
 |_=>rfl
def yH(J:Sm)(t:Tm):((Hp J t).all λp=>Dc p.2)=true:=by
 obtain⟨st,l,q,tb⟩:=t;have h:=aaE l;cases l<;>cases q<;>first|show h|(cases tb<;>show h)
def gT(J:Sm)(t:Tm)(h:lo H=Hp J t):((lo H).all λp=>Dc p.2)=true:=by rw[h];show yH J t
def kR(J:Sm)(t:Tm)(h:lo H=Hp J t)(D:k (.c f) (Hp J t)):fin k (.ret (.c f)) ⟨L,H,m,j⟩:=by
 show aa rfl (aW (gT J t h) ?_);rw[h];show D
def yQ(J:Sm)(t:Tm)(h:lo H=Hp J t)(D:k (.c .Ak) (Hp J t)):fin k .AZ ⟨L,H,m,j⟩:=by
 show aa rfl (aW (gT J t h) ?_);rw[h];show D
def b9(J:Sm)(t:Tm)(D:k (.c f) (Hp J t)):fin k (.ret (.c f)) ⟨L,Hp J t,m,j⟩:=kR J t (bZ J t) D
def jC(J:Sm)(t:Tm)(D:k (.c .Ak) (Hp J t)):fin k .AZ ⟨L,Hp J t,m,j⟩:=yQ J t (bZ J t) D
def yR(h:((lo H).all λp=>Dc p.2)=true)(D:k (.c f) (lo H)):fin k (.ret (.c f)) ⟨L,H,m,j⟩:=
 aa rfl (aW h D)
def CQ:S:=.seq (.ret (.or (.Gf (.k (.int 1)) (.loc 134) (.k (.int 8))) (.or (.cmp 0 (.loc 134) (.k (.int 11))) (.or (.Gf (.k (.int 14)) (.loc 134) (.k (.int 31))) (.or (.Gf (.k (.int 127)) (.loc 134) (.k (.int 159))) (.or (.Gf (.k (.int 64976)) (.loc 134) (.k (.int 65007))) (.or (.cmp 8 (.bin 4 (.loc 134) (.k (.int 65536))) (.tup (.cons (.k (.int 65534)) (.cons (.k (.int 65535)) .nil)))) (.Gf (.k (.int 55296)) (.loc 134) (.k (.int 57343)))))))))) .skip
def Kt(c:Int):Bool:=(decide (1<=c)&&decide (c<=8))||(decide (c=11)||((decide (14<=c)&&decide (c<=31))||((decide (127<=c)&&decide (c<=159))||((decide (64976<=c)&&decide (c<=65007))||((decide (65534=Int.fmod c 65536)||decide (65535=Int.fmod c 65536))||(decide (55296<=c)&&decide (c<=57343)))))))
def DR(u:TA)(z:WJ)(H:Tx)(k:V->Tx->Prop):Prop:=∃c:Int,u=[.c (.int c)]/\z=[]/\((lo H).all λp=>Dc p.2)=true/\k (.c (.Ae (Kt c))) (lo H)
def r8:Builtin.divisionGoesByPylong c 65536=false:=by
 unfold Builtin.divisionGoesByPylong;rw[propext Bool.and_eq_false_iff];left;decide
def Ev(g:G)(x:X)(s:St)(v:V):Prop:=∀F:TC,F v s->SU g x s (one F)
section
variable {g:G}{s:St}
def Ev.mj(Q:Ev g a s (.c (.Ae p)))(P:Ev g b s (.c (.Ae q))):Ev g (.or a b) s (.c (.Ae (p||q))):=λk D=>Q _ (by cases p;show P _ D;show D)
theorem Ev.Gf(Q:Ev g a s (.c (.int i)))(P:Ev g b s (.c (.int j)))(u:Ev g c s (.c (.int l))):Ev g (.Gf a b c) s (.c (.Ae (decide (i<=j)&&decide (j<=l)))):=λk D=>Q _ (P _ (bh (λh=>u _ (by rw[h,XB]at D;show D)) λh=>by rw[h,Wg]at D;show D))
def Ev.adS(Q:Ev g a s (.c (.int i)))(P:Ev g b s (.c (.int j))):Ev g (.cmp 0 a b) s (.c (.Ae (decide (i=j)))):=λZ D=>Q _ (P _ D)
def Ev.kk:Ev g (.k f) s (.c f):=λZ D=>D
def Ev.loc(h:Sx n s.L=some v):Ev g (.loc n) s v:=λZ D=>aa h D
end
def jK(g:G)(xs kws H k)(h:DR xs kws H k):Ab (Ah [134] xs kws) λN=>ex g CQ ⟨N,H,64,false⟩ (fin k):=by
 show bO h λc Q P D a=>?_;clear h;subst Q P;change ex g CQ ⟨[(134,.c (.int c))],H,64,false⟩ (fin k);have l:Ev g (.loc 134) ⟨[(134,.c (.int c))],H,64,false⟩ (.c (.int c)):=.loc rfl;have O:Ev g (X.cmp 8 (X.bin 4 (X.loc 134) (X.k (.int 65536))) (X.tup (X.cons (X.k (.int 65534)) (X.cons (X.k (.int 65535)) X.nil)))) ⟨[(134,.c (.int c))],H,64,false⟩ (.c (.Ae (decide (65534=Int.fmod c 65536)||decide (65535=Int.fmod c 65536)))):=λF z=>by
  conv=>whnf
  show⟨⟨by ext,r8⟩,?_⟩
  conv=>whnf
  revert z;cases decide (65534=Int.fmod c 65536)<;>cases decide (65535=Int.fmod c 65536)<;>show id
 show fk (Ev.mj (Ev.Gf .kk l .kk) (.mj (.adS l .kk) (.mj (.Gf .kk l .kk) (.mj (.Gf .kk l .kk) (.mj (.Gf .kk l .kk) (.mj O (.Gf .kk l .kk)))))) _ (yR D a))
def EA:S:=.seq (.Aj 233 (.Cj (.Bb (.loc 292) 311) (.Bb (.loc 292) 237) (.bin 0 (.Bb (.loc 292) 237) (.loc 296)))) (.seq (.Gb (.loc 292) 237 0 (.fn 0 (.cons (.loc 233) .nil))) (.seq (.ret (.loc 233)) .skip))
def Du(n:Int)(J:Sm):WJ×Sm:=let p:=slice J.raw (some J.place) (some (J.place+n));(p, {J with place:=J.place+p.length})
def IB(u:TA)(z:WJ)(H:Tx)(k:V->Tx->Prop):Prop:=∃J t n,u=[.ob 3,.c (.int n)]/\z=[]/\H=Hp J t/\k (.c (.str (Du n J).1)) (Hp (Du n J).2 t)
def aa6(xs kws H k)(h:IB xs kws H k):Ab (Ah [292,296] xs kws) λN=>ex g0 EA ⟨N,H,64,false⟩ (fin k):=by
 show fg h λJ t n z j U D=>?_;clear h;subst z j U;show b9 (Du n J).2 t D
def dE(J:Sm)(t:Tm)(u:g.fn f=true)(N:Z.all FD=true)(y:lo s.H=Hp J t)(h:g.call f Z P (Hp J t) λv H=>F v (As s (H++hi s.H))):BL g f Z P s F:=
 fT u N (gT J t y) (by rw[y];show h)
def AY:S:=.seq (.Aj 129 (.Bb (.loc 292) 129)) (.seq (.Aj 214 (.Al (.loc 129) 4 (.cons (.k (.str [10])) (.cons (.k (.int 0)) (.cons (.loc 221) .nil))) [])) (.seq (.Aj 241 (.bin 0 (.Bb (.loc 292) 244) (.loc 214))) (.seq (.Aj 195 (.Al (.loc 129) 5 (.cons (.k (.str [10])) (.cons (.k (.int 0)) (.cons (.loc 221) .nil))) [])) (.seq (.iff (.cmp 0 (.loc 195) (.k (.int (-1)))) (.seq (.Aj 240 (.bin 0 (.Bb (.loc 292) 243) (.loc 221))) .skip) (.seq (.Aj 240 (.bin 1 (.loc 221) (.bin 0 (.loc 195) (.k (.int 1))))) .skip)) (.seq (.ret (.tup (.cons (.loc 241) (.cons (.loc 240) .nil)))) .skip)))))
def CA(J:Sm)(o:Int):Int×Int:=(J.pl+((J.Ac.take o.toNat).count 10:Nat),if Dn 10 (J.Ac.take o.toNat)= -1 then J.pc+o else o-(Dn 10 (J.Ac.take o.toNat)+1))
def EE(u:TA)(z:WJ)(H:Tx)(k:V->Tx->Prop):Prop:=∃J t o,u=[.ob 2,.c (.int o)]/\z=[]/\H=Hp J t/\(0<=o/\o<2 ^ 63)/\k (.c (.tup [.int (CA J o).1,.int (CA J o).2])) (Hp J t)
def lh(xs kws H k)(h:EE xs kws H k):Ab (Ah [292,221] xs kws) λN=>ex g0 AY ⟨N,H,64,false⟩ (fin k):=by
 show aK h λJ t o z j U a D=>?_;subst z j U
 conv=>whnf
 show⟨⟨rfl,a⟩,?_⟩
 conv=>whnf
 show⟨⟨rfl,a⟩,?_⟩;unfold CA at D
 conv=>whnf
 show bh (λh=>?_) λh=>?_
 ·rw[Zk (Zm h)]at D;show b9 J t D
 ·rw[Zi (ZA h)]at D;show b9 J t D
def Bm:S:=.seq (.iff (.cmp 7 (.loc 119) (.BR (.c .Ak))) (.seq (.iff (.cmp 0 (.Bb (.loc 292) 130) (.k (.int 0))) (.seq (.Bi (.loc 292) 129 (.bin 0 (.loc 119) (.Bb (.loc 292) 129))) (.seq (.Gb (.loc 292) 131 0 (.k (.int 1))) .skip)) (.seq (.Gb (.loc 292) 130 1 (.k (.int 1))) (.seq (.Mh (.cmp 0 (.sub (.Bb (.loc 292) 129) (.Bb (.loc 292) 130)) (.loc 119))) .skip))) .skip) .skip) .skip
def Dk(u:TA)(z:WJ)(H:Tx)(k:V->Tx->Prop):Prop:=
 (∃J t,u=[.ob 2,.c .Ak]/\z=[]/\H=Hp J t/\k (.c .Ak) (Hp J t))\/
 (∃J t c,u=[.ob 2,.c (.str [c])]/\z=[]/\H=Hp J t/\J.off≠0/\Co J.Ac (J.off-1)=some c/\k (.c .Ak) (Hp {J with off:=J.off-1} t))
def xe(xs kws H k)(h:Dk xs kws H k):Ab (Ah [292,119] xs kws) λN=>ex g0 Bm ⟨N,H,64,false⟩ (fin k):=by
 rcases h with ⟨J,t,rfl,rfl,rfl,D⟩|⟨J,t,c,rfl,rfl,rfl,j,hi,D⟩
 ·show jC J t D
 ·conv=>whnf
  show bH (Zs j) ?_
  conv=>whnf
  show aa hi ?_
  conv=>whnf
  show aW ((aE [c] [c]).trans (Zr rfl)) (jC {J with off:=J.off-1} t D)
abbrev Aq:=TA->WJ->Tx->(V->Tx->Prop)->Prop
def B9(j:List (Nat×Aq))(y:Nat):Aq:=Option.rec (λZ Z Z Z=>False) (λs=>s) (Sx y j)
def Ax(j:List (Nat×Aq)):G:= {g0 with call:=B9 j}
abbrev S1:Nat×AO:=(1,.inst 762 [])
abbrev S2:Nat×AO:=(2,.inst 166 [])
def Oy(l:Tw):Nat×AO:=(2,.inst 166 ((264,.E9 148 2)::(216,.ob 9)::l))
abbrev S9:Nat×AO:=(9,.lst [.int 0])
def S3(d:WJ):Nat×AO:=(3,.inst 73 [(311,.c (.str d)),(237,.c (.int 0))])
def CY:S:=.seq (.Bi (.loc 292) 311 (.loc 311)) (.seq (.Bi (.loc 292) 237 (.k (.int 0))) .skip)
def EF:Aq:=λu z H k=>∃d,u=[.ob 3,.c (.str d)]/\z=[]/\H=[S1,Oy [],S9,(3,.inst 73 [])]/\k (.c .Ak) [S1,Oy [],S9,S3 d]
def lj(xs kws H k)(h:EF xs kws H k):Ab (Ah [292,311] xs kws) λN=>ex g0 CY ⟨N,H,64,false⟩ (fin k):=by
 show bO h λd Q P z D=>?_;clear h;subst Q P z;show D
def Bn:S:=.seq (.Bi (.loc 292) 129 (.k (.str []))) (.seq (.Bi (.loc 292) 131 (.k (.int 0))) (.seq (.Bi (.loc 292) 130 (.k (.int 0))) (.seq (.Bi (.loc 292) 168 (.lst .nil)) (.seq (.Bi (.loc 292) 244 (.k (.int 0))) (.seq (.Bi (.loc 292) 243 (.k (.int 0))) (.seq (.Bi (.loc 292) 41 (.k .Ak)) .skip))))))
def JE(d:WJ):Sm:=⟨d,0,[],0,0,[],0,0,.Ak⟩
def Hf:Aq:=λu z H k=>∃d,u=[.ob 2]/\z=[]/\H=[S1,Oy [(147,.ob 3)],S9,S3 d]/\k (.c .Ak) [S1,(2,.inst 166 (Sf (JE d))),S9,S3 d,(6,.lst [])]
def xh(xs kws H k)(h:Hf xs kws H k):Ab (Ah [292] xs kws) λN=>ex g0 Bn ⟨N,H,64,false⟩ (fin k):=by
 show bO h λd Q P z D=>?_;clear h;subst Q P z;show D
def JL:List (Nat×Aq):=[(84,DR),(70,IB),(119,EE),(63,EF),(105,Hf),(163,Dk)]
noncomputable def g1:G:=Ax JL
def AQ:S:=.seq (.Aj 305 (.new 73 (.cons (.loc 299) .nil))) (.seq (.ret (.loc 305)) .skip)
def DQ:Aq:=λu z H k=>∃d,u=[.ob 2,.c (.str d)]/\z=[]/\H=[S1,Oy [],S9]/\k (.ob 3) [S1,Oy [],S9,S3 d]
def jJ(xs kws H k)(h:DQ xs kws H k):Ab (Ah [292,299] xs kws) λN=>ex g1 AQ ⟨N,H,64,false⟩ (fin k):=by
 show bO h λd Q P z D=>?_;clear h;subst Q P z
 conv=>whnf
 show(aY d rfl rfl rfl D)
def adq(J:Sm)(t:Tm):hi (Hp J t)=[]:=by
 obtain⟨st,l,q,tb⟩:=t;cases q<;>cases l<;>rfl
def eh(J:Sm)(t:Tm)(u:g.fn f=true)(N:Z.all FD=true)(y:s.H=Hp J t)(h:g.call f Z P (Hp J t) λv H=>F v ⟨s.L,H,s.m,s.vl⟩):BL g f Z P s F:=by
 show dE J t u N (by rw[y,bZ]) ?_;rw[y,adq];simp only[Zu];show h
def Bc:S:=.seq (.GC [(none,199),(none,135)] (.Al (.loc 292) 85 (.cons (.Bb (.loc 292) 130) .nil) [])) (.seq (.ret (.tup (.cons (.bin 0 (.loc 199) (.k (.int 1))) (.cons (.loc 135) .nil)))) .skip)
def DA:Aq:=λu z H k=>∃J t,u=[.ob 2]/\z=[]/\H=Hp J t/\(0<=J.off/\J.off<2 ^ 63)/\k (.c (.tup [.int ((CA J J.off).1+1),.int (CA J J.off).2])) (Hp J t)
def hV(xs kws H k)(h:DA xs kws H k):Ab (Ah [292] xs kws) λN=>ex g1 Bc ⟨N,H,64,false⟩ (fin k):=by
 show dH h λJ t P z j U D=>?_;clear h;subst P z j;show eh J t rfl rfl rfl (aM J t J.off rfl rfl rfl U (b9 J t D))
def KG:S:=.seq (.iff (.call 84 (.cons (.fn 1 (.cons (.loc 118) .nil)) .nil)) (.seq (.ex (.Al (.Bb (.loc 292) 168) 0 (.cons (.k (.str To)) .nil) [])) .skip) .skip) .skip
def Aw:S:=.seq (.fr 102 [118] (.loc 145) KG) .skip
def SF:FV:=.str To
def Ao(l:WJ):Tz:=(l.filter λ(c:Nat)=>Kt (c:Int)).map λZ=>SF
def IF:Aq:=λu z H k=>∃J t l,u=[.ob 2,.c (.str l)]/\z=[]/\H=Hp J t/\J.AH.length+l.length<=16777216/\k (.c .Ak) (Hp {J with AH:=J.AH++Ao l} t)
def k6(x:Nat)(l:WJ):Ao (x::l)=(if Kt (x:Int)=true then [SF]else [])++Ao l:=by
 unfold Ao;by_cases h:Kt x=true
 ·rw[Zk h,X9 (by show h)];rfl
 ·rw[Zi h,Wa (by show h)];rfl
def qC(t:Tm)(K:TB)(l:WJ):∀(J:Sm) (L:Tw) (m:Nat),Sx 292 L=some (.ob 2)->J.AH.length+l.length<=16777216->
  (∀U,K .AZ ⟨U,Hp {J with AH:=J.AH++Ao l} t,m,false⟩)->
  Dd (ex g1 KG) (C3 [118]) (l.map λx=>.str [x]) ⟨L,Hp J t,m,false⟩ K:=by
 induction l with
 |nil=>
  intro J L m v P D;have:=D L;rw[show J.AH++Ao []=J.AH from Zu _]at this;show this
 |cons x l Q=>
  intro J L m v P D;have A:Sx 292 (put 118 (.c (.str [x])) L)=some (.ob 2):=by rw[ao,Zi (by ext)];show v
  rw[Zj]at P;rw[k6, ←Zo]at D
  conv=>whnf
  show aa ((ao 118 118 _ _).trans (Zk rfl)) ?_
  conv=>whnf
  show eh J t rfl rfl rfl (aY x rfl rfl (gT J t (bZ J t)) ?_);rw[bZ]
  conv=>whnf
  show bh (λh=>?_) λh=>?_
  ·rw[Zk (show Kt (x:Int)=true from h)]at D
   conv=>whnf
   show aa A ?_
   conv=>whnf
   show⟨by lia,?_⟩;show Q {J with AH:=J.AH++[SF]} _ m A ?_ D;rw[Zg];change _+1+_<=_;show Zh (Zz (ZZ _ 1 _)) P
  ·rw[Zi (by rw[show Kt (x:Int)=false from h];decide),Zu]at D;show Q J _ m A (Yj P) D
def aa9(xs kws H k)(h:IF xs kws H k):Ab (Ah [292,145] xs kws) λN=>ex g1 Aw ⟨N,H,64,false⟩ (fin k):=by
 show aK h λJ t l z j U P D=>?_;clear h;subst z j U;show qC t _ l J _ 64 rfl P λa=>jC {J with AH:=J.AH++Ao l} t D
def JK:List (Nat×Aq):=(112,DQ)::(126,DA)::(148,IF)::JL
noncomputable def g2:G:=Ax JK
def Be:S:=.seq (.Bi (.loc 292) 264 (.Bb (.loc 292) 122)) (.seq (.Bi (.loc 292) 216 (.lst (.cons (.k (.int 0)) .nil))) (.seq (.Bi (.loc 292) 147 (.Al (.loc 292) 222 (.cons (.loc 299) .nil) [])) (.seq (.ex (.Al (.loc 292) 265 .nil [])) .skip)))
def Fh:Aq:=λu z H k=>∃d,u=[.ob 2,.c (.str d)]/\z=[]/\H=[S1,S2]/\k (.c .Ak) [S1,(2,.inst 166 (Sf (JE d))),S9,S3 d,(6,.lst [])]
def mQ(xs kws H k)(h:Fh xs kws H k):Ab (Ah [292,299] xs kws) λN=>ex g2 Be ⟨N,H,64,false⟩ (fin k):=by
 show bO h λd Q P z D=>?_;clear h;subst Q P z
 conv=>whnf
 show(aY d rfl rfl rfl ?_)
 conv=>whnf
 show(aY d rfl rfl rfl D)
def d5(P:z.length<=y.length)(a:0<y.length):∀(l:WJ) (n:Nat),n<=l.length->(AS y z n l).length+n<=l.length
 | [],n,h=>by
  have:n=0:=by simpa using h
  subst this;show Zq 0
 |c::r,0,_=>by
  rw[mf];split
  ·rename_i h;have j:=List.IsPrefix.length_le (Xj.mp h);rw[Zj]at j;have:=d5 P a r (y.length-1) (Nat.sub_le_of_le_add j);rw[Zg,Zj];show Zh (ZV (Zh P (XC.mp (Zq (_-1)))) _) (Zh (Zz (Xp _ _)) (Z1 this))
  ·show Nat.le_add_of_sub_le (d5 P a r 0 (ZF _))
 |c::r,n+1,h=>by
  rw[Zj];show Nat.le_add_of_sub_le (d5 P a r n (by rw[Zj]at h;show ZN h))
def AV(l:WJ):WJ:=AS [13] [10] 0 (AS [13,10] [10] 0 l)
def fP(l:WJ):(AS [13,10] [10] 0 l).length<=l.length:=d5 (by ext) (by ext) l 0 (ZF _)
def d8(l:WJ):(AV l).length<=l.length:=Zh (d5 (by ext) (by ext) _ 0 (ZF _)) (fP l)
def LR(J:Sm)(d:WJ):Sm:= {J with AH:=J.AH++Ao d,Ac:=AV d,size:=((AV d).length:Int)}
def KA:S:=.seq (.iff (.Bb (.loc 292) 264) (.seq (.ex (.Al (.loc 292) 264 (.cons (.loc 145) .nil) [])) .skip) .skip) (.seq (.Aj 145 (.rep (.loc 145) [13,10] [10])) (.seq (.Aj 145 (.rep (.loc 145) [13] [10])) (.seq (.Bi (.loc 292) 129 (.loc 145)) (.seq (.Bi (.loc 292) 131 (.fn 0 (.cons (.loc 145) .nil))) (.seq (.ret (.k (.Ae true))) .skip)))))
def KC:S:=.seq (.iff (.cmp 4 (.fn 0 (.cons (.loc 145) .nil)) (.k (.int 1))) (.seq (.Aj 196 (.fn 1 (.cons (.sub (.loc 145) (.k (.int (-1)))) .nil))) (.seq (.iff (.or (.cmp 0 (.loc 196) (.k (.int 13))) (.Gf (.k (.int 55296)) (.loc 196) (.k (.int 56319)))) (.seq (.Bi (.loc 292) 41 (.sub (.loc 145) (.k (.int (-1))))) (.seq (.Aj 145 (.Cj (.loc 145) (.k .Ak) (.k (.int (-1))))) .skip)) .skip) .skip)) .skip) KA
def Ky:S:=.iff (.Bb (.loc 292) 41) (.seq (.Aj 145 (.bin 0 (.Bb (.loc 292) 41) (.loc 145))) (.seq (.Bi (.loc 292) 41 (.k .Ak)) .skip)) (.seq (.iff (.not (.loc 145)) (.seq (.ret (.k (.Ae false))) .skip) .skip) .skip)
def Kz:S:=.seq Ky KC
def KD:S:=.seq (.GC [(some (.loc 292),244),(some (.loc 292),243)] (.Al (.loc 292) 85 (.cons (.Bb (.loc 292) 131) .nil) [])) (.seq (.Bi (.loc 292) 129 (.k (.str []))) (.seq (.Bi (.loc 292) 131 (.k (.int 0))) (.seq (.Bi (.loc 292) 130 (.k (.int 0))) (.seq (.Aj 145 (.Al (.Bb (.loc 292) 147) 260 (.cons (.loc 131) .nil) [])) Kz))))
def AX:S:=.seq (.iff (.cmp 6 (.loc 131) (.k .Ak)) (.seq (.Aj 131 (.Bb (.loc 292) 45)) .skip) .skip) KD
def rd2{m:Nat}{K:TB}(U:Sx 292 L=some (.ob 2))(N:Sx 145 L=some (.c (.str data)))(P:J.AH.length+data.length<=1048576)
  (D:∀b,K (.ret (.c (.Ae true))) ⟨b,Hp (LR J data) t,m,false⟩):ex g2 KA ⟨L,Hp J t,m,false⟩ K:=by
 have a:∀v,Sx 292 (put 145 v L)=some (.ob 2):=λv=>by rw[ao,Zi (by ext)];show U
 have A:∀v w,Sx 292 (put 145 v (put 145 w L))=some (.ob 2):=λv w=>by rw[ao,Zi (by ext)];show a _
 have hd:∀(v:V) (L:Tw),Sx 145 (put 145 v L)=some v:=λv L=>(ao 145 145 _ _).trans (Zk rfl)
 conv=>whnf
 show aa U ?_
 conv=>whnf
 show aa U ?_
 conv=>whnf
 show aa N ?_
 conv=>whnf
 show eh J t rfl rfl rfl (aM J t data rfl rfl rfl (by lia) ?_)
 conv=>whnf
 show aa (o:=Sx 145 L) N ?_
 conv=>whnf
 show⟨⟨rfl,by show Xk P⟩,?_⟩
 conv=>whnf
 show aa (o:=Sx 145 (put 145 _ L)) (hd _ _) ?_
 conv=>whnf
 show⟨⟨rfl,Zh (fP _) (by show Xk P)⟩,?_⟩
 conv=>whnf
 show aa (o:=Sx 145 (put 145 _ (put 145 _ L))) (hd _ _) ?_
 conv=>whnf
 show aa (o:=Sx 292 (put 145 _ (put 145 _ L))) (A _ _) ?_
 conv=>whnf
 show aa (o:=Sx 145 (put 145 _ (put 145 _ L))) (hd _ _) ?_
 conv=>whnf
 show aa (o:=Sx 292 (put 145 _ (put 145 _ L))) (A _ _) ?_
 conv=>whnf
 show D _
def EK(c:Nat):Bool:=decide ((c:Int)=13)||(decide ((55296:Int)<=(c:Int))&&decide ((c:Int)<=56319))
def tI{y:Type}(a:y)(r:List y):Co (a::r) (-1)=(a::r)[r.length]? :=by
 have e:(-1+((r.length+1:Nat):Int))=(r.length:Nat):=Int.subNatNat_of_le (Z0 1 r.length);change(Bool.rec (Bool.rec none (a::r)[(-1+((r.length+1:Nat):Int)).toNat]? (decide (0<= -1+((r.length+1:Nat):Int)))) (a::r)[(-1:Int).toNat]? (decide ((0:Int)<= -1)):Option y)=_;rw[e,Zr (Yx r.length)];rfl
def kJ(h:1<d.length):Co d (-1)=some (d.getLastD 0):=by
 cases d with
 |nil=>cases h
 |cons a r=>show(tI a r).trans (List.getLast?_eq_getElem?.symm.trans (by rw[List.getLastD_eq_getLast?,Xw (by simp)];rfl))
def lX(d:WJ)(h:1<d.length):slice d none (some (-1))=d.dropLast:=by
 change(d.take (Bool.rec (-1+(d.length:Int)).toNat (min (-1:Int).toNat d.length) (decide ((0:Int)<= -1)))).drop 0=_;rw[(rfl:decide ((0:Int)<= -1)=false)];change(d.take (-1+(d.length:Int)).toNat).drop 0=_;rw[Yp,List.dropLast_eq_take,(show(-1+(d.length:Int)).toNat=d.length-1 from(T3 Int.toNat (Int.add_comm (-1) _)).trans (Int.toNat_sub _ 1))]
def M6(J:Sm)(d:WJ):Sm:=if 1<d.length/\EK (d.getLastD 0)=true then LR {J with buf:=.str [d.getLastD 0]} d.dropLast else LR J d
def rd1{m:Nat}{K:TB}(U:Sx 292 L=some (.ob 2))(N:Sx 145 L=some (.c (.str d)))(P:J.AH.length+d.length<=1048576)
  (D:∀b,K (.ret (.c (.Ae true))) ⟨b,Hp (M6 J d) t,m,false⟩):ex g2 KC ⟨L,Hp J t,m,false⟩ K:=by
 unfold M6 at D
 conv=>whnf
 show aa N ?_
 conv=>whnf
 show bh (λh=>?_) λh=>?_
 ·have a:1<d.length:=by show Xa.mp (Zm h)
  have l:Ev g2 (.loc 196) ⟨put 196 (.c (.int (d.getLastD 0:Nat))) L,Hp J t,m,false⟩ (.c (.int (d.getLastD 0:Nat))):=.loc ((ao 196 196 _ _).trans (Zk rfl));have j:Sx 145 (put 196 (.c (.int (d.getLastD 0))) L)=some (.c (.str d)):=by rw[ao,Zi (by ext)];show N
  have g:Sx 292 (put 196 (.c (.int (d.getLastD 0))) L)=some (.ob 2):=by rw[ao,Zi (by ext)];show U
  conv=>whnf
  show aa N ?_
  conv=>whnf
  show aa (kJ a) (Ev.mj (.adS l .kk) (.Gf .kk l .kk) _ (aa rfl (bh (λu=>?_) λu=>?_)))
  ·rw[Zk ⟨a,u⟩]at D
   conv=>whnf
   show aa (o:=Sx 145 (put 196 _ L)) j ?_
   conv=>whnf
   show aa (o:=Co d (-1)) (kJ a) ?_
   conv=>whnf
   show aa (o:=Sx 292 (put 196 _ L)) g ?_
   conv=>whnf
   show aa (o:=Sx 145 (put 196 _ L)) j (rd2 (L:=put 145 (.c (.str (slice d none (some (-1))))) _) (J:= {J with buf:=.str [d.getLastD 0]}) (data:=d.dropLast) (by rw[ao,Zi (by ext)];show g) ?_ (by rw[List.length_dropLast];change J.AH.length+_<=_;show Zh (ZH (Wl _ 1) _) P) D);rw[lX _ a];show(ao 145 145 _ _).trans (Zk rfl)
  ·rw[Zi (by rw[show EK _=false from u];intro q;cases q.2)]at D;show rd2 g j P D
 ·rw[Zi λq=>by have:=ZA h;lia]at D;show rd2 U N P D
def HX(f:FV):WJ:=Option.rec [] (λb=>b) (aS f)
def FZ(J:Sm):Sm:= {J with pl:=(CA J J.size).1,pc:=(CA J J.size).2,Ac:=[],size:=0,off:=0}
def Mt(n:Int)(J:Sm):WJ:=HX J.buf++(Du n (FZ J)).1
def Hi(n:Int)(J:Sm):Sm:=if Mt n J=[]then(Du n (FZ J)).2 else M6 {(Du n (FZ J)).2 with buf:=.Ak} (Mt n J)
def Jw(n:Int)(J:Sm):Bool:= !decide (Mt n J=[])
structure Ml (n:Int) (J:Sm):Prop where
 buf:J.buf=.Ak\/∃c,J.buf=.str [c]
 size:0<=J.size/\J.size<2 ^ 63
 AH:J.AH.length+(Mt n J).length<=1048576
def rd4{d j D:WJ}{n:Int}{K:TB}(a:[c].length+D.length<=16777216)(b:K .AZ ⟨[(292,.ob 2),(131,.c (.int n)),(145,.c (.str ([c]++D)))],Hp ⟨d,g,j,size,l,AH,pl,s,.Ak⟩ t,64,false⟩):
  ex g2 Ky ⟨[(292,.ob 2),(131,.c (.int n)),(145,.c (.str D))],Hp ⟨d,g,j,size,l,AH,pl,s,.str [c]⟩ t,64,false⟩ K:=⟨a,b⟩
def rd3{K:TB}(P:J.buf=.Ak\/∃c,J.buf=.str [c])(b:J.AH.length+(HX J.buf++D).length<=1048576)
  (e:∀h,K (.ret (.c (.Ae (!decide (HX J.buf++D=[]))))) ⟨h,Hp (if HX J.buf++D=[]then J else M6 {J with buf:=.Ak} (HX J.buf++D)) t,64,false⟩):
  ex g2 Kz ⟨[(292,.ob 2),(131,.c (.int n)),(145,.c (.str D))],Hp J t,64,false⟩ K:=by
 obtain⟨d,g,j,size,l,AH,pl,s,u⟩:=J;rcases P with U|⟨c,U⟩<;>cases U
 ·cases D with
  |nil=>show e _
  |cons a D=>
   rw[Zi (by rintro ⟨⟩)]at e;show rd1 (L:=[(292,.ob 2),(131,.c (.int n)),(145,.c (.str (a::D)))]) rfl rfl b e
 ·have f:[c].length+D.length<=16777216:=by
   have b:AH.length+([c]++D).length<=1048576:=b;rw[Zg]at b;lia
  rw[Zi (by rintro ⟨⟩)]at e;show rM (rd4 f (rd1 rfl rfl b e))
def rd0{K:TB}(h:Ml n J)(b:∀a,K (.ret (.c (.Ae (Jw n J)))) ⟨a,Hp (Hi n J) t,64,false⟩):ex g2 KD ⟨[(292,.ob 2),(131,.c (.int n))],Hp J t,64,false⟩ K:=by
 obtain⟨U,N,D⟩:=h
 conv=>whnf
 show eh J t rfl rfl rfl (aM J t J.size rfl rfl rfl N ?_)
 conv=>whnf
 show eh (FZ J) t rfl rfl rfl (cg (FZ J) t n rfl rfl rfl (rd3 U D b))
def EC:Aq:=λu z H k=>∃J t n,(u=[.ob 2,.c (.int n)]\/u=[.ob 2]/\n=10240)/\z=[]/\H=Hp J t/\Ml n J/\k (.c (.Ae (Jw n J))) (Hp (Hi n J) t)
def Ed(Q:WJ)(d:FV)(u:TA)(z:WJ):Option Tw:=
 List.casesOn z (Bool.rec (Bool.rec none (some (Q.zip (u++[.c d]))) (beq (u.length+1) Q.length)) (some (Q.zip u)) (beq u.length Q.length)) λZ Z=>none
def lg(xs kws H k)(h:EC xs kws H k):Ab (Ed [292,131] .Ak xs kws) λN=>ex g2 AX ⟨N,H,64,false⟩ (fin k):=by
 show aK h λJ t n b j U D c=>?_;clear h;subst j U;have u:∀a,fin k (.ret (.c (.Ae (Jw n J)))) ⟨a,Hp (Hi n J) t,64,false⟩:=λa=>b9 (Hi n J) t c;rcases b with rfl|⟨rfl,rfl⟩
 ·show rd0 D u
 ·show rd0 D u
abbrev rp(l:WJ):WJ:=AS [13,10] [10] 0 l
def ma:∀(a b:WJ),¬(a.getLast?=some 13/\b.head?=some 10)->rp (a++b)=rp a++rp b
 | [],b,_=>rfl
 | [c],b,h=>by
  have n1:¬[13,10].isPrefixOf [c]=true:=by simp[List.isPrefixOf]
  have n2:¬[13,10].isPrefixOf (c::b)=true:=λq=>by
   cases b with
   |nil=>show n1 q
   |cons x r=>
    simp only[List.isPrefixOf,Zp,Yw]at q;show h ⟨by simp[←q.1],by simp[←q.2.1]⟩
  change AS _ _ 0 (c::b)=AS _ _ 0 (c::[])++_;rw[dC n1,dC n2];rfl
 |c::x::r,b,h=>by
  by_cases q:[13,10].isPrefixOf (c::x::r)=true
  ·have A:[13,10].isPrefixOf (c::x::(r++b))=true:=by simp only[List.isPrefixOf,Zp]at q⊢;show⟨q.1,q.2.1,trivial⟩
   have D:¬(r.getLast?=some 13/\b.head?=some 10):=λt=>h ⟨by
    cases r with
    |nil=>simp at t
    |cons y r=>rw[X8];show t.1,t.2⟩
   change AS _ _ 0 (c::x::(r++b))=AS _ _ 0 (c::x::r)++_;rw[i7 (by ext) q,i7 (by ext) A];change 10::rp (r++b)=(10::rp r)++rp b;rw[ma r b D];rfl
  ·have A:¬[13,10].isPrefixOf (c::x::(r++b))=true:=λt=>q (by simp only[List.isPrefixOf,Zp]at t⊢;show⟨t.1,t.2.1,trivial⟩);change AS _ _ 0 (c::x::(r++b))=AS _ _ 0 (c::x::r)++_;rw[dC q,dC A];change c::rp ((x::r)++b)=(c::rp (x::r))++rp b;rw[ma (x::r) b (show¬((x::r).getLast?=some 13/\b.head?=some 10) from λt=>h ⟨by rw[X8];show t.1,t.2⟩)];rfl
def PI(c:Nat):Nat:=if c=13 then 10 else c
def vF:∀l:WJ,AS [13] [10] 0 l=l.map PI:=by
 intro l;induction l with
 |nil=>
  show rfl
 |cons c r Q=>
  rw[mf];by_cases h:c=13
  ·subst h;rw[Zk ((ja [13] (13::r)).mpr rfl)];rw[Q];rfl
  ·rw[Zi (by simp only[List.isPrefixOf,Bool.and_true,Yw];show λe=>h e.symm),Q,Ye];unfold PI;rw[Zi h]
def gz(l:WJ):AV l=(rp l).map PI:=vF _
def kB(h:¬(a.getLast?=some 13/\b.head?=some 10)):AV (a++b)=AV a++AV b:=by rw[gz,gz,gz,ma a b h,Z7]
def jh(h:l≠[]):AV l≠[]:=by
 cases l with
 |nil=>show T4 rfl h
 |cons c r=>
  rw[gz];rw[show rp (c::r)=_ from mf];split<;>simp
def zV(c:Nat):∀l, -1<=Dn c l:=by
 intro l;induction l with
 |nil=>
  show Int.le_refl (-1)
 |cons x r Q=>
  rw[rS];split
  ·show Int.le_add_one Q
  ·split<;>lia
def vE(c:Nat)(y:WJ):∀x,Dn c (x++y)=if Dn c y= -1 then Dn c x else x.length+Dn c y:=by
 intro x;induction x with
 |nil=>
  split
  ·assumption
  ·simp
 |cons a x Q=>
  have g2:=zV c y;rw[Y2];change(if 0<=Dn c (x++y)then Dn c (x++y)+1 else if a=c then 0 else-1)=if Dn c y= -1 then(if 0<=Dn c x then Dn c x+1 else if a=c then 0 else-1)else _;rw[Q];by_cases h:Dn c y= -1
  ·rw[Zk h,Zk h]
  ·rw[Zi h,Zi h,Zk (Int.add_nonneg (Yx _) (Int.lt_iff_le_and_ne.mpr ⟨g2,λq=>h q.symm⟩)),Zj];lia
def EM(d:WJ):Int:=d.length-(Dn 10 d+1)
def EG(d:WJ):Int:=(d.count 10:Nat)
def nW{o:Int}{n:Nat}(D:J.pl=EG g)(a:J.pc=EM g)(U:o=n)(j:n<=J.Ac.length):CA J o=(EG (g++J.Ac.take n),EM (g++J.Ac.take n)):=by
 subst U;unfold CA;rw[D,a];rw[Yv];have u:(J.Ac.take n).length=n:=by rw[ZG];show ZO j
 congr 1
 ·unfold EG;rw[List.count_append];show Y7 (List.count 10 g) (List.count 10 (List.take n J.Ac))
 ·unfold EM;rw[vE,Zg,u];split<;>lia
structure G7 (J:Sm) (d r:WJ) (e m p o:Nat) (d0 b:WJ):Prop where
 place:J.place=p
 pr:p<=J.raw.length
 off:J.off=o
 size:J.size=J.Ac.length
 oc:o<=J.Ac.length
 buf:b=[]/\J.buf=.Ak\/b=[13]/\J.buf=.str [13]
 dd:d=d0++J.Ac.take o
 rr:r=J.Ac.drop o++AV (b++J.raw.drop p)
 pl:J.pl=EG d0
 pc:J.pc=EM d0
 mm:m=(Ao (b++J.raw.drop p)).length
 AH:J.AH=List.replicate e SF
 raw:J.raw.length<=10240
 cut:∀c∈J.raw,EK c=true->c=13
 em:e+m<=10240
 dr:d.length+r.length<=10240
def View(J:Sm)(d r:WJ)(e m:Nat):Prop:=∃p o g b,G7 J d r e m p o g b
def g9(a b:WJ):Ao (a++b)=Ao a++Ao b:=by unfold Ao;rw[List.filter_append,Z7]
def g8(a:WJ):Ao a=List.replicate (Ao a).length SF:=by unfold Ao;simp[List.map_const']
def mP(a:WJ):(Ao a).length<=a.length:=by rw[ZD];show List.length_filter_le _ _
def G7.aab{e m p o:Nat}{g b:WJ}(h:G7 J d r e m p o g b):CA J J.size=(EG (g++J.Ac),EM (g++J.Ac)):=by
 have:=nW h.pl h.pc h.size (Zq _);replace this:=YC▸this;show this
def mnl{a b c d e:Nat}(h:a+min b c+(c-b+d)<=e):a+c<=e:=Zh (Zz ((T3 (a+ ·) ((Xp _ _).trans ((T3 (c-b+ ·) (Nat.min_comm b c)).trans (Nat.sub_add_min_cancel c b))).symm).trans (Yn _ _ _).symm)) (Zh (ZH (ZR _ d) _) h)
def bV(l k:Nat):DL l (k:Int)=min k l:=by
 unfold DL;rw (occs:=.all) [Zr (show 0<=(k:Int) by show Yx k),Yv]
def vL{J:Sm}{p n:Nat}(U:J.place=p)(N:p<=J.raw.length):(Du (n:Int) (FZ J)).1=(J.raw.drop p).take n:=by
 change(J.raw.take (DL J.raw.length (J.place+n))).drop (DL J.raw.length J.place)=_;rw[U,bV,ZO N, ←Wj,Wf,YQ]
def i8{d r:WJ}{n:Nat}(hn:2<=n)(h:View J d r e m):Ml (n:Int) J/\∃y e' R,r=J.Ac.drop J.off.toNat++y/\e'+R=e+m/\R<=m/\(n=10240->R=0)/\
  View (Hi (n:Int) J) (d++J.Ac.drop J.off.toNat) y e' R/\(Hi (n:Int) J).off=0/\(Jw (n:Int) J=false->y=[]/\(Hi (n:Int) J).Ac=[])/\(Jw (n:Int) J=true->(Hi (n:Int) J).Ac≠[]):=by
 show bu h λp o I b h=>?_;have ho:J.off.toNat=o:=by rw[h.off];show Yv _
 have hd:d++J.Ac.drop o=I++J.Ac:=by rw[h.dd,Zo,Yc]
 have hA:=vL (n:=n) h.place h.pr;have hb:HX J.buf=b:=by rcases h.buf with ⟨U,Z⟩|⟨U,Z⟩<;>rw[U,Z]<;>rfl
 have V:Mt n J=b++(J.raw.drop p).take n:=by unfold Mt;rw[hb,hA]
 have z:J.raw.drop p=(J.raw.drop p).take n++(J.raw.drop p).drop n:=(Yc _ _).symm;have t:(Du n (FZ J)).2.place=((p+((J.raw.drop p).take n).length:Nat):Int):=by
  rw[show(Du (n:Int) (FZ J)).2.place=J.place+((Du (n:Int) (FZ J)).1.length:Int) from rfl,hA,h.place];show Y7 p (List.take n (List.drop p J.raw)).length
 have E:J.raw.drop (p+((J.raw.drop p).take n).length)=(J.raw.drop p).drop n:=by
  rw[←YI,ZG];by_cases q:n<=(J.raw.drop p).length
  ·rw[ZO q]
  ·rw[Nat.min_eq_right (by show Nat.le_of_not_ge q),List.drop_length,YD (by show Nat.le_of_not_ge q)]
 have L:p+((J.raw.drop p).take n).length<=J.raw.length:=by rw[ZG,ZM];show Zh (ZH (Yt _ _) p) (Zz (YV h.pr))
 have u:(b++(J.raw.drop p).take n).length<=10241:=by
  have:b.length<=1:=by rcases h.buf with ⟨U,_⟩|⟨U,_⟩<;>rw[U]<;>decide
  have:=h.raw;rw[Zg];lia
 have a:=h.em;have v:=h.dr;have O:=h.mm;have l:=h.aab;have hcl:J.Ac.length<=10240:=by
  rw[h.dd,h.rr,Zg,Zg,ZG,ZM]at v;show Zh (Z0 _ _) (mnl v)
 rw[ho];generalize x:(J.raw.drop p).take n=A at*;generalize k:(J.raw.drop p).drop n=B at*;have Q:n=10240->B=[]:=λq=>by
  rw[←k];show YD (by rw[ZM,q];have:=h.raw;show Zh (Wl _ _) this)
 have g:A.length<n->B=[]:=λq=>by
  rw[←k];show YD ?_;rw[←x,ZG]at q;lia
 have w:∀c∈A,c∈J.raw:=λc f=>by rw[←x]at f;show List.mem_of_mem_drop (List.mem_of_mem_take f)
 show⟨⟨?_,?_,by rw[V,show J.AH.length=e by rw[h.AH,Yd]];show Zh (Z9 (ZK a) u) (by ext)⟩,?_⟩
 ·rcases h.buf with ⟨_,Z⟩|⟨_,Z⟩
  ·show .inl Z
  ·show .inr (yE _ Z)
 ·rw[h.size];lia
 show(yE (AV (b++(A++B))) ?_);have M:r=J.Ac.drop o++AV (b++(A++B)):=by rw[h.rr,z]
 rw[z]at O;unfold Hi Jw;rw[V];by_cases P:b++A=[]
 ·rw[Zk P,Zr P];show zA (Xy.mp P) λS W=>?_;clear hb V u P;subst S W;have T:B=[]:=g (by rw[ZW];show Nat.zero_lt_of_lt hn);clear k Q E g;subst T;show(eY e m M rfl (Zq _) (λX=>by rw[O];rfl) (bR p 0 (I++J.Ac) [] ?_) rfl (λX=>⟨rfl,rfl⟩) λq=>(by cases q));have hbn:J.buf=.Ak:=by rcases h.buf with ⟨_,Z⟩|⟨U,_⟩;show Z;cases U
  have H:J.raw.drop p=[]:=z;show⟨by rw[t];rfl,h.pr,rfl,rfl,ZF _,.inl ⟨rfl,hbn⟩,by rw[hd];show(Zu _).symm,?_,?_,?_,?_,h.AH,h.raw,h.cut,a,?_⟩
  ·change AV []=[]++AV ([]++J.raw.drop p);rw[H];rfl
  ·change(CA J J.size).1=_;rw[l]
  ·change(CA J J.size).2=_;rw[l]
  ·change m=(Ao ([]++J.raw.drop p)).length;rw[H,O];rfl
  ·rw[hd];rw[h.dd,h.rr]at v;have e0:(AV ([]++([]++[]))).length=0:=rfl;rw[e0];simp only[Zg,ZG,ZM]at v⊢;have:=mnl v;show this
 ·rw[Zi P,Zs P];unfold M6;have i:(I++J.Ac).length+(AV (b++(A++B))).length<=10240:=by
   rw[←hd,Zg];rw[M,Zg]at v;show Zh (Zz (Yn _ _ _)) v
  by_cases f:1<(b++A).length/\EK ((b++A).getLastD 0)=true
  ·rw[Zk f];have D:(b++A).getLastD 0=(b++A).getLast P:=by rw[List.getLastD_eq_getLast?,Xw P];rfl
   have s:(b++A).getLastD 0=13:=by
    have F:(b++A).getLastD 0∈b++A:=by rw[D];show List.getLast_mem P
    rcases Yi.mp F with q|q
    ·rcases h.buf with ⟨U,_⟩|⟨U,_⟩
     ·rw[U]at q;cases q
     ·rw[U]at q f;simpa[U] using q
    ·show h.cut _ (w _ q) f.2
   have C:(b++A).dropLast++[13]=b++A:=by have:=List.dropLast_concat_getLast P;rw[←D,s]at this;show this
   have N:AV (b++(A++B))=AV (b++A).dropLast++AV ([13]++B):=by
    rw[←Zo, ←C,Zo];rw[List.dropLast_concat];show kB (by intro q;have:=q.2;simp at this)
   have j:(Ao (b++(A++B))).length=(Ao (b++A).dropLast).length+(Ao ([13]++B)).length:=by
    rw[←Zo, ←C,Zo,List.dropLast_concat,g9,Zg]
   have hdl:(b++A).dropLast≠[]:=λq=>by have:=T3 List.length q;rw[List.length_dropLast,ZW]at this;lia
   show(eY (e+(Ao (b++A).dropLast).length) (Ao ([13]++B)).length M ((Yn _ _ _).trans (T3 _ (O.trans j).symm)) (Zh (Z0 _ _) (Zz (O.trans j).symm)) (λq=>by rw[Q q];rfl) (bR (p+A.length) 0 (I++J.Ac) [13] ?_) rfl (λq=>(by cases q)) λX=>jh hdl);rw[hd];show⟨t,L,rfl,rfl,ZF _,.inr ⟨rfl,by rw[s];rfl⟩,by simp,?_,?_,?_,?_,?_,h.raw,h.cut,Zh (Zz ((Yn _ _ _).trans (T3 _ (O.trans j).symm))) a,i⟩
   ·change AV (b++(A++B))=(AV (b++A).dropLast).drop 0++AV ([13]++J.raw.drop (p+A.length));rw[Yp,E,N]
   ·change(CA J J.size).1=_;rw[l]
   ·change(CA J J.size).2=_;rw[l]
   ·change(Ao ([13]++B)).length=(Ao ([13]++J.raw.drop (p+A.length))).length;rw[E]
   ·change J.AH++Ao (b++A).dropLast=_;rw[h.AH,g8,Yd,List.replicate_append_replicate]
  ·rw[Zi f];have G:¬((b++A).getLast?=some 13/\B.head?=some 10):=by
    rintro ⟨q1,q2⟩;by_cases Y:1<(b++A).length
    ·show f ⟨Y,?_⟩;rw[List.getLastD_eq_getLast?,q1];rfl
    ·have:B=[]:=g (by rw[Zg]at Y;show ZJ (Yb (Z0 _ _) (Nat.lt_of_not_le Y)) hn);rw[this]at q2;cases q2
   have N:AV (b++(A++B))=AV (b++A)++AV B:=by rw[←Zo];show kB G
   have j:(Ao (b++(A++B))).length=(Ao (b++A)).length+(Ao B).length:=by rw[←Zo,g9,Zg]
   show(eY (e+(Ao (b++A)).length) (Ao B).length M ((Yn _ _ _).trans (T3 _ (O.trans j).symm)) (Zh (Z0 _ _) (Zz (O.trans j).symm)) (λq=>by rw[Q q];rfl) (bR (p+A.length) 0 (I++J.Ac) [] ?_) rfl (λq=>(by cases q)) λX=>jh P);rw[hd];show⟨t,L,rfl,rfl,ZF _,.inl ⟨rfl,rfl⟩,by simp,?_,?_,?_,?_,?_,h.raw,h.cut,Zh (Zz ((Yn _ _ _).trans (T3 _ (O.trans j).symm))) a,i⟩
   ·change AV (b++(A++B))=(AV (b++A)).drop 0++AV ([]++J.raw.drop (p+A.length));rw[Yp,E,N];rfl
   ·change(CA J J.size).1=_;rw[l]
   ·change(CA J J.size).2=_;rw[l]
   ·change(Ao B).length=(Ao ([]++J.raw.drop (p+A.length))).length;rw[E];rfl
   ·change J.AH++Ao (b++A)=_;rw[h.AH,g8,Yd,List.replicate_append_replicate]
def View.dJ(h:View J d r e m):0<=J.off/\J.off<=J.size/\J.size=J.Ac.length/\J.size<2 ^ 63:=by
 show bu h λp o g b h=>?_;have v:=h.dr;rw[h.dd,h.rr,Zg,Zg,ZG,ZM]at v;rw[h.off,h.size];show⟨Yx o,Int.ofNat_le.mpr h.oc,rfl,Int.lt_of_le_of_lt (Int.ofNat_le.mpr (Zh (Z0 _ _) (mnl v))) (by ext)⟩
def View.bound(h:View J d r e m):d.length+r.length<=10240:=by show bu h λp o g b h=>?_;show h.dr
def View.aab{d r:WJ}{e m:Nat}(h:View J d r e m):CA J J.off=(EG d,EM d):=by
 show bu h λp o g b h=>?_;rw[nW h.pl h.pc h.off h.oc, ←h.dd]
def View.pass(h:View J d r e m)(n:Nat)(j:J.off.toNat+n<=J.Ac.length):
  View {J with off:=J.off+n} (d++(J.Ac.drop J.off.toNat).take n) (r.drop n) e m/\r=(J.Ac.drop J.off.toNat).take n++r.drop n:=by
 show bu h λp o g b h=>?_;have a:J.off.toNat=o:=by rw[h.off];show Yv _
 rw[a]at j⊢;have U:r.drop n=J.Ac.drop (o+n)++AV (b++J.raw.drop p):=by
  rw[h.rr,Wt (by rw[ZM];show Nat.le_sub_of_add_le' j),YI]
 have Z:r=(J.Ac.drop o).take n++r.drop n:=by
  rw[U, ←Zo, ←YI,Yc];show h.rr
 show⟨bR p (o+n) g b ?_,Z⟩;show⟨h.place,h.pr,by rw[h.off];show Y7 o n,h.size,j,h.buf,?_,U,h.pl,h.pc,h.mm,h.AH,h.raw,h.cut,h.em,?_⟩
 ·rw[h.dd,Zo];congr 1;show(List.take_add ..).symm
 ·have:=h.dr;have D:=T3 List.length Z;simp only[Zg]at D this⊢;show Zh (Zz ((Yn _ _ _).trans (T3 _ D.symm))) this
def dP{y:Type}(l:List y)(o:Nat):Co l (o:Int)=l[o]? :=by
 unfold Co;rw (occs:=.all) [Zr (show 0<=(o:Int) by show Yx o),Yv]
def View.char(h:View J d r e m)(a:J.off<J.size):∃c u,r=c::u/\Co J.Ac J.off=some c/\View {J with off:=J.off+1} (d++[c]) u e m:=by
 have P:=h.dJ;have N:J.off.toNat<J.Ac.length:=(Int.toNat_lt P.1).mpr (P.2.2.1▸a);obtain⟨v,D⟩:=h.pass 1 (Nat.succ_le_of_lt N);have U:(J.Ac.drop J.off.toNat).take 1=[J.Ac[J.off.toNat]]:=by rw[Yh N];rfl
 rw[U]at v D;show(a8 _ _ D ?_ v);rw[←Zy N, ←dP];congr 1;show(XY P.1).symm
def View.iu(h:View J (d++[c]) r e m)(a:0<J.off):J.off≠0/\Co J.Ac (J.off-1)=some c/\View {J with off:=J.off-1} d (c::r) e m:=by
 show bu h λp o g b h=>?_;have U:=h.off;obtain⟨D,rfl⟩:∃D,o=D+1:=(yE (o-1) ((Nat.sub_add_cancel (Int.natCast_pos.mp (U▸a))).symm))
 have hd:=h.dd;have N:=Nat.lt_of_succ_le h.oc;rw[List.take_succ_eq_append_getElem N, ←Zo]at hd;show zA (List.append_inj' hd rfl) λf Z=>?_;have Z:=one_inj (T3 Str.mk (T3 List.toArray Z));show⟨by show Ne.symm (Int.ne_of_lt a),?_,bR p D g b ?_⟩
 ·rw[(show J.off-1=D by show Int.sub_eq_iff_eq_add.mpr U),dP,Zy N,Z]
 ·show⟨h.place,h.pr,by show Int.sub_eq_iff_eq_add.mpr U,h.size,Yo N,h.buf,f,?_,h.pl,h.pc,h.mm,h.AH,h.raw,h.cut,h.em,?_⟩
  ·rw[h.rr,Z, ←Y2, ←Yh N]
  ·have:=h.dr;simp only[Zg,Zj,ZW]at this⊢;lia
def View.zero(U:d.length<=10240)(N:∀c∈d,EK c=true->c=13):View (JE d) [] (AV d) 0 (Ao d).length:=
 (bR 0 0 [] [] ⟨rfl,ZF _,rfl,rfl,Zq _,.inl ⟨rfl,rfl⟩,rfl,rfl,rfl,rfl,rfl,rfl,U,N,by have:=mP d;lia,by have:=d8 d;simp;show Zh this U⟩)
section
open Mine.B
def JJ:List (Nat×Aq):=(98,Fh)::(141,EC)::JK
noncomputable def g3:G:=Ax JJ
def KH:S:=.seq (.Aj 130 (.Bb (.loc 292) 130)) (.seq (.Aj 119 (.sub (.Bb (.loc 292) 129) (.loc 130))) (.seq (.Bi (.loc 292) 130 (.bin 0 (.loc 130) (.k (.int 1)))) (.seq (.ret (.loc 119)) .skip)))
def Bq:S:=.seq (.iff (.cmp 5 (.Bb (.loc 292) 130) (.Bb (.loc 292) 131)) (.seq (.iff (.not (.Al (.loc 292) 261 .nil [])) (.seq (.ret (.BR (.c .Ak))) .skip) .skip) .skip) .skip) KH
def Fg:Aq:=λu z H k=>∃J t d r e m,u=[.ob 2]/\z=[]/\H=Hp J t/\View J d r e m/\∀Z A O,A+O=e+m->O<=m->(J.off=J.size->O=0)->
 match r with
 | []=>View Z d [] A O->k (.c .Ak) (Hp Z t)
 |c::r'=>View Z (d++[c]) r' A O->0<Z.off->k (.c (.str [c])) (Hp Z t)
def oy(h:(!b)=true):b=false:=by cases b;rfl;cases h
def iE(h:(!b)=false):b=true:=by cases b;cases h;rfl
def ch1(v:View J d r e m)(U:J.off<J.size)
  (D:∀c u,r=c::u->View {J with off:=J.off+1} (d++[c]) u e m->k (.c (.str [c])) (Hp {J with off:=J.off+1} t)):ex g3 KH ⟨[(292,.ob 2)],Hp J t,64,false⟩ (fin k):=by
 show bA (v.char U) λc u a hi P=>?_
 conv=>whnf
 show aa hi (b9 {J with off:=J.off+1} t (D c u a P))
def abd(xs kws H k)(h:Fg xs kws H k):Ab (Ah [292] xs kws) λB=>ex g3 Bq ⟨B,H,64,false⟩ (fin k):=by
 show cX h λJ t d r e m a Q A v f=>?_;subst a Q A;have L:=v.dJ
 conv=>whnf
 show bh (λh=>?_) λh=>?_
 ·have h:=Zm h;obtain⟨C,y,p,x,D,N,O,w,P,l,u,G⟩:=i8 (n:=10240) (by ext) v;have i:J.Ac.drop J.off.toNat=[]:=YD (Int.ofNat_le.mp (XQ (XQ (Int.le_of_eq L.2.2.1.symm) h) (Int.self_le_toNat _)));rw[i,YL]at D;rw[i,Zu]at P;subst D
  conv=>whnf
  show eh J t rfl rfl rfl (aM J t 10240 (.inr ⟨rfl,rfl⟩) rfl rfl C ?_)
  conv=>whnf
  show bh (λq=>?_) λq=>?_
  ·show zA (u (oy q)) λz o=>?_;clear v u;subst z;show b9 (Hi 10240 J) t (f _ p x N O (λZ=>w rfl) P)
  ·have o:=XW.mpr (G (iE q));have U:=P.dJ;show ch1 P (l▸U.2.2.1▸Int.natCast_pos.mpr o) λc I D E=>?_;clear v P u;subst D;show f _ p x N O (λZ=>w rfl) E (Int.lt.intro (XA (T3 HAdd.hAdd (id (YS l))) (↑0+1)))
 ·have h:=ZA h;show ch1 v (Int.lt_of_not_ge h) λc I D P=>?_;clear v;subst D;show f _ e m rfl (Zq _) (λq=>T4 q (by lia)) P (by lia)
def L5:X:=.and (.cmp 1 (.loc 160) (.Bb (.loc 292) 131)) (.cmp 0 (.cmp 8 (.sub (.Bb (.loc 292) 129) (.loc 160)) (.loc 124)) (.loc 225))
def L6:S:=.seq (.DI 160 0 (.k (.int 1))) .skip
def N5:S:=.seq (.iff (.not (.Al (.loc 292) 261 .nil [])) (.seq .brk .skip) .skip) .skip
def LX:S:=.seq (.ex (.Al (.loc 269) 0 (.cons (.Cj (.Bb (.loc 292) 129) (.Bb (.loc 292) 130) (.k .Ak)) .nil) [])) N5
def N4:S:=.seq (.ex (.Al (.loc 269) 0 (.cons (.Cj (.Bb (.loc 292) 129) (.Bb (.loc 292) 130) (.loc 160)) .nil) [])) (.seq (.Bi (.loc 292) 130 (.loc 160)) (.seq .brk .skip))
def LY:S:=.seq (.iff (.cmp 0 (.loc 160) (.Bb (.loc 292) 130)) (.seq (.iff (.cmp 1 (.Bb (.loc 292) 130) (.Bb (.loc 292) 131)) (.seq .brk .skip) .skip) .skip) (.seq (.iff (.cmp 1 (.loc 160) (.Bb (.loc 292) 131)) N4 .skip) .skip)) LX
def LZ:S:=.seq (.Aj 160 (.Bb (.loc 292) 130)) (.seq (.wh 110 L5 L6) LY)
def P7:S:=.seq (.Aj 248 (.Al (.k (.str [])) 2 (.cons (.loc 269) .nil) [])) (.seq (.ret (.loc 248)) .skip)
def AR:S:=.seq (.Aj 269 (.lst .nil)) (.seq (.wh 108 (.k (.Ae true)) LZ) P7)
abbrev L1(v:FV)(op:Bool)(j:Int):Tw:=[(292,.ob 2),(124,.c v),(225,.c (.Ae op)),(269,.ob 64),(160,.c (.int j))]
def MG(v:FV)(p:TU):Prop:=∀(c:Nat) (k:TR),k (p c)->BN.mem (.str [c]) v k
def B1(x y:Bool):Bool:=Bool.rec (!y) y x
def ad3{K:TB}{J:Sm}(f:MG v p)(y:Sx 2 H=some (.inst 166 (Sf J)))(z:J.size=J.Ac.length)
  (O:∀s,R6 g3 L5 L6 K P s->P s) (n:Nat):∀(e:Nat),e+n=J.Ac.length->
  K .AZ ⟨L1 v op ((e+((J.Ac.drop e).takeWhile λc=>B1 (p c) op).length:Nat):Int),H,m,false⟩->P ⟨L1 v op (e:Nat),H,m,false⟩:=by
 induction n with
 |zero=>
  intro e a D;have u:J.Ac.drop e=[]:=YD (Zz (id (YS a)));have U:(!decide (e=J.size))=false:=by rw[Zr (Nat.ToInt.of_eq rfl (id (YS z)) a)];rfl
  rw[u]at D;show O _ ?_
  conv=>whnf
  show aP y rfl rfl ?_
  conv=>whnf
  show bH U (bH U D)
 |succ n Q=>
  intro e a D;have N:e<J.Ac.length:=by lia
  have u:=Yh N;have U:(!decide (e=J.size))=true:=by rw[Zs (by lia)];rfl
  rw[u]at D;show O _ ?_
  conv=>whnf
  show aP y rfl rfl ?_
  conv=>whnf
  show aW U ?_
  conv=>whnf
  show aP y rfl rfl ?_
  conv=>whnf
  show aa ((dP _ _).trans (Zy N)) ?_
  conv=>whnf
  show f _ _ ?_
  conv=>whnf
  show bh (λh=>?_) λh=>?_
  ·have h:=h;show Q (e+1) ((ZZ _ 1 _).trans a) ?_;rw[Xi (p:=λc=>B1 (p c) op) h,Zj, ←Yn,ZZ]at D;show D
  ·have h:B1 (p J.Ac[e]) op=false:=h;rw[XN (by rw[h];decide)]at D;show D
abbrev tw(p:TU)(op:Bool)(r:WJ):WJ:=r.takeWhile λc=>B1 (p c) op
abbrev dw(p:TU)(op:Bool)(r:WJ):WJ:=r.dropWhile λc=>B1 (p c) op
def HH(b:Bool)(acc:TL)(J:Sm)(t:Tm):Tx:=match b with
 |true=>(64,.lst (acc.map .str))::Hp J t
 |false=>Hp J t++[(64,.lst (acc.map .str))]
def zk{x y:WJ}(h:(x.takeWhile q).length=x.length):(x++y).takeWhile q=x++y.takeWhile q/\(x++y).dropWhile q=y.dropWhile q:=by
 induction x with
 |nil=>show⟨rfl,rfl⟩
 |cons a x Q=>
  cases SG:q a with
  |true=>
   rw[Xi SG]at h;rw[Y2,Xi SG,List.dropWhile_cons_of_pos SG,Y2];have:=Q (Nat.add_right_cancel h);show⟨by rw[this.1],this.2⟩
  |false=>
   rw[XN (by rw[SG];decide)]at h;cases h
def ve{x y:WJ}(h:(x.takeWhile q).length<x.length):(x++y).takeWhile q=x.take (x.takeWhile q).length/\(x++y).dropWhile q=x.drop (x.takeWhile q).length++y:=by
 induction x with
 |nil=>simp at h
 |cons a x Q=>
  cases SG:q a with
  |true=>
   rw[Xi SG]at h⊢;rw[Y2,Xi SG,List.dropWhile_cons_of_pos SG,Zj,List.take_succ_cons,List.drop_succ_cons];have:=Q (by simpa using h);show⟨by rw[this.1],this.2⟩
  |false=>
   rw[XN (by rw[SG];decide),Y2,XN (by rw[SG];decide),List.dropWhile_cons_of_neg (by rw[SG];decide)];show⟨rfl,rfl⟩
def vz(l:WJ)(h:a<=l.length):slice l (some (a:Int)) none=l.drop a:=by
 change(l.take l.length).drop (DL l.length a)=_;rw[bV,YC,ZO h]
def rK(l:WJ)(h:a<=l.length)(N:a+b<=l.length):slice l (some (a:Int)) (some ((a+b:Nat):Int))=(l.drop a).take b:=by
 change(l.take (DL l.length ((a+b:Nat):Int))).drop (DL l.length a)=_;rw[bV,bV,ZO h,ZO N,Wf,YQ]
def aaP(acc:TL)(x:WJ):acc.map FV.str++[FV.str x]=(acc++[x]).map .str:=by rw[Z7];rfl
section
variable (b:Bool)(acc:TL)(J:Sm)(t:Tm)
def qS:Sx 2 (HH b acc J t)=some (.inst 166 (Sf J)):=by cases b<;>rfl
def adv:Sx 64 (HH b acc J t)=some (.lst (acc.map .str)):=by
 obtain⟨_,l,_|_,_⟩:=t<;>cases l<;>cases b<;>rfl
def ads(x:WJ):put 64 (.lst (acc.map .str++[.str x])) (HH b acc J t)=HH b (acc++[x]) J t:=by
 rw[aaP];obtain⟨_,l,_|_,_⟩:=t<;>cases l<;>cases b<;>rfl
def adt(o:Int):put 2 (.inst 166 (Sf {J with off:=o})) (HH b acc J t)=HH b acc {J with off:=o} t:=by
 obtain⟨_,l,_|_,_⟩:=t<;>cases l<;>cases b<;>rfl
def adu:lo (HH b acc J t)=Hp J t:=by
 obtain⟨_,l,_|_,_⟩:=t<;>cases l<;>cases b<;>rfl
def afs:hi (HH b acc J t)=[(64,.lst (acc.map .str))]:=by
 obtain⟨_,l,_|_,_⟩:=t<;>cases l<;>cases b<;>rfl
end
section
variable {g:G}{s:St}{F:TC}
def afn{i n:Nat}(h:Sx i s.H=some (.lst l))(N:ble n 1=true):C4 g (.ob i) n [] s=some (.lst i):=by
 change Af (Sx i s.H) _=_;rw[h];change(Bool.rec none (some (.lst i)) (ble n 1):Option M)=_;rw[N]
def kA{i n C f:Nat}(h:Sx i s.H=some (.inst C d))(U:Sx n d=none)(N:g.cls C n=some f):C4 g (.ob i) n P s=some (.fn f (.ob i)):=by
 change Af (Sx i s.H) _=_;rw[h];change IX g i n C d=_;unfold IX;rw[U,N];rfl
def adO(U:Ev g o s (.ob i))(P:Ev g x s (.c f))(h:Sx i s.H=some (.lst l))(D:l.length+1<=16777216)(a:F (.c .Ak) (As s (put i (.lst (l++[f])) s.H))):SU g (.Al o 0 (.cons x .nil) []) s (one F):=
by
 show U _ (aa (afn h rfl) (P _ (aa (T3 FJ h) (aa (T3 FJ h) ⟨D,a⟩))))
end
variable {K:TB}{v:FV}{op:Bool}{j:Int}{b:Bool}{acc:TL}{J:Sm}{t:Tm}
def yZ(P:Ev g3 x ⟨L1 v op j,HH b acc J t,65,false⟩ (.c (.str y)))(Q:acc.length<=20000)(D:ex g3 B ⟨L1 v op j,HH b (acc++[y]) J t,65,false⟩ K):
  ex g3 (.seq (.ex (.Al (.loc 269) 0 (.cons x .nil) [])) B) ⟨L1 v op j,HH b acc J t,65,false⟩ K:=by
 rw[←ads]at D;show d3 (adO (.loc rfl) P (adv ..) (by rw[ZD];lia) D)
def ad0(Q:acc.length<=20000)(D:K .brk ⟨L1 v op j,HH b (acc++[slice J.Ac (some J.off) (some j)]) {J with off:=j} t,65,false⟩):ex g3 N4 ⟨L1 v op j,HH b acc J t,65,false⟩ K:=by
 show yZ (y:=slice J.Ac (some J.off) (some j)) (λF z=>?_) Q ?_
 ·conv=>whnf
  show aP (qS ..) rfl rfl ?_
  conv=>whnf
  show aP (qS ..) rfl rfl z
 ·rw[←adt]at D;show i6 ?_
  conv=>whnf
  show w_a (g:=g3) (n:=130) rfl (qS ..) rfl D
def ad1(N:View J d r e m)
  (U:Jw (10240:Nat) J=false->K .brk ⟨L1 v op j,HH false acc (Hi (10240:Nat) J) t,65,false⟩)
  (a:Jw (10240:Nat) J=true->K .AZ ⟨L1 v op j,HH false acc (Hi (10240:Nat) J) t,65,false⟩):ex g3 N5 ⟨L1 v op j,HH b acc J t,65,false⟩ K:=by
 show zA (i8 (n:=10240) (by ext) N) λQ Z=>?_
 conv=>whnf
 show aa (kA (qS ..) rfl rfl) (dE J t rfl rfl (adu ..) (aM J t 10240 (.inr ⟨rfl,rfl⟩) rfl rfl Q ?_));rw[afs];show bh (λq=>U (oy q)) λq=>a (iE q)
def ad2(N:View J d r e m)(Q:acc.length<=20000)
  (U:Jw (10240:Nat) J=false->K .brk ⟨L1 v op j,HH false (acc++[J.Ac.drop J.off.toNat]) (Hi (10240:Nat) J) t,65,false⟩)
  (c:Jw (10240:Nat) J=true->K .AZ ⟨L1 v op j,HH false (acc++[J.Ac.drop J.off.toNat]) (Hi (10240:Nat) J) t,65,false⟩):ex g3 LX ⟨L1 v op j,HH b acc J t,65,false⟩ K:=by
 have P:=N.dJ;have a:slice J.Ac (some J.off) none=J.Ac.drop J.off.toNat:=by
  rw[(show J.off=J.off.toNat from(XY P.1).symm)];show vz _ (Int.toNat_le.mpr (XQ P.2.1 (Int.le_of_eq P.2.2.1)))
 show yZ (λF z=>?_) Q (ad1 N U c);rw[←a]at z
 conv=>whnf
 show aP (qS ..) rfl rfl ?_
 conv=>whnf
 show aP (qS ..) rfl rfl z
def aby(h:Sx 292 L=some (.ob 2))(z:F (.c (.int J.off)) ⟨L,HH b acc J t,65,false⟩):SU g3 (.Bb (.loc 292) 130) ⟨L,HH b acc J t,65,false⟩ (one F):=by
 show aa h (aP (qS ..) rfl rfl z)
def abh{p:TU}(hp:MG v p)
  (S:∀s,R6 g3 (X.k (.Ae true)) LZ K P s->P s) (n:Nat):∀(J:Sm) (d r:WJ) (e m:Nat) (acc:TL) (L:Tw) (b:Bool),(if J.off=J.size then r.length+1 else r.length)<=n->acc.length+n<=20000->
  View J d r e m->Sx 292 L=some (.ob 2)->(∀j,put 160 (.c (.int j)) L=L1 v op j)->
  (∀E G O l j b',G+O=e+m->O<=m->View E (d++tw p op r) (dw p op r) G O->l.flatten=acc.flatten++tw p op r->l.length<=20000->K .AZ ⟨L1 v op j,HH b' l E t,65,false⟩)->
  P ⟨L,HH b acc J t,65,false⟩:=by
 induction n with
 |zero=>
  intro J d r e m acc L b o Q k hL U D;exfalso;have f:=k.dJ;by_cases q:J.off=J.size
  ·rw[Zk q]at o;show XJ r.length o
  ·rw[Zi q]at o;show aX (k.char (Int.lt_iff_le_and_ne.mpr ⟨f.2.1,q⟩)) λc r' T uu=>?_;clear k D;subst T;simp at o
 |succ n ih=>
  intro J d r e m acc L b o Q k hL U D;have f:=k.dJ;have I:J.off=J.off.toNat:=(XY f.1).symm;have A:J.off.toNat<=J.Ac.length:=Int.toNat_le.mpr (XQ f.2.1 (Int.le_of_eq f.2.2.1));have z:(J.Ac.drop J.off.toNat).length=J.Ac.length-J.off.toNat:=ZM;obtain⟨ro,y,e1,m1,C,W,x,_,Y,R,hf1,ht1⟩:=i8 (n:=10240) (by ext) k;have w:((J.Ac.drop J.off.toNat).takeWhile λc=>B1 (p c) op).length<=(J.Ac.drop J.off.toNat).length:=(Z5 _).length_le;have go:∀(j:Int),((J.Ac.drop J.off.toNat).takeWhile λc=>B1 (p c) op).length=(J.Ac.drop J.off.toNat).length->ex g3 LX ⟨L1 v op j,HH b acc J t,65,false⟩ (wo P K):=by
   intro j SG;show zA (zk (y:=y) SG) λt1 Se=>?_;rw[←C]at t1 Se;show ad2 k (ZK Q) (λq=>?_) λq=>?_
   ·show zA (hf1 q) λH uu=>?_;subst H;show D _ e1 m1 _ _ _ W x ?_ ?_ (by rw[Zg];simp;show Xc (ZK (Zh (Zz (ZZ _ 1 _)) Q)))
    ·unfold tw dw;rw[t1,Se];simpa using Y
    ·unfold tw;rw[t1];simp
   ·have hc:=XW.mpr (ht1 q);have hb':=Y.dJ;show ih _ _ _ _ _ _ _ _ ?_ (by rw[Zg];simp;show Zh (Zz (ZZ _ 1 _)) Q) Y rfl (λuu=>rfl) ?_
    ·rw[Zi λq=>Nat.ne_of_gt hc (Int.ofNat.inj (hb'.2.2.1.symm.trans (q.symm.trans R)))];rw[C,Zg,z]at o;split at o
     ·lia
     ·lia
    ·intro E G O l j b' a1 a2 a3 a4 a5;show D E G O l j b' (by lia) (by show Zh a2 x) ?_ ?_ a5
     ·unfold tw dw at a3⊢;rw[t1,Se, ←Zo];show a3
     ·unfold tw at a4⊢;rw[t1,a4];simp
  have i:((J.Ac.drop J.off.toNat).takeWhile λc=>B1 (p c) op).length<(J.Ac.drop J.off.toNat).length->View {J with off:=((J.off.toNat+((J.Ac.drop J.off.toNat).takeWhile λc=>B1 (p c) op).length:Nat):Int)} (d++tw p op r) (dw p op r) e m/\tw p op r=(J.Ac.drop J.off.toNat).take ((J.Ac.drop J.off.toNat).takeWhile λc=>B1 (p c) op).length:=by
   intro SG;show zA (ve (y:=y) SG) λt1 Se=>zA (k.pass ((J.Ac.drop J.off.toNat).takeWhile λc=>B1 (p c) op).length (Yo (Wi (ZJ SG (Zz z))))) λp1 p2=>?_;rw[←C]at t1 Se;have t3:dw p op r=r.drop ((J.Ac.drop J.off.toNat).takeWhile λc=>B1 (p c) op).length:=by
    unfold dw;rw[Se,C,Wt w]
   show⟨?_,t1⟩;rw[t3];unfold tw;rw[t1];have:((J.off.toNat+((J.Ac.drop J.off.toNat).takeWhile λc=>B1 (p c) op).length:Nat):Int)=J.off+(((J.Ac.drop J.off.toNat).takeWhile λc=>B1 (p c) op).length:Nat):=by show Nat.ToInt.add_congr (id (YS I)) rfl
   rw[this];show p1
  have M:=λ(P':TF)=>ad3 (P:=P') (K:=sq g3 LY (wo P K)) (J:=J) (v:=v) (op:=op) (p:=p) (m:=65) hp (qS b acc J t) (f.2.2.1);generalize u:((J.Ac.drop J.off.toNat).takeWhile λc=>B1 (p c) op).length=kk at*;show S _ ?_;change ex g3 LZ ⟨L,HH b acc J t,65,false⟩ (wo P K);show aG (aby hL ?_);change ex g3 (.seq (.wh 107 L5 L6) LY) ⟨put 160 (.c (.int J.off)) L,HH b acc J t,65,false⟩ (wo P K);rw[U,I];show i5 λP S=>M P S (J.Ac.length-J.off.toNat) J.off.toNat (by show YV A) ?_;rw[u]
  conv=>whnf
  show aP (qS ..) rfl rfl ?_
  conv=>whnf
  show bh (λh=>?_) λh=>?_
  ·have h:((J.off.toNat+kk:Nat):Int)=J.off:=Zm h
   conv=>whnf
   show aP (qS ..) rfl rfl ?_
   conv=>whnf
   show aP (qS ..) rfl rfl ?_
   conv=>whnf
   show bh (λN=>?_) λN=>?_
   ·have N:J.off≠J.size:=ZA (oy N);have k0:kk=0:=Nat.eq_zero_of_le_zero (Nat.le_of_add_le_add_left (Int.ofNat_le.mp (XQ (Int.le_of_eq h) (Int.self_le_toNat _))));show zA (i (k0▸z▸Nat.sub_pos_of_lt ((Int.toNat_lt f.1).mpr (f.2.2.1▸Int.lt_iff_le_and_ne.mpr ⟨f.2.1,N⟩)))) λZ B=>?_;rw[k0,List.take_zero]at B;rw[h]at Z
    conv=>whnf
    show D J e m acc ((J.off.toNat+kk:Nat):Int) b rfl (Zq _) Z (by rw[B,Zu]) (by show ZK Q)
   ·have N:J.off=J.size:=Zm (iE N);show go ((J.off.toNat+kk:Nat):Int) ((z.trans ((T3 (· -_) (Int.ofNat.inj (h.trans (N.trans f.2.2.1))).symm).trans (YQ _ _))).symm)
  ·have h:¬((J.off.toNat+kk:Nat):Int)=J.off:=ZA h
   conv=>whnf
   show aP (qS ..) rfl rfl ?_
   conv=>whnf
   show bh (λN=>?_) λN=>?_
   ·have N:((J.off.toNat+kk:Nat):Int)≠J.size:=ZA (oy N);show zA (i (Xx w λq=>N ((T3 Int.ofNat ((T3 (_+ ·) (q.trans z)).trans (YV (Int.toNat_le.mpr (XQ f.2.1 (Int.le_of_eq f.2.2.1)))))).trans f.2.2.1.symm))) λZ B=>?_;have hs:slice J.Ac (some J.off) (some ((J.off.toNat+kk:Nat):Int))=(J.Ac.drop J.off.toNat).take kk:=by
     have:=rK J.Ac (a:=J.off.toNat) (b:=kk) A (Zh (ZH (Zh w (Zz z)) _) (Zz (YV A)));rw[←I]at this;show this
    have fin:=D {J with off:=((J.off.toNat+kk:Nat):Int)} e m (acc++[(J.Ac.drop J.off.toNat).take kk]) ((J.off.toNat+kk:Nat):Int) b rfl (Zq _) Z (by rw[B];simp) (by rw[Zg];simp;show Xc (ZK (Zh (Zz (ZZ _ 1 _)) Q)));rw[←hs]at fin;show ad0 (J:=J) (by lia) fin
   ·have N:((J.off.toNat+kk:Nat):Int)=J.size:=Zm (iE N);show go ((J.off.toNat+kk:Nat):Int) ((z.trans ((T3 (· -_) (Int.ofNat.inj (N.trans f.2.2.1)).symm).trans (YQ _ _))).symm)
def qi:∀acc:TL,B0 [] (acc.map .str)=some acc.flatten:=by
 intro acc;induction acc with
 |nil=>
  show rfl
 |cons x acc Q=>
  have Q:=Q;change(Option.rec none (λr=>some (List.rec (motive:=λZ=>WJ) x (λZ Z Z=>x++[]++r) (acc.map FV.str))) (B0 [] (acc.map .str)):TK)=_;rw[Q];cases acc with
  |nil=>change some x=some [x].flatten;simp
  |cons y acc=>change some (x++[]++(y::acc).flatten)=_;rw[Zu, ←XG]
def CR:Aq:=λu z H k=>∃J t d r e m v op p,(u=[.ob 2,.c v,.c (.Ae op)]\/u=[.ob 2,.c v]/\op=false)/\z=[]/\H=Hp J t/\MG v p/\View J d r e m/\
 ∀Z A O,A+O=e+m->O<=m->View Z (d++tw p op r) (dw p op r) A O->k (.c (.str (tw p op r))) (Hp Z t)
def lu(h:Sx i H=some (.lst l)):Je H [.ob i]=some [.lst l]:=by
 change Af (Af (Sx i H) _) _=_;rw[h];rfl
def jL(xs kws H k)(h:CR xs kws H k):Ab (Ed [292,124,225] (.Ae false) xs kws) λn=>ex g3 AR ⟨n,H,64,false⟩ (fin k):=by
 obtain⟨J,t,d,r,e,m,v,op,p,a,rfl,rfl,q,N,D⟩:=h;have a:Ed [292,124,225] (.Ae false) xs []=some [(292,.ob 2),(124,.c v),(225,.c (.Ae op))]:=by
  rcases a with rfl|⟨rfl,rfl⟩<;>rfl
 have z:=N.bound;show aa a (aG (d7 (au (aa rfl (aW rfl (gc ?_))))));show i5 λP O=>?_;show abh q O (r.length+1) J d r e m [] _ true (by split<;>lia) (by simp;lia) N rfl (λx=>rfl) λZ i o l j y U f w A Q=>?_;have u:l.flatten=tw p op r:=A;have c:(tw p op r).length<=r.length:=(Z5 _).length_le
 conv=>whnf
 show aa (lu (adv ..)) ?_
 conv=>whnf
 show aa (qi l) ?_
 conv=>whnf
 show⟨by rw[u,ZD];simp only[ZW,Nat.mul_zero,Nat.add_zero];lia,?_⟩;rw[u];show kR Z t (adu ..) (D Z i o U f w)
def BJ:S:=.seq (.Bi (.loc 292) 305 (.new 166 (.cons (.loc 305) .nil))) (.seq (.Bi (.loc 292) 232 (.loc 232)) (.seq (.Bi (.loc 292) 170 (.k (.Ae false))) (.seq (.Bi (.loc 292) 194 (.lst .nil)) (.seq (.Bi (.loc 292) 302 (.Bb (.loc 292) 146)) (.seq (.Bi (.loc 292) 169 (.k (.Ae false))) (.seq (.Bi (.loc 292) 144 (.k .Ak)) .skip))))))
def DB:Aq:=λu z H k=>∃d,u=[.ob 1,.c (.str d)]/\z=[]/\H=[S1]/\k (.c .Ak) (Hp (JE d) ⟨304,.no,none,none⟩)
def ib(xs kws H k)(h:DB xs kws H k):Ab (Ed [292,305,232] .Ak xs kws) λN=>ex g3 BJ ⟨N,H,64,false⟩ (fin k):=by
 show bO h λd Q P z D=>?_;clear h;subst Q P z;show aa rfl ?_
 repeat walk_at "ae"
 conv=>whnf
 show(aY d rfl rfl rfl D)
end
section
variable {g:G}{s:St}{F:TC}{k:TR}
def vn(h:k (decide (a=b))):BN 0 (.c (.str [a])) (.c (.str [b])) s k:=by
 have e:Cn [a] [b]=decide (a=b):=by rw[aE];simp
 have h:k (Cn [a] [b]):=by rw[e];show h
 show h
def aeX(h:k false):BN 0 (.c .Ak) (.c (.str b)) s k:=h
def aeW(h:k false):BN 0 (.c (.str b)) (.c .Ak) s k:=h
def aeV(h:k true):BN 0 (.c .Ak) (.c .Ak) s k:=h
def R2(f:FV):Nat:=Option.rec 0 (λc=>c) (FU f)
def Jg(l:Tz):WJ:=l.map R2
def I7(f:FV):Bool:=Mine.A.ob (FU f) λZ=>true
def aeF(h:FU f=some c):f=.str [c]:=by
 show aA (ax h) λs e h=>(qP e).trans (T3 FV.str (mr h))
def gA(c:Nat)(h:l.all I7=true):CT (.str [c]) l=some (decide (c∈Jg l)):=by
 induction l with
 |nil=>rfl
 |cons f l Q=>
  show zA (ar h) λU N=>?_;obtain⟨x,e,_⟩:=cP U;obtain rfl:=aeF e;change BK (CT (.str [c]) l) (λq=>Bool.rec q true (Cn [x] [c]))=some (decide (c∈x::Jg l));rw[Q N,aE];by_cases q:c=x
  ·rw[Zr (T3 (λc=>[c]) q.symm),Zr (show c∈x::Jg l by rw[q];show .head _)];rfl
  ·rw[Zs λe=>q (ZI e).1.symm];change some (decide (c∈Jg l))=_;rw[decide_eq_decide.mpr (⟨λh=>(Zb h).resolve_left q,.tail _⟩)]
def vj(e:l.all I7=true)(h:k (decide (c∈Jg l))):BN 8 (.c (.str [c])) (.c (.tup l)) s k:=by
 show aa (gA c e) h
def zy(e:CT .Ak l=some b)(h:k b):BN 8 (.c .Ak) (.c (.tup l)) s k:=by
 show aa e h
def nv(e:l.all I7=true):MG (.tup l) λc=>decide (c∈Jg l):=λc Z h=>aa (gA c e) h
def ny(b:WJ):MG (.str b) λc=>decide (c∈b):=λZ Z h=>h
def gf(U:Sx i s.H=some (.lst l0))(N:Av s.H v=some (f,Q))(D:Sx i Q=some (.lst l))(A:ble (l.length+1) 16777216=true)(h:F (.c .Ak) (As s (put i (.lst (l++[f])) Q))):CL g (.lst i) 0 [v] [] s F:=by
 show aa (T3 FJ U) (aa N (aa (T3 FJ D) ⟨ZQ A,h⟩))
def aaM(U:a.length+b.length<=16777216)(h:F (.c (.str (a++b))) s):Es 0 (.c (.str a)) (.c (.str b)) s F:=⟨U,h⟩
def w_l{G:Bool->TF}(h:BN D a AA s λv=>G v s):FH g D a AA s G:=h
def acq(h:k (decide (c∈AW))):BN 8 (.c (.str [c])) AA s k:=vj (l:=AW.map λx=>.str [x]) rfl h
def aco(h:k false):BN 8 (.c .Ak) AA s k:=zy (l:=AW.map λx=>.str [x]) rfl h
def Mr:TG:=match Ad with| .c (.An l)=>l|_=>[]
def dI(e:sel a Mr=some (.int i))(h:F (.c (.int i)) s):DO Ad (.c (.str a)) s F:=by
 show show Ab (sel a Mr) λr=>F (.c r) s from aa e h
end
def Cm:List (Nat×Aq):=(133,Fg)::(156,CR)::(261,DB)::JJ
def SR:G:=Ax Cm
structure Out where
 cont:Bool
 st:Nat
 tb:TK
 q:Tz
 x:WJ
 r:WJ
 ct:Ct
def Hz(i:Int)(s:WJ):FV:=.An [(Dp,.int i),(Cq,.str s)]
abbrev BM(s:WJ):FV:=Hz 1 s
abbrev OK(s:WJ):FV:=Hz 2 s
abbrev CG:FV:=Hz 7 To
abbrev Dj:WJ:=[9,10,12,32,13]
abbrev AJ(l:WJ)(r:WJ):WJ:=tw (λc=>decide (c∈l)) false r
abbrev Fq(l:WJ)(r:WJ):WJ:=dw (λc=>decide (c∈l)) false r
abbrev Ej(l:WJ)(r:WJ):WJ:=tw (λc=>decide (c∈l)) true r
abbrev IP(l:WJ)(r:WJ):WJ:=dw (λc=>decide (c∈l)) true r
def k2{P:Nat->Prop}(j:P 0)(U:P 1)(h:k<2):P k:=(Nat.lt_succ_iff_lt_or_eq.mp h).elim (λh=>Nat.lt_one_iff.mp h▸j) λe=>e▸U
def k3{P:Nat->Prop}(j:P 0)(U:P 1)(N:P 2)(h:k<3):P k:=(Nat.lt_succ_iff_lt_or_eq.mp h).elim (k2 j U) λe=>e▸N
def k4{P:Nat->Prop}(j:P 0)(U:P 1)(N:P 2)(D:P 3)(h:k<4):P k:=(Nat.lt_succ_iff_lt_or_eq.mp h).elim (k3 j U N) λe=>e▸D
def O3(u:Bool)(y:Nat)(U:Ct->TK->WJ->Out)(j:Ct->TK->WJ->Prop):Aq:=λb a H k=>∃J ct tb d r e m,b=[.ob 1]/\a=[]/\H=Hp J ⟨y,ct,some [],tb⟩/\View J d r e m/\j ct tb r/\
 ∀Z A O,A+O=e+m->O<=m->(u=true->J.off=J.size->O=0)->View Z (d++(U ct tb r).x) (U ct tb r).r A O->k (.c (.Ae (U ct tb r).cont)) (Hp Z ⟨(U ct tb r).st,(U ct tb r).ct,some (U ct tb r).q,(U ct tb r).tb⟩)
abbrev Fx:=O3 true
def K0(_:Ct)(tb:TK)(_:WJ):Prop:=∃b,tb=some b/\b.length<=20000
def S5(_:Ct)(_:TK)(_:WJ):Prop:=True
def b7(p:Nat×AO)(H:Tx):lo (p::H)=if p.1<64 then p::lo H else lo H:=by
 change(Bool.rec (lo H) (p::lo H) (Nat.blt p.1 64):Tx)=_;cases e:Nat.blt p.1 64 with
 |true=>rw[Zk (cb e)]
 |false=>rw[(Zi λh=>by have:Nat.blt p.1 64=true:=ZX h;replace this:=e▸this;cases this)]
def tK(p:Nat×AO)(H:Tx):hi (p::H)=if p.1<64 then hi H else p::hi H:=by
 change(Bool.rec (p::hi H) (hi H) (Nat.blt p.1 64):Tx)=_;cases e:Nat.blt p.1 64 with
 |true=>rw[Zk (cb e)]
 |false=>rw[(Zi λh=>by have:Nat.blt p.1 64=true:=ZX h;replace this:=e▸this;cases this)]
def fu{y:Type}(n:Nat)(v:y)(p:Nat×y)(l:List (Nat×y)):put n v (p::l)=if n=p.1 then(n,v)::l else p::put n v l:=by
 change(Bool.rec (p::put n v l) ((n,v)::l) (beq n p.1):List (Nat×y))=_;cases e:beq n p.1 with
 |true=>rw[Zk (ZC e)]
 |false=>rw[Zi (Xb e)]
def dM(A:i<64)(x:AO):∀H:Tx,lo (put i x H)=put i x (lo H):=by
 intro H;induction H with
 |nil=>
  rw[b7,Zk A];rfl
 |cons p H Q=>
  rw[fu];split
  ·rename_i e;rw[b7,Zk A,b7,Zk (by rw[←e];show A),fu,Zk e]
  ·rename_i e;rw[b7,b7,Q];split
   ·rw[fu,Zi e]
   ·rfl
def b6(A:¬i<64)(x:AO):∀H:Tx,lo (put i x H)=lo H:=by
 intro H;induction H with
 |nil=>
  change lo [(i,x)]=[];rw[b7,Zi A];rfl
 |cons p H Q=>
  rw[fu];split
  ·rename_i e;rw[b7,Zi A,b7,Zi (by rw[←e];show A)]
  ·rw[b7,b7,Q]
def fQ(H Q:Tx):lo (H++Q)=lo H++lo Q:=by
 induction H with
 |nil=>rfl
 |cons p H a=>
  rw[b7,b7,a];split<;>rfl
def d9:∀H:Tx,lo (hi H)=[]:=by
 intro H;induction H with
 |nil=>
  show rfl
 |cons p H Q=>
  rw[tK];split
  ·show Q
  ·rename_i h;rw[b7,Zi h];show Q
def sR{H:Tx}:Sx m ((m,o)::H)=some o:=(aq _ _ _).trans (Zk rfl)
def p9{H:Tx}(h:i≠m):Sx i ((m,o)::H)=Sx i H:=(aq _ _ _).trans (Zi h)
def LF(l L:Tw):Prop:=∀n v,Sx n l=some v->Sx n L=some v
def LF.put(h:LF l L)(n:Nat)(v:V):LF (put n v l) (put n v L):=λa w e=>by
 rw[ao]at e⊢;split
 ·rename_i q;rw[Zk q]at e;show e
 ·rename_i q;rw[Zi q]at e;show h a w e
def cw{i n:Nat}(h:Sx i s.H=some (.lst l))(j:ble n 1=true):C4 g (.ob i) n [] s=some (.lst i):=by
 unfold C4;dsimp only;rw[h];rw[j];rfl
def mH:Av ((m,.An [(Dp,.c a),(Cq,.c c)])::H) (.ob m)=some (.An [(Dp,a),(Cq,c)],(m,.Av (.An [(Dp,a),(Cq,c)]))::H):=by
 unfold Av;dsimp only;rw[sR];change some (FV.An [(Dp,a),(Cq,c)],put m (.Av (.An [(Dp,a),(Cq,c)])) ((m,AO.An [(Dp,.c a),(Cq,.c c)])::H))=_;rw[fu,Zk rfl]
structure SA (l:Tw) (J:Sm) (t:Tm) (s:St):Prop where
 o:Sx 292 s.L=some (.ob 1)
 L:LF l s.L
 H:lo s.H=Hp J t
 m:64<=s.m
structure CK (K:TB) (k:V->Tx->Prop):Prop where
 n:∀s J t,lo s.H=Hp J t->k (.c (.Ae true)) (Hp J t)->K .AZ s
 r:∀s J t f,lo s.H=Hp J t->k (.c f) (Hp J t)->K (.ret (.c f)) s
def Mj:S:=.seq (.ret (.k (.Ae true))) .skip
section
variable {tab:List (Nat×Aq)}{l:Tw}{J:Sm}{t:Tm}{k:V->Tx->Prop}
def fY:CK (sq (Ax tab) Mj (fin k)) k:=
 ⟨λs J t h D=>cU (fk (aQ (kR J t h D))),λs J t f h D=>q_r (kR J t h D)⟩
def CK.skip{K:TB}(h:CK K k):CK (sq (Ax tab) .skip K) k:=
 ⟨λs J t a b=>cU (aB (h.n s J t a b)),λs J t f a b=>q_r (h.r s J t f a b)⟩
def GA(tab:List (Nat×Aq))(x:S)(l:Tw)(J:Sm)(t:Tm)(k:V->Tx->Prop):Prop:=∀s K,SA l J t s->CK K k->ex (Ax tab) x s K
def Et(tab:List (Nat×Aq))(e:X)(l:Tw)(J:Sm)(t:Tm)(v:V):Prop:=∀s F,SA l J t s->F v s->SU (Ax tab) e s (one F)
def Ew(tab:List (Nat×Aq))(e:X)(l:Tw)(J:Sm)(t:Tm)(P:Sm->V->Prop):Prop:=∀s F,SA l J t s->(∀j Z v,SA l Z t j->P Z v->F v j)->SU (Ax tab) e s (one F)
def Et.w(h:Et tab e l J t v):Ew tab e l J t λZ P=>Z=J/\P=v:=λs a Q D=>h s _ Q (D s J v Q ⟨rfl,rfl⟩)
def eS:Et tab (.k f) l J t (.c f):=λZ Z Z h=>aQ h
def aa3(e:Sx n l=some v):Et tab (.loc n) l J t v:=λZ Z Q h=>aj (aa (Q.L _ _ e) h)
theorem SA.DH{s:St}(h:SA l J t s):Sx 1 s.H=some (.inst 762 (R9 t)):=by
 have:=eg 1 s.H;rw[h.H,Zk (by ext)]at this;show this.symm
theorem SA.LN{s:St}(h:SA l J t s):Sx 2 s.H=some (.inst 166 (Sf J)):=by
 have:=eg 2 s.H;rw[h.H,Zk (by ext)]at this;show this.symm
def SA.tN{s:St}{st:Nat}{ct:Ct}{q:Tz}{tb:TK}(h:SA l J ⟨st,ct,some q,tb⟩ s):Sx 5 s.H=some (.lst q):=by
 have:=eg 5 s.H;rw[h.H,Zk (by ext)]at this;show this.symm
def SA.call(h:SA l J t s)(J':Sm)(t':Tm):SA l J' t' (As s (Hp J' t'++hi s.H)):=by
 show⟨h.o,h.L,?_,h.m⟩;rw[fQ,bZ,d9,Zu]
def SA.z9(h:SA l J t s)(e:put 1 (.inst 762 d) (Hp J t)=Hp J v):SA l J v (As s (put 1 (.inst 762 d) s.H)):=by
 show⟨h.o,h.L,?_,h.m⟩;rw[dM (by ext),h.H,e]
theorem SA.Al(h:SA l J t s)(e:g0.cls 166 n=some f)(Z:Sx n (Sf J)=none):C4 (Ax tab) (.ob 2) n [] s=some (.fn f (.ob 2)):=by
 show kA h.LN Z e
def lM(t:Tm):ble (R9 t).length 900=true:=by
 obtain⟨st,ct,q,tb⟩:=t;cases q
 ·rfl
 ·cases tb<;>rfl
def cj{y:Type}{n:Nat}{p:Nat×y}{r:List (Nat×y)}(h:beq n p.1=false):Sx n (p::r)=Sx n r:=(aq _ _ _).trans (Zi (Xb h))
def nA{x:Nat}(t:Tm)(h:(R9 ⟨0,.no,some [],some []⟩).any (λp=>beq x p.1)=false):Sx x (R9 t)=none:=by
 obtain⟨st,ct,q,tb⟩:=t;have h:(beq x 305||(beq x 232||(beq x 170||(beq x 194||(beq x 302||(beq x 169||(beq x 144||(beq x 313||(beq x 310||false)))))))))=false:=h;simp only[Bool.or_eq_false_iff]at h;obtain⟨a,N,D,A,Q,O,b,U,y,_⟩:=h;have j:Sx x (QG q tb)=none:=by
  cases q
  ·rfl
  ·cases tb
   ·show cj U
   ·show(cj U).trans (cj y)
 show(cj a).trans ((cj N).trans ((cj D).trans ((cj A).trans ((cj Q).trans ((cj O).trans ((cj b).trans j))))))
abbrev HQ:WJ:=Qz
abbrev Q2:WJ:=Tb
abbrev GL:WJ:=Tf
def Ry(T:WJ)(e:X):X:=.An (.cons (.k (.str Tg)) (.cons (.sub (.BR Ad) (.k (.str T))) (.cons (.k (.str Th)) (.cons e .nil))))
def Ee(T:WJ)(e:X):S:=.ex (.Al (.Bb (.loc 292) 313) 0 (.cons (Ry T e) .nil) [])
def Cv(x:Nat):S:=.Bi (.loc 292) 302 (.Bb (.loc 292) x)
def Jn:S:=.ex (.Al (.Bb (.loc 292) 305) 321 (.cons (.loc 145) .nil) [])
def Kp:S:=.Aj 145 (.Al (.Bb (.loc 292) 305) 119 .nil [])
def Hy(a:X):X:=.Al (.Bb (.loc 292) 305) 126 a []
def bp(h:k (.c (.Ae true)) (Hp J t)):GA tab .skip l J t k:=λs Z Q u=>aB (u.n s J t Q.H h)
def jB(h:k (.c f) (Hp J t)):GA tab (.seq (.ret (.k f)) .skip) l J t k:=λs Z Q u=>fk (aQ (u.r s J t f Q.H h))
def az(N:Et tab c l J t (.c (.Ae p)))(U:p=true->GA tab x l J t k)(a:p=false->GA tab y l J t k):GA tab (.seq (.iff c x y) .skip) l J t k:=λs Z Q u=>
 bE (N s _ Q (aa rfl (bh (λh=>U h s _ Q u.skip) λh=>a h s _ Q u.skip)))
def kN{st:Nat}(e:g0.cls 762 x=some n)(Z:(R9 ⟨0,.no,some [],some []⟩).any (λp=>beq x p.1)=false)(h:GA tab b l J ⟨n,ct,q,tb⟩ k):GA tab (.seq (Cv x) b) l J ⟨st,ct,q,tb⟩ k:=by
 intro s K Q u;show i6 (ba (aj (aa Q.o (za Q.DH (nA _ Z) e (aj (aa Q.o (w_a rfl Q.DH ?_ (h _ _ (Q.z9 rfl) u))))))));rw[lM];rfl
def tT{st:Nat}{ct:Ct}(A:sel T Mr=some (.int i))(D:q.length<=1000)(p:Ew tab e l J ⟨st,ct,some q,tb⟩ P)(h:∀Z v,P Z v->∃u,v=.c (.str u)/\GA tab b l Z ⟨st,ct,some (q++[Hz i u]),tb⟩ k):GA tab (.seq (Ee T e) b) l J ⟨st,ct,some q,tb⟩ k:=by
 intro s K Q o;show d3 (aJ (ba (aj (aa Q.o (aP Q.DH rfl rfl (aa (cw Q.tN rfl) (ah (gb (ah (aQ (ah (bK (bB (aQ (dI A (ah (aQ (ah (p s _ Q λj Z v N O=>?_)))))))))))))))))));show aA (h Z v O) λu a h=>?_;subst a;have f:=N.tN;have n:=N.m;show au (aa rfl (gc (au (gf ((p9 (by lia)).trans f) mH ((p9 (by lia)).trans f) (ZX (by lia)) (h _ _ ⟨N.o,N.L,?_,Y4 N.m⟩ o)))));change lo (put 5 _ ((j.m,_)::j.H))=_;rw[dM (by ext),b7,Zi (show¬j.m<64 by show YN.mpr n),N.H];rfl
def bo{st:Nat}{ct:Ct}(A:sel T Mr=some (.int i))(D:ble q.length 1000=true)(N:Et tab e l J ⟨st,ct,some q,tb⟩ (.c (.str u)))(h:GA tab b l J ⟨st,ct,some (q++[Hz i u]),tb⟩ k):GA tab (.seq (Ee T e) b) l J ⟨st,ct,some q,tb⟩ k:=
 tT A (ZQ D) N.w λZ v O=>(aO u O.2 (O.1▸h))
def wM{n:Nat}(j:beq 292 n=false)(a:Ew tab e l J t P)(h:∀Z v,P Z v->GA tab b (put n v l) Z t k):GA tab (.seq (.Aj n e) b) l J t k:=by
 intro s K Q u;show aG (a s _ Q λf Z v N O=>h Z v O _ _ ⟨?_,N.L.put n v,N.H,N.m⟩ u);show(ao _ _ _ _).trans ((Zi (Xb j)).trans N.o)
def tO(e:Sx 145 l=some (.c .Ak))(h:GA tab b l J t k)(N:B9 tab 163=Dk):GA tab (.seq Jn b) l J t k:=by
 intro s K Q u;show d3 (aJ (ba (aj (aa Q.o (aP Q.DH rfl rfl (aa (Q.Al rfl rfl) (ah (aj (aa (Q.L _ _ e) (au (eR (dE J t rfl rfl Q.H ?_))))))))))));change B9 tab 163 _ _ _ _;rw[N];show .inl (bG J t rfl rfl rfl (h _ _ (Q.call J t) u))
def tQ(e:Sx 145 l=some (.c (.str [c])))(j:J.off≠0)(A:Co J.Ac (J.off-1)=some c)(h:GA tab b l {J with off:=J.off-1} t k)(N:B9 tab 163=Dk):GA tab (.seq Jn b) l J t k:=by
 intro s K Q u;show d3 (aJ (ba (aj (aa Q.o (aP Q.DH rfl rfl (aa (Q.Al rfl rfl) (ah (aj (aa (Q.L _ _ e) (au (eR (dE J t rfl rfl Q.H ?_))))))))))));change B9 tab 163 _ _ _ _;rw[N];show .inr (cF J t c rfl rfl rfl j A (h _ _ (Q.call {J with off:=J.off-1} t) u))
def adB{u:WJ}{st:Nat}(N:Et tab e l J ⟨st,ct,some q,tb⟩ (.c (.str u)))(h:GA tab b l J ⟨st,ct,some q,some u⟩ k):GA tab (.seq (.Bi (.loc 292) 310 e) b) l J ⟨st,ct,some q,tb⟩ k:=by
 intro s K Q a;show i6 (N s _ Q (aj (aa Q.o (w_a rfl Q.DH ?_ (h _ _ (Q.z9 ?_) a)))))
 ·rw[lM];rfl
 ·cases tb<;>rfl
def tU{st:Nat}(e:Sx 145 l=some (.c (.str [c])))(Z:u.length<=100000)(h:GA tab b l J ⟨st,ct,some q,some (u++[c])⟩ k):GA tab (.seq (.Gb (.loc 292) 310 0 (.loc 145)) b) l J ⟨st,ct,some q,some u⟩ k:=by
 intro s K Q a;show zT (aj (aa Q.o (aP Q.DH rfl rfl (aj (aa (Q.L _ _ e) (aaM (by change u.length+1<=_;lia) (w_a rfl Q.DH rfl (h _ _ (Q.z9 rfl) a))))))))
section
variable {c:Nat}
def cW(e:Sx 145 l=some (.c (.str [c]))):Et tab (.cmp 0 (.loc 145) (.k (.str [x]))) l J t (.c (.Ae (decide (c=x)))):=λZ Z Q h=>aH (aj (aa (Q.L _ _ e) (aQ (dt (vn h)))))
def dy(e:Sx 145 l=some (.c .Ak)):Et tab (.cmp 0 (.loc 145) (.k (.str x))) l J t (.c (.Ae false)):=λZ Z Q h=>aH (aj (aa (Q.L _ _ e) (aQ (dt (aeX h)))))
def zv(e:Sx 145 l=some (.c (.str [c]))):Et tab (.cmp 0 (.loc 145) (.BR (.c .Ak))) l J t (.c (.Ae false)):=λZ Z Q h=>aH (aj (aa (Q.L _ _ e) (bB (dt (aeW h)))))
def zu(e:Sx 145 l=some (.c .Ak)):Et tab (.cmp 0 (.loc 145) (.BR (.c .Ak))) l J t (.c (.Ae true)):=λZ Z Q h=>aH (aj (aa (Q.L _ _ e) (bB (dt (aeV h)))))
def j6(e:Sx 145 l=some v)(a:DZ v=some b):Et tab (.cmp 6 (.loc 145) (.BR (.c .Ak))) l J t (.c (.Ae b)):=λZ Z Q h=>aH (aj (aa (Q.L _ _ e) (bB (dt (acr a h)))))
def vf(e:Sx 145 l=some (.c (.str [c])))(u:f.all I7=true):Et tab (.cmp 8 (.loc 145) (.BR (.c (.tup f)))) l J t (.c (.Ae (decide (c∈Jg f)))):=λZ Z Q h=>aH (aj (aa (Q.L _ _ e) (bB (dt (vj u h)))))
def zt(e:Sx 145 l=some (.c .Ak))(u:CT .Ak f=some b):Et tab (.cmp 8 (.loc 145) (.BR (.c (.tup f)))) l J t (.c (.Ae b)):=λZ Z Q h=>aH (aj (aa (Q.L _ _ e) (bB (dt (zy u h)))))
def rh(e:Sx 145 l=some (.c (.str [c]))):Et tab (.cmp 8 (.loc 145) (.BR AA)) l J t (.c (.Ae (decide (c∈AW)))):=λZ Z Q h=>aH (aj (aa (Q.L _ _ e) (bB (w_l (acq h)))))
def q9(e:Sx 145 l=some (.c .Ak)):Et tab (.cmp 8 (.loc 145) (.BR AA)) l J t (.c (.Ae false)):=λZ Z Q h=>aH (aj (aa (Q.L _ _ e) (bB (w_l (aco h)))))
end
end
noncomputable def Out.ok(_:Ct)(k:V->Tx->Prop)(d:WJ)(e m:Nat)(z:Prop)(o:Out):Prop:=∀Z A O,A+O=e+m->O<=m->(z->O=0)->View Z (d++o.x) o.r A O->k (.c (.Ae o.cont)) (Hp Z ⟨o.st,o.ct,some o.q,o.tb⟩)
structure Rd (d:WJ) (e m:Nat) (z:Prop) (J':Sm) (x r:WJ):Prop where
 ex:∃e' m',e'+m'=e+m/\m'<=m/\(z->m'=0)/\View J' (d++x) r e' m'
section
variable {tab:List (Nat×Aq)}{l:Tw}{J:Sm}{t:Tm}{k:V->Tx->Prop}{ct:Ct}{d:WJ}{e m:Nat}{z:Prop}
def Out.pos{P:Prop}[Decidable P](D:Out.ok ct k d e m z (if P then a else b))(h:decide P=true):Out.ok ct k d e m z a:=by rw[Zk (Zm h)]at D;show D
def Out.neg{P:Prop}[Decidable P](D:Out.ok ct k d e m z (if P then a else b))(h:decide P=false):Out.ok ct k d e m z b:=by rw[Zi (ZA h)]at D;show D
def Rd.fin(h:Rd d e m z J o.x o.r)(D:Out.ok ct k d e m z o):k (.c (.Ae o.cont)) (Hp J ⟨o.st,o.ct,some o.q,o.tb⟩):=by
 show dZ h.ex λA O a b c v=>D J A O a b c v
def Rd.iu(h:Rd d e m z J [c] r)(j:0<J.off):J.off≠0/\Co J.Ac (J.off-1)=some c/\Rd d e m z {J with off:=J.off-1} [] (c::r):=by
 show dZ h.ex λA O a b y v=>cu (v.iu j) λU Q u=>⟨U,Q,⟨A,O,a,b,y,by rw[Zu];show u⟩⟩
def Rd.len(h:Rd d e m z J x r):r.length<=10240:=by
 show dZ h.ex λA O a b y v=>?_;show Xk v.bound
def mO(x:B9 tab 156=CR)(U:∀s (F:TA->TF),SA l J t s->F Z s->SU (Ax tab) A s F)(N:Z=[.c v,.c (.Ae D)]\/Z=[.c v]/\D=false)(n:MG v p)(f:Rd d e m z J [c] r):
  Ew tab (Hy A) l J t λo w=>w=.c (.str (tw p D r))/\Rd d e m z o (c::tw p D r) (dw p D r):=by
 intro s F Q B;show dZ f.ex λi O a b y w=>aJ (ba (aj (aa Q.o (aP Q.DH rfl rfl (aa (Q.Al rfl rfl) (U s _ Q (eR (dE J t rfl ?_ Q.H ?_))))))))
 ·rcases N with rfl|⟨rfl,rfl⟩<;>rfl
 change B9 tab 156 _ _ _ _;rw[x];show⟨J,t,d++[c],r,i,O,v,D,p,?_,rfl,rfl,n,w,λj h m2 g1 g2 u=>B _ j _ (Q.call j t) ⟨rfl,⟨h,m2,g1.trans a,Zh g2 b,λq=>by lia,by replace u:=(Zo _ _ _)▸u;show u⟩⟩⟩;rcases N with rfl|⟨rfl,rfl⟩
 ·show .inl rfl
 ·show .inr ⟨rfl,rfl⟩
def qW(p:TU)(D:Bool)(r:WJ):(tw p D r).length<=r.length:=(Z5 _).length_le
def aa2(U:Sx 145 l=some (.c (.str [c])))(f:r.length<=10240)(P:Ew tab x l J t λZ w=>w=.c (.str (tw p D r))/\Rd d e m z Z (c::tw p D r) (dw p D r)):
  Ew tab (.bin 0 (.loc 145) x) l J t λZ w=>w=.c (.str (c::tw p D r))/\Rd d e m z Z (c::tw p D r) (dw p D r):=by
 intro s F Q b;show cm (aj (aa (Q.L _ _ U) (P s _ Q λj Z v N O=>?_)));obtain⟨rfl,a⟩:=O;have:=qW p D r;show uR (by change 1+_<=_;show Zh (ZH (Zh this f) 1) (by ext)) (b j Z _ N ⟨rfl,a⟩)
def Rq(tab:List (Nat×Aq))(l:Tw)(y:Nat)(U:Ct->TK->WJ->Out)(j:Ct->TK->WJ->Prop)(b:S):Prop:=∀ct tb k d e m z J r,j ct tb r->Out.ok ct k d e m z (U ct tb r)->
 match r with
 | []=>Rd d e m z J [] []->GA tab b (put 145 (.c .Ak) l) J ⟨y,ct,some [],tb⟩ k
 |c::r=>Rd d e m z J [c] r->0<J.off->GA tab b (put 145 (.c (.str [c])) l) J ⟨y,ct,some [],tb⟩ k
def dB{K:TB}(h:ex g (.seq a .skip) s (sq g b K)):ex g (.seq a b) s K:=by
 have e:Lp (ex g .skip) (sq g b K)=sq g b K:=by
  funext fl s;cases fl<;>rfl
 have f:ex g a s (Lp (ex g .skip) (sq g b K)):=h;replace f:=e▸f;show f
def vt{j:Ct->TK->WJ->Prop}{a:S}(N:B9 tab 133=Fg)(h:Rq tab l fa U j (.seq a .skip))(v:View J d r e m)(u:j ct tb r)(D:Out.ok ct k d e m (J.off=J.size) (U ct tb r))(Q:SA l J ⟨fa,ct,some [],tb⟩ s):ex (Ax tab) (.seq Kp (.seq a Mj)) s (fin k):=by
 show aG (aJ (ba (aj (aa Q.o (aP Q.DH rfl rfl (aa (Q.Al rfl rfl) (au (eR (dE J _ rfl rfl Q.H ?_)))))))));change B9 tab 133 _ _ _ _;rw[N];show(bJ J _ d r e m rfl rfl rfl v λZ A O a b y=>?_);have key:∀(w:V),SA (put 145 w l) Z ⟨fa,ct,some [],tb⟩ (Bw (As s (Hp Z ⟨fa,ct,some [],tb⟩++hi s.H)) (put 145 w s.L)):=λw=>
  have z:=Q.call Z ⟨fa,ct,some [],tb⟩
  ⟨(ao _ _ _ _).trans ((Zi (by ext)).trans z.o),z.L.put 145 w,z.H,z.m⟩
 have f:=h ct tb k d e m (J.off=J.size) Z r u D;cases r with
 |nil=>show λP=>dB (f ⟨A,O,a,b,y,by rw[Zu];show P⟩ _ _ (key _) fY)
 |cons c r=>show λP i=>dB (f ⟨A,O,a,b,y,P⟩ i _ _ (key _) fY)
def fj{U:Ct->TK->WJ->Out}{j:Ct->TK->WJ->Prop}(o:B9 tab 133=Fg)(h:Rq tab [] y U j (.seq a .skip)):∀u b H k,Fx y U j u b H k->Ab (Ah [292] u b) λN=>ex (Ax tab) (.seq Kp (.seq a Mj)) ⟨N,H,64,false⟩ (fin k):=by
 rintro u b H k ⟨J,ct,tb,d,r,e,m,rfl,rfl,rfl,v,f,D⟩;show aa rfl (vt o h v f (λi A O p n P=>D i A O p n λZ=>P) ⟨rfl,λZ Z e=>(nomatch e),bZ _ _,Zq _⟩)
end
abbrev O0:S:=.seq (.ret (.k (.Ae false))) .skip
abbrev Lk:X:=.cmp 0 (.loc 145) (.BR (.c .Ak))
abbrev EP(x:Nat):X:=.cmp 0 (.loc 145) (.k (.str [x]))
abbrev Iy:X:=.cmp 8 (.loc 145) (.BR AA)
abbrev NX:FV:=.tup [.str [9],.str [10],.str [12],.str [32],.str [13]]
abbrev Iw:X:=.cmp 8 (.loc 145) (.BR (.c NX))
noncomputable def wh(a:S):S:=.seq Kp (.seq a Mj)
def Jo(u:Nat)(b:S):S:=.seq (Ee GL (.k (.str To))) (.seq (Ee HQ (.k (.str [u]))) b)
def O1(e:X)(y:Nat):S:=.seq (Ee HQ e) (.seq Jn (.seq (Cv y) .skip))
def Kn(e:X):S:=.seq (.Aj 125 (Hy (.cons e .nil))) (.seq (Ee HQ (.bin 0 (.loc 145) (.loc 125))) .skip)
def Mi(b:S):S:=.iff Iw (.seq (Ee Q2 (.bin 0 (.loc 145) (Hy (.cons (.BR (.c NX)) (.cons (.k (.Ae true)) .nil))))) .skip) b
abbrev GQ(x n:Nat):Prop:=g0.cls 762 x=some n/\(R9 ⟨0,.no,some [],some []⟩).any (λp=>beq x p.1)=false
section
variable {l:Tw}{J:Sm}{t:Tm}{k:V->Tx->Prop}{ct:Ct}{d:WJ}{e m:Nat}{z:Prop}{st B:Nat}{tb:TK}{c:Nat}{r:WJ}
def jc(h:GA Cm b l J ⟨st,ct,some [CG,BM [u]],tb⟩ k):GA Cm (Jo u b) l J ⟨st,ct,some [],tb⟩ k:=
 bo rfl rfl eS (bo rfl rfl eS h)
def aen(U:Sx 145 l=some (.c .Ak))(e:GQ y B)(P:Et Cm x l J ⟨st,ct,some [],tb⟩ (.c (.str u)))(h:k (.c (.Ae true)) (Hp J ⟨B,ct,some [BM u],tb⟩)):GA Cm (O1 x y) l J ⟨st,ct,some [],tb⟩ k:=
 bo rfl rfl P (tO U (kN e.1 e.2 (bp h)) rfl)
def aeo(U:Sx 145 l=some (.c (.str [c])))(A:GQ y B)(P:Et Cm x l J ⟨st,ct,some [],tb⟩ (.c (.str u)))(g:Rd d e m z J [c] r)(j:0<J.off)(D:Out.ok ct k d e m z ⟨true,B,tb,[BM u],[],c::r,ct⟩):GA Cm (O1 x y) l J ⟨st,ct,some [],tb⟩ k:=
 have h:=g.iu j
 bo rfl rfl P (tQ U h.1 h.2.1 (kN A.1 A.2 (bp (h.2.2.fin D))) rfl)
def gW(e:GQ x B)(h:k (.c (.Ae true)) (Hp J ⟨B,ct,q,tb⟩)):GA Cm (.seq (Cv x) .skip) l J ⟨st,ct,q,tb⟩ k:=kN e.1 e.2 (bp h)
def oV(A:sel T Mr=some (.int i))(U:Sx 145 l=some (.c (.str [c])))(g:Rd d e m z J [c] r)(P:Ew Cm x l J ⟨st,ct,some [],tb⟩ λa w=>w=.c (.str (tw p D r))/\Rd d e m z a (c::tw p D r) (dw p D r))
  (b:Out.ok ct k d e m z ⟨true,st,tb,[Hz i (c::tw p D r)],c::tw p D r,dw p D r,ct⟩):GA Cm (.seq (Ee T (.bin 0 (.loc 145) x)) .skip) l J ⟨st,ct,some [],tb⟩ k:=
 tT A (ZF _) (aa2 U g.len P) λZ Z O=>(aO _ O.1 (bp (O.2.fin b)))
def l9(P:∀s F,SA [(145,.c (.str [c]))] J ⟨st,ct,some [],tb⟩ s->F (.c (.tup f)) s->SU (Ax Cm) x s (one F))(u:f.all I7=true)(g:Rd d e m z J [c] r)(D:Out.ok ct k d e m z ⟨true,st,tb,[BM (c::AJ (Jg f) r)],c::AJ (Jg f) r,Fq (Jg f) r,ct⟩):GA Cm (Kn x) [(145,.c (.str [c]))] J ⟨st,ct,some [],tb⟩ k:=by
 show wM rfl (mO rfl (λs F Q h=>ah (P s _ Q (au h))) (.inr ⟨rfl,rfl⟩) (nv u) g) λZ v O=>?_;obtain⟨rfl,j⟩:=O;have:=qW (λc=>decide (c∈Jg f)) false r;have:=g.len;show bo rfl rfl (λs F Q h=>cm (aj (aa (Q.L 145 _ rfl) (aj (aa (Q.L 125 _ rfl) (uR ?_ h)))))) (bp (j.fin D));change 1+_<=_;lia
def rH(g:Rd d e m z J [c] r)(U:c∈Dj->Out.ok ct k d e m z ⟨true,st,tb,[OK (c::Ej Dj r)],c::Ej Dj r,IP Dj r,ct⟩)(N:decide (c∈Dj)=false->GA Cm b [(145,.c (.str [c]))] J ⟨st,ct,some [],tb⟩ k):GA Cm (.seq (Mi b) .skip) [(145,.c (.str [c]))] J ⟨st,ct,some [],tb⟩ k:=
 az (vf rfl rfl) (λh=>oV rfl rfl g (mO rfl (λs F Q h=>ah (bB (ah (aQ (au h))))) (.inl rfl) (nv rfl) g) (U (Zm h))) N
end
def et3:∀s F,SA l J t s->F (.c (.tup [.str [a],.str [b],.str [c]])) s->SU (Ax Cm) (.tup (.cons (.k (.str [a])) (.cons (.k (.str [b])) (.cons (.k (.str [c])) .nil)))) s (one F):=λs F Z h=>
 dW (ah (aQ (ah (aQ (ah (aQ (au (aa rfl (aW rfl h)))))))))
def et2:∀s F,SA l J t s->F (.c (.tup [.str [a],.str [b]])) s->SU (Ax Cm) (.tup (.cons (.k (.str [a])) (.cons (.k (.str [b])) .nil))) s (one F):=λs F Z h=>
 dW (ah (aQ (ah (aQ (au (aa rfl (aW rfl h)))))))
abbrev QF(a b c:Nat):X:=.tup (.cons (.k (.str [a])) (.cons (.k (.str [b])) (.cons (.k (.str [c])) .nil)))
abbrev RA(a b:Nat):X:=.tup (.cons (.k (.str [a])) (.cons (.k (.str [b])) .nil))
def DU(ct:Ct)(tb:TK)(r:WJ):Out:=match r with
 | []=>⟨false,346,tb,[],[],[],ct⟩
 |c::r=>if c=0 then⟨true,346,tb,[CG,BM [65533]],[c],r,ct⟩else
  ⟨true,346,tb,[BM (c::AJ [0] r)],c::AJ [0] r,Fq [0] r,ct⟩
def JU:Aq:=Fx 346 DU S5
def Bo:S:=wh (.iff Lk O0 (.seq (.iff (EP 0) (Jo 65533 .skip) (.seq (Ee HQ (.bin 0 (.loc 145) (Hy (.cons (.k (.str [0])) .nil)))) .skip)) .skip))
def xm(xs kws H k)(h:JU xs kws H k):Ab (Ah [292] xs kws) λN=>ex SR Bo ⟨N,H,64,false⟩ (fin k):=by
 show fj rfl (λct tb k d e m z J r Z D=>?_) xs kws H k h;cases r with
 |nil=>show λg=>az (zu rfl) (λZ=>jB (g.fin D)) λh=>nomatch h
 |cons c r=>
  show λg j=>az (zv rfl) (λh=>nomatch h) λZ=>az (cW rfl) (λh=>jc (bp (g.fin (Out.pos D h)))) λh=>
   oV rfl rfl g (mO rfl (λs F Z h=>ah (aQ (au h))) (.inr ⟨rfl,rfl⟩) (ny [0]) g) (Out.neg D h)
def Np(B K:Nat)(ct:Ct)(tb:TK)(r:WJ):Out:=match r with
 | []=>⟨false,B,tb,[],[],[],ct⟩
 |c::r=>if c=60 then⟨true,K,tb,[],[c],r,ct⟩else
  if c=0 then⟨true,B,tb,[CG,BM [65533]],[c],r,ct⟩else
  ⟨true,B,tb,[BM (c::AJ [60,0] r)],c::AJ [60,0] r,Fq [60,0] r,ct⟩
def MP(x:Nat):S:=wh (.iff (EP 60) (.seq (Cv x) .skip) (.seq (.iff (EP 0) (Jo 65533 .skip) (.seq (.iff Lk O0 (Kn (RA 60 0))) .skip)) .skip))
def aa8{B K x:Nat}(s:GQ x K)(xs kws H k)(h:Fx B (Np B K) S5 xs kws H k):Ab (Ah [292] xs kws) λN=>ex SR (MP x) ⟨N,H,64,false⟩ (fin k):=by
 show fj rfl (λct tb k d e m z J r Z D=>?_) xs kws H k h;cases r with
 |nil=>show λg=>az (dy rfl) (λh=>nomatch h) λZ=>az (dy rfl) (λh=>nomatch h) λZ=>az (zu rfl) (λZ=>jB (g.fin D)) λh=>nomatch h
 |cons c r=>
  show λg j=>az (cW rfl) (λh=>gW s (g.fin (Out.pos D h))) λh=>az (cW rfl) (λa=>jc (bp (g.fin (Out.pos (Out.neg D h) a)))) λa=>
   az (zv rfl) (λh=>nomatch h) λZ=>l9 et2 rfl g (Out.neg (Out.neg D h) a)
def FP:=Np 332 395
def MT:Aq:=Fx 332 FP S5
def Bu:S:=MP 254
def adU(xs kws H k)(h:MT xs kws H k):Ab (Ah [292] xs kws) λN=>ex SR Bu ⟨N,H,64,false⟩ (fin k):=aa8 ⟨rfl,rfl⟩ xs kws H k h
def BZ(ct:Ct)(tb:TK)(r:WJ):Out:=match r with
 | []=>⟨false,318,tb,[],[],[],ct⟩
 |c::r=>if c=38 then⟨true,325,tb,[],[c],r,ct⟩else
  if c=60 then⟨true,374,tb,[],[c],r,ct⟩else
  if c=0 then⟨true,318,tb,[CG,BM [65533]],[c],r,ct⟩else
  if c∈Dj then⟨true,318,tb,[OK (c::Ej Dj r)],c::Ej Dj r,IP Dj r,ct⟩else
  ⟨true,318,tb,[BM (c::AJ [38,60,0] r)],c::AJ [38,60,0] r,Fq [38,60,0] r,ct⟩
def IC:Aq:=Fx 318 BZ S5
def BA:S:=wh (.iff (EP 38) (.seq (Cv 123) .skip) (.seq (.iff (EP 60) (.seq (Cv 258) .skip) (.seq (.iff Lk O0 (.seq (.iff (EP 0) (Jo 65533 .skip) (.seq (Mi (Kn (QF 38 60 0))) .skip)) .skip)) .skip)) .skip))
def ui(xs kws H k)(h:IC xs kws H k):Ab (Ah [292] xs kws) λb=>ex SR BA ⟨b,H,64,false⟩ (fin k):=by
 show fj rfl (λct tb k d e m z J r Z D=>?_) xs kws H k h;cases r with
 |nil=>show λg=>az (dy rfl) (λh=>nomatch h) λZ=>az (dy rfl) (λh=>nomatch h) λZ=>az (zu rfl) (λZ=>jB (g.fin D)) λh=>nomatch h
 |cons c r=>
  show λg j=>az (cW rfl) (λh=>gW ⟨rfl,rfl⟩ (g.fin (Out.pos D h))) λU=>az (cW rfl) (λh=>gW ⟨rfl,rfl⟩ (g.fin (Out.pos (Out.neg D U) h))) λN=>
   az (zv rfl) (λh=>nomatch h) λZ=>az (cW rfl) (λh=>jc (bp (g.fin (Out.pos (Out.neg (Out.neg D U) N) h)))) λa=>
   rH g (λh=>Out.pos (Out.neg (Out.neg (Out.neg D U) N) a) (Zr h)) λA=>l9 et3 rfl g (Out.neg (Out.neg (Out.neg (Out.neg D U) N) a) A)
def C7(ct:Ct)(tb:TK)(r:WJ):Out:=match r with
 | []=>⟨false,304,tb,[],[],[],ct⟩
 |c::r=>if c=38 then⟨true,311,tb,[],[c],r,ct⟩else
  if c=60 then⟨true,353,tb,[],[c],r,ct⟩else
  if c=0 then⟨true,304,tb,[CG,BM [0]],[c],r,ct⟩else
  if c∈Dj then⟨true,304,tb,[OK (c::Ej Dj r)],c::Ej Dj r,IP Dj r,ct⟩else
  ⟨true,304,tb,[BM (c::AJ [38,60,0] r)],c::AJ [38,60,0] r,Fq [38,60,0] r,ct⟩
def Lu:Aq:=Fx 304 C7 S5
def BG:S:=wh (.iff (EP 38) (.seq (Cv 164) .skip) (.seq (.iff (EP 60) (.seq (Cv 307) .skip) (.seq (.iff (EP 0) (Jo 0 .skip) (.seq (.iff (.cmp 6 (.loc 145) (.BR (.c .Ak))) O0 (.seq (Mi (Kn (QF 38 60 0))) .skip)) .skip)) .skip)) .skip))
def abb(xs kws H k)(h:Lu xs kws H k):Ab (Ah [292] xs kws) λb=>ex SR BG ⟨b,H,64,false⟩ (fin k):=by
 show fj rfl (λct tb k d e m z J r Z D=>?_) xs kws H k h;cases r with
 |nil=>show λg=>az (dy rfl) (λh=>nomatch h) λZ=>az (dy rfl) (λh=>nomatch h) λZ=>az (dy rfl) (λh=>nomatch h) λZ=>az (j6 rfl rfl) (λZ=>jB (g.fin D)) λh=>nomatch h
 |cons c r=>
  show λg j=>az (cW rfl) (λh=>gW ⟨rfl,rfl⟩ (g.fin (Out.pos D h))) λU=>az (cW rfl) (λh=>gW ⟨rfl,rfl⟩ (g.fin (Out.pos (Out.neg D U) h))) λN=>
   az (cW rfl) (λh=>jc (bp (g.fin (Out.pos (Out.neg (Out.neg D U) N) h)))) λa=>az (j6 rfl rfl) (λh=>nomatch h) λZ=>
   rH g (λh=>Out.pos (Out.neg (Out.neg (Out.neg D U) N) a) (Zr h)) λA=>l9 et3 rfl g (Out.neg (Out.neg (Out.neg (Out.neg D U) N) a) A)
def LO(B T:Nat)(ct:Ct)(tb:TK)(r:WJ):Out:=match r with
 | []=>⟨true,B,tb,[BM [60]],[],[],ct⟩
 |c::r=>if c=47 then⟨true,T,some [],[],[c],r,ct⟩else⟨true,B,tb,[BM [60]],[],c::r,ct⟩
def Ox(x:Nat):S:=.seq (.Bi (.loc 292) 310 (.k (.str []))) (.seq (Cv x) .skip)
def zw{st B x:Nat}{tb:TK}(e:GQ x B)(h:k (.c (.Ae true)) (Hp J ⟨B,ct,some [],some []⟩)):GA Cm (Ox x) l J ⟨st,ct,some [],tb⟩ k:=adB eS (gW e h)
def Pk(x y:Nat):S:=wh (.iff (EP 47) (Ox x) (O1 (.k (.str [60])) y))
def yV{B T K x y:Nat}(U:GQ x T)(Z:GQ y B)(xs kws H k)(h:Fx K (LO B T) S5 xs kws H k):Ab (Ah [292] xs kws) λN=>ex SR (Pk x y) ⟨N,H,64,false⟩ (fin k):=by
 show fj rfl (λct tb k d e m z J r a D=>?_) xs kws H k h;cases r with
 |nil=>show λg=>az (dy rfl) (λh=>nomatch h) λa=>aen rfl Z eS (g.fin D)
 |cons c r=>
  show λg j=>az (cW rfl) (λh=>zw U (g.fin (Out.pos D h))) λh=>aeo rfl Z eS g j (Out.neg D h)
def IQ:=LO 318 381
def Lr:Aq:=Fx 374 IQ S5
def AI:S:=Pk 257 259
def aa7(xs kws H k)(h:Lr xs kws H k):Ab (Ah [292] xs kws) λN=>ex SR AI ⟨N,H,64,false⟩ (fin k):=yV ⟨rfl,rfl⟩ ⟨rfl,rfl⟩ xs kws H k h
def Hk:=LO 332 402
def JT:Aq:=Fx 395 Hk S5
def AF:S:=Pk 253 255
def xl(xs kws H k)(h:JT xs kws H k):Ab (Ah [292] xs kws) λN=>ex SR AF ⟨N,H,64,false⟩ (fin k):=yV ⟨rfl,rfl⟩ ⟨rfl,rfl⟩ xs kws H k h
def HM(B N:Nat)(ct:Ct)(tb:TK)(r:WJ):Out:=match tb with
 |none=>⟨false,0,none,[],[],[],ct⟩
 |some b=>match r with
  | []=>⟨true,B,some b,[BM [60,47]],[],[],ct⟩
  |c::r=>if c∈AW then⟨true,N,some (b++[c]),[],[c],r,ct⟩else⟨true,B,some b,[BM [60,47]],[],c::r,ct⟩
def Ll(x y:Nat):S:=wh (.iff Iy (.seq (.Gb (.loc 292) 310 0 (.loc 145)) (.seq (Cv x) .skip)) (O1 (.k (.str [60,47])) y))
def uo(U:GQ x N)(Z:GQ y B)(xs kws H k)(h:Fx T (HM B N) K0 xs kws H k):Ab (Ah [292] xs kws) λa=>ex SR (Ll x y) ⟨a,H,64,false⟩ (fin k):=by
 show fj rfl (λct tb k d e m z J r u D=>?_) xs kws H k h;show aA u λb Q P=>?_;clear u;subst Q;cases r with
 |nil=>show λg=>az (q9 rfl) (λh=>nomatch h) λf=>aen rfl Z eS (g.fin D)
 |cons c r=>
  show λg j=>az (rh rfl) (λh=>tU rfl (Zh P (by ext)) (gW U (g.fin (Out.pos D h)))) λh=>aeo rfl Z eS g j (Out.neg D h)
def Hj:=HM 318 388
def JR:Aq:=Fx 381 Hj K0
def AN:S:=Ll 256 259
def xj(xs kws H k)(h:JR xs kws H k):Ab (Ah [292] xs kws) λN=>ex SR AN ⟨N,H,64,false⟩ (fin k):=uo ⟨rfl,rfl⟩ ⟨rfl,rfl⟩ xs kws H k h
def Gv:=HM 332 409
def ID:Aq:=Fx 402 Gv K0
def AK:S:=Ll 252 255
def uj(xs kws H k)(h:ID xs kws H k):Ab (Ah [292] xs kws) λN=>ex SR AK ⟨N,H,64,false⟩ (fin k):=uo ⟨rfl,rfl⟩ ⟨rfl,rfl⟩ xs kws H k h
def Pc:X:=.Gi (.Gf (.k (.str [65])) (.loc 118) (.k (.str [90]))) (.fn 2 (.cons (.bin 0 (.fn 1 (.cons (.loc 118) .nil)) (.k (.int 32))) .nil)) (.loc 118)
def DN:S:=.seq (.ret (.Al (.k (.str [])) 2 (.cons (.lcm 118 [] (.loc 311) (.k (.Ae true)) Pc) .nil) [])) .skip
def GY(c:Nat):Nat:=if 65<=c/\c<=90 then c+32 else c
def wB(a b:Nat):GZ [a] [b]=decide (a<b):=by
 change(Bool.rec (Bool.rec false (GZ [] []) (beq a b)) true (Nat.blt a b):Bool)=_;cases h:Nat.blt a b with
 |true=>show(Zr (cb h)).symm
 |false=>
  have:¬a<b:=λq=>by have:Nat.blt a b=true:=Nat.ble_eq.mpr q;replace this:=h▸this;cases this
  rw[Zs this];cases beq a b<;>rfl
def adP(h:F [.c (.str [GY c])] ⟨[(118,.c (.str [c]))],H,m,false⟩)(u:c<128):SU g0 Pc ⟨[(118,.c (.str [c]))],H,m,false⟩ F:=by
 unfold GY at h
 conv=>whnf
 show bh (λq=>?_) λq=>?_
 ·have q:=q;rw[wB]at q
  conv=>whnf
  show bh (λp=>?_) λp=>?_
  ·have p:=p;rw[wB]at p
   conv=>whnf
   show⟨⟨by show Int.zero_le_ofNat (c+32),by lia⟩,?_⟩;rw[Zk ⟨by show XR (ZA (Z8 _▸q)),by show XR (ZA (Z8 _▸p))⟩]at h;rw[←(YS (Nat.add_succ c 31))]at h;show h
  ·have p:=p;rw[wB]at p;have p:=Zm (iE p);rw[Zi (by lia)]at h;show h
 ·have q:=q;rw[wB]at q;rw[Zi (by lia)]at h;show h
def pB{K:TC}:∀(l j:WJ),(∀c∈l,c<128)->j.length+l.length<=16777216->(∀U,Ce (.lst ((j++l.map GY).map λc=>.str [c])) ⟨U,H,m,false⟩ K)->∀L,
  I2 118 [] (SU g0 (.k (.Ae true))) (SU g0 Pc) (l.map λc=>.str [c]) (j.map λc=>.str [c]) ⟨L,H,m,false⟩ K
 | [],j,_,_,hk,L=>by
  have:=hk L;rw[List.map_nil,Zu]at this;show this
 |c::l,j,hc,hl,hk,L=>by
  rw[Zj]at hl;show adP ?_ (hc c (.head _));show aa rfl ⟨by rw[ZD];lia,?_⟩;have e:(j.map λc=>FV.str [c])++[.str [GY c]]=(j++[GY c]).map λc=>.str [c]:=by rw[Z7];rfl
  rw[e];show pB l (j++[GY c]) (λx P=>hc x (.tail _ P)) (by rw[Zg,Zj,ZW];lia) (λU=>?_) _;have:=hk U;rw[Ye, ←List.singleton_append, ←Zo]at this;show this
def DE(l:WJ):WJ:=l.map GY
def DS:Aq:=λu z H k=>∃l:WJ,u=[.c (.str l)]/\z=[]/\((∀c∈l,c<128)/\l.length<=100000)/\((lo H).all λp=>Dc p.2)=true/\k (.c (.str (DE l))) (lo H)
def el(l:WJ):B0 [] (l.map λc=>.str [c])=some l:=by
 induction l with
 |nil=>rfl
 |cons c l Q=>
  cases l with
  |nil=>rfl
  |cons b l=>
   rw[show B0 [] ((c::b::l).map λc=>.str [c])=Option.rec none (λr=>some ([c]++[]++r)) (B0 [] ((b::l).map λc=>.str [c])) from rfl,Q];rfl
def jM(xs kws H k)(h:DS xs kws H k):Ab (Ah [311] xs kws) λN=>ex g0 DN ⟨N,H,64,false⟩ (fin k):=by
 obtain⟨l,rfl,rfl,⟨u,a⟩,y,D⟩:=h
 conv=>whnf
 show pB l [] u (by rw[ZW];lia) (λU=>?_) _
 conv=>whnf
 show aa (el _) ?_;show⟨?_,?_⟩
 ·rw[ZD];change l.length+l.length*0+0<=16777216;lia
 ·show yR y D
def BV(n:WJ):Prop:=(∀c∈n,c<128)/\n.length<=100000
def JI:List (Nat×Aq):=(42,DS)::Cm
def SQ:G:=Ax JI
def IH:Aq:=λu z H k=>∃J st q tb y n O,u=[.ob 1]/\z=[]/\H=Hp J ⟨st,.live y n O,some q,tb⟩/\q.length<=1000/\BV n/\k (.c .Ak) (Hp J ⟨304,.AM y (DE n) O,some (q++[.An (EO y (DE n) O)]),tb⟩)
def Bh:S:=.seq (.Aj 312 (.Bb (.loc 292) 144)) (.seq (.iff (.cmp 8 (.sub (.loc 312) (.k (.str Tg))) (.BR (.c (.tup [.int 3,.int 4,.int 5])))) (.seq (.Jk (.loc 312) (.k (.str Ti)) (.call 42 (.cons (.sub (.loc 312) (.k (.str Ti))) .nil))) (.seq (.iff (.cmp 0 (.sub (.loc 312) (.k (.str Tg))) (.sub (.BR Ad) (.k (.str Tc)))) (.seq (.Aj 251 (.sub (.loc 312) (.k (.str Th)))) (.seq (.Aj 145 (.fn 4 (.cons (.loc 251) .nil))) (.seq (.iff (.cmp 4 (.fn 0 (.cons (.loc 251) .nil)) (.fn 0 (.cons (.loc 145) .nil))) (.seq (.ex (.Al (.loc 145) 12 (.cons .bad .nil) [])) .skip) .skip) (.seq (.Jk (.loc 312) (.k (.str Th)) (.loc 145)) .skip)))) .skip) (.seq (.iff (.cmp 0 (.sub (.loc 312) (.k (.str Tg))) (.sub (.BR Ad) (.k (.str Td)))) (.seq (.iff (.sub (.loc 312) (.k (.str Th))) (.seq (.ex (.Al (.Bb (.loc 292) 313) 0 (.cons (.An (.cons (.k (.str Tg)) (.cons (.sub (.BR Ad) (.k (.str Tf))) (.cons (.k (.str Th)) (.cons (.k (.str (SV 0x6761742d646e652d6e692d73657475626972747461))) .nil))))) .nil) [])) .skip) .skip) (.seq (.iff (.sub (.loc 312) (.k (.str Tj))) (.seq (.ex (.Al (.Bb (.loc 292) 313) 0 (.cons (.An (.cons (.k (.str Tg)) (.cons (.sub (.BR Ad) (.k (.str Tf))) (.cons (.k (.str Th)) (.cons (.k (.str (SV 0x6761742d646e652d6e6f2d67616c662d676e69736f6c632d666c6573))) .nil))))) .nil) [])) .skip) .skip) .skip)) .skip) .skip))) .skip) (.seq (.ex (.Al (.Bb (.loc 292) 313) 0 (.cons (.loc 312) .nil) [])) (.seq (.Bi (.loc 292) 302 (.Bb (.loc 292) 146)) .skip)))
def aba(xs kws H k)(h:IH xs kws H k):Ab (Ah [292] xs kws) λN=>ex SQ Bh ⟨N,H,64,false⟩ (fin k):=by
 show bg h λJ st q tb y n O Q A g SG j D=>?_;clear h;subst Q A g;cases y<;>cases tb<;>
 ·conv=>whnf
  show(fL n rfl rfl j rfl ?_)
  conv=>whnf
  show⟨by lia,?_⟩;show jC J _ D
abbrev C2(x:WJ):FV:=Hz 7 x
abbrev CM:WJ:=Tp
def y9(h:a=true)(k:b=true):and a b=true:=by rw[h,k];rfl
def iL(h:Cn [c] [x]=v):decide (c=x)=v:=by
 rw[←h,aE];simp
def View.nil(v:View J d r e m):View J (d++[]) r e m:=by rw[Zu];show v
def DJ(ct:Ct):Prop:=ct=.no\/∃y n O,ct=.AM y n O
noncomputable def ds(y:Bool)(e:X):X:=.An (.cons (.k (.str Dp)) (.cons (.sub (.BR Ad) (.k (.str (Bool.rec Tc Td y)))) (.cons (.k (.str HP)) (.cons e (.cons (.k (.str Cq)) (.cons (.lst .nil) (.cons (.k (.str NN)) (.cons (.k (.Ae false))
 (Bool.rec (.cons (.k (.str NO)) (.cons (.k (.Ae false)) .nil)) .nil y)))))))))
def Ko(y:Bool)(e:X):S:=.Kl (.loc 292) 144 (ds y e)
section
variable {tab:List (Nat×Aq)}{l:Tw}{J:Sm}{t:Tm}{k:V->Tx->Prop}{st:Nat}{ct:Ct}{q:Tz}{tb:TK}{b:S}{u:WJ}
def GX(tab:List (Nat×Aq))(x:S)(l:Tw)(J:Sm)(t:Tm)(k:V->Tx->Prop):Prop:=∀K,CK K k->ex (Ax tab) x ⟨(292,.ob 1)::l,Hp J t,64,false⟩ K
def ij(h:Sx 292 l=none):SA l J t ⟨(292,.ob 1)::l,Hp J t,64,false⟩:=
 ⟨rfl,λn v e=>(aq _ _ _).trans ((Zi λz=>aw (h.symm.trans (z▸e))).trans e),bZ _ _,Zq _⟩
def GA.x{x:S}(h:GA tab x l J t k)(D:Sx 292 l=none):GX tab x l J t k:=λZ a=>h _ _ (ij D) a
def gV(D:Sx 292 l=none)(N:Et tab c l J t (.c (.Ae p)))(U:p=true->GX tab x l J t k)(f:p=false->GX tab y l J t k):GX tab (.seq (.iff c x y) .skip) l J t k:=λZ a=>
 bE (N _ _ (ij D) (aa rfl (bh (λh=>U h _ a.skip) λh=>f h _ a.skip)))
def zU{K:TB}(h:SU g e s (one λv s=>SU g o s (one λo s=>GP g o n v s λs=>ex g b s K))):ex g (.seq (.Kl o n e) b) s K:=h
def mG(A:DJ ct)(D:(l.all λq=>E8 DW q.2)=true)(j:Sx 292 l=none)(N:∀F,F (.c (.str u)) ⟨(292,.ob 1)::l,Hp J ⟨st,ct,some q,tb⟩,64,false⟩->SU (Ax tab) e ⟨(292,.ob 1)::l,Hp J ⟨st,ct,some q,tb⟩,64,false⟩ (one F))(h:GA tab b l J ⟨st,.live y u false,some q,tb⟩ k):
  GX tab (.seq (Ko y e) b) l J ⟨st,ct,some q,tb⟩ k:=by
 intro K a;have go:∀H,lo H=Hp J ⟨st,.live y u false,some q,tb⟩->ex (Ax tab) b ⟨(292,.ob 1)::l,H,66,false⟩ K:=λH f=>h _ _ ⟨rfl,(ij (J:=J) (t:=⟨st,ct,some q,tb⟩) j).L,f,ZR 64 2⟩ a;have i:∀ {s:St} {F:TC},F (.c (.int (Bool.rec 3 4 y))) s->DO Ad (.c (.str (Bool.rec Tc Td y))) s F:=λh=>by
  cases y
  ·show dI rfl h
  ·show dI rfl h
 rcases A with rfl|⟨P,O,g,rfl⟩<;>cases tb<;>cases y<;>
 ·show zU (gb (ah (aQ (ah (bK (bB (aQ (i (ah (aQ (ah (N _ ?_))))))))))))
  first
   |show go _ rfl
   |show aW (y9 rfl (y9 D rfl)) (go _ rfl)
section
variable {d r:WJ}{e m:Nat}{z:Prop}{c B fa:Nat}{v:V}
def lI{a:S}(N:B9 tab 133=Fg)(n:Sx 292 l=none)(w:View J d r e m)(i:r=[]->∀Z,Rd d e m (J.off=J.size) Z [] []->GX tab (.seq a .skip) (put 145 (.c .Ak) l) Z t k)
  (D:∀c f,r=c::f->∀Z,Rd d e m (J.off=J.size) Z [c] f->0<Z.off->GX tab (.seq a .skip) (put 145 (.c (.str [c])) l) Z t k):ex (Ax tab) (.seq Kp (.seq a Mj)) ⟨(292,.ob 1)::l,Hp J t,64,false⟩ (fin k):=by
 have Q:SA l J t ⟨(292,.ob 1)::l,Hp J t,64,false⟩:=ij n;show aG (aJ (ba (aj (aa Q.o (aP Q.DH rfl rfl (aa (Q.Al rfl rfl) (au (eR (eh J t rfl rfl rfl ?_)))))))));change B9 tab 133 _ _ _ _;rw[N];have g:∀v,put 145 v ((292,V.ob 1)::l)=(292,.ob 1)::put 145 v l:=λv=>(fu _ _ _ _).trans (Zi (by ext));show(bJ J t d r e m rfl rfl rfl w λZ A O a b y=>?_);cases r with
 |nil=>
  intro P;have h:=i rfl Z ⟨A,O,a,b,y,P.nil⟩ _ (fY (tab:=tab));rw[←g]at h;show dB h
 |cons c r=>
  intro P U;have h:=D c r rfl Z ⟨A,O,a,b,y,P⟩ U _ (fY (tab:=tab));rw[←g]at h;show dB h
def Et.and{a b:X}{p q:Bool}(f:Et tab a l J t (.c (.Ae p)))(P:Et tab b l J t (.c (.Ae q))):Et tab (.and a b) l J t (.c (.Ae (p&&q))):=λs F Q h=>gM (f s _ Q (aa rfl (by
 cases p
 ·show bH rfl h
 ·show aW rfl (P s _ Q h))))
def yO{q:Option Tz}(e:GQ x B)(h:k (.c (.Ae true)) (Hp J ⟨B,ct,q,tb⟩)):GA tab (.seq (Cv x) .skip) l J ⟨st,ct,q,tb⟩ k:=kN e.1 e.2 (bp h)
def cy(A:GQ x B)(g:Rd d e m z J y r)(D:Out.ok ct k d e m z ⟨true,B,tb,q,y,r,ct⟩):GA tab (.seq (Cv x) .skip) l J ⟨st,ct,some q,tb⟩ k:=yO A (g.fin D)
def tR(N:B9 tab 163=Dk)(U:Sx 145 l=some (.c (.str [c])))(A:GQ x B)(g:Rd d e m z J [c] r)(j:0<J.off)(D:Out.ok ct k d e m z ⟨true,B,tb,q,[],c::r,ct⟩):GA tab (.seq Jn (.seq (Cv x) .skip)) l J ⟨st,ct,some q,tb⟩ k:=
 have h:=g.iu j
 tQ U h.1 h.2.1 (cy A h.2.2 D) N
def tS(N:B9 tab 163=Dk)(U:Sx 145 l=some (.c .Ak))(A:GQ x B)(g:Rd d e m z J [] [])(D:Out.ok ct k d e m z ⟨true,B,tb,q,[],[],ct⟩):GA tab (.seq Jn (.seq (Cv x) .skip)) l J ⟨st,ct,some q,tb⟩ k:=tO U (cy A g D) N
end
end
def Cb(ct:Ct)(tb:TK)(r:WJ):Out:=match r with
 | []=>⟨true,304,tb,[C2 CM,BM [60]],[],[],ct⟩
 |c::r=>if c=47 then⟨true,360,tb,[],[c],r,ct⟩else
  if c∈AW then⟨true,367,tb,[],[c],r,.live false [c] false⟩else
  ⟨true,304,tb,[C2 CM,BM [60]],[],c::r,ct⟩
def HE:Aq:=Fx 353 Cb λct Z r=>DJ ct/\∀c a,r=c::a->c≠33/\c≠62/\c≠63
abbrev kk(x:WJ):X:=.k (.str x)
def Ol:S:=.seq (.iff (EP 62) (.seq (Ee GL (kk (SV 0x74656b636172622d74686769722d746f672d7475622d656d616e2d6761742d6465746365707865))) (.seq (Ee HQ (kk [60,62])) (.seq (Cv 146) .skip)))
 (.seq (.iff (EP 63) (.seq (Ee GL (kk (SV 0x6b72616d2d6e6f6974736575712d746f672d7475622d656d616e2d6761742d6465746365707865))) (.seq Jn (.seq (Cv 116) .skip))) (.seq (Ee GL (kk CM)) (.seq (Ee HQ (kk [60])) (.seq Jn (.seq (Cv 146) .skip))))) .skip)) .skip
def Bs:S:=wh (.iff (EP 33) (.seq (Cv 207) .skip) (.seq (.iff (EP 47) (.seq (Cv 132) .skip) (.seq (.iff Iy (.seq (Ko false (.loc 145)) (.seq (Cv 306) .skip)) Ol) .skip)) .skip))
def qE(xs kws H k)(h:HE xs kws H k):Ab (Ah [292] xs kws) λw=>ex SQ Bs ⟨w,H,64,false⟩ (fin k):=by
 show bg h λJ ct tb d r e m Q A a v y D=>?_;subst Q A a;obtain⟨hi,n⟩:=y;replace D:=λf p O E x P=>D f p O E x λZ=>P;show aa rfl (lI rfl rfl v ?_ ?_)
 ·rintro rfl f g;show GA.x (az (dy rfl) (λh=>nomatch h) λZ=>az (dy rfl) (λh=>nomatch h) λZ=>az (q9 rfl) (λh=>nomatch h) λZ=>az (dy rfl) (λh=>nomatch h) λZ=>az (dy rfl) (λh=>nomatch h) λZ=>
   bo rfl rfl eS (bo rfl rfl eS (tS rfl rfl ⟨rfl,rfl⟩ g D))) rfl
 ·rintro c r rfl f g j;show cu (n c r rfl) λU N C=>?_;have D:Out.ok ct k d e m (J.off=J.size) (Cb ct tb (c::r)):=D;show gV rfl (cW rfl) (λh=>T4 (Zm h) U) λZ=>gV rfl (cW rfl) (λh=>(cy ⟨rfl,rfl⟩ g (Out.pos D h)).x rfl) λh=>gV rfl (rh rfl)
   (λi=>mG hi rfl rfl (λF o=>aj (aa rfl o)) (cy ⟨rfl,rfl⟩ g (Out.pos (Out.neg D h) i))) λi=>
   (az (cW rfl) (λh=>T4 (Zm h) N) λZ=>az (cW rfl) (λh=>T4 (Zm h) C) λZ=>bo rfl rfl eS (bo rfl rfl eS (tR rfl rfl ⟨rfl,rfl⟩ g j (Out.neg (Out.neg D h) i)))).x rfl
abbrev Dl:WJ:=Tq
abbrev BX:WJ:=Tr
abbrev F7:WJ:=Ts
abbrev Dm:WJ:=Tt
abbrev Dg:WJ:=Tu
abbrev J6:WJ:=Tv
abbrev Hc(x:WJ)(c:Nat):FV:=.An [(Dp,.int 7),(Cq,.str x),(J6,.An [(Cq,.str [c])])]
def RH:Tz:=[.str [9],.str [10],.str [12],.str [32],.str [13]]
def BQ:List (Nat×Aq):=(297,IH)::JI
def SN:G:=Ax BQ
def IU:Out:=⟨false,0,none,[],[],[],.no⟩
def ME:S:=.ex (.Al (.loc 292) 158 .nil [])
def Qs(e:X):S:=.Kk (.Bb (.loc 292) 144) (.k (.str HP)) 0 e
def Rx(x:WJ):X:=.An (.cons (.k (.str Dp)) (.cons (.sub (.BR Ad) (.k (.str GL))) (.cons (.k (.str Cq)) (.cons (.k (.str x)) (.cons (.k (.str J6)) (.cons (.An (.cons (.k (.str Cq)) (.cons (.loc 145) .nil))) .nil))))))
def Rm(x:WJ):S:=.ex (.Al (.Bb (.loc 292) 313) 0 (.cons (Rx x) .nil) [])
section
variable {l:Tw}{J:Sm}{k:V->Tx->Prop}{st:Nat}{ct:Ct}{q:Tz}{tb:TK}{b:S}{en sc:Bool}{n:WJ}{c:Nat}
def SA.h32(h:SA l J ⟨st,.live en n sc,some q,tb⟩ s):Sx 32 s.H=some (.An ((JH en n sc).map λp=>(p.1,.c p.2))):=by
 have:=eg 32 s.H;rw[h.H,Zk (by ext)]at this;show this.symm
def zG(U:Sx i s.H=some (.An y))(N:sel a y=some v)(h:F v s):DO (.ob i) (.c (.str a)) s F:=aa rfl (aa U (aa rfl (aa N h)))
def rA(U:Sx i s.H=some (.An y))(N:ble y.length 900=true)(h:F (As s (put i (.An (Gu a v y)) s.H))):El (.ob i) (.c (.str a)) v s F:=aa rfl (aa rfl (aa U (aa rfl (aW N h))))
def oX(SG:q.length<=1000)(j:BV n)(h:GA BQ b l J ⟨304,.AM en (DE n) sc,some (q++[.An (EO en (DE n) sc)]),tb⟩ k):GA BQ (.seq ME b) l J ⟨st,.live en n sc,some q,tb⟩ k:=by
 intro s K Q u;show d3 (aJ (aj (aa Q.o (aa (show C4 (Ax BQ) (.ob 1) 158 [] s=some (.fn 297 (.ob 1)) from kA Q.DH (nA _ rfl) rfl) (au (eR (dE J _ rfl rfl Q.H (bk J st q tb en n sc rfl rfl rfl SG j (h _ _ (Q.call J _) u)))))))))
def adC(g:Sx 145 l=some (.c (.str [c])))(f:n.length<=100000)(h:GA BQ b l J ⟨st,.live en (n++[c]) sc,some q,tb⟩ k):GA BQ (.seq (Qs (.loc 145)) b) l J ⟨st,.live en n sc,some q,tb⟩ k:=by
 intro s K Q u;have j:∀ {x:AO},put 32 x (Hp J ⟨st,.live en n sc,some q,tb⟩)=Hp J ⟨st,.live en (n++[c]) sc,some q,tb⟩->lo (put 32 x s.H)=Hp J ⟨st,.live en (n++[c]) sc,some q,tb⟩:=λe=>by rw[dM (by ext),Q.H,e]
 have go:BI (Ax BQ) (.Bb (.loc 292) 144) s (λo s=>BI (Ax BQ) (.k (.str HP)) s λi s=>DO o i s λa s=>BI (Ax BQ) (.loc 145) s λy s=>Es 0 a y s λv s=>El o i v s λs=>ex (Ax BQ) b s K):=by
  show ba (aj (aa Q.o (aP Q.DH (show Sx 144 (R9 ⟨st,.live en n sc,some q,tb⟩)=some (.ob 32) from rfl) rfl ?_)));cases en<;>
  ·show aQ (zG Q.h32 rfl (aj (aa (Q.L _ _ g) (aaM (by change n.length+1<=_;lia) (rA Q.h32 rfl (h _ _ ⟨Q.o,Q.L,j rfl,Q.m⟩ u))))))
 show go
def adE(h:HS H z=some (f,Q)):HR [(N,.c x),(u,.c y),(g,z)] H=some ([(N,x),(u,y),(g,f)],Q):=by
 change BK (BK (Af (HS H z) _) _) _=_;rw[h];rfl
def adA(g:Sx 145 l=some (.c (.str [c])))(SG:q.length<=1000)(h:GA BQ b l J ⟨st,ct,some (q++[Hc x c]),tb⟩ k):GA BQ (.seq (Rm x) b) l J ⟨st,ct,some q,tb⟩ k:=by
 intro s K Q u;have O:=Q.m;show d3 (aJ (ba (aj (aa Q.o (aP Q.DH rfl rfl (aa (cw Q.tN rfl) (ah (gb (ah (aQ (ah (bK (bB (aQ (dI rfl (ah (aQ (ah (aQ (ah (aQ (ah (gb (ah (aQ (ah (aj (aa (Q.L _ _ g) (au (aa rfl (gc (au (aa rfl (gc (au ?_)))))))))))))))))))))))))))))))))));have P:Av ((s.m+1,AO.An [(Dp,.c (.int 7)),(Cq,.c (.str x)),(J6,.ob s.m)])::(s.m,.An [(Cq,.c (.str [c]))])::s.H) (.ob (s.m+1))=some (Hc x c,(s.m+1,.Av (Hc x c))::(s.m,.Av (.An [(Cq,.str [c])]))::s.H):=by
  have D:HS ((s.m+1,AO.An [(Dp,.c (.int 7)),(Cq,.c (.str x)),(J6,.ob s.m)])::(s.m,.An [(Cq,.c (.str [c]))])::s.H) (.ob s.m)=some (.An [(Cq,.str [c])],put s.m (.Av (.An [(Cq,.str [c])])) ((s.m+1,AO.An [(Dp,.c (.int 7)),(Cq,.c (.str x)),(J6,.ob s.m)])::(s.m,.An [(Cq,.c (.str [c]))])::s.H)):=by
   change Af (Sx s.m _) _=_;rw[show Sx s.m ((s.m+1,AO.An [(Dp,.c (.int 7)),(Cq,.c (.str x)),(J6,.ob s.m)])::(s.m,.An [(Cq,.c (.str [c]))])::s.H)=some (.An [(Cq,.c (.str [c]))]) from(p9 (Nat.ne_add_one s.m)).trans sR];rfl
  unfold Av;dsimp only;rw[show Sx (s.m+1) ((s.m+1,AO.An [(Dp,.c (.int 7)),(Cq,.c (.str x)),(J6,.ob s.m)])::(s.m,.An [(Cq,.c (.str [c]))])::s.H)=some (.An [(Dp,.c (.int 7)),(Cq,.c (.str x)),(J6,.ob s.m)]) from sR];change BK (HR _ _) _=_;rw[adE D];change some (Hc x c,put (s.m+1) (.Av (Hc x c)) (put s.m (.Av (.An [(Cq,.str [c])])) ((s.m+1,AO.An [(Dp,.c (.int 7)),(Cq,.c (.str x)),(J6,.ob s.m)])::(s.m,.An [(Cq,.c (.str [c]))])::s.H)))=_;rw[fu,Zi (show¬s.m=s.m+1 by show Nat.ne_add_one s.m),fu,Zk rfl,fu,Zk rfl]
 show gf (i:=5) (l0:=q) (l:=q) ((p9 (by lia)).trans ((p9 (by lia)).trans Q.tN)) P (show Sx 5 ((s.m+1,AO.Av (Hc x c))::(s.m,.Av (.An [(Cq,.str [c])]))::s.H)=some (.lst q) from(p9 (by lia)).trans ((p9 (by lia)).trans Q.tN)) (ZX (by lia)) (h _ _ ⟨Q.o,Q.L,?_,Y4 (Y4 Q.m)⟩ u);change lo (put 5 _ ((s.m+1,AO.Av (Hc x c))::(s.m,.Av (.An [(Cq,.str [c])]))::s.H))=_;rw[dM (by ext),b7,Zi (show¬s.m+1<64 by lia),b7,Zi (show¬s.m<64 by show YN.mpr O),Q.H];rfl
end
def BC(ct:Ct)(tb:TK)(r:WJ):Out:=match r with
 | []=>⟨true,304,tb,[C2 Dl,BM [60,47]],[],[],ct⟩
 |c::r=>if c∈AW then⟨true,367,tb,[],[c],r,.live true [c] false⟩else⟨true,598,tb,[Hc BX c],[],c::r,ct⟩
def Ff:Aq:=Fx 360 BC λct Z r=>DJ ct/\∀c u,r=c::u->c≠62
abbrev JM:X:=.cmp 6 (.loc 145) (.BR (.c .Ak))
def Oo:S:=.seq (.iff (EP 62) (.seq (Ee GL (kk (SV 0x74656b636172622d74686769722d746f672d7475622d6761742d676e69736f6c632d6465746365707865))) (.seq (Cv 146) .skip))
 (.seq (.iff JM (.seq (Ee GL (kk Dl)) (.seq (Ee HQ (kk [60,47])) (.seq (Cv 146) .skip))) (.seq (Rm BX) (.seq Jn (.seq (Cv 116) .skip)))) .skip)) .skip
def Bf:S:=wh (.iff Iy (.seq (Ko true (.loc 145)) (.seq (Cv 306) .skip)) Oo)
def hY(xs kws H k)(h:Ff xs kws H k):Ab (Ah [292] xs kws) λN=>ex SN Bf ⟨N,H,64,false⟩ (fin k):=by
 show bg h λJ ct tb d r e m Q A f v y D=>?_;subst Q A f;obtain⟨hi,u⟩:=y;replace D:=λa p O o U P=>D a p O o U λZ=>P;show aa rfl (lI rfl rfl v ?_ ?_)
 ·rintro rfl a g;show GA.x (az (q9 rfl) (λh=>nomatch h) λZ=>az (dy rfl) (λh=>nomatch h) λZ=>az (j6 rfl rfl) (λZ=>bo rfl rfl eS (bo rfl rfl eS (cy ⟨rfl,rfl⟩ g D))) λh=>nomatch h) rfl
 ·rintro c r rfl a g j;have D:=D;show gV rfl (rh rfl) (λi=>mG hi rfl rfl (λF z=>aj (aa rfl z)) (cy ⟨rfl,rfl⟩ g (Out.pos D i))) λi=>
   GA.x (az (cW rfl) (λh=>T4 (Zm h) (u c r rfl)) λZ=>az (j6 rfl rfl) (λh=>nomatch h) λZ=>adA rfl (ZF _) (tR rfl rfl ⟨rfl,rfl⟩ g j (Out.neg D i))) rfl
def Cc(ct:Ct)(tb:TK)(r:WJ):Out:=match ct with
 | .live en n sc=>match r with
  | []=>⟨true,304,tb,[C2 F7],[],[],ct⟩
  |c::r=>if c∈Dj then⟨true,535,tb,[],[c],r,ct⟩else
   if c=62 then⟨true,304,tb,[.An (EO en (DE n) sc)],[c],r,.AM en (DE n) sc⟩else
   if c=47 then⟨true,591,tb,[],[c],r,ct⟩else⟨true,367,tb,[],[c],r,.live en (n++[c]) sc⟩
 |_=>IU
def HF:Aq:=Fx 367 Cc λct Z r=>(∃en n sc,ct=.live en n sc/\BV n)/\∀c u,r=c::u->c≠0
def Bt:S:=wh (.iff Iw (.seq (Cv 107) .skip) (.seq (.iff (EP 62) (.seq ME .skip) (.seq (.iff JM (.seq (Ee GL (kk F7)) (.seq (Cv 146) .skip)) (.seq (.iff (EP 47) (.seq (Cv 293) .skip) (.seq (.iff (EP 0) (.seq (Ee GL (kk To)) (.seq (Qs (kk [65533])) .skip)) (.seq (Qs (.loc 145)) .skip)) .skip)) .skip)) .skip)) .skip))
def qF(xs kws H k)(h:HF xs kws H k):Ab (Ah [292] xs kws) λa=>ex SN Bt ⟨a,H,64,false⟩ (fin k):=by
 show fj rfl (λct tb k d e m z J r u D=>?_) xs kws H k h;obtain⟨⟨en,n,sc,rfl,j⟩,i⟩:=u;cases r with
 |nil=>show λg=>az (zt rfl rfl) (λh=>nomatch h) λZ=>az (dy rfl) (λh=>nomatch h) λZ=>az (j6 rfl rfl) (λZ=>bo rfl rfl eS (cy ⟨rfl,rfl⟩ g D)) λh=>nomatch h
 |cons c r=>
  show λg Z=>az (vf rfl rfl) (λh=>cy ⟨rfl,rfl⟩ g (Out.pos D h)) λU=>az (cW rfl) (λh=>oX (ZF _) j (bp (g.fin (Out.pos (Out.neg D U) h)))) λN=>az (j6 rfl rfl) (λh=>nomatch h) λZ=>
   az (cW rfl) (λh=>cy ⟨rfl,rfl⟩ g (Out.pos (Out.neg (Out.neg D U) N) h)) λf=>az (cW rfl) (λh=>T4 (Zm h) (i c r rfl)) λZ=>adC rfl j.2 (bp (g.fin (Out.neg (Out.neg (Out.neg D U) N) f)))
def DV(ct:Ct)(tb:TK)(r:WJ):Out:=match ct with
 | .live en n sc=>match r with
  | []=>⟨true,304,tb,[C2 Dm],[],[],ct⟩
  |c::r=>⟨true,304,tb,[.An (EO en (DE n) sc)],[c],r,.AM en (DE n) sc⟩
 |_=>IU
def IJ:Aq:=Fx 535 DV λct Z r=>(∃en n sc,ct=.live en n sc/\BV n)/\∀c u,r=c::u->c=62
def O2(e:X):S:=.ex (.Al (.sub (.Bb (.loc 292) 144) (.k (.str Cq))) 0 (.cons (.lst (.cons e (.cons (kk []) .nil))) .nil) [])
def Ou:S:=.seq (.iff (EP 0) (.seq (Ee GL (kk To)) (.seq (O2 (kk [65533])) (.seq (Cv 101) .skip))) (.seq (.iff JM (.seq (Ee GL (kk Dm)) (.seq (Cv 146) .skip)) (.seq (O2 (.loc 145)) (.seq (Cv 101) .skip))) .skip)) .skip
def Ov:S:=.seq (.iff (.cmp 8 (.loc 145) (.tup (.cons (kk [39]) (.cons (kk [34]) (.cons (kk [61]) (.cons (kk [60]) .nil)))))) (.seq (Ee GL (kk (SV 0x656d616e2d6574756269727474612d6e692d7265746361726168632d64696c61766e69))) (.seq (O2 (.loc 145)) (.seq (Cv 101) .skip))) Ou) .skip
def AG:S:=wh (.iff Iw (.seq (.ex (Hy (.cons (.BR (.c NX)) (.cons (.k (.Ae true)) .nil)))) .skip) (.seq (.iff Iy (.seq (O2 (.loc 145)) (.seq (Cv 101) .skip)) (.seq (.iff (EP 62) (.seq ME .skip) (.seq (.iff (EP 47) (.seq (Cv 293) .skip) Ov) .skip)) .skip)) .skip))
def uv(xs kws H k)(h:IJ xs kws H k):Ab (Ah [292] xs kws) λN=>ex SN AG ⟨N,H,64,false⟩ (fin k):=by
 show fj rfl (λct tb k d e m z J r u D=>?_) xs kws H k h;obtain⟨⟨en,n,sc,rfl,f⟩,j⟩:=u;cases r with
 |nil=>
  show λg=>az (zt rfl rfl) (λh=>nomatch h) λZ=>az (q9 rfl) (λh=>nomatch h) λZ=>az (dy rfl) (λh=>nomatch h) λZ=>az (dy rfl) (λh=>nomatch h) λZ=>az (show Et BQ (.cmp 8 (.loc 145) (.tup (.cons (kk [39]) (.cons (kk [34]) (.cons (kk [61]) (.cons (kk [60]) .nil)))))) [(145,.c .Ak)] J ⟨535,.live en n sc,some [],tb⟩ (.c (.Ae false)) from λs F Q h=>aH (aj (aa (Q.L 145 (.c .Ak) rfl) (dW (ah (aQ (ah (aQ (ah (aQ (ah (aQ (au (aa (a:=([.str [39],.str [34],.str [61],.str [60]],s.H)) rfl (aW rfl (dt (zy rfl h))))))))))))))))) (λh=>nomatch h) λZ=>az (dy rfl) (λh=>nomatch h) λZ=>
   az (j6 rfl rfl) (λZ=>bo rfl rfl eS (cy ⟨rfl,rfl⟩ g D)) λh=>nomatch h
 |cons c r=>
  obtain rfl:=j c r rfl;show λg Z=>az (vf rfl rfl) (λh=>nomatch h) λZ=>az (rh rfl) (λh=>nomatch h) λZ=>az (cW rfl) (λZ=>oX (ZF _) f (bp (g.fin D))) λh=>nomatch h
def EZ(ct:Ct)(tb:TK)(r:WJ):Out:=match ct with
 | .live en n _=>match r with
  | []=>⟨true,304,tb,[C2 Dg],[],[],ct⟩
  |c::r=>⟨true,304,tb,[.An (EO en (DE n) true)],[c],r,.AM en (DE n) true⟩
 |_=>IU
def JQ:Aq:=Fx 591 EZ λct Z r=>(∃n sc,ct=.live false n sc/\BV n)/\∀c u,r=c::u->c=62
def AE:S:=wh (.iff (EP 62) (.seq (.Jk (.Bb (.loc 292) 144) (.k (.str NN)) (.k (.Ae true))) (.seq ME .skip)) (.seq (.iff JM (.seq (Ee GL (kk Dg)) (.seq Jn (.seq (Cv 146) .skip)))
 (.seq (Ee GL (kk (SV 0x6761742d6e692d737564696c6f732d72657466612d7265746361726168632d64657463657078656e75))) (.seq Jn (.seq (Cv 107) .skip)))) .skip))
def xg(xs kws H k)(h:JQ xs kws H k):Ab (Ah [292] xs kws) λN=>ex SN AE ⟨N,H,64,false⟩ (fin k):=by
 show fj rfl (λct tb k d e m z J r u D=>?_) xs kws H k h;obtain⟨⟨n,sc,rfl,a⟩,j⟩:=u;cases r with
 |nil=>show λg=>az (dy rfl) (λh=>nomatch h) λZ=>az (j6 rfl rfl) (λZ=>bo rfl rfl eS (tS rfl rfl ⟨rfl,rfl⟩ g D)) λh=>nomatch h
 |cons c r=>
  obtain rfl:=j c r rfl;show λg Z=>az (cW rfl) (λZ=>?_) λh=>nomatch h;intro s K Q u;have go:BI (Ax BQ) (.k (.Ae true)) s (λv s=>BI (Ax BQ) (.Bb (.loc 292) 144) s λo s=>BI (Ax BQ) (.k (.str NN)) s λi s=>El o i v s λs=>ex (Ax BQ) (.seq ME .skip) s K):=
   aQ (ba (aj (aa Q.o (aP Q.DH (show Sx 144 (R9 ⟨591,.live false n sc,some [],tb⟩)=some (.ob 32) from rfl) rfl (aQ (rA Q.h32 rfl (oX (ZF _) a (bp (g.fin D)) _ _ ⟨Q.o,Q.L,(show∀ {x:AO},put 32 x (Hp J ⟨591,.live false n sc,some [],tb⟩)=Hp J ⟨591,.live false n true,some [],tb⟩->lo (put 32 x s.H)=Hp J ⟨591,.live false n true,some [],tb⟩ from λe=>by rw[dM (by ext),Q.H,e]) rfl,Q.m⟩ u)))))))
  show go
def nS:∀ {l:WJ},x∉l->AS [x] [y] 0 l=l
 | [],_=>rfl
 |c::l,h=>by
  have n1:¬[x].isPrefixOf (c::l)=true:=by
   simp only[List.isPrefixOf,Bool.and_true,Yw];show λe=>h (e▸ .head _)
  rw[dC n1,nS λz=>h (.tail _ z)]
abbrev JG(x:WJ):FV:=Hz 6 x
def E0(ct:Ct)(tb:TK)(r:WJ):Out:=⟨true,304,tb,[JG (AJ [62] r)],AJ [62] r++(Fq [62] r).take 1,(Fq [62] r).drop 1,ct⟩
def JV:Aq:=O3 false 598 E0 λct Z r=>DJ ct/\0∉AJ [62] r
def K1:S:=.seq (Cv 146) Mj
def K2:S:=.seq (.ex (.Al (.Bb (.loc 292) 305) 119 .nil [])) K1
def K3:S:=.seq (Ee Te (.loc 145)) K2
def Ot:S:=.seq (.Aj 145 (.rep (.loc 145) [0] [65533])) K3
def Bg:S:=.seq (.Aj 145 (Hy (.cons (kk [62]) .nil))) Ot
section
variable {l:Tw}{J:Sm}{t:Tm}{k:V->Tx->Prop}{st:Nat}{ct:Ct}{q:Tz}{tb:TK}{s:St}
def aep(Q:SA l J ⟨st,ct,some q,tb⟩ s)(D:k (.c (.Ae true)) (Hp J ⟨304,ct,some q,tb⟩)):ex (Ax BQ) K1 s (fin k):=by
 show dB ((show GA BQ (.seq (Cv 146) .skip) l J ⟨st,ct,some q,tb⟩ k from yO ⟨rfl,rfl⟩ D) _ _ Q fY)
def afK(Q:SA l J ⟨st,ct,some q,tb⟩ s)(v:View J d r e m)(D:∀b A O,A+O=e+m->O<=m->View b (d++r.take 1) (r.drop 1) A O->k (.c (.Ae true)) (Hp b ⟨304,ct,some q,tb⟩)):ex (Ax BQ) K2 s (fin k):=by
 show d3 (aJ (ba (aj (aa Q.o (aP Q.DH rfl rfl (aa (Q.Al rfl rfl) (au (eR (dE J _ rfl rfl Q.H (bJ J _ d r e m rfl rfl rfl v λj Z m2 a U f=>?_))))))))));cases r with
 |nil=>show λu=>aep (Q.call j _) (D j Z m2 a U u.nil)
 |cons c r=>show λu f=>aep (Q.call j _) (D j Z m2 a U u)
def afL(Q:SA l J ⟨st,ct,some [],tb⟩ s)(g:Sx 145 l=some (.c (.str u)))(v:View J d r e m)(D:∀Z A O,A+O=e+m->O<=m->View Z (d++r.take 1) (r.drop 1) A O->k (.c (.Ae true)) (Hp Z ⟨304,ct,some [JG u],tb⟩)):ex (Ax BQ) K3 s (fin k):=by
 have a:=Q.m;show d3 (aJ (ba (aj (aa Q.o (aP Q.DH rfl rfl (aa (cw Q.tN rfl) (ah (gb (ah (aQ (ah (bK (bB (aQ (dI rfl (ah (aQ (ah (aj (aa (Q.L _ _ g) (au (aa rfl (gc (au (gf ((p9 (by lia)).trans Q.tN) mH ((p9 (by lia)).trans Q.tN) rfl (afK (st:=st) ⟨Q.o,Q.L,?_,Y4 Q.m⟩ v D))))))))))))))))))))))))));change lo (put 5 _ ((s.m,_)::s.H))=_;rw[dM (by ext),b7,Zi (show¬s.m<64 by show YN.mpr a),Q.H];rfl
end
def xr(xs kws H k)(h:JV xs kws H k):Ab (Ah [292] xs kws) λo=>ex SN Bg ⟨o,H,64,false⟩ (fin k):=by
 show bg h λJ ct tb d r e m f A g v y D=>?_;clear h;subst f A g;obtain⟨hi,P⟩:=y;have Q:SA [] J ⟨598,ct,some [],tb⟩ ⟨[(292,.ob 1)],Hp J ⟨598,ct,some [],tb⟩,64,false⟩:=ij rfl;have x:=v.bound;have w:=qW (λc=>decide (c∈[62])) false r;show aa rfl (aG (aJ (ba (aj (aa Q.o (aP Q.DH rfl rfl (aa (Q.Al rfl rfl) (ah (aQ (au (eR (dE J _ rfl rfl Q.H ⟨J,_,d,r,e,m,.str [62],false,λc=>decide (c∈[62]),.inr ⟨rfl,rfl⟩,rfl,rfl,ny [62],v,λi B O a b n=>?_⟩))))))))))));show aG (sG (aj (aa rfl ⟨⟨rfl,Zh (Zh w (Zh (Z0 _ _) x)) (by ext)⟩,?_⟩)));rw[nS P];have N:=Q.call i ⟨598,ct,some [],tb⟩;show afL ⟨rfl,(ij (J:=J) (t:=⟨598,ct,some [],tb⟩) rfl).L,N.H,N.m⟩ rfl n λj Z m2 u U p=>D j Z m2 (u.trans a) (Zh U b) (λz=>nomatch z) (by
  rw[←Zo];show p)
def CJ(B N:Nat)(ct:Ct)(tb:TK)(r:WJ):Out:=match ct with
 | .AM _ n _=>match tb with
  |some b=>match r with
   | []=>⟨true,B,some b,[BM ([60,47]++b)],[],[],ct⟩
   |c::r=>if c∈Dj/\Bp n=Bp b then⟨true,535,some b,[],[c],r,.live true b false⟩else
    if c=62/\Bp n=Bp b then⟨true,304,some b,[.An (EO true (DE b) false)],[c],r,.AM true (DE b) false⟩else
    if c∈AW then⟨true,N,some (b++[c]),[],[c],r,ct⟩else⟨true,B,some b,[BM ([60,47]++b)],[],c::r,ct⟩
  |none=>IU
 |_=>IU
def EY(ct:Ct)(tb:TK)(r:WJ):Prop:=∃n O b,ct=.AM false n O/\tb=some b/\BV n/\BV b/\∀c u,r=c::u->Bp n=Bp b->c≠47
def pN(h:BV n)(j:∀c,c<128->p c=true):n.all p=true:=Zv.mpr λc u=>j c (h.1 c u)
def Out.acP{ct:Ct}{z:Prop}{P Q:Prop}[Decidable P][Decidable Q](D:Out.ok ct k d e m z (if P/\Q then a else b))(h:(decide P&&decide Q)=true):Out.ok ct k d e m z a:=by
 rw[Zp]at h;rw[Zk ⟨Zm h.1,Zm h.2⟩]at D;show D
def Out.aar{ct:Ct}{z:Prop}{P Q:Prop}[Decidable P][Decidable Q](D:Out.ok ct k d e m z (if P/\Q then a else b))(h:(decide P&&decide Q)=false):Out.ok ct k d e m z b:=by
 rw[Zi λz=>by rw[Zr z.1,Zr z.2]at h;show nomatch h]at D;show D
def zF(U:Sx i s.H=some (.Av (.An y)))(N:sel a y=some f)(h:F (.c f) s):DO (.ob i) (.c (.str a)) s F:=by
 have k2:=show Ab (sel a y) λr=>F (.c r) s from aa N h
 show aa rfl (aa U k2)
def Km:X:=.Bb (.loc 292) 310
def Pa:X:=.and (.Bb (.loc 292) 144) (.cmp 0 (.Al (.sub (.Bb (.loc 292) 144) (.k (.str HP))) 7 .nil []) (.Al Km 7 .nil []))
def Ql(y:Nat):S:=.seq (.iff Iy (.seq (.Gb (.loc 292) 310 0 (.loc 145)) .skip) (.seq (Ee HQ (.bin 0 (kk [60,47]) Km)) (.seq Jn (.seq (Cv y) .skip)))) .skip
def Om(y:Nat):S:=.seq (.iff (.and (EP 62) (.loc 98)) (.seq (Ko true Km) (.seq ME (.seq (Cv 146) .skip))) (Ql y)) .skip
def Lj(y:Nat):S:=.seq (.Aj 98 Pa) (wh (.iff (.and Iw (.loc 98)) (.seq (Ko true Km) (.seq (Cv 107) .skip)) (.seq (.iff (.and (EP 47) (.loc 98)) (.seq (Ko true Km) (.seq (Cv 293) .skip)) (Om y)) .skip)))
def yW(U:GQ xb B)(xs kws H k)(h:Fx N (CJ B N) EY xs kws H k):Ab (Ah [292] xs kws) λL0=>ex SN (Lj xb) ⟨L0,H,64,false⟩ (fin k):=by
 show bg h λJ ct tb d r e m L R G v y D=>?_;subst L R G;obtain⟨n,O,b,rfl,rfl,Y,P,I⟩:=y;replace D:=λZ e' m' b1 b2 b3=>D Z e' m' b1 b2 λE=>b3;have Q:SA [] J ⟨N,.AM false n O,some [],some b⟩ ⟨[(292,.ob 1)],Hp J ⟨N,.AM false n O,some [],some b⟩,64,false⟩:=ij rfl;have o:Sx 144 (R9 ⟨N,.AM false n O,some [],some b⟩)=some (.ob 32):=rfl;have g:∀ {x:WJ},BV x->(x.all λc=>or (Nat.blt c 128) (beq c 233))=true:=λh=>pN h λc hc=>by rw[show Nat.blt c 128=true from Nat.ble_eq.mpr hc];rfl
 have w:∀ {l:Tw} {Z:Sm},Et BQ Km l Z ⟨N,.AM false n O,some [],some b⟩ (.c (.str b)):=λs F Q h=>ba (aj (aa Q.o (aP Q.DH rfl rfl h)));have go:∀p,p=decide (Bp n=Bp b)->ex SN (wh (.iff (.and Iw (.loc 98)) (.seq (Ko true Km) (.seq (Cv 107) .skip)) (.seq (.iff (.and (EP 47) (.loc 98)) (.seq (Ko true Km) (.seq (Cv 293) .skip)) (Om xb)) .skip))) ⟨[(292,.ob 1),(98,.c (.Ae p))],Hp J ⟨N,.AM false n O,some [],some b⟩,64,false⟩ (fin k):=by
  intro p j;have z:∀ {v:V} {Z:Sm},Et BQ (.loc 98) [(98,.c (.Ae p)),(145,v)] Z ⟨N,.AM false n O,some [],some b⟩ (.c (.Ae p)):=aa3 rfl;show lI (tab:=BQ) (l:=[(98,.c (.Ae p))]) rfl rfl v ?_ ?_
  ·rintro rfl Z C;have A:=P.2;show GA.x (az ((zt rfl rfl).and z) (λh=>nomatch h) λE=>az ((dy rfl).and z) (λh=>nomatch h) λE=>az ((dy rfl).and z) (λh=>nomatch h) λE=>az (q9 rfl) (λh=>nomatch h) λE=>
    bo (i:=1) (u:=[60,47]++b) rfl rfl (λs F Q h=>cm (aQ (w s _ Q (uR (by change 2+b.length<=_;lia) h)))) (tS (B:=B) rfl rfl U C D)) rfl
  ·rintro c r rfl Z C h0;have A:=P.2;have D:Out.ok (.AM false n O) k d e m (J.off=J.size) (CJ B N (.AM false n O) (some b) (c::r)):=D;have X:∀ {T:S},GA BQ T [(98,.c (.Ae p)),(145,.c (.str [c]))] Z ⟨N,.live true b false,some [],some b⟩ k->GX BQ (.seq (Ko true Km) T) [(98,.c (.Ae p)),(145,.c (.str [c]))] Z ⟨N,.AM false n O,some [],some b⟩ k:=λh=>mG (show DJ (.AM false n O) from .inr (gp _ _ _ rfl)) rfl rfl (λF hF=>w _ _ (ij rfl) hF) h;show gV rfl ((vf rfl rfl).and z) (λh=>X (cy (B:=535) ⟨rfl,rfl⟩ C (Out.acP D (by rw[←j];show h)))) λW=>gV rfl ((cW rfl).and z) (λh=>?_) λE=>gV rfl ((cW rfl).and z) (λh=>X (oX (ZF _) P (cy (B:=304) ⟨rfl,rfl⟩ C (Out.acP (Out.aar D (by rw[←j];show W)) (by rw[←j];show h))))) λh2=>GA.x ?_ rfl
   ·rw[Zp]at h;show T4 (Zm h.1) (I c r rfl (Zm (j▸h.2)))
   ·have D:=Out.aar (Out.aar D (by rw[←j];show W)) (by rw[←j];show h2);show az (rh rfl) (λh=>tU rfl P.2 (bp (C.fin (Out.pos D h)))) λh=>bo (i:=1) (u:=[60,47]++b) rfl rfl (λs F Q h=>cm (aQ (w s _ Q (uR (by change 2+b.length<=_;lia) h)))) (tR (B:=B) rfl rfl U C h0 (Out.neg D h))
 show aa rfl (aG (gM (ba (aj (aa rfl (aP Q.DH o rfl (aa (a:=true) rfl (aW rfl (aH (aJ (bK (ba (aj (aa rfl (aP Q.DH o rfl (aQ (zF (show Sx 32 (Hp J ⟨N,.AM false n O,some [],some b⟩)=some (.Av (.An (EO false n O))) from rfl) (f:=.str n) rfl (aa (a:=M.str n) rfl (au (⟨g Y,aJ (ba (aj (aa rfl (aP Q.DH rfl rfl (aa (a:=M.str b) rfl (au ⟨g P,dt (zx (go _ rfl))⟩))))))⟩))))))))))))))))))))
def JS:Aq:=Fx 388 (CJ 318 388) EY
def AP:S:=Lj 259
def xk(xs kws H k)(h:JS xs kws H k):Ab (Ah [292] xs kws) λN=>ex SN AP ⟨N,H,64,false⟩ (fin k):=yW ⟨rfl,rfl⟩ xs kws H k h
def IE:Aq:=Fx 409 (CJ 332 409) EY
def AL:S:=Lj 255
def uk(xs kws H k)(h:IE xs kws H k):Ab (Ah [292] xs kws) λN=>ex SN AL ⟨N,H,64,false⟩ (fin k):=yW ⟨rfl,rfl⟩ xs kws H k h
section
variable {g:G}{s:St}{F:TC}{k:TR}
def fd2(a b:Nat):Int.fdiv ((a:Int)+(b:Int)) 2=(((a+b) / 2:Nat):Int):=by
 rw[Int.fdiv_eq_ediv_of_nonneg _ (by ext)];show(Int.natCast_ediv (a+b) 2).symm
def ac1{a b:Nat}(h:a<b):a<=(a+b) / 2:=(Nat.le_div_iff_mul_le (by ext)).mpr (Nat.mul_two a▸ZH (Yo h) a)
def qc{a b:Nat}(h:a<b):(a+b) / 2<b:=Nat.div_lt_of_lt_mul (Nat.two_mul b▸Nat.add_lt_add_right h b)
def ac0{a b m n:Nat}(h:b-a<=n+1)(U:a<=m):b-(m+1)<=n:=XC.mpr (Zh (XC.mp h) (Zh (ZH U _) (Zz (ZZ _ 1 _))))
def acZ{a b m n:Nat}(h:b-a<=n+1)(U:m<b):m-a<=n:=XC.mpr (ZN (ZJ U (Zh (XC.mp h) (Zz (ZZ _ 1 _)))))
def z7:Builtin.divisionGoesByPylong c 2=false:=by
 unfold Builtin.divisionGoesByPylong;rw[propext Bool.and_eq_false_iff];left;decide
end
def JN(l:TL):Tz:=l.map .str
def Gj(y:TL)(key:WJ):Nat->Nat->Nat->Nat
 |0,lo,_=>lo
 |n+1,lo,hi=>if lo<hi then(if GZ (y.getD ((lo+hi) / 2) []) key then Gj y key n ((lo+hi) / 2+1) hi else Gj y key n lo ((lo+hi) / 2))else lo
def uP{y:TL}{key:WJ}{n lo hi:Nat}:Gj y key (n+1) lo hi=if lo<hi then(if GZ (y.getD ((lo+hi) / 2) []) key then Gj y key n ((lo+hi) / 2+1) hi else Gj y key n lo ((lo+hi) / 2))else lo:=rfl
def Bv:TG:=match A0 with| .c (.An l)=>l|_=>[]
def Au:TL:=match Sx 236 JO with
 |some d=>match Sx 47 d with
  |some (.c (.lst l))=>l.map λf=>match f with| .str s=>s|_=>[]
  |_=>[]
 |_=>[]
def yr:SR.FA 236 44=some A0:=rfl
def acs{key:WJ}(h:F (By key Bv) s):FH g 8 (.c (.str key)) A0 s F:=h
def Oh:X:=.cmp 2 (.loc 204) (.loc 183)
def Oi:S:=.seq (.Aj 211 (.bin 3 (.bin 0 (.loc 204) (.loc 183)) (.k (.int 2)))) (.seq (.iff (.cmp 2 (.sub (.loc 268) (.loc 211)) (.loc 190)) (.seq (.Aj 204 (.bin 0 (.loc 211) (.k (.int 1)))) .skip) (.seq (.Aj 183 (.loc 211)) .skip)) .skip)
def Dt:S:=.seq (.iff (.cmp 6 (.loc 183) (.k .Ak)) (.seq (.Aj 183 (.fn 0 (.cons (.loc 268) .nil))) .skip) .skip) (.seq (.wh 137 Oh Oi) (.seq (.ret (.loc 204)) .skip))
def KO:Aq:=λu z H k=>∃J t y key lo hi,u=[.c (.lst (JN y)),.c (.str key),.c (.int (lo:Nat)),.c (.int (hi:Nat))]/\z=[]/\H=Hp J t/\hi<=y.length/\k (.c (.int (Gj y key y.length lo hi:Nat))) (Hp J t)
abbrev Lb(y:TL)(key:WJ)(lo hi:Nat)(x:Tw):Tw:=(268,.c (.lst (JN y)))::(190,.c (.str key))::(204,.c (.int (lo:Nat)))::(183,.c (.int (hi:Nat)))::x
def afJ{key:WJ}{lo hi:Nat}(z:F (.c (.int (((lo+hi) / 2:Nat):Int))) ⟨Lb y key lo hi x,H,64,false⟩):
  SU SR (X.bin 3 (X.bin 0 (X.loc 204) (X.loc 183)) (X.k (.int 2))) ⟨Lb y key lo hi x,H,64,false⟩ (one F):=by
 rw[←fd2]at z;show⟨⟨by ext,z7⟩,z⟩
def uO{K:TB}{y:TL}{key:WJ}(O:∀s,R6 SR Oh Oi K P s->P s)(n:Nat):∀(j d:Nat) (x:Tw),d<=y.length->d-j<=n->
  (∀A z,K .AZ ⟨Lb y key (Gj y key n j d) A z,Hp J t,64,false⟩)->P ⟨Lb y key j d x,Hp J t,64,false⟩:=by
 induction n with
 |zero=>
  intro j d x U N D;show O _ ?_
  conv=>whnf
  show bH (Zs λq=>Nat.not_lt_of_le (XD (Wq.mp N)) (Xa.mp q)) (D d x)
 |succ n Q=>
  intro j d x U N D;show O _ ?_
  conv=>whnf
  show bh (λh=>?_) λh=>?_
  ·have h:=Xa.mp (Zm h);have a:(j+d) / 2<y.length:=ZJ (qc h) U;have b:(JN y)[(j+d) / 2]? =some (.str (y.getD ((j+d) / 2) [])):=by
    rw[Xq,Yy,Zy a];rfl
   rw[uP,Zk h]at D;show aG (afJ ?_)
   conv=>whnf
   show aa ((ao 211 211 _ _).trans (Zk rfl)) ?_;show aa (o:=Co _ (_:Int)) ((dP _ _).trans b) ?_
   conv=>whnf
   show bh (λq=>?_) λq=>?_
   ·rw[Zk (show GZ (y.getD ((j+d) / 2) []) key=true from q)]at D
    conv=>whnf
    show aa ((ao 211 211 _ _).trans (Zk rfl)) (Q ((j+d) / 2+1) d _ U (ac0 N (ac1 h)) D)
   ·rw[Zi (by rw[show GZ (y.getD ((j+d) / 2) []) key=false from q];decide)]at D
    conv=>whnf
    show aa ((ao 211 211 _ _).trans (Zk rfl)) (Q j ((j+d) / 2) _ (Yo a) (acZ N (qc h)) D)
  ·rw[uP,Zi λq=>ZA h (Xa.mpr q)]at D;show D d x
def adX(xs kws H k)(h:KO xs kws H k):Ab (Ah [268,190,204,183] xs kws) λN=>ex SR Dt ⟨N,H,64,false⟩ (fin k):=by
 show cX h λJ t y key lo hi l Q A u D=>?_;clear h;subst l Q A;show aa rfl (bE (aH (aj (aa rfl (aQ (dt (acr rfl (aa rfl (bH rfl (aB (cU (i5 λP O=>uO O y.length lo hi _ u (Zh (Wl _ _) u) λa z=>b9 J t D))))))))))))
def B5:S:=.seq (.ret (.cmp 8 (.loc 190) (.Bb (.loc 292) 44))) .skip
def II:Aq:=λu z H k=>∃J t key,u=[.st 236,.c (.str key)]/\z=[]/\H=Hp J t/\k (.c (.Ae (By key Bv))) (Hp J t)
def abc(xs kws H k)(h:II xs kws H k):Ab (Ah [292,190] xs kws) λN=>ex SR B5 ⟨N,H,64,false⟩ (fin k):=by
 show fg h λJ t key z j U D=>?_;clear h;subst z j U;show aa rfl (fk (aH (aj (aa rfl (ba (aj (aa rfl (aeC yr (acs (b9 J t D))))))))))
def Hd:List (Nat×Aq):=(178,KO)::(199,II)::Cm
def JA:G:=Ax Hd
def Dw(key:WJ):Bool:=if By key Bv then true else if Gj Au key Au.length 0 Au.length=Au.length then false else key.isPrefixOf (Au.getD (Gj Au key Au.length 0 Au.length) [])
def Bz:S:=.seq (.iff (.cmp 8 (.loc 242) (.Bb (.loc 292) 44)) (.seq (.ret (.k (.Ae true))) .skip) .skip) (.seq (.iff (.Al (.loc 242) 9 (.cons (.Bb (.loc 292) 43) .nil) []) (.seq (.GC [(none,201),(none,182)] (.Bb (.loc 292) 42)) (.seq (.Aj 184 (.call 178 (.cons (.Bb (.loc 292) 47) (.cons (.loc 242) (.cons (.loc 201) (.cons (.loc 182) .nil)))))) .skip)) (.seq (.Aj 184 (.call 178 (.cons (.Bb (.loc 292) 47) (.cons (.loc 242) .nil)))) .skip)) (.seq (.iff (.cmp 0 (.loc 184) (.fn 0 (.cons (.Bb (.loc 292) 47) .nil))) (.seq (.ret (.k (.Ae false))) .skip) .skip) (.seq (.ret (.Al (.sub (.Bb (.loc 292) 47) (.loc 184)) 9 (.cons (.loc 242) .nil) [])) .skip)))
def KN:Aq:=λu z H k=>∃J t key,u=[.st 236,.c (.str key)]/\z=[]/\H=Hp J t/\(By key Bv=false->Gj Au key Au.length 0 Au.length<=Au.length)/\k (.c (.Ae (Dw key))) (Hp J t)
def adW(xs kws H k)(h:KN xs kws H k):Ab (Ah [292,242] xs kws) λN=>ex JA Bz ⟨N,H,64,false⟩ (fin k):=by
 show aK h λJ t key z j U P D=>?_;subst z j U;unfold Dw at D;show aa rfl (bE (aH (aj (aa rfl (ba (aj (aa rfl (aeC yr (acs (aa rfl (bh (λh=>?_) λh=>?_)))))))))))
 ·rw[Zk (show By key Bv=true from h)]at D;show b9 J t D
 ·have h:By key Bv=false:=h;rw[Zi (by rw[h];decide)]at D
  conv=>whnf
  show eh J t rfl rfl rfl (bJ J t Au key 0 Au.length rfl rfl rfl (Zq _) ?_)
  conv=>whnf
  show bh (λq=>?_) λq=>?_
  ·rw[Zk (by show X0.mp (Zm q))]at D;show b9 J t D
  ·have q:=ZA q;have q:¬Gj Au key Au.length 0 Au.length=Au.length:=by show neN λa=>q (T3 Nat.cast a)
   rw[Zi q]at D;have Q:(JN Au)[Gj Au key Au.length 0 Au.length]? =some (.str (Au.getD (Gj Au key Au.length 0 Au.length) [])):=by
    rw[Xq,Yy,Zy (by lia)];rfl
   conv=>whnf
   show aa (o:=Co _ (_:Int)) ((dP _ _).trans Q) (b9 J t D)
def BS:S:=.seq (.iff (.cmp 8 (.loc 242) (.loc 292)) (.seq (.ret (.loc 242)) .skip) .skip) (.seq (.NV 184 (.cons (.k (.int 1)) (.cons (.bin 0 (.fn 0 (.cons (.loc 242) .nil)) (.k (.int 1))) .nil)) (.seq (.iff (.cmp 8 (.Cj (.loc 242) (.k .Ak) (.neg (.loc 184))) (.loc 292)) (.seq (.ret (.Cj (.loc 242) (.k .Ak) (.neg (.loc 184)))) .skip) .skip) .skip)) (.seq .bad .skip))
def iC(a:Int)(n:Nat):En a (n+1)=.int a::En (a+1) n:=by
 unfold En;rw[List.range_succ_eq_map,Ye,Y9];rw[T3 FV.int (Int.add_zero a)];show T3 (_:: ·) (List.map_congr_left λi Z=>?_);show T3 FV.int (by lia)
def l8{x:WJ}{i:Int}(U:1<=i)(N:i<=x.length):slice x none (some (-i))=x.take (x.length-i.toNat):=by
 obtain⟨n,rfl⟩:=Int.eq_ofNat_of_zero_le (XQ (by ext) U);rw[cM];change(x.take (DL x.length (-(n:Int)))).drop 0=_;unfold DL;rw[Zs λq=>T4 (XQ U (Int.neg_nonneg.mp q)) (by ext),Yp];show T3 (x.take ·) ((T3 Int.toNat (Int.add_comm _ _)).trans (Int.toNat_sub x.length n))
def Hq(x:WJ):Nat->TK
 |0=>none
 |j+1=>if By (x.take j) Bv=true then some (x.take j)else Hq x j
def Gg(x:WJ):TK:=if By x Bv=true then some x else Hq x x.length
def LI:S:=.iff (.cmp 8 (.loc 242) (.loc 292)) (.seq (.ret (.loc 242)) .skip) .skip
def J4:S:=.seq (.iff (.cmp 8 (.Cj (.loc 242) (.k .Ak) (.neg (.loc 184))) (.loc 292)) (.seq (.ret (.Cj (.loc 242) (.k .Ak) (.neg (.loc 184)))) .skip) .skip) .skip
def LH:S:=.NV 184 (.cons (.k (.int 1)) (.cons (.bin 0 (.fn 0 (.cons (.loc 242) .nil)) (.k (.int 1))) .nil)) J4
abbrev La(x:WJ)(y:Tw):Tw:=(292,.st 236)::(242,.c (.str x))::y
section
variable {g:G}{s:St}{F:TC}{K:TB}
def acU(h:SU g a s (one λa s=>Ab (aC a) λf=>Ab (aI f) λi=>F (.c (.int (-i))) s)):SU g (.neg a) s (one F):=h
def aeZ(h:F (.c (.str (slice x none (some i)))) s):Gn (.c (.str x)) (.c .Ak) (.c (.int i)) s F:=h
def acG(h:SU g c s (one λv s=>Ab (Am s.H v) λt=>S7 t (ex g x s K) (ex g y s K))):ex g (.iff c x y) s K:=h
end
def kD{K:TB}{x:WJ}:∀(j:Nat) (y:Tw),j<=x.length->(∀y,Hq x j=none->K .AZ ⟨La x y,Hp J t,64,false⟩)->(∀y p,Hq x j=some p->K (.ret (.c (.str p))) ⟨La x y,Hp J t,64,false⟩)->
  Dd (ex JA J4) (C3 [184]) (En ((x.length:Int)-j+1) j) ⟨La x y,Hp J t,64,false⟩ K
 |0,y,_,hn,_=>hn y rfl
 |j+1,y,hj,hn,Q=>by
  rw[iC];rw[show x.length-(j+1:Nat)+1=(x.length:Int)-j by lia];have D:=ao 184 184 (V.c (.int ((x.length:Int)-j))) y;replace D:=(Zk rfl)▸D;have l:slice x none (some (-((x.length:Int)-j)))=x.take j:=by
   rw[l8 (by lia) (by lia)];show T3 (x.take ·) ((T3 (x.length- ·) (Int.toNat_sub x.length j)).trans (Nat.sub_sub_self (Yj hj)))
  change ex JA J4 ⟨La x (put 184 (.c (.int ((x.length:Int)-j))) y),Hp J t,64,false⟩ (P2 (λs k=>Dd (ex JA J4) (C3 [184]) (En ((x.length:Int)-j+1) j) s k) K);show bE (aH (d6 (aj (aa rfl (aQ (acU (aj (aa D (aa rfl (aa rfl (aeZ (aj (aa (a:=V.st 236) rfl (w_s (f:=199) rfl (eh J t rfl rfl rfl (cg J t (slice x none (some (-((x.length:Int)-(j:Nat))))) rfl rfl rfl ?_))))))))))))))));rw[l]
  conv=>whnf
  show bh (λq=>?_) λq=>?_
  ·have Q:=Q (put 184 (V.c (.int ((x.length:Int)-j))) y) (x.take j) (Zk (show By (x.take j) Bv=true from q));replace Q:=(YS l)▸Q
   conv=>whnf
   show aa (o:=Sx 184 (put 184 (V.c (.int ((x.length:Int)-j))) y)) D Q
  ·have e:Hq x (j+1)=Hq x j:=Zi (by rw[show By (x.take j) Bv=false from q];decide);rw[e]at hn Q;show(kD (K:=K) (J:=J) (t:=t) (x:=x) j) _ (by show Yj hj) hn Q
def KL:Aq:=λu z H k=>∃J t x p,u=[.st 236,.c (.str x)]/\z=[]/\H=Hp J t/\x.length<=20000/\Gg x=some p/\k (.c (.str p)) (Hp J t)
def kC{K:TB}(D:x.length<=20000)(j:∀y,Gg x=none->K .AZ ⟨La x y,Hp J t,64,false⟩)(Q:∀y p,Gg x=some p->K (.ret (.c (.str p))) ⟨La x y,Hp J t,64,false⟩):ex JA LI ⟨La x [],Hp J t,64,false⟩ (Lp (λs k=>ex JA LH s k) K):=by
 show acG (aH (aj (aa rfl (aj (aa rfl (w_s rfl (eh J t rfl rfl rfl (cg J t x rfl rfl rfl ?_))))))))
 conv=>whnf
 show bh (λq=>?_) λq=>?_
 ·show Q [] x (Zk q)
 ·have e:Gg x=Hq x x.length:=Zi (by rw[show By x Bv=false from q];decide);rw[e]at j Q
  conv=>whnf
  show⟨⟨⟨by ext,by ext⟩,by show Int.neg_ofNat_le_ofNat 1000000 (x.length+1),by lia⟩,?_⟩;have h:=kD (K:=K) (J:=J) (t:=t) (x:=x) x.length [] (Zq _) j Q;rw[show(x.length:Int)-(x.length:Nat)+1=1 by lia]at h;rw[←(show((x.length:Int)+1-1).toNat=x.length from T3 Int.toNat (Int.add_sub_cancel _ 1))]at h;show h
end
section
open Mine.B Mine.Head
abbrev Ic:Wu:=⟨#[75,101,121,69,114,114,111,114]⟩
abbrev Pp:Wu:=⟨#[112,114,101,102,105,120]⟩
def J5(P:Wx)(i:Nat):WG:=(Ap (fd P 227)).getD i (.Pass default)
def OM(s:WG):WE:=match s with| .Raise (some e) _ _=>e|_=>.Constant .none 0 default
def Pq(e:WE):WE×List WE×Pos:=match e with| .Call f l _ p=>(f,l,p)|_=>(e,[e],default)
def QI(e:WE):Pos:=match e with| .Name _ p=>p|_=>default
def RN(s:WG):Pos:=QI (Pq (OM s)).1
def RR(s:WG):Pos:=QI ((Pq (OM s)).2.1.headD (OM s))
def RQ(s:WG):Pos:=(Pq (OM s)).2.2
def RM(s:WG):Pos:=match s with| .Raise _ _ p=>p|_=>default
def RK(s:WG):WG:=.Raise (some (.Call (.Name Ic (RN s)) [.Name Pp (RR s)] [] (RQ s))) none (RM s)
def ac8(P:Wx):Ap (fd P 227)=[J5 P 0,J5 P 1,RK (J5 P 2)]:=by left
def ac5(P:Wx):cS SY (fd P 227).scope 51 (J5 P 0)=LI:=by left
def ac4(P:Wx):cS SY (fd P 227).scope 51 (J5 P 1)=LH:=by left
def ac6(P:Wx):(KI SY 51 (J5 P 0)++KI SY 51 (J5 P 1)).isEmpty=true:=by left
def ac7(P:Wx):and (B8 (fd P 227).scope Ic) (and (BH (fd P 227).scope Pp) (SY.code Pp==some 242))=true:=by left
def nK{K:Frag}{p:CP}{Sy:TP}{d:Nat}(S:CV c g K p Sy A O d)(n:Nat)(f:Fm)(j:f.own=true)(st:WG)(Q:KI p (n+1) st=[]):SS c g f (d+1) (cS p f.cs (n+1) st) st:=
 rB S (λf j l h=>cY S n f j l h) f j st λt N=>by rw[Q]at N;show(Yl N).elim
def KS(J:St):Prop:=∃g t x,J=⟨La x [],Hp g t,64,false⟩/\x.length<=20000/\Gg x=none
def flN{f:Fl}(h:f=.AZ):Fl.casesOn (motive:=λZ=>Prop) f True False False λZ=>False:=h▸trivial
def th(c:CV (Ai w) JA (K w.params) SY Sy mg mb d)(k:Hw mg mb Ic "KeyError")(f:Fm)(U:f.cs=(fd w.params 227).scope)(C:f.own=true)(m:f.vl=false):Jq (Ai w) f (d+1) "KeyError" (Ap (fd w.params 227)) KS:=by
 rintro O J s A Q E r l ⟨q,t,x,rfl,hl,M⟩ Y;have a:=Ze (ac6 w.params);have I:=nK c 50 f C (J5 w.params 0) (Xy.mp a).1;have L:=nK c 50 f C (J5 w.params 1) (Xy.mp a).2;rw[U,ac5]at I;rw[U,ac4]at L;obtain⟨n1,n2⟩:=ar (ac7 w.params);obtain⟨n2,n3⟩:=ar n2;rw[←U]at n1 n2;rw[ac8];show Xu (ZT (I O _ s A _ _ r l (kC (K:=λb st=>b=.AZ/\∃y,st=⟨La x y,Hp q t,64,false⟩) hl (λy Z=>⟨rfl,y,rfl⟩) λy p h=>by rw[M]at h;show aw h) λj J1 i u b X F o D=>?_) (λZ Z h=>h) λZ Z h=>h.elim);cases b with
 |brk=>show(flN D.1).elim
 |cnt=>show(flN D.1).elim
 |ret v=>show(flN D.1).elim
 |AZ=>
  subst o;show Xu (ZT (L j J1 i A _ _ F l D λP J2 B u b S r2 o D=>?_) (λZ Z h=>h) λZ Z h=>h.elim);obtain⟨rfl,y,rfl⟩:=D;subst o;show Xu (Raise_new l.hd (Call_Name rfl (kY c.Y k n1 r2 (callWith_type1 (Calls.spliced_cons (ZT (u5 (g:=JA) c.Y n2 (eq_of_beq n3) P _ B A (λv st=>st=⟨La x y,Hp q t,64,false⟩) _ r2 l (rfl) λn J3 R v z T W hv D=>?_) (λZ Z h=>h) λZ Z h=>h.elim)) rfl rfl))));subst D;show Calls.spliced_nil (call_exc_raise excClass_KeyError (λV e N=>?_) (by size_fits));have H:Ext f.vl f.L O s j i:=X;have G:Ext f.vl f.L j i P B:=S;rw[m]at H G;show Y n (La x y) R V e ((H.trans r F G).trans r r2 T) W N
end
section
open Mine.B
def jW(y:TL)(key:WJ)(Q:∀i j,i<=j->j<y.length->¬y.getD j []<y.getD i []):∀n lo hi,lo<=hi->hi<=y.length->hi-lo<=n->(∀j,j<lo->y.getD j []<key)->(∀j,hi<=j->j<y.length->¬y.getD j []<key)->
  Gj y key n lo hi<=y.length/\(∀j,j<Gj y key n lo hi->y.getD j []<key)/\∀j,Gj y key n lo hi<=j->j<y.length->¬y.getD j []<key
 |0,lo,hi,h1,h2,h3,h4,h5=>by
  obtain rfl:lo=hi:=YK h1 (XD (Wq.mp h3));show⟨h2,h4,h5⟩
 |n+1,lo,hi,h1,h2,h3,h4,h5=>by
  rw[uP];split
  ·rename_i h;rw[fC];split
   ·rename_i q;show jW y key Q n _ hi (qc h) h2 (ac0 h3 (ac1 h)) (λj b=>?_) h5;by_cases e:j<lo
    ·show h4 j e
    ·show Y0 λz=>(Q j ((lo+hi) / 2) (ZN b) (ZJ (qc h) h2)) (Std.lt_of_lt_of_le (Zm q) (List.not_lt.mp z))
   ·rename_i q;have q:=λz=>q (Zr z);show jW y key Q n lo _ (XR λa=>q (h4 ((lo+hi) / 2) a)) (Zh (Yo (qc h)) h2) (acZ h3 (qc h)) h4 λj b D=>?_;show λz=>(Q ((lo+hi) / 2) j b D) (Std.lt_of_lt_of_le z (List.not_lt.mp q))
  ·rename_i h;obtain rfl:lo=hi:=YK h1 (YN.mp h);show⟨h2,h4,h5⟩
def sf:∀ {p x:WJ},p<+:x->¬x<p
 | [],x,_=>List.not_lt_nil _
 |a::p,[],h=>by simp at h
 |a::p,b::x,h=>by
  rw[Y1]at h;obtain⟨rfl,h⟩:=h;show λq=>(Xn.mp q).elim (YA _) λq=>sf h q.2
def nV:∀ {p x y:WJ},p<+:x->¬y<p->¬x<y->p<+:y
 | [],_,_,_,_,_=>List.nil_prefix
 |a::p,[],_,h,_,_=>by simp at h
 |a::p,b::x,[],_,h1,_=>T4 (List.nil_lt_cons a p) h1
 |a::p,b::x,c::y,h,h1,h2=>by
  rw[Y1]at h;obtain⟨rfl,h⟩:=h;have n1:=λq=>h1 (Xn.mpr (.inl q));have n2:=λq=>h2 (Xn.mpr (.inl q));obtain rfl:a=c:=YK (XR n1) (XR n2);rw[propext Y1];show⟨rfl,nV h (λq=>h1 (Xn.mpr (.inr ⟨rfl,q⟩))) λq=>h2 (Xn.mpr (.inr ⟨rfl,q⟩))⟩
def xd:((List.range Au.length).all λj=>(List.range (j+1)).all λi=> !GZ (Au.getD j []) (Au.getD i []))=true:=by left
def hJ:Bv.map (·.1)=Au:=by left
def fe(i j:Nat)(h:i<=j)(Q:j<Au.length):¬Au.getD j []<Au.getD i []:=by
 have N:=Zd (Zd xd j (List.mem_range.mpr Q)) i (List.mem_range.mpr (Nat.lt_succ_of_le h));rw[fC]at N;show ZA (Z8 _▸N)
def gU{y:Type}{l:List (WJ×y)}:By a l=true↔a∈l.map (·.1):=by
 induction l with
 |nil=>show⟨λh=>(nomatch h),λh=>(nomatch h)⟩
 |cons x l Q=>
  rw[show By a (x::l)=(Bool.rec (By a l) true (Cn a x.1):Bool) from rfl,propext Zt, ←propext Q,aE];by_cases q:a=x.1
  ·rw[Zr q];show⟨λZ=>.inl q,λZ=>rfl⟩
  ·rw[Zs q];show⟨.inr,λh=>h.resolve_left q⟩
def fH(key:WJ):Dw key=true↔∃x∈Au,key<+:x:=by
 show cu (jW Au key fe Au.length 0 Au.length (ZF _) (Zq _) (Zq _) (λj Q=>T4 Q (X4 j)) λj U N=>T4 U (Nat.not_le.mpr N)) λy e c=>?_;unfold Dw;constructor
 ·intro h;split at h
  ·rename_i q;show(aO key (hJ▸gU.mp q) (XT _))
  ·split at h
   ·show nomatch h
   ·rename_i q;have D:=Xx y q;show(aO _ ?_ (Xj.mp h));rw[Yy,Zy D];show Xh D
 ·rintro ⟨x,P,a⟩;split
  ·rfl
  ·obtain⟨j,Q,rfl⟩:=List.getElem_of_mem P;have b:Au.getD j []=Au[j]:=by rw[Yy,Zy Q];rfl
   have l:Gj Au key Au.length 0 Au.length<=j:=by
    show Y0 λz=>?_;have:=e j (Nat.lt_of_not_le z);rw[b]at this;show sf a this
   rw[Zi (by lia)];show Xj.mpr (nV a (c _ (Zq _) (Yb l Q)) ?_);rw[←b];show fe _ j l Q
def abu(key:WJ):Gj Au key Au.length 0 Au.length<=Au.length:=
 (jW Au key fe Au.length 0 Au.length (ZF _) (Zq _) (Zq _) (λj Q=>T4 Q (X4 j)) λj U N=>T4 U (Nat.not_le.mpr N)).1
def Iv:List (Nat×Aq):=(220,KN)::(227,KL)::Hd
def Q4:G:=Ax Iv
def acC{K:TB}(h:ex g a s (Lp (ex g b) (sq g r K))):ex g (.seq a (.seq b r)) s K:=by
 have e:Lp (ex g b) (sq g r K)=sq g (.seq b r) K:=by
  funext fl s;cases fl<;>rfl
 rw[e]at h;show h
def adV(xs kws H k)(h:KL xs kws H k):Ab (Ah [292,242] xs kws) λN=>ex JA BS ⟨N,H,64,false⟩ (fin k):=by
 obtain⟨J,t,x,p,rfl,rfl,rfl,D,c,f⟩:=h;show aa rfl (acC (a:=LI) (b:=LH) (kC D (λy e=>?_) λy q e=>?_))
 ·replace e:=c▸e;show aw e.symm
 ·obtain rfl:p=q:=Zf (c.symm.trans e);show q_r (b9 J t f)
def MI:X:=.Al (.k (.str [])) 2 (.cons (.Cj (.loc 121) (.k .Ak) (.k (.int (-1)))) .nil) []
def Jr(v:V)(s:St)(k:TB):Prop:=∃J t x p,v=.c (.str x)/\lo s.H=Hp J t/\x.length<=20000/\Gg x=some p/\k .AZ ⟨put 165 (.c (.int p.length)) (put 166 (.c (.str p)) s.L),Hp J t++hi s.H,s.m,s.vl⟩
def Ks(v:V)(s:St)(k:TB):Prop:=∃J t x,v=.c (.str x)/\lo s.H=Hp J t/\x.length<=20000/\Gg x=none/\k .AZ (Bw s (put 166 (.c .Ak) s.L))
def BB:G:= {Q4 with loop:=λl Z s k=>Bool.rec False (BI g0 MI s λv s=>Jr v s k\/Ks v s k) (beq l 255)}
def se{K:TB}(h:BI g0 MI s λv s=>Jr v s K\/Ks v s K):ex BB (.prim 255) s K:=h
def eF{K:TB}:sq g .skip K=K:=by
 funext fl s;cases fl<;>rfl
def adp(J:Sm)(t:Tm){i:Nat}(h:¬i<64):Sx i (Hp J t)=none:=by rw[←bZ,eg,Zi h]
def dO{i:Nat}(h:¬i<64):Sx i (Hp J' t'++hi H)=Sx i H:=by
 rw[di,adp _ _ h,iJ,Zi h];rfl
def ji{v:V}{l:Tz}(U:Je s.H [v]=some [.lst l])(N:B0 x l=some r)(D:ble (r.length+l.length*x.length+x.length) 16777216=true)(h:F (.c (.str r)) s):CL g (.str x) 2 [v] [] s F:=
 aa U (aa N ⟨ZQ D,h⟩)
abbrev Cs:WJ:=(SV 0x797469746e652d64656d616e2d6465746365707865)
abbrev Cr:WJ:=(SV 0x6e6f6c6f63696d65732d74756f687469772d797469746e652d64656d616e)
def OY:S:=.ex (.Al (.Bb (.loc 292) 305) 321 (.cons (.Al (.loc 121) 1 .nil []) .nil) [])
def MJ(e:X):X:=.Al (kk []) 2 (.cons e .nil) []
def O9:X:=.Al (.Bb (.loc 292) 305) 119 .nil []
def OZ:S:=.ex (.Al (.loc 121) 0 (.cons O9 .nil) [])
def G3:X:=.cmp 7 (.sub (.loc 121) (.k (.int (-1)))) (.BR (.c .Ak))
def Gx:S:=.seq (.iff (.not (.Al (.BR (.st 236)) 178 (.cons (MJ (.loc 121)) .nil) [])) (.seq .brk .skip) .skip) (.seq OZ .skip)
def R4:S:=.ex (.Al (.Bb (.loc 292) 313) 0 (.cons (.An (.cons (.k (.str Dp)) (.cons (.sub (.BR Ad) (.loc 314)) (.cons (.k (.str Cq)) (.cons (.loc 229) .nil))))) .nil) [])
def Oa:S:=.seq (.iff (.cmp 8 (.loc 229) (.BR (.c NX))) (.seq (.Aj 314 (kk Q2)) .skip) (.seq (.Aj 314 (kk HQ)) .skip)) (.seq R4 .skip)
def Ea:S:=.seq (.iff (.loc 176) (.seq (.Kk (.sub (.sub (.Bb (.loc 292) 144) (.k (.str Cq))) (.k (.int (-1)))) (.k (.int 1)) 0 (.loc 229)) .skip) Oa) .skip
def L9:S:=.seq (.Aj 229 (.bin 0 (kk [38]) (MJ (.loc 121)))) .skip
def Qb:S:=.seq (Ee GL (kk Cs)) (.seq OY L9)
def N9:S:=.seq (.Aj 229 (.sub (.BR A0) (.loc 166))) (.seq OY (.seq (.DI 229 0 (MJ (.Cj (.loc 121) (.loc 165) (.k .Ak)))) .skip))
def O7:X:=.cmp 1 (.sub (.loc 166) (.k (.int (-1)))) (kk [59])
def Pb:X:=.and (.loc 176) (.or (.cmp 8 (.sub (.loc 121) (.loc 165)) (.BR AA)) (.or (.cmp 8 (.sub (.loc 121) (.loc 165)) (.BR Fp)) (.cmp 0 (.sub (.loc 121) (.loc 165)) (kk [61]))))
def N8:S:=.seq (.iff (.and O7 Pb) (.seq OY L9) N9) .skip
def P9:S:=.seq (.iff O7 (.seq (Ee GL (kk Cr)) .skip) .skip) N8
def Qa:S:=.seq (.iff (.cmp 7 (.loc 166) (.k .Ak)) P9 Qb) .skip
def HU:S:=.seq (.prim 255) Qa
def Kw:X:=.sub (.loc 121) (.k (.int 0))
def Qd:S:=.seq (.Aj 180 (.k (.Ae false))) (.seq (.ex (.Al (.loc 121) 0 (.cons (.Al (.Bb (.loc 292) 305) 119 .nil []) .nil) [])) (.seq (.iff (.cmp 8 (.sub (.loc 121) (.k (.int (-1)))) (.tup (.cons (.k (.str [120])) (.cons (.k (.str [88])) .nil)))) (.seq (.Aj 180 (.k (.Ae true))) (.seq (.ex (.Al (.loc 121) 0 (.cons (.Al (.Bb (.loc 292) 305) 119 .nil []) .nil) [])) .skip)) .skip) (.seq (.iff (.or (.and (.loc 180) (.cmp 8 (.sub (.loc 121) (.k (.int (-1)))) (.BR EL))) (.and (.not (.loc 180)) (.cmp 8 (.sub (.loc 121) (.k (.int (-1)))) (.BR Fp)))) (.seq (.ex (.Al (.Bb (.loc 292) 305) 321 (.cons (.sub (.loc 121) (.k (.int (-1)))) .nil) [])) (.seq (.Aj 229 (.Al (.loc 292) 143 (.cons (.loc 180) .nil) [])) .skip)) (.seq (.ex (.Al (.Bb (.loc 292) 313) 0 (.cons (.An (.cons (.k (.str Tg)) (.cons (.sub (.BR Ad) (.k (.str Tf))) (.cons (.k (.str Th)) (.cons (.k (.str (SV 0x797469746e652d636972656d756e2d6465746365707865))) .nil))))) .nil) [])) (.seq (.ex (.Al (.Bb (.loc 292) 305) 321 (.cons (.Al (.loc 121) 1 .nil []) .nil) [])) (.seq (.Aj 229 (.bin 0 (.k (.str [38])) (.Al (.k (.str [])) 2 (.cons (.loc 121) .nil) []))) .skip)))) .skip)))
def Qc:S:=.seq (.iff (.cmp 0 Kw (kk [35])) Qd (.seq (.wh 251 G3 Gx) HU)) .skip
def Rz:X:=.or (.cmp 8 Kw (.BR (.c NX))) (.or (.cmp 8 Kw (.tup (.cons (.BR (.c .Ak)) (.cons (kk [60]) (.cons (kk [38]) .nil))))) (.and (.cmp 7 (.loc 97) (.k .Ak)) (.cmp 0 (.loc 97) Kw)))
def L8:S:=.seq (.iff Rz (.seq (.ex (.Al (.Bb (.loc 292) 305) 321 (.cons Kw .nil) [])) .skip) Qc) Ea
def Br:S:=.seq (.Aj 229 (kk [38])) (.seq (.Aj 121 (.lst (.cons O9 .nil))) L8)
def MF(J J':Sm)(f:FV):Prop:=(f=.Ak/\J'=J)\/∃c,f=.str [c]/\J.off≠0/\Co J.Ac (J.off-1)=some c/\J'= {J with off:=J.off-1}
structure CS (l:Tw) (cs:Tz) (J:Sm) (t:Tm) (s:St):Prop where
 sa:SA l J t s
 row:Sx 64 s.H=some (.lst cs)
 m:65<=s.m
section
variable {l:Tw}{cs:Tz}{J J':Sm}{t t':Tm}{s:St}{F:TC}{K:TB}{st:Nat}{ct:Ct}{q:Tz}{tb:TK}{b:S}
def CS.call(h:CS l cs J t s):CS l cs J' t' (As s (Hp J' t'++hi s.H)):=⟨h.sa.call J' t',(dO (by ext)).trans h.row,h.m⟩
def CS.put(h:CS l cs J t s)(d:Tz):CS l d J t (As s (put 64 (.lst d) s.H)):=⟨⟨h.sa.o,h.sa.L,by rw[b6 (by ext)];show h.sa.H,h.sa.m⟩,(ao _ _ _ _).trans (Zk rfl),h.m⟩
def CS.asg(h:CS l cs J t s)(n:Nat)(v:V)(j:beq 292 n=false):CS (Mine.A.put n v l) cs J t (Bw s (Mine.A.put n v s.L)):=⟨⟨(ao _ _ _ _).trans ((Zi (Xb j)).trans h.sa.o),h.sa.L.put n v,h.sa.H,h.sa.m⟩,h.row,h.m⟩
def CS.new(h:CS l cs J t s)(o:AO):CS l cs J t ⟨s.L,(s.m,o)::s.H,s.m+1,s.vl⟩:=by
 have:=h.m;show⟨⟨h.sa.o,h.sa.L,?_,by lia⟩,(p9 (Z3 this)).trans h.row,by show Xd this⟩;rw[b7,Zi (show¬s.m<64 by show Nat.not_lt_of_gt this)];show h.sa.H
def aeh{u:WJ}(h:CS l cs J ⟨st,ct,some q,tb⟩ s)(SG:q.length<=1000)(d:∀j,CS l cs J ⟨st,ct,some (q++[Hz i u]),tb⟩ j->T (.c .Ak) j):CL BB (.lst 5) 0 [.ob s.m] [] ⟨s.L,(s.m,.An [(Dp,.c (.int i)),(Cq,.c (.str u))])::s.H,s.m+1,s.vl⟩ T:=by
 have O:=h.m;have Q:=h.sa.tN;show gf (i:=5) (l0:=q) (l:=q) ((p9 (by lia)).trans Q) mH ((p9 (by lia)).trans Q) (ZX (by lia)) (d _ ⟨⟨h.sa.o,h.sa.L,?_,by change 64<=s.m+1;lia⟩,?_,by change 65<=s.m+1;lia⟩)
 ·change lo (Mine.A.put 5 _ ((s.m,_)::s.H))=_;rw[dM (by ext),b7,Zi (show¬s.m<64 by lia),h.sa.H];rfl
 ·show(ao _ _ _ _).trans ((Zi (by ext)).trans ((p9 (Z3 O)).trans h.row))
def y5{i:Int}(A:sel T Mr=some (.int i))(h:CS l cs J ⟨st,ct,some q,tb⟩ s)(SG:q.length<=1000)(d:∀j,CS l cs J ⟨st,ct,some (q++[Hz i u]),tb⟩ j->ex BB b j K):ex BB (.seq (Ee T (kk u)) b) s K:=by
 show d3 (aJ (ba (aj (aa h.sa.o (aP h.sa.DH rfl rfl (aa (cw h.sa.tN rfl) (ah (gb (ah (aQ (ah (bK (bB (aQ (dI A (ah (aQ (ah (aQ (au (aa rfl (gc (au ?_)))))))))))))))))))))));show aeh h SG d
def aeg{f:FV}(g:Sx 121 l=some (.ob 64))(Z:MF J J' f)(h:CS l (cs++[f]) J t s)(d:∀a,CS l cs J' t a->ex BB b a K):ex BB (.seq OY b) s K:=by
 have j:CS l cs J t (As s (put 64 (.lst (cs++[f]).dropLast) s.H)):=by rw[List.dropLast_concat];show h.put cs
 show d3 (aJ (ba (aj (aa h.sa.o (aP h.sa.DH rfl rfl (aa (show C4 BB (.ob 2) 321 [] s=some (.fn 163 (.ob 2)) from kA h.sa.LN rfl rfl) (ah (aJ (aj (aa (h.sa.L _ _ g) (aa (cw h.row rfl) (au (aa (T3 FJ h.row) (aa List.getLast?_concat (au (eR ?_))))))))))))))));rcases Z with ⟨rfl,rfl⟩|⟨c,rfl,U,Q,rfl⟩
 ·show dE J' t rfl rfl j.sa.H (.inl (bG J' t rfl rfl rfl (d _ j.call)))
 ·show dE J t rfl rfl j.sa.H (.inr (cF J t c rfl rfl rfl U Q (d _ j.call)))
def aei{x:WJ}(g:Sx 121 l=some (.ob 64))(h:CS l cs J t s)(Q:B0 [] cs=some x)(a:x.length<=1000)(z:F (.c (.str x)) s):SU BB (MJ (.loc 121)) s (one F):=
 aJ (aQ (aa rfl (ah (aj (aa (h.sa.L _ _ g) (au (ji (lu h.row) Q (ZX (by change x.length+cs.length*0+0<=_;lia)) z)))))))
def afI{e m:Nat}(h:CS l cs J t s)(v:View J d r e m)(z:∀J' A O,A+O=e+m->O<=m->(J.off=J.size->O=0)->match r with
  | []=>View J' d [] A O->F (.c .Ak) (As s (Hp J' t++hi s.H))
  |c::r'=>View J' (d++[c]) r' A O->0<J'.off->F (.c (.str [c])) (As s (Hp J' t++hi s.H))):SU BB O9 s (one F):=by
 show aJ (ba (aj (aa h.sa.o (aP h.sa.DH rfl rfl (aa (show C4 BB (.ob 2) 119 [] s=some (.fn 133 (.ob 2)) from kA h.sa.LN rfl rfl) (au (eR (dE J t rfl rfl h.sa.H (bJ J t d r e m rfl rfl rfl v λJ' A O a b y=>?_)))))))));cases r<;>show z J' A O a b y
end
abbrev Lc:Tw:=[(97,.c .Ak),(176,.c (.Ae false)),(229,.c (.str [38])),(121,.ob 64)]
section
variable {P:TF}{K:TB}{J:Sm}{t:Tm}{s:St}{l:Tz}{y key:WJ}
def vk{k:TR}(e:DZ v=some b)(h:k (!b)):BN 7 v (.c .Ak) s k:=aa e h
def pg{v:Bool}(O:∀s,R6 BB G3 Gx K P s->P s)(A:Co l (-1)=some f)(j:I5 f=v)(h:CS Lc l J t s)(U:v=true->K .AZ s)(N:v=false->ex BB Gx s (wo P K)):P s:=by
 show O _ (aH (bK (aj (aa (h.sa.L 121 _ rfl) (aQ (aa rfl (aa h.row (aa rfl (aa A (bB (dt (vk (T3 some j) (aa rfl ?_)))))))))))));cases v
 ·show aW rfl (N rfl)
 ·show bH rfl (U rfl)
def abk{f:FV}(O:∀s,R6 BB G3 Gx K P s->P s)(A:Co l (-1)=some f)(c:I5 f=false)(Q:B0 [] l=some key)(D:key.length<=1000)(h:CS Lc l J t s)(U:Dw key=false->∀j,CS Lc l J t j->K .AZ j)(N:Dw key=true->∀j,CS Lc l J t j->ex BB (.seq OZ .skip) j (wo P K)):P s:=by
 show pg O A c h (λz=>nomatch z) λZ=>?_;show bE ?_;have go:SU BB (.Al (.BR (.st 236)) 178 (.cons (MJ (.loc 121)) .nil) []) s (one λa s=>Ab (Am s.H a) λp=>Ab (Am s.H (.c (.Ae (!p)))) λp=>S7 p (ex BB (.seq .brk .skip) s (sq BB (.seq OZ .skip) (wo P K))) (ex BB .skip s (sq BB (.seq OZ .skip) (wo P K)))):=by
  show aJ (bB (aa (show C4 BB (.st 236) 178 [] s=some (.fn 220 (.st 236)) from rfl) (ah (aei rfl h Q D (au (eR (dE J t rfl rfl h.sa.H (aM J t key rfl rfl rfl (λZ=>abu _) (aa rfl (aa rfl ?_))))))))));cases q:Dw key with
  |false=>show aW rfl (U q _ h.call)
  |true=>show bH rfl (aB (cU (N q _ h.call)))
 show go
def xw{e m:Nat}(p:∀s,R6 BB G3 Gx K P s->P s)(i:Co l (-1)=some f)(o:I5 f=false)(Q:B0 [] l=some key)(D:key.length<=1000)(u:l.length<=1000)(h:CS Lc l J t s)(v:View J d r e m)(U:Dw key=false->∀j,CS Lc l J t j->K .AZ j)
  (N:Dw key=true->∀J' A O,A+O=e+m->O<=m->match r with
   | []=>View J' d [] A O->∀j,CS Lc (l++[.Ak]) J' t j->P j
   |c::r'=>View J' (d++[c]) r' A O->0<J'.off->∀j,CS Lc (l++[.str [c]]) J' t j->P j):P s:=by
 show abk p i o Q D h U λq n Z=>?_;have z:∀(f:FV) (J':Sm),(∀j,CS Lc (l++[f]) J' t j->P j)->CL BB (.lst 64) 0 [.c f] [] (As n (Hp J' t++hi n.H)) (λx s=>ex BB .skip s (wo P K)):=λf J' B=>
  have g:=Z.call
  gf g.row rfl g.row (ZX (by lia)) (aB (B _ (g.put _)))
 show d3 (aJ (aj (aa (Z.sa.L 121 _ rfl) (aa (cw Z.row rfl) (ah (afI Z v λJ' A O a b x=>?_))))));have:=N q J' A O a b;cases r with
 |nil=>show λk=>au (z _ J' (this k))
 |cons c r=>show λk w=>au (z _ J' (this k w))
end
abbrev EU(l:WJ):Tz:=l.map λc=>.str [c]
def w9:(Au.all λx=>ble x.length 9)=true:=by left
def jw{key:WJ}(h:Dw key=true):key.length<=9:=by
 show aA ((fH key).mp h) λx P j=>Zh j.length_le (ZQ (Zd w9 x P))
def oO{f:FV}:Co (l++[f]) (-1)=some f:=by
 change(Bool.rec (Bool.rec none (l++[f])[((-1:Int)+((l++[f]).length:Nat)).toNat]? (decide (0<=(-1:Int)+((l++[f]).length:Nat)))) (l++[f])[(-1:Int).toNat]? (decide (0<=(-1:Int))):TJ)=_;have D:(l++[f]).length=l.length+1:=by rw[Zg];rfl
 rw[D,Zr (show 0<= -1+((l.length+1:Nat):Int) by lia)];rw[show((-1)+((l.length+1:Nat):Int)).toNat=l.length by lia,List.getElem?_append_right (Zq _),Nat.sub_self];rfl
def aaK{key:WJ}:Co (EU (key++[c])) (-1)=some (.str [c]):=by
 have e:EU (key++[c])=EU key++[.str [c]]:=by change List.map _ _=_;rw[Z7];rfl
 rw[e];show oO
def pe{K:TB}{t:Tm}(i:∀s,R6 BB G3 Gx K P s->P s):∀(r g:WJ) (c:Nat) (J:Sm) (e m:Nat) (s:St),CS Lc (EU (g++[c])) J t s->g.length<=9->View J (d++(g++[c])) r e m->0<J.off->e+m=e0->m<=m0->
  (∀y Q u Z A O,(g++[c])++r=(y++[Q])++u->(y=g\/Dw y=true)->Dw (y++[Q])=false->A+O=e0->O<=m0->View Z (d++(y++[Q])) u A O->0<Z.off->∀j,CS Lc (EU (y++[Q])) Z t j->K .AZ j)->
  (∀Z A O,Dw ((g++[c])++r)=true->A+O=e0->O<=m0->View Z (d++((g++[c])++r)) [] A O->∀j,CS Lc (EU ((g++[c])++r)++[.Ak]) Z t j->K .AZ j)->P s
 |r,g,c,J,e,m,s,h,hl,v,ho,he,hm,hs,hf=>by
  have B:(g++[c]).length<=10:=by rw[Zg];show Z1 hl
  show xw i aaK rfl (el (g++[c])) (by lia) (by rw[ZD];lia) h v (λq j l=>hs g c r J e m rfl (.inl rfl) q he hm v ho j l) λD Z A O E N=>?_;cases r with
  |nil=>
   intro k j l;replace hf:=(Zu _)▸hf;show pg i oO rfl l (λF=>hf Z A O D (by lia) (Zh N hm) k j l) λz=>nomatch z
  |cons a r=>
   intro k b j l;have U:EU (g++[c])++[.str [a]]=EU ((g++[c])++[a]):=by change _=List.map _ _;rw[Z7];rfl
   replace l:=U▸l;have f:(g++[c])++a::r=((g++[c])++[a])++r:=by rw[Zo (g++[c])];rfl
   rw[f]at hf hs;show pe i r (g++[c]) a Z A O j l (jw D) (by rw[←Zo];show k) b (by lia) (Zh N hm) (λy Q u p f m2 q1 q2 x o w C n=>hs y Q u p f m2 q1 (q2.elim (λz=>.inr (z▸D)) .inr) x o w C n) hf
def pO{f:FV}:slice (l++[f]) none (some (-1))=l:=by
 rw[cM];rw[Yp];have e:((-1:Int)+((l++[f]).length)).toNat=l.length:=by rw[Zg];change((-1:Int)+((l.length+1:Nat):Int)).toNat=_;lia
 change(l++[f]).take ((-1:Int)+((l++[f]).length:Nat)).toNat=_;rw[e,We]
def KY(e:WJ×FV):Bool:=match e.2 with
 | .str o=>and (ble o.length 9) (and (BE e.1) (match o with| []=>false|a::_=> !(decide (a∈Dj))))
 |_=>false
def ud:Bv.all KY=true:=by left
structure Qt (p:WJ) (a:Nat) (o:WJ):Prop where
 sel:sel p Bv=some (.str (a::o))
 len:o.length<=8
 sp:a∉Dj
 ne:p≠[]
def zP:∀ {l:TG},l.all KY=true->By p l=true->∃a o,Mine.A.sel p l=some (.str (a::o))/\o.length<=8/\a∉Dj/\p≠[]:=by
 intro l;induction l with
 |nil=>intro _ h;show nomatch h
 |cons e l c=>
  intro b h;show zA (ar b) λU N=>?_;replace h:=(show By p (e::l)=(Bool.rec (By p l) true (Cn p e.1):Bool) from rfl)▸h;rw[show Mine.A.sel p (e::l)=(Bool.rec (Mine.A.sel p l) (some e.2) (Cn p e.1):TJ) from rfl];cases q:Cn p e.1 with
  |false=>replace h:=q▸h;show c N h
  |true=>
   have q:=Zm ((aE p e.1)▸q);obtain⟨k,v⟩:=e;cases v with
   |str o=>
    show zA (ar U) λD A=>zA (ar A) λQ O=>?_;cases o with
    |nil=>show nomatch O
    |cons a o=>
     show(bG a o rfl ?_ (λz=>?_) λz=>?_)
     ·have:=ZQ D;replace this:=Zj▸this;show ZN this
     ·have O:(!(decide (a∈Dj)))=true:=O;replace O:=(Zr z)▸O;show nomatch O
     ·replace Q:=(YS q)▸Q;replace Q:=z▸Q;show nomatch Q
   |_=>show nomatch U
def mu(h:By p Bv=true):∃a o,Qt p a o:=by
 show dZ (zP ud h) λa o U N D A=>(j2 a o ⟨U,N,D,A⟩)
def tc:∀ {j:Nat},Hq x j=some p->By p Bv=true/\p<+:x
 |0,h=>aw h
 |j+1,h=>by
  have h:(if By (x.take j) Bv=true then some (x.take j)else Hq x j)=some p:=h;split at h
  ·rename_i q;obtain rfl:=Zf h;show⟨q,XS _ _⟩
  ·show tc h
def s8(h:Gg x=some p):By p Bv=true/\p<+:x:=by
 unfold Gg at h;split at h
 ·rename_i q;obtain rfl:=Zf h;show⟨q,XT _⟩
 ·show tc h
def Fz(p:WJ):Tz:=if p.getLast?=some 59 then []else [C2 Cr]
def oQ{c:Nat}:Co (p++[c]) (-1)=some c:=by
 change(Bool.rec (Bool.rec none (p++[c])[((-1:Int)+((p++[c]).length:Nat)).toNat]? (decide (0<=(-1:Int)+((p++[c]).length:Nat)))) (p++[c])[(-1:Int).toNat]? (decide (0<=(-1:Int))):TX)=_;have D:(p++[c]).length=p.length+1:=by rw[Zg];rfl
 rw[D,Zr (show 0<= -1+((p.length+1:Nat):Int) by lia)];rw[show((-1)+((p.length+1:Nat):Int)).toNat=p.length by lia,List.getElem?_append_right (Zq _),Nat.sub_self];rfl
def sV(h:a∉Dj):CT (.str (a::w)) RH=some false:=by
 have SG:∀c∈Dj,Cn [c] (a::w)=false:=λc u=>by
  rw[aE];show Zs λq=>h ((ZI q).1▸u)
 change some (Bool.rec (Bool.rec (Bool.rec (Bool.rec (Bool.rec false true (Cn [13] (a::w))) true (Cn [32] (a::w))) true (Cn [12] (a::w))) true (Cn [10] (a::w))) true (Cn [9] (a::w)):Bool)=_;rw[SG 9 (by ext),SG 10 (by ext),SG 12 (by ext),SG 32 (by ext),SG 13 (by ext)]
def lY{y:Type}(l:List y)(h:a<=l.length):slice l (some (a:Int)) none=l.drop a:=by
 change(l.take l.length).drop (DL l.length a)=_;rw[bV,ZO h,YC]
def ue:A0=.c (.An Bv):=by left
section
variable {l:Tw}{cs:Tz}{J J':Sm}{t:Tm}{s:St}{F:TC}{k:V->Tx->Prop}{st:Nat}{ct:Ct}{q:Tz}{tb:TK}{x:WJ}{f:FV}
def qV(h:CS l (EU x++[f]) J t s)(g:Sx 121 l=some (.ob 64))(D:x.length<=1000)(z:F (.c (.str x)) ⟨s.L,(s.m,.lst (EU x))::s.H,s.m+1,s.vl⟩):BI g0 MI s F:=by
 have e:BI g0 (.Cj (.loc 121) (.k .Ak) (.k (.int (-1)))) s λv s=>CL g0 (.str []) 2 [v] [] s F:=by
  show d6 (aj (aa (h.sa.L _ _ g) (aQ (aQ ?_))));have k2:Ce (.lst (slice (EU x++[f]) none (some (-1)))) s λv s=>CL g0 (.str []) 2 [v] [] s F:=by
   rw[pO];show gc (ji (lu sR) (el x) (ZX (by rw[ZD];change x.length+x.length*0+0<=_;lia)) z)
  show aa (eB h.row) k2
 show aJ (aQ (aa rfl (ah e)))
def rk{x:FV}{l:Tz}{k:TR}(e:CT x l=some b)(h:k b):BN 8 (.c x) (.c (.tup l)) s k:=by
 show aa e h
def aeT{k:TR}(h:k (!decide (a=b))):BN 1 (.c (.str a)) (.c (.str b)) s k:=by
 rw[←aE]at h;show h
def mV{w:WJ}(h:CS l cs J ⟨st,ct,some q,tb⟩ s)(z:Sx 176 l=some (.c (.Ae false)))(d:Sx 229 l=some (.c (.str (a::w))))(Q:a∉Dj)(SG:q.length<=1000)(D:k (.c .Ak) (Hp J ⟨st,ct,some (q++[BM (a::w)]),tb⟩)):ex BB Ea s (fin k):=by
 show bE (aj (aa (h.sa.L _ _ z) (aa rfl (bH rfl ?_))));rw[eF];show bE (aH (aj (aa (h.sa.L _ _ d) (bB (dt (rk (sV Q) (aa rfl (bH rfl (aG (aQ (aB (cU ?_))))))))))));have U:=h.asg 314 (.c (.str HQ)) rfl;show d3 (aJ (ba (aj (aa U.sa.o (aP U.sa.DH rfl rfl (aa (cw U.sa.tN rfl) (ah (gb (ah (aQ (ah (bK (bB (aj (aa (U.sa.L _ _ (show Sx 314 (put 314 (.c (.str HQ)) l)=some (.c (.str HQ)) from(ao _ _ _ _).trans (Zk rfl))) (dI rfl (ah (aQ (ah (aj (aa (U.sa.L _ _ (show Sx 229 (put 314 (.c (.str HQ)) l)=some (.c (.str (a::w))) from(ao _ _ _ _).trans ((Zi (by ext)).trans d))) (au (aa rfl (gc (au ?_)))))))))))))))))))))))));show aeh U SG λj b=>aB (yQ J _ b.sa.H D)
def aed(h:CS l (EU x) J ⟨st,ct,some q,tb⟩ s)(g:Sx 121 l=some (.ob 64))(z:Sx 176 l=some (.c (.Ae false)))(P:x.length<=1000)(SG:q.length<=1000)(D:k (.c .Ak) (Hp J ⟨st,ct,some (q++[BM (38::x)]),tb⟩)):ex BB L9 s (sq BB Ea (fin k)):=by
 show aG (cm (aQ (aei g h (el x) P (uR (by change 1+x.length<=_;show Zh (ZH P 1) (by ext)) (aB (cU (mV (h.asg 229 (.c (.str (38::x))) rfl) ((ao _ _ _ _).trans ((Zi (by ext)).trans z)) ((ao _ _ _ _).trans (Zk rfl)) (by ext) SG D)))))))
def xy(h:CS Lc (EU x++[f]) J ⟨st,ct,some [],tb⟩ s)(b:x.length<=9)(P:Gg x=none)(Z:MF J J' f)(a:k (.c .Ak) (Hp J' ⟨st,ct,some [C2 Cs,BM (38::x)],tb⟩)):ex BB HU s (sq BB Ea (fin k)):=by
 have U:=h.new (.lst (EU x));show rM (se (qV h rfl (by lia) (.inr (aM J _ x rfl U.sa.H (by lia) P (cU ?_)))));have N:=U.asg 166 (.c .Ak) rfl;show bE (aH (aj (aa (N.sa.L 166 _ rfl) (aQ (dt (vk rfl (aa rfl (bH rfl ?_))))))));rw[eF];show y5 rfl N (ZF _) λc D=>aeg rfl Z D λQ A=>aed A rfl rfl (by lia) (ZQ rfl) a
def aee(h:CS l (EU x++[f]) J ⟨st,ct,some q,tb⟩ s)(g:Sx 121 l=some (.ob 64))(z:Sx 176 l=some (.c (.Ae false)))(A:Sx 166 l=some (.c (.str p)))(O:Sx 165 l=some (.c (.int (n:Nat))))(D:x.length<=9)(P:n<=x.length)(j:Qt p a o)(Z:MF J J' f)(SG:q.length<=1000)
  (c:k (.c .Ak) (Hp J' ⟨st,ct,some (q++[BM ((a::o)++x.drop n)]),tb⟩)):ex BB N9 s (sq BB Ea (fin k)):=by
 have U:=j.len;show aG (bK (bB (aj (aa (h.sa.L _ _ A) ?_))));rw[ue];have go:∀ {G:TC},G (.c (.str (a::o))) s->DO (.c (.An Bv)) (.c (.str p)) s G:=λ{G} u=>by
  have k2:=show Ab (sel p Bv) λr=>G (.c r) s from aa j.sel u
  show aa rfl k2
 show go ?_;have q1:∀ {i:Nat} {v w:V},i≠229->Sx i l=some v->Sx i (put 229 w l)=some v:=λhi e=>(ao _ _ _ _).trans ((Zi hi).trans e);show aeg (q1 (by ext) g) Z (h.asg 229 (.c (.str (a::o))) rfl) λd N=>?_;have e:BI BB (.Cj (.loc 121) (.loc 165) (.k .Ak)) d λv s=>CL BB (.str []) 2 [v] [] s λy s=>Es 0 (.c (.str (a::o))) y s λv s=>ex BB .skip (Bw s (put 229 v s.L)) (sq BB Ea (fin k)):=by
  show d6 (aj (aa (N.sa.L _ _ (q1 (by ext) g)) (aj (aa (N.sa.L _ _ (q1 (by ext) O)) (aQ ?_)))));have b:(x.drop n).length<=9:=by rw[ZM];show Zh (Wl _ _) D
  have k2:Ce (.lst (slice (EU x) (some n) none)) d λv s=>CL BB (.str []) 2 [v] [] s λy s=>Es 0 (.c (.str (a::o))) y s λv s=>ex BB .skip (Bw s (put 229 v s.L)) (sq BB Ea (fin k)):=by
   rw[lY _ (by rw[ZD];show P), ←List.map_drop];show gc (ji (lu sR) (el _) (ZX (by rw[ZD];change(x.drop n).length+(x.drop n).length*0+0<=_;lia)) (aaM (by change o.length+1+_<=_;show Zh (Z9 (Z1 U) b) (by ext)) (aB (cU ?_))));show mV ((N.new (.lst (EU (x.drop n)))).asg 229 (.c (.str ((a::o)++x.drop n))) rfl) ((ao _ _ _ _).trans ((Zi (by ext)).trans (q1 (by ext) z))) ((ao _ _ _ _).trans (Zk rfl)) j.sp SG c
  show aa (eB N.row) k2
 show fM (aa (N.sa.L _ _ ((ao _ _ _ _).trans (Zk rfl))) (aJ (aQ (aa (a:=M.str []) rfl (ah e)))))
def xx{o:WJ}(h:CS Lc (EU x++[f]) J ⟨st,ct,some [],tb⟩ s)(D:x.length<=9)(P:Gg x=some (d++[z]))(j:Qt (d++[z]) a o)(Z:MF J J' f)
  (w:k (.c .Ak) (Hp J' ⟨st,ct,some (Fz (d++[z])++[BM ((a::o)++x.drop (d++[z]).length)]),tb⟩)):ex BB HU s (sq BB Ea (fin k)):=by
 have U:=h.new (.lst (EU x));show rM (se (qV h rfl (by lia) (.inl ⟨J,_,x,_,rfl,U.sa.H,by lia,P,cU ?_⟩)));have N:=((U.call (J':=J) (t':=⟨st,ct,some [],tb⟩)).asg 166 (.c (.str (d++[z]))) rfl).asg 165 (.c (.int ((d++[z]).length))) rfl;have g:Sx 166 (put 165 (.c (.int ((d++[z]).length:Nat))) (put 166 (.c (.str (d++[z]))) Lc))=some (.c (.str (d++[z]))):=rfl;show bE (aH (aj (aa (N.sa.L _ _ g) (aQ (dt (vk rfl (aa rfl (aW rfl ?_))))))));rw[eF];have Sw:∀ {s:St} {q:Tz} {G:TC},CS (put 165 (.c (.int ((d++[z]).length:Nat))) (put 166 (.c (.str (d++[z]))) Lc)) (EU x++[f]) J ⟨st,ct,some q,tb⟩ s->G (.c (.Ae (!decide ([z]=[59])))) s->SU BB O7 s (one G):=λ{s q G} h u=>by
  have A:DO (.c (.str (d++[z]))) (.c (.int (-1))) s λa s=>SU BB (kk [59]) s (one λb s=>FH BB 1 a b s λv s=>G (.c (.Ae v)) s):=by
   show show Ab (Co (d++[z]) (-1)) λr=>SU BB (kk [59]) s (one λb s=>FH BB 1 (.c (.str [r])) b s λv s=>G (.c (.Ae v)) s) from aa oQ (aQ (dt (aeT u)))
  show aH (bK (aj (aa (h.sa.L _ _ g) (aQ A))))
 have O:∀(q:Tz) (s:St),q=Fz (d++[z])->CS (put 165 (.c (.int ((d++[z]).length:Nat))) (put 166 (.c (.str (d++[z]))) Lc)) (EU x++[f]) J ⟨st,ct,some q,tb⟩ s->ex BB N8 s (sq BB Ea (fin k)):=λq s SG h=>by
  subst SG;have y:(Fz (d++[z])).length<=1000:=by
   unfold Fz;split<;>show ZQ rfl
  have c:=aee (k:=k) h rfl rfl g rfl D ((s8 P).2.length_le) j Z y w;show bE (gM (Sw h (aa rfl (bh (λB=>?_) λp=>?_))))
  ·show gM (aj (aa (h.sa.L 176 _ rfl) (aa rfl (bH rfl (aa rfl (bH rfl ?_))))));rw[eF];show c
  ·rw[show(!decide ([z]=[59]))=false from p];show aa rfl (bH rfl ?_);rw[eF];show c
 have Q:Fz (d++[z])=if some z=some 59 then []else [C2 Cr]:=by unfold Fz;rw[List.getLast?_concat]
 show bE (Sw N (aa rfl (bh (λp=>?_) λp=>?_)))
 ·have p:(!decide ([z]=[59]))=true:=p;show y5 (i:=7) rfl N (ZF _) λn m=>aB (cU (O _ n ?_ m));rw[Q,Zi λe=>by rw[Zf e]at p;show nomatch p];rfl
 ·show aB (cU (O _ _ ?_ N));rw[Q,Zk (T3 some (ZI (Zm (iE (show(!decide ([z]=[59]))=false from p)))).1)]
end
def oR(h:Dw a=true)(p:b<+:a):Dw b=true:=by
 show aA ((fH a).mp h) λx P j=>(fH b).mpr (aO x P (p.trans j))
def F6:WJ->WJ->WJ
 |key,[]=>key
 |key,c::r=>if Dw (key++[c])=true then F6 (key++[c]) r else key
def o8:∀(x k:WJ),(x=[]\/Dw (k++x)=true)->Dw (k++x++[c])=false->F6 k (x++c::r)=k++x
 | [],k,_,h2=>by
  rw[Zu]at h2⊢;change(if Dw (k++[c])=true then _ else k)=k;rw[h2];show Zi (by ext)
 |a::x,k,U,h2=>by
  have U:=U.resolve_left λz=>nomatch z;have e:k++a::x=(k++[a])++x:=by rw[Zo];rfl
  change(if Dw (k++[a])=true then F6 (k++[a]) (x++c::r)else k)=_;rw[Zk (show Dw (k++[a])=true from oR U (e▸List.prefix_append _ _)),e];rw[e]at U h2;show o8 x (k++[a]) (.inr U) h2
def o9:∀(x k:WJ),(x=[]\/Dw (k++x)=true)->F6 k x=k++x
 | [],k,_=>(Zu k).symm
 |a::x,k,U=>by
  have U:=U.resolve_left λz=>nomatch z;have e:k++a::x=(k++[a])++x:=by rw[Zo];rfl
  change(if Dw (k++[a])=true then F6 (k++[a]) x else k)=_;rw[Zk (show Dw (k++[a])=true from oR U (e▸List.prefix_append _ _)),e];replace U:=e▸U;show o9 x (k++[a]) (.inr U)
def Jt(p:WJ):WJ:=Option.rec [] (λf=>Option.rec [] (λo=>o) (aS f)) (sel p Bv)
def GU(x:WJ):Tz:=match Gg x with
 |none=>[C2 Cs,BM (38::x)]
 |some p=>Fz p++[BM (Jt p++x.drop p.length)]
abbrev IM:WJ:=[9,10,12,32,13,60,38]
def Gs(r:WJ):WJ:=match r with
 | []=>[]
 |c::r=>if c∈IM then []else F6 [] (c::r)
def Fj(r:WJ):Tz:=match r with
 | []=>[BM [38]]
 |c::r=>if c∈IM then [BM [38]]else GU (F6 [] (c::r))
def MU:Aq:=λu z H k=>∃J st l tb d r e m,u=[.ob 1]/\z=[]/\H=Hp J ⟨st,l,some [],tb⟩/\(∀a,r≠35::a)/\View J d r e m/\
 ∀Z A O,A+O=e+m->O<=m->(J.off=J.size->O=0)->View Z (d++Gs r) (r.drop (Gs r).length) A O->k (.c .Ak) (Hp Z ⟨st,l,some (Fj r),tb⟩)
def Jj(u:TA)(z:WJ):Option Tw:=Bool.rec none (BK (Sp u) λx=>[(292,x),(97,.c .Ak),(176,.c (.Ae false))]) (!BE z)
def xJ(h:Jj u z=some N):∃x,u=[x]/\z=[]/\N=[(292,x),(97,.c .Ak),(176,.c (.Ae false))]:=by
 induction z using Re with
 |cons _ _=>show aw h
 |nil=>show aA (aZ h) λx e P=>?_;subst P;show(ck x (mr e) rfl rfl)
def pd{st:Nat}{l:Ct}(h:CS Lc (EU x++[f]) J ⟨st,l,some [],tb⟩ s)(e:x.length<=9)(c:MF J Z f)
  (D:k (.c .Ak) (Hp Z ⟨st,l,some (GU x),tb⟩)):ex BB HU s (sq BB Ea (fin k)):=by
 unfold GU at D;cases P:Gg x with
 |none=>replace D:=P▸D;show xy h e P c D
 |some p=>
  replace D:=P▸D;show iq (mu (s8 P).1) λa o j=>?_;have b:=List.dropLast_concat_getLast j.ne;have N:Jt p=a::o:=by unfold Jt;rw[j.sel];rfl
  have D:k (.c .Ak) (Hp Z ⟨st,l,some (Fz p++[BM (Jt p++x.drop p.length)]),tb⟩):=D;replace D:=N▸D;generalize p.dropLast=p0 at b;generalize p.getLast j.ne=z at b;clear N;subst b;show xx h e P j c D
def xA{st:Nat}{i:Ct}(h:CS Lc (EU [c]) J ⟨st,i,some [],tb⟩ s)(v:View J (d++[c]) r e m)(x:0<J.off)(o:e+m=u)(t:m<=g)
  (D:∀Z A O,A+O=u->O<=g->View Z (d++F6 [] (c::r)) ((c::r).drop (F6 [] (c::r)).length) A O->k (.c .Ak) (Hp Z ⟨st,i,some (GU (F6 [] (c::r))),tb⟩)) (q:∀s,R6 BB G3 Gx (sq BB HU (sq BB Ea (fin k))) P s->P s):P s:=by
 show pe q r [] c J e m s h (ZF _) v x o t (λy Q E Z A O q1 q2 a b f N p j l=>?_) λZ A O a b f N j l=>?_
 ·have q1:c::r=y++Q::E:=by rw[show c::r=([]++[c])++r from rfl,q1,Zo];rfl
  have w:F6 [] (c::r)=y:=by rw[q1];show o8 y [] q2 a
  rw[w,q1,YU]at D;show cu (View.iu (by rw[Zo];show N) p) λU B C=>?_;have n:EU (y++[Q])=EU y++[.str [Q]]:=by change List.map _ _=_;rw[Z7];rfl
  rw[n]at l;show cU (pd l (q2.elim (λz=>by rw[z];show ZF _) jw) (.inr (aY Q rfl U B rfl)) (D _ A O b f C))
 ·have a:=a;rw[show F6 [] (c::r)=c::r from o9 _ [] (.inr a),List.drop_length]at D;show cU (pd l (jw a) (.inl ⟨rfl,rfl⟩) (D Z A O b f N))
def acx(h:c∈Dj):c∈IM:=XM [60,38] h
def sU:CT (.str [c]) [.Ak,.str [60],.str [38]]=some (decide (c=60)||decide (c=38)):=by
 change some (Bool.rec (Bool.rec false true (Cn [38] [c])) true (Cn [60] [c]):Bool)=_;rw[aE,aE];by_cases h:c=60
 ·rw[h];rfl
 ·rw[(Zs λz:[60]=[c]=>h (ZI z).1.symm),Zs h];by_cases h:c=38
  ·rw[h];rfl
  ·rw[(Zs λz:[38]=[c]=>h (ZI z).1.symm),Zs h];rfl
def z6(h:(decide (c=60)||decide (c=38))=true):c∈IM:=by
 rcases Yq _ _▸h with h|h<;>(rw[Zm h];decide)
def acJ(h:c∉Dj)(N:(decide (c=60)||decide (c=38))=false):c∉IM:=λz=>by
 show zA (Bool.or_eq_false_iff.mp N) λD A=>?_;rcases Yi (s:=Dj) |>.mp z with z|z
 ·show h z
 ·rcases Zb z with z|z
  ·show ZA D z
  ·show ZA A (Za z)
def y0{st:Nat}{l:Ct}(h:CS Lc [f] J ⟨st,l,some [],tb⟩ s)(SG:f=.Ak\/∃c,f=.str [c]/\c∈IM)(a:MF J Z f)(D:k (.c .Ak) (Hp Z ⟨st,l,some [BM [38]],tb⟩)):ex BB L8 s (fin k):=by
 have d:∀ {G:TC},G (.c f) s->SU BB Kw s (one G):=λu=>bK (aj (aa (h.sa.L 121 _ rfl) (aQ (aa rfl (aa h.row (aa rfl (aa rfl u)))))));have go:ex BB (.seq (.ex (.Al (.Bb (.loc 292) 305) 321 (.cons Kw .nil) [])) .skip) s (sq BB Ea (fin k)):=by
  have O:C4 BB (.ob 2) 321 [] s=some (.fn 163 (.ob 2)):=kA h.sa.LN rfl rfl;show d3 (aJ (ba (aj (aa h.sa.o (aP h.sa.DH rfl rfl (aa O (ah (d (au (eR ?_))))))))));have fn:∀j,CS Lc [f] Z ⟨st,l,some [],tb⟩ j->ex BB .skip j (sq BB Ea (fin k)):=λj e=>aB (cU (mV e rfl rfl (by ext) (ZF _) D));rcases a with ⟨rfl,rfl⟩|⟨c,rfl,U,Q,rfl⟩
  ·show dE Z _ rfl rfl h.sa.H (.inl (bG Z _ rfl rfl rfl (fn _ h.call)))
  ·show dE J _ rfl rfl h.sa.H (.inr (cF J _ c rfl rfl rfl U Q (fn _ h.call)))
 have Se:∀ {G:TC},G (.c (.tup [.Ak,.str [60],.str [38]])) s->SU BB (.tup (.cons (.BR (.c .Ak)) (.cons (kk [60]) (.cons (kk [38]) .nil)))) s (one G):=λu=>dW (ah (bB (ah (aQ (ah (aQ (au (aa rfl (aW rfl u)))))))));show bE (p6 (aH (d (bB (dt ?_)))));rcases SG with rfl|⟨c,rfl,b⟩
 ·show rk rfl (aa rfl (bH rfl (p6 (aH (d (Se (dt (rk rfl (aa rfl (aW rfl (aa rfl (aW rfl go))))))))))))
 ·show vj rfl (aa rfl (bh (λq=>aa rfl (aW q go)) λq=>?_));have g:(decide (c=60)||decide (c=38))=true:=by
   cases z:(decide (c=60)||decide (c=38))with
   |true=>rfl
   |false=>show T4 b (acJ (ZA q) z)
  show p6 (aH (d (Se (dt (rk sU (aa rfl (aW g (aa rfl (aW g go)))))))))
def aeb{st:Nat}(h:CS Lc [.str [c]] J ⟨st,l,some [],tb⟩ s)(SG:c∉IM)(g:c≠35)(D:∀P:TF,(∀s,R6 BB G3 Gx (sq BB HU (sq BB Ea (fin k))) P s->P s)->P s):ex BB L8 s (fin k):=by
 have d:∀ {G:TC},G (.c (.str [c])) s->SU BB Kw s (one G):=λu=>bK (aj (aa (h.sa.L 121 _ rfl) (aQ (aa rfl (aa h.row (aa rfl (aa rfl u)))))));have n2:(decide (c=60)||decide (c=38))=false:=by
  cases z:(decide (c=60)||decide (c=38))with
  |false=>rfl
  |true=>show T4 (z6 z) SG
 show bE (p6 (aH (d (bB (dt (vj rfl (aa rfl (bH (Zs λz=>SG (acx z)) (p6 (aH (d ((show∀ {G:TC},G (.c (.tup [.Ak,.str [60],.str [38]])) s->SU BB (.tup (.cons (.BR (.c .Ak)) (.cons (kk [60]) (.cons (kk [38]) .nil)))) s (one G) from λu=>dW (ah (bB (ah (aQ (ah (aQ (au (aa rfl (aW rfl u)))))))))) (dt (rk sU (aa rfl (bH n2 (gM (aH (aj (aa (h.sa.L 97 _ rfl) (aQ (dt (vk rfl (aa rfl (bH rfl (aa rfl (bH rfl (bE (aH (d (aQ (dt (vn (aa rfl (bH (Zs g) ?_)))))))))))))))))))))))))))))))))));rw[eF];show i5 D
def afz(xs kws H k)(h:MU xs kws H k):Ab (Jj xs kws) λw=>ex BB Br ⟨w,H,64,false⟩ (fin k):=by
 obtain⟨J,st,l,tb,d,r,e,m,rfl,rfl,rfl,q,v,D⟩:=h;have Q:SA [(97,.c .Ak),(176,.c (.Ae false)),(229,.c (.str [38]))] J ⟨st,l,some [],tb⟩ ⟨[(292,.ob 1),(97,.c .Ak),(176,.c (.Ae false)),(229,.c (.str [38]))],Hp J ⟨st,l,some [],tb⟩,64,false⟩:=ij rfl;have g:∀(Z:Sm) (f:FV),CS Lc [f] Z ⟨st,l,some [],tb⟩ ⟨put 121 (.ob 64) [(292,.ob 1),(97,.c .Ak),(176,.c (.Ae false)),(229,.c (.str [38]))],(64,.lst [f])::Hp Z ⟨st,l,some [],tb⟩,65,false⟩:=λZ f=>
  ⟨⟨rfl,(ij (J:=J) (t:=⟨st,l,some [],tb⟩) rfl).L,by rw[b7,Zi (show¬64<64 by ext)];show bZ _ _,YX 64⟩,sR,Zq _⟩
 show aa rfl (aG (aQ (aG (d7 (ah ?_)))));show aJ (ba (aj (aa Q.o (aP Q.DH rfl rfl (aa (show C4 BB (.ob 2) 119 [] ⟨[(292,.ob 1),(97,.c .Ak),(176,.c (.Ae false)),(229,.c (.str [38]))],Hp J ⟨st,l,some [],tb⟩,64,false⟩=some (.fn 133 (.ob 2)) from kA Q.LN rfl rfl) (au (eR (eh J _ rfl rfl rfl (bJ J _ d r e m rfl rfl rfl v λb U m1 N n i=>?_)))))))));cases r with
 |nil=>
  intro y;show au (aa (a:=([.Ak],_)) rfl (aW rfl (gc (y0 (g b .Ak) (.inl rfl) (.inl ⟨rfl,rfl⟩) (D b U m1 N n i y.nil)))))
 |cons c r=>
  intro y Sp;show au (aa (a:=([.str [c]],_)) rfl (aW rfl (gc ?_)));by_cases SG:c∈IM
  ·show cu (y.iu Sp) λp B u=>?_;rw[show Gs (c::r)=[] from Zk SG,show Fj (c::r)=[BM [38]] from Zk SG]at D;show y0 (g b (.str [c])) (.inr (aO c rfl SG)) (.inr (aY c rfl p B rfl)) (D _ U m1 N n i u.nil)
  ·rw[show Gs (c::r)=F6 [] (c::r) from Zi SG,show Fj (c::r)=GU (F6 [] (c::r)) from Zi SG]at D;show aeb (g b (.str [c])) SG (show c≠35 from λz=>q r (z▸rfl)) λP O=>xA (g b (.str [c])) y Sp rfl (Zq _) (λZ A x C o=>D Z A x (C.trans N) (Zh o n) λz=>Wq.mp (i z▸o)) O
def Iu:List (Nat×Aq):=(283,MU)::Cm
def NS:G:=Ax Iu
def DT(st:Nat)(l:Ct)(tb:TK)(r:WJ):Out:=⟨true,st,tb,Fj r,Gs r,r.drop (Gs r).length,l⟩
def Gz(_:Ct)(_:TK)(r:WJ):Prop:=∀u,r≠35::u
def Li(y:Nat):S:=.seq (.ex (.Al (.loc 292) 142 .nil [])) (.seq (Cv y) Mj)
def uh{B K y:Nat}(U:GQ y B)(xs kws H k)(h:Fx K (DT B) Gz xs kws H k):Ab (Ah [292] xs kws) λn=>ex NS (Li y) ⟨n,H,64,false⟩ (fin k):=by
 show bg h λJ l tb d r e m a b g v u D=>?_;clear h;subst a b g;replace D:=λZ A O t p P=>D Z A O t p λc=>P;have Q:SA [] J ⟨K,l,some [],tb⟩ ⟨[(292,.ob 1)],Hp J ⟨K,l,some [],tb⟩,64,false⟩:=⟨rfl,λc c e=>(nomatch e),bZ _ _,Zq _⟩
 have f:C4 NS (.ob 1) 142 [] ⟨[(292,.ob 1)],Hp J ⟨K,l,some [],tb⟩,64,false⟩=some (.fn 283 (.ob 1)):=by
  show kA Q.DH (nA _ rfl) rfl
 show aa rfl (d3 (aJ (aj (aa rfl (aa f (au (eR (dE J _ rfl rfl Q.H ⟨J,K,l,tb,d,r,e,m,rfl,rfl,rfl,u,v,λZ A O o N q i=>?_⟩))))))));show dB (kN U.1 U.2 (bp (D Z A O o N q i)) _ _ (Q.call Z ⟨K,l,some (Fj r),tb⟩) fY)
def Az:S:=Li 259
def Bk:S:=Li 146
def HI:Aq:=Fx 325 (DT 318) Gz
def IG:Aq:=Fx 311 (DT 304) Gz
def qH(xs kws H k)(h:HI xs kws H k):Ab (Ah [292] xs kws) λN=>ex NS Az ⟨N,H,64,false⟩ (fin k):=uh ⟨rfl,rfl⟩ xs kws H k h
def uq(xs kws H k)(h:IG xs kws H k):Ab (Ah [292] xs kws) λN=>ex NS Bk ⟨N,H,64,false⟩ (fin k):=uh ⟨rfl,rfl⟩ xs kws H k h
end
end Mine.A
namespace Mine.B
section
open Mine.A
open Mine.Head
def cJ{y:Type}(x:y){l:List y}(h:l.length<=4):∃a b c d,l=[a,b,c,d].take l.length:=by
 induction l using Re with
 |nil=>show(bR x x x x rfl)
 |cons a l=>
  induction l using Re with
  |nil=>show(bR a x x x rfl)
  |cons b l=>
   induction l using Re with
   |nil=>show(bR a b x x rfl)
   |cons c l=>
    induction l using Re with
    |nil=>show(bR a b c x rfl)
    |cons d l=>
     induction l using Re with
     |nil=>show(bR a b c d rfl)
     |cons e l=>show T4 h (Nat.not_le_of_lt (Xv (Xv (Xv (Xv (YB _))))))
def acV{y:Type}{l:List y}(h:l.isEmpty=true){t:y}(N:t∈l){p:Prop}:p:=by
 rw[Ze h]at N;show(Yl N).elim
def My(P:Wx)(y:Nat)(Q:WJ):S×Bool×Bool×Bool:=(cB SY (fd P y).scope 60 (Ap (fd P y)),(fd P y).scope.isGenerator,(Fe SY 60 (Ap (fd P y))).isEmpty,CD (fd P y) Q)
def CF(P:Wx)(y:Nat)(Q:WJ)(x:S):Prop:=
 (My P y Q,λa b c d=>bindArgs (fd P y) ⟨[a,b,c,d].take Q.length,[]⟩)=((x,false,true,true),λa b c d=>pure ((Q.map nm).zip ([a,b,c,d].take Q.length)))
def Ht(fd:FuncData)(Z:TN): {k:Option (Array Wv)->Sem TO // bindArgs fd ⟨Z,[]⟩=seqItems? fd.defaults>>=k}:=⟨_,rfl⟩
def SX(f:FV):Wv:=FV.casesOn (motive_1:=λZ=>Wv) f .none (λb=>.bool b) (λZ=>.none) (λZ=>.none) (λZ=>.none) (λZ=>.none) (λZ=>.none)
def LM(f:FV):Bool:=FV.casesOn (motive_1:=λZ=>Bool) f true (λZ=>true) (λZ=>false) (λZ=>false) (λZ=>false) (λZ=>false) (λZ=>false)
def adZ{O:Gh}{y:Tz}(h:y.all LM=true):Cw (Ai w).Aa (Ai w).w O (y.map SX) (y.map .c):=by
 induction y with
 |nil=>show .nil
 |cons f y Q=>
  show zA (ar h) λU N=>?_;show .cons ?_ (Q N);induction f using FV.casesOn with
  |Ak=>show dq .Ak
  |Ae b=>show dq (.Ae b)
  |_=>show a7 U
def Ft(P:Wx)(y:Nat):Option (Array Wv):=Af (JF (fd P y).defaults) λa=>Bool.rec none (BK (Kc (Ck P a).data) λp=>p.1) (Nat.blt a 841)
def jX{z:Array Wv}(h:Ft w.params y=some z)(l:∀a o,(Ai w).base.get? a=some o->s.heap.get? a=some o)
  (b:(Ht (fd w.params y) Z).1 (some z)=pure j):BindsTo s (fd w.params y) ⟨Z,[]⟩ j:=by
 show aA (ax h) λa e h=>?_;have h:(Bool.rec none (BK (Kc (Ck w.params a).data) λp=>p.1) (Nat.blt a 841):Option (Array Wv))=some z:=h;cases q:Nat.blt a 841 with
 |false=>replace h:=q▸h;show aw h
 |true=>
  replace h:=q▸h;show aA (aZ h) λp U P=>?_;subst P;show BindsTo.of_defaults (iY e) (l _ _ (bq _ (cb q))) (uy U) (Ht (fd w.params y) Z).2 b
def ael{y:Nat}(D:CD (fd w.params y) Q=true)(hd:Ft w.params y=some v)
  (U:∀Z:TN,Z.length=Q.length->(Ht (fd w.params y) Z).1 (some v)=pure ((Q.map nm).zip Z)):Hx w y (Ah Q):=by
 intro O s Z c a e _ l N b;show cu (pz b) λz u P=>?_;subst z P;show jU D N (by rw[aR];show jX hd l (U Z ((gD N).trans u)))
def y6{ds:Tz}(D:CD (fd w.params y) pn=true)(N:ds.all LM=true)(hd:Ft w.params y=some (ds.map SX).toArray)
  (U:∀Z:TN,Z.length=xs.length->(Ht (fd w.params y) Z).1 (some (ds.map SX).toArray)=pure ((pn.map nm).zip (Z++ds.map SX))) {O:Gh} (l:∀a o,(Ai w).base.get? a=some o->s.heap.get? a=some o) (b:Cw (Ai w).Aa (Ai w).w O Z xs):
  ∃j,BindsTo s (fd w.params y) (Bj (Ai w) Z []) j/\(∀x∈j,(fd w.params y).scope.names.lookup x.1=some .local)/\∀n v,Sx n (pn.zip (xs++ds.map .c))=some v->∃u,j.reverse.lookup ((Ai w).nm n)=some u/\RV (Ai w).Aa (Ai w).w O u v:=
 jU D (b.app (adZ N)) (by rw[aR];show jX hd l (U Z (gD b)))
def xK{u:TA}(h:Ed Q d u z=some N):z=[]/\(u.length=Q.length/\N=Q.zip u\/u.length+1=Q.length/\N=Q.zip (u++[.c d])):=by
 induction z using Re with
 |cons _ _=>show aw h
 |nil=>
  show⟨rfl,?_⟩;have h:(Bool.rec (Bool.rec none (some (Q.zip (u++[.c d]))) (beq (u.length+1) Q.length)) (some (Q.zip u)) (beq u.length Q.length):Option Tw)=some N:=h;cases q:beq u.length Q.length with
  |true=>rw[q]at h;show .inl ⟨ZC q,(Zf h).symm⟩
  |false=>
   rw[q]at h;have h:(Bool.rec none (some (Q.zip (u++[.c d]))) (beq (u.length+1) Q.length):Option Tw)=some N:=h;cases q2:beq (u.length+1) Q.length with
   |true=>rw[q2]at h;show .inr ⟨ZC q2,(Zf h).symm⟩
   |false=>rw[q2]at h;show aw h
def uN{a:Nat}(D:CD (fd w.params a) Q=true)(N:LM j=true)(hd:Ft w.params a=some ([j].map SX).toArray)
  (U:∀Z:TN,Z.length=Q.length->(Ht (fd w.params a) Z).1 (some ([j].map SX).toArray)=pure ((Q.map nm).zip Z))
  (f:∀Z:TN,Z.length+1=Q.length->(Ht (fd w.params a) Z).1 (some ([j].map SX).toArray)=pure ((Q.map nm).zip (Z++[SX j]))):Hx w a (Ed Q j):=by
 intro O s Z u c i _ l y P;show zA (xK P) λz b=>?_;subst z;obtain⟨e,rfl⟩|⟨e,rfl⟩:=b
 ·show jU D y (by rw[aR];show jX hd l (U Z ((gD y).trans e)))
 ·show y6 D (ds:=[j]) (by rw[YR,N];rfl) hd (λZ h=>f Z ((T3 (· +1) h).trans e)) l y
section
variable {w:Wy}{mg mb:Wu->TM}{g:G}{d:Nat}
def iT(T:TopRead pw Sy mg mb (H1 w.params))(U:CV (Ai w) g (K w.params) SY Sy mg mb d){a:Nat}(v:Dy.any (beq a)=true){x:S}(h:My w.params a Q=(x,false,true,true)){y:TA->WJ->Option Tw}(P:Hx w a y){D:A.Aq}
  (l:∀u z H k,D u z H k->Ab (y u z) λN=>ex g x ⟨N,H,64,false⟩ (fin k)):AB false (Ai w) a (d+2) D:=
 uJ T U v (T3 Prod.fst h) (T3 (λp=>p.2.1) h) (λZ Z Z Z Z Z b=>acV (T3 (λp=>p.2.2.1) h) b) P l
theorem CF.DL(h:CF w.params y Q x)(j:Q.length<=4):Hx w y (Ah Q):=
 f6 Q (T3 (λp=>p.1.2.2.2) h) λZ N=>by
  show bu (cJ Value.none (l:=Z) (by rw[N];show j)) λa b c d e=>?_;rw[e,N];show XA (XA (XA (XA (T3 Prod.snd h) a) b) c) d
def aV(T:TopRead pw Sy mg mb (H1 w.params))(U:CV (Ai w) g (K w.params) SY Sy mg mb d){Q:WJ}{x:S}(h:CF w.params y Q x)(v:and (Dy.any (beq y)) (ble Q.length 4)=true){D:A.Aq}
  (l:∀u z H k,D u z H k->Ab (Ah Q u z) λN=>ex g x ⟨N,H,64,false⟩ (fin k)):AB false (Ai w) y (d+2) D:=
 iT T U (ar v).1 (T3 Prod.fst h) (h.DL (bz (ar v).2)) l
end
def jF(P:Wx):CF P 84 [134] CQ:=show _=_ by left
def aaV(P:Wx):CF P 70 [292,296] EA:=show _=_ by left
def kW(P:Wx):CF P 119 [292,221] AY:=show _=_ by left
def kX(P:Wx):CF P 63 [292,311] CY:=show _=_ by left
def wX(P:Wx):CF P 105 [292] Bn:=show _=_ by left
def wV(P:Wx):CF P 163 [292,119] Bm:=show _=_ by left
def jD(P:Wx):CF P 112 [292,299] AQ:=show _=_ by left
def gY(P:Wx):CF P 126 [292] Bc:=show _=_ by left
def aaX(P:Wx):CF P 148 [292,145] Aw:=show _=_ by left
def mN(P:Wx):CF P 98 [292,299] Be:=show _=_ by left
def aa1(P:Wx):CF P 133 [292] Bq:=show _=_ by left
def jG(P:Wx):CF P 42 [311] DN:=show _=_ by left
def aaY(P:Wx):CF P 297 [292] Bh:=show _=_ by left
def aa0(P:Wx):CF P 199 [292,190] B5:=show _=_ by left
def adN(P:Wx):CF P 220 [292,242] Bz:=show _=_ by left
def t9(P:Wx):CF P 227 [292,242] BS:=show _=_ by left
def aaZ(P:Wx):CF P 304 [292] BG:=show _=_ by left
def ua(P:Wx):CF P 311 [292] Bk:=show _=_ by left
def t5(P:Wx):CF P 318 [292] BA:=show _=_ by left
def qA(P:Wx):CF P 325 [292] Az:=show _=_ by left
def adL(P:Wx):CF P 332 [292] Bu:=show _=_ by left
def w3(P:Wx):CF P 346 [292] Bo:=show _=_ by left
def qw(P:Wx):CF P 367 [292] Bt:=show _=_ by left
def aaW(P:Wx):CF P 374 [292] AI:=show _=_ by left
def wY(P:Wx):CF P 381 [292] AN:=show _=_ by left
def w0(P:Wx):CF P 395 [292] AF:=show _=_ by left
def t6(P:Wx):CF P 402 [292] AK:=show _=_ by left
def ub(P:Wx):CF P 535 [292] AG:=show _=_ by left
def wW(P:Wx):CF P 591 [292] AE:=show _=_ by left
def w5(P:Wx):CF P 598 [292] Bg:=show _=_ by left
def MQ(s:WG):Bool:=match s with
 | .Assign ts e _=>match ts with
  | []=>false
  |t::r=>and r.isEmpty (and (Fo t) (Dv e))
 |_=>false
def Mp(P:Wx)(y:Nat)(x:S):Prop:=((cB SY (fd P y).scope 60 (Ap (fd P y)),(fd P y).scope.isGenerator,(Fe SY 60 (Ap (fd P y))).all MQ,CD (fd P y) [292]),λa=>bindArgs (fd P y) ⟨[a],[]⟩)=((x,false,true,true),λa=>pure (([292].map nm).zip [a]))
def wJ(h:Fo t=true):∃o x q,t=.Attribute o x q:=by
 cases t with
 |Attribute o x q=>show(gp o x q rfl)
 |_=>show a7 h
def zL(h:MQ s=true):∃o x A e q,s=.Assign [.Attribute o x A] e q/\Dv e=true:=by
 cases s with
 |Assign y e q=>
  cases y with
  |nil=>show a7 h
  |cons t r=>
   show zA (ar h) λU N=>?_;show zA (ar N) λN D=>?_;obtain⟨o,x,A,rfl⟩:=wJ N;cases Ze U;show⟨o,x,A,e,q,rfl,D⟩
 |_=>show a7 h
section
variable {w:Wy}{mg mb:Wu->TM}{g:G}{d:Nat}
theorem Mp.DL{y:Nat}(h:Mp w.params y x):Hx w y (Ah [292]):=
 f6 [292] (T3 (λp=>p.1.2.2.2) h) λZ N=>by
  show bu (cJ Value.none (l:=Z) (by rw[N];decide)) λa b c d e=>?_;rw[N]at e;subst e;show XA (T3 Prod.snd h) a
def ph(T:TopRead pw Sy mg mb (H1 w.params))(U:CV (Ai w) g (K w.params) SY Sy mg mb d)(h:Mp w.params y x)(v:Dy.any (beq y)=true){D:A.Aq}
  (l:∀u z H k,D u z H k->Ab (Ah [292] u z) λN=>ex g x ⟨N,H,64,false⟩ (fin k)):AB true (Ai w) y (d+2) D:=
 uJ (x:=x) T U v (T3 (λp=>p.1.1) h) (T3 (λp=>p.1.2.1) h) (λf Z a Z Z t b m=>by
  obtain⟨o,x,c,e,q,rfl,hd⟩:=zL (Zd (T3 (λp=>p.1.2.2.1) h) t b);show xM U a hd m) h.DL l
end
def qv(P:Wx):Mp P 353 Bs:=show _=_ by left
def gZ(P:Wx):Mp P 360 Bf:=show _=_ by left
def wZ(P:Wx):Mp P 388 AP:=show _=_ by left
def t7(P:Wx):Mp P 409 AL:=show _=_ by left
def eA(P:Wx):(My P 141 [292,131],Ft P 141)=((AX,false,true,true),some ([FV.Ak].map SX).toArray):=by left
def jy(P:Wx)(a b:Wv):(Ht (fd P 141) [a,b]).1 (some ([FV.Ak].map SX).toArray)=pure (([292,131].map nm).zip [a,b]):=by left
def jx(P:Wx)(a:Wv):(Ht (fd P 141) [a]).1 (some ([FV.Ak].map SX).toArray)=pure (([292,131].map nm).zip ([a]++[SX (.Ak)])):=by left
def jV(w:Wy):Hx w 141 (Ed [292,131] (.Ak)):=uN (T3 (λp=>p.1.2.2.2) (eA w.params)) rfl (T3 Prod.snd (eA w.params)) (λZ h=>by show bu (cJ Value.none (l:=Z) (by rw[h];decide)) λa b c d e=>?_;rw[h]at e;subst e;show jy _ a b) λZ h=>by show bu (cJ Value.none (l:=Z) (by rw[Nat.succ.inj h];decide)) λa b c d e=>?_;rw[Nat.succ.inj h]at e;subst e;show jx _ a
def dQ(P:Wx):(My P 156 [292,124,225],Ft P 156)=((AR,false,true,true),some ([FV.Ae false].map SX).toArray):=by left
def il(P:Wx)(a b c:Wv):(Ht (fd P 156) [a,b,c]).1 (some ([FV.Ae false].map SX).toArray)=pure (([292,124,225].map nm).zip [a,b,c]):=by left
def ik(P:Wx)(a b:Wv):(Ht (fd P 156) [a,b]).1 (some ([FV.Ae false].map SX).toArray)=pure (([292,124,225].map nm).zip ([a,b]++[SX (.Ae false)])):=by left
def ip(w:Wy):Hx w 156 (Ed [292,124,225] (.Ae false)):=uN (T3 (λp=>p.1.2.2.2) (dQ w.params)) rfl (T3 Prod.snd (dQ w.params)) (λZ h=>by show bu (cJ Value.none (l:=Z) (by rw[h];decide)) λa b c d e=>?_;rw[h]at e;subst e;show il _ a b c) λZ h=>by show bu (cJ Value.none (l:=Z) (by rw[Nat.succ.inj h];decide)) λa b c d e=>?_;rw[Nat.succ.inj h]at e;subst e;show ik _ a b
def dR(P:Wx):(My P 261 [292,305,232],Ft P 261)=((BJ,false,true,true),some ([FV.Ak].map SX).toArray):=by left
def kM(P:Wx)(a b c:Wv):(Ht (fd P 261) [a,b,c]).1 (some ([FV.Ak].map SX).toArray)=pure (([292,305,232].map nm).zip [a,b,c]):=by left
def kL(P:Wx)(a b:Wv):(Ht (fd P 261) [a,b]).1 (some ([FV.Ak].map SX).toArray)=pure (([292,305,232].map nm).zip ([a,b]++[SX (.Ak)])):=by left
def gj(w:Wy):Hx w 261 (Ed [292,305,232] (.Ak)):=uN (T3 (λp=>p.1.2.2.2) (dR w.params)) rfl (T3 Prod.snd (dR w.params)) (λZ h=>by show bu (cJ Value.none (l:=Z) (by rw[h];decide)) λa b c d e=>?_;rw[h]at e;subst e;show kM _ a b c) λZ h=>by show bu (cJ Value.none (l:=Z) (by rw[Nat.succ.inj h];decide)) λa b c d e=>?_;rw[Nat.succ.inj h]at e;subst e;show kL _ a b
def w4(P:Wx):((cB SY (fd P 283).scope 60 (Ap (fd P 283)),(fd P 283).scope.isGenerator,CD (fd P 283) [292,97,176]),Ft P 283)=((Br,false,true),some ([FV.Ak,.Ae false].map SX).toArray):=by left
def adw(P:Wx)(v:Wv):(Ht (fd P 283) [v]).1 (some ([FV.Ak,.Ae false].map SX).toArray)=pure (([292,97,176].map nm).zip ([v]++[FV.Ak,.Ae false].map SX)):=by left
def aem(w:Wy):Hx w 283 Jj:=by
 intro O s Z u f m _ i N k;show bM (xJ k) λx Q P z=>?_;subst Q P z;show y6 (pn:=[292,97,176]) (ds:=[.Ak,.Ae false]) (xs:=[x]) (T3 (λp=>p.1.2.2) (w4 w.params)) rfl (T3 Prod.snd (w4 w.params)) (λZ h=>by
  show bu (cJ Value.none (l:=Z) (by rw[h];show Z1 (ZF 3))) λa b c d e=>?_;rw[h]at e;subst e;show adw _ a) i N
def o7(P:Wx):(My P 178 [268,190,204,183],(Ft P 178).isSome,λa b c d=>(Ht (fd P 178) [a,b,c,d]).1 (Ft P 178))=((Dt,false,true,true),true,λa b c d=>pure (([268,190,204,183].map nm).zip [a,b,c,d])):=by left
def abr(w:Wy):Hx w 178 (Ah [268,190,204,183]):=by
 show zE (Option.isSome_iff_exists.mp ((T3 (λp=>p.2.1) (o7 w.params):(Ft w.params 178).isSome=true))) λz e=>?_;have h:=T3 (λp=>p.2.2) (o7 w.params);dsimp only at h e;rw[e]at h;show ael (T3 (λp=>p.1.2.2.2) (o7 w.params)) e λZ N=>?_;show bu (cJ Value.none (l:=Z) (by rw[N];decide)) λa b c d e=>?_;rw[N]at e;subst e;show XA (XA (XA (XA h a) b) c) d
def fm{y:Type}{P:y->Prop}{a:y}{l:List y}(h:P a)(k:∀x∈l,P x):∀x∈a::l,P x:=Zc ⟨h,k⟩
def uG(n:Nat):g0.canon n<64:=by
 change(Option.rec 0 (λa=>a) (Sx n F9):Nat)<64;cases q:Sx n F9 with
 |none=>decide
 |some v=>
  have:=Zd ((by decide:(F9.all λp=>Nat.blt p.2 64)=true)) _ (fD q);show cb this
section
variable {w:Wy}{mg mb:Wu->TM}
def uH(h:∀p∈j,AB false (Ai w) p.1 d p.2)(y:Nat):AB false (Ai w) y d (B9 j y):=by
 unfold B9;cases q:Sx y j with
 |none=>intro U O H s A Z u z k R r N l v;show v.elim
 |some g=>show h _ (fD q)
def cv(T:TopRead pw Sy mg mb (H1 w.params))(h:∀p∈j,AB false (Ai w) p.1 d p.2):CV (Ai w) (Ax j) (K w.params) SY Sy mg mb d:=by
 have g:=yP w;show⟨ctx T,⟨g.own,g.cls,g.Gy,g.FA,g.Gp,g.con,g.Jy,g.fn,g.mn⟩,λn=>?_,λy=>uH h y,λZ Z Z Z Z h=>h⟩;change g0.canon n<64;show uG n
def e7(T:TopRead pw Sy mg mb (H1 w.params)):CV (Ai w) g0 (K w.params) SY Sy mg mb 0:=by
 show⟨ctx T,yP w,uG,λy=>?_,λZ Z Z Z Z h=>h⟩;intro U O H s A a u z k R r N l v;show v.elim
def nH(T:TopRead pw Sy mg mb (H1 w.params)):∀p∈JL,AB false (Ai w) p.1 2 p.2:=by
 unfold JL;show fm (aV T (e7 T) (jF _) rfl (jK g0)) ?_;show fm (aV T (e7 T) (aaV _) rfl aa6) ?_;show fm (aV T (e7 T) (kW _) rfl lh) ?_;show fm (aV T (e7 T) (kX _) rfl lj) ?_;show fm (aV T (e7 T) (wX _) rfl xh) ?_;show fm (aV T (e7 T) (wV _) rfl xe) ?_;show λp j=>nomatch j
def vy(T:TopRead pw Sy mg mb (H1 w.params)):CV (Ai w) g1 (K w.params) SY Sy mg mb 2:=cv T (nH T)
def nG(T:TopRead pw Sy mg mb (H1 w.params)):∀p∈JK,AB false (Ai w) p.1 4 p.2:=by
 unfold JK;show fm (aV T (vy T) (jD _) rfl jJ) ?_;show fm (aV T (vy T) (gY _) rfl hV) ?_;show fm (aV T (vy T) (aaX _) rfl aa9) ?_;show λp j=>(nH T p j).mono (by ext)
def acB(T:TopRead pw Sy mg mb (H1 w.params)):CV (Ai w) g2 (K w.params) SY Sy mg mb 4:=cv T (nG T)
def nE(T:TopRead pw Sy mg mb (H1 w.params)):∀p∈JJ,AB false (Ai w) p.1 6 p.2:=by
 unfold JJ;show fm (aV T (acB T) (mN _) rfl mQ) ?_;show fm (iT T (acB T) rfl (T3 Prod.fst (eA _)) (jV w) lg) ?_;show λp j=>(nG T p j).mono (by ext)
def vx(T:TopRead pw Sy mg mb (H1 w.params)):CV (Ai w) g3 (K w.params) SY Sy mg mb 6:=cv T (nE T)
def fh(T:TopRead pw Sy mg mb (H1 w.params)):∀p∈Cm,AB false (Ai w) p.1 8 p.2:=by
 unfold Cm;show fm (aV T (vx T) (aa1 _) rfl abd) ?_;show fm (iT T (vx T) rfl (T3 Prod.fst (dQ _)) (ip w) jL) ?_;show fm (iT T (vx T) rfl (T3 Prod.fst (dR _)) (gj w) ib) ?_;show λp j=>(nE T p j).mono (by ext)
def ig(T:TopRead pw Sy mg mb (H1 w.params)):CV (Ai w) SR (K w.params) SY Sy mg mb 8:=cv T (fh T)
def nB(T:TopRead pw Sy mg mb (H1 w.params)):∀p∈JI,AB false (Ai w) p.1 8 p.2:=by
 unfold JI;show fm ((aV T (e7 T) (jG _) rfl jM).mono (by ext)) ?_;show fh T
def acA(T:TopRead pw Sy mg mb (H1 w.params)):CV (Ai w) SQ (K w.params) SY Sy mg mb 8:=cv T (nB T)
def vi(T:TopRead pw Sy mg mb (H1 w.params)):∀p∈BQ,AB false (Ai w) p.1 10 p.2:=by
 unfold BQ;show fm (aV T (acA T) (aaY _) rfl aba) ?_;show λp j=>(nB T p j).mono (by ext)
def lW(T:TopRead pw Sy mg mb (H1 w.params)):CV (Ai w) SN (K w.params) SY Sy mg mb 10:=cv T (vi T)
def j9(T:TopRead pw Sy mg mb (H1 w.params)):∀p∈Hd,AB false (Ai w) p.1 10 p.2:=by
 unfold Hd;show fm (iT T (ig T) rfl (T3 Prod.fst (o7 _)) (abr w) adX) ?_;show fm (aV T (ig T) (aa0 _) rfl abc) ?_;show λp j=>(fh T p j).mono (by ext)
def rJ(T:TopRead pw Sy mg mb (H1 w.params)):CV (Ai w) JA (K w.params) SY Sy mg mb 10:=cv T (j9 T)
def rj(T:TopRead pw Sy mg mb (H1 w.params)):∀p∈Iv,AB false (Ai w) p.1 12 p.2:=by
 unfold Iv;show fm (aV T (rJ T) (adN _) rfl adW) ?_;show fm (aV T (rJ T) (t9 _) rfl adV) ?_;show λp j=>(j9 T p j).mono (by ext)
def acy(T:TopRead pw Sy mg mb (H1 w.params)):CV (Ai w) Q4 (K w.params) SY Sy mg mb 12:=cv T (rj T)
def yq(T:TopRead pw Sy mg mb (H1 w.params)):CV (Ai w) BB (K w.params) SY Sy mg mb 12:=by
 have S:=acy T;show⟨S.Y,⟨S.YG.own,S.YG.cls,S.YG.Gy,S.YG.FA,S.YG.Gp,S.YG.con,S.YG.Jy,S.YG.fn,S.YG.mn⟩,S.MB,S.C,λl Q v J k h=>?_⟩;have h:(Bool.rec False (BI g0 MI J λv s=>Jr v s k\/Ks v s k) (beq l 255):Prop):=h;cases q:beq l 255 with
 |false=>replace h:=q▸h;show h
 |true=>
  have Q:(beq l 1398||beq l 255)=false:=Q;replace Q:=q▸Q;replace Q:=(Bool.or_true _)▸Q;cases Q
def QM(u:TA)(H:Tx):Prop:=∃J t x,u=[.st 236,.c (.str x)]/\H=Hp J t/\x.length<=20000/\Gg x=none
def aaH(P:Wx):and (!(Ic==("__debug__":Wu))) (and (nsFind (Df (Ck P 3)).toArray Ic).isNone (and (bootBuiltins Ic==some (.type "KeyError")) (!(Ic==("__name__":Wu)))))=true:=by left
def yI(T:TopRead pw Sy mg mb (H1 w.params)):Hw mg mb Ic "KeyError":=by
 obtain⟨Z,P⟩:=ar (aaH w.params);obtain⟨g,P⟩:=ar P;obtain⟨U,d⟩:=ar P;show⟨Z8 _▸Z,(ns3 T.g Ic).trans (Xo.mp g),?_⟩;rw[T.builtins Ic λz=>by replace d:=z▸d;show a7 d];show eq_of_beq U
def adi:Ld "KeyError":=⟨by rw[isSubtype_type];kernel_rfl,by rw[isSubtype_type];kernel_rfl,by rw[isSubtype_type];kernel_rfl⟩
def afp(T:TopRead pw Sy mg mb (H1 w.params)):FY (Ai w) 227 12 "KeyError" QM:=by
 have F:=eV w (a:=227) rfl;show ng (pre:=KS) (fd:=fd w.params 227) T F.kind F.glob F.blt F.co (T3 (λp=>p.2.1) (T3 Prod.fst (t9 w.params))) (bq w.params F.lt) F.data F.body F.code F.cell ((t9 w.params).DL (by ext)) (λL U=>th (rJ T) (yI T) _ rfl rfl rfl) ?_;rintro u H ⟨J,t,x,rfl,rfl,D,P⟩;show aa rfl ⟨b4 J t x rfl D P,gT J t (bZ J t),bZ J t⟩
def mW{X:String}(h:FY c y d X D)(l:d<=e):FY c y e X D:=
 λU O H s A a Z u R r N b=>h U O H s A a Z u R r N (b.mono l)
def Gl(P:Wx):WG:=(Fe SY 60 (Ap (fd P 283))).getD 0 (.Pass default)
def Sd(s:WG):List WG:=match s with| .Try b _ _ _ _=>b|_=>[]
def Sb(s:WG):Option ExceptHandler:=match s with| .Try _ [h] _ _ _=>some h|_=>none
def Sa(s:WG):Pos:=match s with| .Try _ _ _ _ p=>p|_=>default
def MC(s:WG):WE:=match s with| .Assign [t] _ _=>t|_=>.Constant .none 0 default
def GN(s:WG):WE:=match s with| .Assign _ e _=>e|_=>.Constant .none 0 default
def Rk(s:WG):Pos:=match s with| .Assign _ _ p=>p|_=>default
def LA(e:WE):Wu:=match e with| .Name x _=>x|_=>⟨#[]⟩
def Ig(e:WE):Pos:=match e with| .Name _ p=>p| .Attribute _ _ p=>p| .Call _ _ _ p=>p| .Constant _ _ p=>p|_=>default
def Jf(e:WE):WE:=match e with| .Call f _ _ _=>f|_=>.Constant .none 0 default
def OV(e:WE):WE:=match e with| .Call _ [a] _ _=>a|_=>.Constant .none 0 default
def Ow(e:WE):WE:=match e with| .Attribute o _ _=>o|_=>.Constant .none 0 default
def Qm(e:WE):Wu:=match e with| .Attribute _ x _=>x|_=>⟨#[]⟩
def RW(e:WE):Nat:=match e with| .Constant _ k _=>k|_=>0
def RY(h:Option ExceptHandler):WE:=match h with|some (.ExceptHandler (some t) _ _ _)=>t|_=>.Constant .none 0 default
def RZ(h:Option ExceptHandler):WG:=match h with|some (.ExceptHandler _ _ [s] _)=>s|_=>.Pass default
def R0(h:Option ExceptHandler):Pos:=match h with|some (.ExceptHandler _ _ _ p)=>p|_=>default
noncomputable def t1(P:Wx):WG:=(Sd (Gl P)).getD 0 (.Pass default)
def Se(P:Wx):WG:=(Sd (Gl P)).getD 1 (.Pass default)
noncomputable def t3(P:Wx):WG:=RZ (Sb (Gl P))
def zo(P:Wx):Fe SY 60 (Ap (fd P 283))=[.Try [.Assign [.Name (LA (MC (t1 P))) (Ig (MC (t1 P)))] (.Call (.Attribute (Ow (Jf (GN (t1 P)))) (Qm (Jf (GN (t1 P)))) (Ig (Jf (GN (t1 P))))) [OV (GN (t1 P))] [] (Ig (GN (t1 P)))) (Rk (t1 P)),Se P]
  [.ExceptHandler (some (.Name Ic (Ig (RY (Sb (Gl P)))))) none [.Assign [.Name (LA (MC (t1 P))) (Ig (MC (t3 P)))] (.Constant .none (RW (GN (t3 P))) (Ig (GN (t3 P)))) (Rk (t3 P))] (R0 (Sb (Gl P)))] [] [] (Sa (Gl P))]:=by left
def QD:S:=.Aj 165 (.fn 0 (.cons (.loc 166) .nil))
def zp(P:Wx):(((Sa (Gl P)).line,cE SY (fd P 283).scope 50 (Ow (Jf (GN (t1 P)))),cE SY (fd P 283).scope 50 (OV (GN (t1 P))),cS SY (fd P 283).scope 51 (Se P)),KI SY 51 (Se P),
  and (B8 (fd P 283).scope Ic) (and (AU (Ow (Jf (GN (t1 P))))) (and ((Ig (Jf (GN (t1 P)))).endLine==(Ig (GN (t1 P))).line) (and (BU (OV (GN (t1 P)))) (BH (fd P 283).scope (LA (MC (t1 P))))))))=
  ((255,X.BR (.st 236),MI,QD),[],true):=by left
def zl(P:Wx):SY.code (LA (MC (t1 P)))=some 166:=by left
def zm(P:Wx):nm 203=Qm (Jf (GN (t1 P))):=by left
def aap(h:Jr v s k):BL BB 227 [.st 236,v] [] s λc d=>ex BB QD (Bw d (put 166 c d.L)) λu s=>u=.AZ/\k .AZ s:=by
 show pF h λJ t x p j a b P D=>?_;subst j;show dE J t rfl rfl a ⟨J,t,x,p,rfl,rfl,rfl,b,P,?_⟩;show fO (g:=BB) (ah (aj (aa ((ao 166 166 _ _).trans (Zk rfl)) (au (eW ?_)))));show⟨rfl,D⟩
def aec(T:TopRead pw Sy mg mb (H1 w.params))(f:Fm)(u:f.cs=(fd w.params 283).scope)(l:f.vl=false)(e:f.own=true)(Z:f.tp=some f.env/\f.env.frame=some f.env.locals):∀t∈Fe SY 60 (Ap (fd w.params 283)),∀m,SS (Ai w) BB f (12+1) (cS SY f.cs m t) t:=by
 intro t N m;replace N:=(zo _)▸N;obtain rfl:=Za N;cases m with
 |zero=>show bP
 |succ m=>
  have S:=yq T;have h:=zp w.params;replace h:=(YS u)▸h;have o:=T3 (λp=>p.1.1) h;have c:=T3 (λp=>p.1.2.1) h;have q:=T3 (λp=>p.1.2.2.1) h;have A:=T3 (λp=>p.1.2.2.2) h;have i:=T3 (λp=>p.2.1) h;have O:=T3 (λp=>p.2.2) h;dsimp only at o c q A i O;obtain⟨g1,O⟩:=ar O;obtain⟨g2,O⟩:=ar O;obtain⟨g3,O⟩:=ar O;obtain⟨SR,SQ⟩:=ar O;have U:=((bU S 50).1 f (Ow (Jf (GN (t1 w.params))))).1;have b:=((bU S 50).1 f (OV (GN (t1 w.params)))).1;have Q:=nK S 50 f e (Se w.params) i;replace U:=c▸U;replace b:=q▸b;replace Q:=A▸Q;change SS (Ai w) BB f (12+1) (.prim (Sa (Gl w.params)).line) _;rw[o];show xP (n:=203) (fa:=227) (ix:=166) (w:=.st 236) (rspec:=QM) S.Y S.YG e Z.1 Z.2 (S.C1 227) (mW (afp T) (by ext)) adi (yI T) g1 g2 g3 (zm w.params) U SR b rfl (λa=>rfl) (λa a D=>D) SQ (zl w.params) Q Jr Ks (λa a a h=>aap h) (λv s k h=>?_) λJ k h=>h;show aK h λJ t x z j r P D=>?_;subst z;show⟨⟨rfl,gT J t j⟩,cg J t x rfl j r P,D⟩
def ri(T:TopRead pw Sy mg mb (H1 w.params)):∀p∈Iu,AB false (Ai w) p.1 14 p.2:=by
 unfold Iu;show fm (uJ T (yq T) rfl (T3 (λp=>p.1.1) (w4 w.params)) (T3 (λp=>p.1.2.1) (w4 w.params)) (aec T) (aem w) afz) ?_;show λp j=>(fh T p j).mono (by ext)
def yp(T:TopRead pw Sy mg mb (H1 w.params)):CV (Ai w) NS (K w.params) SY Sy mg mb 14:=cv T (ri T)
end
end
end Mine.B
namespace Mine.A
section
variable {pG:WA}{w:Wy}{nm:Nat->Wu}{g g':Gh}{b:Bool}
def RD.gO(h:Le b g g')(D:b=true->(l.all λp=>E8 Fy p.2)=true)(r:RD pG w g Z l):RD pG w g' Z l:=by
 induction r with
 |nil=>show .nil
 |cons a _ Q=>show .cons (a.gO h λq=>(ar (D q)).1) (Q λq=>(ar (D q)).2)
def RI.gO(h:Le b g g')(D:b=true->(l.all λp=>E8 Fy p.2)=true)(r:RI pG w nm g Z l):RI pG w nm g' Z l:=by
 induction r with
 |nil=>show .nil
 |cons a c _ Q=>show .cons a (c.gO h λq=>(ar (D q)).1) (Q λq=>(ar (D q)).2)
def RO.nJ{ft:List WD}(L:Le b g g')(D:b=true->Hn Fy o=true)(k:∀x∈ft,∀o,h.get? x=some o->l.get? x=some o)(r:RO pG w nm g h a ft o):RO pG w nm g' l a ft o:=by
 induction o using AO.casesOn with
 |lst _=>show bI r λe o Z q z r b=>?_;show⟨e,bG o Z (k a (e▸ .head _) _ q) z (Ba.mono L.F r) b⟩
 |An _=>show bQ r λe o U q z d r b=>?_;show⟨e,bj o U (k a (e▸ .head _) _ q) z d (r.gO L D) b⟩
 |inst _ _=>show aK r λu y n e j q A r=>?_;show(aM u y n e j (k a (e▸ .head _) _ q) (k u (e▸ .tail _ (.head _)) _ A) (r.gO L D))
 |Av _=>show⟨r.1,r.2.mono L.F⟩
end
section
variable {c:Cx}{g:G}{K:Frag}{f:Fm}{d:Nat}{O:Gh}{L:Loc}{J:St}{s:Ww}
def Rel.afh(r:Rel c O L J s)(x:G9 b L.all O.low s l s')(M:Cp c l L.all Q s')(hv:b=true->∀n v,Sx n J.L=some v->E8 Fy v=true)(hh:b=true->∀i o,¬i<64->Sx i J.H=some o->Hn Fy o=true):
  Rel c (l.GJ O) L (As J (Q++hi J.H)) s'/\Ext b L O s (l.GJ O) s'/\Le false l (l.GJ O):=by
 have U:∀ {i:Nat},i<64->(l.GJ O).φ i=l.φ i:=λ{i} h=>by change(if i<64 then _ else _)=_;rw[Zk h]
 have m:∀ {i:Nat},¬i<64->(l.GJ O).φ i=O.φ i:=λ{i} h=>by change(if i<64 then _ else _)=_;rw[Zi h]
 have S:Le false l (l.GJ O):=⟨λZ Z e=>e,λi a ft e Z=>(yE ft (by rw[U (M.CZ i _ e).1];show e))⟩
 have le:Le b O (l.GJ O):=⟨x.le.F,λi a ft e X=>by
  by_cases h:i<64
  ·show zE (x.le.φ i a ft (gQ h e) X) λG e'=>(yE G (by show(U h)▸ ?_;show e'))
  ·show(yE ft (by rw[m h];show e))⟩
 have N:∀ {j:Nat} {b:WD} {C:List WD} {y:WD},¬j<64->O.φ j=some (b,C)->y∈C->¬AD O.low y:=λ{j b C y} V e P h=>by
  show bC h λi a ft W B=>zA (cn W) λhi W=>r.sep i j a ft b C W e (λq=>V (q▸hi)) y B P
 have t:∀ {y:WD},L.CN y->¬AD O.low y:=λP h=>(r.off _ (bL h)).2.1 P;have I:∀y,AD (l.GJ O) y->AD l y\/∃j b C,¬j<64/\O.φ j=some (b,C)/\y∈C:=λy h=>by
  show bC h λj b C e P=>?_;by_cases h:j<64
  ·replace e:=(U h)▸e;show .inl (ay j b C e P)
  ·replace e:=(m h)▸e;show .inr (b4 j b C h e P)
 show⟨⟨M.Av,λi o h=>?_,λi j a ft b G F E T y H B=>?_,λy P=>?_,λy P=>?_,?_,λi hi=>?_,r.DY,λi p e hi=>?_,M.base,r.Lb,M.tk⟩,
  ⟨le,λy o e hl X=>x.keep y o e (λh=>hl (.inl h)) λh=>X (bL h),λy P=>x.EN y (.tail _ P),λy P=>?_,λy o e=>?_,x.gens,x.os,x.drawn⟩,S⟩
 ·have h:Sx i (Q++hi J.H)=some o:=h;replace h:=(di _ _ _)▸h;cases q:Sx i Q with
  |some D=>
   replace h:=q▸h;obtain rfl:=Zf (show some D=some o from h);show aX (M.obs i _ q) λa ft e Y=>(aU a ft (by rw[U (M.CZ i _ e).1];show e) (Y.step S λZ Z Z e=>e))
  |none=>
   replace h:=q▸h;have h:Sx i (hi J.H)=some o:=h;replace h:=(iJ _ _)▸h;split at h
   ·cases h
   ·rename_i hi;show aX (r.obs i o h) λa ft e Y=>(aU a ft (by rw[m hi];show e) (Y.nJ le (λq=>hh q i o hi h) λy P o ho=>x.keep y o ho (λq=>(r.off y (ay i a ft e P)).2.1 (.inl q)) (N hi e P)))
 ·by_cases A:i<64<;>by_cases k2:j<64
  ·replace F:=(U A)▸F;replace E:=(U k2)▸E;show M.sep i j a ft b G F E T y H B
  ·replace F:=(U A)▸F;replace E:=(m k2)▸E;rcases x.fp y (ay i a ft F H)with z|z
   ·show N k2 E B z
   ·show cV (r.off y (ay j b G E B)) λZ Z o w=>?_;replace w:=z▸w;show aw w
  ·replace F:=(m A)▸F;replace E:=(U k2)▸E;rcases x.fp y (ay j b G E B)with z|z
   ·show N A F H z
   ·show cV (r.off y (ay i a ft F H)) λZ Z o w=>?_;replace w:=z▸w;show aw w
  ·replace F:=(m A)▸F;replace E:=(m k2)▸E;show r.sep i j a ft b G F E T y H B
 ·rcases I y P with z|⟨j,b,C,V,e,R⟩
  ·show cu (M.off y z) λu Z w=>⟨u,λq=>?_,w⟩
   rcases x.fp y z with k|k
   ·show t q k
   ·show zE (r.there q) λo e=>?_;replace e:=k▸e;show aw e
  ·show cV (r.off y (ay j b C e R)) λu v o w=>⟨?_,v,yE o (x.keep y o w (λq=>v (.inl q)) (N V e R))⟩
   change l.F y=none;cases q:l.F y with
   |none=>rfl
   |some D=>
    rcases x.fF y D q with k|k|k
    ·have k:O.F y=some D:=k;replace k:=u▸k;show aw k
    ·show(N V e R k).elim
    ·replace k:=w▸k;cases k
 ·change l.F y=none;cases q:l.F y with
  |none=>rfl
  |some D=>
   rcases x.fF y D q with k|k|k
   ·have k:O.F y=some D:=k;replace k:=(r.nL y P)▸k;show aw k
   ·show(t P k).elim
   ·show zE (r.there P) λo e=>?_;replace e:=k▸e;show aw e
 ·show r.loc.nJ le hv λy P=>?_;by_cases q:y∈L.all
  ·show x.EN y q
  ·show av λo e=>x.keep y o e q (t P)
 ·have h64:=r.DY;have hi:J.m<=i:=hi;rw[m (by lia)];show r.new i hi
 ·replace e:=(U hi)▸e;show zE (M.CZ i p e).2 λo ho=>(yE o (by change Sx i (Q++_)=_;rw[di,ho];rfl))
 ·rcases I y P with z|⟨j,b,C,_,e,R⟩
  ·rcases x.fp y z with k|k
   ·show .inl (bL k)
   ·show .inr k
  ·show .inl (ay j b C e R)
 ·rcases x.fF y o e with k|k|k
  ·show .inl k
  ·show .inr (.inl (bL k))
  ·show .inr (.inr k)
def AB.w(h:AB false c P d D):AB true c P d D:=
 λU O H s A Z u z k R r N o m j=>h U O H s A Z u z k R r N o m λl n v y Q x=>j l n v y Q ⟨⟨x.le.F,λi a ft e p=>x.le.φ i a ft e λh=>a7 h⟩,x.keep,x.EN,x.fp,x.fF,x.gens,x.os,x.drawn⟩
end
end Mine.A
namespace Mine.B
section
open Mine.A
open Mine.Head
abbrev PE:=(Ct->TK->WJ->Out)×(Ct->TK->WJ->Prop)×Bool
def HW(l:Ct)(_:TK)(r:WJ):Prop:=(∃y n O,l=.live y n O/\BV n)/\∀c u,r=c::u->c≠0
def Me(l:Ct)(_:TK)(r:WJ):Prop:=(∃y n O,l=.live y n O/\BV n)/\∀c u,r=c::u->c=62
def Ma(l:Ct)(_:TK)(r:WJ):Prop:=(∃n O,l=.live false n O/\BV n)/\∀c u,r=c::u->c=62
def Kg(l:Ct)(_:TK)(r:WJ):Prop:=DJ l/\∀c u,r=c::u->c≠33/\c≠62/\c≠63
def Kh(l:Ct)(_:TK)(r:WJ):Prop:=DJ l/\∀c u,r=c::u->c≠62
def Md(l:Ct)(_:TK)(r:WJ):Prop:=DJ l/\0∉AJ [62] r
def C8:List (Nat×PE):=[(304,C7,S5,true),(311,DT 304,Gz,true),(318,BZ,S5,true),(325,DT 318,Gz,true),(332,FP,S5,true),(346,DU,S5,true),(353,Cb,Kg,true),(360,BC,Kh,true),(367,Cc,HW,true),
 (374,IQ,S5,true),(381,Hj,K0,true),(388,CJ 318 388,EY,true),(395,Hk,S5,true),(402,Gv,K0,true),(409,CJ 332 409,EY,true),(535,DV,Me,true),(591,EZ,Ma,true),(598,E0,Md,false)]
section
variable {w:Wy}{mg mb:Wu->TM}
def vQ(T:TopRead pw Sy mg mb (H1 w.params)):∀p∈C8,AB true (Ai w) p.1 16 (O3 p.2.2.2 p.1 p.2.1 p.2.2.1):=by
 show fm ((aV T (ig T) (aaZ _) rfl abb).mono (by ext)).w (fm ((aV T (yp T) (ua _) rfl uq).mono (by ext)).w (fm ((aV T (ig T) (t5 _) rfl ui).mono (by ext)).w (fm ((aV T (yp T) (qA _) rfl qH).mono (by ext)).w (fm ((aV T (ig T) (adL _) rfl adU).mono (by ext)).w (fm ((aV T (ig T) (w3 _) rfl xm).mono (by ext)).w (fm ((ph T (acA T) (qv _) rfl qE).mono (by ext)) (fm ((ph T (lW T) (gZ _) rfl hY).mono (by ext)) (fm ((aV T (lW T) (qw _) rfl qF).mono (by ext)).w (fm ((aV T (ig T) (aaW _) rfl aa7).mono (by ext)).w (fm ((aV T (ig T) (wY _) rfl xj).mono (by ext)).w (fm ((ph T (lW T) (wZ _) rfl xk).mono (by ext)) (fm ((aV T (ig T) (w0 _) rfl xl).mono (by ext)).w (fm ((aV T (ig T) (t6 _) rfl uj).mono (by ext)).w (fm ((ph T (lW T) (t7 _) rfl uk).mono (by ext)) (fm ((aV T (lW T) (ub _) rfl uv).mono (by ext)).w (fm ((aV T (lW T) (wW _) rfl xg).mono (by ext)).w (fm ((aV T (lW T) (w5 _) rfl xr).mono (by ext)).w λp j=>nomatch j)))))))))))))))))
def pZ(T:TopRead pw Sy mg mb (H1 w.params)){st:Nat}(h:Sx st C8=some p):AB true (Ai w) st 16 (O3 p.2.2 st p.1 p.2.1):=vQ T _ (fD h)
end
abbrev DC:WJ:=[116,105,116,108,101]
abbrev Fi:WJ:=(SV 0x6165726174786574)
abbrev DD:WJ:=[115,116,121,108,101]
abbrev GS:WJ:=[120,109,112]
abbrev Em:WJ:=(SV 0x747865746e69616c70)
def Ek(y:FV):TK:=Af (Ta y) λl=>Af (sel Dp l) λi=>Bool.rec none (Af (sel HP l) aS) (A.ob (aI i) λi=>decide (i=3))
def HC(n:WJ)(st:Nat):Nat:=if n=DC\/n=Fi then 318 else if n=DD\/n=GS then 332 else if n=Em then 346 else st
def Sq(st:Nat)(y:FV):Nat:=Option.rec st (λn=>HC n st) (Ek y)
structure Gk (y:FV):Prop where
 h:∃l i,y=.An l/\sel Dp l=some (.int i)/\(i=3->∃n,sel HP l=some (.str n))
inductive Eg:Ct->Nat->TK->Nat->WJ->List (FV×Nat)->Prop
 |stop {ct st tb n} (p:PE) (o:Out):Sx st C8=some p->p.2.1 ct tb []->p.1 ct tb []=o->o.cont=false->o.x=[]->o.r=[]->Eg ct st tb n [] []
 |go {ct st tb n r T} (p:PE) (o:Out):Sx st C8=some p->p.2.1 ct tb r->p.1 ct tb r=o->o.cont=true->o.x++o.r=r->(∀y∈o.q,Gk y)->Eg o.ct (o.q.foldl Sq o.st) o.tb (n+o.x.length) o.r T->
   Eg ct st tb n r ((o.q.map λy=>(y,n+o.x.length))++T)
def LJ(P:Wx):WG:=(Ap (fd P 268)).getD 0 (.Pass default)
def KU(P:Wx):WG:=(Ap (fd P 268)).getD 1 (.Pass default)
def Hb(s:WG):WE:=match s with| .While t _ _ _=>t|_=>.Constant .none 0 default
def Pj(s:WG):List WG:=match s with| .While _ b _ _=>b|_=>[]
def Ph(s:WG):Pos:=match s with| .While _ _ _ p=>p|_=>default
def NQ(P:Wx):WG:=(Pj (KU P)).getD 0 (.Pass default)
def NP(P:Wx):WG:=(Pj (KU P)).getD 1 (.Pass default)
def Ib(s:WG):WG:=(Pj s).getD 0 (.Pass default)
def OF(s:WG):WE×Pos:=match s with| .Expr e p=>(e,p)|_=>(.Constant .none 0 default,default)
def QB(e:WE):Option WE×Pos:=match e with| .Yield o p=>(o,p)|_=>(none,default)
def Kv(s:WG):WE:=(QB (OF s).1).1.getD (OF s).1
def Qy(s:WG):Pos:=(QB (OF s).1).2
def QC(s:WG):Pos:=(OF s).2
def It(s:WG):WG:=.While (Hb s) [.Expr (.Yield (some (Kv (Ib s))) (Qy (Ib s))) (QC (Ib s))] [] (Ph s)
def MK(P:Wx):WE:=Ow (Jf (Hb (KU P)))
def Pe(P:Wx):Wu:=Qm (Jf (Hb (KU P)))
def Pd(P:Wx):Pos:=Ig (Jf (Hb (KU P)))
def Pf(P:Wx):Pos:=Ig (Hb (KU P))
def adk(P:Wx):Ap (fd P 268)=[LJ P,.While (.Call (.Attribute (MK P) (Pe P) (Pd P)) [] [] (Pf P)) [It (NQ P),It (NP P)] [] (Ph (KU P))]:=by left
abbrev xE:X:=.Bb (.Bb (.loc 292) 305) 168
abbrev xQ:X:=.Bb (.loc 292) 313
abbrev OI:X:=.An (.cons (.k (.str Dp)) (.cons (.sub (.BR Ad) (.k (.str Tf))) (.cons (.k (.str Cq)) (.cons (.Al (.Bb (.Bb (.loc 292) 305) 168) 1 (.cons (.k (.int 0)) .nil) []) .nil))))
abbrev OG:X:=.Al (.Bb (.loc 292) 313) 1 (.cons (.k (.int 0)) .nil) []
def Mu(P:Wx)(e:WE):X:=cE SY (fd P 268).scope 50 e
def adj(P:Wx):(Mu P (MK P),Mu P (Hb (NQ P)),Mu P (Hb (NP P)),Mu P (Kv (Ib (NQ P))),Mu P (Kv (Ib (NP P))),cS SY (fd P 268).scope 51 (LJ P))=(X.loc 292,xE,xQ,OI,OG,S.Bi (X.loc 292) 313 (X.lst X.nil)):=by left
def afr(P:Wx)(a:Wv):bindArgs (fd P 268) ⟨[a],[]⟩=pure (([292].map nm).zip [a]):=by left
def adl(P:Wx):and (fd P 268).scope.isGenerator (and (CD (fd P 268) [292]) (and (decide (findIn (K P) (.ref 762) "__iter__"=some (some (.ref 268))/\isFn (K P) (.ref 268)=true)) (and (KI SY 51 (LJ P)).isEmpty (and (AU (MK P)) ((Pd P).endLine==(Pf P).line)))))=true:=by left
def afq(P:Wx):nm 302=Pe P:=by left
end
end Mine.B
namespace Mine.A
section
open Mine.A
open Mine.B
open Mine.Head
def yY{y:Type}(n:Nat)(p:Nat×y)(l:List (Nat×y)):DK n (p::l)=if n=p.1 then DK n l else p::DK n l:=by
 change(Bool.rec (p::DK n l) (DK n l) (beq n p.1):List (Nat×y))=_;cases e:beq n p.1 with
 |true=>rw[Zk (ZC e)]
 |false=>rw[Zi (Xb e)]
def aaA(O:¬m<64):∀H:Tx,lo (DK m H)=lo H:=by
 intro H;induction H with
 |nil=>show rfl
 |cons p H Q=>
  rw[yY,b7];split
  ·rename_i e;rw[Zi (by rw[←e];show O)];show Q
  ·rw[b7,Q]
def N3(H:Tx):Prop:=∀i o,¬i<64->Sx i H=some o->Hn Fy o=true
structure HA (XX:Tx) (H:Tx) (m ro:Nat) (row:Tz) (J:Sm) (t:Tm):Prop where
 lo:lo H=Hp J t
 row:Sx ro H=some (.lst row)
 Ie:64<=ro
 rm:ro<m
 n3:N3 H
 ex:∀p∈XX,64<=p.1/\p.1<m/\p.1≠ro/\Sx p.1 H=some p.2
def HA.at'{row:Tz}(h:HA XX H m ro row J t)(A:i<64):Sx i H=Sx i (Hp J t):=by
 rw[←h.lo,eg,Zk A]
def HA.call{row:Tz}(h:HA XX H m ro row J t):HA XX (Hp J' t'++hi H) m ro row J' t':=
 ⟨by rw[fQ,bZ,d9,Zu],(dO (by show YN.mpr h.Ie)).trans h.row,h.Ie,h.rm,λi o hi e=>h.n3 i o hi ((dO hi).symm.trans e),λp j=>by
  show bY (h.ex p j) λa b c d=>⟨a,b,c,(dO (YN.mpr a)).trans d⟩⟩
def HA.put{row:Tz}{J Z:Sm}(h:HA XX H m ro row J t)(A:i<64)(e:Mine.A.put i x (Hp J t)=Hp Z z):HA XX (Mine.A.put i x H) m ro row Z z:=
 ⟨by rw[dM A,h.lo,e],by rw[ao,Zi (by have:=h.Ie;lia)];show h.row,h.Ie,h.rm,λj o Q e=>h.n3 j o Q (by rw[ao,Zi (by lia)]at e;show e),λp f=>by
  show bY (h.ex p f) λa b c d=>⟨a,b,c,by rw[ao,Zi (by lia)];show d⟩⟩
def HA.push{row:Tz}(h:HA XX H m ro row J t)(P:Hn Fy x=true):HA XX ((m,x)::H) (m+1) ro row J t:=by
 have:=h.Ie;have:=h.rm;show⟨by rw[b7,Zi (show¬m<64 by lia)];show h.lo,?_,h.Ie,by show YO 1 this,λi o hi e=>?_,λp j=>?_⟩
 ·rw[aq,Zi (show¬ro=m by show Z3 this)];show h.row
 ·rw[aq]at e;split at e
  ·obtain rfl:=Zf e;show P
  ·show h.n3 i o hi e
 ·show bY (h.ex p j) λa b c d=>⟨a,by show YO 1 b,c,by rw[aq,Zi (Z3 b)];show d⟩
def HA.other{row:Tz}{J:Sm}(h:HA XX H m ro row J t)(A:64<=i)(D:i≠ro)(g:∀p∈XX,p.1≠i)(P:Hn Fy x=true):HA XX (Mine.A.put i x H) m ro row J t:=
 ⟨by rw[b6 (YN.mpr A)];show h.lo,by rw[ao,Zi λe=>D e.symm];show h.row,h.Ie,h.rm,λj o Q e=>by
  rw[ao]at e;split at e
  ·obtain rfl:=Zf e;show P
  ·show h.n3 j o Q e,λp f=>by
  show bY (h.ex p f) λa b c d=>⟨a,b,c,by rw[ao,Zi (g p f)];show d⟩⟩
def HA.rP{row row':Tz}(h:HA XX H m ro row J t):HA XX (Mine.A.put ro (.lst row') H) m ro row' J t:=
 ⟨by rw[b6 (by have:=h.Ie;lia)];show h.lo,by rw[ao,Zk rfl],h.Ie,h.rm,λj o Q e=>by
  rw[ao]at e;split at e
  ·obtain rfl:=Zf e;rfl
  ·show h.n3 j o Q e,λp f=>by
  show bY (h.ex p f) λa b c d=>⟨a,b,c,by rw[ao,Zi c];show d⟩⟩
abbrev Lg:Tw:=[(292,.ob 1)]
section
variable {XX H:Tx}{m ro:Nat}{row:Tz}{J:Sm}{t:Tm}
def lG(h:HA XX H m ro row J t):Sx 1 H=some (.inst 762 (R9 t)):=h.at' (by ext)
def at2(h:HA XX H m ro row J t):Sx 2 H=some (.inst 166 (Sf J)):=h.at' (by ext)
def at6(h:HA XX H m ro row J t):Sx 6 H=some (.lst J.AH):=h.at' (by ext)
def at5{st:Nat}{l:Ct}{q:Tz}{tb:TK}(h:HA XX H m ro row J ⟨st,l,some q,tb⟩):Sx 5 H=some (.lst q):=h.at' (by ext)
def afx{k:Bool->TF}(h:HA XX H m ro row J t)(D:k (BE J.AH) ⟨Lg,H,m,false⟩):BI SR xE ⟨Lg,H,m,false⟩ (λv s=>Ab (Am s.H v) λb=>k b s):=by
 show ba (ba (aj (aa rfl (aP (lG h) rfl rfl (aP (at2 h) rfl rfl (aa ?_ D))))));change Af (Sx 6 H) _=_;rw[at6 h];rfl
def afw{st:Nat}{q:Tz}{tb:TK}{k:Bool->TF}(h:HA XX H m ro row J ⟨st,l,some q,tb⟩)(D:k (BE q) ⟨Lg,H,m,false⟩):BI SR xQ ⟨Lg,H,m,false⟩ (λv s=>Ab (Am s.H v) λb=>k b s):=by
 show ba (aj (aa rfl (aP (lG h) rfl rfl (aa ?_ D))));change Af (Sx 5 H) _=_;rw[at5 h];rfl
def sY(U:Sx i s.H=some (.lst (x::l)))(h:F (.c x) (As s (put i (.lst l) s.H))):CL g (.lst i) 1 [.c (.int 0)] [] s F:=by
 show aa (T3 FJ U) h
def adQ{st:Nat}{x:FV}{q:Tz}{tb:TK}{k:TC}(h:HA XX H m ro row J ⟨st,l,some (x::q),tb⟩)(D:∀Q,HA XX Q m ro row J ⟨st,l,some q,tb⟩->k (.c x) ⟨Lg,Q,m,false⟩):BI SR OG ⟨Lg,H,m,false⟩ k:=by
 show aJ (ba (aj (aa rfl (aP (lG h) rfl rfl (aa (cw (at5 h) rfl) (ah (aQ (au (sY (at5 h) (D _ (h.put (by ext) ?_)))))))))));cases l<;>rfl
def adR(h:HA XX H m ro row {J with AH:=x::y} t)(D:∀Q,HA XX Q (m+1) ro row {J with AH:=y} t->Sx m Q=some (.An [(Dp,.c (.int 7)),(Cq,.c x)])->k (.ob m) ⟨Lg,Q,m+1,false⟩):BI SR OI ⟨Lg,H,m,false⟩ k:=by
 show gb (ah (aQ (ah (bK (bB (aQ (dI rfl (ah (aQ (ah (aJ (ba (ba (aj (aa rfl (aP (lG h) rfl rfl (aP (at2 h) rfl rfl (aa (cw (at6 h) rfl) (ah (aQ (au (sY (at6 h) (au (aa rfl (gc (D _ ((h.put (by ext) ?_).push rfl) ?_))))))))))))))))))))))))))
 ·rfl
 ·show(aq _ _ _).trans (Zk rfl)
def afy{st:Nat}{K:TB}(h:HA XX H m ro row J ⟨st,l,none,none⟩)(D:∀Q,HA XX Q (m+1) ro row J ⟨st,l,some [],none⟩->K .AZ ⟨Lg,Q,m+1,false⟩)(u:l=.no):ex SR (S.Bi (X.loc 292) 313 (X.lst X.nil)) ⟨Lg,H,m,false⟩ K:=by
 subst u;have n:=h.Ie;have O:=h.rm;have U:DK m ((m,AO.lst [])::H)=DK m H:=by rw[yY,Zk rfl]
 have f:Sx 1 (DK m ((m,AO.lst [])::H)++[(4+1,AO.lst [])])=some (.inst 762 (R9 ⟨st,.no,none,none⟩)):=by
  rw[di,U,dN,Zi (by lia),lG h];rfl
 change BI SR (X.lst X.nil) _ λv s=>BI SR (X.loc 292) s λo s=>Cy SR o 313 v s λs=>K .AZ s;show d7 (au (aa rfl (aW rfl (gc (aj (aa rfl (w_m rfl rfl ?_ ?_ ?_ f rfl ?_)))))))
 ·show ZX (show 64<=m by lia)
 ·show(aq _ _ _).trans (Zk rfl)
 ·show(aq _ _ _).trans ((Zi (show¬5=m by lia)).trans (show Sx 5 H=none from h.at' (by ext)))
 ·show D _ ⟨?_,?_,h.Ie,by show YO 1 O,λi o hi e=>?_,λp j=>?_⟩
  ·rw[dM (by ext),fQ,U,aaA (by lia),h.lo];rfl
  ·rw[ao,Zi (by lia),di,U,dN,Zi (Z3 O),h.row];rfl
  ·have e:Sx i (put 1 (.inst 762 (put 313 (.ob 5) (R9 ⟨st,.no,none,none⟩))) (DK m ((m,AO.lst [])::H)++[(5,AO.lst [])]))=some o:=e;rw[ao,Zi (by lia),di,U,dN]at e;split at e
   ·have e:=e;rw[aq,Zi (show¬i=5 by lia)]at e;show aw e
   ·cases q:Sx i H with
    |some k=>rw[q]at e;obtain rfl:=Zf e;show h.n3 i _ hi q
    |none=>
     rw[q]at e;have e:=e;rw[aq,Zi (show¬i=5 by lia)]at e;show aw e
  ·show bY (h.ex p j) λa b c d=>⟨a,by show YO 1 b,c,?_⟩
   rw[ao,Zi (by lia),di,U,dN,Zi (Z3 b),d];rfl
end
def Cz(J:Sm):FV:=.tup [.int ((CA J J.off).1+1),.int (CA J J.off).2]
abbrev RE:S:=.seq (.Bi (.loc 316) 302 (.Bb (.loc 316) 259)) .skip
abbrev RC:S:=.seq (.Bi (.loc 316) 302 (.Bb (.loc 316) 255)) .skip
abbrev RB:S:=.seq (.Bi (.loc 316) 302 (.Bb (.loc 316) 238)) .skip
abbrev OH:X:=.sub (.loc 312) (.k (.str HP))
def QH:S:=.seq (.iff (.cmp 8 OH (.tup (.cons (.k (.str DC)) (.cons (.k (.str Fi)) .nil)))) RE (.seq (.iff (.cmp 8 OH (.tup (.cons (.k (.str DD)) (.cons (.k (.str GS)) .nil)))) RC (.seq (.iff (.cmp 0 OH (.k (.str Em))) RB .skip) .skip)) .skip)) .skip
def Fd:S:=.seq (.ex (.Al (.loc 177) 0 (.cons (.tup (.cons (.loc 312) (.cons (.Al (.Bb (.loc 316) 305) 239 .nil []) .nil))) .nil) [])) (.seq (.iff (.cmp 0 (.sub (.loc 312) (.k (.str Dp))) (.sub (.BR Ad) (.k (.str Tc)))) QH .skip) .skip)
section
variable {XX H:Tx}{m ro:Nat}{row:Tz}{J:Sm}{t:Tm}{LL:Tw}{K:TB}
def m7(h:HA XX H m ro row J t)(d:Sx 316 LL=some (.ob 1))(e:g0.cls 762 x=some f)(Z:(R9 ⟨0,.no,some [],some []⟩).any (λp=>beq x p.1)=false)(D:∀Q,HA XX Q m ro row J {t with state:=f}->K .AZ ⟨LL,Q,m,false⟩):ex SR (S.seq (S.Bi (X.loc 316) 302 (X.Bb (X.loc 316) x)) S.skip) ⟨LL,H,m,false⟩ K:=by
 show i6 (ba (aj (aa d (za (lG h) (nA t Z) e (aj (aa d (w_a rfl (lG h) (lM t) (aB (D _ (h.put (by ext) rfl))))))))))
def sX:CT (.str n) [.str a,.str b]=some (decide (n=a\/n=b)):=by
 change some (Bool.rec (Bool.rec false true (Cn b n)) true (Cn a n):Bool)=_;rw[aE,aE];show T3 some ?_;by_cases h:a=n
 ·rw[Zr h,show decide (n=a\/n=b)=true from Zr (Or.inl h.symm)]
 ·have e:=Zs h;rw[e];by_cases N:b=n
  ·rw[Zr N,show decide (n=a\/n=b)=true from Zr (Or.inr N.symm)]
  ·rw[Zs N,show decide (n=a\/n=b)=false from Zs λz=>z.elim (λz=>h z.symm) λz=>N z.symm]
def aer(h:HA XX H m ro row J t)(d:Sx 316 LL=some (.ob 1))(g:Sx 312 LL=some (.c (.An l)))(j:sel HP l=some (.str n))(D:∀Q,HA XX Q m ro row J {t with state:=HC n t.state}->K .AZ ⟨LL,Q,m,false⟩):ex SR QH ⟨LL,H,m,false⟩ K:=by
 have nm:∀ {F:TC},F (.c (.str n)) ⟨LL,H,m,false⟩->SU SR OH ⟨LL,H,m,false⟩ (one F):=λz=>bK (aj (aa g (aQ (aa (o:=sel HP l) j z))));have tp:∀ {a b:WJ} {F:TC},F (.c (.tup [.str a,.str b])) ⟨LL,H,m,false⟩->SU SR (X.tup (X.cons (X.k (.str a)) (X.cons (X.k (.str b)) X.nil))) ⟨LL,H,m,false⟩ (one F):=λz=>dW (ah (aQ (ah (aQ (au (aa rfl (aW rfl z)))))));unfold HC at D;show bE (aH (nm (tp (dt (aa sX (aa rfl (bh (λq=>?_) λq=>?_)))))))
 ·replace D:=(Zk (Zm q))▸D;show m7 h d rfl rfl λQ c=>cU (aB (D Q c))
 ·replace D:=(Zi (ZA q))▸D;show bE (aH (nm (tp (dt (aa sX (aa rfl (bh (λq=>?_) λq=>?_)))))))
  ·replace D:=(Zk (Zm q))▸D;show m7 h d rfl rfl λQ c=>cU (aB (cU (aB (D Q c))))
  ·replace D:=(Zi (ZA q))▸D;show bE (aH (nm (aQ (dt (zx (aa rfl (bh (λq=>?_) λq=>?_)))))))
   ·replace D:=(Zk (Zm q))▸D;show m7 h d rfl rfl λQ c=>cU (aB (cU (aB (cU (aB (D Q c))))))
   ·replace D:=(Zi (ZA q))▸D;show aB (cU (aB (cU (aB (cU (aB (D H h)))))))
def w6(h:HA XX H m ro row J t)(f:Gk y)(A:Sx 177 LL=some (.ob ro))(g:Sx 312 LL=some (.c y))(d:Sx 316 LL=some (.ob 1))(U:0<=J.off/\J.off<2 ^ 63)(u:row.length+1<=16777216)
  (D:∀Q,HA XX Q m ro (row++[.tup [y,Cz J]]) J {t with state:=Sq t.state y}->K .AZ ⟨LL,Q,m,false⟩):ex SR Fd ⟨LL,H,m,false⟩ K:=by
 show bA f.h λl i P s j=>?_;subst P;show d3 (aJ (aj (aa A (aa (cw h.row rfl) (ah (dW (ah (aj (aa g (ah ?_))))))))));show aJ (ba (aj (aa d (aP (lG h) rfl rfl (aa (a:=.fn 126 (.ob 2)) ?_ (au (eR ?_)))))))
 ·change Af (Sx 2 H) _=_;rw[at2 h];rfl
 ·show dE J t rfl rfl h.lo (bj J t rfl rfl rfl U ?_);have N:HA XX (Hp J t++hi H) m ro row J t:=h.call;show au (aa (a:=([.An l,Cz J],Hp J t++hi H)) rfl (aW rfl (au (gf N.row rfl N.row (ZX u) ?_))));have b:=N.rP (row':=row++[.tup [.An l,Cz J]]);show bE (aH (bK (aj (aa g (aQ (aa (o:=sel Dp l) s (bK (bB (aQ (dI (i:=3) rfl (dt (aeY (aa rfl (bh (λq=>?_) λq=>?_))))))))))))))
  ·show zE (j (Zm q)) λn j=>?_;have e:Sq t.state (.An l)=HC n t.state:=by
    have:Ek (.An l)=some n:=by
     change Af (sel Dp l) _=_;rw[s];change(Bool.rec none (Af (sel HP l) aS) (decide (i=3)):TK)=_;rw[show decide (i=3)=true from q,j];rfl
    unfold Sq;rw[this]
   replace D:=e▸D;show aer b d g j λQ c=>cU (aB (D Q c))
  ·have e:Sq t.state (.An l)=t.state:=by
    have:Ek (.An l)=none:=by
     change Af (sel Dp l) _=_;rw[s];change(Bool.rec none (Af (sel HP l) aS) (decide (i=3)):TK)=_;rw[show decide (i=3)=false from q]
    unfold Sq;rw[this]
   replace D:=e▸D;show aB (cU (aB (D _ b)))
end
end
section
open Mine.B Mine.Head
structure FK (E:Env) (fs:List Frame):Prop where
 sp:splitAtGen fs=none
 gu:fs.any Frame.guarded=false
 Q0:(marksOver fs (none,none)).1=none
 fc:frameCount (fs.map Frame.where_)<=2
 un:unitsOf (fs.map Frame.where_)<=12
 en:∀e∈envsOf (fs.map Frame.where_),e=E
def FK.nil{E:Env}:FK E []:=⟨rfl,rfl,rfl,ZF _,ZF _,λZ h=>(nomatch h)⟩
def FK.push{E:Env}(h:FK E y)(v:frameCount (y.map Frame.where_)+c.weight<=2)(Z:unitsOf (y.map Frame.where_)+c.cUnits<=12)(N:∀e∈c.envs,e=E):FK E (.ret k none false l c p []::y):=by
 show⟨?_,?_,?_,?_,?_,?_⟩
 ·change(splitAtGen y).map _=none;rw[h.sp];rfl
 ·change(false||y.any Frame.guarded)=false;rw[h.gu];rfl
 ·show h.Q0
 ·rw[frameCount_cons];lia
 ·rw[unitsOf_cons];lia
 ·rw[envsOf_cons];show λe q=>(Yi.mp q).elim (N e) (h.en e)
def d4{L C:Loc}{E:Env}(B:Above L C u)(b:E.scope.kind≠ .module/\E.frame=some C.ns)(j:C.tp=none)(l:Ay L (d+4) A)(h:FK E y)(v:c.weight<=1)(Z:c.cUnits<=12)(N:∀e∈c.envs,e=E):Ay C d (A.in1.over c y):=by
 have n:=h.fc;have o:=h.un;show⟨⟨?_,?_,?_,?_⟩,λenv e=>by replace e:=j▸e;show aw e⟩
 ·change(marksOver y (A.in1.handled,A.in1.handled)).1=none;rw[l.hd];show h.Q0
 ·show aA l.fr λk U i=>(aO (c.envs++(envsOf (y.map Frame.where_)++k)) ?_ λe q=>?_)
  ·change pushEnvs c.envs (pushEnvs (envsOf (y.map Frame.where_)) A.frames)=_;rw[pushEnvs_eq,pushEnvs_eq,U];rfl
  ·have g:e=E->e.scope.kind≠ .module/\∃a∈C.all,e.frame=some a:=λz=>z▸⟨b.1,aO C.ns (.head _) b.2⟩;rcases Yi.mp q with q|q
   ·show g (N e q)
   ·rcases Yi.mp q with q|q
    ·show g (h.en e q)
    ·show eX (i e q) λf a k2 k3=>⟨f,aO a (.tail _ (B.up▸k2)) k3⟩
 ·have:=l.Fs;change A.depth+frameCount (y.map Frame.where_)+c.weight+d<_;show Yb (Zh (ZV (Z9 (ZH n _) v) _) (Zh (Zz (ZZ _ 3 _)) (YX _))) this
 ·have:=l.un;change A.units+1+unitsOf (y.map Frame.where_)+c.cUnits+16*d+64<_;show Zh (ZV (ZV (Zh (ZV (Z9 (ZH o _) Z) _) (Zh (Zz (ZZ _ 25 _)) (ZH (by decide:25<=64) _))) _) 1) this
def Ay.mono(h:Ay L e A)(l:d<=e):Ay L d A:=⟨h.toRoom.mono l,h.top⟩
def vd{t:WE}{b o:List WG}{env:Env}:(Code.whileLoop t b o env).weight=0/\(Code.whileLoop t b o env).cUnits=0/\∀E,∀e∈(Code.whileLoop t b o env).envs,e=E:=⟨rfl,rfl,λZ Z h=>(nomatch h)⟩
def afu{b:List WG}{env:Env}:(Code.func b env).weight=1/\(Code.func b env).cUnits=3/\∀e∈(Code.func b env).envs,e=env:=⟨rfl,rfl,λZ h=>Za h⟩
def gq{a:Array GenState}{q z:GenState}(h:(a.setIfInBounds i q)[j]? =some z):(i=j/\z=q)\/i≠j/\a[j]? =some z:=by
 replace h:=Yr▸h;by_cases e:i=j
 ·replace h:=(Zk e)▸h;show .inl ⟨e,?_⟩;split at h
  ·cases h;rfl
  ·cases h
 ·replace h:=(Zi e)▸h;show .inr ⟨e,h⟩
def Ext.setGen{L:Loc}(x:Ext b L g s P s'){i:Nat}(A:s.gens[i]? =none){q:GenState}(SG:q.bare=true):Ext b L g s P (s'.setGen i q):=by
 show⟨x.le,x.keep,x.EN,x.fp,x.fF,⟨λj z e=>?_,λj z e=>?_⟩,x.os,x.drawn⟩
 ·have Q:i≠j:=λh=>by replace A:=h▸A;replace A:=e▸A;cases A
  rw[Yr,Zi Q];show x.gens.old j z e
 ·rcases gq e with ⟨_,rfl⟩|⟨_,e⟩
  ·show .inr SG
  ·show x.gens.new j z e
def eU(s:Ww)(i:Nat)(p q:GenState):(s.setGen i p).setGen i q=s.setGen i q:=by
 unfold Shared.setGen;rw[Array.setIfInBounds_setIfInBounds]
def Ext.held{L:Loc}(x:Ext b L g s P s'){i:Nat}(A:i<s.gens.size){q:GenState}(SG:q.bare=true):Ext b L g (s.setGen i q) P (s'.setGen i q):=by
 show⟨x.le,x.keep,x.EN,x.fp,x.fF,⟨λj z e=>?_,λj z e=>?_⟩,x.os,x.drawn⟩
 ·rcases gq e with ⟨h,rfl⟩|⟨h,e⟩
  ·have:=x.gens.old i _ (Z6 A);rw[Yr,Zk h,Zk];rcases YT i s'.gens.size with y|y
   ·show y
   ·replace this:=(Xe y)▸this;cases this
  ·rw[Yr,Zi h];show x.gens.old j z e
 ·rcases gq e with ⟨_,rfl⟩|⟨h,e⟩
  ·show .inr SG
  ·rcases x.gens.new j z e with k|k
   ·show .inl ?_;rw[Yr,Zi h];show k
   ·show .inr k
def pR{s:Ww}(h:i<s.gens.size)(q:GenState):(s.setGen i q).gens[i]? =some q:=by
 rw[Yr,Zk rfl,Zk h]
def ki{s:Ww}(q:GenState):(s.setGen i q).gens.size=s.gens.size:=by
 change(s.gens.setIfInBounds i q).size=_;simp
structure Ia (c:Cx) (L:Loc) (gh₀:Gh) (s₀:Ww) (L₀:Tw) (ro:Nat) (XX:Tx) (C:Loc) (ag gi:Nat):Prop where
 ab:Above L C 1
 C0:s₀.heap.get? C.ns=none
 a0:s₀.heap.get? ag=none
 aL:¬L.CN ag
 aC:ag≠C.ns
 g0:s₀.gens[gi]? =none
structure GI (c:Cx) (L:Loc) (gh₀:Gh) (s₀:Ww) (L₀:Tw) (ro:Nat) (XX:Tx) (C:Loc) (ag gi:Nat) (O:Gh) (H:Tx) (m:Nat) (LL:Tw) (row:Tz) (J:Sm) (t:Tm) (s:Ww):Prop where
 r:Rel c O L ⟨LL,H,m,false⟩ s
 fr:Ir c O C 292 1 s
 E:Ext true L gh₀ s₀ O (s.setGen gi .running)
 ha:HA XX H m ro row J t
 lr:Sx 177 LL=some (.ob ro)
 lt:Sx 316 LL=some (.ob 1)
 l3:∀n v,Sx n LL=some v->E8 Fy v=true
 ll:∀n,n≠312->Sx n LL=Sx n L₀
 gen:s.heap.IsGen ag gi
 PY:¬AD O ag
 Mv:gi<s.gens.size
def Mo(c:Cx)(L:Loc)(gh₀:Gh)(s₀:Ww)(L₀:Tw)(ro:Nat)(XX:Tx)(C:Loc)(ag gi:Nat)(row:Tz)(J:Sm)(t:Tm)(s:Ww):Prop:=∃O H m LL,GI c L gh₀ s₀ L₀ ro XX C ag gi O H m LL row J t s
section
variable {c:Cx}{L:Loc}{gh₀:Gh}{s₀:Ww}{L₀:Tw}{ro:Nat}{XX:Tx}{C:Loc}{ag gi:Nat}{O gh':Gh}{H H':Tx}{m m':Nat}{LL:Tw}{row row':Tz}{J J':Sm}{t t':Tm}{s s':Ww}
def Ia.nC(B:Ia c L gh₀ s₀ L₀ ro XX C ag gi):¬C.Wr ag:=λq=>(B.ab.has q.has).elim B.aC λq=>B.aL (.inl q)
def oS{X:Loc}(x:Ext b X g s P s')(h:i<s.gens.size):i<s'.gens.size:=by
 have:=x.gens.old i _ (Z6 h);rcases YT i s'.gens.size with z|z
 ·show z
 ·replace this:=(Xe z)▸this;cases this
def qs(h:s.heap.IsGen ag gi):∃o,s.heap.get? ag=some o:=let ⟨o,_,_,e,_⟩:=h;⟨o,e⟩
def oU{X:Loc}(x:Ext b X O s gh' s')(h:s.heap.IsGen ag gi)(A:¬X.Wr ag)(u:¬AD O ag):s'.heap.IsGen ag gi/\¬AD gh' ag:=by
 show zE (qs h) λo e=>bC h λD nm d U r=>⟨ay D nm d (x.keep _ _ U A u) r,λq=>?_⟩
 rcases x.fp ag q with k|k
 ·show u k
 ·replace k:=e▸k;cases k
def GI.step(B:Ia c L gh₀ s₀ L₀ ro XX C ag gi)(g:GI c L gh₀ s₀ L₀ ro XX C ag gi O H m LL row J t s)(x:Ext b C O s gh' s')(u:Rel c gh' C ⟨Lg,H',m',false⟩ s')(Q:HA XX H' m' ro row' J' t'):GI c L gh₀ s₀ L₀ ro XX C ag gi gh' H' m' LL row' J' t' s':=by
 show zA (g.r.sleep B.ab g.fr (λZ=>g.l3) x u rfl) λD P=>zA (oU x g.gen B.nC g.PY) λg1 g2=>⟨D,P,Ext.over (g.r.setGen _ _) B.ab g.E B.C0 (x.held g.Mv rfl),Q,g.lr,g.lt,g.l3,g.ll,g1,g2,oS x g.Mv⟩
def GI.setGen(B:Ia c L gh₀ s₀ L₀ ro XX C ag gi)(g:GI c L gh₀ s₀ L₀ ro XX C ag gi O H m LL row J t s)(q:GenState):GI c L gh₀ s₀ L₀ ro XX C ag gi O H m LL row J t (s.setGen gi q):=
 ⟨g.r.setGen _ _,g.fr.setGen _ _,by rw[eU];show g.E,g.ha,g.lr,g.lt,g.l3,g.ll,g.gen,g.PY,by rw[ki];show g.Mv⟩
def GI.wake(B:Ia c L gh₀ s₀ L₀ ro XX C ag gi)(g:GI c L gh₀ s₀ L₀ ro XX C ag gi O H m LL row J t s):Rel c O C ⟨Lg,H,m,false⟩ s:=g.r.wake B.ab g.fr
end
end
section
variable {c:Cx}{g:G}{K:Frag}{p:CP}{Sy:TP}{mg mb:Wu->TM}{f:Fm}{d:Nat}{O:Gh}{J:St}{s:Ww}
def si(Y:Ctx c K p Sy mg mb)(YG:FX c K g)
  (hb:AU o=true) (w:(apos.endLine==pos.line)=true) (hn:c.nm n=nm) (ho:SE c g f d xo o) (hfn:g.fn fa=true) (r:Rel c O f.L J s) (rm:Ay f.L d A) (hw:∀k,k (.ob i) J->BI g xo J k) (hm:C4 g (.ob i) n [] J=some (.own fa i)) (R:i<64)
  (C:AB true c fa d spec) (hl:((lo J.H).all λp=>Dc p.2)=true) (W:spec [.ob i] [] (lo J.H) k) (hv:∀n v,Sx n J.L=some v->E8 Fy v=true) (u:∀i o,¬i<64->Sx i J.H=some o->Hn Fy o=true)
  (hp:∀l I v x S,Ext true f.L O s l I->Rel c l f.L (As J (S++hi J.H)) I->RV c.Aa c.w l v x->k x S->Q v I):wpAny (model c.Aa c.w) A (eval (.Call (.Attribute o nm apos) [] [] pos) f.env) Q Bl s:=by
 have hr:Row c g f d .nil (([]:List WE)++([]:List WI).map (·.value)):=.nil;have F:Mc p []=some []:=rfl;rw[arm_eval_Call _ _ _ _ _ _ _,cQ hb, ←hn];show Zn (ho O J s A (λv s=>v=.ob i/\s=J) _ r rm (hw _ ⟨rfl,rfl⟩) λgh₁ m s₁ ov oa L t ho G=>?_);show zA G λz E=>?_;clear G;subst z E;show bY (fE Y pos f.env F) λa1 a2 a3 a4=>?_;have B:methodCallForm (([]:List WE).length+([]:List WI).length) (backTo pos (starEach [] f.env)) (backToKw pos (keywordEach [] f.env))=true:=by
  rw[a1];rfl
 have M:methodCallPos true o f.env apos pos=pure pos:=by unfold methodCallPos;simp[w]
 unfold methodCall;show B▸(Zn (Yz (Zn (ZY (mo Y.X YG t ho hm λgh₂ s₂ fv first N D hmr=>Zn (X7 M ?_))))));have e:((backTo pos (starEach [] f.env)).any (·.1)||(backToKw pos (keywordEach [] f.env)).any (·.1.isNone))=false:=by(show(a6 pos f.env hr.cZ).symm▸ ?_;show a2.symm▸ ?_);rfl
 obtain⟨rfl,q,a,ft,rfl,k1,k2⟩:=hmr;show callWith_of (P:=λh=>MethP K q fa (.ref a) h/\fnIn K fa=true) e (λh u=>keeps_M u.2 h u.1) (bS (k:=λvs s=>vs=[]/\s=m) Y F hr D rm (show SU g .nil m _ from⟨rfl,rfl⟩) λZ H j vs xs hlen U b T F=>⟨⟨⟨b.Av _ _ (U.le.F _ _ k1),Y.X.keeps b.bN⟩,YG.fn _ hfn⟩,?_⟩);show zA F λz E=>?_;subst z E;cases T;show XI (method_call (b.Av _ _ (U.le.F _ _ k1)) (zE (U.le.φ i a ft k2 λx=>a7 x) λft' k3=>?_));have:=C f.L.all Z.low (lo H.H) j A [.ref a] [.ob i] [] k (H0 Q) (b.toC hl) (.cons (((aU a ft' (gQ R k3) rfl):RV c.Aa c.w Z.low (.ref a) (.ob i))) .nil) rm.toRoom W λl I v y S x r' hv' F=>?_
 ·rw[aR]at this⊢;show this
 ·show cu (b.afh x r' (λuu=>hv) λuu=>u) λr2 x2 l2=>hp _ I v y S (((L.trans r t N).trans r D U).trans r b x2) r2 (hv'.mono l2) F
end
section
open Mine.B Mine.Head
def OC(c:Cx)(f:Fm)(A:Wz)(y:WE)(body:List WG)(v:Wv)(s:Ww)(B2:Ww->Prop):Prop:=
 wpAny (model c.Aa c.w) A (assign y f.env v) (λZ P=>wpAny (model c.Aa c.w) A (execs body f.env) (λu j=>match u with
  | .next| .cont=>B2 j
  |_=>False) Bl P) Bl s
def YP(c:Cx)(f:Fm)(A:Wz)(y:WE)(body:List WG)(ag gi:Nat):Protocol:=λZ Z v a d=>
 ∀l,OC c f A y body v (a.setGen gi l) λg=>g.gens[gi]? =some l/\g.heap.IsGen ag gi/\g.heap.NoLimit/\d (.send .none) (g.setGen gi .running)
def K5(Fin:Ww->Prop):GenEnd:=λZ Z r l=>r=.ok (.ret .none)/\Fin l
structure Ha (w:Wy) (mg mb:Wu->TM) (f:Fm) (A:Wz) (nm:Wu) (body:List WG):Prop where
 T:TopRead pw Sy mg mb (H1 w.params)
 rm:Ay f.L 30 A
 RG:Hu f nm
 FQ:f.vl=true
 hc:SY.code nm=some 312
 hb:SB (Ai w) SR f 17 Fd body
def nN(T:TopRead pw Sy mg mb (H1 w.params)):CV (Ai w) SR (K w.params) SY Sy mg mb 16:=cv T λp j=>(fh T p j).mono (by ext)
section
variable {w:Wy}{mg mb:Wu->TM}{f:Fm}{A:Wz}{nm:Wu}{pos:Pos}{body:List WG}{gh₀:Gh}{s₀:Ww}{L₀:Tw}{ro Cg ag gi:Nat}{XX:Tx}{Fin:Ww->Prop}
 {O gh':Gh} {H H':Tx} {m m':Nat} {LL:Tw} {row row':Tz} {J J':Sm} {t t':Tm} {s s':Ww}
def j1{Lc:Loc}(N:Ha w mg mb f A nm body)(B:Ia (Ai w) f.L gh₀ s₀ L₀ ro XX Lc ag gi)(g:GI (Ai w) f.L gh₀ s₀ L₀ ro XX Lc ag gi O H m LL row J t s)(x:RF (Ai w).Aa (Ai w).w O.F v y)(G:Gk y)(C:0<=J.off/\J.off<2 ^ 63)(u:row.length<=20000)
  (j:∀s',Mo (Ai w) f.L gh₀ s₀ L₀ ro XX Lc ag gi (row++[.tup [y,Cz J]]) J {t with state:=Sq t.state y} s'->d (.send .none) s'):YP (Ai w) f A (.Name nm pos) body ag gi n sx v s d:=by
 intro l;have g1:=g.setGen B l;show eC (ctx N.T) N.RG N.hc O _ _ v y _ _ g1.r x rfl λZ E k=>?_;show N.hb O _ Z A (λp st=>p=.AZ/\∃H',st=⟨put 312 (.c y) LL,H',m,false⟩/\HA XX H' m ro (row++[.tup [y,Cz J]]) J {t with state:=Sq t.state y}) _ k (N.rm.mono (by ext)) ?_ λgh' J' s' a b F o i D=>?_
 ·show w6 g1.ha G ((ao 177 312 _ _).trans ((Zi (by ext)).trans g1.lr)) ((ao 312 312 _ _).trans (Zk rfl)) ((ao 316 312 _ _).trans ((Zi (by ext)).trans g1.lt)) C (by lia) λH' h=>⟨rfl,aO H' rfl h⟩
 ·show eX D λc H' P Q=>?_;clear D;subst c P i;have z:Ext true f.L O (s.setGen gi l) gh' s':=by
   rw[←N.FQ];show E.trans g1.r k F
  show zA (oU z g1.gen (λq=>B.aL q.has) g1.PY) λU r=>⟨z.gens.old _ _ (pR g.Mv l),U,N.T.nolimit.keeps o.bN,j _ (bR gh' H' m (put 312 (.c y) LL) ?_)⟩
  show GI.setGen B ⟨o,g1.fr.step B.ab z,Ext.trans' (g1.r.setGen _ _) g1.E (z.held g1.Mv rfl),Q,?_,?_,λn v e=>?_,λn j=>?_,U,r,oS z g1.Mv⟩ .running
  ·show(ao 177 312 _ _).trans ((Zi (by ext)).trans g1.lr)
  ·show(ao 316 312 _ _).trans ((Zi (by ext)).trans g1.lt)
  ·rw[ao]at e;split at e
   ·obtain rfl:=Zf e;rfl
   ·show g1.l3 n v e
  ·show(ao n 312 _ _).trans ((Zi j).trans (g1.ll n j))
abbrev fG(w:Wy)(Cg:Nat)(U:List WD):Fm:= {De (fd w.params 268) Cg 268 U true (eV w (a:=268) rfl).kind (eV w (a:=268) rfl).glob (eV w (a:=268) rfl).blt (eV w (a:=268) rfl).cell with tp:=none}
def tG(w:Wy)(Cg:Nat)(U:List WD):interactive (fG w Cg U).env=false:=by left
def g7(w:Wy)(Cg:Nat)(U:List WD):(fG w Cg U).env.scope.kind≠ .module/\(fG w Cg U).env.frame=some (fG w Cg U).L.ns:=⟨(by rw[(fG w Cg U).kind];show λz=>(nomatch z)),rfl⟩
end
section
variable {w:Wy}{mg mb:Wu->TM}{f:Fm}{A:Wz}{nm:Wu}{pos:Pos}{body:List WG}{gh₀:Gh}{s₀:Ww}{L₀:Tw}{ro Cg ag gi:Nat}{XX:Tx}{U:List WD}{Fin:Ww->Prop}
 {O gh':Gh} {H H':Tx} {m m':Nat} {LL:Tw} {row row':Tz} {J J':Sm} {t t':Tm} {s s':Ww}
abbrev tE(x:FV):FV:=.An [(Dp,.int 7),(Cq,x)]
abbrev yS(s:WG):WG:=.Expr (.Yield (some (Kv (Ib s))) (Qy (Ib s))) (QC (Ib s))
abbrev wC(w:Wy)(Cg:Nat)(U:List WD)(s:WG):Code:=.whileLoop (Hb s) [yS s] [] (fG w Cg U).env
def ke(T:TopRead pw Sy mg mb (H1 w.params))(Cg:Nat)(U:List WD)(h:Mu w.params e=x):SE (Ai w) SR (fG w Cg U) 17 x e/\ST (Ai w) SR (fG w Cg U) 17 x e:=by
 have:=(bU (nN T) 50).1 (fG w Cg U) e;rw[show cE SY (fG w Cg U).cs 50 e=x from h]at this;show this
structure Wd (w:Wy) (Cg:Nat) (U:List WD) (oW:WE) (sE sQ:WG):Prop where
 t:SE (Ai w) SR (fG w Cg U) 17 (X.loc 292) oW
 e:ST (Ai w) SR (fG w Cg U) 17 xE (Hb sE)
 ey:SE (Ai w) SR (fG w Cg U) 17 OI (Kv (Ib sE))
 q:ST (Ai w) SR (fG w Cg U) 17 xQ (Hb sQ)
 qy:SE (Ai w) SR (fG w Cg U) 17 OG (Kv (Ib sQ))
abbrev OE(w:Wy)(Cg:Nat)(U:List WD)(x:X)(e:WE):Prop:=SE (Ai w) SR (fG w Cg U) 17 x e/\ST (Ai w) SR (fG w Cg U) 17 x e
def ab8(b:OE w Cg U (X.loc 292) oW)(N:OE w Cg U xE (Hb sE))(D:OE w Cg U OI (Kv (Ib sE)))(a:OE w Cg U xQ (Hb sQ))(Q:OE w Cg U OG (Kv (Ib sQ))):Wd w Cg U oW sE sQ:=⟨b.1,N.2,D.1,a.2,Q.1⟩
def ab7(T:TopRead pw Sy mg mb (H1 w.params))(Cg:Nat)(U:List WD):Wd w Cg U (MK w.params) (NQ w.params) (NP w.params):=
 have h:=adj w.params
 ab8 (ke T Cg U (T3 (λp=>p.1) h)) (ke T Cg U (T3 (λp=>p.2.1) h)) (ke T Cg U (T3 (λp=>p.2.2.2.1) h)) (ke T Cg U (T3 (λp=>p.2.2.1) h)) (ke T Cg U (T3 (λp=>p.2.2.2.2.1) h))
variable {oW:WE}{sE sQ:WG}
def acj:Gk (tE x):=⟨a8 _ 7 rfl rfl λq=>T4 q (by ext)⟩
def acF(N:Ha w mg mb f A nm body)(D:Wd w Cg U oW sE sQ)(B:Ia (Ai w) f.L gh₀ s₀ L₀ ro XX (fG w Cg U).L ag gi)(u:FK (fG w Cg U).env fs){n2:Nat}:∀(a:Tz) (J:Sm) (n:Nat) (c s:Ww) (O:Gh) (H:Tx) (m:Nat) (LL:Tw) (row:Tz),
  GI (Ai w) f.L gh₀ s₀ L₀ ro XX (fG w Cg U).L ag gi O H m LL row {J with AH:=a} t s->(0<=J.off/\J.off<2 ^ 63)->a.length+n2<=n->row.length+a.length<=20000->
  (∀l c s',n2<=l->Mo (Ai w) f.L gh₀ s₀ L₀ ro XX (fG w Cg U).L ag gi (row++a.map λx=>.tup [tE x,Cz J]) {J with AH:=[]} t s'->Seg (model (Ai w).Aa (Ai w).w) A.in1 (K5 Fin) (YP (Ai w) f A (.Name nm pos) body ag gi) l c (wC w Cg U sE) (.pure (.done .next)) fs s')->
  Seg (model (Ai w).Aa (Ai w).w) A.in1 (K5 Fin) (YP (Ai w) f A (.Name nm pos) body ag gi) n c (wC w Cg U sE) ((model (Ai w).Aa (Ai w).w).den (wC w Cg U sE)) fs s
 |a,J,n,c,s,O,H,m,LL,row,g,ho,hn,hr,hend=>by
  show cu (@vd (Hb sE) [yS sE] [] (fG w Cg U).env) λr G R=>?_;have S:Ay (fG w Cg U).L 17 (A.in1.over (wC w Cg U sE) fs):=d4 B.ab (g7 w Cg U) rfl (N.rm.mono (by ext)) u (by rw[r];decide) (by rw[G];decide) (R _);show seg_whileLoop (ZT (D.e O _ s _ (λb st=>b=BE a/\st=⟨Lg,H,m,false⟩) _ (g.wake B) S (afx g.ha ⟨rfl,rfl⟩) λgh' J' s' b x' r' e=>?_) (λZ Z h=>h) λZ Z h=>h.elim);show zA e λz Q=>?_;subst z Q;have P:=g.step B x' r' g.ha;cases a with
  |nil=>
   rw[Zi (by ext)];show XZ (hend n c s' (by simpa using hn) ?_);rw[Zu];show(bR gh' H m LL P)
  |cons x a=>
   rw[Zk (rfl)];rw[Zj]at hn hr;obtain⟨n,rfl⟩:∃k,n=k+1:=(yE (n-1) ((Nat.sub_add_cancel (Zh (Z0 1 _) (ZK hn))).symm))
   show Wc (seg_Expr_Yield u.sp rfl u.gu ?_ (eV w rfl).co (tG w Cg U));show ZT (D.ey gh' _ s' _ (λv st=>∃H',v=.ob m/\st=⟨Lg,H',m+1,false⟩/\HA XX H' (m+1) ro row {J with AH:=a} t/\Sx m H'=some (.An [(Dp,.c (.int 7)),(Cq,.c x)])) _ (P.wake B) S (adR P.ha λH' L E=>(aY H' rfl rfl L E)) λT J2 s2 v y W r2 hv e=>?_) (λZ Z h=>h) λZ Z h=>h.elim;show bO e λH' Q F ha C=>?_;clear e;subst Q F;have M:Av H' (.ob m)=some (tE x,put m (.Av (tE x)) H'):=by
    change Af (Sx m H') _=_;rw[C];rfl
   show bM (eI r2 hv M) λgh3 x3 r3 rf=>?_;have h64:=g.ha.Ie;have hlt:=g.ha.rm;intro kap d;show j1 N B (P.step B (Ext.trans' r2 W x3) r3 (ha.other (by lia) (by lia) (λp hp=>Z3 (P.ha.ex p hp).2.1) rfl)) rf acj ho (by lia) λq qq=>bu qq λI X Y i j=>d .none q (XZ (seg_again rfl (acF N D B u a J n q q I X Y i (row++[.tup [tE x,Cz J]]) j ho (by lia) (by rw[Zg,Zj,ZW];lia) λl o s' L E=>hend l o s' L ?_)));rw[Ye, ←List.singleton_append, ←Zo];show E
def acD(N:Ha w mg mb f A nm body)(D:Wd w Cg U oW sE sQ)(B:Ia (Ai w) f.L gh₀ s₀ L₀ ro XX (fG w Cg U).L ag gi)(u:FK (fG w Cg U).env fs){n2:Nat}{tb:TK}(R:0<=J.off/\J.off<2 ^ 63):∀(q:Tz) (S n:Nat) (a s:Ww) (O:Gh) (H:Tx) (m:Nat) (LL:Tw) (row:Tz),
  GI (Ai w) f.L gh₀ s₀ L₀ ro XX (fG w Cg U).L ag gi O H m LL row J ⟨S,ct,some q,tb⟩ s->(∀y∈q,Gk y)->q.length+n2<=n->row.length+q.length<=20000->
  (∀l a s',n2<=l->Mo (Ai w) f.L gh₀ s₀ L₀ ro XX (fG w Cg U).L ag gi (row++q.map λy=>.tup [y,Cz J]) J ⟨q.foldl Sq S,ct,some [],tb⟩ s'->Seg (model (Ai w).Aa (Ai w).w) A.in1 (K5 Fin) (YP (Ai w) f A (.Name nm pos) body ag gi) l a (wC w Cg U sQ) (.pure (.done .next)) fs s')->
  Seg (model (Ai w).Aa (Ai w).w) A.in1 (K5 Fin) (YP (Ai w) f A (.Name nm pos) body ag gi) n a (wC w Cg U sQ) ((model (Ai w).Aa (Ai w).w).den (wC w Cg U sQ)) fs s
 |q,e,n,a,s,O,H,m,LL,row,g,SG,hn,hr,hend=>by
  show cu (@vd (Hb sQ) [yS sQ] [] (fG w Cg U).env) λr E L=>?_;have M:Ay (fG w Cg U).L 17 (A.in1.over (wC w Cg U sQ) fs):=d4 B.ab (g7 w Cg U) rfl (N.rm.mono (by ext)) u (by rw[r];decide) (by rw[E];decide) (L _);show seg_whileLoop (ZT (D.q O _ s _ (λb e=>b=BE q/\e=⟨Lg,H,m,false⟩) _ (g.wake B) M (afw g.ha ⟨rfl,rfl⟩) λgh' J' s' b x' r' c=>?_) (λZ Z h=>h) λZ Z h=>h.elim);show zA c λz Q=>?_;subst z Q;have P:=g.step B x' r' g.ha;cases q with
  |nil=>
   rw[Zi (by ext)];show XZ (hend n a s' (by simpa using hn) ?_);rw[Zu];show(bR gh' H m LL P)
  |cons x q=>
   rw[Zk (rfl)];rw[Zj]at hn hr;obtain⟨n,rfl⟩:∃k,n=k+1:=(yE (n-1) ((Nat.sub_add_cancel (Zh (Z0 1 _) (ZK hn))).symm))
   show Wc (seg_Expr_Yield u.sp rfl u.gu ?_ (eV w rfl).co (tG w Cg U));show ZT (D.qy gh' _ s' _ (λv G=>∃H',v=.c x/\G=⟨Lg,H',m,false⟩/\HA XX H' m ro row J ⟨e,ct,some q,tb⟩) _ (P.wake B) M (adQ P.ha λH' I=>(ck H' rfl rfl I)) λT J2 s2 v y W r2 hv c=>?_) (λZ Z h=>h) λZ Z h=>h.elim;show bM c λH' Q C ha=>?_;clear c;subst Q C;intro kap d;show j1 N B (P.step B W r2 ha) hv (SG x (.head _)) R (by lia) λp qq=>bu qq λF Y m4 i j=>d .none p (XZ (seg_again rfl (acD N D B u R q (Sq e x) n p p F Y m4 i (row++[.tup [x,Cz J]]) j (λy hy=>SG y (.tail _ hy)) (by lia) (by rw[Zg,Zj,ZW];lia) λl o s' I X=>hend l o s' I ?_)));rw[Ye, ←List.singleton_append, ←Zo];show X
end
def pfn(h:Sx u C8=some p):SR.fn u=true:=by
 show Zd (show(C8.all λp=>Dy.any (beq p.1))=true by rfl) _ (fD h)
theorem View.AH(h:View J d r e m):J.AH=List.replicate e SF:=by show bu h λp o g b h=>?_;show h.AH
def sT(h:AV l=[]):l=[]:=Y0 λq=>jh q h
def View.done(h:View J d [] e m):m=0:=by
 show bu h λp o g b h=>?_;rw[h.mm,sT (Xy.mp h.rr.symm).2];rfl
def View.aaq(h:View J d r e m):View {J with AH:=[]} d r 0 m:=by
 show bu h λp o g b h=>(bR p o g b ⟨h.place,h.pr,h.off,h.size,h.oc,h.buf,h.dd,h.rr,h.pl,h.pc,h.mm,rfl,h.raw,h.cut,by have:=h.em;lia,h.dr⟩)
def G0(l:WJ):FV:=.tup [.int (EG l+1),.int (EM l)]
def CI(A:WJ)(T:List (FV×Nat)):Tz:=T.map λp=>.tup [p.1,G0 (A.take p.2)]
theorem View.Cz(h:View J d r e m):Cz J=G0 d:=by unfold Mine.A.Cz;rw[h.aab];rfl
section
variable {w:Wy}{mg mb:Wu->TM}{f:Fm}{A:Wz}{nm:Wu}{pos:Pos}{body:List WG}{gh₀:Gh}{s₀:Ww}{L₀:Tw}{ro Cg ag gi:Nat}{XX:Tx}{U:List WD}{Fin:Ww->Prop}
 {O gh':Gh} {H H':Tx} {m m':Nat} {LL:Tw} {row row':Tz} {J J':Sm} {t t':Tm} {s s':Ww} {oW:WE} {sE sQ:WG} {xn:Wu} {ap cp':Pos}
def acn(T:TopRead pw Sy mg mb (H1 w.params))(D:Wd w Cg U oW sE sQ)(y:Mine.B.nm 302=xn/\AU oW=true/\(ap.endLine==cp'.line)=true)(B:Ia (Ai w) f.L gh₀ s₀ L₀ ro XX (fG w Cg U).L ag gi)(G:Ay (fG w Cg U).L 17 P){tb:TK}{p:PE}
  (g:GI (Ai w) f.L gh₀ s₀ L₀ ro XX (fG w Cg U).L ag gi O H m LL row J ⟨sn,ct,some [],tb⟩ s) (C:Sx sn C8=some p) (E:p.2.1 ct tb r) (L:p.1 ct tb r=o) (v:View J d r e n)
  (h:∀gh' s' J' a l H',a+l=e+n->(p.2.2=true->J.off=J.size->l=0)->l<=n->View J' (d++o.x) o.r a l->GI (Ai w) f.L gh₀ s₀ L₀ ro XX (fG w Cg U).L ag gi gh' H' m LL row J' ⟨o.st,o.ct,some o.q,o.tb⟩ s'->Q o.cont s'):
  wpAny (model (Ai w).Aa (Ai w).w) P (isTrue (.Call (.Attribute oW xn ap) [] [] cp') (fG w Cg U).env (eval (.Call (.Attribute oW xn ap) [] [] cp') (fG w Cg U).env)) Q Bl s:=by
 have S:=nN T;subst L;show wpAny_isTrue_value (si (n:=302) (k:=λv H'=>∃J' a l,v=.c (.Ae (p.1 ct tb r).cont)/\H'=Hp J' ⟨(p.1 ct tb r).st,(p.1 ct tb r).ct,some (p.1 ct tb r).q,(p.1 ct tb r).tb⟩/\a+l=e+n/\(p.2.2=true->J.off=J.size->l=0)/\l<=n/\View J' (d++(p.1 ct tb r).x) (p.1 ct tb r).r a l)
  S.Y S.YG y.2.1 y.2.2 y.1 D.t (pfn C) (g.wake B) G (λX h=>aa rfl h) ?_ (by ext) ((pZ T C).mono (by ext)) ?_ ?_ (λn v e=>?_) g.ha.n3 λj R V W H1 F q M z=>?_) rfl
 ·change Af (Sx 1 H) _=_;rw[lG g.ha];rfl
 ·rw[g.ha.lo];show yH _ _
 ·rw[g.ha.lo];show(bk J ct tb d r e n rfl rfl rfl v E λJ' a l N u i c=>(cF J' a l rfl rfl N i u c))
 ·rw[aq]at e;split at e
  ·obtain rfl:=Zf e;rfl
  ·show aw e
 ·show eD z λJ' a l b x N i u c=>?_;clear z;subst b x;show dD q M rfl λZ I=>h j _ J' a l _ N i u c (g.step B (F.trans (g.wake B) q (.toks false Z)).o (q.toks I) g.ha.call)
abbrev oC(w:Wy)(Cg:Nat)(U:List WD)(oW:WE)(xn:Wu)(ap cp':Pos)(sE sQ:WG):Code:=.whileLoop (.Call (.Attribute oW xn ap) [] [] cp') [It sE,It sQ] [] (fG w Cg U).env
def ae0(N:Ha w mg mb f A nm body)(D:Wd w Cg U oW sE sQ)(hW:Mine.B.nm 302=xn/\AU oW=true/\(ap.endLine==cp'.line)=true)(B:Ia (Ai w) f.L gh₀ s₀ L₀ ro XX (fG w Cg U).L ag gi)(G:FK (fG w Cg U).env fs)(R:frameCount (fs.map Frame.where_)<=2){Good:Tz->Prop}
  (M:∀c F s' row J' t',Mo (Ai w) f.L gh₀ s₀ L₀ ro XX (fG w Cg U).L ag gi row J' t' s'->(∃a c,View J' dA [] a c)->Good row->Seg (model (Ai w).Aa (Ai w).w) A.in1 (K5 Fin) (YP (Ai w) f A (.Name nm pos) body ag gi) c F (oC w Cg U oW xn ap cp' sE sQ) (.pure (.done .next)) fs s'):
  ∀ {L:Ct} {I:Nat} {S:TK} {E:Nat} {r:WJ} {q:List (FV×Nat)},Eg L I S E r q->∀(n:Nat) (F s:Ww) (O:Gh) (H:Tx) (m:Nat) (LL:Tw) (row:Tz) (J:Sm) (d:WJ) (k:Nat),
   GI (Ai w) f.L gh₀ s₀ L₀ ro XX (fG w Cg U).L ag gi O H m LL row J ⟨I,L,some [],S⟩ s->View J d r 0 k->(k=0\/I=304/\J.off=J.size)->q.length+k<=n->row.length+(q.length+k)<=20000->d.length=E->d++r=dA->(∀pv,Good (row++List.replicate k (.tup [CG,pv])++CI dA q))->
   Seg (model (Ai w).Aa (Ai w).w) A.in1 (K5 Fin) (YP (Ai w) f A (.Name nm pos) body ag gi) n F (oC w Cg U oW xn ap cp' sE sQ) ((model (Ai w).Aa (Ai w).w).den (oC w Cg U oW xn ap cp' sE sQ)) fs s:=by
 intro L I S E r q hT;induction hT with
 | @stop L I S E p o h1 W h3 h4 Y h6=>
  intro n F s O H m LL row J d k g v hz hn hr hd i hG;show cu (@vd (.Call (.Attribute oW xn ap) [] [] cp') [It sE,It sQ] [] (fG w Cg U).env) λu j Z=>?_;show seg_whileLoop (ZT (acn N.T D hW B (show Ay (fG w Cg U).L 17 (A.in1.over (oC w Cg U oW xn ap cp' sE sQ) fs) from d4 B.ab (g7 w Cg U) rfl (N.rm.mono (by ext)) G (by rw[u];decide) (by rw[j];decide) (Z _)) g h1 W h3 v (Q:=λb s'=>b=false/\∃J' t',Mo (Ai w) f.L gh₀ s₀ L₀ ro XX (fG w Cg U).L ag gi row J' t' s'/\∃a c,View J' dA [] a c) λgh' s' J' a c H' a1 X a2 P C=>?_) (λb s' hb=>?_) λuu uu h=>h.elim)
  ·rw[Y,h6,Zu]at P;rw[Zu]at i;show⟨h4,J',_,bR gh' H' m LL C,a,c,i▸P⟩
  ·obtain⟨rfl,J',t',C,P⟩:=hb;rw[Zi (by ext)];show XZ (M n F s' row J' t' C P ?_);have:=hG .Ak;rw[v.done]at this;rw[show row++List.replicate 0 (.tup [CG,.Ak])++CI dA []=row by simp[CI]]at this;show this
 | @go L I S E r q p o h1 W h3 h4 Y h6 hT ih=>
  intro n F s O H m LL row J d k g v hz hn hr hd i hG;show cu (@vd (.Call (.Attribute oW xn ap) [] [] cp') [It sE,It sQ] [] (fG w Cg U).env) λu j Z=>?_;show seg_whileLoop (ZT (acn N.T D hW B (show Ay (fG w Cg U).L 17 (A.in1.over (oC w Cg U oW xn ap cp' sE sQ) fs) from d4 B.ab (g7 w Cg U) rfl (N.rm.mono (by ext)) G (by rw[u];decide) (by rw[j];decide) (Z _)) g h1 W h3 v (Q:=λb s'=>b=true/\∃gh' H' l a c,GI (Ai w) f.L gh₀ s₀ L₀ ro XX (fG w Cg U).L ag gi gh' H' m LL row l ⟨o.st,o.ct,some o.q,o.tb⟩ s'/\View l (d++o.x) o.r a c/\a+c=0+k/\(p.2.2=true->J.off=J.size->c=0)/\c<=k) λgh' s' l a c H' a1 X a2 P C=>⟨h4,gh',H',l,a,c,C,P,a1,X,a2⟩) (λb s' hb=>?_) λuu uu h=>h.elim);obtain⟨rfl,gh',H',l,a,c,C,P,a1,X,a2⟩:=hb;have hn0:c=0:=hz.elim (λz=>by lia) λz=>by
   obtain⟨rfl,z⟩:=z;clear W h3;obtain rfl:=Zf ((rfl).symm.trans h1);show X rfl z
  subst hn0;obtain rfl:a=k:=by lia
  rw[←(show {l with AH:=List.replicate a SF}=l by rw[←P.AH])]at C;have ho:0<=l.off/\l.off<2 ^ 63:=by have:=P.dJ;show⟨this.1,Int.lt_of_le_of_lt this.2.1 this.2.2.2⟩
  rw[Zg,ZD]at hn hr;have T:((List.replicate a SF).map λx=>FV.tup [tE x,Cz l])=List.replicate a (.tup [CG,Cz l]):=by rw[List.map_replicate];rfl
  rw[Zk (rfl)];show Wc (seg_While λp=>acF N D B (G.push (by rw[u];show R) (by rw[j];show G.un) (Z _)) (n2:=o.q.length+q.length) (List.replicate a SF) l n F s' gh' H' m LL row C ho (by rw[Yd];lia) (by rw[Yd];show Zh (ZH (Z0 _ _) _) hr) λn1 sx1 s1 hn1 qq=>bu qq λgh1 H1 m1 LL1 g1=>seg_leaf (.ok .next) ?_);change Seg _ _ _ _ _ _ _ ((execs [It sQ] (fG w Cg U).env).wrap _ _ _ _) _ _;show Wc (seg_While λp=>?_);rw[T]at g1;show acD N D B (G.push (by rw[u];show R) (by rw[j];show G.un) (Z _)) (n2:=q.length) (J:= {l with AH:=[]}) ho o.q o.st n1 sx1 s1 gh1 H1 m1 LL1 _ g1 h6 hn1 (by rw[Zg,Yd];lia) λn3 sx3 s3 hn3 qq=>bu qq λgh3 H3 m3 LL3 g3=>seg_leaf (.ok .next) ?_;change Seg _ _ _ _ _ _ _ ((execs [] (fG w Cg U).env).wrap _ _ _ _) _ _;show XZ (seg_again rfl (ih n3 sx3 s3 gh3 H3 m3 LL3 _ {l with AH:=[]} (d++o.x) 0 g3 P.aaq (.inl rfl) (by show String.Pos.Raw.mk_le_mk.mp hn3) ?_ (by rw[Zg,hd]) ?_ λpv=>?_))
  ·rw[Zg,Zg,ZD,Yd];lia
  ·rw[Zo,Y];show i
  ·have:=hG (Cz l);have e:row++List.replicate a (.tup [CG,Cz l])++CI dA ((o.q.map λy=>(y,E+o.x.length))++q)=row++List.replicate a (.tup [CG,Cz l])++(o.q.map λy=>.tup [y,Cz {l with AH:=[]}])++List.replicate 0 (.tup [CG,pv])++CI dA q:=by
    have hp:Cz {l with AH:=[]}=G0 (dA.take (E+o.x.length)):=by
     have e1:dA.take (E+o.x.length)=d++o.x:=by
      rw[←i, ←Y, ←Zo, ←hd, ←Zg,We]
     rw[e1];show P.Cz
    rw[hp];unfold CI;rw[Z7,Y9,List.replicate_zero,Zu,Zo,Zo,Zo];rfl
   rw[e]at this;show this
end
def I1(v:TA)(s:St)(k:TB):Prop:=v=[.ob 1]/\∃J d r n Q,∃z:Tx,∃g,(∀p∈z,64<=p.1/\p.1≠Q/\Sx p.1 s.H=some p.2)/\s.vl=false/\Sx 177 s.L=some (.ob Q)/\Sx 316 s.L=some (.ob 1)/\(∀n v,Sx n s.L=some v->E8 Fy v=true)/\N3 s.H/\64<=Q/\Sx Q s.H=some (.lst [])/\lo s.H=Hp J ⟨304,.no,none,none⟩/\View J d r 0 n/\J.off=J.size/\
 Eg .no 304 none d.length r g/\g.length+n<=20000/\
 ∀y j Z e b a,View Z (d++r) [] b a->j.vl=false->(∀n,n≠312->Sx n j.L=Sx n s.L)->(∀i o,Sx i j.H=some o->i<j.m)->(∀p∈z,Sx p.1 j.H=some p.2)->Sx Q j.H=some (.lst (List.replicate n (.tup [CG,y])++CI (d++r) g))->lo j.H=Hp Z e->k .AZ j
section
variable {c:Cx}{O:Gh}{L:Loc}{J:St}{s:Ww}
def Rel.grow(r:Rel c O L J s){a:Nat}(N:0<a)(i:∀b o,s.heap.get? b=some o->l.get? b=some o):Rel c O L J {s with heap:=l,toks:=a,gens:=z}:=by
 have D:=r.turn (fp:=[]) (wr:=[]) N ⟨λZ h=>(nomatch h),λZ h=>(nomatch h)⟩ (λZ h=>(nomatch h)) λb o Z e=>i b o e;show⟨D.Av,D.obs,D.sep,D.off,D.nL,D.loc,D.new,D.DY,D.CZ,D.base,D.Lb,D.tk⟩
def Ext.grow(x:Ext b L g j P s)(D:∀b o,s.heap.get? b=some o->l.get? b=some o)(Q:GK j.gens z):Ext b L g j P {s with heap:=l,toks:=Z,gens:=z}:=
 ⟨x.le,λy o e h N=>D _ _ (x.keep y o e h N),x.EN.trans (.of λa a o e=>D _ o e),x.fp,x.fF,Q,x.os,x.drawn⟩
end
section
variable {w:Wy}{mg mb:Wu->TM}{f:Fm}{A:Wz}{nm:Wu}{pos:Pos}{body:List WG}{U:List WD}
def rQ{O:Gh}(r:Rel c O L J s)(h:Sx i J.H=some o):i<J.m:=by
 show aX (r.obs i o h) λa ft e Z=>?_;rcases YT i J.m with z|z
 ·show z
 ·replace e:=(r.new i z)▸e;cases e
def ae1(N:Ha w mg mb f A nm body){E e D F:Nat}{z:Tx}{Fin:Ww->Prop}(B:Ia (Ai w) f.L l j L₀ E z (fG w e U).L D F){W d r:WJ}{y:Tz->Prop}{C:List (FV×Nat)}{O:Gh}
  (q:∀o i Z M,Mo (Ai w) f.L l j L₀ E z (fG w e U).L D F i Z M o->(∃e' n',View Z W [] e' n')->y i->Fin o)
  (g:GI (Ai w) f.L l j L₀ E z (fG w e U).L D F O H m LL [] J ⟨304,.no,none,none⟩ s) (hT:Eg .no 304 none d.length r C) (v:View J d r 0 k) (hz:J.off=J.size) (hn:C.length+k<=n) (hl:C.length+k<=20000) (hd:d++r=W) (hG:∀T,y (List.replicate k (.tup [CG,T])++CI W C)):
  Seg (model (Ai w).Aa (Ai w).w) A.in1 (K5 Fin) (YP (Ai w) f A (.Name nm pos) body D F) n sx (.func (Ap (fd w.params 268)) (fG w e U).env) ((model (Ai w).Aa (Ai w).w).den (.func (Ap (fd w.params 268)) (fG w e U).env)) [] s:=by
 show cu (@afu (Ap (fd w.params 268)) (fG w e U).env) λu t x=>?_;have rm:Ay (fG w e U).L 17 (A.in1.over (.func (Ap (fd w.params 268)) (fG w e U).env) []):=d4 B.ab (g7 w e U) rfl (N.rm.mono (by ext)) .nil (by rw[u];decide) (by rw[t];decide) x;show seg_func (zA (ar (adl w.params)) λc1 P=>zA (ar P) λc2 P=>zA (ar P) λc3 P=>zA (ar P) λc4 P=>zA (ar P) λc5 c6=>?_);have hS:SS (Ai w) SR (fG w e U) 17 (S.Bi (X.loc 292) 313 (X.lst X.nil)) (LJ w.params):=by
  have:=nK (nN N.T) 50 (fG w e U) rfl (LJ w.params) (Ze c4);rw[show cS SY (fG w e U).cs (50+1) (LJ w.params)=_ from T3 (λp=>p.2.2.2.2.2) (adj w.params)]at this;show this
 rw[(af (adk _) rfl:execs (Ap (fd w.params 268)) (fG w e U).env=execs [LJ w.params,.While (.Call (.Attribute (MK w.params) (Pe w.params) (Pd w.params)) [] [] (Pf w.params)) [It (NQ w.params),It (NP w.params)] [] (Ph (KU w.params))] (fG w e U).env)];show Wc (seg_wrap (ZT (hS O ⟨Lg,H,m,false⟩ s _ (λfl st'=>fl=.AZ/\∃Q,st'=⟨Lg,Q,m+1,false⟩/\HA z Q (m+1) E [] J ⟨304,.no,some [],none⟩) _ (g.wake B) rm (afy g.ha (λQ h=>⟨rfl,aO Q rfl h⟩) rfl) λI Z o a b x' r' Y hk=>?_) (λuu uu h=>h) λuu uu h=>h.elim));show eX hk λG Q R ha=>?_;clear hk;subst G R Y;have g':=g.step B x' r' ha;show Wc (seg_While λp=>ae0 N (ab7 N.T e U) ⟨afq _,c5,c6⟩ B (FK.push .nil (by rw[u];decide) (by rw[t];decide) x) (by rw[frameCount_cons,u];decide) (Good:=y) (λn' sx' o i Z M g1 g2 g3=>?_) hT n sx o I Q (m+1) LL [] J d k g' v (.inr ⟨rfl,hz⟩) hn (by simpa using hl) rfl hd λT=>by rw[YL];show hG T);show seg_leaf (.ok .next) ?_;change Seg _ _ _ _ _ _ _ ((execs [] (fG w e U).env).wrap _ _ _ _) _ _;show XZ (seg_end (.ok (.ret .none)) ⟨rfl,q o i Z M g1 g2 g3⟩)
def wA(N:Ha w mg mb f A nm body){O:Gh}{C:Tw}{HH:Tx}{mm Y W D a:Nat}{T:Tx}(r:Rel (Ai w) O f.L ⟨C,HH,mm,false⟩ s)(B:Ia (Ai w) f.L O s C Y T (fG w W U).L D a)
  {P:Sm} {d u:WJ} {m:Nat} {H:List (FV×Nat)} (g:GI (Ai w) f.L O s C Y T (fG w W U).L D a O HH mm C [] P ⟨304,.no,none,none⟩ s2)
  (hgs:s2.gens[a]? =some (.fresh (.func (Ap (fd w.params 268)) (fG w W U).env))) (t:View P d u 0 m) (hz:P.off=P.size) (hT:Eg .no 304 none d.length u H) (E:H.length+m<=20000) {k:TB} {Q:Flow->Ww->Prop} (hp:FW (Ai w) f.L O s k Q)
  (hk:∀x j Z z I m',View Z (d++u) [] I m'->j.vl=false->(∀n,n≠312->Sx n j.L=Sx n C)->(∀i o,Sx i j.H=some o->i<j.m)->(∀p∈T,Sx p.1 j.H=some p.2)->Sx Y j.H=some (.lst (List.replicate m (.tup [CG,x])++CI (d++u) H))->lo j.H=Hp Z z->k .AZ j) {Er:Wv->Ww->Prop}:
  codeAny (model (Ai w).Aa (Ai w).w) A (.forLoop (.Name nm pos) (.ref D) body [] f.env) (λr j=>match r with| .ok f=>Q f j| .error e=>Er e j) s2:=by
 have hh:=N.rm.hd;have M:A.depth<recursionLimit:=by have:=N.rm.Fs;omega
 let Fin:Ww->Prop:=λl=>∃y Z z,Mo (Ai w) f.L O s C Y T (fG w W U).L D a y Z z l/\(∃I n',View Z (d++u) [] I n')/\∃x,y=List.replicate m (.tup [CG,x])++CI (d++u) H
 show codeAny_forLoop (λn j=>∃gs,j.gens[a]? =some gs/\j.heap.IsGen D a/\j.heap.NoLimit/\gs.Goes (model (Ai w).Aa (Ai w).w) A.in1 (K5 Fin) (YP (Ai w) f A (.Name nm pos) body D a) n (.send .none) (j.setGen a .running)) (λn j hI=>?_) (H.length+m) (aY _ hgs g.gen (N.T.nolimit.keeps g.r.bN) ⟨rfl,?_⟩)
 ·show bO hI λgs e1 e2 e3 e4=>wpAny_pyNext_gen hh e3 M e2 e1 e4 (λv l b hy=>?_) λl hF h' R=>?_
  ·show ZT (hy b) (λuu s3 h3=>ZT h3 (λfl s4 X=>?_) λuu uu h=>h.elim) λuu uu h=>h.elim;cases fl with
   |next=>
    show bY X λq1 q2 q3 F=>?_;cases n with
    |zero=>show F.elim
    |succ n=>show(nr n (Z4 _) b q1 q2 q3 F)
   |cont=>
    show bY X λq1 q2 q3 F=>?_;cases n with
    |zero=>show F.elim
    |succ n=>show(nr n (Z4 _) b q1 q2 q3 F)
   |brk=>show X.elim
   |ret v=>show X.elim
  ·obtain⟨y,Z,z,⟨G,H1,m1,S,g1⟩,⟨I,n',v'⟩,x,ho⟩:=hF;have g2:=g1.setGen B .finished;show ZE ?_;have E2:Ext true f.L O s G (l.setGen a .finished):=by
    have:=g1.E.setGen B.g0 (q:=.finished) rfl;rw[eU]at this;show this
   show hp G ⟨S,H1,m1,false⟩ _ .next .AZ (by change Ext f.vl _ _ _ _ _;rw[N.FQ];show E2.grow R E2.gens) (g2.r.grow g2.r.tk R) rfl (hk x ⟨S,H1,m1,false⟩ Z z I n' v' rfl g1.ll (λi o e=>rQ g1.r e) (λp hp=>(g1.ha.ex p hp).2.2.2) (ho▸g1.ha.row) g1.ha.lo)
 ·have g1:=g.setGen B .running;show ae1 N B (λj y Z z h1 h2 h3=>(b4 y Z z h1 h2 h3)) g1 hT t hz (Zq _) E rfl λx=>(yE x rfl)
end
def uI{N:WA}{R:Result->Ww->Prop}{a:WD}{fd:FuncData}{body:List WG}{j:TO}
  (v:A.depth<recursionLimit) (i:s.heap.get? a=some o) (O:o.data=.func fd) (c:fd.scope.isCoroutine=false) (g:fd.scope.isGenerator=true) (d:fd.body=.stmts body) (z:s.heap.CodeRec fd.code fd.qualname)
  (P:bindArgs fd U=pure j) (l:∀x∈fd.scope.names,x.2≠ .cell) (Q:∀x∈j,fd.scope.names.lookup x.1=some .local) (D:fd.scope.kind=.function)
  (h:∀b,b.Ns s.heap.objs.size (λx=>j.reverse.lookup x)->Heap.SameBut s.heap.objs.size (s.heap.push {cls:=.type "frame",data:=.dict #[]}) b->b.NoLimit/\R (.ok (.ret (.ref b.objs.size)))
   {s with gens:=s.gens.push (.fresh (.func body (callEnv fd s.heap.objs.size a))),toks:=s.toks+j.length+1+1,heap:=b.push {cls:=.type "generator",data:=.fields #[.int s.gens.size 0,.str fd.name (s.toks+j.length),.str fd.qualname (s.toks+j.length+1)]}}):
  codeAny (model N w) A (.call (.ref a) U) R s:=
 codeAny_call_generator v i O c g d z (X7 P (wpAny_newFunctionEnv l Q (λb u e=>h b u e) D))
section
variable {w:Wy}{mg mb:Wu->TM}{f:Fm}{nm:Wu}{pos:Pos}{body:List WG}
def wz{SK:G}(hL:∀v s k,SK.loop 1398 v s k->I1 v s k)(T:TopRead pw Sy mg mb (H1 w.params))(hl:Hu f nm)(E:f.vl=true)(hc:SY.code nm=some 312)(hb:SB (Ai w) SR f 17 Fd body):G8 (Ai w) SK f 30 1398 (.Name nm pos) body:=by
 intro O J s A k Q v x r rm hv hlp j;obtain⟨P,Jm,d,r',m,ro,XX,Tk,Y,E,R,L,h3,hN3,h64,C,hlo,F,hz,hT,M,hk⟩:=hL _ _ _ hlp;cases P;obtain⟨LL,HH,mm,vl⟩:=J;subst E;show aX hv λa ft W zq3=>?_;clear hv;subst zq3;have ha:HA XX HH mm ro [] Jm ⟨304,.no,none,none⟩:=⟨hlo,C,h64,rQ r C,hN3,λp j=>⟨(Y p j).1,rQ r (Y p j).2.2,(Y p j).2.1,(Y p j).2.2⟩⟩
 show aX (r.obs 1 _ (lG ha)) λa' ft' n ho=>?_;replace n:=W▸n;cases n;show aK ho λdx es nn hft hne i1 i2 i3=>?_;show aA r.loc.nm λml Nl hml=>zA (ar (adl w.params)) λc1 U=>zA (ar U) λc2 U=>zA (ar U) λc3 Z=>?_;have hi:=Zm c3;have H:=eV w (a:=268) rfl;have X:=r.bN;show owit_iter (r.fr Nl) ((ctx T).X) (ju i1 i2) hi.1 hi.2 (XI (uI (by show YW rm.Fs) (X _ _ (bq w.params H.lt)) H.data H.co c1 H.body ?_ (afr w.params (.ref a)) H.cell ?_ H.kind λl u I=>⟨?_,?_⟩))
 ·show dY H.code λcc oc vs' t e1 e2 D e4=>(cI cc oc vs' t e1 (X _ _ e2) D e4)
 ·intro x P;obtain rfl:x=(Mine.B.nm 292,.ref a):=Za P;show Zm (Zd (ar c2).2 292 (.head _))
 ·show T.nolimit.keeps λb o e=>I.extBut b o (Z3 (Yk (X b o e))) (Zw _ (X b o e))
 ·have S:=λb o e=>I.extBut b o (Z3 (Yk e)) (Zw _ e);have hC:∃o,l.get? s.heap.objs.size=some o:=by
   show bC u λoL Z Z hL Z=>(yE oL hL)
  have V:=λq b o e=>Zw q (S b o e);have c:s.heap.get? l.objs.size=none:=by
   cases q:s.heap.get? l.objs.size with
   |none=>rfl
   |some o=>show T4 (Yk (S _ _ q)) (YA _)
  show cu r.fresh λf1 f2 f3=>?_;have hCA:s.heap.objs.size≠l.objs.size:=λq=>by show zE hC λo e=>?_;replace e:=q▸e;show T4 (Yk e) (YA _)
  have hLA:¬f.L.CN l.objs.size:=λq=>by show zE (r.there q) λo e=>?_;replace e:=c▸e;show aw e
  have hg0:∀(q:GenState),GK s.gens ((s.gens.push q).setIfInBounds s.gens.size .running):=λq=>⟨λi z e=>by
   have N:i<s.gens.size:=by
    rcases YT i s.gens.size with y|y
    ·show y
    ·replace e:=(Xe y)▸e;cases e
   rw[Yr,Zi (show¬s.gens.size=i by show Nat.ne_of_lt' N),Array.getElem?_push_lt N, ←e,Z6 N],λi z e=>by
   rcases gq e with ⟨_,rfl⟩|⟨h,e⟩
   ·show .inr rfl
   ·show .inl ?_;rw[Array.getElem?_push,Zi λq=>h q.symm]at e;show e⟩
  have B:Ia (Ai w) f.L O s LL ro XX (fG w s.heap.objs.size f.L.all).L l.objs.size s.gens.size:=⟨⟨rfl,rfl,f2,rfl⟩,show s.heap.get? s.heap.objs.size=none from aF (Zq _),c,hLA,λq=>hCA q.symm,show s.gens[s.gens.size]? =none from Xe (Zq _)⟩
  change OwitIt _ _ _ _ (.ref l.objs.size) _;have g:Heap.IsGen (l.push {cls:=.type "generator",data:=.fields #[.int s.gens.size 0,.str (fd w.params 268).name (s.toks+1),.str (fd w.params 268).qualname (s.toks+1+1)]}) l.objs.size s.gens.size:=(cg _ _ _ (ZL _ rfl) rfl rfl rfl)
  show wpAny_specialOf g.typeIs slot_gen_next.lookup (wA (show Ha w mg mb f A nm body from⟨T,rm,hl,E,hc,hb⟩) r B ⟨r.grow (YB _) (V _),⟨gE _ (fw u (av λo e=>Zw _ e)) a ft W ?_,f1,f3,Yo (Yb r.Lb (by show zE r.dT λo e=>?_;show Yk e))⟩,(Ext.refl _ _ _ _).grow (V _) (hg0 _),ha,R,L,h3,λZ Z=>rfl,g,λhf=>?_,?_⟩ ?_ F hz hT M j hk)
  ·change List.lookup (Mine.B.nm 292) [(Mine.B.nm 292,Value.ref a)]=_;rw[Xg,Xf]
  ·show cV (r.off _ hf) λZ Z o e=>?_;replace e:=c▸e;cases e
  ·change s.gens.size<(s.gens.push _).size;rw[Array.size_push];show Z4 _
  ·change(s.gens.push _)[s.gens.size]? =_;simp;rfl
end
end
section
open Mine.B
def Fb:S:=.seq (.ret (.An (.cons (.k (.str Dp)) (.cons (.sub (.BR Ad) (.k (.str Tf))) (.cons (.k (.str Cq)) (.cons (.loc 215) .nil)))))) .skip
def GR:Aq:=λu z H k=>∃x,u=[.c (.str x)]/\z=[]/\((lo H).all λp=>Dc p.2)=true/\k (.c (C2 x)) (lo H)
def ug(xs kws H k)(h:GR xs kws H k):Ab (Ah [215] xs kws) λN=>ex g0 Fb ⟨N,H,64,false⟩ (fin k):=by
 show bO h λx Q P D a=>?_;clear h;subst Q P
 conv=>whnf
 show aW D a
def Ex:S:=.seq (.ret (.An (.cons (.k (.str Dp)) (.cons (.sub (.BR Ad) (.Gi (.loc 115) (.k (.str Tb)) (.k (.str Qz)))) (.cons (.k (.str Cq)) (.cons (.loc 235) .nil)))))) .skip
abbrev Ju(b:Bool)(x:WJ):FV:=Bool.rec (BM x) (OK x) b
def Hh:Aq:=λu z H k=>∃x b,u=[.c (.str x),.c (.Ae b)]/\z=[]/\H=[]/\k (.c (Ju b x)) []
def xq(xs kws H k)(h:Hh xs kws H k):Ab (Ah [235,115] xs kws) λN=>ex g0 Ex ⟨N,H,64,false⟩ (fin k):=by
 show dZ h λx b P z j D=>?_;clear h;subst P z j;cases b<;>
 ·conv=>whnf
  show D
def PU:TG:=[(DC,.int 1),(Fi,.int 1),(DD,.int 2),(GS,.int 2),(Em,.int 3)]
def Ez:S:=.seq (.ret (.An (.cons (.k (.str DC)) (.cons (.k (.int 1)) (.cons (.k (.str Fi)) (.cons (.k (.int 1)) (.cons (.k (.str DD)) (.cons (.k (.int 2)) (.cons (.k (.str GS)) (.cons (.k (.int 2)) (.cons (.k (.str Em)) (.cons (.k (.int 3)) .nil)))))))))))) .skip
def Hg:Aq:=λu z H k=>u=[]/\z=[]/\H=[]/\k (.c (.An PU)) []
def xp(xs kws H k)(h:Hg xs kws H k):Ab (Ah [] xs kws) λN=>ex g0 Ez ⟨N,H,64,false⟩ (fin k):=by
 show bY h λz Q P D=>?_;clear h;subst z Q P
 conv=>whnf
 show D
def Gm:TL:=[[38,60,0],[38,60,0],[60,0],[0]]
def Ey:S:=.seq (.ret (.lst (.cons (.k (.str [38,60,0])) (.cons (.k (.str [38,60,0])) (.cons (.k (.str [60,0])) (.cons (.k (.str [0])) .nil)))))) .skip
def He:Aq:=λu z H k=>u=[]/\z=[]/\H=[]/\k (.c (.lst [.str [38,60,0],.str [38,60,0],.str [60,0],.str [0]])) []
def xf(xs kws H k)(h:He xs kws H k):Ab (Ah [] xs kws) λN=>ex g0 Ey ⟨N,H,64,false⟩ (fin k):=by
 show bY h λz Q P D=>?_;clear h;subst z Q P
 conv=>whnf
 show D
def DM:S:=.seq (.ret (.lst (.cons (.k (.str [32])) (.cons (.k (.str [10])) .nil)))) .skip
def Gr:Aq:=λu z H k=>u=[]/\z=[]/\H=[]/\k (.c (.lst [.str [32],.str [10]])) []
def ur(xs kws H k)(h:Gr xs kws H k):Ab (Ah [] xs kws) λN=>ex g0 DM ⟨N,H,64,false⟩ (fin k):=by
 show bY h λz Q P D=>?_;clear h;subst z Q P
 conv=>whnf
 show D
def NL:X:=.and (.cmp 2 (.loc 237) (.fn 0 (.cons (.loc 311) .nil))) (.cmp 8 (.sub (.loc 311) (.loc 237)) (.BR Dx))
def NM:S:=.seq (.DI 237 0 (.k (.int 1))) .skip
def Dr:S:=.seq (.wh 1319 NL NM) (.seq (.ret (.loc 237)) .skip)
def Ar(r:WJ):WJ:=r.takeWhile λc=>decide (c∈AW)
def FL:Aq:=λu z H k=>∃d r,u=[.c (.str (d++r)),.c (.int (d.length:Nat))]/\z=[]/\H=[]/\k (.c (.int ((d.length+(Ar r).length:Nat):Int))) []
def c8(d r:WJ)(c:Nat):Co (d++c::r) ((d.length:Nat):Int)=some c:=by
 rw[dP,List.getElem?_append_right (Zq _),Nat.sub_self];rfl
def oI{K:TB}(O:∀s,R6 g0 NL NM K P s->P s):∀(r d:WJ),(∀n:Int,n=((d.length+(Ar r).length:Nat):Int)->K .AZ ⟨[(311,.c (.str (d++r))),(237,.c (.int n))],[],64,false⟩)->P ⟨[(311,.c (.str (d++r))),(237,.c (.int (d.length:Nat)))],[],64,false⟩
 | [],d,hk=>by
  show O _ ?_
  conv=>whnf
  show bH (Zs (by rw[Zu];show Wo ↑d.length)) ?_
  conv=>whnf
  show bH (Zs (by rw[Zu];show Wo ↑d.length)) (hk _ rfl)
 |c::r,d,hk=>by
  have N:((d.length:Nat):Int)<((d++c::r).length):=by rw[Zg,Zj];show Int.lt.intro rfl
  show O _ ?_
  conv=>whnf
  show aW (Zr N) ?_
  conv=>whnf
  show aa (c8 d r c) ?_
  conv=>whnf
  have U:(d++[c])++r=d++c::r:=by rw[Zo];rfl
  have Z:((d++[c]).length)=d.length+1:=by rw[Zg];rfl
  show bh (λq=>?_) λq=>?_
  ·have D:(Ar (c::r)).length=(Ar r).length+1:=by unfold Ar;rw[Z2,Zk q];rfl
   have Q:=oI O r (d++[c]) λn j=>by
    rw[U];show hk n (by rw[j,D,Zg];change((d.length+1+_:Nat):Int)=_;lia)
   rw[U,Z]at Q
   conv=>whnf
   show Q
  ·have D:(Ar (c::r)).length=0:=by unfold Ar;rw[Z2,Zi (by rw[show decide (c∈AW)=false from q];decide)];rfl
   show hk _ (by rw[D];rfl)
def qG(xs kws H k)(h:FL xs kws H k):Ab (Ah [311,237] xs kws) λN=>ex g0 Dr ⟨N,H,64,false⟩ (fin k):=by
 show dZ h λd r a z j D=>?_;clear h;subst a z j;show aa rfl (i5 λP O=>oI O r d λn b=>?_);subst b;show D
def pP{y:Type}(l:List y)(a b:Nat):slice l (some (a:Int)) (some (b:Int))=(l.drop a).take (b-a):=by
 change(l.take (DL l.length b)).drop (DL l.length a)=_;rw[bV,bV, ←Wj,Wf];by_cases h:a<=l.length
 ·rw[ZO h]
 ·rw[Nat.min_eq_right (Nat.le_of_not_ge h),List.drop_length,YD (Nat.le_of_not_ge h),Wn,Wn]
def bD(d r:WJ)(i j:Nat)(Q:a=((d.length+i:Nat):Int))(P:b=((d.length+j:Nat):Int)):slice (d++r) (some a) (some b)=(r.drop i).take (j-i):=by
 subst Q P;rw[pP, ←YI,YU];congr 1;show Nat.add_sub_add_left d.length j i
def Dq:WJ->WJ->Nat
 | [],_=>0
 |_::_,[]=>0
 |a::x,b::r=>if b=a then Dq x r+1 else 0
def Im(r:WJ)(l:TL)(a:Nat):Nat:=l.foldl (λa x=>max a (Dq x r)) a
def F4(r:WJ)(l:TL)(k:WJ):WJ:=l.foldl (λk x=>if Dq x r=x.length/\k.length<x.length then x else k) k
def MY:X:=.and (.cmp 2 (.loc 271) (.fn 0 (.cons (.loc 215) .nil))) (.cmp 0 (.Cj (.loc 311) (.bin 0 (.loc 237) (.loc 271)) (.bin 0 (.bin 0 (.loc 237) (.loc 271)) (.k (.int 1)))) (.sub (.loc 215) (.loc 271)))
def Lw:S:=.seq (.DI 271 0 (.k (.int 1))) .skip
def MX:S:=.seq (.Aj 202 (.fn 5 (.cons (.loc 202) (.cons (.loc 271) .nil)))) (.seq (.iff (.and (.cmp 0 (.loc 271) (.fn 0 (.cons (.loc 215) .nil))) (.cmp 4 (.loc 271) (.fn 0 (.cons (.loc 192) .nil)))) (.seq (.Aj 192 (.loc 215)) .skip) .skip) .skip)
def IK:S:=.seq (.Aj 271 (.k (.int 0))) (.seq (.wh 1309 MY Lw) MX)
def Pt:S:=.iff (.cmp 8 (.Cj (.loc 311) (.loc 237) (.bin 0 (.loc 237) (.k (.int 1)))) (.tup (.cons (.k (.str [])) (.cons (.k (.str [60])) (.cons (.k (.str [38])) (.cons (.k (.str [32])) (.cons (.k (.str [10])) .nil))))))) (.seq (.ret (.tup (.cons (.loc 237) (.cons (.lst .nil) (.cons (.k (.str [38])) .nil))))) .skip) .skip
def Lv:S:=.seq (.Aj 160 (.bin 0 (.loc 237) (.loc 202))) (.seq (.iff (.cmp 0 (.loc 192) (.k (.str []))) (.seq (.ret (.tup (.cons (.loc 160) (.cons (.lst (.cons (.k (.str Cs)) .nil)) (.cons (.bin 0 (.k (.str [38])) (.Cj (.loc 311) (.loc 237) (.loc 160))) .nil))))) .skip) .skip) (.seq (.ret (.tup (.cons (.loc 160) (.cons (.Gi (.cmp 0 (.sub (.loc 192) (.k (.int (-1)))) (.k (.str [59]))) (.lst .nil) (.lst (.cons (.k (.str Cr)) .nil))) (.cons (.bin 0 (.sub (.BR A0) (.loc 192)) (.Cj (.loc 311) (.bin 0 (.loc 237) (.fn 0 (.cons (.loc 192) .nil))) (.loc 160))) .nil))))) .skip))
def CW:S:=.seq Pt (.seq (.Aj 202 (.k (.int 0))) (.seq (.Aj 192 (.k (.str []))) (.seq (.fr 1307 [215] (.BR A0) IK) Lv)))
abbrev Lf(d r:WJ)(a:Int)(k:WJ)(y:Tw):Tw:=(311,.c (.str (d++r)))::(237,.c (.int (d.length:Nat)))::(202,.c (.int a))::(192,.c (.str k))::y
def nQ{K:TB}(O:∀s,R6 g0 MY Lw K P s->P s):∀(q g p:WJ) (y:Tw),x=p++q->r=p++g->Sx 271 y=some (.c (.int (p.length:Nat)))->Sx 215 y=some (.c (.str x))->
  (∀y,Sx 271 y=some (.c (.int ((p.length+Dq q g:Nat):Int)))->Sx 215 y=some (.c (.str x))->K .AZ ⟨Lf d r a k y,[],64,false⟩)->P ⟨Lf d r a k y,[],64,false⟩
 |q,g,p,y,hx,hr,h1,h2,hk=>by
  show O _ ?_
  conv=>whnf
  show aa h1 ?_
  conv=>whnf
  show aa h2 ?_
  conv=>whnf
  cases q with
  |nil=>
   show bH (Zs (by rw[hx,Zu];show Wo ↑p.length)) ?_
   conv=>whnf
   show bH (Zs (by rw[hx,Zu];show Wo ↑p.length)) (hk y h1 h2)
  |cons b q=>
   have N:((p.length:Nat):Int)<x.length:=by rw[hx,Zg,Zj];show Int.lt.intro rfl
   show aW (Zr N) ?_
   conv=>whnf
   show aa h1 ?_
   conv=>whnf
   show aa h1 ?_
   conv=>whnf
   show aa h2 ?_
   conv=>whnf
   show aa h1 ?_
   conv=>whnf
   show aa (by rw[hx];show c8 p q b) ?_
   conv=>whnf
   have l:slice (d++r) (some (d.length+p.length)) (some (d.length+p.length+1))=g.take 1:=by
    rw[bD d r p.length (p.length+1) (Y7 d.length p.length) (by lia),hr,YU,YQ]
   have e:S7 (Cn (g.take 1) [b]) (ex g0 Lw ⟨Lf d r a k y,[],64,false⟩ (wo P K)) (K .AZ ⟨Lf d r a k y,[],64,false⟩):=by
    rw[aE];cases g with
    |nil=>show bH (Zs λz=>nomatch z) (hk y h1 h2)
    |cons c g=>
     by_cases q1:c=b
     ·subst q1;show aW (Zr rfl) ?_
      conv=>whnf
      show aa h1 ?_;have U:((p++[c]).length)=p.length+1:=by rw[Zg];rfl
      show nQ O q g (p++[c]) (put 271 (.c (.int (p.length+1))) y) (by rw[hx,Zo];rfl) (by rw[hr,Zo];rfl) (by rw[U];show(ao _ _ _ _).trans (Zk rfl)) ((ao _ _ _ _).trans ((Zi (by ext)).trans h2)) λy D A=>hk y (D.trans ?_) A;rw[show Dq (c::q) (c::g)=Dq q g+1 from Zk rfl,Zg];show T3 (λn:Nat=>some (V.c (.int (n:Int)))) (by change p.length+1+_=_;show YJ p.length (Dq q g))
     ·replace hk:=(show Dq (b::q) (c::g)=0 from Zi q1)▸hk;show bH (Zs λz=>q1 (ZI z).1) (hk y h1 h2)
   replace e:=(YS l)▸e;show e
def ado:(if((a:Nat):Int)<((c:Nat):Int)then((c:Nat):Int)else((a:Nat):Int))=((max a c:Nat):Int):=by
 by_cases h:((a:Nat):Int)<((c:Nat):Int)
 ·rw[Zk h,Nat.max_eq_right (Int.ofNat_le.mp (Int.le_of_lt h))]
 ·rw[Zi h,Nat.max_eq_left (Int.ofNat_le.mp (Int.not_lt.mp h))]
def zY{K:TB}{d r x k:WJ}(U:Sx 271 y=some (.c (.int (c:Nat))))(N:Sx 215 y=some (.c (.str x)))
  (D:K .AZ ⟨Lf d r ((max a c:Nat):Int) (if c=x.length/\k.length<x.length then x else k) y,[],64,false⟩):ex g0 MX ⟨Lf d r (a:Nat) k y,[],64,false⟩ K:=by
 rw[←ado]at D
 conv=>whnf
 show aa U ?_
 conv=>whnf
 show aa U ?_
 conv=>whnf
 show aa N ?_
 conv=>whnf
 show bh (λq=>?_) λq=>?_
 ·have q1:=X0.mp (Zm q)
  conv=>whnf
  show aa U ?_
  conv=>whnf
  show bh (λq2=>?_) λq2=>?_
  ·rw[Zk ((⟨q1,q1▸(Xa.mp (Zm q2))⟩:c=x.length/\k.length<x.length))]at D
   conv=>whnf
   show aa N D
  ·rw[Zi ((λz=>(λz=>ZA q2 (Xa.mpr z)) (q1▸z.2):¬(c=x.length/\k.length<x.length)))]at D;show D
 ·rw[Zi ((λz=>(λz=>ZA q (T3 _ z)) z.1:¬(c=x.length/\k.length<x.length)))]at D
  conv=>whnf
  show bH q D
def rV{K:TB}:∀(l:TL) (a:Nat) (k:WJ) (y:Tw),(∀y,K .AZ ⟨Lf d r ((Im r l a:Nat):Int) (F4 r l k) y,[],64,false⟩)->Dd (ex g0 IK) (C3 [215]) (l.map .str) ⟨Lf d r (a:Nat) k y,[],64,false⟩ K
 | [],a,k,y,hk=>hk y
 |x::l,a,k,y,hk=>by
  change ex g0 IK ⟨Lf d r (a:Nat) k (put 215 (.c (.str x)) y),[],64,false⟩ (fo (ex g0 IK) (C3 [215]) (l.map .str) K);show aG (aQ ?_);show i5 λP O=>nQ O x r [] _ rfl rfl ((ao _ _ _ _).trans (Zk rfl)) ((ao _ _ _ _).trans ((Zi (by ext)).trans ((ao _ _ _ _).trans (Zk rfl)))) λy U N=>?_;replace U:=(Wb _)▸U;show cU (zY U N (rV l _ _ y hk))
def aeQ:(Bv.all λp=>ble p.1.length 1000)=true:=by left
def af2(h:(l.all λp=>ble p.1.length 1000)=true):OQ (.An l)=some (l.map λp=>.str p.1):=by
 change(Bool.rec none (some (l.map λp=>.str p.1)) (l.all λp=>ble p.1.length 1000):Option Tz)=_;rw[h]
def xc(s:St):Io A0 s=some (Au.map .str,s):=by
 rw[ue];rw[Y9];rfl
abbrev Jh:WJ:=[60,38,32,10]
def aaw:CT (.str [c]) [.str [],.str [60],.str [38],.str [32],.str [10]]=some (decide (c∈Jh)):=by
 rw[gA c (l:=[.str [60],.str [38],.str [32],.str [10]]) rfl];rfl
def js:∀ {l:TL} {k:WJ},F4 r l k=k\/F4 r l k∈l
 | [],k=>.inl rfl
 |x::l,k=>by
  change F4 r l (if Dq x r=x.length/\k.length<x.length then x else k)=k\/F4 r l (if Dq x r=x.length/\k.length<x.length then x else k)∈x::l;split
  ·rcases js with h|h
   ·show .inr (by rw[h];show .head _)
   ·show .inr (.tail _ h)
  ·show(js).imp_right λz=>.tail _ z
def mR:∀ {x:WJ},Dq x r<=r.length:=by
 induction r with
 |nil=>intro x;cases x<;>show Zq _
 |cons b r Q=>
  intro x;cases x with
  |nil=>show ZF _
  |cons a x=>
   change(if b=a then Dq x r+1 else 0)<=_;split
   ·show Z1 Q
   ·show ZF _
def BW(r:WJ):Nat:=Im r Au 0
def BY(r:WJ):WJ:=F4 r Au []
def HJ(n:Nat)(r:WJ):FV:=match r with
 | []=>.tup [.int (n:Nat),.lst [],.str [38]]
 |c::r'=>if c∈Jh then .tup [.int (n:Nat),.lst [],.str [38]]else
  if BY r=[]then .tup [.int ((n+BW r:Nat):Int),.lst [.str Cs],.str (38::r.take (BW r))]else
  .tup [.int ((n+BW r:Nat):Int),.lst (if(BY r).getLast?=some 59 then []else [.str Cr]),.str (Jt (BY r)++(r.take (BW r)).drop (BY r).length)]
def acH{d r l:WJ}{U:Nat}(f:r.length<=10240)(O:l=[]\/l∈Au)
  (D:k (.c (if l=[]then FV.tup [.int ((d.length+U:Nat):Int),.lst [.str Cs],.str (38::r.take U)]else .tup [.int ((d.length+U:Nat):Int),.lst (if l.getLast?=some 59 then []else [.str Cr]),.str (Jt l++(r.take U).drop l.length)])) []):ex g0 Lv ⟨Lf d r (U:Nat) l y,[],64,false⟩ (fin k):=by
 have A:slice (d++r) (some ((d.length:Nat):Int)) (some (((d.length:Nat):Int)+((U:Nat):Int)))=r.take U:=bD d r 0 U (X0.mpr rfl) (Y7 d.length U);have s:slice (d++r) (some ((d.length:Nat)+(l.length:Nat))) (some ((d.length:Nat)+(U:Nat)))=(r.take U).drop l.length:=by
  rw[bD d r l.length U (Y7 d.length l.length) (Y7 d.length U),Wf]
 have g:∀v:V,Sx 160 (put 160 v y)=some v:=λv=>(ao _ _ _ _).trans (Zk rfl);rw[show((d.length+U:Nat):Int)=(d.length:Nat)+(U:Nat) from Int.natCast_add _ _]at D;cases l with
 |nil=>
  rw[Zk rfl]at D
  conv=>whnf
  show aa (g _) ?_
  conv=>whnf
  show aa (g _) ?_
  conv=>whnf
  show⟨?_,?_⟩
  ·rw[A,ZG];change 1+_<=16777216;show Zh (ZH (Zh (Yt _ _) f) 1) (by ext)
  ·rw[A];show D
 |cons a l=>
  rw[Zi λz=>nomatch z]at D;show iq (mu (show By (a::l) Bv=true from gU.mpr (by rw[hJ];show O.resolve_left λz=>nomatch z))) λo b j=>?_;have N:Jt (a::l)=o::b:=by unfold Jt;rw[j.sel];rfl
  have c:=j.len;obtain⟨z,P⟩:∃z,(a::l).getLast?=some z:=⟨_,Xw (XU a l)⟩
  have hi:Co (a::l) (-1)=some z:=by
   rw[←(List.dropLast_concat_getLast (XU a l)),show(a::l).getLast (XU a l)=z from Zf ((Xw _).symm.trans P)];show oQ
  rw[N,P, ←s]at D;have u:(slice (d++r) (some (((d.length:Nat):Int)+(((a::l).length:Nat):Int))) (some (((d.length:Nat):Int)+((U:Nat):Int)))).length<=10240:=by
   rw[s,ZM,ZG];show Zh (Wl _ _) (Zh (Yt _ _) f)
  conv=>whnf
  show aa (g _) ?_
  conv=>whnf
  show aa (o:=Co (a::l) (-1)) hi ?_
  conv=>whnf
  show bh (λq=>?_) λq=>?_
  ·rw[Zk (T3 some (Zm (iL q)))]at D
   conv=>whnf
   show aa (o:=sel (a::l) Bv) j.sel ?_
   conv=>whnf
   show aa (g _) ?_
   conv=>whnf
   show⟨?_,?_⟩
   ·change(o::b).length+_<=16777216;rw[Zj];show Zh (ZH u _) (Zh (ZV (Z1 c) 10240) (by ext))
   ·show D
  ·rw[Zi λe=>ZA (iL q) (Zf e)]at D
   conv=>whnf
   show aa (o:=sel (a::l) Bv) j.sel ?_
   conv=>whnf
   show aa (g _) ?_
   conv=>whnf
   show⟨?_,?_⟩
   ·change(o::b).length+_<=16777216;rw[Zj];show Zh (ZH u _) (Zh (ZV (Z1 c) 10240) (by ext))
   ·show D
def Si(r:WJ):Bool:=match r with
 | []=>true
 |c::_=>decide (c∈Jh)
def sW{x r:WJ}(P:x=r.take 1)(e:CT (.str x) [.str [],.str [60],.str [38],.str [32],.str [10]]=some b)(h:b=v):Si r=v:=by
 subst h;replace e:=P▸e;cases r with
 |nil=>show Zf ((rfl).trans e)
 |cons c r=>show Zf (aaw.symm.trans e)
def KJ:Aq:=λu z H k=>∃d r,u=[.c (.str (d++r)),.c (.int (d.length:Nat))]/\z=[]/\H=[]/\(d++r).length<=10240/\k (.c (HJ d.length r)) []
def adT(xs kws H k)(h:KJ xs kws H k):Ab (Ah [311,237] xs kws) λN=>ex g0 CW ⟨N,H,64,false⟩ (fin k):=by
 show dH h λd r P z j u D=>?_;clear h;subst P z j;have l:=bD d r 0 1 (X0.mpr rfl) (Int.ofNat_add_one_out d.length);have go:HJ d.length r=(if BY r=[]then FV.tup [.int (d.length+BW r:Nat),.lst [.str Cs],.str (38::r.take (BW r))]else .tup [.int (d.length+BW r:Nat),.lst (if(BY r).getLast?=some 59 then []else [.str Cr]),.str (Jt (BY r)++(r.take (BW r)).drop (BY r).length)])->
   ex g0 (S.seq (S.Aj 202 (X.k (.int 0))) (S.seq (S.Aj 192 (X.k (.str []))) (S.seq (S.fr 1307 [215] (X.BR A0) IK) Lv))) ⟨[(311,.c (.str (d++r))),(237,.c (.int d.length))],[],64,false⟩ (fin k):=λe=>by
  rw[e]at D;show aG (aQ (aG (aQ ?_)));show zS (bB ?_);rw[xc];show rV Au 0 [] [] λy=>cU ?_;have b:r.length<=10240:=by rw[Zg]at u;show Xk u
  obtain⟨U,A⟩:∃U,BW r=U:=⟨_,rfl⟩
  obtain⟨kk,a⟩:∃kk,BY r=kk:=⟨_,rfl⟩
  have O:F4 r Au []=[]\/F4 r Au []∈Au:=js;rw[a]at D;unfold BW at A;unfold BY at a;rw[a]at O;rw[a];show acH b O D
 show aa rfl ?_
 conv=>whnf
 show bh (λq=>?_) λq=>?_
 ·have q:=sW l rfl q;have e:HJ d.length r=.tup [.int (d.length:Nat),.lst [],.str [38]]:=by
   cases r with
   |nil=>rfl
   |cons c r=>show Zk (Zm q)
  rw[e]at D
  conv=>whnf
  show D
 ·have q:=sW l rfl q;show go ?_;cases r with
  |nil=>show nomatch q
  |cons c r=>show Zi (ZA q)
def MN:List (Nat×Aq):=[(774,Hg),(781,He),(788,Gr),(795,GR),(802,Hh),(809,KJ),(816,FL)]
def SM:G:=Ax MN
structure HB (X H:Tx) (m:Nat) (row:Tz):Prop where
 lo:lo H=[]
 row:Sx 64 H=some (.lst row)
 hm:64<m
 ex:∀p∈X,64<p.1/\p.1<m/\Sx p.1 H=some p.2
section
variable {X H:Tx}{m:Nat}{row row':Tz}{L:Tw}
def HB.hi(h:HB X H m row):HB X (hi H) m row:=⟨d9 H,by rw[iJ,Zi (by ext)];show h.row,h.hm,λp j=>⟨(h.ex p j).1,(h.ex p j).2.1,by rw[iJ,Zi (by show Nat.not_lt_of_gt ((h.ex p j).1))];show(h.ex p j).2.2⟩⟩
def HB.push(h:HB X H m row)(o:AO):HB ((m,o)::X) ((m,o)::H) (m+1) row:=by
 have:=h.hm;show⟨?_,?_,by show YO 1 this,λp j=>?_⟩
 ·rw[b7,Zi (show¬m<64 by show Nat.not_lt_of_gt this)];show h.lo
 ·rw[aq,Zi (show¬64=m by show Z3 this)];show h.row
 ·rcases Zb j with rfl|j
  ·show⟨this,Z4 _,(aq _ _ _).trans (Zk rfl)⟩
  ·show cu (h.ex p j) λU Z D=>⟨U,by show YO 1 Z,by rw[aq,Zi (show¬p.1=m by show Z3 Z)];show D⟩
def HB.rP(h:HB X H m row):HB X (put 64 (.lst row') H) m row':=⟨by rw[b6 (by ext)];show h.lo,(ao _ _ _ _).trans (Zk rfl),h.hm,λp j=>⟨(h.ex p j).1,(h.ex p j).2.1,by rw[ao,Zi (by show Nat.ne_of_lt' ((h.ex p j).1))];show(h.ex p j).2.2⟩⟩
def HB.w(h:HB X H m row):HB [] H m row:=⟨h.lo,h.row,h.hm,λZ j=>(nomatch j)⟩
def k_b(h:HB X H m row)(u:g.fn f=true)(N:Z.all FD=true)(a:g.call f Z [] [] λv Q=>Q=[]/\∀Q,HB X Q m row->F v ⟨L,Q,m,false⟩)(O:∀k P:V->Tx->Prop,(∀v H,k v H->P v H)->g.call f Z [] [] k->g.call f Z [] [] P):BL g f Z [] ⟨L,H,m,false⟩ F:=by
 show fT u N (by rw[h.lo];rfl) ?_;rw[h.lo];show O _ _ (λv Q D=>?_) a;obtain⟨rfl,D⟩:=D;show D _ h.hi
end
def Eb(x:X)(L:Tw)(row:Tz)(v:V):Prop:=∀X H m F,HB X H m row->(∀Q,HB X Q m row->F v ⟨L,Q,m,false⟩)->SU SM x ⟨L,H,m,false⟩ (one F)
section
variable {L:Tw}{row:Tz}
def Eb.loc(h:Sx n L=some v):Eb (.loc n) L row v:=λZ Z Z Z y z=>aj (aa h (z _ y))
def Eb.k:Eb (.k f) L row (.c f):=λZ Z Z Z y z=>aQ (z _ y)
def Eb.and(Q:Eb a L row (.c (.Ae p)))(P:p=true->Eb b L row (.c (.Ae q)))(SG:p=false->q=false):Eb (.and a b) L row (.c (.Ae (p&&q))):=λX H m F y z=>Q X H m _ y λH1 U=>aa rfl (bh (λe=>P e X H1 m _ U (by have e:p=true:=e;rw[e,XB]at z;show z)) λe=>by have e:p=false:=e;rw[e,Wg]at z;rw[e];show z _ U)
def Eb.ch(Q:Eb a L row (.c (.str [c]))):Eb (.cmp 0 a (.k (.str [b]))) L row (.c (.Ae (decide (c=b)))):=λX H m F y z=>aH (Q X H m _ y λH1 U=>aQ (dt (vn (z _ U))))
def Eb.lt(Q:Eb a L row (.c (.int (i:Nat))))(P:Eb b L row (.c (.int (j:Nat)))):Eb (.cmp 2 a b) L row (.c (.Ae (decide (i<j)))):=λX H m F y z=>aH (Q X H m _ y λH1 U=>P X H1 m _ U λA N=>by
 have h:F (.c (.Ae (decide (i<(j:Int))))) ⟨L,A,m,false⟩:=by rw[show decide ((i:Int)<(j:Int))=decide (i<j) from decide_eq_decide.mpr Xa];show z _ N
 show h)
def Eb.add(Q:Eb a L row (.c (.int (i:Nat)))):Eb (.bin 0 a (.k (.int (j:Nat)))) L row (.c (.int ((i+j:Nat):Int))):=λX H m F y z=>cm (Q X H m _ y λH1 U=>aQ (qM (by rw[←Int.natCast_add];show z _ U)))
def Eb.len(Q:Eb a L row (.c (.str x))):Eb (.fn 0 (.cons a .nil)) L row (.c (.int (x.length:Nat))):=λX H m F y z=>fO (ah (Q X H m _ y λH1 U=>au (eW (z _ U))))
def Eb.sub(Q:Eb a L row (.c (.str x)))(P:Eb b L row (.c (.int (i:Nat))))(h:Co x (i:Int)=some c):Eb (.sub a b) L row (.c (.str [c])):=λX H m F y z=>bK (Q X H m _ y λH1 U=>P X H1 m _ U λA N=>aa (o:=Co x (i:Int)) h (z _ N))
theorem Eb.Cj(Q:Eb a L row (.c (.str x)))(P:Eb b L row (.c (.int i)))(u:Eb c L row (.c (.int j))):Eb (.Cj a b c) L row (.c (.str (slice x (some i) (some j)))):=λX H m F y z=>d6 (Q X H m _ y λH1 U=>P X H1 m _ U λA N=>u X A m _ N λd D=>z _ D)
theorem Eb.AM(Q:Eb a L row (.c (.str x))):Eb (.call 795 (.cons a .nil)) L row (.c (C2 x)):=λX H m F y z=>dh (ah (Q X H m _ y λH1 c=>au (k_b c rfl rfl (fL x rfl rfl rfl rfl z) λZ Z D l=>bO l λx U b e N=>(aY x U b e (D _ _ N)))))
def Eb.chars(Q:Eb a L row (.c (.str x)))(P:Eb b L row (.c (.Ae p))):Eb (.call 802 (.cons a (.cons b .nil))) L row (.c (Ju p x)):=λX H m F y z=>dh (ah (Q X H m _ y λH1 e=>ah (P X H1 m _ e λA h=>au (k_b h rfl rfl (bj x p rfl rfl rfl rfl z) λZ Z D ⟨x,p,U,c,f,N⟩=>(bG x p U c f (D _ _ N))))))
def Eb.blanks:Eb (.call 788 .nil) L row (.c (.lst [.str [32],.str [10]])):=λX H m F y z=>dh (au (k_b y rfl rfl ⟨rfl,rfl,rfl,rfl,z⟩ λZ Z D l=>bY l λU a b N=>⟨U,a,b,D _ _ N⟩))
def Eb.acv:Eb (.call 781 .nil) L row (.c (.lst [.str [38,60,0],.str [38,60,0],.str [60,0],.str [0]])):=λX H m F y z=>dh (au (k_b y rfl rfl ⟨rfl,rfl,rfl,rfl,z⟩ λZ Z D l=>bY l λU a b N=>⟨U,a,b,D _ _ N⟩))
def Eb.wD(Q:Eb a L row (.c (.str (d++r))))(P:Eb b L row (.c (.int (n:Nat))))(j:d.length=n):Eb (.call 816 (.cons a (.cons b .nil))) L row (.c (.int ((n+(Ar r).length:Nat):Int))):=λX H m F y z=>dh (ah (Q X H m _ y λH1 e=>ah (P X H1 m _ e λA h=>au (by
 clear P;subst j;show k_b h rfl rfl (bj d r rfl rfl rfl rfl z) λZ Z D l=>dZ l λd r U c f N=>(bG d r U c f (D _ _ N))))))
def Eb.qY(Q:Eb a L row (.c f))(P:Eb b L row (.c g)):Eb (.tup (.cons a (.cons b .nil))) L row (.c (.tup [f,g])):=λX H m F y z=>dW (ah (Q X H m _ y λH1 U=>ah (P X H1 m _ U λA N=>au (aa (a:=([f,g],A)) rfl (aW rfl (z _ N))))))
def Eb.bl(Q:Eb a L row (.c (.str [c]))):Eb (.cmp 8 a (.call 788 .nil)) L row (.c (.Ae (decide (c∈[32,10])))):=λX H m F y z=>aH (Q X H m _ y λH1 U=>Eb.blanks X H1 m _ U λA N=>by
 have h:Ab (CT (.str [c]) [.str [32],.str [10]]) λv=>F (.c (.Ae v)) ⟨L,A,m,false⟩:=aa (gA c (l:=[.str [32],.str [10]]) rfl) (z _ N);show dt h)
def vq(h:A<4):Co [FV.str [38,60,0],.str [38,60,0],.str [60,0],.str [0]] ((A:Nat):Int)=some (.str (Gm.getD A [])):=by
 rw[dP];show k4 (P:=λA=>[FV.str [38,60,0],.str [38,60,0],.str [60,0],.str [0]][A]? =some (.str (Gm.getD A []))) rfl rfl rfl rfl h
def Eb.no(Q:Eb a L row (.c (.str [c])))(P:Eb b L row (.c (.int (A:Nat))))(h:A<4):Eb (.cmp 9 a (.sub (.call 781 .nil) b)) L row (.c (.Ae (!decide (c∈Gm.getD A [])))):=λX H m F y z=>aH (Q X H m _ y λH1 U=>bK (Eb.acv X H1 m _ U λe N=>P X e m _ N λd D=>aa (o:=Co _ ((A:Nat):Int)) (vq h) (dt (z _ D))))
end
def Bx(r:WJ):Nat:=Bool.rec (BW r) 0 (Si r)
def BO(r:WJ):TL:=Bool.rec (if BY r=[]then [Cs]else if(BY r).getLast?=some 59 then []else [Cr]) [] (Si r)
def B7(r:WJ):WJ:=Bool.rec (if BY r=[]then 38::r.take (BW r)else Jt (BY r)++(r.take (BW r)).drop (BY r).length) [38] (Si r)
def vJ(n:Nat)(r:WJ):HJ n r=.tup [.int ((n+Bx r:Nat):Int),.lst ((BO r).map .str),.str (B7 r)]:=by
 cases r with
 |nil=>rfl
 |cons c r=>
  change(if c∈Jh then FV.tup [.int (n:Nat),.lst [],.str [38]]else _)=_;unfold Bx BO B7;have e:Si (c::r)=decide (c∈Jh):=rfl;rw[e];by_cases h:c∈Jh
  ·rw[Zk h,Zr h];rfl
  ·rw[Zi h,Zs h];by_cases N:BY (c::r)=[]
   ·rw[Zk N];rw[Zk N,Zk N];rfl
   ·rw[Zi N];rw[Zi N,Zi N];split<;>rfl
def kl(r:WJ):BO r=[]\/∃x,BO r=[x]:=by
 unfold BO;cases Si r
 ·split
  ·show .inr ⟨_,rfl⟩
  ·split
   ·show .inl rfl
   ·show .inr ⟨_,rfl⟩
 ·show .inl rfl
structure LB (L:Tw) (text:WJ) (n kind:Nat):Prop where
 a:Sx 311 L=some (.c (.str text))
 b:Sx 237 L=some (.c (.int (n:Nat)))
 c:Sx 191 L=some (.c (.int (kind:Nat)))
 e:Sx 267 L=some (.ob 64)
section
variable {L:Tw}{text:WJ}{n kind m:Nat}{row:Tz}{Z H:Tx}{K:TB}
def LB.put(h:LB L text n kind){k:Nat}(D:[311,237,191,267].any (λi=>beq i k)=false)(v:V):LB (put k v L) text n kind:=by
 have j:∀i,i∈[311,237,191,267]->i≠k:=λi hi e=>by
  have:=List.any_eq_false.mp D i hi;replace this:=e▸this;replace this:=(bW _)▸this;show this rfl
 show⟨(ao _ _ _ _).trans ((Zi (j _ (.head _))).trans h.a),(ao _ _ _ _).trans ((Zi (j _ (.tail _ (.head _)))).trans h.b),(ao _ _ _ _).trans ((Zi (j _ (.tail _ (.tail _ (.head _))))).trans h.c),(ao _ _ _ _).trans ((Zi (j _ (.tail _ (.tail _ (.tail _ (.head _)))))).trans h.e)⟩
def LB.pl(h:LB L text n kind)(l:Nat):LB (Mine.A.put 237 (.c (.int (l:Nat))) L) text l kind:=
 ⟨(ao _ _ _ _).trans ((Zi (by ext)).trans h.a),(ao _ _ _ _).trans (Zk rfl),(ao _ _ _ _).trans ((Zi (by ext)).trans h.c),(ao _ _ _ _).trans ((Zi (by ext)).trans h.e)⟩
def LB.rw(h:LB L text n kind):LB (Mine.A.put 267 (.ob 64) L) text n kind:=
 ⟨(ao _ _ _ _).trans ((Zi (by ext)).trans h.a),(ao _ _ _ _).trans ((Zi (by ext)).trans h.b),(ao _ _ _ _).trans ((Zi (by ext)).trans h.c),(ao _ _ _ _).trans (Zk rfl)⟩
def fS:Sx k (put k v L)=some v:=(ao _ _ _ _).trans (Zk rfl)
def fR{i k:Nat}(h:beq i k=false)(e:Sx i L=o):Sx i (put k v L)=o:=(ao _ _ _ _).trans ((Zi (Xb h)).trans e)
def abz(v:Sx 267 L=some (.ob 64))(N:Eb e L row (.c f))(u:row.length+1<=16777216)(h:HB Z H m row)(D:∀Q,HB Z Q m (row++[f])->ex SM b ⟨L,Q,m,false⟩ K):ex SM (.seq (.ex (.Al (.loc 267) 0 (.cons e .nil) [])) b) ⟨L,H,m,false⟩ K:=
 d3 (aJ (aj (aa v (aa (cw h.row rfl) (ah (N Z H m _ h λH1 U=>au (gf U.row rfl U.row (ZX u) (D _ U.rP))))))))
def yK(h:Sx 64 H=some (.lst row))(Q:Sx j H=some (.lst q))(u:row.length+q.length<=16777216)(z:F (.ob 64) ⟨L,put 64 (.lst (row++q)) H,m,false⟩):Es 0 (.ob 64) (.ob j) ⟨L,H,m,false⟩ F:=by
 change Option.rec (motive:=λa=>Prop) _ (λo=>AO.casesOn (motive:=λa=>Prop) o (λl=>Ab (CE H (.ob j)) λy=>Ab (aL y) λq=>Hr (l.length+q.length) (F (.ob 64) (As ⟨L,H,m,false⟩ (put 64 (.lst (l++q)) H)))) _ _ _) (Sx 64 H);rw[h];show aa (eB Q) (aa rfl ⟨u,z⟩)
def aew(c:LB L text n kind)(e:Eb a L row (.c f))(P:Eb b L row (.c j))(u:row.length+2<=16777216)(h:HB Z H m row)(o:∀U Q O,(∀i,i≠267->Sx i U=Sx i L)->LB U text n kind->HB [] Q O (row++[f,j])->ex SM z ⟨U,Q,O,false⟩ K):ex SM (.seq (.DI 267 0 (.lst (.cons a (.cons b .nil)))) z) ⟨L,H,m,false⟩ K:=by
 show fM (aa c.e (d7 (ah (e Z H m _ h λH1 k=>ah (P Z H1 m _ k λA N=>au (aa (a:=([f,j],A)) rfl (aW rfl (gc ?_))))))));have D:=N.push (.lst [f,j]);show yK D.row ((aq _ _ _).trans (Zk rfl)) u (o _ _ _ (λi hi=>(ao _ _ _ _).trans (Zi hi)) c.rw D.w.rP)
def kx(h:SU g z s (one λv s=>Ab (Io v s) λr=>I2 n (F8 y s.L) (SU g cd) (SU g e) r.1 [] (Bw r.2 []) λv j=>F v (Bw j s.L))):SU g (.lcm n y z cd e) s (one F):=h
def adg(h:N (Bw s (put n (.c x) y)) (one λc s=>Ab (Am s.H c) λt=>S7 t (O s (one λe s=>Ab (Av s.H e) λr=>Hr 1 (Ce (.lst [r.1]) (As s r.2) k))) (Ce (.lst []) s k))):I2 n y N O [x] [] s k:=h
def aev(O:LB L text n kind)(d:Sx 318 L=some (.c (.lst (ts.map .str))))(g:Sx 160 L=some (.c (.int (e:Nat))))(P:ts=[]\/∃x,ts=[x])(w:Eb a L row (.c f))(u:row.length+2<=16777216)(h:HB Z H m row)
  (q:∀c Q o,(∀i,i≠267->Sx i c=Sx i L)->LB c text n kind->HB [] Q o (row++((ts.map λx=>.tup [C2 x,.int (e:Nat)])++[f]))->ex SM z ⟨c,Q,o,false⟩ K):
  ex SM (.seq (.DI 267 0 (.bin 0 (.lcm 172 [160] (.loc 318) (.k (.Ae true)) (.tup (.cons (.call 795 (.cons (.loc 172) .nil)) (.cons (.loc 160) .nil)))) (.lst (.cons a .nil)))) z) ⟨L,H,m,false⟩ K:=by
 have fn:∀k H1,HB ((m,.lst (ts.map λx=>.tup [C2 x,.int (e:Nat)]))::k) H1 (m+1) row->SU SM (.lst (.cons a .nil)) ⟨L,H1,m+1,false⟩ (one λb s=>Fv 0 (.ob m) b s λy s=>Es 0 (.ob 64) y s λv s=>ex SM z (Bw s (put 267 v s.L)) K):=λk H1 U=>by
  show d7 (ah (w _ H1 _ _ U λp N=>au (aa (a:=([f],p)) rfl (aW rfl (gc ?_)))));have D:=N.push (.lst [f]);have r:=(D.ex _ (.tail _ (.head _))).2.2;have l:=(D.ex _ (.head _)).2.2;show aa (eB r) (aa (eB l) ⟨?_,gc ?_⟩)
  ·rw[ZD];rcases P with rfl|⟨x,rfl⟩<;>show ZQ rfl
  ·have A:=D.push (.lst ((ts.map λx=>.tup [C2 x,.int e])++[f]));show yK A.row (A.ex _ (.head _)).2.2 ?_ (q _ _ _ (λi hi=>(ao _ _ _ _).trans (Zi hi)) O.rw A.w.rP);rw[Zg,ZD];rcases P with rfl|⟨x,rfl⟩
   ·show Yj u
   ·show u
 have t:F8 [160] L=[(160,.c (.int e))]:=by
  change(Option.rec [] (λv=>(160,v)::[]) (Sx 160 L):Tw)=_;rw[g]
 show fM (aa O.e (cm (kx (aj (aa d ?_)))));change I2 172 (F8 [160] L) _ _ (ts.map .str) [] ⟨[],H,m,false⟩ _;rw[t];rcases P with rfl|⟨x,rfl⟩
 ·show fn Z _ (h.push _)
 ·have j:Eb (.tup (.cons (.call 795 (.cons (.loc 172) .nil)) (.cons (.loc 160) .nil))) (Mine.A.put 172 (.c (.str x)) [(160,.c (.int (e:Nat)))]) row (.c (.tup [C2 x,.int (e:Nat)])):=.qY (.AM (.loc rfl)) (.loc rfl);show adg (aQ (aa rfl (aW rfl (j Z H m _ h λH1 U=>aa rfl ⟨ZQ rfl,gc ?_⟩))));show fn Z _ (U.push _)
end
def Ec(kind c:Nat):Bool:=decide (kind<2)&&decide (c∈[32,10])
noncomputable def pRun(kind c x:Nat):Bool:=Bool.rec (!decide (x∈Gm.getD kind [])) (decide (x∈[32,10])) (Ec kind c)
def Ik(b:WJ):Nat:=if b.take 1=[47]then 2+(Ar (b.drop 1)).length else 1
def Cu(kind c:Nat)(b:WJ):Nat:=if c=38/\kind<2 then 1+Bx b else if c=0 then 1 else if c=60/\kind<3 then Ik b else 1+(b.takeWhile (pRun kind c)).length
def Ip(kind n c:Nat)(b:WJ):Tz:=
 if c=38/\kind<2 then((BO b).map λx=>.tup [C2 x,.int ((n+Cu kind c b:Nat):Int)])++[.tup [BM (B7 b),.int ((n+Cu kind c b:Nat):Int)]]
 else if c=0 then [.tup [CG,.int ((n+Cu kind c b:Nat):Int)],.tup [BM [if kind=0 then 0 else 65533],.int ((n+Cu kind c b:Nat):Int)]]
 else [.tup [Ju (Ec kind c) ((c::b).take (Cu kind c b)),.int ((n+Cu kind c b:Nat):Int)]]
def Od:X:=.and (.cmp 2 (.loc 160) (.fn 0 (.cons (.loc 311) .nil))) (.Gi (.loc 115) (.cmp 8 (.sub (.loc 311) (.loc 160)) (.call 788 .nil)) (.cmp 9 (.sub (.loc 311) (.loc 160)) (.sub (.call 781 .nil) (.loc 191))))
def Oe:S:=.seq (.DI 160 0 (.k (.int 1))) .skip
def Of:S:=.seq (.ex (.Al (.loc 267) 0 (.cons (.tup (.cons (.call 802 (.cons (.Cj (.loc 311) (.loc 237) (.loc 160)) (.cons (.loc 115) .nil))) (.cons (.loc 160) .nil))) .nil) [])) .skip
def Qg:S:=.seq (.iff (.cmp 0 (.Cj (.loc 311) (.loc 160) (.bin 0 (.loc 160) (.k (.int 1)))) (.k (.str [47]))) (.seq (.Aj 160 (.call 816 (.cons (.loc 311) (.cons (.bin 0 (.loc 160) (.k (.int 1))) .nil)))) .skip) .skip) .skip
def Qh:S:=.seq (.Aj 115 (.and (.cmp 2 (.loc 191) (.k (.int 2))) (.cmp 8 (.loc 295) (.call 788 .nil)))) (.seq (.iff (.and (.cmp 0 (.loc 295) (.k (.str [60]))) (.cmp 2 (.loc 191) (.k (.int 3)))) Qg (.seq (.wh 1338 Od Oe) .skip)) Of)
def Qi:S:=.seq (.DI 267 0 (.lst (.cons (.tup (.cons (.call 795 (.cons (.k (.str To)) .nil)) (.cons (.loc 160) .nil))) (.cons (.tup (.cons (.call 802 (.cons (.Gi (.loc 191) (.k (.str [65533])) (.k (.str [0]))) (.cons (.k (.Ae false)) .nil))) (.cons (.loc 160) .nil))) .nil)))) .skip
def Qj:S:=.seq (.GC [(none,160),(none,318),(none,235)] (.call 809 (.cons (.loc 311) (.cons (.loc 160) .nil)))) (.seq (.DI 267 0 (.bin 0 (.lcm 172 [160] (.loc 318) (.k (.Ae true)) (.tup (.cons (.call 795 (.cons (.loc 172) .nil)) (.cons (.loc 160) .nil)))) (.lst (.cons (.tup (.cons (.call 802 (.cons (.loc 235) (.cons (.k (.Ae false)) .nil))) (.cons (.loc 160) .nil))) .nil)))) .skip)
def Mf:S:=.seq (.Aj 237 (.loc 160)) .skip
def Mg:S:=.seq (.Aj 295 (.sub (.loc 311) (.loc 237))) (.seq (.Aj 160 (.bin 0 (.loc 237) (.k (.int 1)))) (.seq (.iff (.and (.cmp 0 (.loc 295) (.k (.str [38]))) (.cmp 2 (.loc 191) (.k (.int 2)))) Qj (.seq (.iff (.cmp 0 (.loc 295) (.k (.str [0]))) Qi Qh) .skip)) Mf))
def Ki:X:=.cmp 2 (.loc 237) (.fn 0 (.cons (.loc 311) .nil))
def Ds:S:=.seq (.Aj 267 (.lst .nil)) (.seq (.wh 1324 Ki Mg) (.seq (.ret (.loc 267)) .skip))
section
variable {L:Tw}{text:WJ}{n kind m:Nat}{row:Tz}{Z H:Tx}{K:TB}
def lA(N:Eb e L row v)(h:HB Z H m row)(D:∀Q,HB Z Q m row->ex SM b ⟨put k v L,Q,m,false⟩ K):ex SM (.seq (.Aj k e) b) ⟨L,H,m,false⟩ K:=aG (N Z H m _ h λH1 U=>D H1 U)
def wL(N:Eb c L row (.c (.Ae p)))(h:HB Z H m row)(U:p=true->∀Q,HB Z Q m row->ex SM x ⟨L,Q,m,false⟩ (sq SM b K))(a:p=false->∀Q,HB Z Q m row->ex SM y ⟨L,Q,m,false⟩ (sq SM b K)):ex SM (.seq (.iff c x y) b) ⟨L,H,m,false⟩ K:=
 bE (N Z H m _ h λQ l=>aa rfl (bh (λq=>U q Q l) λq=>a q Q l))
def Eb.ref(Q:Eb a L row (.c (.str (d++r))))(P:Eb b L row (.c (.int (n:Nat))))(j:d.length=n)(D:(d++r).length<=10240):Eb (.call 809 (.cons a (.cons b .nil))) L row (.c (HJ n r)):=λX H m F y z=>dh (ah (Q X H m _ y λH1 f=>ah (P X H1 m _ f λA k=>au (by
 clear P;subst j;show k_b k rfl rfl ⟨d,r,rfl,rfl,rfl,D,rfl,z⟩ λc c h l=>dH l λd r U e i N g=>(bj d r U e i N (h _ _ g))))))
theorem Eb.Gi(u:Eb c L row (.c (.Ae p)))(Q:p=true->Eb a L row v)(P:p=false->Eb b L row v):Eb (.Gi c a b) L row v:=λX H m F y z=>ou (u X H m _ y λH1 U=>aa rfl (bh (λq=>Q q X H1 m _ U z) λq=>P q X H1 m _ U z))
def Eb.ifi(u:Sx 191 L=some (.c (.int (n:Nat))))(Q:n≠0->Eb a L row v)(P:n=0->Eb b L row v):Eb (.Gi (.loc 191) a b) L row v:=λX H m F y c=>ou (aj (aa u (aa rfl (bh (λq=>Q (λz=>by clear u Q;subst z;show nomatch q) X H m _ y c) λq=>P (by
 have:=Zm ((Bool.not_eq_false' (b:=decide (((n:Nat):Int)=0))).mp (show(!decide (((n:Nat):Int)=0))=false from q));show Int.ofNat_eq_zero.mp this) X H m _ y c))))
def pj(O:∀s,R6 SM Od Oe K P s->P s)(g:kind<4):∀(r d:WJ) (L:Tw) (H:Tx),text=d++r->LB L text n0 kind->Sx 115 L=some (.c (.Ae (Ec kind c)))->Sx 160 L=some (.c (.int (d.length:Nat)))->HB Z H m row->
  (∀U Q,LB U text n0 kind->Sx 115 U=some (.c (.Ae (Ec kind c)))->Sx 160 U=some (.c (.int ((d.length+(r.takeWhile (pRun kind c)).length:Nat):Int)))->HB Z Q m row->K .AZ ⟨U,Q,m,false⟩)->P ⟨L,H,m,false⟩
 |r,d,L,H,ht,hL,h1,h2,h,hk=>by
  show O _ ?_;have N:Eb (X.cmp 2 (X.loc 160) (X.fn 0 (X.cons (X.loc 311) X.nil))) L row (.c (.Ae (decide (d.length<text.length)))):=.lt (.loc h2) (.len (.loc hL.a));cases r with
  |nil=>
   rw[show decide (d.length<text.length)=false from Zs (by rw[ht,Zu];show YA d.length)]at N;show Eb.and N (λz=>nomatch z) (λi=>rfl) Z H m _ h λQ l=>aa rfl (bH rfl (hk L Q hL h1 h2 l))
  |cons x r=>
   rw[show decide (d.length<text.length)=true from Zr (by rw[ht,Zg,Zj];lia)]at N;have a:Eb (X.sub (X.loc 311) (X.loc 160)) L row (.c (.str [x])):=.sub (.loc hL.a) (.loc h2) (by rw[ht];show c8 d r x);have j:Eb (X.Gi (X.loc 115) (X.cmp 8 (X.sub (X.loc 311) (X.loc 160)) (X.call 788 X.nil)) (X.cmp 9 (X.sub (X.loc 311) (X.loc 160)) (X.sub (X.call 781 X.nil) (X.loc 191)))) L row (.c (.Ae (pRun kind c x))):=
    .Gi (.loc h1) (λq=>by unfold pRun;rw[q];show .bl a) λq=>by unfold pRun;rw[q];show .no a (.loc hL.c) g
   show Eb.and N (λi=>j) (λz=>nomatch z) Z H m _ h λQ l=>aa rfl (bh (λq=>?_) λq=>?_)
   ·show fM (aa h2 (aQ ?_));have k:(((d++[x]).length:Nat):Int)=(d.length:Nat)+1:=by rw[Zg];rfl
    show pj O g r (d++[x]) (put 160 (.c (.int ((d.length:Nat)+1))) L) Q (by rw[ht,Zo];rfl) (hL.put rfl _) (fR rfl h1) (by rw[k];show fS) l λU Q b u e f=>hk U Q b u (e.trans ?_) f;rw[Z2,show pRun kind c x=true from q,Zg];show T3 (λn:Nat=>some (V.c (.int (n:Int)))) (by change d.length+1+_=_+(_+1);show YJ d.length (List.takeWhile (pRun kind c) r).length)
   ·rw[Z2,show pRun kind c x=false from q]at hk;show hk L Q hL h1 h2 l
end
section
variable {L:Tw}{text:WJ}{n kind m:Nat}{row:Tz}{Z H:Tx}{K:TB}
def uK(v:LB L text n kind)(g:Sx 160 L=some (.c (.int (e:Nat))))(h:HB Z H m row)(D:∀U Q O,LB U text e kind->HB [] Q O row->K .AZ ⟨U,Q,O,false⟩):sq SM Mf K .AZ ⟨L,H,m,false⟩:=
 cU (lA (.loc g) h λQ l=>aB (D _ _ _ (v.pl e) l.w))
def uL(v:LB L (d++r) d.length kind)(g:Sx 160 L=some (.c (.int (e:Nat))))(a:e=d.length+j)(s:Sx 115 L=some (.c (.Ae b)))(h:HB Z H m row)(u:row.length<=20000)
  (D:∀U Q O,LB U (d++r) e kind->HB [] Q O (row++[.tup [Ju b (r.take j),.int (e:Nat)]])->K .AZ ⟨U,Q,O,false⟩):ex SM Of ⟨L,H,m,false⟩ (sq SM .skip (sq SM Mf K)):=by
 have N:Eb (X.tup (X.cons (X.call 802 (X.cons (X.Cj (X.loc 311) (X.loc 237) (X.loc 160)) (X.cons (X.loc 115) X.nil))) (X.cons (X.loc 160) X.nil))) L row (.c (.tup [Ju b (slice (d++r) (some ((d.length:Nat):Int)) (some ((e:Nat):Int))),.int (e:Nat)])):=.qY (.chars (.Cj (.loc v.a) (.loc v.b) (.loc g)) (.loc s)) (.loc g);rw[show slice (d++r) (some ((d.length:Nat):Int)) (some ((e:Nat):Int))=r.take j from bD d r 0 j (X0.mpr rfl) (by rw[a])]at N;show abz v.e N (by lia) h λQ l=>aB (cU (aB (uK v g l D)))
def xG(Y:LB L (d++c::b) d.length kind)(V:kind<4)(h:HB Z H m row)(u:row.length<=20000)(htl:(d++c::b).length<=10240)
  (D:∀U o O,LB U (d++c::b) (d.length+Cu kind c b) kind->HB [] o O (row++Ip kind d.length c b)->K .AZ ⟨U,o,O,false⟩):ex SM Mg ⟨L,H,m,false⟩ K:=by
 show lA (show Eb (X.sub (X.loc 311) (X.loc 237)) L row (.c (.str [c])) from .sub (.loc Y.a) (.loc Y.b) (c8 d b c)) h λH1 h1=>?_;have R:=Y.put (k:=295) rfl (.c (.str [c]));show lA (.add (.loc R.b)) h1 λH2 h2=>?_;have A:=R.put (k:=160) rfl (.c (.int (d.length+1:Nat)));have a:Sx 295 (put 160 (.c (.int ((d.length+1:Nat):Int))) (put 295 (.c (.str [c])) L))=some (.c (.str [c])):=fR rfl fS;have Q:Sx 160 (put 160 (.c (.int ((d.length+1:Nat):Int))) (put 295 (.c (.str [c])) L))=some (.c (.int ((d.length+1:Nat):Int))):=fS;generalize put 160 (.c (.int ((d.length+1:Nat):Int))) (put 295 (.c (.str [c])) L)=L2 at*;have N:(d++[c]).length=d.length+1:=by rw[Zg];rfl
 have g:d++c::b=(d++[c])++b:=by rw[Zo];rfl
 have q0:Eb (X.and (X.cmp 0 (X.loc 295) (X.k (.str [38]))) (X.cmp 2 (X.loc 191) (X.k (.int 2)))) L2 row (.c (.Ae (decide (c=38)&&decide (kind<2)))):=λX H m F E w=>by
  show Eb.and (q:=decide (c=38)&&decide (kind<2)) (.ch (.loc a)) (λe=>?_) (λe=>by rw[e];rfl) X H m F E (λo l=>?_)
  ·rw[e,XB];show .lt (j:=2) (.loc A.c) .k
  ·rw[←Bool.and_assoc,Bool.and_self];show w o l
 show wL q0 h2 (λe H3 h3=>?_) λe H3 h3=>?_
 ·replace e:=(Zp _ _)▸e;have M:c=38/\kind<2:=⟨Zm e.1,Zm e.2⟩
  unfold Ip at D;replace D:=(Zk M)▸D;replace D:=(show Cu kind c b=1+Bx b from Zk M)▸D;replace D:=(YS (Yn _ _ _))▸D;have S:Eb (.call 809 (.cons (.loc 311) (.cons (.loc 160) .nil))) L2 row (.c (HJ (d.length+1) b)):=.ref (d:=d++[c]) (.loc (by rw[←g];show A.a)) (.loc Q) N (by rw[←g];show htl);replace S:=(vJ _ _)▸S;show rN (S Z H3 m _ h3 λH4 I=>acf rfl (gH (gH (gH (yn ?_)))));show aev (ts:=BO b) (e:=d.length+1+Bx b) (f:=.tup [BM (B7 b),.int ((d.length+1+Bx b:Nat):Int)]) (((A.put (k:=160) rfl (.c (.int ((d.length+1+Bx b:Nat):Int)))).put (k:=318) rfl (.c (.lst ((BO b).map .str)))).put (k:=235) rfl (.c (.str (B7 b)))) (fR rfl fS) (fR rfl (fR rfl fS)) (kl b) (.qY (.chars (p:=false) (.loc fS) .k) (.loc (fR rfl (fR rfl fS)))) (by lia) I λU o O hl C l=>aB (uK C ((hl 160 (by ext)).trans (fR rfl (fR rfl fS))) l D)
 ·have M:¬(c=38/\kind<2):=λz=>by replace e:=(Zr z.1)▸e;replace e:=(Zr z.2)▸e;show nomatch e
  unfold Ip at D;replace D:=(Zi M)▸D;replace D:=(show Cu kind c b=if c=0 then 1 else if c=60/\kind<3 then Ik b else 1+(b.takeWhile (pRun kind c)).length from Zi M)▸D;show wL (.ch (b:=0) (.loc a)) h3 (λe H4 I=>?_) λe H4 I=>?_
  ·replace D:=(Zk (Zm e))▸D;replace D:=(Zk (Zm e))▸D;have hu:Eb (X.Gi (X.loc 191) (X.k (.str [65533])) (X.k (.str [0]))) L2 row (.c (.str [if kind=0 then 0 else 65533])):=.ifi A.c (λz=>by rw[Zi z];show .k) λz=>by rw[Zk z];show .k
   show aew A (.qY (.AM .k) (.loc Q)) (.qY (.chars (p:=false) hu .k) (.loc Q)) (by lia) I λU o O hl C l=>aB (cU (aB (uK C ((hl 160 (by ext)).trans Q) l D)))
  ·replace D:=(Zi (ZA e))▸D;replace D:=(Zi (ZA e))▸D;have hb:Eb (X.and (X.cmp 2 (X.loc 191) (X.k (.int 2))) (X.cmp 8 (X.loc 295) (X.call 788 X.nil))) L2 row (.c (.Ae (Ec kind c))):=λX H m F E w=>by
    show Eb.and (q:=Ec kind c) (p:=decide (kind<2)) (.lt (j:=2) (.loc A.c) .k) (λe=>?_) (λe=>by unfold Ec;rw[e];rfl) X H m F E (λo l=>?_)
    ·unfold Ec;rw[e,XB];show .bl (.loc a)
    ·rw[←Bool.and_assoc,Bool.and_self];show w o l
   show lA hb I λH5 h5=>?_;have i:=A.put (k:=115) rfl (.c (.Ae (Ec kind c)));have G:Sx 295 (put 115 (.c (.Ae (Ec kind c))) L2)=some (.c (.str [c])):=fR rfl a;have s:Sx 160 (put 115 (.c (.Ae (Ec kind c))) L2)=some (.c (.int ((d.length+1:Nat):Int))):=fR rfl Q;have v:Sx 115 (put 115 (.c (.Ae (Ec kind c))) L2)=some (.c (.Ae (Ec kind c))):=fS;generalize put 115 (.c (.Ae (Ec kind c))) L2=L3 at*;have q1:Eb (X.and (X.cmp 0 (X.loc 295) (X.k (.str [60]))) (X.cmp 2 (X.loc 191) (X.k (.int 3)))) L3 row (.c (.Ae (decide (c=60)&&decide (kind<3)))):=λX H m F E w=>by
    show Eb.and (q:=decide (c=60)&&decide (kind<3)) (.ch (.loc G)) (λe=>?_) (λe=>by rw[e];rfl) X H m F E (λo l=>?_)
    ·rw[e,XB];show .lt (j:=3) (.loc i.c) .k
    ·rw[←Bool.and_assoc,Bool.and_self];show w o l
   show wL q1 h5 (λe H6 h6=>?_) λe H6 h6=>?_
   ·replace e:=(Zp _ _)▸e;replace D:=(Zk ((⟨Zm e.1,Zm e.2⟩:c=60/\kind<3)))▸D;have B:Eb (X.Cj (X.loc 311) (X.loc 160) (X.bin 0 (X.loc 160) (X.k (.int 1)))) L3 row (.c (.str (slice (d++c::b) (some ((d.length+1:Nat):Int)) (some ((d.length+1+1:Nat):Int))))):=.Cj (.loc i.a) (.loc s) (.add (j:=1) (.loc s));have es:slice (d++c::b) (some ((d.length+1:Nat):Int)) (some ((d.length+1+1:Nat):Int))=b.take 1:=by
     rw[bD d (c::b) 1 2 rfl rfl];rfl
    replace B:=es▸B;show wL (show Eb (X.cmp 0 (X.Cj (X.loc 311) (X.loc 160) (X.bin 0 (X.loc 160) (X.k (.int 1)))) (X.k (.str [47]))) L3 row (.c (.Ae (decide (b.take 1=[47])))) from λX H m F E w=>aH (B X H m _ E λo l=>aQ (dt (zx (w o l))))) h6 (λt H7 W=>?_) λt H7 W=>?_
    ·have t:=Zm t;have eL:Ik b=2+(Ar (b.drop 1)).length:=Zk t;obtain⟨y,rfl⟩:∃y,b=47::y:=by
      cases b with
      |nil=>show nomatch t
      |cons x b=>show⟨b,by rw[((ZI t).1:x=47)]⟩
     show lA (.wD (d:=d++[c,47]) (r:=y) (n:=d.length+1+1) (.loc (by rw[Zo];show i.a)) (.add (j:=1) (.loc s)) (by rw[Zg];rfl)) W λH8 h8=>aB (cU (aB (cU ?_)));replace D:=eL▸D;replace D:=(show List.drop 1 (47::y)=y from rfl)▸D;replace D:=(show d.length+(2+(Ar y).length)=d.length+1+1+(Ar y).length by lia)▸D;show uL (j:=2+(Ar y).length) (i.put (k:=160) rfl _) fS (by lia) (fR rfl v) h8 u D
    ·replace D:=(show Ik b=1 from Zi (ZA t))▸D;show aB (cU (aB (cU (uL (j:=1) i s rfl v W u D))))
   ·replace D:=(Zi ((λz=>by replace e:=(Zr z.1)▸e;replace e:=(Zr z.2)▸e;show nomatch e:¬(c=60/\kind<3))))▸D;show i5 λP hP=>pj (Z:=Z) (row:=row) (n0:=d.length) (c:=c) hP V b (d++[c]) L3 H6 g i v (by rw[N];show s) h6 λU o a1 a2 T a4=>cU (aB (cU ?_));replace T:=N▸T;show uL (j:=1+(b.takeWhile (pRun kind c)).length) a1 T (by show Yn d.length 1 (List.takeWhile (pRun kind c) b).length) a2 a4 u (by rw[Yn];show D)
end
def jj:∀ {l:TL} {a:Nat},a<=r.length->Im r l a<=r.length
 | [],_,h=>h
 |x::l,a,h=>jj (l:=l) (Nat.max_le.mpr ⟨h,mR⟩)
def nT(r:WJ):Bx r<=r.length:=by
 unfold Bx;cases Si r
 ·show jj (ZF _)
 ·show ZF _
def jm(r:WJ):(Ar r).length<=r.length:=(Z5 _).length_le
def uM(A c:Nat)(b:WJ):1<=Cu A c b/\Cu A c b<=b.length+1:=by
 unfold Cu;have:=nT b;have N:=(Z5 (l:=b) (pRun A c)).length_le;split
 ·show⟨by show ZR 1 (Bx b),by lia⟩
 ·split
  ·show⟨Zq _,by show Z0 1 b.length⟩
  ·split
   ·unfold Ik;split
    ·rename_i q;cases b with
     |nil=>show nomatch q
     |cons x b=>have:=jm b;show⟨by lia,by rw[Zj];change 2+(Ar b).length<=_;lia⟩
    ·show⟨Zq _,by show Z0 1 b.length⟩
   ·show⟨by show ZR 1 (List.takeWhile (pRun A c) b).length,by lia⟩
def pq(A n c:Nat)(b:WJ):(Ip A n c b).length<=2:=by
 unfold Ip;split
 ·rw[Zg,ZD];rcases kl b with h|⟨x,h⟩<;>rw[h]<;>show ZQ rfl
 ·split
  ·show Zq _
  ·show ZQ rfl
def Hs(A:Nat):Nat->Nat->WJ->Tz
 |0,_,_=>[]
 |_+1,_,[]=>[]
 |f+1,n,c::b=>Ip A n c b++Hs A f (n+Cu A c b) ((c::b).drop (Cu A c b))
def pk{K:TB}(a:∀s,R6 SM Ki Mg K P s->P s)(g:A<4):∀(f:Nat) (d r:WJ) (L:Tw) (H:Tx) (m:Nat) (y:Tz),LB L (d++r) d.length A->HB [] H m y->r.length<=f->y.length+2*r.length<=20000->(d++r).length<=10240->
  (∀U Q O,Sx 267 U=some (.ob 64)->HB [] Q O (y++Hs A f d.length r)->K .AZ ⟨U,Q,O,false⟩)->P ⟨L,H,m,false⟩
 |f,d,[],L,H,m,y,hL,h,hf,hlen,htl,hk=>by
  show a _ ?_;have u:Eb Ki L y (.c (.Ae (decide (d.length<(d++([]:WJ)).length)))):=.lt (.loc hL.b) (.len (.loc hL.a));rw[show decide (d.length<(d++([]:WJ)).length)=false from Zs (by rw[Zu];show YA d.length)]at u;show u [] H m _ h λQ l=>aa rfl (bH rfl ?_);have Z:Hs A f d.length []=[]:=by cases f<;>rfl
  rw[Z,Zu]at hk;show hk L Q m hL.e l
 |0,d,c::b,L,H,m,y,hL,h,hf,hlen,htl,hk=>T4 hf (XJ _)
 |f+1,d,c::b,L,H,m,y,hL,h,hf,hlen,htl,hk=>by
  show a _ ?_;have u:Eb Ki L y (.c (.Ae (decide (d.length<(d++c::b).length)))):=.lt (.loc hL.b) (.len (.loc hL.a));rw[show decide (d.length<(d++c::b).length)=true from Zr (by rw[Zg,Zj];lia)]at u;show u [] H m _ h λQ l=>aa rfl (aW rfl ?_);rw[Zj]at hf hlen;show xG hL g l (ZK hlen) htl λj o m2 N n=>zA (uM A c b) λn1 n2=>?_;have e:=pq A d.length c b;have Z:(d++(c::b).take (Cu A c b)).length=d.length+Cu A c b:=by rw[Zg,ZG,Zj];show T3 _ (ZO n2)
  have D:((c::b).drop (Cu A c b)).length=b.length+1-Cu A c b:=by rw[ZM,Zj]
  rw[show d++c::b=(d++(c::b).take (Cu A c b))++(c::b).drop (Cu A c b) by rw[Zo,Yc]]at N htl;show pk a g f (d++(c::b).take (Cu A c b)) ((c::b).drop (Cu A c b)) j o m2 _ (by rw[Z];show N) n (by rw[D];show Nat.sub_le_of_le_add (Zh hf (ZH n1 f))) (by rw[D,Zg];show Zh (Z9 (ZH e _) (Yg 2 (Nat.sub_le_sub_left n1 _))) (Zh (Zz (ZZ _ 2 _)) hlen)) htl λU Q O k i=>hk U Q O k ?_;rw[Z,Zo]at i;show i
def adK(h:HB [] H m y)(D:k (.c (.lst y)) []):fin k (.ret (.ob 64)) ⟨L,H,m,false⟩:=by
 have e:Av H (.ob 64)=some (.lst y,put 64 (.Av (.lst y)) H):=by
  change Af (Sx 64 H) _=_;rw[h.row];rfl
 have U:lo (put 64 (.Av (.lst y)) H)=[]:=by rw[b6 (by ext)];show h.lo
 show aa (a:=(V.c (.lst y),put 64 (.Av (.lst y)) H)) ?_ (aW ?_ ?_)
 ·change BK (Av H (.ob 64)) _=_;rw[e];rfl
 ·rw[U];rfl
 ·rw[U];show D
def FN:Aq:=λu z H k=>∃d r A,u=[.c (.str (d++r)),.c (.int (d.length:Nat)),.c (.int (A:Nat))]/\z=[]/\H=[]/\A<4/\(d++r).length<=5000/\k (.c (.lst (Hs A r.length d.length r))) []
def qI(xs kws H k)(h:FN xs kws H k):Ab (Ah [311,237,191] xs kws) λN=>ex SM Ds ⟨N,H,64,false⟩ (fin k):=by
 show eD h λd r A z j U g D c=>?_;clear h;subst z j U;show aa rfl (aG (d7 (au (aa rfl (aW rfl (gc (i5 λP O=>?_)))))));have e:r.length<=5000:=by replace D:=Zg▸D;show Xk D
 show pk O g r.length d r _ _ _ [] ⟨rfl,rfl,rfl,rfl⟩ ⟨rfl,rfl,Z4 64,λZ a=>(nomatch a)⟩ (Zq _) (by change 0+_<=_;show Zh (Zz (Wb _)) (Zh (Yg 2 e) (by ext))) (by lia) λi Q m b f=>cU (fk (aj (aa b (adK f c))))
def Ny:S:=.seq (.ret (.tup (.cons (.lst (.cons (.tup (.cons (.loc 312) (.cons (.bin 0 (.loc 160) (.k (.int 1))) .nil))) .nil)) (.cons (.bin 0 (.loc 160) (.k (.int 1))) (.cons (.Al (.call 774 .nil) 11 (.cons (.loc 215) (.cons (.k (.int 0)) .nil)) []) (.cons (.loc 215) .nil)))))) .skip
def Nz:S:=.seq (.Aj 312 (.An (.cons (.k (.str Tg)) (.cons (.sub (.BR Ad) (.k (.str Tc))) (.cons (.k (.str Ti)) (.cons (.loc 215) (.cons (.k (.str Th)) (.cons (.An .nil) (.cons (.k (.str Tj)) (.cons (.loc 297) (.cons (.k (.str Tn)) (.cons (.k (.Ae false)) .nil)))))))))))) Ny
def KR:S:=.seq (.iff (.loc 133) (.seq (.ret (.tup (.cons (.lst (.cons (.tup (.cons (.An (.cons (.k (.str Tg)) (.cons (.sub (.BR Ad) (.k (.str Td))) (.cons (.k (.str Ti)) (.cons (.loc 215) (.cons (.k (.str Th)) (.cons (.lst .nil) (.cons (.k (.str Tj)) (.cons (.k (.Ae false)) .nil))))))))) (.cons (.bin 0 (.loc 160) (.k (.int 1))) .nil))) .nil)) (.cons (.bin 0 (.loc 160) (.k (.int 1))) (.cons (.k (.int 0)) (.cons (.k (.str [])) .nil)))))) .skip) .skip) Nz
def NA:S:=.seq (.iff (.cmp 0 (.loc 160) (.fn 0 (.cons (.loc 311) .nil))) (.seq (.ret (.tup (.cons (.lst (.cons (.tup (.cons (.call 795 (.cons (.Gi (.loc 297) (.k (.str Tu)) (.k (.str Tt))) .nil)) (.cons (.loc 160) .nil))) .nil)) (.cons (.loc 160) (.cons (.k (.int 0)) (.cons (.k (.str [])) .nil)))))) .skip) .skip) KR
def PC:S:=.seq (.DI 160 0 (.Gi (.cmp 0 (.sub (.loc 311) (.loc 160)) (.k (.str [62]))) (.k (.int 0)) (.k (.int 1)))) NA
def PD:S:=.seq (.Aj 297 (.cmp 0 (.sub (.loc 311) (.loc 160)) (.k (.str [47])))) PC
def Nv:S:=.seq (.iff (.cmp 0 (.loc 160) (.fn 0 (.cons (.loc 311) .nil))) (.seq (.ret (.tup (.cons (.lst (.cons (.tup (.cons (.call 795 (.cons (.k (.str Ts)) .nil)) (.cons (.loc 160) .nil))) .nil)) (.cons (.loc 160) (.cons (.k (.int 0)) (.cons (.k (.str [])) .nil)))))) .skip) .skip) PD
def PF:S:=.seq (.iff (.cmp 0 (.loc 215) (.k (.str []))) (.seq (.Aj 318 (.An (.cons (.k (.str Tg)) (.cons (.sub (.BR Ad) (.k (.str Tf))) (.cons (.k (.str Th)) (.cons (.k (.str Tr)) (.cons (.k (.str Tv)) (.cons (.An (.cons (.k (.str Th)) (.cons (.sub (.loc 311) (.loc 301)) .nil))) .nil)))))))) (.seq (.Aj 303 (.Al (.bin 0 (.loc 311) (.k (.str [62]))) 10 (.cons (.k (.str [62])) (.cons (.loc 301) .nil)) [])) (.seq (.Aj 160 (.fn 6 (.cons (.bin 0 (.loc 303) (.k (.int 1))) (.cons (.fn 0 (.cons (.loc 311) .nil)) .nil)))) (.seq (.ret (.tup (.cons (.lst (.cons (.tup (.cons (.loc 318) (.cons (.loc 301) .nil))) (.cons (.tup (.cons (.An (.cons (.k (.str Tg)) (.cons (.sub (.BR Ad) (.k (.str Te))) (.cons (.k (.str Th)) (.cons (.Cj (.loc 311) (.loc 301) (.loc 303)) .nil))))) (.cons (.loc 160) .nil))) .nil))) (.cons (.loc 160) (.cons (.k (.int 0)) (.cons (.k (.str [])) .nil)))))) .skip)))) .skip) Nv
def PG:S:=.seq (.iff (.and (.cmp 0 (.loc 215) (.k (.str []))) (.cmp 0 (.loc 160) (.fn 0 (.cons (.loc 311) .nil)))) (.seq (.ret (.tup (.cons (.lst (.cons (.tup (.cons (.call 795 (.cons (.k (.str Tq)) .nil)) (.cons (.loc 160) .nil))) (.cons (.tup (.cons (.call 802 (.cons (.k (.str [60,47])) (.cons (.k (.Ae false)) .nil))) (.cons (.loc 160) .nil))) .nil))) (.cons (.loc 160) (.cons (.k (.int 0)) (.cons (.k (.str [])) .nil)))))) .skip) .skip) PF
def Nw:S:=.seq (.iff (.and (.cmp 0 (.loc 215) (.k (.str []))) (.not (.loc 133))) (.seq (.ret (.tup (.cons (.lst (.cons (.tup (.cons (.call 795 (.cons (.k (.str Tp)) .nil)) (.cons (.loc 301) .nil))) (.cons (.tup (.cons (.call 802 (.cons (.k (.str [60])) (.cons (.k (.Ae false)) .nil))) (.cons (.loc 301) .nil))) .nil))) (.cons (.loc 301) (.cons (.k (.int 0)) (.cons (.k (.str [])) .nil)))))) .skip) .skip) PG
def PH:S:=.seq (.Aj 215 (.Al (.Cj (.loc 311) (.loc 301) (.loc 160)) 7 .nil [])) Nw
def Nx:S:=.seq (.Aj 160 (.call 816 (.cons (.loc 311) (.cons (.loc 301) .nil)))) PH
def NB:S:=.seq (.Aj 301 (.Gi (.loc 133) (.bin 0 (.loc 237) (.k (.int 2))) (.bin 0 (.loc 237) (.k (.int 1))))) Nx
def NC:S:=.seq (.Aj 133 (.cmp 0 (.Cj (.loc 311) (.bin 0 (.loc 237) (.k (.int 1))) (.bin 0 (.loc 237) (.k (.int 2)))) (.k (.str [47])))) NB
noncomputable def knd(nm:WJ):FV:=Option.rec (.int 0) (λv=>v) (sel nm PU)
def DX(f:FV)(e:Int)(v:FV)(nm:WJ):FV:=.tup [.lst [.tup [f,.int e]],.int e,v,.str nm]
def EH(f:FV)(U:Int)(j:FV)(e:Int):FV:=.tup [.lst [.tup [f,.int U],.tup [j,.int e]],.int e,.int 0,.str []]
def C9(cl:Bool)(nm:WJ)(sl:Bool)(e:Int):FV:=Bool.rec (DX (.An (OL nm (.An []) sl)) (e+1) (knd nm) nm) (DX (.An (OT nm)) (e+1) (.int 0) []) cl
def F3(cl:Bool)(nm:WJ)(n:Int)(r3:WJ):FV:=match r3 with
 | []=>DX (C2 F7) n (.int 0) []
 |y::r4=>if y=62 then C9 cl nm false n else match r4 with
  | []=>DX (C2 (if y=47 then Dg else Dm)) (n+1) (.int 0) []
  |_::_=>C9 cl nm (decide (y=47)) (n+1)
abbrev Lm(text:WJ)(n0:Int)(cl:Bool)(s e:Int)(nm:WJ)(y:Tw):Tw:=(311,.c (.str text))::(237,.c (.int n0))::(133,.c (.Ae cl))::(301,.c (.int s))::(160,.c (.int e))::(215,.c (.str nm))::y
section
variable {k:V->Tx->Prop}{text nm x r3:WJ}{n0 s e:Int}{cl sl:Bool}
def acY(D:k (.c (C9 cl nm sl e)) []):ex SM KR ⟨Lm text n0 cl s e nm [(297,.c (.Ae sl))],[],64,false⟩ (fin k):=by
 cases cl with
 |true=>
  conv=>whnf
  show D
 |false=>
  conv=>whnf
  show⟨rfl,rfl,rfl,?_⟩
  conv=>whnf
  show D
def wF:Cn [c] [b]=decide (c=b):=by rw[aE];simp
def mk7(D:k (.c (F3 cl nm (x.length:Nat) r3)) []):ex SM Nv ⟨Lm (x++r3) n0 cl s (x.length:Nat) nm [],[],64,false⟩ (fin k):=by
 cases r3 with
 |nil=>
  conv=>whnf
  show aW (Zr (by rw[Zu])) ?_
  conv=>whnf
  show(aY _ rfl rfl rfl ?_)
  conv=>whnf
  show D
 |cons y Q=>
  conv=>whnf
  show bH (Zs (by rw[Zg,Zj];lia)) ?_
  conv=>whnf
  show aa (c8 x Q y) ?_
  conv=>whnf
  show aa (c8 x Q y) ?_
  conv=>whnf
  show bh (λq=>?_) λq=>?_
  ·have q:=Zm (iL q);subst q;have D:=D;rw[←Int.add_zero x.length]at D
   conv=>whnf
   show bH (Zs (by rw[Zg,Zj];lia)) (acY D)
  ·have q1:=ZA (iL q);cases Q with
   |nil=>
    have U:F3 cl nm (x.length:Nat) [y]=DX (C2 (if y=47 then Dg else Dm)) (((x.length:Nat):Int)+1) (.int 0) []:=Zi q1;rw[U]at D
    conv=>whnf
    show aW (Zr (by rw[Zg];rfl)) ?_
    conv=>whnf
    show bh (λq2=>?_) λq2=>?_
    ·rw[Zk (Zm (iL q2))]at D
     conv=>whnf
     show(aY _ rfl rfl rfl ?_)
     conv=>whnf
     show D
    ·rw[Zi (ZA (iL q2))]at D
     conv=>whnf
     show(aY _ rfl rfl rfl ?_)
     conv=>whnf
     show D
   |cons z Q=>
    have U:F3 cl nm (x.length:Nat) (y::z::Q)=C9 cl nm (decide (y=47)) (((x.length:Nat):Int)+1):=Zi q1;rw[U, ←wF]at D
    conv=>whnf
    show bH (Zs (by rw[Zg,Zj,Zj];lia)) (acY D)
def C5(cl:Bool)(n:Nat)(rr:WJ):FV:=if Ar rr=[]then
  Bool.rec (EH (C2 CM) (n:Nat) (BM [60]) (n:Nat)) (match rr with
   | []=>EH (C2 Dl) (n:Nat) (BM [60,47]) (n:Nat)
   |c::_=>EH (Hc BX c) (n:Nat) (JG (AJ [62] rr)) ((n+min ((AJ [62] rr).length+1) rr.length:Nat):Int)) cl
 else F3 cl (Bp (Ar rr)) ((n+(Ar rr).length:Nat):Int) (rr.drop (Ar rr).length)
def aaU(d r:WJ):Mz 62 (d++r++[62]) d.length=((d.length+(AJ [62] r).length:Nat):Int):=by
 have e:(d++r++[62]).drop d.length=r++[62]:=by rw[Zo,YU]
 have Z:∀r:WJ,(r++[62]).findIdx? (λy=>beq y 62)=some (AJ [62] r).length:=λr=>by
  induction r with
  |nil=>rfl
  |cons c r Q=>
   rw[Y2,List.findIdx?_cons,Q];change _=some ((c::r).takeWhile λc=>B1 (decide (c∈[62])) false).length;rw[Z2];by_cases h:c=62
   ·subst h;rfl
   ·have U:=bX h;have N:=Zs λz=>h (Za z);rw[U,N];rfl
 unfold Mz;rw[e,Z]
def mk4(f:(d++g).length<=5000)(D:k (.c (C5 cl d.length g)) []):ex SM Nw ⟨Lm (d++g) n0 cl (d.length:Nat) ((d.length+(Ar g).length:Nat):Int) (Bp (Ar g)) [],[],64,false⟩ (fin k):=by
 unfold C5 at D;by_cases h:Ar g=[]
 ·rw[Zk h]at D;rw[h];cases cl with
  |false=>
   conv=>whnf
   show(aY _ rfl rfl rfl ?_)
   conv=>whnf
   show(bG _ _ rfl rfl rfl ?_)
   conv=>whnf
   show D
  |true=>
   cases g with
   |nil=>
    conv=>whnf
    show aW (Zr (by rw[Zu];rfl)) ?_
    conv=>whnf
    show(aY _ rfl rfl rfl ?_)
    conv=>whnf
    show(bG _ _ rfl rfl rfl ?_)
    conv=>whnf
    show D
   |cons c g=>
    have b:(AJ [62] (c::g)).length<=(c::g).length:=(Z5 _).length_le;have u:=aaU d (c::g);have Q:slice (d++c::g) (some d.length) (some (d.length+(AJ [62] (c::g)).length))=AJ [62] (c::g):=by
     show(bD d (c::g) 0 (AJ [62] (c::g)).length (X0.mpr rfl) rfl).trans ((Ym.mp (Z5 _)).symm)
    have D:=D;generalize AJ [62] (c::g)=uu at*;have O:(if((d++c::g).length)<(((d.length+uu.length:Nat):Int)+1)then((((d++c::g).length:Nat):Int))else(((d.length+uu.length:Nat):Int)+1))=((d.length+min (uu.length+1) (c::g).length:Nat):Int):=by
     rw[Zg];by_cases h:d.length+(c::g).length<d.length+uu.length+1
     ·show(Zk (Xa.mpr h)).trans (T3 (λz=>((d.length+z:Nat):Int)) (Nat.min_eq_right (Yo (Nat.lt_of_add_lt_add_left h)))).symm
     ·show(Zi λq=>h (Xa.mp q)).trans (show((d.length+(uu.length+1):Nat):Int)=_ from T3 (λz=>((d.length+z:Nat):Int)) (ZO (Nat.le_of_add_le_add_left (XR h))).symm)
    conv=>whnf
    show bH (Zs (by rw[Zg,Zj];change¬(((d.length+0:Nat):Int)=_);lia)) ?_
    conv=>whnf
    show aa (o:=Co (d++c::g) ((d.length:Nat):Int)) (c8 d g c) ?_
    conv=>whnf
    show⟨?_,?_⟩
    ·change(d++c::g).length+1<=16777216;lia
    conv=>whnf
    show⟨⟨by show Yx d.length,?_⟩,?_⟩
    ·change d.length<=_;rw[Zg,Zg];lia
    rw[(show((d.length:Nat):Int).toNat=d.length from rfl),u];have v:k (.c (EH (Hc BX c) (d.length:Nat) (JG (slice (d++c::g) (some ((d.length:Nat):Int)) (some ((d.length+uu.length:Nat):Int)))) (if((((d++c::g).length:Nat):Int))<(((d.length+uu.length:Nat):Int)+1)then((((d++c::g).length:Nat):Int))else(((d.length+uu.length:Nat):Int)+1)))) []:=by
     rw[Q,O];show D
    conv=>whnf
    show v
 ·rw[Zi h]at D;have e:d++g=(d++Ar g)++g.drop (Ar g).length:=by
   rw[Zo];congr 1;have:g=g.take (Ar g).length++g.drop (Ar g).length:=(Yc _ _).symm;have N:Ar g=g.take (Ar g).length:=Ym.mp (Z5 _);rw[←N]at this;show this
  have Z:(d++Ar g).length=d.length+(Ar g).length:=Zg;rw[←Z]at D;have O:=mk7 (n0:=n0) (s:=(d.length:Nat)) D;rw[←e,Z]at O;have j:∃a l,Bp (Ar g)=a::l:=by
   cases q:Ar g with
   |nil=>show T4 q h
   |cons a l=>show(j2 _ _ rfl)
  generalize Bp (Ar g)=nn at*;show iq j λa l P=>?_;clear D j;subst P;cases cl<;>
  ·conv=>whnf
   show O
end
def GH(n:Nat)(r:WJ):FV:=if r.take 1=[47]then C5 true (n+2) (r.drop 1)else C5 false (n+1) r
def Gq:Aq:=λu z H k=>∃d r,u=[.c (.str (d++60::r)),.c (.int (d.length:Nat))]/\z=[]/\H=[]/\(d++60::r).length<=5000/\k (.c (GH d.length r)) []
def tA:∀c∈AW,c<128:=by ext
def tz(r:WJ):((Ar r).all λc=>or (Nat.blt c 128) (beq c 233))=true:=Zv.mpr λc u=>by
 have:decide (c∈AW)=true:=by
  unfold Ar at u;induction r with
  |nil=>show nomatch u
  |cons a r Q=>
   rw[Z2]at u;split at u
   ·rename_i q;rcases Zb u with rfl|u
    ·show q
    ·show Q u
   ·show nomatch u
 rw[show Nat.blt c 128=true from Nat.ble_eq.mpr (tA c (Zm this))];rfl
def mk2(N:u=d++rr)(D:u.length<=5000)(e:k (.c (C5 g d.length rr)) []):ex SM Nx ⟨[(311,.c (.str u)),(237,.c (.int O)),(133,.c (.Ae g)),(301,.c (.int (d.length:Nat)))],[],64,false⟩ (fin k):=by
 subst N
 conv=>whnf
 show(bG d rr rfl rfl rfl ?_);have Q:slice (d++rr) (some d.length) (some (d.length+(Ar rr).length))=Ar rr:=
  (bD d rr 0 (Ar rr).length (X0.mpr rfl) rfl).trans (Ym.mp (Z5 _)).symm
 conv=>whnf
 show⟨?_,?_⟩
 ·rw[Q];show tz rr
 rw[Q];show mk4 D e
def um(xs kws H k)(h:Gq xs kws H k):Ab (Ah [311,237] xs kws) λN=>ex SM NC ⟨N,H,64,false⟩ (fin k):=by
 show dH h λd r P z j e D=>?_;clear h;subst P z j;have Q:slice (d++60::r) (some (d.length+1)) (some (d.length+2))=r.take 1:=by
  rw[bD d (60::r) 1 2 (Int.ofNat_add_one_out d.length) (by lia)];rfl
 unfold GH at D;have U:d.length+1=(((d++[60]).length):Int):=by rw[Zg];rfl
 show aa rfl ?_;have go:∀x:WJ,x=r.take 1->ex SM NB ⟨[(311,.c (.str (d++60::r))),(237,.c (.int (d.length:Nat))),(133,.c (.Ae (Cn x [47])))],[],64,false⟩ (fin k):=λx f=>by
  subst f;rw[aE];by_cases q:r.take 1=[47]
  ·replace D:=(Zk q)▸D;rw[Zr q];obtain⟨u,rfl⟩:∃u,r=47::u:=by
    cases r with
    |nil=>show nomatch q
    |cons x b=>show⟨b,by rw[((ZI q).1:x=47)]⟩
   have Z:((d.length:Nat):Int)+2=(((d++[60,47]).length:Nat):Int):=by rw[Zg];rfl
   show aG (ou (aj (aa rfl (aa rfl (aW rfl (cm (aj (aa rfl (aQ (qM ?_))))))))));rw[Z];show mk2 (d:=d++[60,47]) (rr:=u) (by rw[Zo];rfl) e (by rw[Zg];show D)
  ·replace D:=(Zi q)▸D;rw[Zs q];show aG (ou (aj (aa rfl (aa rfl (bH rfl (cm (aj (aa rfl (aQ (qM ?_))))))))));rw[U];show mk2 (d:=d++[60]) (rr:=r) (by rw[Zo];rfl) e (by rw[Zg];show D)
 show aG ?_
 conv=>whnf
 show go _ Q
def Lq:S:=.seq (.Aj 160 (.bin 0 (.bin 0 (.loc 301) (.k (.int 2))) (.fn 0 (.cons (.loc 215) .nil)))) (.seq (.iff (.and (.cmp 0 (.loc 191) (.k (.int 0))) (.cmp 0 (.sub (.loc 311) (.loc 301)) (.k (.str [60])))) (.seq (.ret (.loc 301)) .skip) .skip) (.seq (.iff (.and (.cmp 8 (.loc 191) (.tup (.cons (.k (.int 1)) (.cons (.k (.int 2)) .nil)))) (.and (.cmp 0 (.Cj (.loc 311) (.loc 301) (.bin 0 (.loc 301) (.k (.int 2)))) (.k (.str [60,47]))) (.and (.cmp 0 (.Al (.Cj (.loc 311) (.bin 0 (.loc 301) (.k (.int 2))) (.loc 160)) 7 .nil []) (.loc 215)) (.cmp 8 (.Cj (.loc 311) (.loc 160) (.bin 0 (.loc 160) (.k (.int 1)))) (.tup (.cons (.k (.str [32])) (.cons (.k (.str [62])) .nil))))))) (.seq (.ret (.loc 301)) .skip) .skip) .skip))
def Fc:S:=.seq (.NV 301 (.cons (.loc 237) (.cons (.fn 0 (.cons (.loc 311) .nil)) .nil)) Lq) (.seq (.ret (.fn 0 (.cons (.loc 311) .nil))) .skip)
def B6(A:Nat)(nm r:WJ):Bool:=if A=0 then decide (r.take 1=[60])else if A<3 then(decide (r.take 2=[60,47])&&(decide (Bp ((r.drop 2).take nm.length)=nm)&&decide ((r.drop (2+nm.length)).take 1=[32]\/(r.drop (2+nm.length)).take 1=[62])))else false
def DP(A:Nat)(nm:WJ):WJ->Nat
 | []=>0
 |c::r=>if B6 A nm (c::r)=true then 0 else DP A nm r+1
abbrev Ls(u nm:WJ)(n:Int)(A:Nat)(y:Tw):Tw:=(311,.c (.str u))::(237,.c (.int n))::(191,.c (.int (A:Nat)))::(215,.c (.str nm))::y
def qO{l:WJ}(h:l.all p=true)(i j:Nat):(((l.drop i).take j).all p)=true:=Zv.mpr λc u=>Zd h c (List.mem_of_mem_drop (List.mem_of_mem_take u))
def Ep(x:X)(s:St)(v:V):Prop:=∀F:TC,F v s->SU SM x s (one F)
section
variable {s:St}{a b c:X}
def Ep.loc(h:Sx n s.L=some v):Ep (.loc n) s v:=λZ z=>aj (aa h z)
def Ep.and(Q:Ep a s (.c (.Ae p)))(P:Ep b s (.c (.Ae q))):Ep (.and a b) s (.c (.Ae (p&&q))):=λF z=>gM (Q _ (aa rfl (bh (λe=>P _ (by replace z:=(show p=true from e)▸z;replace z:=(XB _)▸z;show z)) λe=>by have e:p=false:=e;replace z:=e▸z;replace z:=(Wg _)▸z;rw[e];show z)))
theorem Ep.LU(Q:Ep a s (.c (.str x))):Ep (.cmp 0 a (.k (.str y))) s (.c (.Ae (decide (x=y)))):=λF z=>aH (Q _ (aQ (dt (show F (.c (.Ae (Cn x y))) s by rw[aE];show z))))
def Ep.eqt(Q:Ep a s (.c (.str x)))(P:Ep b s (.c (.str y))):Ep (.cmp 0 a b) s (.c (.Ae (decide (x=y)))):=λF z=>aH (Q _ (P _ (dt (show F (.c (.Ae (Cn x y))) s by rw[aE];show z))))
def Ep.add(Q:Ep a s (.c (.int i))):Ep (.bin 0 a (.k (.int j))) s (.c (.int (i+j))):=λF z=>cm (Q _ (aQ (qM z)))
theorem Ep.Cj(Q:Ep a s (.c (.str x)))(P:Ep b s (.c (.int i)))(u:Ep c s (.c (.int j))):Ep (.Cj a b c) s (.c (.str (slice x (some i) (some j)))):=λF z=>d6 (Q _ (P _ (u _ z)))
def Ep.sX(Q:Ep a s (.c (.str n))):Ep (.cmp 8 a (.tup (.cons (.k (.str x)) (.cons (.k (.str y)) .nil)))) s (.c (.Ae (decide (n=x\/n=y)))):=λF z=>aH (Q _ (dW (ah (aQ (ah (aQ (au (aa rfl (aW rfl (dt ((aa Mine.A.sX z:Ab (CT (.str n) [.str x,.str y]) λq=>F (.c (.Ae q)) s))))))))))))
end
def zK(A:Nat)(h:A<4)(nm:WJ)(c:Nat)(r:WJ):B6 A nm (c::r)=((decide ((A:Int)=0)&&decide ([c]=[60]))||(beq A 1||beq A 2)&&(decide ((c::r).take 2=[60,47])&&(decide (Bp (((c::r).drop 2).take nm.length)=nm)&&decide (((c::r).drop (2+nm.length)).take 1=[32]\/((c::r).drop (2+nm.length)).take 1=[62])))):=
 k4 (P:=λA=>B6 A nm (c::r)=((decide ((A:Int)=0)&&decide ([c]=[60]))||(beq A 1||beq A 2)&&_)) (Wp _).symm rfl rfl rfl h
def vw{K:TB}{d r nm:WJ}(g:A<4)(O:((c::r).all λc=>or (Nat.blt c 128) (beq c 233))=true)(l:Sx 301 y=some (.c (.int (d.length:Nat))))
  (U:B6 A nm (c::r)=true->∀y,K (.ret (.c (.int (d.length:Nat)))) ⟨Ls (d++c::r) nm n A y,[],64,false⟩) (N:B6 A nm (c::r)=false->∀y,K .AZ ⟨Ls (d++c::r) nm n A y,[],64,false⟩):ex SM Lq ⟨Ls (d++c::r) nm n A y,[],64,false⟩ K:=by
 show aG (cm (cm (aj (aa l (aQ (qM (fO (ah (aj (aa rfl (au (eW (qM ?_)))))))))))));rw[zK A g]at U N;generalize m:(V.c (.int (d.length+2+nm.length)))=v;have f:Sx 301 (put 160 v y)=some (.c (.int (d.length:Nat))):=fR rfl l;have Q:Sx 160 (put 160 v y)=some v:=fS;have D:slice (d++c::r) (some (d.length+2+(nm.length:Nat))) (some ((d.length:Nat)+2+(nm.length:Nat)+1))=((c::r).drop (2+nm.length)).take 1:=by
  rw[bD d (c::r) (2+nm.length) (2+nm.length+1) (by lia) (by lia),YQ]
 have Z:slice (d++c::r) (some ((d.length:Nat)+2)) (some ((d.length:Nat)+2+((nm.length:Nat):Int)))=((c::r).drop 2).take nm.length:=by
  rw[bD d (c::r) 2 (2+nm.length) (by lia) (by lia),YQ]
 rw[←(show slice (d++c::r) (some ((d.length:Nat):Int)) (some (((d.length:Nat):Int)+2))=(c::r).take 2 from bD d (c::r) 0 2 rfl rfl), ←Z, ←D]at U N;have h:Ep (.loc 311) ⟨Ls (d++c::r) nm n A (put 160 v y),[],64,false⟩ (.c (.str (d++c::r))):=Ep.loc rfl;have u:Ep (.loc 301) ⟨Ls (d++c::r) nm n A (put 160 v y),[],64,false⟩ (.c (.int (d.length:Nat))):=Ep.loc ((f:Sx 301 (put 160 v y)=_));have lE:Ep (.loc 160) ⟨Ls (d++c::r) nm n A (put 160 v y),[],64,false⟩ (.c (.int (((d.length:Nat):Int)+2+((nm.length:Nat):Int)))):=Ep.loc ((m▸Q:Sx 160 (put 160 v y)=_));have k:=(show Ep (.cmp 0 (.loc 191) (.k (.int 0))) ⟨Ls (d++c::r) nm n A (put 160 v y),[],64,false⟩ (.c (.Ae (decide ((A:Int)=0)))) from λF z=>aH (aj (aa rfl (aQ (dt z))))).and (show Ep (.cmp 0 (.sub (.loc 311) (.loc 301)) (.k (.str [60]))) ⟨Ls (d++c::r) nm n A (put 160 v y),[],64,false⟩ (.c (.Ae (decide ([c]=[60])))) from Ep.LU λF z=>bK (h _ (u _ (aa (o:=Co (d++c::r) ((d.length:Nat):Int)) (c8 d r c) z))));have p:=(show Ep (.cmp 8 (.loc 191) (.tup (.cons (.k (.int 1)) (.cons (.k (.int 2)) .nil)))) ⟨Ls (d++c::r) nm n A (put 160 v y),[],64,false⟩ (.c (.Ae (beq A 1||beq A 2))) from λF z=>aH (aj (aa rfl (dW (ah (aQ (ah (aQ (au (aa (a:=([FV.int 1,FV.int 2],[])) rfl (aW rfl (dt ((aa (k4 (P:=λA=>CT (.int (A:Nat)) [.int 1,.int 2]=some (beq A 1||beq A 2)) rfl rfl rfl rfl g) z:Ab (CT (.int (A:Nat)) [.int 1,.int 2]) λq=>F (.c (.Ae q)) ⟨Ls (d++c::r) nm n A (put 160 v y),[],64,false⟩)))))))))))))).and ((Ep.LU (y:=[60,47]) (h.Cj u (u.add (j:=2)))).and (((show Ep (.Al (.Cj (.loc 311) (.bin 0 (.loc 301) (.k (.int 2))) (.loc 160)) 7 .nil []) ⟨Ls (d++c::r) nm n A (put 160 v y),[],64,false⟩ (.c (.str (Bp (slice (d++c::r) (some (((d.length:Nat):Int)+2)) (some (((d.length:Nat):Int)+2+((nm.length:Nat):Int))))))) from λF z=>aJ (h.Cj u.add lE _ (aa rfl (au ⟨by rw[Z];show qO O _ _,z⟩)))).eqt (show Ep (.loc 215) ⟨Ls (d++c::r) nm n A (put 160 v y),[],64,false⟩ (.c (.str nm)) from Ep.loc rfl)).and (Ep.sX (x:=[32]) (y:=[62]) (h.Cj lE (lE.add (j:=1))))));show bE (k _ (aa rfl (bh (λe=>?_) λe=>?_)))
 ·show fk (u _ (q_r (U (by rw[(show(decide ((A:Int)=0)&&decide ([c]=[60]))=true from e),Bool.true_or]) _)))
 rw[show(decide ((A:Int)=0)&&decide ([c]=[60]))=false from e,Bool.false_or]at U N;show aB (cU (bE (p _ (aa rfl (bh (λi=>?_) λi=>?_)))))
 ·show fk (u _ (q_r (U i _)))
 ·show aB (cU (aB (N i _)))
def nM{K:TB}{nm:WJ}(g:A<4):∀(r d:WJ) (y:Tw),(r.all λc=>or (Nat.blt c 128) (beq c 233))=true->(DP A nm r=r.length->∀y,K .AZ ⟨Ls (d++r) nm n A y,[],64,false⟩)->(∀j,DP A nm r=j->j<r.length->∀y,K (.ret (.c (.int ((d.length+j:Nat):Int)))) ⟨Ls (d++r) nm n A y,[],64,false⟩)->
  Dd (ex SM Lq) (C3 [301]) (En ((d.length:Nat):Int) r.length) ⟨Ls (d++r) nm n A y,[],64,false⟩ K
 | [],d,y,_,hn,_=>hn rfl y
 |c::r,d,y,hch,hn,hs=>by
  rw[iC];show vw g hch fS (λq y=>?_) λq y=>?_
  ·show hs 0 (Zk q) (YB _) y
  ·have e:DP A nm (c::r)=DP A nm r+1:=Zi (by rw[q];decide);have U:((d++[c]).length)=d.length+1:=by rw[Zg];rfl
   have Z:(d++[c])++r=d++c::r:=by rw[Zo];rfl
   rw[e]at hn hs;have Q:=nM g r (d++[c]) y (ar hch).2 (λz=>by rw[Z];show hn (by rw[z];rfl)) λj f N=>by
    rw[Z];rw[(show(d++[c]).length+j=d.length+(j+1) by rw[Zg];show YJ d.length j)];show hs (j+1) (by rw[f]) (Xv N)
   rw[U,Z]at Q;show Q
def rx(A:Nat)(nm:WJ):∀r:WJ,DP A nm r<=r.length
 | []=>Zq _
 |c::r=>by
  change(if B6 A nm (c::r)=true then 0 else DP A nm r+1)<=r.length+1;split
  ·show ZF _
  ·show Z1 (rx A nm r)
def IA:Aq:=λu z H k=>∃d r A nm,u=[.c (.str (d++r)),.c (.int (d.length:Nat)),.c (.int (A:Nat)),.c (.str nm)]/\z=[]/\H=[]/\A<4/\(d++r).length<=5000/\(r.all λc=>or (Nat.blt c 128) (beq c 233))=true/\k (.c (.int ((d.length+DP A nm r:Nat):Int))) []
def aa5(xs kws H k)(h:IA xs kws H k):Ab (Ah [311,237,191,215] xs kws) λf=>ex SM Fc ⟨f,H,64,false⟩ (fin k):=by
 obtain⟨d,r,A,nm,rfl,rfl,rfl,g,i,O,D⟩:=h;have u:=i;rw[Zg]at u;show aa rfl ?_
 conv=>whnf
 show⟨⟨⟨by show X2 1000000 d.length,by lia⟩,by show X2 1000000 (d++r).length,by lia⟩,?_⟩;have e:(((d++r).length)-((d.length:Nat):Int)).toNat=r.length:=by rw[Zg];lia
 rw[e];show nM g r d [] O (λP y=>?_) λj Q N y=>?_
 ·rw[P, ←Zg]at D;show cU (b:=S.seq (S.ret (X.fn 0 (X.cons (X.loc 311) X.nil))) S.skip) (fk (fO (ah (aj (aa rfl (au (eW D)))))))
 ·rw[Q]at D;show D
def jN:∀(x r:WJ),r.take (Dq x r)<+:x
 | [],r=>List.nil_prefix
 |a::x,[]=>List.nil_prefix
 |a::x,b::r=>by
  change(b::r).take (if b=a then Dq x r+1 else 0)<+:_;split
  ·rename_i h;subst h;rw[List.take_succ_cons,Y1];show⟨rfl,jN x r⟩
  ·show List.nil_prefix
def jO:∀ {y x r:WJ},y<+:x->y<+:r->y.length<=Dq x r
 | [],_,_,_,_=>ZF _
 |a::y,[],_,h,_=>by simp at h
 |a::y,_::_,[],_,h=>by simp at h
 |a::y,b::x,c::r,U,N=>by
  rw[Y1]at U N;obtain⟨rfl,U⟩:=U;obtain⟨rfl,N⟩:=N;change _<=if a=a then Dq x r+1 else 0;rw[Zk rfl];show Z1 (jO U N)
def lq:Dq x r=x.length↔x<+:r:=by
 have U:=jN x r;have N:=U.length_le;rw[ZG,ZO mR]at N;constructor
 ·intro e;rw[←(U.eq_of_length (by rw[ZG,ZO mR,e]))];show XS _ _
 ·show λh=>YK N (jO (XT _) h)
def kF:∀ {l:TL} {a:Nat},a<=Im r l a
 | [],a=>Zq _
 |x::l,a=>Zh (Nat.le_max_left _ _) (kF)
def mx:∀ {l:TL} {a:Nat},x∈l->Dq x r<=Im r l a
 |y::l,a,h=>by
  rcases Zb h with rfl|h
  ·show Zh (Nat.le_max_right _ _) (kF)
  ·show mx (l:=l) h
def tm:∀ {l:TL} {a:Nat},Im r l a=a\/∃x∈l,Im r l a=Dq x r
 | [],a=>.inl rfl
 |y::l,a=>by
  rcases tm (l:=l) (a:=max a (Dq y r))with h|⟨x,P,h⟩
  ·have h:Im r (y::l) a=max a (Dq y r):=h;rcases Nat.le_total a (Dq y r)with q|q
   ·show .inr (aO y (.head _) (by rw (occs:=.all) [h,Nat.max_eq_right q]))
   ·show .inl (by rw (occs:=.all) [h,Nat.max_eq_left q])
  ·show .inr (aO x (.tail _ P) h)
def uf:∀(r k:WJ),∃j,j<=r.length/\F6 k r=k++r.take j/\(j=0\/Dw (k++r.take j)=true)/\(j=r.length\/Dw (k++r.take (j+1))=false)
 | [],k=>(aY 0 (Zq _) (Zu k).symm (.inl rfl) (.inl rfl))
 |c::r,k=>by
  have e:∀j,(k++[c])++r.take j=k++(c::r).take (j+1):=λj=>by rw[Zo];rfl
  by_cases h:Dw (k++[c])=true
  ·show bO (uf r (k++[c])) λj U N D A=>?_;rw[e]at N D A;show(aY (j+1) (Z1 U) ((Zk h).trans N) (.inr ?_) ?_)
   ·rcases D with rfl|D
    ·show h
    ·show D
   ·rcases A with A|A
    ·show .inl (T3 (· +1) A)
    ·show .inr A
  ·show(aY 0 (ZF _) ((Zi h).trans (Zu k).symm) (.inl rfl) (.inr (by simpa using h)))
def j7{r:WJ}(h:i<=j):r.take i<+:r.take j:=by
 have:=XS i (r.take j);rw[List.take_take,ZO h]at this;show this
def jI(r:WJ):F6 [] r=r.take (BW r):=by
 show bO (uf r []) λj U N D A=>?_;rw[YL]at N D A;have a:j<=BW r:=by
  rcases D with rfl|D
  ·show ZF _
  ·show aA ((fH _).mp D) λx P e=>?_;have:=jO e (XS j r);rw[ZG,ZO U]at this;show Zh this (mx P)
 have b:BW r<=j:=by
  rcases A with A|A
  ·rw[A];show jj (ZF _)
  ·show Y0 λz=>?_;rcases tm with q|⟨x,P,q⟩
   ·have q:BW r=0:=q;lia
   ·have q:BW r=Dq x r:=q;have c:Dw (r.take (j+1))=true:=(fH _).mpr (aO x P ((j7 (by lia)).trans (jN x r)));rw[A]at c;show nomatch c
 rw (occs:=.all) [N,YK a b]
def te:∀j,(Hq x j=none/\∀i,i<j->By (x.take i) Bv=false)\/∃i,i<j/\Hq x j=some (x.take i)/\By (x.take i) Bv=true/\∀d,i<d->d<j->By (x.take d) Bv=false
 |0=>.inl ⟨rfl,λi h=>T4 h (X4 i)⟩
 |j+1=>by
  by_cases h:By (x.take j) Bv=true
  ·show .inr (aY j (Z4 _) (Zk h) h λd U N=>by lia)
  ·have l:By (x.take j) Bv=false:=by simpa using h
   rw (occs:=.all) [show Hq x (j+1)=Hq x j from Zi h];rcases te (x:=x) j with ⟨U,N⟩|⟨i,U,N,D,A⟩
   ·show .inl ⟨U,λi hi=>?_⟩;by_cases q:i=j
    ·rw (occs:=.all) [q];show l
    ·show N i (Xx (Xc hi) q)
   ·show .inr (aY i (by show YO 1 U) N D λd Q O=>?_);by_cases q:d=j
    ·rw (occs:=.all) [q];show l
    ·show A d Q (Xx (Xc O) q)
def s9(x:WJ):(Gg x=none/\∀q,q<+:x->By q Bv=false)\/∃p,Gg x=some p/\By p Bv=true/\p<+:x/\∀q,q<+:x->By q Bv=true->q.length<=p.length:=by
 by_cases h:By x Bv=true
 ·show .inr (aY x (Zk h) h (XT _) λq SG b=>SG.length_le)
 ·have l:By x Bv=false:=by simpa using h
  have Z:∀q:WJ,q<+:x->q=x.take q.length:=λq SG=>Ym.mp SG;rw (occs:=.all) [show Gg x=Hq x x.length from Zi h];rcases te (x:=x) x.length with ⟨U,N⟩|⟨i,U,N,a,A⟩
  ·show .inl ⟨U,λq SG=>?_⟩;by_cases z:q.length=x.length
   ·rw (occs:=.all) [SG.eq_of_length z];show l
   ·rw (occs:=.all) [Z q SG];show N _ (by show Xx SG.length_le z)
  ·show .inr (aY _ N a (XS _ _) λq SG D=>?_);rw (occs:=.all) [ZG,ZO (by show Yj U)];show Y0 λz=>?_;by_cases Q:q.length=x.length
   ·rw[SG.eq_of_length Q,l]at D;show nomatch D
   ·have:=A q.length (by show Nat.lt_of_not_le z) (by have:=SG.length_le;show Xx this Q);rw[←Z q SG,D]at this;show nomatch this
def my:∀(l:TL) (k:WJ),(F4 r l k=k/\∀x∈l,x<+:r->x.length<=k.length)\/(F4 r l k∈l/\F4 r l k<+:r/\k.length<(F4 r l k).length/\∀x∈l,x<+:r->x.length<=(F4 r l k).length)
 | [],k=>.inl ⟨rfl,λZ h=>nomatch h⟩
 |x::l,k=>by
  rw (occs:=.all) [show F4 r (x::l) k=F4 r l (if Dq x r=x.length/\k.length<x.length then x else k) from rfl];by_cases h:Dq x r=x.length/\k.length<x.length
  ·rw (occs:=.all) [Zk h];rcases my (r:=r) l x with ⟨U,N⟩|⟨U,N,D,A⟩
   ·rw (occs:=.all) [U];show .inr ⟨.head _,lq.mp h.1,h.2,λy P d=>?_⟩;rcases Zb P with rfl|P
    ·show Zq _
    ·show N y P d
   ·show .inr ⟨.tail _ U,N,Nat.lt_trans h.2 D,λy P d=>?_⟩;rcases Zb P with rfl|P
    ·show Yo D
    ·show A y P d
  ·rw (occs:=.all) [Zi h];have a:∀y∈x::l,y<+:r->y∈l\/y.length<=k.length:=λy P d=>by
    rcases Zb P with rfl|P
    ·show .inr (XR λz=>h ⟨lq.mpr d,z⟩)
    ·show .inl P
   rcases my (r:=r) l k with ⟨U,N⟩|⟨U,N,D,A⟩
   ·show .inl ⟨U,λy P d=>(a y P d).elim (λz=>N y z d) id⟩
   ·show .inr ⟨.tail _ U,N,D,λy P d=>(a y P d).elim (λz=>A y z d) λz=>by lia⟩
def jH:By q Bv=true↔q∈Au:=by rw[gU,hJ]
def aaz(r:WJ):Gg (F6 [] r)=if BY r=[]then none else some (BY r):=by
 rw (occs:=.all) [jI];have l:∀q,q∈Au->q<+:r->q<+:r.take (BW r):=λq SG j=>by
  have:=j7 (r:=r) (show q.length<=BW r from Zh (jO (XT _) j) (mx SG));rw[←Ym.mp j]at this;show this
 have SV:∀q:WJ,q<+:r.take (BW r)->q<+:r:=λq h=>h.trans (XS _ _);rcases my (r:=r) Au []with ⟨U,N⟩|⟨U,N,D,A⟩
 ·rw (occs:=.all) [Zk (show BY r=[] from U)];rcases s9 (r.take (BW r))with ⟨g1,_⟩|⟨p,g1,g2,g3,_⟩
  ·show g1
  ·show T4 (YF (Wq.mp (N p (jH.mp g2) (SV p g3)))) ((show∀q,By q Bv=true->q≠[] from λq h=>(mu h).elim λZ h=>h.elim λZ h=>h.ne) p g2)
 ·have U:BY r∈Au:=U;have N:BY r<+:r:=N;have D:0<(BY r).length:=D;rw (occs:=.all) [Zi λz=>by rw[z]at D;show YA _ D];rcases s9 (r.take (BW r))with ⟨_,g2⟩|⟨p,g1,g2,g3,SR⟩
  ·have:=g2 _ (l _ U N);rw[jH.mpr U]at this;show nomatch this
  ·have b:=(show∀x∈Au,x<+:r->x.length<=(BY r).length from A) p (jH.mp g2) (SV p g3);rw (occs:=.all) [g1,(List.prefix_of_prefix_length_le (SV p g3) N b).eq_of_length (YK b (SR _ (l _ U N) (jH.mpr U)))]
def yz(h:∀c u,r=c::u->c≠9/\c≠12/\c≠13):∀c u,r=c::u->(c∈IM↔c∈Jh):=λc u e=>by
 show cu (h c u e) λU N D=>?_;simp only[Zt,Yl,or_false];constructor<;>(intro z;lia)
def vI(h:∀c u,r=c::u->c≠9/\c≠12/\c≠13):Gs r=r.take (Bx r):=by
 cases r with
 |nil=>rfl
 |cons c r=>
  have q:=yz h c r rfl;change(if c∈IM then []else F6 [] (c::r))=(c::r).take (Bool.rec (BW (c::r)) 0 (decide (c∈Jh)));by_cases z:c∈Jh
  ·rw[Zk (q.mpr z),Zr z];rfl
  ·rw[Zi λy=>z (q.mp y),Zs z,jI]
def vK(h:∀c u,r=c::u->c≠9/\c≠12/\c≠13):Fj r=(BO r).map C2++[BM (B7 r)]:=by
 cases r with
 |nil=>rfl
 |cons c r=>
  have q:=yz h c r rfl;unfold BO B7;rw (occs:=.all) [show Fj (c::r)=if c∈IM then [BM [38]]else GU (F6 [] (c::r)) from rfl,show Si (c::r)=decide (c∈Jh) from rfl];by_cases z:c∈Jh
  ·rw (occs:=.all) [Zk (q.mpr z),Zr z];rfl
  ·rw (occs:=.all) [Zi λy=>z (q.mp y),Zs z];unfold GU;rw (occs:=.all) [aaz];by_cases y:BY (c::r)=[]
   ·rw (occs:=.all) [Zk y];change _=List.map C2 (if _ then _ else _)++[BM (if _ then _ else _)]
    rw (occs:=.all) [Zk y,Zk y,jI];rfl
   ·rw (occs:=.all) [Zi y];change _=List.map C2 (if _ then _ else _)++[BM (if _ then _ else _)]
    rw (occs:=.all) [Zi y,Zi y,jI];change Fz _++_=_;unfold Fz;split<;>rfl
def aa4:(Au.all λx=> !x.any λc=>beq c 60)=true:=by left
def jP:∀ {x b:WJ},60∉x->Dq x (b++60::z)=Dq x b
 | [],b,_=>rfl
 |a::x,[],h=>Zi λe=>h (by rw[←e];show .head _)
 |a::x,c::b,h=>by
  change(if c=a then Dq x (b++60::z)+1 else 0)=if c=a then Dq x b+1 else 0;rw (occs:=.all) [jP λq=>h (.tail _ q)]
def k9(h:x∈Au):60∉x:=λq=>by
 have:=Zd aa4 x h;rw[Z8,List.any_eq_false]at this;show this 60 q rfl
def km:BW (b++60::z)=BW b:=by
 have:∀(l:TL) (a:Nat),(∀x∈l,x∈Au)->Im (b++60::z) l a=Im b l a:=by
  intro l;induction l with
  |nil=>intro a _;rfl
  |cons x l Q=>
   intro a h;change Im (b++60::z) l (max a (Dq x (b++60::z)))=Im b l (max a (Dq x b));rw[jP (k9 (h x (.head _)))];show Q _ λy P=>h y (.tail _ P)
 show this Au 0 λZ h=>h
def kn:BY (b++60::z)=BY b:=by
 have:∀(l:TL) (k:WJ),(∀x∈l,x∈Au)->F4 (b++60::z) l k=F4 b l k:=by
  intro l;induction l with
  |nil=>intro a _;rfl
  |cons x l Q=>
   intro k h;change F4 (b++60::z) l (if Dq x (b++60::z)=x.length/\k.length<x.length then x else k)=F4 b l (if Dq x b=x.length/\k.length<x.length then x else k);rw[jP (k9 (h x (.head _)))];show Q _ λy P=>h y (.tail _ P)
 show this Au [] λZ h=>h
def mi:Si (b++60::z)=Si b:=by cases b<;>rfl
def rZ:Bx (b++60::z)=Bx b:=by unfold Bx;rw (occs:=.all) [mi,km]
def pW:BO (b++60::z)=BO b:=by unfold BO;rw[mi,kn]
def pX:B7 (b++60::z)=B7 b:=by
 unfold B7;rw (occs:=.all) [mi,kn,km,List.take_append_of_le_length (show BW b<=b.length from jj (ZF _))]
def O5(z:WJ):Prop:=z=[]\/∃j,z=60::j
def vH(h:O5 z):Bx (b++z)=Bx b/\BO (b++z)=BO b/\B7 (b++z)=B7 b:=by
 rcases h with rfl|⟨j,rfl⟩
 ·rw[Zu];show⟨rfl,rfl,rfl⟩
 ·show⟨rZ,pW,pX⟩
structure Cf where
 ct:Ct
 st:Nat
 tb:TK
 n:Nat
 r:WJ
def Rn(a:Cf)(T:List (FV×Nat))(b:Cf):Prop:=∀d,Eg b.ct b.st b.tb b.n b.r d->Eg a.ct a.st a.tb a.n a.r (T++d)
def Sl(p:FV×Nat):FV:=.tup [p.1,.int (p.2:Nat)]
section
variable {a b c:Cf}{T T2:List (FV×Nat)}
def Rn.refl(a:Cf):Rn a [] a:=λZ h=>h
def Rn.tr(h:Rn a T b)(N:Rn b T2 c):Rn a (T++T2) c:=λd l=>by rw[Zo];show h _ (N _ l)
def Rn.nil(h:Rn a [] b)(N:Rn b T2 c):Rn a T2 c:=h.tr N
def Rn.go(p:PE)(o:Out)(U:Sx a.st C8=some p)(N:p.2.1 a.ct a.tb a.r)(D:p.1 a.ct a.tb a.r=o)(A:o.cont=true)(Q:o.x++o.r=a.r)(O:∀y∈o.q,Gk y):Rn a (o.q.map λy=>(y,a.n+o.x.length)) ⟨o.ct,o.q.foldl Sq o.st,o.tb,a.n+o.x.length,o.r⟩:=
 λZ h=>.go p o U N D A Q O h
end
def aci(h:i≠3):Gk (Hz i s):=⟨a8 _ i rfl rfl λq=>T4 q h⟩
def eP{st d n m:Nat}(p:PE)(U:Sx st C8=some p)(N:p.2.1 ct tb r)(D:p.1 ct tb r=⟨true,d,A,[],x,u,s⟩)(Q:x++u=r)(O:m=n+x.length):Rn ⟨ct,st,tb,n,r⟩ [] ⟨s,d,A,m,u⟩:=by
 subst O;show Rn.go (a:=⟨ct,st,tb,n,r⟩) p _ U N D rfl Q λZ h=>nomatch h
def eO{st d n m:Nat}(p:PE)(f:Sx st C8=some p)(N:p.2.1 ct tb r)(D:p.1 ct tb r=⟨true,d,A,q,x,u,s⟩)(Q:x++u=r)(SG:∀y∈q,Gk y/\Ek y=none)(O:m=n+x.length):Rn ⟨ct,st,tb,n,r⟩ (q.map λy=>(y,m)) ⟨s,d,A,m,u⟩:=by
 subst O;have:=Rn.go (a:=⟨ct,st,tb,n,r⟩) p _ f N D rfl Q λy h=>(SG y h).1;have e:∀(q:Tz),(∀y∈q,Gk y/\Ek y=none)->q.foldl Sq d=d:=by
  intro q;induction q with
  |nil=>show λZ=>rfl
  |cons y q i=>
   intro h;have U:Sq d y=d:=by unfold Sq;rw[(h y (.head _)).2]
   change q.foldl Sq (Sq d y)=d;rw[U];show i λz P=>h z (.tail _ P)
 rw[e q SG]at this;show this
def tq(h:decide (i=3)=false):Gk (Hz i s)/\Ek (Hz i s)=none:=by
 show⟨aci (ZA h),?_⟩;change(Bool.rec none _ (decide (i=3)):TK)=none;rw[h]
def q1(h:Gk y/\Ek y=none):∀z∈[y],Gk z/\Ek z=none:=λz P=>by rw[Za P];show h
def q2(h:Gk y/\Ek y=none)(N:Gk x/\Ek x=none):∀z∈[y,x],Gk z/\Ek z=none:=λz P=>by
 rcases Zb P with rfl|P
 ·show h
 ·rw[Za P];show N
def Sg(v:Nat):Nat:=[304,318,332,346].getD v 0
def Oc(c:Nat):Prop:=c≠9/\c≠12/\c≠13/\c≠35
def f9:∀ {b:WJ},(∀x∈b,p x=q x)->(z=[]\/∃x j,z=x::j/\p x=false)->(b++z).takeWhile p=b.takeWhile q/\(b++z).dropWhile p=b.drop (b.takeWhile q).length++z
 | [],_,hz=>by
  rcases hz with rfl|⟨x,j,rfl,h⟩
  ·show⟨rfl,rfl⟩
  ·rw[Z2,Y6,h];show⟨rfl,rfl⟩
 |x::b,h,hz=>by
  show zA (f9 (λy P=>h y (.tail _ P)) hz) λU N=>?_;rw[Z2,Z2,Y6,h x (.head _)];cases q x with
  |true=>rw[U,N];show⟨rfl,rfl⟩
  |false=>rw[Zi (by ext)];show⟨rfl,rfl⟩
def adY{a b z:WJ}(h:a<+:b):a++(b.drop a.length++z)=b++z:=by
 show zE h λt Q=>?_;subst Q;rw[YU,Zo]
section
variable {ct:Ct}{tb:TK}{n c:Nat}{b z:WJ}
def q8{st v:Nat}(Q:(st=304/\v=311)\/(st=318/\v=325))(U:∀x∈b++z,Oc x)(i:O5 z):
  Rn ⟨ct,st,tb,n,38::(b++z)⟩ (((BO b).map λx=>(C2 x,n+(1+Bx b)))++[(BM (B7 b),n+(1+Bx b))]) ⟨ct,st,tb,n+(1+Bx b),b.drop (Bx b)++z⟩:=by
 have j:∀c u,b++z=c::u->c≠9/\c≠12/\c≠13:=λc u e=>by
  show bY (U c (by rw[e];show .head _)) λo N q p=>?_;show⟨o,N,q⟩
 have g:Gz ct tb (b++z):=λu e=>(U 35 (by rw[e];show .head _)).2.2.2 rfl;show cu (vH (b:=b) i) λk r2 m=>?_;have l:=nT b;have s:(b.take (Bx b)).length=Bx b:=by rw (occs:=.all) [ZG];show ZO l
 have A:Fj (b++z)=(BO b).map C2++[BM (B7 b)]:=by rw (occs:=.all) [vK j,r2,m]
 have Z:Rn ⟨ct,st,tb,n,38::(b++z)⟩ [] ⟨ct,v,tb,n+1,b++z⟩:=by
  rcases Q with ⟨rfl,rfl⟩|⟨rfl,rfl⟩
  ·show eP (x:=[38]) (C7,S5,true) rfl trivial rfl rfl rfl
  ·show eP (x:=[38]) (BZ,S5,true) rfl trivial rfl rfl rfl
 have D:DT st ct tb (b++z)=⟨true,st,tb,Fj (b++z),b.take (Bx b),b.drop (Bx b)++z,ct⟩:=by
  unfold DT;rw (occs:=.all) [show Gs (b++z)=b.take (Bx b) by rw (occs:=.all) [vI j,k,List.take_append_of_le_length l],s,Wt l]
 have SG:∀y∈Fj (b++z),Gk y/\Ek y=none:=λy P=>by
  rw[A]at P;rcases Yi.mp P with P|P
  ·show aA (Y3.mp P) λx p f=>?_;subst f;show tq rfl
  ·rw (occs:=.all) [Za P];show tq rfl
 have d:Rn ⟨ct,v,tb,n+1,b++z⟩ ((Fj (b++z)).map λy=>(y,n+(1+Bx b))) ⟨ct,st,tb,n+(1+Bx b),b.drop (Bx b)++z⟩:=by
  have h:b.take (Bx b)++(b.drop (Bx b)++z)=b++z:=by rw (occs:=.all) [←Zo,Yc]
  rcases Q with ⟨rfl,rfl⟩|⟨rfl,rfl⟩
  ·show eO (DT 304,Gz,true) rfl g D h SG (by rw (occs:=.all) [s];show YS (Yn n 1 (Bx b)))
  ·show eO (DT 318,Gz,true) rfl g D h SG (by rw (occs:=.all) [s];show YS (Yn n 1 (Bx b)))
 rw[A,Z7,Y9]at d;show Z.nil d
def k3e{P:(k:Nat)->k<3->Prop}(k:Nat)(h:k<3)(h0:∀h,P 0 h)(h1:∀h,P 1 h)(h2:∀h,P 2 h):P k h:=k3 (P:=λk=>∀h,P k h) h0 h1 h2 h h
def k4e{P:(k:Nat)->k<4->Prop}(k:Nat)(h:k<4)(h0:∀h,P 0 h)(h1:∀h,P 1 h)(h2:∀h,P 2 h)(h3:∀h,P 3 h):P k h:=k4 (P:=λk=>∀h,P k h) h0 h1 h2 h3 h h
def zr{v:Nat}(D:v<4):Rn ⟨ct,Sg v,tb,n,0::(b++z)⟩ [(CG,n+1),(BM [if v=0 then 0 else 65533],n+1)] ⟨ct,Sg v,tb,n+1,b++z⟩:=by
 induction v,D using k4e with
 |h0=>show eO (q:=[CG,BM [0]]) (C7,S5,true) rfl trivial rfl rfl (q2 (tq rfl) (tq rfl)) rfl
 |h1=>show eO (q:=[CG,BM [65533]]) (BZ,S5,true) rfl trivial rfl rfl (q2 (tq rfl) (tq rfl)) rfl
 |h2=>show eO (q:=[CG,BM [65533]]) (FP,S5,true) rfl trivial rfl rfl (q2 (tq rfl) (tq rfl)) rfl
 |h3=>show eO (q:=[CG,BM [65533]]) (DU,S5,true) rfl trivial rfl rfl (q2 (tq rfl) (tq rfl)) rfl
def iB(U:Sx (Sg kd) C8=some (p,S5,true))(e:p ct tb (c::(b++z))=⟨true,Sg kd,tb,[Ju bl (c::(b++z).takeWhile q)],c::(b++z).takeWhile q,(b++z).dropWhile q,ct⟩)
  (SG:(b++z).takeWhile q=b.takeWhile (pRun kd c)/\(b++z).dropWhile q=b.drop (b.takeWhile (pRun kd c)).length++z) (hi:i=(b.takeWhile (pRun kd c)).length):
  Rn ⟨ct,Sg kd,tb,n,c::(b++z)⟩ [(Ju bl (c::b.take i),n+(1+i))] ⟨ct,Sg kd,tb,n+(1+i),b.drop i++z⟩:=by
 have j:b.take i=b.takeWhile (pRun kd c):=by rw[hi];show(Ym.mp (Z5 _)).symm
 rw[SG.1,SG.2]at e;rw[j];clear j;subst hi;show eO (p,S5,true) U trivial e ?_ ?_ ?_
 ·show T3 (c:: ·) (adY (Z5 _))
 ·cases bl<;>show q1 (tq rfl)
 ·rw[Zj];lia
def rI(h:Oc x):decide (x∈Dj)=decide (x∈[32,10]):=by
 show bY h λU N D Z=>decide_eq_decide.mpr ?_;simp only[Zt,Yl,or_false];constructor<;>(intro z;lia)
def abv(x:Bool):B1 x true=x:=by cases x<;>rfl
def abw(x:Bool):B1 x false= !x:=by cases x<;>rfl
def zq{v:Nat}(D:v<4)(U:∀x∈c::(b++z),Oc x)(g:¬(c=38/\v<2))(j:c≠0)(d:¬(c=60/\v<3))(k:z=[]\/(v<3/\∃i,z=60::i)):
  Rn ⟨ct,Sg v,tb,n,c::(b++z)⟩ [(Ju (Ec v c) (c::b.take (b.takeWhile (pRun v c)).length),n+(1+(b.takeWhile (pRun v c)).length))] ⟨ct,Sg v,tb,n+(1+(b.takeWhile (pRun v c)).length),b.drop (b.takeWhile (pRun v c)).length++z⟩:=by
 have f:=decide_eq_decide.mp (rI (U c (.head _)));have A:Ec v c=true->∀x∈b,B1 (decide (x∈Dj)) true=pRun v c x:=λP x m=>by
  unfold pRun;rw[P,abv];show rI (U x (.tail _ (XM _ m)))
 have s:Ec v c=false->∀x∈b,B1 (decide (x∈Gm.getD v [])) false=pRun v c x:=λP x Z=>by
  unfold pRun;rw[P,abw]
 have l:∀(q:TU),(v<3->q 60=false)->z=[]\/∃x i,z=x::i/\q x=false:=λq SG=>k.imp id λ⟨h,i,e⟩=>(aU 60 i e (SG h))
 induction v,D using k4e with
 |h0=>
  have g:c≠38:=λe=>g ⟨e,by ext⟩;have d:c≠60:=λe=>d ⟨e,by ext⟩;by_cases u:c∈Dj
  ·have P:Ec 0 c=true:=by unfold Ec;rw[Zr (f.mp u)];rfl
   rw[P];show iB (kd:=0) (p:=C7) (q:=λc=>B1 (decide (c∈Dj)) true) rfl ?_ (f9 (A P) (l _ λZ=>rfl)) rfl;show(Zi g).trans ((Zi d).trans ((Zi j).trans (Zk u)))
  ·have P:Ec 0 c=false:=by unfold Ec;rw[Zs λz=>u (f.mpr z)];rfl
   rw[P];show iB (kd:=0) (p:=C7) (q:=λc=>B1 (decide (c∈[38,60,0])) false) rfl ?_ (f9 (s P) (l _ λZ=>rfl)) rfl;show(Zi g).trans ((Zi d).trans ((Zi j).trans (Zi u)))
 |h1=>
  have g:c≠38:=λe=>g ⟨e,by ext⟩;have d:c≠60:=λe=>d ⟨e,by ext⟩;by_cases u:c∈Dj
  ·have P:Ec 1 c=true:=by unfold Ec;rw[Zr (f.mp u)];rfl
   rw[P];show iB (kd:=1) (p:=BZ) (q:=λc=>B1 (decide (c∈Dj)) true) rfl ?_ (f9 (A P) (l _ λZ=>rfl)) rfl;show(Zi g).trans ((Zi d).trans ((Zi j).trans (Zk u)))
  ·have P:Ec 1 c=false:=by unfold Ec;rw[Zs λz=>u (f.mpr z)];rfl
   rw[P];show iB (kd:=1) (p:=BZ) (q:=λc=>B1 (decide (c∈[38,60,0])) false) rfl ?_ (f9 (s P) (l _ λZ=>rfl)) rfl;show(Zi g).trans ((Zi d).trans ((Zi j).trans (Zi u)))
 |h2=>
  have P:Ec 2 c=false:=rfl;rw[P];show iB (kd:=2) (p:=FP) (q:=λc=>B1 (decide (c∈[60,0])) false) rfl ?_ (f9 (s P) (l _ λZ=>rfl)) rfl;show(Zi (show c≠60 from λe=>d ⟨e,by ext⟩)).trans (Zi j)
 |h3=>
  have P:Ec 3 c=false:=rfl;rw[P];show iB (kd:=3) (p:=DU) (q:=λc=>B1 (decide (c∈[0])) false) rfl ?_ (f9 (s P) (l _ λh=>T4 h (by ext))) rfl;show Zi j
end
abbrev dl(r:WJ):WJ:=r.dropWhile λc=>decide (c∈AW)
def F5(r:WJ):Bool:=match r with
 | []=>true
 |d::_=>beq d 62
def F0(P:Bool)(r:WJ):Bool:=match r with
 | []=>true
 |c::r=>or (beq c 62) (and (or (beq c 32) (and P (beq c 47))) (F5 r))
def FC(r:WJ):Bool:=match r with
 | []=>true
 |c::s=>or (and (beq c 49) (F5 s)) (and (decide (c∈AW)) (F0 false (dl s)))
def IT(r:WJ):Bool:=match r with
 | []=>true
 |c::s=>or (beq c 49) (or (and (beq c 47) (FC s)) (and (decide (c∈AW)) (F0 true (dl s))))
def sF(h:F0 P (c::r)=true):c=62\/((c=32\/(P=true/\c=47))/\(r=[]\/∃u,r=62::u)):=by
 have h:(beq c 62||((beq c 32||(P&&beq c 47))&&F5 r))=true:=h;simp only[Yq,Zp]at h;show h.imp ZC λ⟨U,a⟩=>⟨U.imp ZC λz=>⟨z.1,ZC z.2⟩,?_⟩
 cases r with
 |nil=>show .inl rfl
 |cons d r=>show .inr ⟨r,by rw[ZC a]⟩
structure H9 (nm:WJ):Prop where
 ne:nm≠[]
 lt:∀c∈nm,97<=c/\c<=122
 ln:nm.length<=9
def H9.low{nm:WJ}(h:H9 nm):Bp nm=nm:=by
 have:∀l:WJ,(∀c∈l,97<=c/\c<=122)->Bp l=l:=by
  intro l;induction l with
  |nil=>intro _;rfl
  |cons c l Q=>
   intro h;change DF c::Bp l=c::l;rw[Q λc u=>h c (.tail _ u)];have:=h c (.head _);unfold DF;rw[Zi λq=>Nat.not_le_of_gt (by decide:90<97) (Zh this.1 q.2)]
 show this nm h.lt
def H9.small{nm:WJ}(h:H9 nm):BV nm:=⟨λc u=>by have:=h.lt c u;lia,by have:=h.ln;lia⟩
def dz(h:∀c∈l,c∈AW)(D:l.length<=10000):BV l:=⟨λc u=>tA c (h c u),by lia⟩
def jo(h:c∈AW):c∉Dj/\c≠62/\c≠47/\c≠0/\c≠33/\c≠63:=by
 show(show∀c∈AW,c∉Dj/\c≠62/\c≠47/\c≠0/\c≠33/\c≠63 by ext) c h
def yX:∀ {l:WJ} {d:Nat} {r:WJ},l.dropWhile p=d::r->p d=false
 | [],_,_,h=>nomatch h
 |c::l,d,r,h=>by
  rw[Y6]at h;split at h
  ·show yX h
  ·rename_i q;show zA (ZI h) λz Z=>?_;clear h;subst z;simpa using q
def gR(h:c∈Ar r):c∈AW:=by
 unfold Ar at h;induction r with
 |nil=>show nomatch h
 |cons a r Q=>
  rw[Z2]at h;split at h
  ·rename_i q;rcases Zb h with rfl|h
   ·show Zm q
   ·show Q h
  ·show nomatch h
def oG(r:WJ):Ar r++dl r=r:=List.takeWhile_append_dropWhile
def tx(h:O5 z):Ar (b++z)=Ar b/\dl (b++z)=b.drop (Ar b).length++z:=
 f9 (λZ Z=>rfl) (h.imp id λ⟨j,e⟩=>(aU 60 j e rfl))
section
variable {nm:WJ}{sc:Bool}{B K T N:Nat}{tb:TK}{n:Nat}
def kZ(A:Sx N C8=some (CJ B N,EY,true))(j:BV nm):∀(l g:WJ) (n:Nat) (y:WJ),(∀c∈l,c∈AW)->(∀c∈g,c∈AW)->g.length+l.length<=10000->Rn ⟨.AM false nm sc,N,some g,n,l++y⟩ [] ⟨.AM false nm sc,N,some (g++l),n+l.length,y⟩
 | [],g,n,y,_,_,_=>by rw[Zu];show Rn.refl _
 |c::l,g,n,y,hl,hb,hlen=>by
  rw[Zj]at hlen;show bY (jo (hl c (.head _))) λU b D a=>?_;have Z:Rn ⟨.AM false nm sc,N,some g,n,c::(l++y)⟩ [] ⟨.AM false nm sc,N,some (g++[c]),n+1,l++y⟩:=by
   show eP (x:=[c]) (CJ B N,EY,true) A (aM nm sc g rfl rfl j (dz hb (ZK hlen)) λf u e a=>by rw[←(ZI e).1];show D) ?_ rfl rfl;show(Zi λz=>U z.1).trans ((Zi λz=>b z.1).trans (Zk (hl c (.head _))))
  have Q:=kZ A j l (g++[c]) (n+1) y (λd hd=>hl d (.tail _ hd)) (λd hd=>by
   rcases Yi.mp hd with hd|hd
   ·show hb d hd
   ·rw[Za hd];show hl c (.head _)) (by rw[Zg,Zj,ZW];lia)
  rw[Zo]at Q;have:=Z.nil Q;rw[show n+1+l.length=n+(c::l).length by rw[Zj];show YJ n l.length]at this;show this
structure Raw (nm:WJ) (sc:Bool) (B K T N:Nat):Prop where
 b:∀tb n r,Rn ⟨.AM false nm sc,B,tb,n,60::r⟩ [] ⟨.AM false nm sc,K,tb,n+1,r⟩
 k:Sx K C8=some (LO B T,S5,true)
 t:Sx T C8=some (HM B N,K0,true)
 n:Sx N C8=some (CJ B N,EY,true)
 low:H9 nm
def yy(h:H9 nm):Raw nm sc 318 374 381 388:=⟨λZ Z Z=>eP (BZ,S5,true) rfl trivial rfl rfl rfl,rfl,rfl,rfl,h⟩
def yx(h:H9 nm):Raw nm sc 332 395 402 409:=⟨λZ Z Z=>eP (FP,S5,true) rfl trivial rfl rfl rfl,rfl,rfl,rfl,h⟩
def Raw.to(h:Raw nm sc B K T N)(D:∀d∈c::l,d∈AW)(u:l.length<=9000):Rn ⟨.AM false nm sc,B,tb,n,60::47::c::(l++y)⟩ [] ⟨.AM false nm sc,N,some (c::l),n+3+l.length,y⟩:=by
 show(h.b _ _ _).nil ((show Rn ⟨.AM false nm sc,K,tb,n+1,47::c::(l++y)⟩ [] ⟨.AM false nm sc,T,some [],n+2,c::(l++y)⟩ from eP (LO B T,S5,true) h.k trivial rfl rfl rfl).nil ((show Rn ⟨.AM false nm sc,T,some [],n+2,c::(l++y)⟩ [] ⟨.AM false nm sc,N,some [c],n+3,l++y⟩ from eP (HM B N,K0,true) h.t (aO [] rfl (ZF _)) (Zk (D c (.head _))) rfl rfl).nil (kZ (sc:=sc) h.n h.low.small l [c] (n+3) y (λd hd=>D d (.tail _ hd)) (λd hd=>D d (by rw[Za hd];show .head _)) (by rw[Zj,ZW];show Zh (ZH u 1) (by ext)))))
def Raw.lt(h:Raw nm sc B K T N){b z:WJ}(P:O5 z)(a:b.length<=9000)(j:IT (b++z)=true)
  (g:(decide ((60::(b++z)).take 2=[60,47])&&(decide (Bp (((60::(b++z)).drop 2).take nm.length)=nm)&&decide (((60::(b++z)).drop (2+nm.length)).take 1=[32]\/((60::(b++z)).drop (2+nm.length)).take 1=[62])))=false):
  ∃w,Rn ⟨.AM false nm sc,B,tb,n,60::(b++z)⟩ [(BM ((60::b).take (Ik b)),n+Ik b)] ⟨.AM false nm sc,B,w,n+Ik b,(60::b).drop (Ik b)++z⟩:=by
 have one:∀r,(∀d u,r=d::u->d≠47)->Rn ⟨.AM false nm sc,B,tb,n,60::r⟩ [(BM [60],n+1)] ⟨.AM false nm sc,B,tb,n+1,r⟩:=λr H=>by
  show(h.b _ _ _).nil (eO (x:=[]) (LO B T,S5,true) h.k trivial ?_ rfl (q1 (tq rfl)) rfl);cases r with
  |nil=>rfl
  |cons d r=>show Zi (H d r rfl)
 cases b with
 |nil=>
  show(yE tb (one z λd u e=>?_));rcases P with rfl|⟨S,rfl⟩
  ·show nomatch e
  ·rw[←(ZI e).1];decide
 |cons c b=>
  by_cases f:c=47
  ·subst f;show zA (tx (b:=b) P) λI M=>?_;have s:FC (b++z)=true:=by
    have j:(beq 47 49||((beq 47 47&&FC (b++z))||(decide (47∈AW)&&F0 true (dl (b++z)))))=true:=j;replace j:=(show decide (47∈AW)=false from rfl)▸j;replace j:=(Wg _)▸j;replace j:=(Wp _)▸j;show j
   have m:(60::47::b).take (2+(Ar b).length)=60::47::Ar b:=by
    rw[Xp];show T3 (λl=>60::47::l) (Ym.mp (Z5 _)).symm
   have C:(60::47::b).drop (2+(Ar b).length)++z=dl (b++z):=by
    rw[M,Xp];rfl
   have A:=jm b;replace a:=Zj▸a;rw[show Ik (47::b)=2+(Ar b).length from Zk rfl,m,C];have v:=oG (b++z);replace v:=I▸v;change∃w,Rn ⟨.AM false nm sc,B,tb,n,60::47::(b++z)⟩ _ _;have i:∀d u,dl (b++z)=d::u->decide (d∈AW)=false:=λd u e=>yX e;have k:F0 false (dl (b++z))=true\/Ar b=[]:=by
    cases D:Ar b with
    |nil=>show .inr rfl
    |cons c l=>
     show .inl ?_;have f:c∈AW:=gR (by rw[D];show .head _);have e:b++z=c::(l++dl (b++z)):=by replace v:=D▸v;show v.symm
     have L:dl (b++z)=dl (l++dl (b++z)):=by
      have:dl (c::(l++dl (b++z)))=dl (l++dl (b++z)):=by
       change List.dropWhile _ (c::(l++_))=_;rw[Y6,Zk (Zr f)]
      rw[←this, ←e]
     replace s:=e▸s;have E:c≠49:=λe=>by replace f:=e▸f;show T4 f (by ext)
     have s:(and (beq c 49) (F5 (l++dl (b++z)))||and (decide (c∈AW)) (F0 false (dl (l++dl (b++z)))))=true:=s;replace s:=(bX E)▸s;replace s:=(Zr f)▸s;replace s:=(YS L)▸s;show s
   obtain⟨y,R⟩:∃y,dl (b++z)=y:=(yE _ rfl)
   rw[R]at v i k⊢;cases D:Ar b with
   |nil=>
    replace v:=D▸v;rw[←(show y=b++z from v)];show(yE (some []) ?_);have G:Rn ⟨.AM false nm sc,T,some [],n+2,y⟩ [(BM [60,47],n+2)] ⟨.AM false nm sc,B,some [],n+2,y⟩:=by
     show eO (q:=[BM [60,47]]) (x:=[]) (HM B N,K0,true) h.t (aO [] rfl (ZF _)) ?_ rfl (q1 (tq rfl)) rfl;cases y with
     |nil=>rfl
     |cons d r=>show Zi (ZA (i d r rfl))
    show(h.b _ _ _).nil ((show Rn ⟨.AM false nm sc,K,tb,n+1,47::y⟩ [] ⟨.AM false nm sc,T,some [],n+2,y⟩ from eP (x:=[47]) (LO B T,S5,true) h.k trivial rfl rfl rfl).nil G)
   |cons c l=>
    have p:∀d∈c::l,d∈AW:=λd hd=>gR (by rw[D];show hd);rw[D]at v A;have U:F0 false y=true:=k.resolve_right (by rw[D];show λz=>nomatch z);replace A:=Zj▸A;show(yE (some (c::l)) ?_);have Z:=h.to (tb:=tb) (n:=n) (y:=y) p (Yo (Nat.lt_trans A a));replace Z:=(show n+3+l.length=n+(2+(c::l).length) by rw[Zj];lia)▸Z;have O:∀d u,y=d::u->(d=62\/d=32)/\Bp nm≠Bp (c::l):=λd u e=>by
     replace U:=e▸U;have F:d=62\/d=32:=(sF U).imp id λz=>z.1.elim id λz=>nomatch z.1;show⟨F,λo=>?_⟩;have Q:nm.length=(c::l).length:=by
      have:=T3 List.length o;unfold Bp at this;replace this:=(ZD _)▸this;replace this:=(ZD _)▸this;show this
     have g2:(60::(47::b++z)).drop 2=b++z:=rfl;have g3:(60::(47::b++z)).drop (2+nm.length)=d::u:=by rw[←YI,show(b++z).drop nm.length=d::u by rw[←v,Q,YU,e]]
     replace g:=g2▸g;replace g:=g3▸g;replace g:=(show(b++z).take nm.length=c::l by rw[←v,Q,We])▸g;replace g:=(YS o)▸g;replace g:=h.low.low▸g;replace g:=(show(60::(47::b++z)).take 2=[60,47] from rfl)▸g;replace g:=(Zr (rfl:([60,47]:WJ)=[60,47]))▸g;replace g:=(Zr (rfl:nm=nm))▸g;replace g:=(Zr (show(d::u).take 1=[32]\/(d::u).take 1=[62] from(show [d]=[32]\/[d]=[62] from F.elim (λz=>.inr (by rw[z])) λz=>.inl (by rw[z]))))▸g;show nomatch g
    rw[←v];show Z.nil (eO (q:=[BM ([60,47]++(c::l))]) (x:=[]) (CJ B N,EY,true) h.n ?_ ?_ rfl (q1 (tq rfl)) rfl)
    ·show(aM nm sc (c::l) rfl rfl h.low.small (dz p (by rw[Zj];show Zh A (Zh (Yj a) (by ext)))) λd u e q=>T4 q (O d u e).2)
    ·cases y with
     |nil=>rfl
     |cons d r=>
      have t:=(O d r rfl).2;show(Zi λz=>t z.2).trans ((Zi λz=>t z.2).trans (Zi (ZA (i d r rfl))))
  ·rw[show Ik (c::b)=1 from Zi λe=>f (ZI e).1];show(yE tb (one (c::(b++z)) λd u e=>by rw[←(ZI e).1];show f))
end
def pM{nm r:WJ}(h:kd=1\/kd=2):B6 kd nm r=(decide (r.take 2=[60,47])&&(decide (Bp ((r.drop 2).take nm.length)=nm)&&decide ((r.drop (2+nm.length)).take 1=[32]\/(r.drop (2+nm.length)).take 1=[62]))):=by
 rcases h with rfl|rfl<;>rfl
structure Pl (kd:Nat) (nm:WJ) (ct:Ct):Prop where
 k:kd<4
 t:kd=1\/kd=2->∃sc,ct=.AM false nm sc/\H9 nm
section
variable {kd n c:Nat}{nm b z:WJ}{ct:Ct}{tb:TK}
def turn(O:Pl kd nm ct)(f:∀x∈c::(b++z),Oc x)(u:b.length<=9000)(i:z=[]\/(kd<3/\∃j,z=60::j))(s:c=60->kd≠3->kd≠0/\B6 kd nm (60::(b++z))=false/\IT (b++z)=true):
  ∃tb' T,Rn ⟨ct,Sg kd,tb,n,c::(b++z)⟩ T ⟨ct,Sg kd,tb',n+Cu kd c b,(c::b).drop (Cu kd c b)++z⟩/\T.map Sl=Ip kd n c b:=by
 have k:=O.k;have d:=i.imp id λz=>z.2;by_cases U:c=38/\kd<2
 ·have g:Cu kd c b=1+Bx b:=Zk U;have A:Ip kd n c b=((BO b).map λx=>.tup [C2 x,.int ((n+Cu kd c b:Nat):Int)])++[.tup [BM (B7 b),.int ((n+Cu kd c b:Nat):Int)]]:=Zk U;have a:(c::b).drop (1+Bx b)=b.drop (Bx b):=by rw[Xp];rfl
  rw[A,g,a];show zA U λe N=>?_;clear s U g A a;subst e;have l:=λx o=>f x (.tail _ o);show(aU tb (((BO b).map λx=>(C2 x,n+(1+Bx b)))++[(BM (B7 b),n+(1+Bx b))]) ?_ ?_)
  ·show k2 (P:=λkd=>Rn ⟨ct,Sg kd,tb,n,_⟩ _ ⟨ct,Sg kd,_,_,_⟩) (q8 (.inl ⟨rfl,rfl⟩) l d) (q8 (.inr ⟨rfl,rfl⟩) l d) N
  ·rw[Z7,Y9];rfl
 ·by_cases N:c=0
  ·have g:Cu kd c b=1:=(Zi U).trans (Zk N);have A:Ip kd n c b=[.tup [CG,.int ((n+Cu kd c b:Nat):Int)],.tup [BM [if kd=0 then 0 else 65533],.int ((n+Cu kd c b:Nat):Int)]]:=(Zi U).trans (Zk N);rw[g];clear f s U g A;subst N;show(aU tb _ (zr k) rfl)
  ·have A:Ip kd n c b=[.tup [Ju (Ec kd c) ((c::b).take (Cu kd c b)),.int ((n+Cu kd c b:Nat):Int)]]:=(Zi U).trans (Zi N);by_cases D:c=60/\kd<3
   ·have g:Cu kd c b=Ik b:=(Zi U).trans ((Zi N).trans (Zk D));obtain⟨rfl,D⟩:=D;rw[g,show Ec kd 60=false by show Bool.and_false _];obtain⟨g1,g2,g3⟩:=s rfl (by show Z3 D);have v:kd=1\/kd=2:=by lia
    show aA (O.t v) λsc Q m=>?_;clear O;subst Q;rw[pM v]at g2;rcases v with rfl|rfl
    ·show zE ((yy (sc:=sc) m).lt (tb:=tb) (n:=n) d u g3 g2) λtb' h=>(aU tb' _ h rfl)
    ·show zE ((yx (sc:=sc) m).lt (tb:=tb) (n:=n) d u g3 g2) λtb' h=>(aU tb' _ h rfl)
   ·rw[A,show Cu kd c b=1+(b.takeWhile (pRun kd c)).length from(Zi U).trans ((Zi N).trans (Zi D))];have a:(c::b).drop (1+(b.takeWhile (pRun kd c)).length)=b.drop (b.takeWhile (pRun kd c)).length:=by rw[Xp];rfl
    have Z:(c::b).take (1+(b.takeWhile (pRun kd c)).length)=c::b.take (b.takeWhile (pRun kd c)).length:=by rw[Xp];rfl
    rw[a,Z];show(aU tb _ (zq k f U N D i) rfl)
def pA(O:Pl kd nm ct)(i:z=[]\/(kd<3/\∃j,z=60::j)):∀(f n:Nat) (r:WJ) (tb:TK),r.length<=f->r.length<=9000->(∀x∈r++z,Oc x)->(∀a b,r=a++60::b->kd≠3->kd≠0/\B6 kd nm (60::(b++z))=false/\IT (b++z)=true)->
  ∃tb' T,Rn ⟨ct,Sg kd,tb,n,r++z⟩ T ⟨ct,Sg kd,tb',n+r.length,z⟩/\T.map Sl=Hs kd f n r
 |f,n,[],tb,_,_,_,_=>(aU tb [] (Rn.refl _) (by cases f<;>rfl))
 |0,n,c::b,tb,h,_,_,_=>T4 h (XJ _)
 |f+1,n,c::b,tb,hf,hl,ho,hM=>by
  show zA (uM kd c b) λn1 n2=>?_;rw[Zj]at hf hl;show aX (turn (n:=n) (tb:=tb) O ho (Yj hl) i λe D=>hM [] b (by rw[e];rfl) D) λd Q k U=>?_;have g:((c::b).drop (Cu kd c b)).length=b.length+1-Cu kd c b:=by rw[ZM,Zj]
  show aX (pA O i f (n+Cu kd c b) ((c::b).drop (Cu kd c b)) d (g▸Nat.sub_le_of_le_add (Zh hf (ZH n1 f))) (g▸Zh (Wl _ _) hl) (λx P=>ho x (by
   rcases Yi.mp P with P|P
   ·show XM _ (List.mem_of_mem_drop P)
   ·show Xl _ P)) λa m e D=>hM ((c::b).take (Cu kd c b)++a) m (by rw[Zo, ←e,Yc (Cu kd c b) (c::b)]) D) λl A r2 Z=>?_
  show(aU l (Q++A) ?_ ?_)
  ·have:=k.tr r2;rw[g,show n+Cu kd c b+(b.length+1-Cu kd c b)=n+(c::b).length by rw[Zj];show(Yn _ _ _).trans (T3 _ (YV n2))]at this;show this
  ·rw[Z7,U,Z];rfl
end
def Mk(a:Cf)(v:FV):Prop:=∃T x r2 s tb' g d,a.r=x++r2/\Rn a T ⟨s,Sg g,tb',a.n+x.length,r2⟩/\v=.tup [.lst (T.map Sl),.int ((a.n+x.length:Nat):Int),.int (g:Nat),.str d]/\Pl g d s/\(r2=[]\/DJ s)/\T.length<=2
def Mk.pre(h:Rn a [] b)(f:a.r=y++b.r)(j:b.n=a.n+y.length)(k:Mk b v):Mk a v:=by
 show bg k λT x r2 s tb' g d U N D A Q O=>?_;have e:a.n+(y++x).length=b.n+x.length:=by rw[j,Zg];show YS (Yn a.n y.length x.length)
 show(bk T (y++x) r2 s tb' g d (by rw[f,U,Zo]) (by rw[e];show h.nil N) (by rw[e];show D) A Q O)
def O4(a:Cf)(v:FV):Prop:=∃T x r2 s tb' g d,a.r=x++r2/\Rn a T ⟨s,Sg g,tb',a.n+x.length,r2⟩/\v=.tup [.lst (T.map Sl),.int ((a.n+x.length:Nat):Int),.int (g:Nat),.str d]/\Pl g d s/\(r2=[]\/DJ s)/\T.length<=2/\x≠[]
def Mk.acO(h:Rn a [] b)(f:a.r=y++b.r)(j:b.n=a.n+y.length)(P:y≠[])(k:Mk b v):O4 a v:=by
 show bg k λT x r2 s tb' g d U N D A Q O=>?_;have e:a.n+(y++x).length=b.n+x.length:=by rw[j,Zg];lia
 show⟨T,y++x,r2,s,tb',g,d,by rw[f,U,Zo],by rw[e];show h.nil N,by rw[e];show D,A,Q,O,λz=>P (Xy.mp z).1⟩
def Pl.zero:Pl 0 [] ct:=⟨by ext,λh=>by lia⟩
def ac9:H9 DC/\H9 Fi/\H9 DD/\H9 GS:=by
 show⟨⟨by ext,by ext,by ext⟩,⟨by ext,by ext,by ext⟩,⟨by ext,by ext,by ext⟩,⟨by ext,by ext,by ext⟩⟩
def oK(nm:WJ):∃kd,knd nm=.int (kd:Nat)/\HC nm 304=Sg kd/\kd<4/\(kd=1\/kd=2->H9 nm):=by
 show bY ac9 λl1 l2 l3 l4=>?_;by_cases U:nm=DC
 ·subst U;show(aY 1 rfl rfl (by ext) λZ=>l1)
 by_cases N:nm=Fi
 ·clear U;subst N;show(aY 1 rfl rfl (by ext) λZ=>l2)
 by_cases D:nm=DD
 ·clear U N;subst D;show(aY 2 rfl rfl (by ext) λZ=>l3)
 by_cases A:nm=GS
 ·clear U N D;subst A;show(aY 2 rfl rfl (by ext) λZ=>l4)
 by_cases Q:nm=Em
 ·clear U N D A;subst Q;show(aY 3 rfl rfl (by ext) λh=>by lia)
 show(aY 0 ?_ ?_ (by ext) λh=>by lia)
 ·have e:sel nm PU=none:=by
   change(Bool.rec (Bool.rec (Bool.rec (Bool.rec (Bool.rec none _ (Cn nm Em)) _ (Cn nm GS)) _ (Cn nm DD)) _ (Cn nm Fi)) _ (Cn nm DC):TJ)=none;rw[aE,aE,aE,aE,aE,Zs U,Zs N,Zs D,Zs A,Zs Q]
  unfold knd;rw[e];rfl
 ·unfold HC;rw[Zi λz=>z.elim U N,Zi λz=>z.elim D A,Zi Q];rfl
section
variable {ct:Ct}{st n:Nat}{tb tb':TK}{x y r' nm:WJ}{en sc:Bool}{p:PE}
def gx(U:Sx st C8=some p)(m:p.2.1 ct tb y)(i:p.1 ct tb y=⟨true,304,tb',[.An (EO en nm sc)],x,r',.AM en nm sc⟩)(A:x++r'=y)(N:e+1=((n+x.length:Nat):Int)):Mk ⟨ct,st,tb,n,y⟩ (C9 en nm sc e):=by
 have k:Gk (.An (EO en nm sc)):=by
  cases en
  ·show⟨a8 _ 3 rfl rfl λZ=>(yE nm rfl)⟩
  ·show⟨a8 _ 4 rfl rfl λq=>T4 q (by ext)⟩
 have D:=Rn.go (a:=⟨ct,st,tb,n,y⟩) p _ U m i rfl A λz P=>by rw[Za P];show k
 cases en with
 |true=>
  show(bk _ x r' _ _ 0 [] A.symm D ?_ Pl.zero (.inr (.inr (gp _ _ _ rfl))) (YX 1));change FV.tup [.lst [.tup [.An (OT nm),.int (e+1)]],.int (e+1),.int 0,.str []]=_;rw[N];rfl
 |false=>
  show bO (oK nm) λkd f k2 k3 k4=>?_;have l:=D;dsimp only at l;rw[show List.foldl Sq 304 [.An (EO false nm sc)]=Sg kd from k2]at l;show(bk _ x r' _ _ kd nm A.symm l ?_ ⟨k3,λh=>(aO sc rfl (k4 h))⟩ (.inr (.inr (gp _ _ _ rfl))) (YX 1));change FV.tup [.lst [.tup [.An (OL nm (.An []) sc),.int (e+1)]],.int (e+1),knd nm,.str nm]=_;rw[N,f];rfl
def mv(U:Sx st C8=some p)(a:p.2.1 ct tb [])(D:p.1 ct tb []=⟨true,304,tb,[C2 s],[],[],ct⟩){e:Int}(N:e=(n:Nat)):Mk ⟨ct,st,tb,n,[]⟩ (DX (C2 s) e (.int 0) []):=by
 subst N;show(bk [(C2 s,n)] [] [] ct tb 0 [] rfl (eO p U a D rfl (q1 (tq rfl)) rfl) rfl Pl.zero (.inl rfl) (YX 1))
def yC(j:BV nm)(P:y=[]\/∃r,y=62::r):Mk ⟨.live en nm false,535,tb,n,y⟩ (match y with
  | []=>DX (C2 Dm) (n:Nat) (.int 0) []
  |_::_=>C9 en (Bp nm) false (n:Nat)):=by
 rcases P with rfl|⟨r,rfl⟩
 ·show mv (p:=(DV,Me,true)) rfl ⟨ay en nm false rfl j,λc r e=>nomatch e⟩ rfl rfl
 ·show gx (p:=(DV,Me,true)) rfl ⟨ay en nm false rfl j,λc r e=>(ZI e).1.symm⟩ rfl rfl rfl
def jg{n:Int}{y:Nat}(h:y≠62):F3 g nm n (y::Q)=match Q with
  | []=>DX (C2 (if y=47 then Dg else Dm)) (n+1) (.int 0) []
  |_::_=>C9 g nm (decide (y=47)) (n+1):=by
 cases Q<;>show Zi h
def aas(j:BV nm)(P:F0 (!en) y=true):Mk ⟨.live en nm false,367,tb,n,y⟩ (F3 en (Bp nm) (n:Nat) y):=by
 cases y with
 |nil=>show mv (p:=(Cc,HW,true)) rfl ⟨ay en nm false rfl j,λc r e=>nomatch e⟩ rfl rfl
 |cons c y=>
  have u:∀Q,Q≠0->HW (.live en nm false) tb (Q::y):=λQ h=>⟨ay en nm false rfl j,λc r e=>by rw[←(ZI e).1];show h⟩
  rcases sF P with rfl|⟨rfl|⟨U,rfl⟩,N⟩
  ·show gx (x:=[62]) rfl (u _ (by ext)) rfl rfl rfl
  ·show Mk.pre (eP (Cc,HW,true) rfl (u _ (by ext)) rfl rfl rfl) rfl rfl ?_;have:=yC (tb:=tb) (n:=n+1) (en:=en) j N;rw[jg (by ext)];rcases N with rfl|⟨r,rfl⟩<;>show this
  ·have a:en=false:=by cases en;rfl;show nomatch U
   clear U P;subst a;show Mk.pre (eP (Cc,HW,true) rfl (u _ (by ext)) rfl rfl rfl) rfl rfl ?_;rw[jg (by ext)];rcases N with rfl|⟨r,rfl⟩
   ·show mv (p:=(EZ,Ma,true)) rfl ⟨aU nm false rfl j,λc r e=>nomatch e⟩ rfl rfl
   ·show gx (p:=(EZ,Ma,true)) (x:=[62]) rfl ⟨aU nm false rfl j,λc r e=>(ZI e).1.symm⟩ rfl rfl rfl
def nz:∀(l g:WJ) (n:Nat),(∀c∈l,c∈AW)->(∀c∈g,c∈AW)->g.length+l.length<=10000->Rn ⟨.live en g false,367,tb,n,l++y⟩ [] ⟨.live en (g++l) false,367,tb,n+l.length,y⟩
 | [],g,n,_,_,_=>by rw[Zu];show Rn.refl _
 |c::l,g,n,hl,hb,hlen=>by
  rw[Zj]at hlen;show ir (jo (hl c (.head _))) λU N D A a=>?_;have Z:Rn ⟨.live en g false,367,tb,n,c::(l++y)⟩ [] ⟨.live en (g++[c]) false,367,tb,n+1,l++y⟩:=by
   show eP (x:=[c]) (Cc,HW,true) rfl ⟨ay en g false rfl (dz hb (ZK hlen)),λf r e=>by rw[←(ZI e).1];show A⟩ ?_ rfl rfl;show(Zi U).trans ((Zi N).trans (Zi D))
  have Q:=nz l (g++[c]) (n+1) (λd hd=>hl d (.tail _ hd)) (λd hd=>by
   rcases Yi.mp hd with hd|hd
   ·show hb d hd
   ·rw[Za hd];show hl c (.head _)) (by rw[Zg,Zj,ZW];lia)
  rw[Zo]at Q;have:=Z.nil Q;rw[show n+1+l.length=n+(c::l).length by rw[Zj];show YJ n l.length]at this;show this
def oB(u:c∈AW)(Q:s.length<=9000)(P:F0 (!en) (dl s)=true):Mk ⟨.live en [c] false,367,tb,n+1,s⟩ (C5 en n (c::s)):=by
 have D:Ar (c::s)=c::Ar s:=by unfold Ar;rw[Z2,Zk (Zr u)]
 have U:=oG s;have l:=jm s;have O:∀d∈c::Ar s,d∈AW:=λd hd=>by
  rcases Zb hd with rfl|hd
  ·show u
  ·show gR hd
 have g:(c::s).drop (Ar (c::s)).length=dl s:=by
  rw[D];have:(Ar s++dl s).drop (Ar s).length=dl s:=YU;rw[U]at this;show this
 have SU:C5 en n (c::s)=F3 en (Bp (c::Ar s)) ((n+1+(Ar s).length:Nat)) (dl s):=by
  unfold C5;rw[Zi (by rw[D];show λz=>nomatch z),g,D,Zj];rw[show n+((Ar s).length+1)=n+1+(Ar s).length by show YS (YJ n (Ar s).length)]
 rw[SU];have a:=nz (en:=en) (tb:=tb) (y:=dl s) (Ar s) [c] (n+1) (λd hd=>O d (.tail _ hd)) (λd hd=>O d (by rw[Za hd];show .head _)) (by change 1+_<=_;lia);rw[U]at a;show Mk.pre (y:=Ar s) a U.symm rfl (aas (dz O (show(Ar s).length+1<=10000 by lia)) P)
def tqV:Gk (Hc s c)/\Ek (Hc s c)=none:=⟨⟨a8 _ 7 rfl rfl λq=>T4 q (by ext)⟩,rfl⟩
def oH(s:WJ):Ar (49::s)=[]:=by unfold Ar;rw[Z2];rfl
def jf{q1 q2:FV}(x:WJ)(U:a.r=x++r2)(O:m=a.n+x.length)(D:Rn a [(q1,n),(q2,m)] ⟨s,304,tb',m,r2⟩)(hi:DJ s):Mk a (EH q1 (n:Nat) q2 (m:Nat)):=by
 subst O;show(bk _ x r2 s tb' 0 [] U D rfl Pl.zero (.inr hi) (Zq 2))
def aat(hi:DJ ct)(D:y.length<=9000)(P:FC y=true):Mk ⟨ct,360,tb,n,y⟩ (C5 true n y):=by
 cases y with
 |nil=>
  show jf (tb':=tb) [] rfl rfl ?_ hi;show eO (q:=[C2 Dl,BM [60,47]]) (BC,Kh,true) rfl ⟨hi,λc r e=>nomatch e⟩ rfl rfl (Mine.A.q2 (tq rfl) (tq rfl)) rfl
 |cons c s=>
  have P:(and (beq c 49) (F5 s)||and (decide (c∈AW)) (F0 false (dl s)))=true:=P;rw[Yq]at P;rcases P with h|h
  ·show zA (ar h) λU N=>?_;clear D P h;obtain rfl:=ZC U;have Z:Rn ⟨ct,360,tb,n,49::s⟩ [(Hc BX 49,n)] ⟨ct,598,tb,n,49::s⟩:=eO (x:=[]) (BC,Kh,true) rfl ⟨hi,λc r e=>by rw[←(ZI e).1];decide⟩ rfl rfl (Mine.A.q1 tqV) rfl;have SU:C5 true n (49::s)=EH (Hc BX 49) (n:Nat) (JG (AJ [62] (49::s))) ((n+min ((AJ [62] (49::s)).length+1) (49::s).length:Nat):Int):=by
    unfold C5;rw[Zk (oH s)]
   rw[SU];cases s with
   |nil=>
    show jf [49] rfl rfl (Z.tr (show Rn ⟨ct,598,tb,n,[49]⟩ [(JG [49],n+1)] ⟨ct,304,tb,n+1,[]⟩ from eO (q:=[JG [49]]) (x:=[49]) (E0,Md,false) rfl ⟨hi,by ext⟩ rfl rfl (Mine.A.q1 (tq rfl)) rfl)) hi
   |cons d s=>
    obtain rfl:d=62:=ZC N;have a:min ((AJ [62] (49::62::s)).length+1) (49::62::s).length=2:=by
     change min (1+1) (s.length+1+1)=2;show YS (ZC U)
    rw[a];show jf [49,62] rfl rfl (Z.tr (show Rn ⟨ct,598,tb,n,49::62::s⟩ [(JG [49],n+2)] ⟨ct,304,tb,n+2,s⟩ from eO (q:=[JG [49]]) (x:=[49,62]) (E0,Md,false) rfl ⟨hi,by change 0∉[49];decide⟩ rfl rfl (Mine.A.q1 (tq rfl)) rfl)) hi
  ·show zA (ar h) λU N=>?_;have u:=Zm U;rw[Zj]at D;show Mk.pre (y:=[c]) (eP (x:=[c]) (BC,Kh,true) rfl ⟨hi,λQ r e=>by rw[←(ZI e).1];show(jo u).2.1⟩ (Zk u) rfl rfl) rfl rfl (oB u (by show Yj D) N)
def aau(hi:DJ ct)(a:y.length<=9000)(P:IT y=true):O4 ⟨ct,304,tb,n,60::y⟩ (GH n y):=by
 show Mk.acO (eP (C7,S5,true) rfl trivial rfl rfl rfl) rfl rfl (by ext) ?_;have no:∀y,y.take 1≠[47]->Ar y=[]->(∀c r',y=c::r'->c=49)->Mk ⟨ct,353,tb,n+1,y⟩ (GH n y):=λy U N D=>by
  have SU:GH n y=EH (C2 CM) (n+1:Nat) (BM [60]) (n+1:Nat):=by
   unfold GH;rw[Zi U];unfold C5;rw[Zk N]
  rw[SU];show jf (tb':=tb) [] rfl rfl ?_ hi;show eO (q:=[C2 CM,BM [60]]) (x:=[]) (Cb,Kg,true) rfl ⟨hi,λc r e=>by rw[D c r e];decide⟩ ?_ rfl (Mine.A.q2 (tq rfl) (tq rfl)) rfl;cases y with
  |nil=>rfl
  |cons c r=>rw[D c r rfl];rfl
 cases y with
 |nil=>show no [] (by ext) rfl λc r e=>nomatch e
 |cons c s=>
  have P:(beq c 49||(and (beq c 47) (FC s)||and (decide (c∈AW)) (F0 true (dl s))))=true:=P;rw[Yq,Yq]at P;rw[Zj]at a;rcases P with h|h|h
  ·obtain rfl:=ZC h;show no _ (λz=>by have:=(ZI z).1;lia) (oH s) λc r e=>(ZI e).1.symm
  ·show zA (ar h) λU N=>?_;clear P h;obtain rfl:=ZC U;rw[show GH n (47::s)=C5 true (n+2) s from Zk rfl];show Mk.pre (b:=⟨ct,360,tb,n+2,s⟩) (y:=[47]) (eP (x:=[47]) (Cb,Kg,true) rfl ⟨hi,λc r e=>by rw[←(ZI e).1];decide⟩ rfl rfl rfl) rfl rfl (aat hi (by lia) N)
  ·show zA (ar h) λU N=>?_;have u:=Zm U;obtain⟨g1,g2,g3,SR,SQ,SN⟩:=jo u;rw[show GH n (c::s)=C5 false (n+1) (c::s) from Zi λz=>g3 (ZI z).1];show Mk.pre (y:=[c]) (eP (x:=[c]) (Cb,Kg,true) rfl ⟨hi,λQ r e=>by rw[←(ZI e).1];show⟨SQ,g2,SN⟩⟩ ((Zi g3).trans (Zk u)) rfl rfl) rfl rfl (oB u (by lia) N)
end
def aaB(h:97<=DF c/\DF c<=122):c∈AW:=by
 show(show∀c,c<123->(97<=DF c/\DF c<=122)->c∈AW by ext) c ?_ h;unfold DF at h;split at h<;>lia
def gS(hd:d∉AW):∀ {l:WJ},(∀c∈l,c∈AW)->Ar (l++d::y)=l/\dl (l++d::y)=d::y
 | [],_=>by
  change List.takeWhile _ (d::y)=[]/\List.dropWhile _ (d::y)=d::y;rw[Z2,Y6,Zs hd];show⟨rfl,rfl⟩
 |c::l,h=>by
  show zA (gS hd (λc u=>h c (.tail _ u)) (y:=y)) λU N=>?_;change List.takeWhile _ (c::(l++d::y))=c::l/\List.dropWhile _ (c::(l++d::y))=d::y;rw[Z2,Y6,Zr (h c (.head _)),Zk rfl];show⟨T3 (c:: ·) U,N⟩
def aac:CJ B N (.AM e n O) (some b) (c::r)=if c∈Dj/\Bp n=Bp b then⟨true,535,some b,[],[c],r,.live true b false⟩else
  if c=62/\Bp n=Bp b then⟨true,304,some b,[.An (EO true (DE b) false)],[c],r,.AM true (DE b) false⟩else
  if c∈AW then⟨true,N,some (b++[c]),[],[c],r,.AM e n O⟩else⟨true,B,some b,[BM ([60,47]++b)],[],c::r,.AM e n O⟩:=rfl
def sS{nm:WJ}{B K T N n:Nat}(h:Raw nm O B K T N)(L:y.length<=9000)(P:IT y=true)
  (m:(decide ((60::y).take 2=[60,47])&&(decide (Bp (((60::y).drop 2).take nm.length)=nm)&&decide (((60::y).drop (2+nm.length)).take 1=[32]\/((60::y).drop (2+nm.length)).take 1=[62])))=true):
  O4 ⟨.AM false nm O,B,tb,n,60::y⟩ (GH n y):=by
 rw[Zp,Zp]at m;obtain⟨U,i,D⟩:=m;obtain⟨s,rfl⟩:∃s,y=47::s:=by
  have U:=(ZI (Zm U)).2;cases y with
  |nil=>show nomatch U
  |cons a s=>show(yE s (by rw[(ZI U).1]))
 have i:Bp (s.take nm.length)=nm:=Zm i;have D:=Zm D;rw[←YI]at D;have D:(s.drop nm.length).take 1=[32]\/(s.drop nm.length).take 1=[62]:=D;rw[Zj]at L;have Q:=Yc nm.length s;obtain⟨Z,S⟩:∃Z,s.take nm.length=Z:=(yE _ rfl)
 obtain⟨t,R⟩:∃t,s.drop nm.length=t:=(yE _ rfl)
 rw[S]at i Q;rw[R]at D Q;obtain⟨d,f,rfl,hd⟩:∃d f,t=d::f/\(d=32\/d=62):=by
  cases t with
  |nil=>show D.elim (λz=>nomatch z) λz=>nomatch z
  |cons d f=>show(aU d f rfl (D.imp (λz=>(ZI z).1) λz=>(ZI z).1))
 have A:∀c∈Z,c∈AW:=λc u=>aaB (h.low.lt _ (by rw[←i];show Xr u));cases Z with
 |nil=>show T4 i.symm h.low.ne
 |cons c l=>
  have j:d∉AW:=by rcases hd with rfl|rfl<;>decide
  obtain⟨w,V⟩:=gS j A;rw[Q]at w V;have C:F0 false (d::f)=true:=by
   have P:(beq 47 49||(and (beq 47 47) (FC s)||and (decide (47∈AW)) (F0 true (dl s))))=true:=P;rw[show decide (47∈AW)=false from rfl]at P;have P:FC s=true:=by
    have P:(FC s||false)=true:=P;rw[Wp]at P;show P
   rw[←Q]at P;have u:=A c (.head _);have G:c≠49:=λe=>by rw[e]at u;show T4 u (by ext)
   have P:(and (beq c 49) (F5 (l++d::f))||and (decide (c∈AW)) (F0 false (dl (l++d::f))))=true:=P;rw[bX G,Zr u,(gS j λe M=>A e (.tail _ M)).2]at P;show P
  have H:l.length<=9000:=by
   have:=T3 List.length Q;rw[Zg,Zj]at this;show Zh (Zh (Zh (YX _) (ZR _ _)) (Zz this)) (Yo L)
  have q:BV (c::l):=dz A (show l.length+1<=10000 by lia);have SU:GH n (47::s)=F3 true (Bp (c::l)) ((n+3+l.length:Nat):Int) (d::f):=by
   rw[show GH n (47::s)=C5 true (n+2) s from Zk rfl];unfold C5;rw[Zi (by rw[w];show λz=>nomatch z),show s.drop (Ar s).length=d::f by rw[w, ←Q,YU],w,Zj];rw[show n+2+(l.length+1)=n+3+l.length by show YS (YJ (n+2) l.length)]
  rw[SU];have v:=h.to (tb:=tb) (n:=n) (y:=d::f) A H;have I:60::47::c::(l++d::f)=60::47::s:=by rw[←Q];rfl
  rw[I]at v;show Mk.acO (y:=60::47::c::l) v I.symm (show n+3+l.length=n+(l.length+1+1+1) by lia) (λz=>nomatch z) ?_;have g:Bp nm=Bp (c::l):=by rw[i,h.low.low]
  have o:∀E,E≠47->EY (.AM false nm O) (some (c::l)) (E::f):=λE F=>(aM nm O (c::l) rfl rfl h.low.small q λX W e Y=>by rw[←(ZI e).1];show F)
  rcases hd with rfl|rfl
  ·show Mk.pre (b:=⟨.live true (c::l) false,535,some (c::l),n+3+l.length+1,f⟩) (y:=[32]) (eP (x:=[32]) (CJ B N,EY,true) h.n (o _ (by ext)) (Zk ⟨by ext,g⟩) rfl rfl) rfl rfl ?_;have k:f=[]\/∃r,f=62::r:=(sF C).elim (λz=>by lia) λz=>z.2;have:=yC (tb:=some (c::l)) (n:=n+3+l.length+1) (en:=true) q k;rw[jg (by ext)];rcases k with rfl|⟨r,rfl⟩<;>show this
  ·show gx (en:=true) (sc:=false) (nm:=Bp (c::l)) (tb':=some (c::l)) (r':=f) (e:=((n+3+l.length:Nat):Int)) (p:=(CJ B N,EY,true)) (x:=[62]) h.n (o _ (by ext)) ?_ rfl rfl;show aac.trans ((Zi λz=>T4 z.1 (by ext)).trans (Zk ⟨rfl,g⟩))
def OO(c:Nat):Bool:=and (or (Nat.blt c 128) (beq c 233)) (and (!beq c 9) (and (!beq c 12) (and (!beq c 13) (!beq c 35))))
def Hm:WJ->Bool
 | []=>true
 |c::r=>and (OO c) (and (or (!beq c 60) (IT r)) (Hm r))
def ot(h:Hm (a++b)=true):Hm b=true:=by
 induction a with
 |nil=>show h
 |cons c a Q=>show Q (ar (ar h).2).2
def sC(h:Hm (a++60::b)=true):IT b=true:=by
 show(ar (ar (ot h)).2).1
def yA(h:Hm r=true):∀c∈r,OO c=true:=by
 induction r with
 |nil=>show λZ h=>nomatch h
 |cons a r Q=>
  show zA (ar h) λU N=>?_;intro c u;rcases Zb u with rfl|u
  ·show U
  ·show Q (ar N).2 c u
def acS(h:OO c=true):Oc c:=by
 show zA (ar h) λZ h=>zA (ar h) λU h=>zA (ar h) λN h=>zA (ar h) λD A=>?_;have n:∀ {x:Nat},(!beq c x)=true->c≠x:=λh e=>by replace h:=e▸h;replace h:=(bW _)▸h;show nomatch h
 show⟨n U,n N,n D,n A⟩
def ry(v:Nat)(nm:WJ):∀r:WJ,(∀i,i<DP v nm r->B6 v nm (r.drop i)=false)/\(DP v nm r<r.length->B6 v nm (r.drop (DP v nm r))=true)
 | []=>⟨λi h=>T4 h (X4 i),λh=>T4 h (YA 0)⟩
 |c::r=>by
  by_cases h:B6 v nm (c::r)=true
  ·rw[show DP v nm (c::r)=0 from Zk h];show⟨λi h=>T4 h (X4 i),λZ=>h⟩
  ·show zA (ry v nm r) λU N=>?_;rw[show DP v nm (c::r)=DP v nm r+1 from Zi h];show⟨λi hi=>?_,λD=>N (Wh D)⟩;cases i with
   |zero=>simpa using h
   |succ i=>show U i (Wh hi)
def rz{nm r:WJ}(h:B6 v nm r=true):v<3/\∃u,r=60::u:=by
 unfold B6 at h;have hd:∀ {k:Nat} {l:WJ},r.take (k+1)=60::l->∃u,r=60::u:=λ{k l} e=>by
  cases r with
  |nil=>show nomatch e
  |cons a r=>show⟨r,by rw[(ZI e).1]⟩
 split at h
 ·rename_i q;show⟨by lia,hd (Zm h)⟩
 ·split at h
  ·rename_i q;rw[Zp]at h;show⟨q,hd (Zm h.1)⟩
  ·show nomatch h
inductive Jp:Nat->WJ->Nat->WJ->Tz->Prop
 |nil {n kd nm}:Jp n [] kd nm []
 |last {n r kd nm}:r≠[]->DP kd nm r=r.length->Jp n r kd nm (Hs kd r.length n r)
 |more {n a r' kd nm T x r2 kd' nm' row}:DP kd nm (a++60::r')=a.length->GH (n+a.length) r'=.tup [.lst T,.int ((n+a.length+x.length:Nat):Int),.int (kd':Nat),.str nm']->60::r'=x++r2->x≠[]->T.length<=2->kd'<4->Jp (n+a.length+x.length) r2 kd' nm' row->
   Jp n (a++60::r') kd nm (Hs kd a.length n a++(T++row))
def fK:∀(f n:Nat) (r:WJ),(Hs kd f n r).length<=2*r.length
 |0,_,_=>ZF _
 |f+1,_,[]=>ZF _
 |f+1,n,c::b=>by
  have Q:=fK (kd:=kd) f (n+Cu kd c b) ((c::b).drop (Cu kd c b));have N:=pq kd n c b;show zA (uM kd c b) λn1 n2=>?_;replace Q:=ZM▸Q;replace Q:=Zj▸Q;rw[Zg,Zj];show Zh (Z9 N (Zh Q (Yg 2 (Nat.sub_le_sub_left n1 _)))) (Zz (Xp 2 _))
def Jp.len{j:WJ}(h:Jp n r v j y):y.length<=2*r.length:=by
 induction h with
 |nil=>show Zq _
 |last _ _=>show fK _ _ _
 | @more n a u v j T x r2 g d y U N b A Q O l e=>
  have c:=fK (kd:=v) a.length n a;have P:=Nat.pos_of_ne_zero λz=>A (YF z);have D:=T3 List.length b;rw[Zj,Zg]at D;rw[Zg,Zg,Zg,Zj];show Zh (Z9 c (Zh (Z9 (Zh Q (Yg 2 P)) e) (Zz ((Nat.mul_add 2 _ _).symm.trans (T3 (2* ·) D.symm))))) (Zz (Nat.mul_add 2 _ _).symm)
def mh:∀(f n:Nat) (r:WJ) (v:Nat) (b:WJ) (l:Ct) (o:TK),r.length<=f->r.length<=9000->Pl v b l->(r=[]\/DJ l)->Hm r=true->
  ∃p T,Jp n r v b p/\Eg l (Sg v) o n r T/\T.map Sl=p
 |f,n,[],v,b,l,o,_,_,hP,_,_=>by
  show(a8 [] [] .nil ?_ rfl);show k4 (P:=λv=>Eg l (Sg v) o n [] []) (.stop (C7,S5,true) _ rfl trivial rfl rfl rfl rfl) (.stop (BZ,S5,true) _ rfl trivial rfl rfl rfl rfl) (.stop (FP,S5,true) _ rfl trivial rfl rfl rfl rfl) (.stop (DU,S5,true) _ rfl trivial rfl rfl rfl rfl) hP.k
 |0,n,c::r,v,b,l,o,h,_,_,_,_=>T4 h (XJ _)
 |f+1,n,c::r0,v,b,l,o,hf,hl,hP,hi,hT=>by
  have hid:DJ l:=hi.resolve_left λz=>nomatch z;obtain⟨r,D⟩:∃r,c::r0=r:=(yE _ rfl)
  have E:r≠[]:=λz=>by replace D:=z▸D;show nomatch D
  rw[D]at hf hl hT⊢;clear D hi;show zA (ry v b r) λZ d=>?_;have k:=rx v b r;have j:=Yc (DP v b r) r;obtain⟨a,F⟩:∃a,r.take (DP v b r)=a:=(yE _ rfl)
  obtain⟨z,O⟩:∃z,r.drop (DP v b r)=z:=(yE _ rfl)
  have i:a.length=DP v b r:=by rw[←F,ZG];show ZO k
  replace j:=F▸j;replace j:=O▸j;replace d:=O▸d;have hz:z=[]\/(v<3/\B6 v b z=true/\∃m,z=60::m):=by
   rcases YT (DP v b r) r.length with h|h
   ·show zA (rz (d h)) λU G=>.inr ⟨U,d h,G⟩
   ·show .inl (by rw[←O];show YD h)
  have hM:∀N y,a=N++60::y->v≠3->v≠0/\B6 v b (60::(y++z))=false/\IT (y++z)=true:=λN y e uu=>by
   have er:r=N++60::(y++z):=by rw[←j,e,Zo];rfl
   have M:N.length<DP v b r:=by rw[←i,e,Zg,Zj];lia
   have U:=Z _ M;replace U:=(show r.drop N.length=60::(y++z) by rw[er,YU])▸U;show⟨λe0=>?_,U,sC (a:=N) (by rw[←er];show hT)⟩;replace U:=e0▸U;show nomatch (U)
  have ho:=λx I=>acS (yA hT x (by rw[←j];show I));show aX (pA hP (hz.imp id λq=>⟨q.1,q.2.2⟩) a.length n a o (Zq _) (Zh (Zz i) (Zh k hl)) ho hM) λt T1 w V=>?_;replace w:=j▸w;rcases hz with rfl|⟨Y,C,m,rfl⟩
  ·replace j:=(Zu _)▸j;clear hT hl hf Z k F O d;subst j;show bA (mh f (n+a.length) [] v b l t (ZF _) (ZF _) hP (.inl rfl) rfl) λB A g1 g2 g3=>?_;have e2:A=[]:=by
    have:=g1.len;replace this:=(YS g3)▸this;replace this:=(ZD _)▸this;show YF (Wq.mp this)
   subst e2;show(a8 _ (T1++[]) (.last E i.symm) (w _ g2) ?_);rw[Zu,V]
  ·clear F O;subst j;have s:=sC hT;rw[Zg,Zj]at hl hf;have W:O4 ⟨l,Sg v,t,n+a.length,60::m⟩ (GH (n+a.length) m):=by
    have hz9:m.length+1<=9000:=Zh (Z0 _ _) hl;clear hT hl hf w Z d hM ho V k E;induction v,Y using k3e with
    |h0=>show aau hid (by lia) s
    |h1=>
     show aA (hP.t (.inl rfl)) λsc Q g=>?_;subst Q;show sS (yy g) (by lia) s C
    |h2=>
     show aA (hP.t (.inr rfl)) λsc Q g=>?_;subst Q;show sS (yx g) (by lia) s C
   obtain⟨T,x,r2,L,X,H,S,U,G,h3,h4,h5,h6,h7⟩:=W;have I:=Nat.pos_of_ne_zero λz=>h7 (YF z);have u:=T3 List.length U;replace u:=Zj▸u;replace u:=Zg▸u;have R:Hm r2=true:=by
    have e:a++60::m=(a++x)++r2:=by rw[Zo];show T3 (a++ ·) U
    replace hT:=e▸hT;show ot hT
   show bA (mh f (n+a.length+x.length) r2 H S L X (Xc (Zh (Zh (Zh (Zz (Xp _ 1)) (ZV I _)) (Zz u.symm)) (Zh (Z0 _ _) hf))) (Zh (Z0 _ _) (Zh (Zz u.symm) (Zh (Z0 _ _) hl))) h4 h5 R) λB A g1 g2 g3=>(a8 _ (T1++(T++A)) (.more i.symm h3 U h7 (by rw[ZD];show h6) h4.k g1) (w _ (G _ g2)) ?_)
   rw[Z7,Z7,V,g3]
def Su:Bool->WJ->WJ
 |_,[]=>[]
 |b,c::r=>if c=13 then 10::Su true r else if c=10/\b=true then Su false r else c::Su false r
def we(U:c≠13)(N:c≠10)(r:WJ):Su b (c::r)=c::Su false r:=by
 change(if c=13 then _ else if c=10/\b=true then _ else _)=_;rw[Zi U,Zi λq=>N q.1]
def yD(b:Bool)(r:WJ):Su b (13::r)=10::Su true r:=rfl
def afo(r:WJ):Su true (10::r)=Su false r:=rfl
def ac2(h:c≠10)(r:WJ):Su b (c::r)=Su false (c::r):=by
 by_cases U:c=13
 ·subst U;rfl
 ·rw[we U h,we U h]
def rY(y z:WJ)(c:Nat)(r:WJ):AS y z 0 (c::r)=if y.isPrefixOf (c::r)then z++AS y z (y.length-1) r else c::AS y z 0 r:=rfl
def yu(c:Nat)(r:WJ):AS [13] [10] 0 (c::r)=if c=13 then 10::AS [13] [10] 0 r else c::AS [13] [10] 0 r:=by
 rw[rY];by_cases h:c=13
 ·subst h;rfl
 ·have:[13].isPrefixOf (c::r)=false:=by
   change((13==c)&&_)=false;rw[beq_eq_false_iff_ne.mpr λe=>h e.symm];rfl
  rw[this,Zi h];rfl
def iI(h:c≠13)(r:WJ):AV (c::r)=c::AV r:=by
 have:[13,10].isPrefixOf (c::r)=false:=by
  change((13==c)&&_)=false;rw[beq_eq_false_iff_ne.mpr λe=>h e.symm];rfl
 unfold AV;rw[rY,this,yu,Zi h]
def qd(r:WJ):AV (13::10::r)=10::AV r:=by
 unfold AV;rw[show AS [13,10] [10] 0 (13::10::r)=10::AS [13,10] [10] 0 r from rfl];rfl
def wd(h:c≠10)(r:WJ):AV (13::c::r)=10::AV (c::r):=by
 have:[13,10].isPrefixOf (13::c::r)=false:=by
  change((13==13)&&((10==c)&&_))=false;rw[beq_eq_false_iff_ne.mpr λe=>h e.symm];rfl
 unfold AV;rw[rY,this,yu,Zk rfl]
def gy:∀l,AV l=Su false l
 | []=>rfl
 | [c]=>by
  by_cases h:c=13
  ·subst h;rfl
  ·rw[iI h];by_cases N:c=10
   ·subst N;rfl
   ·rw[we h N];rfl
 |c::d::r=>by
  by_cases h:c=13
  ·subst h;by_cases N:d=10
   ·subst N;rw[qd,yD,afo,gy r]
   ·rw[wd N,yD,ac2 N,gy (d::r)]
  ·rw[iI h,gy (d::r)];by_cases N:c=10
   ·subst N;rfl
   ·rw[we h N]
def gC:∀(l:WJ) (b:Bool) (k:Nat),Su b (l.take k)<+:Su b l
 | [],_,k=>by rw[Wn];show XT _
 |_::_,_,0=>List.nil_prefix
 |c::l,b,k+1=>by
  by_cases h:c=13
  ·subst h;rw[propext Y1];show⟨rfl,gC l true k⟩
  ·by_cases N:c=10/\b=true
   ·obtain⟨rfl,rfl⟩:=N;show gC l false k
   ·have e:∀r,Su b (c::r)=c::Su false r:=λr=>(Zi h).trans (Zi N);rw[e,e,propext Y1];show⟨rfl,gC l false k⟩
def aae(h:b=true->c=true)(k:or a b=true):or a c=true:=by
 cases a with
 |true=>rfl
 |false=>show h k
def lB(h:b=true->c=true)(k:and a b=true):and a c=true:=by
 cases a with
 |true=>show h k
 |false=>show k
def tL(h:F5 (a++z)=true):F5 a=true:=by cases a with
 |nil=>rfl
 |cons _ _=>show h
def vZ(h:F0 P (a++z)=true):F0 P a=true:=by cases a with
 |nil=>rfl
 |cons c a=>show aae (lB tL) h
def mq:∀ {s:WJ},F0 P (dl (s++z))=true->F0 P (dl s)=true
 | [],_=>rfl
 |c::s,h=>by
  have e:∀r,dl (c::r)=if decide (c∈AW)=true then dl r else c::r:=λr=>Y6;rw[Y2,e]at h;rw[e];split
  ·rename_i q;rw[Zk q]at h;show mq h
  ·rename_i q;rw[Zi q]at h;show vZ h
def sD(h:FC (a++z)=true):FC a=true:=by cases a with
 |nil=>rfl
 |cons c s=>
  have h:=h;change or (and (beq c 49) (F5 s)) (and (decide (c∈AW)) (F0 false (dl s)))=true;rcases Yq _ _▸h with h|h
  ·rw[lB tL h];rfl
  ·rw[lB mq h];show Bool.or_true _
def vY(h:IT (a++z)=true):IT a=true:=by cases a with
 |nil=>rfl
 |cons c s=>
  have h:=h;show aae (λh=>?_) h;rcases Yq _ _▸h with h|h
  ·rw[lB sD h];rfl
  ·rw[lB mq h];show Bool.or_true _
def oq:∀ {a:WJ},Hm (a++z)=true->Hm a=true
 | [],_=>rfl
 |c::a,h=>by
  show zA (ar h) λU N=>zA (ar N) λN D=>?_;change and (OO c) (and (or (!beq c 60) (IT a)) (Hm a))=true;rw[U,aae vY N,oq D];rfl
def Ii(n:Nat):WJ:=Ih.getD (n % 32) []
def sh(n:Nat):n % 32<Ih.length:=Nat.mod_lt _ (by ext)
def nY(n:Nat):Ii n∈Ih:=by
 unfold Ii;rw[Yy,Zy (sh n)];show Xh (sh n)
def aad:∀p∈Ih,∀(b:Bool) (r:WJ),Hm (Su b (p++r))=Hm (Su (decide (p=[13])) r):=by
 show Zc ⟨λb r=>by cases b<;>rfl,?_⟩;show Zc ⟨λb r=>by cases b<;>rfl,?_⟩;show Zc ⟨λb r=>by cases b<;>rfl,?_⟩;show Zc ⟨λb r=>by cases b<;>rfl,?_⟩;show Zc ⟨λb r=>by cases b<;>rfl,?_⟩;show Zc ⟨λb r=>by cases b<;>rfl,?_⟩;show Zc ⟨λb r=>by cases b<;>rfl,?_⟩;show Zc ⟨λb r=>by cases b<;>rfl,?_⟩;show Zc ⟨λb r=>by cases b<;>rfl,?_⟩;show Zc ⟨λb r=>by cases b<;>rfl,?_⟩;show Zc ⟨λb r=>by cases b<;>rfl,?_⟩;show Zc ⟨λb r=>by cases b<;>rfl,?_⟩;show Zc ⟨λb r=>by cases b<;>rfl,?_⟩;show Zc ⟨λb r=>by cases b<;>rfl,?_⟩;show Zc ⟨λb r=>by cases b<;>rfl,?_⟩;show Zc ⟨λb r=>by cases b<;>rfl,?_⟩;show Zc ⟨λb r=>by cases b<;>rfl,?_⟩;show Zc ⟨λb r=>by cases b<;>rfl,?_⟩;show Zc ⟨λb r=>by cases b<;>rfl,?_⟩;show Zc ⟨λb r=>by cases b<;>rfl,?_⟩;show Zc ⟨λb r=>by cases b<;>rfl,?_⟩;show Zc ⟨λb r=>by cases b<;>rfl,?_⟩;show Zc ⟨λb r=>by cases b<;>rfl,?_⟩;show Zc ⟨λb r=>by cases b<;>rfl,?_⟩;show Zc ⟨λb r=>by cases b<;>rfl,?_⟩;show Zc ⟨λb r=>by cases b<;>rfl,?_⟩;show Zc ⟨λb r=>by cases b<;>rfl,?_⟩;show Zc ⟨λb r=>by cases b<;>rfl,?_⟩;show Zc ⟨λb r=>by cases b<;>rfl,?_⟩;show Zc ⟨λb r=>by cases b<;>rfl,?_⟩;show Zc ⟨λb r=>by cases b<;>rfl,?_⟩;show Zc ⟨λb r=>by cases b<;>rfl,?_⟩;show λp j=>nomatch j
def sg:∀p∈Ih,p.length<=11/\p≠[]/\∀c∈p,(Kt (c:Int)=decide (c=1))/\(EK c=true->c=13):=by decide+kernel
structure Txt (W:WJ):Prop where
 len:W.length<=200
 ok:Hm (AV W)=true
 ch:∀c∈W,(Kt (c:Int)=decide (c=1))/\(EK c=true->c=13)
def zj(D:TL)(k:Nat)(h:∀p∈D,p∈Ih)(e:D.length<=16):Txt (D.flatten.take k):=by
 have U:∀(D:TL),(∀p∈D,p∈Ih)->D.flatten.length<=11*D.length/\(∀b,Hm (Su b D.flatten)=true)/\∀c∈D.flatten,(Kt c=decide (c=1))/\(EK c=true->c=13):=by
  intro D;induction D with
  |nil=>intro _;show⟨Zq _,λb=>by cases b<;>rfl,λc u=>nomatch u⟩
  |cons p D Q=>
   intro h;show cu (Q λq SG=>h q (.tail _ SG)) λN a g=>?_;have b:=sg p (h p (.head _));rw[XG];show⟨?_,λs=>?_,λc u=>?_⟩
   ·rw[Zg,Zj];lia
   ·rw[aad p (h p (.head _))];show a _
   ·rcases Yi.mp u with k|k
    ·show b.2.2 c k
    ·show g c k
 show cu (U D h) λN a g=>⟨by rw[ZG];show Zh (Yt _ _) (Zh N (Zh (Yg 11 e) (by ext))),?_,λc u=>g c (List.mem_of_mem_take u)⟩
 rw[gy];show zE (gC D.flatten false k) λz P=>?_;have:=a false;rw[←P]at this;show oq this
def LP(W:WJ):Nat:=(W.filter λc=>decide (c=1)).length
theorem Txt.AH(h:Txt W):(Ao W).length=LP W:=by
 rw[ZD];show T3 List.length (List.filter_congr λc u=>(h.ch c u).1)
def zR(h:Txt W):∃y T,Jp 0 (AV W) 0 [] y/\Eg .no 304 none 0 (AV W) T/\T.map Sl=y:=by
 have D:=d8 W;have:=h.len;show mh (AV W).length 0 (AV W) 0 [] .no none (Zq _) (by lia) Pl.zero (.inr (.inl rfl)) h.ok
def IV(O:List Int):WJ:=if O.take 16=[]then [0,9,7,1]else(O.take 16).map λn=>(Int.fmod n 128).toNat
def v5(O:List Int):IV O≠[]/\(IV O).length<=16/\∀n∈IV O,n<128:=by
 unfold IV;split
 ·show⟨by ext,by ext,by ext⟩
 ·rename_i q;show⟨λe=>q (List.map_eq_nil_iff.mp e),by rw[ZD,ZG];show X5 16 O.length,λn j=>?_⟩;show aA (Y3.mp j) λx Z P=>?_;clear j;subst P;show(Int.toNat_lt (Int.fmod_nonneg_of_pos x (b:=128) (by ext))).mpr (Int.fmod_lt_of_pos x (b:=128) (by ext))
def FG(O:WJ):WJ:=(O.map Ii).flatten
noncomputable def keep(O:WJ):Nat:=max 1 ((FG O).length-(O.getLastD 0) / 32)
def Kx(O:WJ):WJ:=(FG O).take (keep O)
def ace(h:O.length<=16):Txt (Kx O):=zj _ _ (λp j=>by show aA (Y3.mp j) λn Z P=>?_;subst P;show nY n) (by rw[ZD];show h)
end
end Mine.A
namespace Mine.B
section
open Mine.A
open Mine.Head
def iO(P:Wx):CF P 795 [215] Fb:=show _=_ by left
def mM(P:Wx):CF P 802 [235,115] Ex:=show _=_ by left
def mL(P:Wx):CF P 774 [] Ez:=show _=_ by left
def mK(P:Wx):CF P 781 [] Ey:=show _=_ by left
def kT(P:Wx):CF P 788 [] DM:=show _=_ by left
def t8(P:Wx):CF P 809 [311,237] CW:=show _=_ by left
def jE(P:Wx):CF P 816 [311,237] Dr:=show _=_ by left
def kS(P:Wx):CF P 828 [311,237] NC:=show _=_ by left
def qx(P:Wx):CF P 835 [311,237,191,215] Fc:=show _=_ by left
def cC(P:Wx):CF P 821 [311,237,191] Ds:=show _=_ by left
section
variable {w:Wy}{mg mb:Wu->TM}
def vh(T:TopRead pw Sy mg mb (H1 w.params)):∀p∈MN,AB false (Ai w) p.1 2 p.2:=by
 show fm (aV T (e7 T) (mL _) rfl xp) ?_;show fm (aV T (e7 T) (mK _) rfl xf) ?_;show fm (aV T (e7 T) (kT _) rfl ur) ?_;show fm (aV T (e7 T) (iO _) rfl ug) ?_;show fm (aV T (e7 T) (mM _) rfl xq) ?_;show fm (aV T (e7 T) (t8 _) rfl adT) ?_;show fm (aV T (e7 T) (jE _) rfl qG) ?_;show λp j=>nomatch j
def zM(T:TopRead pw Sy mg mb (H1 w.params)):CV (Ai w) SM (K w.params) SY Sy mg mb 2:=cv T (vh T)
def MM:List (Nat×A.Aq):=(821,FN)::(828,Gq)::(835,IA)::(795,GR)::(126,DA)::(261,DB)::[]
def vg(T:TopRead pw Sy mg mb (H1 w.params)):∀p∈MM,AB false (Ai w) p.1 29 p.2:=by
 show fm ((abn T (zM T) (aaS w (ad7 w.params)) (T3 (λp=>p.1.1) (cC w.params)) (T3 (λp=>p.1.2.1) (cC w.params)) (λZ Z Z Z N=>acV (T3 (λp=>p.1.2.2.1) (cC w.params)) N) ((cC w.params).DL (by ext)) qI).mono (by ext)) ?_;show fm ((aV T (zM T) (kS _) rfl um).mono (by ext)) ?_;show fm ((aV T (zM T) (qx _) rfl aa5).mono (by ext)) ?_;show fm ((aV T (e7 T) (iO _) rfl ug).mono (by ext)) ?_;show fm ((aV T (vy T) (gY _) rfl hV).mono (by ext)) ?_;show fm ((iT T (vx T) rfl (T3 Prod.fst (dR _)) (gj w) ib).mono (by ext)) ?_;show λp j=>nomatch j
def aaT(P:Wx):fnIn (K P) 821=true:=by left
def SK:G:= {Ax MM with fn:=λf=>or (beq f 821) (g0.fn f),loop:=λl v s k=>Bool.rec False (I1 v s k) (beq l 1398)}
def acz(T:TopRead pw Sy mg mb (H1 w.params)):CV (Ai w) SK (K w.params) SY Sy mg mb 29:=by
 have S:=cv T (vg T);show⟨S.Y,⟨S.YG.own,S.YG.cls,S.YG.Gy,S.YG.FA,S.YG.Gp,S.YG.con,S.YG.Jy,λf h=>?_,S.YG.mn⟩,S.MB,S.C,λl Q v J k h=>?_⟩
 ·rcases Yq _ _▸h with h|h
  ·rw[ZC h];show aaT _
  ·show S.YG.fn f h
 have h:(Bool.rec False (I1 v J k) (beq l 1398):Prop):=h;cases q:beq l 1398 with
 |false=>rw[q]at h;show h
 |true=>
  have Q:(beq l 1398||beq l 255)=false:=Q;rw[q,Bool.true_or]at Q;show nomatch Q
def Sj:Nat->List WG->Bool
 |0,_=>false
 |_+1,[]=>true
 |n+1,s::r=>and (match s with
  | .Expr _ _=>true
  | .Assign ts e _=> !(ts.all Fo&&Dv e)
  | .If _ a b _=>and (Sj n a) (Sj n b)
  |_=>false) (Sj n r)
def nU:∀ {n:Nat} {l:List WG},Sj n l=true->∀m,Fe p m l=[]
 |0,_,h=>nomatch h
 |_+1,[],_=>λm=>by cases m<;>rfl
 |n+1,s::r,h=>λm=>by
  show zA (ar h) λU N=>?_;cases m with
  |zero=>rfl
  |succ m=>
   change KI p m s++Fe p m r=[]
   rw[nU N,Zu];cases m with
   |zero=>rfl
   |succ m=>
    cases s with
    |Expr _ _=>rfl
    |Assign y e q=>
     change(if _ then _ else _)=_;rw[Zi (by rw[(Z8 _▸U:(y.all Fo&&Dv e)=false)];decide)]
    |If c a b q=>
     show zA (ar U) λg1 g2=>?_;change Fe p m a++Fe p m b=[]
     rw[nU g1,nU g2];rfl
    |_=>show nomatch U
def OR(P:Wx):WG:=(Fe SY 60 (Ap (fd P 840))).getD 0 (.Pass default)
def NU(P:Wx):WE:=match OR P with| .For t _ _ _ _=>t|_=>.Constant .none 0 default
def OS(P:Wx):WE:=match OR P with| .For _ i _ _ _=>i|_=>.Constant .none 0 default
def KV(P:Wx):List WG:=match OR P with| .For _ _ b _ _=>b|_=>[]
def P1(P:Wx):Pos:=match OR P with| .For _ _ _ _ p=>p|_=>default
def adG(P:Wx):Fe SY 60 (Ap (fd P 840))=[.For (.Name (LA (NU P)) (Ig (NU P))) (OS P) (KV P) [] (P1 P)]:=by left
def adF(P:Wx):(P1 P).line=1398:=by left
def wN(P:Wx):SY.code (LA (NU P))=some 312:=by left
def adH(P:Wx):(cB SY (fd P 840).scope 50 (KV P),Sj 20 (KV P))=(Fd,true):=by left
def aaC(T:TopRead pw Sy mg mb (H1 w.params))(f:Fm)(b:f.cs=(fd w.params 840).scope)(l:f.vl=true)(j:f.own=true):∀t∈Fe SY 60 (Ap (fd w.params 840)),∀m,SS (Ai w) SK f (29+1) (cS SY f.cs m t) t:=by
 intro t N m;rw[adG]at N;obtain rfl:=Za N;cases m with
 |zero=>show bP
 |succ m=>
  have S:=acz T;have SG:=nU (p:=SY) (T3 (λp=>p.2) (adH w.params));have P:SB (Ai w) SR f 17 Fd (KV w.params):=by
   have:=cY (nN T) 50 f j (KV w.params) λt N=>by rw[SG]at N;show T4 N Yl
   rw[b,show cB SY (fd w.params 840).scope 50 (KV w.params)=Fd from T3 (λp=>p.1) (adH w.params)]at this;show this
  have O:=cY S m f j (KV w.params) λt N=>by rw[SG]at N;show T4 N Yl
  show ir (bU S m) λs Z v Z Z=>?_;have u:=wN w.params;change SS (Ai w) SK f (29+1) (Qf SY f.cs m (.Name (LA (NU w.params)) (Ig (NU w.params))) (OS w.params) (P1 w.params).line (cB SY f.cs m (KV w.params))) _;rw[adF];show dj λD=>b5 λi hi=>?_;obtain rfl:i=312:=Zf (hi.symm.trans u);cases k:Kj SY f.cs 3 (OS w.params)with
  |some a=>
   show aK (iU k) λy q1 q2 e U n c A=>?_;rw[e];show uZ S.Y (de j D) u U c n (v f a A) O
  |none=>show fX λQ=>u0 Q (.name S.Y (de j D) u) (s f (OS w.params)).1 O (wz (λZ Z Z h=>h) T (de j D) l u P)
end
end
end Mine.B
namespace Mine.A
section
open Mine.B Mine.Head
structure LW (l L:Tw):Prop where
 f:∀a v,Sx a l=some v->Sx a L=some v
 o:∀n v,Sx n L=some v->E8 Fy v=true
structure HK (XX:Tx) (m:Nat) (H:Tx):Prop where
 lo:lo H=[]
 m6:64<=m
 n3:N3 H
 ex:∀p∈XX,64<=p.1/\p.1<m/\Sx p.1 H=some p.2
section
variable {l L:Tw}{XX H:Tx}{m:Nat}
def LW.put(h:LW l L)(n:Nat)(v:V)(N:E8 Fy v=true):LW (put n v l) (put n v L):=by
 show⟨λa w e=>?_,λa w e=>?_⟩
 ·rw[ao]at e⊢;split
  ·rename_i q;rw[Zk q]at e;show e
  ·rename_i q;rw[Zi q]at e;show h.f a w e
 ·rw[ao]at e;split at e
  ·obtain rfl:=Zf e;show N
  ·show h.o a w e
def LW.re(h:LW l L)(k:∀p∈u,Sx p.1 l=some p.2):LW u L:=⟨λa v e=>h.f a v (k _ (fD e)),h.o⟩
def HK.push(h:HK XX m H)(o:AO)(a:Hn Fy o=true):HK ((m,o)::XX) (m+1) ((m,o)::H):=by
 have:=h.m6;show⟨?_,by show Xd this,λi q hi e=>?_,λp j=>?_⟩
 ·rw[b7,Zi (show¬m<64 by show YN.mpr this)];show h.lo
 ·rw[aq]at e;split at e
  ·obtain rfl:=Zf e;show a
  ·show h.n3 i q hi e
 ·rcases Zb j with rfl|j
  ·show⟨this,Z4 _,(aq _ _ _).trans (Zk rfl)⟩
  ·show cu (h.ex p j) λU Z D=>⟨U,by show YO 1 Z,by rw[aq,Zi (Z3 Z)];show D⟩
def HK.put(h:HK ((i,o)::XX) m H)(A:∀p∈XX,p.1≠i)(c:Hn Fy o'=true):HK ((i,o')::XX) m (put i o' H):=by
 show cu (h.ex _ (.head _)) λU N f=>⟨?_,h.m6,λj q Q e=>?_,λp a=>?_⟩
 ·rw[b6 (YN.mpr U)];show h.lo
 ·rw[ao]at e;split at e
  ·obtain rfl:=Zf e;show c
  ·show h.n3 j q Q e
 ·rcases Zb a with rfl|a
  ·show⟨U,N,(ao _ _ _ _).trans (Zk rfl)⟩
  ·show cu (h.ex p (.tail _ a)) λb Z D=>⟨b,Z,by rw[ao,Zi (A p a)];show D⟩
def HK.w(h:HK XX m H)(k:∀p∈YY,p∈XX):HK YY m H:=⟨h.lo,h.m6,h.n3,λp j=>h.ex p (k p j)⟩
end
def aaN(h:lo H=[]):hi H=H:=by
 induction H with
 |nil=>rfl
 |cons p H Q=>
  rw[b7]at h;rw[tK];by_cases q:p.1<64
  ·rw[Zk q]at h;show nomatch h
  ·rw[Zi q]at h;rw[Zi q,Q h]
section
variable {s:St}{F:TC}
def back(j:lo s.H=[])(v:V)(h:F v s):F v (As s ([]++hi s.H)):=by
 rw[aaN j,YL];show h
def wI(j:lo s.H=[]){d r nm:WJ}{A:Nat}(U:A<4)(N:(d++r).length<=5000)(D:(r.all λc=>or (Nat.blt c 128) (beq c 233))=true)(a:F (.c (.int ((d.length+DP A nm r:Nat):Int))) s):
  BL SK 835 [.c (.str (d++r)),.c (.int (d.length:Nat)),.c (.int (A:Nat)),.c (.str nm)] [] s F:=by
 show fT rfl rfl (by rw[j];rfl) ?_;rw[j];show⟨d,r,A,nm,rfl,rfl,rfl,U,N,D,back j _ a⟩
def aaG(j:lo s.H=[])(U:A<4)(N:(d++r).length<=5000)(D:F (.c (.lst (Hs A r.length d.length r))) s):
  BL SK 821 [.c (.str (d++r)),.c (.int (d.length:Nat)),.c (.int (A:Nat))] [] s F:=by
 show fT rfl rfl (by rw[j];rfl) ?_;rw[j];show(cF d r A rfl rfl rfl U N (back j _ D))
def adh(j:lo s.H=[])(N:(d++60::r).length<=5000)(D:F (.c (GH d.length r)) s):BL SK 828 [.c (.str (d++60::r)),.c (.int (d.length:Nat))] [] s F:=by
 show fT rfl rfl (by rw[j];rfl) ?_;rw[j];show(bj d r rfl rfl rfl N (back j _ D))
def vm(h:k (decide (i<j))):BN 2 (.c (.int i)) (.c (.int j)) s k:=h
def rL(h:F (.c (.str (x.take n))) s):Gn (.c (.str x)) (.c .Ak) (.c (.int (n:Nat))) s F:=by
 have e:slice x none (some n)=x.take n:=by
  change(x.take (DL x.length n)).drop 0=_;rw[bV,Yp, ←Wj]
 have h:F (.c (.str (slice x none (some n)))) s:=by rw[e];show h
 show h
def yL{l q:Tz}(U:Sx i s.H=some (.lst l))(D:l.length+q.length<=16777216)(h:F (.ob i) (As s (put i (.lst (l++q)) s.H))):Es 0 (.ob i) (.c (.lst q)) s F:=by
 change Option.rec (motive:=λZ=>Prop) (Dh 0 (.ob i) (.c (.lst q)) s F) (λo=>AO.casesOn (motive:=λZ=>Prop) o (λl=>Ab (CE s.H (.c (.lst q))) λy=>Ab (aL y) λq=>Hr (l.length+q.length) (F (.ob i) (As s (put i (.lst (l++q)) s.H)))) (λZ=>Dh 0 (.ob i) (.c (.lst q)) s F) (λZ Z=>Dh 0 (.ob i) (.c (.lst q)) s F) λZ=>Dh 0 (.ob i) (.c (.lst q)) s F) (Sx i s.H);rw[U];show aa rfl (aa rfl ⟨D,h⟩)
def iw:Am H (.c (.Ae b))=some b:=rfl
end
def Lx:X:=.cmp 2 (.loc 237) (.fn 0 (.cons (.loc 210) .nil))
def Px:S:=.seq (.GC [(none,317),(none,237),(none,191),(none,215)] (.call 828 (.cons (.loc 210) (.cons (.loc 303) .nil)))) (.seq (.DI 267 0 (.loc 317)) .skip)
def M7:S:=.seq (.iff (.cmp 2 (.loc 303) (.fn 0 (.cons (.loc 210) .nil))) Px .skip) .skip
def IL:S:=.seq (.Aj 303 (.call 835 (.cons (.loc 210) (.cons (.loc 237) (.cons (.loc 191) (.cons (.loc 215) .nil)))))) (.seq (.DI 267 0 (.call 821 (.cons (.Cj (.loc 210) (.k .Ak) (.loc 303)) (.cons (.loc 237) (.cons (.loc 191) .nil))))) (.seq (.Aj 237 (.loc 303)) M7))
abbrev lE(W text:WJ)(ro:Nat)(z:Tw):Tw:=(311,.c (.str W))::(210,.c (.str text))::(267,.ob ro)::z
abbrev lR(W text:WJ)(ro n v:Nat)(nm:WJ):Tw:=lE W text ro [(237,.c (.int (n:Nat))),(191,.c (.int (v:Nat))),(215,.c (.str nm))]
section
variable {W text:WJ}{ro:Nat}{K:TB}{P:TF}
def i9{nm:WJ}{H:Tx}(O:∀s,R6 SK Lx IL K P s->P s)(v:LW (lR W text ro n g nm) L)(U:n<text.length->ex SK IL ⟨L,H,m,false⟩ (wo P K))(N:¬n<text.length->K .AZ ⟨L,H,m,false⟩):P ⟨L,H,m,false⟩:=by
 show O _ (aH (aj (aa (v.f 237 _ rfl) (fO (ah (aj (aa (v.f 210 _ rfl) (au (eW (dt (vm (aa iw (bh (λq=>?_) λq=>?_)))))))))))))
 ·show U (Xa.mp (Zm q))
 ·show N λz=>ZA q (Xa.mpr z)
def yv{nm:WJ}{L:Tw}{b:Tz}{o:TB}(N:text=d++(a++z))(q:d.length=n)(e:kd<4)(w:text.length<=5000)(O:((a++z).all λc=>or (Nat.blt c 128) (beq c 233))=true)(t:DP kd nm (a++z)=a.length)
  (v:LW (lR W text ro n kd nm) L) (h:HK [(ro,.lst b)] m H) (r:b.length<=10000)
  (D:∀U Q,LW (lE W text ro [(237,.c (.int ((n+a.length:Nat):Int))),(303,.c (.int ((n+a.length:Nat):Int)))]) U->HK [(ro,.lst (b++Hs kd a.length n a))] m Q->ex SK M7 ⟨U,Q,m,false⟩ o):ex SK IL ⟨L,H,m,false⟩ o:=by
 subst q;have u:=N▸w;have y:=v.f 210 _ rfl;rw[N]at y;show aG (dh (ah (aj (aa y (ah (aj (aa (v.f 237 _ rfl) (ah (aj (aa (v.f 191 _ rfl) (ah (aj (aa (v.f 215 _ rfl) (au (wI h.lo e u O ?_)))))))))))))));rw[t];have g:=v.put 303 (.c (.int (d.length+a.length:Nat))) rfl;have Z:text.take (d.length+a.length)=d++a:=by
  rw[N, ←Zo, ←Zg,We]
 have k:(d++a).length<=5000:=by rw[←Zo,Zg]at u;show ZK u
 show fM (aa (g.f 267 _ rfl) (dh (ah (d6 (aj (aa (g.f 210 _ rfl) (aQ (aj (aa (g.f 303 _ rfl) (rL ?_))))))))));rw[Z];show ah (aj (aa (g.f 237 _ rfl) (ah (aj (aa (g.f 191 _ rfl) (au (aaG h.lo e k ?_)))))));have i:=fK (kd:=kd) a.length d.length a;have f:a.length<=5000:=by rw[Zg]at k;show Xk k
 show yL (h.ex _ (.head _)).2.2 (Zh (Z9 r (Zh i (Yg 2 f))) (by ext)) ?_;have A:=g.put 267 (.ob ro) (v.o 267 _ (v.f 267 _ rfl));show aG (aj (aa (A.f 303 _ rfl) ?_));show D _ _ ((A.put 237 (.c (.int (d.length+a.length:Nat))) rfl).re (fm rfl (fm rfl (fm rfl (fm rfl (fm rfl λx j=>nomatch j)))))) (h.put (o':=.lst (b++Hs kd a.length d.length a)) (λp j=>nomatch j) rfl)
def vM(E:∀s,R6 SK Lx IL K P s->P s)(hl:text.length<=2000)(O:(text.all λc=>or (Nat.blt c 128) (beq c 233))=true){C:WJ}{rr:Tz}(hR:Jp n r kd C rr):∀(d:WJ) (L:Tw) (H:Tx) (m:Nat) (y:Tz),text=d++r->d.length=n->kd<4->LW (lR W text ro n kd C) L->HK [(ro,.lst y)] m H->y.length+2*r.length<=10000->
  (∀B Q m',LW (lE W text ro []) B->HK [(ro,.lst (y++rr))] m' Q->K .AZ ⟨B,Q,m',false⟩)->P ⟨L,H,m,false⟩:=by
 induction hR with
 |nil=>
  intro d L H m y N j g v h o D;show i9 E v (λq=>?_) λZ=>?_
  ·rw[N,Zu]at q;lia
  ·rw[Zu]at D;show D L H m (v.re (fm rfl (fm rfl (fm rfl λZ k=>nomatch k)))) h
 | @last n r kd C hne M=>
  intro d L H m y N j g v h o D;show i9 E v (λZ=>?_) λq=>?_
  ·show yv (by rw[Zu];show N) j g (by lia) ?_ (by rw[Zu];show M) v h (ZK o) λB Q A w=>?_
   ·rw[Zu];rw[N,List.all_append]at O;show(Zp _ _▸O).2
   have e:text.length=n+r.length:=by rw[N,Zg,j]
   show bE (aH (aj (aa (A.f 303 _ rfl) (fO (ah (aj (aa (A.f 210 _ rfl) (au (eW (dt (vm (aa iw (bH ?_ ?_)))))))))))))
   ·show Zs λz=>by rw[e]at z;show Wo _ z
   show aB (cU (aB ?_));show E _ (aH (aj (aa (A.f 237 _ rfl) (fO (ah (aj (aa (A.f 210 _ rfl) (au (eW (dt (vm (aa iw (bH ?_ ?_)))))))))))))
   ·show Zs λz=>by rw[e]at z;show Wo _ z
   show D B Q m (A.re (fm rfl (fm rfl (fm rfl λZ k=>nomatch k)))) w
  ·exfalso;apply q;have:=Nat.pos_of_ne_zero λz=>hne (YF z);rw[N,Zg];show Z9 (Zz j.symm) this
 | @more n a r' kd C T x r2 G I row2 M hv hx Y hT X hR ih=>
  intro d L H m y N j g v h o D;have e:text.length=n+(a.length+(r'.length+1)):=by rw[N,Zg,Zg,Zj,j]
  show i9 E v (λZ=>?_) λq=>T4 (show n<text.length from Zh (ZH (Z0 1 _) _) (Zz e.symm)) q;rw[Zg,Zj]at o;show yv N j g (by lia) ?_ M v h (ZK o) λB Q A w=>?_
  ·rw[N,List.all_append]at O;show(Zp _ _▸O).2
  show bE (aH (aj (aa (A.f 303 _ rfl) (fO (ah (aj (aa (A.f 210 _ rfl) (au (eW (dt (vm (aa iw (aW ?_ ?_)))))))))))))
  ·show Zr (Xa.mpr (Zh (Z1 (ZR _ _)) (Zz ((Yn _ _ (_+1)).trans e.symm))))
  have i:text=(d++a)++60::r':=by rw[N,Zo]
  have U:(d++a).length=n+a.length:=by rw[Zg,j]
  have b:=A.f 210 _ rfl;rw[i]at b;have u:=A.f 303 _ rfl;rw[←U]at u hv;show rN (dh (ah (aj (aa b (ah (aj (aa u (au (adh w.lo (by rw[←i];lia) ?_)))))))));rw[hv];show acf rfl (gH (gH (gH (gH (yn ?_)))));have f:=(((A.put 317 (.c (.lst T)) rfl).put 237 (.c (.int (((d++a).length+x.length:Nat)))) rfl).put 191 (.c (.int G)) rfl).put 215 (.c (.str I)) rfl;have S:=fK (kd:=kd) a.length n a;show fM (aa (f.f 267 _ rfl) (aj (aa (f.f 317 _ rfl) (yL (w.ex _ (.head _)).2.2 (by rw[Zg];show Zh (Zz (Yn _ _ _)) (Zh (ZH (Zh (Z9 S hT) (Yg _ (ZH (Z0 1 _) _))) _) (Zh o (by ext)))) ?_))));show aB (cU (aB ?_));have hxl:=Nat.pos_of_ne_zero λz=>Y (YF z);have t:=T3 List.length hx;rw[Zj,Zg]at t;show ih ((d++a)++x) _ _ m (y++Hs kd a.length n a++T) (by rw[i,hx,Zo,Zo,Zo]) (by rw[Zg,U]) X ?_ (w.put (o':=.lst (y++Hs kd a.length n a++T)) (λp k=>nomatch k) rfl) (by rw[Zg,Zg];lia) λL4 H4 m4 R h4=>D L4 H4 m4 R ?_
  ·rw[←U];show(f.put 267 (.ob ro) (v.o 267 _ (v.f 267 _ rfl))).re (fm rfl (fm rfl (fm rfl (fm rfl (fm rfl (fm rfl λZ k=>nomatch k))))))
  ·rw[Zo,Zo]at h4;show h4
end
def rG(c x:Nat)(r:WJ):Ag c (x::r)=if x=c then []::Ag c r else match Ag c r with
  |h::t=>(x::h)::t
  | []=>[[x]]:=rfl
def zJ(c:Nat)(l:WJ):∃h t,Ag c l=h::t:=by
 induction l with
 |nil=>show(j2 [] [] rfl)
 |cons x r Q=>
  show iq Q λh t e=>?_;rw[rG,e];split
  ·show(j2 _ _ rfl)
  ·show(j2 _ _ rfl)
def acw(P:x≠c)(e:Ag c r=h::t):Ag c (x::r)=(x::h)::t:=by
 rw[rG,Zi P,e]
def rF(r:WJ):Ag c (c::r)=[]::Ag c r:=by rw[rG,Zk rfl]
def vu(c:Nat)(l:WJ):(Ag c l).length=l.count c+1/\∃q,(Ag c l).getLast?=some q/\(q.length:Int)=l.length-(Dn c l+1)/\ -1<=Dn c l/\(Dn c l= -1->Ag c l=[q])/\(0<=Dn c l->∃a b t,Ag c l=a::b::t):=by
 induction l with
 |nil=>
  rw[show Dn c []= -1 from rfl];show⟨rfl,fL [] rfl rfl (by ext) (λZ=>rfl) λh=>T4 h (by ext)⟩
 |cons x r i=>
  obtain⟨U,q,N,n,A,Q,O⟩:=i;have y:Dn c (x::r)=if 0<=Dn c r then Dn c r+1 else if x=c then 0 else-1:=rfl;show iq (zJ c r) λh t e=>?_;by_cases P:x=c
  ·clear Q O;subst P;show⟨by rw[rF,Zj,U,List.count_cons_self],fL q ?_ ?_ ?_ ?_ ?_⟩
   ·rw[rF,e,X8, ←e];show N
   ·rw[y,Zj];split
    ·lia
    ·rw[Zk rfl];lia
   ·rw[y];split
    ·show Int.le_add_one A
    ·rw[Zk rfl];show Int.neg_ofNat_le_ofNat 1 0
   ·intro k;rw[y]at k;split at k
    ·lia
    ·rw[Zk rfl]at k;lia
   ·intro _;rw[rF,e];show(gp _ _ _ rfl)
  ·rw[Zi P]at y;rw[acw P e,show(x::r).count c=r.count c from List.count_cons_of_ne P,y];rw[e]at U N Q O;by_cases D:0<=Dn c r
   ·rw[Zk D];obtain⟨a,b,z,f⟩:=O D;cases f;show⟨U,fL q ?_ ?_ (Int.le_add_one A) (λk=>by lia) λZ=>(gp _ _ _ rfl)⟩
    ·rw[X8]at N⊢;show N
    ·rw[Zj];lia
   ·rw[Zi D];have d:=Q (Int.le_antisymm (Int.le_of_lt_add_one (Int.not_le.mp D)) A);cases d;show⟨U,fL (x::q) rfl ?_ (Int.le_refl (-1)) (λZ=>rfl) λk=>by lia⟩;rw[Zj,Zj];lia
def oP{y:Type}(l:List y)(x:y):Co (l++[x]) (-1)=some x:=by
 cases l with
 |nil=>show tI x []
 |cons a r=>show(tI a (r++[x])).trans (by simp)
def tv(l:WJ):∃a q,Ag 10 l=a++[q]/\(((Ag 10 l).length:Nat):Int)=EG l+1/\((q.length:Nat):Int)=EM l:=by
 obtain⟨Z,w,d,c,_⟩:=vu 10 l;rcases List.eq_nil_or_concat (Ag 10 l)with q|⟨a,b,q⟩
 ·rw[q]at d;show nomatch d
 ·rw[List.concat_eq_append]at q;have j:=d;rw[q,List.getLast?_concat]at j;obtain rfl:=Zf j;show(a8 a b q (by rw[Z];rfl) c)
def rX(x:FV)(n:Nat):(List.replicate n [x]).flatten=List.replicate n x:=by
 induction n with
 |zero=>rfl
 |succ n Q=>rw[XG,Q];rfl
section
variable {s:St}{F:TC}{k:TR}{g:G}
def oE(U:x.length+2<=16777216)(h:F (.ob s.m) ⟨s.L,(s.m,.lst ((Ag c x).map .str))::s.H,s.m+1,s.vl⟩):CL g (.str x) 6 [.c (.str [c])] [] s F:=by
 show show Ab (Je s.H [.c (.str [c])]) λy=>Lo 6 x y s F from aa rfl ⟨U,h⟩
def aet(U:Sx i s.H=some (.lst [x]))(j:n<=1000)(h:F (.ob s.m) ⟨s.L,(s.m,.lst (List.replicate n x))::s.H,s.m+1,s.vl⟩):Fv 2 (.ob i) (.c (.int (n:Nat))) s F:=by
 show aa (eB U) (aa rfl ?_);have k:((-(2 ^ 63)<=(n:Int)/\(n:Int)<2 ^ 63)/\[x].length*(n:Int).toNat<=16777216)/\Ce (.lst (List.replicate (n:Int).toNat [x]).flatten) s F:=by
  show⟨⟨⟨by show X2 (2 ^ 63) n,by lia⟩,?_⟩,?_⟩
  ·change 1*n<=_;lia
  ·show gc ?_;rw[rX];show h
 show k
def zC(U:Sx n s.H=some (.lst l))(N:Co l j=some r)(h:F (.c r) s):DO (.ob n) (.c (.int j)) s F:=
 aa rfl (aa U (aa rfl (aa N h)))
def zD(U:Sx n s.H=some (.Av (.lst l)))(N:Co l j=some r)(h:F (.c r) s):DO (.ob n) (.c (.int j)) s F:=by
 have k2:=show Ab (Co l j) λr=>F (.c r) s from aa N h
 show aa rfl (aa U k2)
def yT(hi:Sx i s.H=some (.lst l))(h:F (.c (.int l.length)) s):Mx 0 [.ob i] s F:=by
 show show Ab (CE s.H (.ob i)) λx=>Ab (LQ x) λn=>F (.c (.int n)) s from aa (eB hi) (aa rfl h)
def oM(h:Sx i H=some (.lst l)):Io (.ob i) ⟨L,H,m,j⟩=some (l,⟨L,put i (.Av (.lst l)) H,m,j⟩):=by
 change Af (Sx i H) (PW i _)=_;rw[h];rfl
def aeU(e:a=b)(hd:Fs 12 (.tup a)=true)(h:k false):BN 1 (.c (.tup a)) (.c (.tup b)) s k:=by
 have D:=aa rfl (aa rfl (show(a=b/\Fs 12 (.tup a)=true)/\k (!true) from⟨⟨e,hd⟩,h⟩));show D
def acp(Q:Sx i s.H=some (.lst x))(P:Sx j s.H=some (.lst y))(e:x=y)(hd:Dz 8 (.lst x)=true)(h:k true):BN 0 (.ob i) (.ob j) s k:=by
 have D:CE s.H (.ob i)=some (FV.lst x)->CE s.H (.ob j)=some (FV.lst y)->Ab (CE s.H (.ob i)) λx=>Ab (CE s.H (.ob j)) λy=>P6 x y k:=λU Z=>aa U (aa Z (show(x=y/\(Fs 12 (.lst x)=true\/Dz 8 (.lst x)=true))/\k true from⟨⟨e,.inr hd⟩,h⟩));show D (eB Q) (eB P)
def jq{kk:TC}(p:FV->Bool)(f:FV->FV)(l:Tz):∀(j:Tz) (L:Tw),
  (∀x∈l,Ev g cd ⟨[(n,.c x)],H,m,false⟩ (.c (.Ae (p x))))->(∀x∈l,p x=true->Ev g e ⟨[(n,.c x)],H,m,false⟩ (.c (f x)))->j.length+l.length<=16777216->
  (∀U,kk (.ob m) ⟨U,(m,.lst (j++(l.filter p).map f))::H,m+1,false⟩)->I2 n [] (SU g cd) (SU g e) l j ⟨L,H,m,false⟩ kk:=by
 induction l with
 |nil=>
  intro j L _ _ _ D;have:=D L;rw[List.filter_nil,List.map_nil,Zu]at this;show this
 |cons x l Q=>
  intro j L u N a D;rw[Zj]at a;show u x (.head _) _ (aa rfl (bh (λh=>?_) λh=>?_))
  ·have h:p x=true:=h;show N x (.head _) h _ (aa rfl ⟨by lia,?_⟩);rw[X9 h,Ye,List.append_cons]at D;show Q (j++[f x]) _ (λy P=>u y (.tail _ P)) (λy P=>N y (.tail _ P)) (by rw[Zg,Zj,ZW];lia) D
  ·rw[Wa (by rw[show p x=false from h];decide)]at D;show Q j _ (λy P=>u y (.tail _ P)) (λy P=>N y (.tail _ P)) (Yj a) D
end
structure HG (XX:Tx) (J:Sm) (t:Tm) (m:Nat) (H:Tx):Prop where
 lo:lo H=Hp J t
 m6:64<=m
 ex:∀p∈XX,64<=p.1/\p.1<m/\Sx p.1 H=some p.2
section
variable {XX H:Tx}{J:Sm}{t:Tm}{m:Nat}
def HG.push(h:HG XX J t m H)(o:AO):HG ((m,o)::XX) J t (m+1) ((m,o)::H):=by
 have:=h.m6;show⟨?_,by show Xd this,λp j=>?_⟩
 ·rw[b7,Zi (show¬m<64 by show YN.mpr this)];show h.lo
 ·rcases Zb j with rfl|j
  ·show⟨this,Z4 _,(aq _ _ _).trans (Zk rfl)⟩
  ·show cu (h.ex p j) λU Z D=>⟨U,by show YO 1 Z,by rw[aq,Zi (Z3 Z)];show D⟩
def HG.call(h:HG XX J t m H):HG XX J t m (Hp J t++hi H):=⟨by rw[fQ,bZ,d9,Zu],h.m6,λp j=>⟨(h.ex p j).1,(h.ex p j).2.1,(dO (by show YN.mpr ((h.ex p j).1))).trans (h.ex p j).2.2⟩⟩
def HG.w'(h:HG XX J t m H)(k:∀p∈YY,p∈XX):HG YY J t m H:=⟨h.lo,h.m6,λp j=>h.ex p (k p j)⟩
def HG.fz(h:HG ((i,o)::XX) J t m H)(A:∀p∈XX,p.1≠i):HG ((i,o')::XX) J t m (put i o' H):=by
 show cu (h.ex _ (.head _)) λU N b=>⟨?_,h.m6,λp j=>?_⟩
 ·rw[b6 (YN.mpr U)];show h.lo
 ·rcases Zb j with rfl|j
  ·show⟨U,N,(ao _ _ _ _).trans (Zk rfl)⟩
  ·show cu (h.ex p (.tail _ j)) λa Z D=>⟨a,Z,by rw[ao,Zi (A p j)];show D⟩
end
abbrev O6:X:=.Al (.Bb (.loc 316) 305) 239 .nil []
abbrev O8:X:=.tup (.cons (.fn 0 (.cons (.loc 200) .nil)) (.cons (.fn 0 (.cons (.sub (.loc 200) (.k (.int (-1)))) .nil)) .nil))
def RU:X:=.cmp 0 (.lcm 231 [] (.Cj (.loc 177) (.k .Ak) (.loc 173)) (.k (.Ae true)) (.sub (.loc 231) (.k (.int 0)))) (.bin 2 (.lst (.cons (.call 795 (.cons (.k (.str To)) .nil)) .nil)) (.loc 173))
def RT:X:=.cmp 0 (.Cj (.loc 177) (.loc 173) (.k .Ak)) (.loc 157)
def ND:S:=.seq (.ret (.and RU RT)) .skip
def PJ:S:=.seq (.iff (.cmp 1 O6 O8) (.seq (.ret (.k (.Ae false))) .skip) .skip) ND
def NF:S:=.seq (.Aj 200 (.Al (.loc 210) 6 (.cons (.k (.str [10])) .nil) [])) PJ
def PK:S:=.seq (.fr 1398 [312] (.loc 316) Fd) NF
def PL:S:=.seq (.Aj 177 (.lst .nil)) PK
def PM:S:=.seq (.Aj 316 (.new 762 (.cons (.loc 311) .nil))) PL
def I0:S:=.seq (.Aj 173 (.fn 0 (.cons (.lcm 295 [] (.loc 311) (.cmp 0 (.loc 295) (.k (.str [1]))) (.loc 295)) .nil))) PM
def Kb:S:=.seq (.Aj 200 (.Al (.Cj (.loc 210) (.k .Ak) (.loc 237)) 6 (.cons (.k (.str [10])) .nil) [])) (.seq (.ex (.Al (.loc 157) 0 (.cons (.tup (.cons (.loc 312) (.cons O8 .nil))) .nil) [])) .skip)
def PN:S:=.seq (.fr 1392 [312,237] (.loc 267) Kb) I0
def NG:S:=.seq (.Aj 157 (.lst .nil)) PN
section
variable {s:St}{F:TC}{L:Tw}{H:Tx}{m:Nat}{K:TB}
def zN(hi:Sx i s.H=some (.lst l))(h:F (.ob s.m) ⟨s.L,(s.m,.lst (l.take n))::s.H,s.m+1,s.vl⟩):Gn (.ob i) (.c .Ak) (.c (.int (n:Nat))) s F:=by
 have e:slice l none (some n)=l.take n:=by
  change(l.take (DL l.length n)).drop 0=_;rw[bV,Yp, ←Wj]
 have k:Ce (.lst (slice l none (some n))) s F:=by rw[e];show gc h
 show aa (eB hi) k
def zO(hi:Sx i s.H=some (.lst l))(j:n<=l.length)(h:F (.ob s.m) ⟨s.L,(s.m,.lst (l.drop n))::s.H,s.m+1,s.vl⟩):Gn (.ob i) (.c (.int (n:Nat))) (.c .Ak) s F:=by
 have e:slice l (some n) none=l.drop n:=by
  change(l.take l.length).drop (DL l.length n)=_;rw[bV,YC,ZO j]
 have k:Ce (.lst (slice l (some n) none)) s F:=by rw[e];show gc h
 show aa (eB hi) k
def atH(h:lo H=Hp J t)(A:i<64):Sx i H=Sx i (Hp J t):=by
 rw[←h,eg,Zk A]
def yU{i:Nat}{x:WJ}{G:TC}(g:Sx 200 L=some (.ob i))(hi:Sx i H=some (.lst ((Ag 10 x).map .str)))(h:G (.c (G0 x)) ⟨L,H,m,false⟩):SU SK O8 ⟨L,H,m,false⟩ (one G):=by
 show bA (tv x) λa q U Z D=>?_;have d:Co ((Ag 10 x).map FV.str) (-1)=some (.str q):=by rw[U,Z7];show oP _ _
 show dW (ah (fO (ah (aj (aa g (au (yT hi (ah (fO (ah (bK (aj (aa g (aQ (zC hi d (au (eW (au (aa (a:=([.int (((Ag 10 x).map FV.str).length:Nat),.int (q.length:Nat)],H)) rfl (aW rfl ?_))))))))))))))))))));rw[ZD,Z,D];show h
def wg(A:Sx 177 L=some (.ob g))(l:Sx 157 L=some (.ob du))(Z:Sx 173 L=some (.c (.int (n:Nat))))
  (h:HG [(g,.lst (List.replicate n (FV.tup [CG,pv])++y)),(du,.lst y)] J t m H) (j:n<=1000) (hd:(y.all λf=>Dz 7 f)=true) (d:∀e i o,lo i=Hp J t->K (.ret (.c (.Ae true))) ⟨e,i,o,false⟩):ex SK ND ⟨L,H,m,false⟩ K:=by
 show fk (gM (aH (kx (d6 (aj (aa A (aQ (aj (aa Z (zN (h.ex _ (.head _)).2.2 ?_))))))))));have U:=h.push (.lst ((List.replicate n (FV.tup [CG,pv])++y).take n));show aa (oM sR) ?_;have N:(List.replicate n (FV.tup [CG,pv])++y).take n=List.replicate n (FV.tup [CG,pv]):=by
  have:=We (l₁:=List.replicate n (FV.tup [CG,pv])) (l₂:=y);replace this:=Yd▸this;show this
 rw[N]at U⊢;show jq (λb=>true) (λb=>CG) (List.replicate n (FV.tup [CG,pv])) [] _ (λx P F z=>aQ z) (λx P b F z=>?_) (by rw[ZW,Yd];lia) λe=>?_
 ·obtain rfl:=(List.mem_replicate.mp P).2;show bK (aj (aa rfl (aQ z)))
 have k:((List.replicate n (FV.tup [CG,pv])).filter λb=>true).map (λb=>CG)=List.replicate n CG:=by
  rw[List.filter_eq_self.mpr λb b=>rfl,List.map_replicate]
 rw[k,YL];have D:=(U.fz (o':=.Av (.lst (List.replicate n (FV.tup [CG,pv])))) λp q=>Z3 (h.ex p q).2.1).push (.lst (List.replicate n CG));show cm (d7 (ah (dh (ah (aQ (au (dE J t rfl rfl D.lo (aY _ rfl rfl (gT J t (bZ J t)) ?_))))))));rw[bZ];show au (aa (a:=([CG],_)) rfl (aW rfl (gc ?_)));have Q:=D.call.push (.lst [CG]);show aj (aa Z (aet (Q.ex _ (.head _)).2.2 j ?_));have O:=Q.push (.lst (List.replicate n CG));show w_o (acp (O.ex _ (.tail _ (.tail _ (.head _)))).2.2 (O.ex _ (.head _)).2.2 rfl ?_ (aa iw (aW rfl ?_)))
 ·show Zv.mpr λf u=>by rw[(List.mem_replicate.mp u).2];rfl
 show aH (d6 (aj (aa A (aj (aa Z (aQ (zO (O.ex _ (.tail _ (.tail _ (.tail _ (.tail _ (.head _)))))).2.2 ?_ ?_)))))))
 ·rw[Zg,Yd];show ZR n y.length
 have v:(List.replicate n (FV.tup [CG,pv])++y).drop n=y:=by
  have:=YU (l₁:=List.replicate n (FV.tup [CG,pv])) (l₂:=y);replace this:=Yd▸this;show this
 rw[v];have c:=O.push (.lst y);show aj (aa l (w_o (acp (c.ex _ (.head _)).2.2 (c.ex _ (.tail _ (.tail _ (.tail _ (.tail _ (.tail _ (.tail _ (.head _)))))))).2.2 rfl hd (d _ _ _ c.lo))))
def wi(d:Sx 316 L=some (.ob 1))(b:Sx 210 L=some (.c (.str u)))(A:Sx 177 L=some (.ob g))(l:Sx 157 L=some (.ob z))(Z:Sx 173 L=some (.c (.int (n:Nat))))
  (h:HG [(g,.lst (List.replicate n (FV.tup [CG,pv])++y)),(z,.lst y)] J t m H) (v:View J u [] e' n') (D:u.length<=2000) (c:n<=1000) (hd:(y.all λf=>Dz 7 f)=true) (k:∀r Q O,lo Q=Hp J t->K (.ret (.c (.Ae true))) ⟨r,Q,O,false⟩):ex SK NF ⟨L,H,m,false⟩ K:=by
 show aG (aJ (aj (aa b (aa rfl (ah (aQ (au (oE (Zh (ZV D 2) (by ext)) ?_))))))));have U:=h.push (.lst ((Ag 10 u).map .str));have q:∀ {i:Nat} {o:V},i≠200->Sx i L=some o->Sx i (put 200 (.ob m) L)=some o:=λhi e=>(ao _ _ _ _).trans ((Zi hi).trans e);have P:=v.dJ;show bE (aH (aJ (ba (aj (aa (q (by ext) d) (aP (show Sx 1 ((m,AO.lst ((Ag 10 u).map .str))::H)=some (.inst 762 (R9 t)) from(atH U.lo (by ext)).trans rfl) rfl rfl (aa (a:=.fn 126 (.ob 2)) ?_ (au (eR ?_)))))))))
 ·change Af (Sx 2 ((m,AO.lst ((Ag 10 u).map .str))::H)) _=_;rw[show Sx 2 ((m,AO.lst ((Ag 10 u).map .str))::H)=some (.inst 166 (Sf J)) from(atH U.lo (by ext)).trans rfl];rfl
 show dE J t rfl rfl U.lo (bj J t rfl rfl rfl ⟨P.1,Int.lt_of_le_of_lt P.2.1 P.2.2.2⟩ ?_);have j:=v.Cz;have j:FV.tup [.int ((CA J J.off).1+1),.int (CA J J.off).2]=G0 u:=j;rw[j];have N:=U.call;show yU (show Sx 200 (put 200 (.ob m) L)=some (.ob m) from fS) (N.ex _ (.head _)).2.2 (dt (aeU rfl rfl (aa iw (bH rfl (aB (cU (wg (q (by ext) A) (q (by ext) l) (q (by ext) Z) (N.w' λp j=>.tail _ j) c hd k)))))))
end
def gw(h:64<=m):Fy m=true:=by
 change and (!beq m 32) (!beq m 33)=true;rw[bX (show m≠32 by lia),bX (show m≠33 by lia)];rfl
def EJ(f:FV):Bool:=Mine.A.ob (FU f) λc=>decide (c=1)
def wR(W:WJ):((W.map λc=>FV.str [c]).filter EJ).length=LP W:=by
 unfold LP;induction W with
 |nil=>rfl
 |cons c W Q=>
  rw[Ye];have e:EJ (.str [c])=decide (c=1):=rfl;cases q:decide (c=1)with
  |true=>rw[X9 (by rw[e];show q),X9 (by show q),Zj,Zj,Q]
  |false=>rw[Wa (by rw[e,q];decide),Wa (by rw[q];decide),Q]
section
variable {s:St}{F:TC}{L:Tw}{XX H:Tx}{m:Nat}{K:TB}{W text:WJ}
def acT{C:Nat}(h:SU g a s λZ s=>HN g C Z s F):SU g (.new C a) s (one F):=h
def aaO(H:Tx)(h:i<64)(o:AO):hi (H++[(i,o)])=hi H:=by
 induction H with
 |nil=>change hi [(i,o)]=[];rw[tK,Zk h];rfl
 |cons p H Q=>rw[Y2,tK,tK,Q]
def v8(h:HK XX m H)(D:F (.ob 1) ⟨L,Hp (JE W) ⟨304,.no,none,none⟩++hi H,m,false⟩):HN SK 762 [.c (.str W)] ⟨L,H,m,false⟩ F:=by
 have U:Sx (SK.FI 762) H=none:=by
  have e:Sx 1 H=Sx 1 (lo H):=by rw[eg,Zk (by ext)]
  show e.trans (by rw[h.lo];rfl)
 have j:lo (H++[(1,AO.inst 762 [])])=[S1]:=by rw[fQ,h.lo];rfl
 change Option.rec (motive:=λZ=>Prop) _ _ (Sx (SK.FI 762) H);rw[U];show aa rfl (fT rfl rfl (by rw[j];rfl) ?_);rw[j];show(aY W rfl rfl rfl (aW rfl ?_));rw[aaO _ (by ext)];show D
def wQ(U:Ev g z s v)(N:Io v s=none)(h:g.loop l [v] s (sq g c K)):ex g (.seq (.fr l O z b) c) s K:=by
 show zS (U _ ?_);rw[N];show h
def uw(D:text.length<=2000):∀(T:List (FV×Nat)) (j:Tz) (L:Tw) (H:Tx) (m:Nat),LW [(311,.c (.str W)),(210,.c (.str text)),(157,.ob z)] L->HK [(z,.lst j)] m H->j.length+T.length<=10000->
  (∀b Q O,LW [(311,.c (.str W)),(210,.c (.str text)),(157,.ob z)] b->HK [(z,.lst (j++CI text T))] O Q->K .AZ ⟨b,Q,O,false⟩)->Dd (ex SK Kb) (C3 [312,237]) (T.map Sl) ⟨L,H,m,false⟩ K
 | [],j,L,H,m,hL,h,_,hk=>wO (hk L H m hL (by
   have e:j++CI text []=j:=Zu _;rw[e];show h))
 |(y,n)::T,j,L,H,m,hL,h,hlen,hk=>by
  replace hlen:=Zj▸hlen;show tW (aa rfl ?_);have g:=(hL.put 312 (.c y) rfl).put 237 (.c (.int n)) rfl;show aG (aJ (d6 (aj (aa (g.f 210 _ rfl) (aQ (aj (aa (g.f 237 _ rfl) (rL (aa rfl (ah (aQ (au (oE ?_ ?_)))))))))))))
  ·rw[ZG];show Zh (ZV (Zh (Yt _ _) D) 2) (by ext)
  have U:=h.push (.lst ((Ag 10 (text.take n)).map .str)) rfl;have A:=g.put 200 (.ob m) (gw h.m6);show d3 (aJ (aj (aa (A.f 157 _ rfl) (aa (cw (U.ex _ (.tail _ (.head _))).2.2 rfl) (ah (dW (ah (aj (aa (A.f 312 _ rfl) (ah (yU (A.f 200 _ rfl) (U.ex _ (.head _)).2.2 (au (aa rfl (aW rfl (au (gf (U.ex _ (.tail _ (.head _))).2.2 rfl (U.ex _ (.tail _ (.head _))).2.2 (ZX (by lia)) ?_))))))))))))))));have N:=(U.w λp a=>.tail _ a).put (o':=.lst (j++[.tup [y,G0 (text.take n)]])) (λp a=>nomatch a) rfl;show aB (uw D T (j++[.tup [y,G0 (text.take n)]]) _ _ _ (A.re (fm rfl (fm rfl (fm rfl λZ a=>nomatch a)))) N (by rw[Zg,Zj,ZW];lia) λb Q O c l=>hk b Q O c ?_);replace l:=(Zo _ _ _)▸l;show l
def wj(R:Txt W)(N:text=AV W)(hk:Eg .no 304 none 0 text T)(u:T.length<=1000)(hd:((CI text T).all λf=>Dz 7 f)=true)(X:LW [(311,.c (.str W)),(210,.c (.str text)),(157,.ob z)] L)(h:HK [(z,.lst (CI text T))] m H)
  (hK:∀J t B C O,lo C=Hp J t->K (.ret (.c (.Ae true))) ⟨B,C,O,false⟩):ex SK I0 ⟨L,H,m,false⟩ K:=by
 have hWl:=R.len;have hml:=d8 W;show aG (fO (ah (kx (aj (aa (X.f 311 _ rfl) (aa rfl (jq EJ id (W.map λx=>.str [x]) [] _ (λx S F M=>?_) (λx S uu F M=>aj (aa rfl M)) (by rw[ZW,ZD];lia) λB=>?_)))))))
 ·show aA (Y3.mp S) λc uu P=>?_;subst P;show aH (aj (aa rfl (aQ (dt (vn M)))))
 rw[YL,List.map_id];have U:=h.push (.lst ((W.map λx=>.str [x]).filter EJ)) rfl;show au (yT sR ?_);rw[wR];have r:=X.put 173 (.c (.int (LP W))) rfl;show aG (acT (ah (aj (aa (r.f 311 _ rfl) (au (v8 U ?_))))));have G:=r.put 316 (.ob 1) rfl;show aG (d7 (au (aa rfl (aW rfl (gc ?_)))));have h2:HG [(m,.lst ((W.map λx=>.str [x]).filter EJ)),(z,.lst (CI text T))] (JE W) ⟨304,.no,none,none⟩ (m+1) (Hp (JE W) ⟨304,.no,none,none⟩++hi ((m,.lst ((W.map λx=>.str [x]).filter EJ))::H)):=
  ⟨by rw[fQ,bZ,d9,Zu],U.m6,λp j=>⟨(U.ex p j).1,(U.ex p j).2.1,(dO (by have:=(U.ex p j).1;show YN.mpr this)).trans (U.ex p j).2.2⟩⟩
 have D:=h2.push (.lst []);have a:=G.put 177 (.ob (m+1)) (gw U.m6);have b:=h.ex _ (.head _);show wQ (Ev.loc (a.f 316 _ rfl)) ?_ ?_
 ·change Af (Sx 1 ((m+1,AO.lst [])::(Hp (JE W) ⟨304,.no,none,none⟩++hi ((m,.lst ((W.map λx=>.str [x]).filter EJ))::H)))) (PW 1 _)=none;rw[atH D.lo (by ext)];rfl
 have E:=λc hc=>(R.ch c hc).2;have Y:=View.zero (by lia) E;rw[R.AH, ←N]at Y;have w:LP W<=1000:=Zh (List.length_filter_le _ _) (by lia);show⟨rfl,JE W,[],text,LP W,m+1,[(z,.lst (CI text T))],T,λp j=>?_,rfl,a.f 177 _ rfl,a.f 316 _ rfl,a.o,λi o A e=>?_,by have:=U.m6;show U.m6,(D.ex _ (.head _)).2.2,D.lo,Y,rfl,hk,Zh (Z9 u w) (by ext),λpv s' J' t' e' O n k l I y g Q=>?_⟩
 ·obtain rfl:=Za j;show⟨b.1,by have:=b.2.1;show ktu_ne 1 this,(D.ex _ (.tail _ (.tail _ (.head _)))).2.2⟩
 ·have e:Sx i ((m+1,AO.lst [])::(Hp (JE W) ⟨304,.no,none,none⟩++hi ((m,.lst ((W.map λx=>.str [x]).filter EJ))::H)))=some o:=e;rw[aq]at e;split at e
  ·obtain rfl:=Zf e;rfl
  ·rw[dO A]at e;show U.n3 i o A e
 ·obtain⟨L4,H4,Z,vl4⟩:=s';dsimp only at k l I y g Q;subst k;rw[YL]at g n;have d:=y _ (.head _);have h4:HG [(m+1,.lst (List.replicate (LP W) (.tup [CG,pv])++CI text T)),(z,.lst (CI text T))] J' t' Z H4:=by
   have a1:=I _ _ g;have a2:=I _ _ d;have a3:=U.m6;show⟨Q,by lia,λp j=>?_⟩;rcases Zb j with rfl|j
   ·show⟨a3,a1,g⟩
   ·obtain rfl:=Za j;show⟨b.1,a2,d⟩
  have q:∀ {i:Nat} {v:V},i≠312->Sx i _=some v->Sx i L4=some v:=λA e=>(l _ A).trans e;show cU (wi (q (by ext) (a.f 316 _ rfl)) (q (by ext) (a.f 210 _ rfl)) (q (by ext) (a.f 177 _ rfl)) (q (by ext) (a.f 157 _ rfl)) (q (by ext) (a.f 173 _ rfl)) h4 n (by rw[N];lia) w hd λB C O e=>hK _ _ B C O e)
def wk(b:Txt W)(N:text=AV W)(D:Eg .no 304 none 0 text T)(u:T.length<=1000)(hd:((CI text T).all λf=>Dz 7 f)=true)(v:LW (lE W text Q []) L)(h:HK [(Q,.lst (T.map Sl))] m H)
  (d:∀J t c a O,lo a=Hp J t->K (.ret (.c (.Ae true))) ⟨c,a,O,false⟩):ex SK NG ⟨L,H,m,false⟩ K:=by
 have P:=b.len;have y:=d8 W;show aG (d7 (au (aa rfl (aW rfl (gc ?_)))));have g:=v.put 157 (.ob m) (gw h.m6);have z:=h.ex _ (.head _);have U:=(h.push (.lst []) rfl).w (YY:=[(Q,.lst (T.map Sl)),(m,.lst [])]) λp j=>by
  rcases Zb j with rfl|j
  ·show .tail _ (.head _)
  ·rw[Za j];show .head _
 show zS (aj (aa (g.f 267 _ rfl) ?_));have hi:Io (.ob Q) ⟨put 157 (.ob m) L,(m,.lst [])::H,m+1,false⟩=some (T.map Sl,⟨put 157 (.ob m) L,put Q (.Av (.lst (T.map Sl))) ((m,.lst [])::H),m+1,false⟩):=oM (U.ex _ (.head _)).2.2;have go:Dd (ex SK Kb) (C3 [312,237]) (T.map Sl) ⟨put 157 (.ob m) L,put Q (.Av (.lst (T.map Sl))) ((m,.lst [])::H),m+1,false⟩ (sq SK I0 K):=by
  have i:=(U.put (o':=.Av (.lst (T.map Sl))) (λp j=>by rw[Za j];show Nat.ne_of_gt z.2.1) rfl).w λp j=>.tail _ j;show uw (by rw[N];lia) T [] _ _ _ (g.re (fm rfl (fm rfl (fm rfl λZ j=>nomatch j)))) i (by rw[ZW];lia) λc a O A l=>cU ?_;replace l:=(YL _)▸l;show wj b N D u hd A l d
 have e:(Option.rec (motive:=λZ=>Prop) (SK.loop 1392 [.ob Q] ⟨put 157 (.ob m) L,(m,.lst [])::H,m+1,false⟩ (sq SK I0 K)) (λr=>Dd (ex SK Kb) (C3 [312,237]) r.1 r.2 (sq SK I0 K)) (Io (.ob Q) ⟨put 157 (.ob m) L,(m,.lst [])::H,m+1,false⟩)):=by
  rw[hi];show go
 show e
end
def fB{nm:WJ}(h:Dz 6 f=true)(D:Dz 8 v=true):Dz 9 (DX f e v nm)=true:=by
 change and (and (and (Dz 6 f) true) true) (and true (and (Dz 8 v) true))=true;rw[h,D];rfl
def gP(h:Dz 6 f=true)(l:Dz 6 j=true):Dz 9 (EH f U j e)=true:=by
 change and (and (and (Dz 6 f) true) (and (and (Dz 6 j) true) true)) true=true;rw[h,l];rfl
def aaF(nm:WJ):Dz 8 (knd nm)=true:=by
 show aA (oK nm) λv h Z=>?_;rw[h];rfl
def iH{nm:WJ}{e:Int}:Dz 9 (C9 g nm P e)=true:=by
 cases g
 ·show fB rfl (aaF nm)
 ·show fB rfl rfl
def wa{nm:WJ}{r:WJ}:Dz 9 (F3 g nm n r)=true:=by
 cases r with
 |nil=>show fB rfl rfl
 |cons y r=>
  by_cases h:y=62
  ·subst h;show iH
  ·rw[jg h];cases r with
   |nil=>show fB rfl rfl
   |cons _ _=>show iH
def wb:Dz 9 (C5 g n r)=true:=by
 unfold C5;split
 ·cases g
  ·show gP rfl rfl
  ·cases r with
   |nil=>show gP rfl rfl
   |cons _ _=>show gP rfl rfl
 ·show wa
def aav:Dz 9 (GH n r)=true:=by
 unfold GH;split<;>show wb
def abo:∀f∈Ip v n c b,Dz 7 f=true:=by
 have l:∀(p:Bool) (x:WJ) (i:Int),Dz 7 (.tup [Ju p x,.int i])=true:=λp x i=>by cases p<;>rfl
 intro f u;unfold Ip at u;split at u
 ·rcases Yi.mp u with u|u
  ·show aA (Y3.mp u) λx Z P=>?_;clear u;subst P;rfl
  ·rw[Za u];rfl
 ·split at u
  ·rcases Zb u with rfl|u
   ·rfl
   ·rw[Za u];rfl
  ·rw[Za u];show l _ _ _
def mX:∀(f n:Nat) (r:WJ),∀x∈Hs v f n r,Dz 7 x=true
 |0,_,_,_,h=>nomatch h
 |_+1,_,[],_,h=>nomatch h
 |f+1,n,c::b,x,h=>(Yi.mp (h)).elim (abo x) (mX f _ _ x)
def Jp.dd{j:WJ}(h:Jp n r v j y):∀f∈y,Dz 7 f=true:=by
 induction h with
 |nil=>show λZ h=>nomatch h
 |last _ _=>show mX _ _ _
 | @more n a b v j T x r2 g d y U N D A c O l Q=>
  intro f u;rcases Yi.mp u with u|u
  ·show mX _ _ _ f u
  ·rcases Yi.mp u with u|u
   ·have k:=aav (n:=n+a.length) (r:=b);rw[N]at k;have k:and (T.all λf=>Dz 7 f) true=true:=k;show Zd (ar k).1 f u
   ·show Q f u
def vD(h:∀f∈T.map Sl,Dz 7 f=true):((CI A T).all λf=>Dz 7 f)=true:=Zv.mpr λf u=>by
 show aA (Y3.mp u) λp j P=>?_;subst P;have k:=h _ (Xr j);show k
def PO:S:=.seq (.wh 1384 Lx IL) NG
def PQ:S:=.seq (.Aj 215 (.k (.str []))) PO
def PR:S:=.seq (.Aj 191 (.k (.int 0))) PQ
def PS:S:=.seq (.Aj 237 (.k (.int 0))) PR
def PT:S:=.seq (.Aj 267 (.lst .nil)) PS
def NH:S:=.seq (.Aj 210 (.rep (.rep (.loc 311) [13,10] [10]) [13] [10])) PT
def NI:S:=.seq (.Aj 311 (.Cj (.loc 311) (.k .Ak) (.fn 5 (.cons (.k (.int 1)) (.cons (.bin 1 (.fn 0 (.cons (.loc 311) .nil)) (.bin 3 (.sub (.loc 219) (.k (.int (-1)))) (.k (.int 32)))) .nil))))) NH
def NJ:S:=.seq (.Aj 311 (.Al (.k (.str [])) 2 (.cons (.lcm 213 [] (.loc 219) (.k (.Ae true)) (.sub (.BR CU) (.bin 4 (.loc 213) (.k (.int 32))))) .nil) [])) NI
def JZ:S:=.seq (.Aj 219 (.or (.lcm 213 [] (.Cj (.loc 272) (.k .Ak) (.k (.int 16))) (.k (.Ae true)) (.bin 4 (.loc 213) (.k (.int 128)))) (.lst (.cons (.k (.int 0)) (.cons (.k (.int 9)) (.cons (.k (.int 7)) (.cons (.k (.int 1)) .nil))))))) NJ
def acg(h:Sx i H=some (.lst l)):Am H (.ob i)=some (BE l):=by
 change Af (Sx i H) _=_;rw[h];rfl
def EV(n:Nat):FV:=.int (n:Int)
section
variable {s:St}{F:TC}
def aeu{a b:Nat}(P:Builtin.divisionGoesByPylong (a:Int) (b:Int)=false)(j:b≠0)(h:F (.c (.int ((a / b:Nat):Int))) s):Fv 3 (.c (.int (a:Int))) (.c (.int (b:Int))) s F:=by
 rw[Int.ofNat_fdiv]at h;have N:(((b:Int)≠0)/\Builtin.divisionGoesByPylong (a:Int) (b:Int)=false)/\F (.c (.int (Int.fdiv a b))) s:=⟨⟨by show Int.ofNat_ne_zero.mpr j,P⟩,h⟩
 show N
def y8{b:Nat}(P:Builtin.divisionGoesByPylong a (b:Int)=false)(j:b≠0)(h:F (.c (.int (Int.fmod a b))) s):Fv 4 (.c (.int a)) (.c (.int (b:Int))) s F:=by
 have N:(((b:Int)≠0)/\Builtin.divisionGoesByPylong a (b:Int)=false)/\F (.c (.int (Int.fmod a b))) s:=⟨⟨by lia,P⟩,h⟩
 show N
def aes(h:F (.c (.int (a-b))) s):Fv 1 (.c (.int a)) (.c (.int b)) s F:=h
def adM(h:F (.c (.int (if a<b then b else a))) s):Mx 5 [.c (.int a),.c (.int b)] s F:=h
end
def z8(c:Int)(b:Nat)(P:b<100000):Builtin.divisionGoesByPylong c (b:Int)=false:=by
 unfold Builtin.divisionGoesByPylong;dsimp only;have:decide ((if((b:Int)==0)=true then 0 else(b:Int).natAbs.log2 / 30+1)>300)=false:=by
  apply Zs;have U:=Int.natAbs_natCast b;have N:b.log2<17:=by
   rcases Nat.eq_zero_or_pos b with e|e
   ·rw[e];decide
   ·show(Nat.log2_lt (Nat.ne_zero_of_lt e)).mpr (ZJ P (by ext))
  rw[U];split<;>lia
 rw[this,Wg]
def tD(D:TL):B0 [] (D.map FV.str)=some D.flatten:=by
 induction D with
 |nil=>rfl
 |cons p D Q=>
  change(Option.rec none (λr=>some (List.rec (motive:=λZ=>WJ) p (λZ Z Z=>p++[]++r) (D.map FV.str))) (B0 [] (D.map .str)):TK)=_;rw[Q];cases D with
  |nil=>change some p=some (p++[]);rw[Zu]
  |cons q D=>rw[Zu];rfl
def adD:CU=.c (.lst (Ih.map .str)):=rfl
def aaL{y:Type}(l:List y)(n:Nat):Co l (n:Int)=l[n]? :=by
 rw[Zr (show(0:Int)<=n by show Yx n)];change l[(n:Int).toNat]? =_;rw[Yv]
def vP(n:Nat):Co (Ih.map FV.str) (Int.fmod (n:Int) (32:Nat))=some (.str (Ii n)):=by
 rw[←Int.ofNat_fmod];have h:n % 32<Ih.length:=Nat.mod_lt _ (by ext);rw[aaL,Xq,Zy h];unfold Ii;rw[Yy,Zy h];rfl
section
variable {L:Tw}{H:Tx}{m:Nat}{K:TB}{W:WJ}
def aax(j:Txt W)(v:LW [(311,.c (.str W))] L)(h:HK [] m H)(d:∀J t U Q f,lo Q=Hp J t->K (.ret (.c (.Ae true))) ⟨U,Q,f,false⟩):ex SK NH ⟨L,H,m,false⟩ K:=by
 have D:=j.len;have N:=fP W;have u:=d8 W;show aG (sG (sG (aj (aa (v.f 311 _ rfl) (⟨⟨rfl,by lia⟩,⟨⟨rfl,by lia⟩,?_⟩⟩)))));have b:=v.put 210 (.c (.str (AV W))) rfl;show aG (d7 (au (aa rfl (aW rfl (gc ?_)))));have o:=h.push (.lst []) rfl;have A:=(((b.put 267 (.ob m) (gw h.m6)).put 237 (.c (.int 0)) rfl).put 191 (.c (.int 0)) rfl).put 215 (.c (.str [])) rfl;show aG (aQ (aG (aQ (aG (aQ (i5 λP k=>?_))))));show bA (zR j) λy T g i e=>?_;subst e;have z:=g.len;replace z:=(ZD _)▸z;have O:=Zv.mpr λc n=>(ar (yA j.ok c n)).1;show vM k (by lia) O g [] _ _ _ [] rfl rfl (by ext) (A.re (fm rfl (fm rfl (fm rfl (fm rfl (fm rfl (fm rfl λZ p=>nomatch p))))))) o (by rw[ZW];show Zh (Zz (Wb _)) (Zh (Yg 2 (Zh u D)) (by ext))) λU Q f a l=>cU ?_;replace l:=(YL _)▸l;show wk j rfl i (Zh z (Zh (Yg 2 (Zh u D)) (by ext))) (vD g.dd) a l d
def sZ(D:ns≠[])(w:ns.length<=16)(o:LW [(219,.ob i)] L)(h:HK [(i,.lst (ns.map EV))] m H)(M:∀J t U Q O,lo Q=Hp J t->K (.ret (.c (.Ae true))) ⟨U,Q,O,false⟩):ex SK NJ ⟨L,H,m,false⟩ K:=by
 have I:=ace w;have e:(FG ns).length<=11*16:=by
  have:∀l:WJ,(FG l).length<=11*l.length:=by
   intro l;induction l with
   |nil=>show Zq _
   |cons n l G=>
    have:=(sg (Ii n) (nY n)).1;change(Ii n++FG l).length<=_;rw[Zg,Zj];show Zh (Zz (Xp _ _)) (Z9 G this)
  have:=this ns;show Zh this (Yg 11 w)
 show aG (aJ (aQ (aa rfl (ah (kx (aj (aa (o.f 219 _ rfl) (aa (oM (h.ex _ (.head _)).2.2) ?_))))))));have E:=h.put (o':=.Av (.lst (ns.map EV))) (λp j=>nomatch j) rfl;show jq (λZ=>true) (λf=>Option.rec .Ak (λn=>.str (Ii n.toNat)) (aI f)) (ns.map EV) [] _ (λx k F z=>aQ z) (λx k Z F z=>?_) (by rw[ZW,ZD];lia) λU=>?_
 ·show aA (Y3.mp k) λn Z P=>?_;subst P;have z:=z;show bK (bB (cm (aj (aa rfl (aQ (y8 (b:=32) (z8 _ _ (by ext)) (by ext) ?_))))));rw[adD];have N:Ab (Co (Ih.map FV.str) (Int.fmod (n:Int) (32:Nat))) λr=>F (.c r) ⟨[(213,.c (EV n))],put i (.Av (.lst (ns.map EV))) H,m,false⟩:=aa (vP n) z;show N
 have B:((ns.map EV).filter λZ=>true).map (λf=>Option.rec .Ak (λn=>FV.str (Ii n.toNat)) (aI f))=(ns.map Ii).map FV.str:=by
  rw[List.filter_eq_self.mpr λZ Z=>rfl,Y9,Y9];rfl
 rw[B,YL];have N:=E.push (.lst ((ns.map Ii).map .str)) rfl;show au (ji (lu sR) (tD _) (ZX ?_) ?_)
 ·change(FG ns).length+_*0+0<=_;show Zh e (by ext)
 have g:=o.put 311 (.c (.str (FG ns))) rfl;change ex SK NI ⟨put 311 (.c (.str (FG ns))) L,(m,.lst ((ns.map Ii).map .str))::put i (.Av (.lst (ns.map EV))) H,m+1,false⟩ K;obtain⟨v,a,u⟩:∃v a,ns=v++[a]:=by
  rcases List.eq_nil_or_concat ns with q|⟨x,y,q⟩
  ·show T4 q D
  ·show(j2 x y (by rw[q,List.concat_eq_append]))
 have d:Co (ns.map EV) (-1)=some (.int (a:Nat)):=by rw[u,Z7];show oP _ _
 have c:ns.getLastD 0=a:=by rw[u];simp
 show aG (d6 (aj (aa (g.f 311 _ rfl) (aQ (fO (ah (aQ (ah (cm (fO (ah (aj (aa (g.f 311 _ rfl) (au (eW (cm (bK (aj (aa (g.f 219 _ rfl) (aQ (zD (N.ex _ (.tail _ (.head _))).2.2 d (aQ (aeu (b:=32) (z8 _ _ (by ext)) (by ext) (aes (au (adM ?_))))))))))))))))))))))))));have C:(if(1:Int)<(((FG ns).length:Nat):Int)-((a / 32:Nat):Int)then(((FG ns).length:Nat):Int)-((a / 32:Nat):Int)else 1)=((keep ns:Nat):Int):=by
  unfold keep;rw[c];split<;>lia
 rw[C];show rL ?_;have A:=g.put 311 (.c (.str (Kx ns))) rfl;show aax I (A.re (fm rfl λZ j=>nomatch j)) (N.w λZ j=>nomatch j) M
def ac3{O:List Int}(d:∀J t U Q C,lo Q=Hp J t->K (.ret (.c (.Ae true))) ⟨U,Q,C,false⟩):ex SK JZ ⟨[(272,.c (.lst (O.map .int)))],[],64,false⟩ K:=by
 show cu (v5 O) λA c Z=>?_;have B:HK [] 64 []:=⟨rfl,Zq _,λZ Z Z e=>aw e,λZ j=>nomatch j⟩
 have y:LW [] [(272,.c (.lst (O.map .int)))]:=⟨λZ Z e=>aw e,λn v e=>by
  rw[aq]at e;split at e
  ·obtain rfl:=Zf e;rfl
  ·show aw e⟩
 have o:slice (O.map FV.int) none (some 16)=(O.take 16).map .int:=by
  change((O.map FV.int).take (DL (O.map FV.int).length ((16:Nat):Int))).drop 0=_;rw[bV,Yp, ←List.map_take,ZD];congr 1;rw[propext List.take_eq_take_iff];show ZO (Yt _ _)
 show aG (p6 (kx (d6 (aj (aa rfl (aQ (aQ ?_)))))));have r:∀ {G:TC},G (.ob 64) ⟨[(272,.c (.lst (O.map .int)))],[(64,.lst ((O.take 16).map .int))],65,false⟩->Gn (.c (.lst (O.map .int))) (.c .Ak) (.c (.int 16)) ⟨[(272,.c (.lst (O.map .int)))],[],64,false⟩ G:=λ{G} u=>by
  rw[←o]at u;show u
 show r (aa (oM sR) ?_);have w:=(B.push (.lst ((O.take 16).map .int)) rfl).put (o':=.Av (.lst ((O.take 16).map .int))) (λp j=>nomatch j) rfl;show jq (λZ=>true) (λf=>Option.rec .Ak (λn=>EV (Int.fmod n 128).toNat) (aI f)) ((O.take 16).map .int) [] _ (λx P F h=>aQ h) (λx P Z F h=>?_) (by rw[ZW,ZD,ZG];show Zh (Zz (Wb _)) (Zh (X5 16 _) (by ext))) λU=>?_
 ·show aA (Y3.mp P) λn Z i=>?_;clear P;subst i;show cm (aj (aa rfl (aQ (y8 (b:=128) (z8 _ _ (by ext)) (by ext) ?_))));have e:((Int.fmod n 128).toNat:Int)=Int.fmod n (128:Nat):=XY (Int.fmod_nonneg_of_pos n (by ext));rw[←e];show h
 have k:(((O.take 16).map FV.int).filter λZ=>true).map (λf=>Option.rec .Ak (λn=>EV (Int.fmod n 128).toNat) (aI f))=((O.take 16).map λn=>(Int.fmod n 128).toNat).map EV:=by
  rw[List.filter_eq_self.mpr λZ Z=>rfl,Y9,Y9];rfl
 rw[k,YL];have N:=w.push (.lst (((O.take 16).map λn=>(Int.fmod n 128).toNat).map EV)) rfl;show aa (acg sR) (bh (λq=>?_) λq=>?_)
 ·have D:O.take 16≠[]:=λz=>by rw[z]at q;show nomatch q
  have E:IV O=(O.take 16).map λn=>(Int.fmod n 128).toNat:=Zi D;rw[E]at A c;have g:=y.put 219 (.ob 65) rfl;show sZ A c g (N.w λp j=>by rw[Za j];show .head _) d
 ·have D:O.take 16=[]:=by
   cases z:O.take 16 with
   |nil=>rfl
   |cons a l=>rw[z]at q;show nomatch q
  show d7 (ah (aQ (ah (aQ (ah (aQ (ah (aQ (au (aa (a:=([.int 0,.int 9,.int 7,.int 1],_)) rfl (aW rfl (gc ?_))))))))))));have I:=N.push (.lst [.int 0,.int 9,.int 7,.int 1]) rfl;have g:=y.put 219 (.ob 66) rfl;show sZ (ns:=[0,9,7,1]) (by ext) (by ext) g (I.w λp j=>by rw[Za j];show .head _) d
end
section
variable {c:Cx}{g:G}{Sy:TP}{mg mb:Wu->TM}{d:Nat}
def xH(T:TopRead c.Aa Sy mg mb c.base){fa:WD}{o:Obj}{fd:FuncData}{b:List WG}{x:S}{kws:WJ}{N:Tw}
  (F:fd.scope.kind=.function) (hg:fd.globals=mainGlobals) (hb:fd.builtins=builtinsNs) (E:fd.scope.isCoroutine=false) (p:fd.scope.isGenerator=false)
  (ho:c.base.get? fa=some o) (m:o.data=.func fd) (i:fd.body=.stmts b) (M:c.base.CodeRec fd.code fd.qualname) (l:∀x∈fd.scope.names,x.2≠ .cell)
  {O:Gh} {H:Tx} {s:Ww} {A:Wz} {vs:TN} {k:V->Tx->Prop} {R:Result->Ww->Prop}
  (r:Cp c O [] H {s with toks:=1}) (rm:Room [] (d+1) A)
  (D:∃j,BindsTo s fd (Bj c vs kws) j/\(∀x∈j,fd.scope.names.lookup x.1=some .local)/\∀n v,Sx n N=some v->∃u,j.reverse.lookup (c.nm n)=some u/\RV c.Aa c.w O u v) (W:∃n v,Sx n N=some v)
  (hS:∀L,SB c g (De fd L fa [] true F hg hb l) d x b) (hex:ex g x ⟨N,H,64,false⟩ (fin k))
  (hp:∀h B v y C,G9 true [] O s h B->Cp c h [] C B->RV c.Aa c.w h v y->k y C->R (.ok (.ret v)) B):codeAny (model c.Aa c.w) A (.call (.ref fa) (Bj c vs kws)) R s:=by
 have G:∀a o,c.base.get? a=some o->s.heap.get? a=some o:=λa o e=>r.Av a o (r.base a o e);show bM D λj hB Q q=>?_;have hbs:0<j.length:=by
  show iq W λn v e=>?_;show aA (q n v e) λu Z X=>?_;cases j with
  |nil=>show aw Z
  |cons _ _=>show YB _
 have hs:s.heap.get? s.heap.objs.size=none:=aF (Zq _);show codeAny_call_def (body:=b) (by have:=rm.Fs;show YW this) (G _ _ ho) m (T.nolimit.keeps G) ?_ i hB l Q (λh₀ hn hx=>?_) E p F
 ·show dY M λcc oc Y t U Z e3 e4=>?_;show(cI cc oc Y t U (G _ _ Z) e3 e4)
 ·show fZ (f:=De fd s.heap.objs.size fa [] true F hg hb l) rfl rfl (s:= {s with toks:=1}) (λy P=>?_) r.G5 (tk:=s.toks+j.length) (by show Nat.add_pos_right s.toks hbs) (hS _) r rm hx ⟨aO _ hn λn v e=>?_,λX X e=>aw e,λu I=>(nomatch I),λI=>(nomatch I)⟩ hex λh B v y C z=>hp h B v y C ⟨z.le,z.keep,z.EN,z.fp,z.fF,z.gens,z.os,z.drawn⟩
  ·rcases P with P|⟨_,e⟩
   ·show(Zb P).elim (λe=>.inr (e▸hs)) .inl
   ·show aw e
  ·show aA (q n v e) λu U Z=>?_;show(aO u (.inr ⟨λX e=>aw e,U⟩) Z)
end
def o6(P:Wx):((cB SY (fd P 840).scope 60 (Ap (fd P 840)),(fd P 840).scope.isGenerator,CD (fd P 840) [272]),λa=>bindArgs (fd P 840) ⟨[a],[]⟩)=((JZ,false,true),λa=>pure (([272].map nm).zip [a])):=by left
def abq(w:Wy):Hx w 840 (Ah [272]):=f6 [272] (T3 (λp=>p.1.2.2) (o6 w.params)) λZ h=>by
 show bu (cJ Value.none (l:=Z) (by rw[h];decide)) λa b c d e=>?_;rw[h]at e;subst e;show XA (T3 Prod.snd (o6 w.params)) a
section
variable {w:Wy}{mg mb:Wu->TM}
def aaD(T:TopRead pw Sy mg mb (H1 w.params)){s:Ww}{v:Wv}{b:List Int}{A:Wz}(B:Room [] 33 A)(P:∀a o,(H1 w.params).get? a=some o->s.heap.get? a=some o)(E:RF pw w s.heap.get? v (.lst (b.map .int))){R:Result->Ww->Prop}
  (C:∀j,(∀a o,s.heap.get? a=some o->j.heap.get? a=some o)->j.os=s.os->GK s.gens j.gens->R (.ok (.ret (.bool true))) j):codeAny (model pw w) A (.call (.ref 840) ⟨[v],[]⟩) R s:=by
 have F:=eV w (a:=840) rfl;have N:841<=s.heap.objs.size:=Yk (P _ _ (bq w.params (a:=840) (by ext)))
 let O:Gh:=⟨s.heap.get?,λZ=>none⟩
 have r:Cp (Ai w) O [] [] {s with toks:=1}:=⟨λZ Z e=>e,λZ Z e=>aw e,λZ Z Z Z Z Z e=>aw e,λx ⟨_,_,_,e,_⟩=>aw e,λZ i=>(nomatch i),λZ Z e=>aw e,P,by rw[show(Ai w).base.objs.size=841 from iV _];show N,Nat.one_pos⟩
 have f:Cw (Ai w).Aa (Ai w).w O [v] [.c (.lst (b.map .int))]:=.cons (dq E) .nil;have D:=abq w O s [v] [.c (.lst (b.map .int))] [] [(272,.c (.lst (b.map .int)))] (λZ Z e=>e) P f rfl;rw[←aR (c:=Ai w) [v]];show xH (c:=Ai w) (g:=SK) (d:=30) (x:=JZ) (fa:=840) (kws:=[]) (k:=λv Z=>v=.c (.Ae true)) T F.kind F.glob F.blt F.co (T3 (λp=>p.1.2.1) (o6 w.params)) (bq w.params F.lt) F.data F.body F.code F.cell r (B.mono (by ext)) D (j2 272 _ rfl) (λL=>?_)
  (ac3 λJ t U Q G h=>kR J t h rfl) λl j u y Q m H i n=>?_
 ·have:=cY (acz T) 60 (De (fd w.params 840) L 840 [] true F.kind F.glob F.blt F.cell) rfl (Ap (fd w.params 840)) (aaC T _ rfl rfl rfl);rw[show cB SY (De (fd w.params 840) L 840 [] true F.kind F.glob F.blt F.cell).cs 60 (Ap (fd w.params 840))=JZ from T3 (λp=>p.1.1) (o6 w.params)]at this;show this
 ·subst n;obtain rfl:_=Value.bool _:=i.x;show C j (λa o e=>m.keep a o e (λz=>nomatch z) λ⟨_,_,_,q,_⟩=>aw q) m.os m.gens
end
def ql{R:WRecords}{u:List WData}(h:WShape.hasItems R u .int=true):∃O:List Int,u=O.map .int:=by
 induction u with
 |nil=>show⟨[],rfl⟩
 |cons x u a=>
  show zA (ar (show and (WShape.has R x .int) (WShape.hasItems R u .int)=true from h)) λU N=>?_;show zE (hasW_int U) λi Q=>?_;subst Q;show zE (a N) λO Q=>?_;subst Q;show⟨i::O,rfl⟩
def pI{P:Wx}{h:WH}{N:WA}{w:Wy}{O:List Int}:∀ {Z:TN},WellAll P h Z (O.map .int)->Ba N w h.get? Z (O.map FV.int):=by
 induction O with
 |nil=>intro Z x;cases x;show .nil
 |cons i O Q=>
  intro Z x;cases x with
  |cons a b=>cases a with
   |int i t=>show .cons (.int i t) (Q b)
def jd{h l:WH}{a:WD}{m:Wu->TM}(k:∀b o,h.get? b=some o->l.get? b=some o)(N:l.Ns a m)(e:∃o,h.get? a=some o):h.Ns a m:=by
 show cH N λD y f U hd r=>?_;show zE e λo e=>?_;have:D=o:=by have:=k _ _ e;replace this:=U▸this;cases this;rfl
 subst this;show(b4 D y f e hd r)
def JY(P:Wx):Bool:=(Df (Ck P 3)).all λe=>Mine.A.ob (GO e.key) λp=>startupNames.contains p.1||Mine.Head.Sy.contains p.1||p.1==("law":Wu)
def sP(P:Wx):JY P=true:=by left
def wG:(((recsOf pw).map (·.name)).contains ("law":Wu))=true:=by left
def qm{x y:Wu}{t:Tok}(h:(Value.str y t).isStr x=true):y=x:=by
 have h:(y==x)=true:=h;show beq_iff_eq.mp h
def qZ{w:Wy}{j:Ww}{mg mb:Wu->TM}{h:WH}(G:Ground Mine.Head.q Mine.Head.Sy Cd.row.toRowW.records (λZ Z=>True) w j mg mb h)(Y:Mine.Head.YP w h):TopRead pw Mine.Head.Sy mg mb (H1 w.params):=by
 have T:=topRead_of G.T;have Q:=jd Y T.g (yE _ (bq w.params (a:=3) (by ext)));show⟨Q,jd Y T.b (yE _ (bq w.params (by ext))),?_,T.builtins,λx i k f Z Z=>?_⟩
 ·show aA T.nolimit λSv N e=>?_;show(aO Sv (jd Y N (yE _ (bq w.params (by ext)))) e)
 ·rw[ns3 Q x];unfold nsFind findBy;cases q:(Df (Ck w.params 3)).toArray.find? λe=>e.key.isStr x with
  |none=>rfl
  |some e=>
   exfalso;have O:e∈Df (Ck w.params 3):=by
    have:=Array.mem_of_find?_eq_some q;simpa using this
   have D:e.key.isStr x=true:=by simpa using Array.find?_some q
   have U:=Zd (sP w.params) e O;obtain⟨⟨y,t⟩,b,U⟩:=cP U
   ·rw[gG b]at D;obtain rfl:=qm D;have U:(startupNames.contains y||Mine.Head.Sy.contains y||y==("law":Wu))=true:=U;simp only[Yq]at U;rcases U with (U|U)|U
    ·show i (by simpa using U)
    ·show k (by simpa using U)
    ·have:y=("law":Wu):=beq_iff_eq.mp U;subst this;show f (by simpa using wG)
def vO{u:List WData}{X:WTm}(h:WTm.holds [] (.and (.not (.lt (.lit (.int 63)) (.len (.arg 0)))) X) {args:=[.list u]}=true):u.length<=63:=by
 rcases YT 63 u.length with k|k
 ·exfalso;have e:WTm.value [] (.not (.lt (.lit (.int 63)) (.len (.arg 0)))) {args:=[.list u]}=some (.bool false):=by
   have:decide ((63:Int)<(u.length:Int))=true:=Zr (by show Int.lt_of_toNat_lt k);have Z:Num.less? (WData.int 63) (WData.int u.length)=some true:=by
    change some (decide ((63:Int)<(u.length:Int)))=_;rw[this]
   simp[WTm.value,less?,Z]
  unfold WTm.holds at h;rw[WTm.value,e]at h;cases h
 ·show k
def wH{w:Wy}{mg mb:Wu->TM}(T:TopRead pw Mine.Head.Sy mg mb (H1 w.params)){a:WD}(h:mg I3.name=some (.ref a)):a=840:=by
 show eX ((ctx T).Gw I3.name (.st 840) (by left)) λZ u e r=>?_;replace e:=h▸e;cases e;have r:Value.ref a=.ref 840:=r;cases r;rfl
set_option tactic.hygienic true in
def walk:WalkO Mine.Head.q Mine.Head.Sy (λZ Z=>True) Mine.Head.YP Cd.row.toRowW I3 [] λf x=>PySem.call f x:=by
 intro w j l mg mb G Y a o pm cd L SX kV ho S R V n A U q as s p I z t;have T:=qZ G Y;obtain rfl:=wH T n;show zA (pre_splitW s) λN u=>?_;show bA (hasAllW_cons N) λd r P hd F=>?_;subst P;obtain rfl:=hasAllW_nil F;show aA (hasW_list hd) λxs Q hi=>?_;subst Q;show zE (ql hi) λO Q=>?_;subst Q;cases z with
 |cons hv B=>
  cases B;cases hv with
  |list b v=>
   rename_i D C;have W:O.length<=16777216:=by
    obtain⟨X,H⟩:∃X,Cd.row.toRowW.pre=.and (.not (.lt (.lit (.int 63)) (.len (.arg 0)))) X:=(yE _ rfl)
    rw[H]at u;have:=vO u;rw[ZD]at this;lia
   have m:RF pw w l.heap.get? (.ref D) (.lst (O.map .int)):=.lst b (yE 0 rfl) (pI v) (by rw[ZD];show W);show XI (aaD T ⟨rfl,(aO [] rfl λZ h=>(nomatch h)),by decide+kernel,by decide+kernel⟩ Y m λs' E e M=>?_);show⟨.inl (aM (.bool true) (.bool true) [] rfl (λcls=>rfl) (.bool true) ?_ λZ=>⟨List.nodup_nil,λZ h=>nomatch h⟩),.of_keep E,e,?_⟩
   ·change(WShape.has [] (.bool true) .bool&&WTm.holds [] (.eq .res (.lit (.bool true))) {args:=[.list (O.map .int)],res:=some (.bool true),after:=[.list (O.map .int)]})=true;show Bool.and_eq_true_iff.mpr ⟨rfl,by simp[WTm.holds,WTm.value,same]⟩
   ·intro y hy;obtain⟨i,hi,rfl⟩:=Array.mem_iff_getElem.mp hy;rcases M.new i _ (Z6 hi)with k|k
    ·rw[A]at k;simp at k
    ·show k
def holds:Cd.Holds:=Mine.Head.head walk
end
end Mine.A
theorem PySem.Challenge.cw_te0042_02_holds : PySem.Challenge.rw_te0042_02.Holds := by
  show Mine.A.holds
