import PyProof.Rows.All
import Wide.All
import OpenK.AllK
import KE.KEqDict
import Wide.FinOn
import PySem.Challenge.RW_te0042_01
open PySem PySem.W PyProof.Rows
set_option Elab.async false
set_option maxRecDepth 100000
set_option maxHeartbeats 0
set_option bootstrap.genMatcherCode false
set_option genSizeOf false
set_option genInjectivity false
open PySem.SeqAt PySem.MeetsSeq PySem.MeetsSeq2 PySem.MeetsSeq3
namespace Mine.A
open Builtin
noncomputable def wJ(prog:Program)(w:World)(A:Around)(s:Shared)(y x:Value):Prop:=∀(E:Value->Shared->Prop) (Q:Bool->Shared->Prop),Q true s->wpAny (model prog w) A (eqBool y x) Q E s
theorem uB{prog:Program}{w:World}(l b:Addr)(items items2:Array Value)(n n2:Nat)(dd dd2:Option Addr)(sl sl2:Array (Option Value))(hsz:items.size=items2.size)(k:Nat):∀(i:Nat),items.size-i=k->∀(A:Around) (R:Result->Shared->Prop) (s:Shared),
  s.heap.get? l=some {cls:=.type "list",dict:=dd,data:=.seq items n,slots:=sl}->s.heap.get? b=some {cls:=.type "list",dict:=dd2,data:=.seq items2 n2,slots:=sl2}->
  (∀j (h1:j<items.size) (h2:j<items2.size),wJ prog w A.in1 s items[j] items2[j])->R (.ok (.ret (.bool false))) s->
  wpAny (model prog w) A.in1 (Builtin.«list.__eq__.loop» ⟨[.ref l,.ref b,rawInt i,rawInt 3],[]⟩) (λfin s'=>match fin with| .done f=>R (.ok f) s'| .again c'=>c'.quiet=true∧codeAny (model prog w) A c' R s') (λe s'=>R (.error e) s') s:=by
 induction k with
 |zero=>
  intro i hk A R s hl hb he h
  obtain⟨hp,g,d,tk,os⟩:=s
  wp_walk using wpAny_loadPart' hl,wpAny_loadPart' hb
  have e1:items[((i:Nat):Int).toNat]? =none:=by rw [Int.toNat_natCast];exact Array.getElem?_eq_none (by omega)
  have e2:items2[((i:Nat):Int).toNat]? =none:=by rw [Int.toNat_natCast];exact Array.getElem?_eq_none (by omega)
  (refine e1.symm▸ ?_;refine e2.symm▸ ?_)
  wp_walk using wpAny_loadPart' hl,wpAny_loadPart' hb
  show R (.ok (.ret (.bool (items.size !=items2.size)))) _
  (refine hsz▸ ?_;rw [bne_self_eq_false])
  exact h
 |succ k ih=>
  intro i hk A R s hl hb he h
  obtain⟨hp,g,d,tk,os⟩:=s
  wp_walk using wpAny_loadPart' hl,wpAny_loadPart' hb
  have h1:i<items.size:=by omega
  have h2:i<items2.size:=by omega
  have e1:items[((i:Nat):Int).toNat]? =some items[i]:=by rw [Int.toNat_natCast];exact Array.getElem?_eq_getElem h1
  have e2:items2[((i:Nat):Int).toNat]? =some items2[i]:=by rw [Int.toNat_natCast];exact Array.getElem?_eq_getElem h2
  (refine e1▸ ?_;refine e2▸ ?_)
  refine wpAny_bind (he i h1 h2 _ _ ?_)
  wp_walk
  refine(show((i:Int)+1)=((i+1:Nat):Int) by omega)▸ ?_
  refine⟨plainId_quiet plain_eq_loop _,codeAny_builtin entry_eq_loop ?_⟩
  refine(Around.under_plainId plain_eq_loop _)▸ ?_
  exact ih (i+1) (by omega) A R _ hl hb he h
theorem u5{prog:Program}{w:World}(l b:Addr)(items items2:Array Value)(n n2:Nat)(dd dd2:Option Addr)(sl sl2:Array (Option Value))(hsz:items.size=items2.size):
  MeetsIn prog w (Builtin.«list.__ne__» ⟨[.ref l,.ref b],[]⟩)
   (λA R s=>s.heap.get? l=some {cls:=.type "list",dict:=dd,data:=.seq items n,slots:=sl}∧s.heap.get? b=some {cls:=.type "list",dict:=dd2,data:=.seq items2 n2,slots:=sl2}∧
    (∀j (h1:j<items.size) (h2:j<items2.size),wJ prog w A.in1 s items[j] items2[j])∧R (.ok (.ret (.bool false))) s):=by
 intro A R s h
 obtain⟨hp,g,d,tk,os⟩:=s
 obtain⟨hl,hb,he,h⟩:=h
 have f3:=AutoSeq1.sub_list_list
 have hne:¬(items.size !=items2.size)=true:=by simp [hsz]
 wp_walk using wpAny_loadPart' hl,wpAny_loadPart' hb
 refine⟨plainId_quiet plain_eq_loop _,codeAny_builtin entry_eq_loop ?_⟩
 refine(Around.under_plainId plain_eq_loop _)▸ ?_
 exact uB l b items items2 n n2 dd dd2 sl sl2 hsz _ 0 rfl A R _ hl hb he h
theorem r9{prog:Program}{w:World}{A:Around}{s:Shared}{E:Value->Shared->Prop}{Q:Value->Shared->Prop}{l b:Addr}{items items2:Array Value}(hl:s.heap.IsList l items)(hb:s.heap.IsList b items2)(hsz:items.size=items2.size)(hu:A.units<cLine)
  (he:∀j (h1:j<items.size) (h2:j<items2.size),wJ prog w A.in1 s items[j] items2[j]) (hQ:Q (.bool false) s):wpAny (model prog w) A (compareOp .NotEq (.ref l) (.ref b)) Q E s:=by
 obtain⟨⟨cls,dd,data,sl⟩,ho,hc,n,hd⟩:=id hl
 obtain⟨⟨cls2,dd2,data2,sl2⟩,ho2,hc2,n2,hd2⟩:=id hb
 simp only at hc hd hc2 hd2
 subst hc hd hc2 hd2
 exact wpAny_richCompare_same_room (op:=.NotEq) (T:="list") ⟨_,ho,rfl⟩ ⟨_,ho2,rfl⟩ PySem.F.slot_list_ne (call_meetsIn PySem.F.slot_list_ne ⟨_,ho,rfl⟩ PySem.F.entry_list_ne (PySem.F.args_list_ne_2 _ _) (u5 l b items items2 n n2 dd dd2 sl sl2 hsz)
  ⟨ho,ho2,he,show Value.bool false≠Value.notImplemented∧Q (.bool false) s from⟨(λx=>nomatch x),hQ⟩⟩) hu
theorem wJ.at{prog:Program}{w:World}{A:Around}{s:Shared}{y x:Value}(h:SeqAt.EqAt A s y x true):wJ prog w A s y x:=λE Q hq=>h prog w E Q hq
theorem wJ.of_rc{prog:Program}{w:World}{A:Around}{s:Shared}{l b:Addr}(hne:l≠b)(h:∀(E:Value->Shared->Prop) (Q:Value->Shared->Prop),Q (.bool true) s->wpAny (model prog w) A (compareOp .Eq (.ref l) (.ref b)) Q E s):wJ prog w A s (.ref l) (.ref b):=λE Q hq=>by
 unfold eqBool
 refine wpAny_holding (wpAny_ite_split (λhab=>absurd (by have:=eq_of_beq hab;injection this) hne) λ_=> ?_)
 exact wpAny_bind (h E _ (wpAny_truthy_bool hq))
theorem mu{kb:List (PySem.Str×Value)}(nd:(kb.map (·.1)).Nodup){k:PySem.Str}{y:Value}(h:(k,y)∈kb):valueAt kb k=some y:=by
 induction kb with
 |nil=>cases h
 |cons p r ih=>
  rw [List.map_cons,List.nodup_cons] at nd
  unfold valueAt
  refine(List.find?_cons)▸ ?_
  rcases List.mem_cons.mp h with e|h
  ·refine e▸ ?_;simp
  ·have hne:p.1≠k:=λe=>nd.1 (e▸List.mem_map_of_mem (f:=(·.1)) h)
   refine(decide_eq_false hne)▸ ?_
   exact ih nd.2 h
theorem wJ.dict{prog:Program}{w:World}{A:Around}{s:Shared}{a b:Addr}{ka kb:List (PySem.Str×Value)}(hab:a≠b)(ha:a≠sysModules)(hb:b≠sysModules)(da:s.heap.DictOf (strKind prog w) a ka)(db:s.heap.DictOf (strKind prog w) b kb)(hu:A.units<cLine)(hl:ka.length=kb.length)(hits:KeqHits A.in1 s kb ka true):wJ prog w A s (.ref a) (.ref b):=
 .of_rc hab λE Q hq=>keq_eq (by simpa using ha) (by simpa using hb) da db hu (λ_=>hits) (by(refine hl▸ ?_;rw [beq_self_eq_true]);exact hq)
end Mine.A
namespace Mine.A
inductive FV where
 |non
 |bol (b:Bool)
 |int (i:Int)
 |str (s:List Nat)
 |tup (l:List FV)
 |lst (l:List FV)
 |dct (l:List (List Nat×FV))
inductive V where
 |c (f:FV)
 |ob (i:Nat)
 |st (a:Nat)
 |mth (f i:Nat)
inductive AO where
 |lst (l:List FV)
 |dct (l:List (List Nat×V))
 |inst (C:Nat) (d:List (Nat×V))
 |frz (f:FV)
inductive X where
 |bad
 |k (f:FV)
 |loc (n:Nat)
 |glo (v:V)
 |att (o:X) (n:Nat)
 |sub (o i:X)
 |slc (o lo hi:X)
 |rev (o:X)
 |neg (a:X)
 |bin (op:Nat) (a b:X)
 |cmp (op:Nat) (a b:X)
 |rng (a b c:X)
 |and (a b:X)
 |or (a b:X)
 |not (a:X)
 |ife (c a b:X)
 |fn (id:Nat) (args:X)
 |call (f:Nat) (args:X)
 |new (C:Nat) (args:X)
 |meth (o:X) (n:Nat) (args:X) (kws:List Nat)
 |rep (o:X) (a b:List Nat)
 |tup (l:X)
 |lst (l:X)
 |dct (l:X)
 |lcm (n:Nat) (it cd e:X)
 |nil
 |cons (a b:X)
inductive S where
 |bad
 |skip
 |seq (a b:S)
 |ex (e:X)
 |asgN (n:Nat) (e:X)
 |asgA (o:X) (n:Nat) (e:X)
 |asgS (o i e:X)
 |asgT (ts:List (Option X×Nat)) (e:X)
 |augN (n op:Nat) (e:X)
 |augA (o:X) (n op:Nat) (e:X)
 |iff (c:X) (a b:S)
 |wh (label:Nat) (c:X) (b:S)
 |fr (label:Nat) (ns:List Nat) (it:X) (b:S)
 |frR (n:Nat) (args:X) (b:S)
 |frE (i n:Nat) (it:X) (b:S)
 |ret (e:X)
 |brk
 |cont
 |asrt (c:X)
 |prim (label:Nat)
structure St where
 L:List (Nat×V)
 H:List (Nat×AO)
 m:Nat
 vl:Bool
inductive Fl where
 |nxt|brk|cnt|ret (v:V)
structure G where
 call:Nat->List V->List Nat->List (Nat×AO)->(V->List (Nat×AO)->Prop)->Prop
 loop:Nat->List V->St->(Fl->St->Prop)->Prop
 own:Nat->Nat->Bool
 cls:Nat->Nat->Option Nat
 catt:Nat->Nat->Option V
 satt:Nat->Nat->Option V
 scls:Nat->Nat->Option Nat
 cid:Nat->Nat
 ini:Nat->Option Nat
 canon:Nat->Nat
 con:Nat->Option Nat
 fn:Nat->Bool
noncomputable section
@[reducible] def br (b:Bool) (x y:Prop):Prop:=Bool.rec y x b
noncomputable def lk{α:Type}(n:Nat)(l:List (Nat×α)):Option α:=
 List.rec none (λp _ ih=>Bool.rec ih (some p.2) (Nat.beq n p.1)) l
noncomputable def put{α:Type}(n:Nat)(v:α)(l:List (Nat×α)):List (Nat×α):=
 List.rec [(n,v)] (λp t ih=>Bool.rec (p::ih) ((n,v)::t) (Nat.beq n p.1)) l
noncomputable def iT{α:Type}(n:Nat)(l:List (Nat×α)):List (Nat×α):=
 List.rec [] (λp _ ih=>Bool.rec (p::ih) ih (Nat.beq n p.1)) l
noncomputable def lo(H:List (Nat×AO)):List (Nat×AO):=List.rec [] (λp _ ih=>Bool.rec ih (p::ih) (Nat.blt p.1 64)) H
noncomputable def hi(H:List (Nat×AO)):List (Nat×AO):=List.rec [] (λp _ ih=>Bool.rec (p::ih) ih (Nat.blt p.1 64)) H
noncomputable def j1(a:List Nat):List Nat->Bool:=
 List.rec (motive:=λ_=>List Nat->Bool) (λb=>List.rec true (λ_ _ _=>false) b) (λx _ ih b=>List.rec false (λy ys _=>Bool.rec false (ih ys) (Nat.beq x y)) b) a
@[reducible] def one (k:V->St->Prop) (l:List V) (s:St):Prop:=
 List.rec (motive:=λ_=>Prop) False (λv t _=>List.rec (motive:=λ_=>Prop) (k v s) (λ_ _ _=>False) t) l
noncomputable def tm(n:Nat)(p:Prop):Prop:=n≤16777216∧p
noncomputable def ai{α:Type}(o:Option α)(k:α->Prop):Prop:=Option.rec (motive:=λ_=>Prop) False k o
noncomputable def ed{α β:Type}(o:Option α)(f:α->β):Option β:=Option.rec none (λa=>some (f a)) o
noncomputable def az{α β:Type}(o:Option α)(f:α->Option β):Option β:=Option.rec none f o
noncomputable def aI(f:FV):Option Int:=FV.casesOn (motive_1:=λ_=>Option Int) f (none) (λ_=>none) (λi=>some i) (λ_=>none) (λ_=>none) (λ_=>none) (λ_=>none)
noncomputable def aS(f:FV):Option (List Nat):=FV.casesOn (motive_1:=λ_=>Option (List Nat)) f (none) (λ_=>none) (λ_=>none) (λi=>some i) (λ_=>none) (λ_=>none) (λ_=>none)
noncomputable def aL(f:FV):Option (List FV):=FV.casesOn (motive_1:=λ_=>Option (List FV)) f (none) (λ_=>none) (λ_=>none) (λ_=>none) (λ_=>none) (λi=>some i) (λ_=>none)
noncomputable def aT(f:FV):Option (List FV):=FV.casesOn (motive_1:=λ_=>Option (List FV)) f (none) (λ_=>none) (λ_=>none) (λ_=>none) (λi=>some i) (λ_=>none) (λ_=>none)
noncomputable def Ge(f:FV):Bool:=FV.casesOn (motive_1:=λ_=>Bool) f (true) (λ_=>false) (λ_=>false) (λ_=>false) (λ_=>false) (λ_=>false) (λ_=>false)
noncomputable def aC(v:V):Option FV:=V.casesOn (motive:=λ_=>Option FV) v (λf=>some f) (λ_=>none) (λ_=>none) (λ_ _=>none)
noncomputable def La(v:V):Option Nat:=V.casesOn (motive:=λ_=>Option Nat) v (λ_=>none) (λi=>some i) (λ_=>none) (λ_ _=>none)
noncomputable def o1{α:Type}(l:List α):Option α:=List.rec none (λa t _=>List.rec (some a) (λ_ _ _=>none) t) l
noncomputable def aCh(f:FV):Option Nat:=Option.rec none (λs=>o1 s) (aS f)
noncomputable def opt3(l:List FV)(k:FV->FV->FV->Prop):Prop:=
 List.rec (motive:=λ_=>Prop) False (λa t _=>List.rec (motive:=λ_=>Prop) False (λb t _=>ai (o1 t) λc=>k a b c) t) l
noncomputable def fC(H:List (Nat×AO))(v:V):Option FV:=
 V.casesOn (motive:=λ_=>Option FV) v (λf=>some f) (λi=>az (lk i H) λo=>AO.casesOn (motive:=λ_=>Option FV) o (λl=>some (.lst l)) (λ_=>none) (λ_ _=>none) (λf=>some f)) (λ_=>none) (λ_ _=>none)
noncomputable def oY(H:List (Nat×AO))(v:V):Option (FV×List (Nat×AO)):=
 V.casesOn (motive:=λ_=>Option (FV×List (Nat×AO))) v (λf=>some (f,H)) (λi=>az (lk i H) λo=>AO.casesOn (motive:=λ_=>Option (FV×List (Nat×AO))) o (λl=>some (.lst l,put i (.frz (.lst l)) H)) (λ_=>none) (λ_ _=>none) (λf=>some (f,H))) (λ_=>none) (λ_ _=>none)
noncomputable def Gu(es:List (List Nat×V)):List (Nat×AO)->Option (List (List Nat×FV)×List (Nat×AO)):=
 List.rec (motive:=λ_=>List (Nat×AO)->Option (List (List Nat×FV)×List (Nat×AO))) (λH=>some ([],H))
  (λe _ ih H=>az (oY H e.2) λr=>ed (ih r.2) λq=>((e.1,r.1)::q.1,q.2)) es
noncomputable def frz(H:List (Nat×AO))(v:V):Option (FV×List (Nat×AO)):=
 V.casesOn (motive:=λ_=>Option (FV×List (Nat×AO))) v (λf=>some (f,H)) (λi=>az (lk i H) λo=>AO.casesOn (motive:=λ_=>Option (FV×List (Nat×AO))) o (λl=>some (.lst l,put i (.frz (.lst l)) H)) (λes=>ed (Gu es H) λr=>(.dct r.1,put i (.frz (.dct r.1)) r.2)) (λ_ _=>none) (λf=>some (f,H))) (λ_=>none) (λ_ _=>none)
noncomputable def sF(vs:List V):List (Nat×AO)->Option (List FV×List (Nat×AO)):=
 List.rec (motive:=λ_=>List (Nat×AO)->Option (List FV×List (Nat×AO))) (λH=>some ([],H))
  (λv _ ih H=>az (frz H v) λr=>ed (ih r.2) λq=>(r.1::q.1,q.2)) vs
noncomputable def cg{α:Type}(l:List α):Bool:=List.rec false (λ_ _ _=>true) l
noncomputable def ft(f:FV):Bool:=FV.casesOn (motive_1:=λ_=>Bool) f (false) (λb=>b) (λi=> !decide (i=0)) (λs=>cg s) (λs=>cg s) (λs=>cg s) (λs=>cg s)
noncomputable def av(H:List (Nat×AO))(v:V):Option Bool:=
 V.casesOn (motive:=λ_=>Option Bool) v (λf=>some (ft f)) (λi=>az (lk i H) λo=>AO.casesOn (motive:=λ_=>Option Bool) o (λl=>some (cg l)) (λl=>some (cg l)) (λ_ _=>none) (λf=>some (ft f))) (λ_=>none) (λ_ _=>some true)
noncomputable def K6(b:FV):Option Bool:=FV.casesOn (motive_1:=λ_=>Option Bool) b (some true) (λ_=>none) (λ_=>some false) (λ_=>some false) (λ_=>none) (λ_=>none) (λ_=>none)
noncomputable def K5(x:List Nat)(b:FV):Option Bool:=FV.casesOn (motive_1:=λ_=>Option Bool) b (some false) (λ_=>none) (λ_=>some false) (λy=>some (j1 x y)) (λ_=>none) (λ_=>none) (λ_=>none)
noncomputable def K7(x:Int)(b:FV):Option Bool:=FV.casesOn (motive_1:=λ_=>Option Bool) b (some false) (λ_=>none) (λy=>some (decide (x=y))) (λ_=>some false) (λ_=>none) (λ_=>none) (λ_=>none)
noncomputable def K8(x:Bool)(b:FV):Option Bool:=FV.casesOn (motive_1:=λ_=>Option Bool) b (none) (λy=>some (Bool.rec (!y) y x)) (λ_=>none) (λ_=>none) (λ_=>none) (λ_=>none) (λ_=>none)
noncomputable def tn(a b:FV):Option Bool:=FV.casesOn (motive_1:=λ_=>Option Bool) a (K6 b) (λx=>K8 x b) (λx=>K7 x b) (λx=>K5 x b) (λ_=>none) (λ_=>none) (λ_=>none)
noncomputable def dep(n:Nat):FV->Bool:=
 Nat.rec (motive:=λ_=>FV->Bool) (λ_=>false) (λ_ ih f=>FV.casesOn (motive_1:=λ_=>Bool) f (true) (λ_=>true) (λ_=>true) (λ_=>true) (λl=>l.all ih) (λl=>l.all ih) (λ_=>false)) n
noncomputable def yI(a b:FV)(k:Bool->Prop):Prop:=
 FV.casesOn (motive_1:=λ_=>Prop) a (ai (tn a b) k) (λ_=>ai (tn a b) k) (λ_=>ai (tn a b) k) (λ_=>ai (tn a b) k) (λx=>ai (aT b) λy=>(x=y∧dep 12 (.tup x)=true)∧k true) (λx=>ai (aL b) λy=>(x=y∧dep 12 (.lst x)=true)∧k true) (λ_=>ai (tn a b) k)
noncomputable def LU(f:FV):Bool:=FV.casesOn (motive_1:=λ_=>Bool) f (dep 12 f) (λ_=>dep 12 f) (λ_=>dep 12 f) (λ_=>dep 12 f) (λ_=>dep 12 f) (λ_=>dep 12 f) (λes=>es.all λp=>dep 12 p.2)
noncomputable def CL(l:List FV):Bool:=l.all LU
noncomputable def G1(a b:FV)(k:Bool->Prop):Prop:=
 FV.casesOn (motive_1:=λ_=>Prop) a (yI a b k) (λ_=>yI a b k) (λ_=>yI a b k) (λ_=>yI a b k) (λ_=>yI a b k) (λx=>ai (aL b) λy=>(x=y∧(dep 12 (.lst x)=true∨CL x=true))∧k true) (λ_=>yI a b k)
noncomputable def jB(a:FV)(l:List FV):Option Bool:=
 List.rec (some false) (λx _ ih=>az (tn x a) λp=>ed ih λq=>Bool.rec q true p) l
noncomputable def tW{α:Type}(a:List Nat)(l:List (List Nat×α)):Option α:=
 List.rec none (λx _ ih=>Bool.rec ih (some x.2) (j1 a x.1)) l
noncomputable def oz{α:Type}(a:List Nat)(v:α)(l:List (List Nat×α)):List (List Nat×α):=
 List.rec [(a,v)] (λx t ih=>Bool.rec (x::ih) ((x.1,v)::t) (j1 a x.1)) l
noncomputable def j3{α:Type}(a:List Nat)(l:List (List Nat×α)):Bool:=
 List.rec false (λx _ ih=>Bool.rec ih true (j1 a x.1)) l
noncomputable def oI(a:List Nat):List Nat->Bool:=
 List.rec (motive:=λ_=>List Nat->Bool) (λb=>List.rec false (λ_ _ _=>true) b) (λx _ ih b=>List.rec false (λy ys _=>Bool.rec (Bool.rec false (ih ys) (Nat.beq x y)) true (Nat.blt x y)) b) a
noncomputable def d7{α:Type}(l:List α)(i:Int):Option α:=
 Bool.rec (Bool.rec none l[(i+l.length).toNat]? (decide (0≤i+l.length))) l[i.toNat]? (decide (0≤i))
noncomputable def bnd(n:Nat)(i:Int):Nat:=Bool.rec (i+n).toNat (min i.toNat n) (decide (0≤i))
noncomputable def slice{α:Type}(l:List α)(a b:Option Int):List α:=(l.take (Option.rec l.length (λj=>bnd l.length j) b)).drop (Option.rec 0 (λi=>bnd l.length i) a)
noncomputable def BM(f:FV):Option (Option Int):=FV.casesOn (motive_1:=λ_=>Option (Option Int)) f (some none) (λ_=>none) (λi=>some (some i)) (λ_=>none) (λ_=>none) (λ_=>none) (λ_=>none)
noncomputable def pH(a b:FV)(k:FV->Prop):Prop:=
 FV.casesOn (motive_1:=λ_=>Prop) a (False) (λ_=>False) (λx=>ai (aI b) λy=>k (.int (x+y))) (λx=>ai (aS b) λy=>tm (x.length+y.length) (k (.str (x++y)))) (λ_=>False) (λ_=>False) (λ_=>False)
noncomputable def HE(op:Nat)(a b:FV)(k:FV->Prop):Prop:=
 match op with
 |0=>pH a b k
 |1=>ai (aI a) λx=>ai (aI b) λy=>k (.int (x-y))
 |3=>ai (aI a) λx=>ai (aI b) λy=>(y≠0∧Builtin.divisionGoesByPylong x y=false)∧k (.int (Int.fdiv x y))
 |4=>ai (aI a) λx=>ai (aI b) λy=>(y≠0∧Builtin.divisionGoesByPylong x y=false)∧k (.int (Int.fmod x y))
 |_=>False
noncomputable def fg(o:AO)(s:St)(k:V->St->Prop):Prop:=k (.ob s.m) ⟨s.L,(s.m,o)::s.H,s.m+1,s.vl⟩
noncomputable def aR(s:St)(H:List (Nat×AO)):St:=⟨s.L,H,s.m,s.vl⟩
noncomputable def cj(s:St)(L:List (Nat×V)):St:=⟨L,s.H,s.m,s.vl⟩
noncomputable def KP(x y:FV)(s:St)(k:V->St->Prop):Prop:=
 FV.casesOn (motive_1:=λ_=>Prop) x (pH x y λr=>k (.c r) s) (λ_=>pH x y λr=>k (.c r) s) (λ_=>pH x y λr=>k (.c r) s) (λ_=>pH x y λr=>k (.c r) s) (λp=>ai (aT y) λq=>(Bool.and (cg p) (cg q)=true∧p.length+q.length≤16777216)∧k (.c (.tup (p++q))) s) (λp=>ai (aL y) λq=>tm (p.length+q.length) (fg (.lst (p++q)) s k)) (λ_=>pH x y λr=>k (.c r) s)
noncomputable def j8(op:Nat)(a b:V)(s:St)(k:V->St->Prop):Prop:=
 ai (fC s.H a) λx=>ai (fC s.H b) λy=>
  match op with
  |0=>KP x y s k
  |2=>ai (aL x) λp=>ai (aI y) λn=>((-(2 ^ 63:Int)≤n∧n<2 ^ 63)∧p.length*n.toNat≤16777216)∧fg (.lst (List.replicate n.toNat p).flatten) s k
  |op=>HE op x y λr=>k (.c r) s
noncomputable def iN(v:V):Option Bool:=V.casesOn (motive:=λ_=>Option Bool) v (λf=>some (Ge f)) (λ_=>some false) (λ_=>some false) (λ_ _=>some false)
noncomputable def FE(op:Nat)(i j:Int)(k:Bool->Prop):Prop:=
 match op with
 |2=>k (decide (i<j))
 |3=>k (decide (i≤j))
 |4=>k (decide (j<i))
 |5=>k (decide (j≤i))
 |_=>False
noncomputable def FD(op:Nat)(p q:List Nat)(k:Bool->Prop):Prop:=
 match op with
 |2=>k (oI p q)
 |3=>k (!oI q p)
 |4=>k (oI q p)
 |5=>k (!oI p q)
 |_=>False
noncomputable def LD(op:Nat)(x y:FV)(k:Bool->Prop):Prop:=
 FV.casesOn (motive_1:=λ_=>Prop) x (False) (λ_=>False) (λi=>ai (aI y) λj=>FE op i j k) (λp=>ai (aS y) λq=>FD op p q k) (λ_=>False) (λ_=>False) (λ_=>False)
noncomputable def cI(op:Nat)(a b:V)(s:St)(k:Bool->Prop):Prop:=
 match op with
 |6=>ai (iN b) λz=>br z (ai (iN a) k) False
 |7=>ai (iN b) λz=>br z (ai (iN a) λr=>k (!r)) False
 |op=>ai (fC s.H a) λx=>ai (fC s.H b) λy=>fin op x y k
where
 fin (op:Nat) (x y:FV) (k:Bool->Prop):Prop:=
  match op with
  |0=>yI x y k
  |1=>G1 x y λr=>k (!r)
  |8=>mem x y k
  |op=>LD op x y k
 mem (x y:FV) (k:Bool->Prop):Prop:=
  match y with
  | .tup l=>ai (jB x l) k
  | .lst l=>ai (jB x l) k
  | .dct l=>ai (aS x) λa=>k (j3 a l)
  | .str b=>ai (aCh x) λq=>k (decide (q∈b))
  |_=>False
noncomputable def A2(x f:FV)(k:FV->Prop):Prop:=
 FV.casesOn (motive_1:=λ_=>Prop) x (False) (λ_=>False) (λ_=>False) (λl=>ai (aI f) λj=>ai (d7 l j) λr=>k (.str [r])) (λl=>ai (aI f) λj=>ai (d7 l j) k) (λl=>ai (aI f) λj=>ai (d7 l j) k) (λl=>ai (aS f) λa=>ai (tW a l) k)
noncomputable def oe(o i:V)(s:St)(k:V->St->Prop):Prop:=
 ai (aC i) λf=>V.casesOn (motive:=λ_=>Prop) o (λx=>A2 x f λr=>k (.c r) s) (λn=>ai (lk n s.H) λo=>AO.casesOn (motive:=λ_=>Prop) o (λl=>ai (aI f) λj=>ai (d7 l j) λr=>k (.c r) s) (λes=>ai (aS f) λa=>ai (tW a es) λv=>k v s) (λ_ _=>False) (λx=>A2 x f λr=>k (.c r) s)) (λ_=>False) (λ_ _=>False)
noncomputable def xm(o a b:V)(s:St)(k:V->St->Prop):Prop:=
 ai (fC s.H o) λx=>ai (fC s.H a) λp=>ai (fC s.H b) λq=>ai (BM p) λi=>ai (BM q) λj=>
  FV.casesOn (motive_1:=λ_=>Prop) x (False) (λ_=>False) (λ_=>False) (λl=>k (.c (.str (slice l i j))) s) (λ_=>False) (λl=>fg (.lst (slice l i j)) s k) (λ_=>False)
noncomputable def pJ(g:G)(i n:Nat)(s:St)(k:V->St->Prop)(C:Nat)(d:List (Nat×V)):Prop:=
 Option.rec (Option.rec (ai (g.catt C n) λv=>k v s) (λf=>k (.mth f i) s) (g.cls C n)) (λv=>br (g.own C n) (k v s) False) (lk n d)
noncomputable def nK(g:G)(o:V)(n:Nat)(s:St)(k:V->St->Prop):Prop:=
 V.casesOn (motive:=λ_=>Prop) o (λ_=>False) (λi=>ai (lk i s.H) λo=>AO.casesOn (motive:=λ_=>Prop) o (λ_=>False) (λ_=>False) (λC d=>pJ g i n s k C d) (λ_=>False)) (λa=>ai (g.satt a n) λv=>k v s) (λ_ _=>False)
noncomputable def Gz(f:FV):Option Nat:=FV.casesOn (motive_1:=λ_=>Option Nat) f (none) (λ_=>none) (λ_=>none) (λl=>some l.length) (λl=>some l.length) (λl=>some l.length) (λl=>some l.length)
noncomputable def D4(id:Nat)(vs:List V)(s:St)(k:V->St->Prop):Prop:=
 ai (o1 vs) λv=>Nat.casesOn (motive:=λ_=>Prop) id (ai (fC s.H v) λx=>ai (Gz x) λn=>k (.c (.int n)) s) λid=>Nat.casesOn (motive:=λ_=>Prop) id (ai (aC v) λf=>ai (aCh f) λc=>k (.c (.int c)) s) λ_=>False
noncomputable def dK(sep:List Nat)(l:List FV):Option (List Nat):=
 List.rec (some []) (λx t ih=>Option.rec none (λy=>Option.rec none (λr=>some (List.rec (motive:=λ_=>List Nat) y (λ_ _ _=>y++sep++r) t)) ih) (aS x)) l
noncomputable def ba(y z:List Nat):Nat->List Nat->List Nat
 |_,[]=>[]
 |0,c::r=>if y.isPrefixOf (c::r)then z++ba y z (y.length-1) r else c::ba y z 0 r
 |n+1,_::r=>ba y z n r
noncomputable def fB(c:Nat):List Nat->Int
 | []=> -1
 |x::r=>if 0≤fB c r then fB c r+1 else if x=c then 0 else-1
noncomputable def ak(c:Nat):List Nat->List (List Nat)
 | []=>[[]]
 |x::r=>if x=c then []::ak c r else match ak c r with
  |h::t=>(x::h)::t
  | []=>[[x]]
noncomputable def i4(c:Nat):Nat:=if 65≤c∧c≤90 then c+32 else c
noncomputable def fS(l:List Nat):List Nat:=l.map i4
noncomputable def xh(n:Nat)(x:List Nat)(vs:List FV)(s:St)(k:V->St->Prop):Prop:=
 match n with
 |2=>ai (o1 vs) λf=>ai (aL f) λl=>ai (dK x l) λr=>tm (r.length+l.length*x.length+x.length) (k (.c (.str r)) s)
 |4=>opt3 vs λf g h=>ai (aCh f) λc=>ai (aI g) λa=>ai (aI h) λb=>(a=0∧0≤b∧b<2 ^ 63)∧k (.c (.int ((x.take b.toNat).count c))) s
 |5=>opt3 vs λf g h=>ai (aCh f) λc=>ai (aI g) λa=>ai (aI h) λb=>(a=0∧0≤b∧b<2 ^ 63)∧k (.c (.int (fB c (x.take b.toNat)))) s
 |6=>ai (o1 vs) λf=>ai (aCh f) λc=>tm (x.length+2) (fg (.lst ((ak c x).map .str)) s k)
 |7=>br (cg vs) False ((x.all (λc=>Nat.blt c 128))=true∧k (.c (.str (fS x))) s)
 |9=>ai (o1 vs) λf=>ai (aS f) λp=>k (.c (.bol (p.isPrefixOf x))) s
 |_=>False
noncomputable def gj(o:Option AO):Option (List FV):=az o λo=>AO.casesOn (motive:=λ_=>Option (List FV)) o (λl=>some l) (λ_=>none) (λ_ _=>none) (λ_=>none)
noncomputable def zh(o:Option AO):Option (Nat×List (Nat×V)):=az o λo=>AO.casesOn (motive:=λ_=>Option (Nat×List (Nat×V))) o (λ_=>none) (λ_=>none) (λC d=>some (C,d)) (λ_=>none)
noncomputable def hd{α:Type}(l:List α):Option α:=List.rec none (λa _ _=>some a) l
noncomputable def FZ(n i:Nat)(l:List FV)(vs:List V)(s:St)(k:V->St->Prop):Prop:=
 match n with
 |0=>ai (o1 vs) λv=>ai (frz s.H v) λr=>ai (gj (lk i r.2)) λl=>tm (l.length+1) (k (.c .non) (aR s (put i (.lst (l++[r.1])) r.2)))
 |1=>br (cg vs) (ai (o1 vs) λv=>ai (aC v) λf=>ai (aI f) λj=>br (decide (j=0)) (ai (hd l) λx=>k (.c x) (aR s (put i (.lst l.tail) s.H))) False)
   (ai l.getLast? λr=>k (.c r) (aR s (put i (.lst l.dropLast) s.H)))
 |_=>False
noncomputable def sS(H:List (Nat×AO))(vs:List V):Option (List FV):=
 List.rec (some []) (λv _ ih=>az (fC H v) λf=>ed ih λr=>f::r) vs
noncomputable def jD(v:V):Bool:=V.casesOn (motive:=λ_=>Bool) v (λ_=>true) (λi=>Nat.blt i 64) (λ_=>true) (λ_ i=>Nat.blt i 64)
noncomputable def io(o:AO):Bool:=AO.casesOn (motive:=λ_=>Bool) o (λ_=>true) (λes=>es.all λp=>jD p.2) (λ_ d=>d.all λp=>jD p.2) (λ_=>true)
noncomputable def cC(g:G)(f:Nat)(vs:List V)(kws:List Nat)(s:St)(k:V->St->Prop):Prop:=
 br (Bool.and (g.fn f) (Bool.and (vs.all jD) ((lo s.H).all λp=>io p.2))) (g.call f vs kws (lo s.H) λv H=>k v (aR s (H++hi s.H))) False
noncomputable def nG(g:G)(op:Nat)(a b:V)(s:St)(k:Bool->St->Prop):Prop:=
 V.casesOn (motive:=λ_=>Prop) b (λ_=>cI op a b s λv=>k v s) (λ_=>cI op a b s λv=>k v s) (λx=>br (Nat.beq op 8) (ai (g.con x) λf=>cC g f [.st x,a] [] s λv s=>ai (av s.H v) λt=>k t s) False) (λ_ _=>cI op a b s λv=>k v s)
inductive M where
 |fn (f:Nat) (v:V)
 |own (f j:Nat)
 |str (x:List Nat)
 |lst (i:Nat)
noncomputable def uG(g:G)(i n:Nat)(C:Nat)(d:List (Nat×V)):Option M:=
 Option.rec (ed (g.cls C n) λf=>.fn f (.ob i)) (λv=>V.casesOn (motive:=λ_=>Option M) v (λ_=>none) (λ_=>none) (λ_=>none) (λf j=>Bool.rec none (some (.own f j)) (g.own C n))) (lk n d)
noncomputable def iY(g:G)(o:V)(n:Nat)(kws:List Nat)(s:St):Option M:=
 V.casesOn (motive:=λ_=>Option M) o (λf=>az (aS f) λx=>Bool.rec none (some (.str x)) (Bool.and (!cg kws) (Bool.and (Nat.ble 2 n) (Nat.ble n 9)))) (λi=>az (lk i s.H) λo=>AO.casesOn (motive:=λ_=>Option M) o (λ_=>Bool.rec none (some (.lst i)) (Bool.and (!cg kws) (Nat.ble n 1))) (λ_=>none) (λC d=>uG g i n C d) (λ_=>none)) (λa=>ed (g.scls a n) λf=>.fn f (.st a)) (λ_ _=>none)
noncomputable def gZ(g:G)(o:M)(n:Nat)(vs:List V)(kws:List Nat)(s:St)(k:V->St->Prop):Prop:=
 M.casesOn (motive:=λ_=>Prop) o (λf v=>cC g f (v::vs) kws s k) (λf j=>cC g f (.ob j::vs) kws s k) (λx=>ai (sS s.H vs) λfs=>xh n x fs s k) (λi=>ai (gj (lk i s.H)) λl=>FZ n i l vs s k)
noncomputable def B9(v:V):Bool:=V.casesOn (motive:=λ_=>Bool) v (λf=>Ge f) (λ_=>false) (λ_=>false) (λ_ _=>false)
noncomputable def uA(g:G)(C:Nat)(vs:List V)(s:St)(k:V->St->Prop):Prop:=
 Option.rec (ai (g.ini C) λf=>cC g f (.ob (g.cid C)::vs) [] (aR s (s.H++[(g.cid C,.inst C [])])) λv s'=>br (B9 v) (k (.ob (g.cid C)) s') False) (λ_=>False) (lk (g.cid C) s.H)
noncomputable def pq(vs:List V):Option (List (List Nat×V)):=
 (List.rec (motive:=λ_=>Option (List (List Nat×V))×Option (List (List Nat×V))) (some [],none) (λv t ih=>
  (Option.rec none (λw=>Option.rec none (λf=>Option.rec none (λf=>Option.rec none (λr=>some ((f,w)::r)) ih.2) (aS f)) (aC v)) (hd t),ih.1)) vs).1
noncomputable def D3(es:List (List Nat×V)):List (List Nat×V):=es.foldl (λacc p=>oz p.1 p.2 acc) []
noncomputable def J5(f:FV):Option (List FV):=FV.casesOn (motive_1:=λ_=>Option (List FV)) f (none) (λ_=>none) (λ_=>none) (λl=>some (l.map λx=>.str [x])) (λl=>some l) (λl=>some l) (λ_=>none)
noncomputable def J4(i:Nat)(s:St)(o:AO):Option (List FV×St):=
 AO.casesOn (motive:=λ_=>Option (List FV×St)) o (λl=>some (l,aR s (put i (.frz (.lst l)) s.H))) (λ_=>none) (λ_ _=>none) (λf=>ed (J5 f) λl=>(l,s))
noncomputable def vd(v:V)(s:St):Option (List FV×St):=
 V.casesOn (motive:=λ_=>Option (List FV×St)) v (λf=>ed (J5 f) λl=>(l,s)) (λi=>az (lk i s.H) (J4 i s)) (λ_=>none) (λ_ _=>none)
noncomputable def wL(n:Nat)(ihc ihe:St->(List V->St->Prop)->Prop)(l:List FV):List FV->St->(V->St->Prop)->Prop:=
 List.rec (motive:=λ_=>List FV->St->(V->St->Prop)->Prop) (λacc s k=>fg (.lst acc) s k)
  (λx _ ih acc s k=>ihc (cj s [(n,.c x)]) (one λc s=>ai (av s.H c) λt=>
   br t (ihe s (one λe s=>ai (frz s.H e) λr=>tm (acc.length+1) (ih (acc++[r.1]) (aR s r.2) k))) (ih acc s k))) l
noncomputable def o2{β:Type}(l:List FV)(k:FV->FV->β):Option β:=List.rec none (λa t _=>ed (o1 t) λb=>k a b) l
noncomputable def o3{β:Type}(l:List FV)(k:FV->FV->FV->β):Option β:=List.rec none (λa t _=>o2 t λb c=>k a b c) l
noncomputable def dZ(ns:List Nat)(x:FV)(L:List (Nat×V)):Option (List (Nat×V)):=
 List.rec none (λn t _=>List.rec (some (put n (.c x) L)) (λm t _=>az (aT x) λl=>List.rec (o2 l λa b=>put m (.c b) (put n (.c a) L))
  (λo t _=>List.rec (o3 l λa b c=>put o (.c c) (put m (.c b) (put n (.c a) L))) (λ_ _ _=>none) t) t) t) ns
noncomputable def Ij(b:St->(Fl->St->Prop)->Prop)(k:Fl->St->Prop)(fl:Fl)(s:St):Prop:=Fl.casesOn (motive:=λ_=>Prop) fl (b s k) (k fl s) (k fl s) (λ_=>k fl s)
noncomputable def Km(ih:St->(Fl->St->Prop)->Prop)(k:Fl->St->Prop)(fl:Fl)(s:St):Prop:=Fl.casesOn (motive:=λ_=>Prop) fl (ih s k) (k .nxt s) (ih s k) (λv=>k (.ret v) s)
noncomputable def IB(P:St->Prop)(k:Fl->St->Prop)(fl:Fl)(s:St):Prop:=Fl.casesOn (motive:=λ_=>Prop) fl (P s) (k .nxt s) (P s) (λv=>k (.ret v) s)
noncomputable def dM(ihb:St->(Fl->St->Prop)->Prop)(tk:FV->List (Nat×V)->Option (List (Nat×V)))(l:List FV):St->(Fl->St->Prop)->Prop:=
 List.rec (motive:=λ_=>St->(Fl->St->Prop)->Prop) (λs k=>k .nxt s)
  (λx _ ih s k=>ai (tk x s.L) λL=>ihb (cj s L) (Km ih k)) l
noncomputable def kZ(a:Int)(n:Nat):List FV:=(List.range n).map λ(i:Nat)=>FV.int (a+(i:Int))
noncomputable def BN(l:List FV):List FV:=l.zipIdx.map λp=>.tup [.int p.2,p.1]
noncomputable def E8(a b:List Nat)(o:V)(s:St)(F:V->St->Prop):Prop:=ai (aC o) λf=>ai (aS f) λx=>
 (Bool.and (cg a) (!j1 a b)=true∧x.length≤1048576)∧F (.c (.str (ba a b 0 x))) s
noncomputable def ev(g:G)(x:X):St->(List V->St->Prop)->Prop:=
 X.rec (motive:=λ_=>G->St->(List V->St->Prop)->Prop)
  (λ_ _ _=>False)
  (λf g s k=>k [.c f] s)
  (λn g s k=>ai (lk n s.L) λv=>k [v] s)
  (λv g s k=>k [v] s)
  (λ_ n iho g s k=>iho g s (one λo s=>nK g o n s λv s=>k [v] s))
  (λ_ _ iho ihi g s k=>iho g s (one λo s=>ihi g s (one λi s=>oe o i s λv s=>k [v] s)))
  (λ_ _ _ iho iha ihb g s k=>iho g s (one λo s=>iha g s (one λa s=>ihb g s (one λb s=>xm o a b s λv s=>k [v] s))))
  (λ_ _ _ _ _=>False)
  (λ_ iha g s k=>iha g s (one λa s=>ai (aC a) λf=>ai (aI f) λi=>k [.c (.int (-i))] s))
  (λop _ _ iha ihb g s k=>iha g s (one λa s=>ihb g s (one λb s=>j8 op a b s λv s=>k [v] s)))
  (λop _ _ iha ihb g s k=>iha g s (one λa s=>ihb g s (one λb s=>nG g op a b s λv s=>k [.c (.bol v)] s)))
  (λ_ _ _ iha ihb ihc g s k=>iha g s (one λa s=>ihb g s (one λb s=>cI 3 a b s λt=>
   br t (ihc g s (one λc s=>cI 3 b c s λu=>k [.c (.bol u)] s)) (k [.c (.bol false)] s))))
  (λ_ _ iha ihb g s k=>iha g s (one λa s=>ai (av s.H a) λt=>br t (ihb g s k) (k [a] s)))
  (λ_ _ iha ihb g s k=>iha g s (one λa s=>ai (av s.H a) λt=>br t (k [a] s) (ihb g s k)))
  (λ_ iha g s k=>iha g s (one λa s=>ai (av s.H a) λt=>k [.c (.bol (!t))] s))
  (λ_ _ _ ihc iha ihb g s k=>ihc g s (one λc s=>ai (av s.H c) λt=>br t (iha g s k) (ihb g s k)))
  (λid _ iha g s k=>iha g s λvs s=>D4 id vs s λv s=>k [v] s)
  (λf _ iha g s k=>iha g s λvs s=>cC g f vs [] s λv s=>k [v] s)
  (λC _ iha g s k=>iha g s λvs s=>uA g C vs s λv s=>k [v] s)
  (λ_ n _ kws iho iha g s k=>iho g s (one λo s=>ai (iY g o n kws s) λm=>iha g s λvs s=>gZ g m n vs kws s λv s=>k [v] s))
  (λ_ a b iho g s k=>iho g s (one λo s=>E8 a b o s λv s=>k [v] s))
  (λ_ iha g s k=>iha g s λvs s=>ai (sF vs s.H) λr=>br (Nat.ble r.1.length 1000) (k [.c (.tup r.1)] (aR s r.2)) False)
  (λ_ iha g s k=>iha g s λvs s=>ai (sF vs s.H) λr=>br (Nat.ble r.1.length 1000) (fg (.lst r.1) (aR s r.2) λv s=>k [v] s) False)
  (λ_ iha g s k=>iha g s λvs s=>ai (pq vs) λes=>fg (.dct (D3 es)) s λv s=>k [v] s)
  (λn _ _ _ iha ihc ihe g s k=>iha g s (one λv s=>ai (vd v s) λr=>wL n (ihc g) (ihe g) r.1 [] (cj r.2 []) λv s'=>k [v] (cj s' s.L)))
  (λg s k=>k [] s)
  (λ_ _ iha ihb g s k=>iha g s (one λa s=>ihb g s λvs s=>k (a::vs) s))
  x g
noncomputable def dO(g:G)(x:X)(s:St)(k:V->St->Prop):Prop:=ev g x s (one k)
noncomputable def LK(c:Nat)(v:V)(s:St)(k:V->St->Prop):Prop:=
 Bool.rec (V.casesOn (motive:=λ_=>Prop) v (λ_=>k v s) (λi=>Bool.rec (k v s) (ai (lk i s.H) λo=>Option.rec (k (.ob c) (aR s (iT i s.H++[(c,o)]))) (λ_=>False) (lk c s.H)) (Nat.ble 64 i)) (λ_=>k v s) (λ_ _=>k v s)) (k v s) (Nat.beq c 0)
noncomputable def Im(c:Nat)(v:V)(s:St)(k:V->St->Prop):Prop:=
 Bool.rec (LK c v s k) (ai (frz s.H v) λr=>k (.c r.1) (aR s r.2)) (Nat.beq c 63)
noncomputable def eH(g:G)(o:V)(n:Nat)(v:V)(s:St)(k:St->Prop):Prop:=
 ai (La o) λi=>Im (g.canon n) v s λv s=>ai (zh (lk i s.H)) λp=>br (Bool.and (g.own p.1 n) (Nat.ble p.2.length 900)) (k (aR s (put i (.inst p.1 (put n v p.2)) s.H))) False
noncomputable def km(l:List FV)(i:Int)(f:FV):Option (List FV):=
 Bool.rec (Bool.rec none (some (l.set (i+l.length).toNat f)) (decide (0≤i+l.length))) (Bool.rec none (some (l.set i.toNat f)) (decide (i<l.length))) (decide (0≤i))
noncomputable def oh(o i v:V)(s:St)(k:St->Prop):Prop:=
 ai (La o) λn=>ai (aC i) λf=>ai (lk n s.H) λo=>AO.casesOn (motive:=λ_=>Prop) o (λ_=>ai (aI f) λj=>ai (frz s.H v) λr=>ai (gj (lk n r.2)) λl=>ai (km l j r.1) λl=>k (aR s (put n (.lst l) r.2))) (λes=>ai (aS f) λa=>br (Nat.ble es.length 900) (k (aR s (put n (.dct (oz a v es)) s.H))) False) (λ_ _=>False) (λ_=>False)
noncomputable def D0(g:G)(ts:List (Option X×Nat)):List FV->St->(St->Prop)->Prop:=
 List.rec (motive:=λ_=>List FV->St->(St->Prop)->Prop)
  (λl s k=>List.rec (motive:=λ_=>Prop) (k s) (λ_ _ _=>False) l)
  (λt _ ih l s k=>List.rec (motive:=λ_=>Prop) False (λf r _=>Option.rec (motive:=λ_=>Prop) (ih r (cj s (put t.2 (.c f) s.L)) k) (λo=>dO g o s λo s=>eH g o t.2 (.c f) s λs=>ih r s k) t.1) l) ts
noncomputable def fw(op:Nat)(a b:V)(s:St)(k:V->St->Prop):Prop:=
 ai (fC s.H a) λx=>ai (fC s.H b) λy=>HE op x y λr=>k (.c r) s
noncomputable def oR(op:Nat)(a b:V)(s:St)(k:V->St->Prop):Prop:=
 Bool.rec (fw op a b s k) (V.casesOn (motive:=λ_=>Prop) a (λ_=>fw op a b s k) (λi=>Option.rec (fw op a b s k) (λo=>AO.casesOn (motive:=λ_=>Prop) o (λl=>ai (fC s.H b) λy=>ai (aL y) λq=>tm (l.length+q.length) (k (.ob i) (aR s (put i (.lst (l++q)) s.H)))) (λ_=>fw op a b s k) (λ_ _=>fw op a b s k) (λ_=>fw op a b s k)) (lk i s.H)) (λ_=>fw op a b s k) (λ_ _=>fw op a b s k)) (Nat.beq op 0)
noncomputable def tu(g:G)(ts:List (Option X×Nat))(v:V)(s:St)(k:St->Prop):Prop:=ai (aC v) λf=>ai (aT f) λl=>br (Nat.beq ts.length l.length) (D0 g ts l s k) False
noncomputable def K9(v:V):Option Int:=az (aC v) aI
noncomputable def Lx(vs:List V)(k1:Int->Prop)(k2:Int->Int->Prop):Prop:=
 List.rec (motive:=λ_=>Prop) False (λv t _=>ai (K9 v) λa=>List.rec (motive:=λ_=>Prop) (k1 a) (λw t _=>ai (K9 w) λb=>List.rec (motive:=λ_=>Prop) (k2 a b) (λ_ _ _=>False) t) t) vs
noncomputable def ex(g:G)(x:S):St->(Fl->St->Prop)->Prop:=
 S.rec (motive:=λ_=>G->St->(Fl->St->Prop)->Prop)
  (λ_ _ _=>False)
  (λg s k=>k .nxt s)
  (λ_ _ iha ihb g s k=>iha g s (Ij (ihb g) k))
  (λe g s k=>dO g e s λ_ s=>k .nxt s)
  (λn e g s k=>dO g e s λv s=>k .nxt (cj s (put n v s.L)))
  (λo n e g s k=>dO g e s λv s=>dO g o s λo s=>eH g o n v s λs=>k .nxt s)
  (λo i e g s k=>dO g e s λv s=>dO g o s λo s=>dO g i s λi s=>oh o i v s λs=>k .nxt s)
  (λts e g s k=>dO g e s λv s=>tu g ts v s λs=>k .nxt s)
  (λn op e g s k=>ai (lk n s.L) λa=>dO g e s λb s=>oR op a b s λv s=>k .nxt (cj s (put n v s.L)))
  (λo n op e g s k=>dO g o s λo s=>nK g o n s λa s=>dO g e s λb s=>oR op a b s λv s=>eH g o n v s λs=>k .nxt s)
  (λc _ _ iha ihb g s k=>dO g c s λv s=>ai (av s.H v) λt=>br t (iha g s k) (ihb g s k))
  (λ_ c _ ihb g s k=>∀P:St->Prop,(∀s,(dO g c s λv s=>ai (av s.H v) λt=>br t (ihb g s (IB P k)) (k .nxt s))->P s)->P s)
  (λl ns it _ ihb g s k=>dO g it s λv s=>Option.rec (g.loop l [v] s k) (λr=>dM (ihb g) (dZ ns) r.1 r.2 k) (vd v s))
  (λn args _ ihb g s k=>ev g args s λvs s=>Lx vs (λb=>(-1000000≤b∧b≤1000000)∧dM (ihb g) (dZ [n]) (kZ 0 b.toNat) s k)
   λa b=>((-1000000≤a∧a≤1000000)∧(-1000000≤b∧b≤1000000))∧dM (ihb g) (dZ [n]) (kZ a (b-a).toNat) s k)
  (λi n it _ ihb g s k=>dO g it s λv s=>ai (oY s.H v) λr=>ai (aL r.1) λl=>dM (ihb g) (dZ [i,n]) (BN l) (aR s r.2) k)
  (λe g s k=>dO g e s λv s=>k (.ret v) s)
  (λg s k=>k .brk s)
  (λg s k=>k .cnt s)
  (λc g s k=>dO g c s λv s=>ai (av s.H v) λt=>br t (k .nxt s) False)
  (λl g s k=>g.loop l [] s k)
  x g
end
theorem cps{P:Prop}(h:∀Q:Prop,(P->Q)->Q):P:=h P id
end Mine.A
namespace Mine.A
structure CP where
 nms:List PySem.Str
 gen:Nat->Bool
 glb:PySem.Str->Option V
 isC:Nat->Bool
 blt:PySem.Str->Option Nat
noncomputable def jR(x:PySem.Str):List PySem.Str->Nat->Option Nat
 | [],_=>none
 |y::r,i=>if x=y then some i else jR x r (i+1)
noncomputable def CP.code(p:CP)(x:PySem.Str):Option Nat:=jR x p.nms 0
noncomputable def bu(sc:Scope)(x:PySem.Str):Bool:=sc.names.lookup x==some .local
noncomputable def eB(sc:Scope)(x:PySem.Str):Bool:=sc.names.lookup x==some .globalImplicit
noncomputable def cK(c:Const):X:=
 match c with
 | .none=>.k .non
 | .bool b=>.k (.bol b)
 | .int i=>.k (.int i)
 | .str s=>if s.length≤10000 then .k (.str s.cps.toList)else .bad
 |_=>.bad
noncomputable def C2(o:Operator):Option Nat:=
 match o with
 | .Add=>some 0| .Sub=>some 1| .Mult=>some 2| .FloorDiv=>some 3| .Mod=>some 4|_=>none
noncomputable def lW(o:CmpOp):Nat:=
 match o with
 | .Eq=>0| .NotEq=>1| .Lt=>2| .LtE=>3| .Gt=>4| .GtE=>5| .Is=>6| .IsNot=>7| .In=>8| .NotIn=>9
noncomputable def dz(e:Expr):Bool:=
 match e with
 | .Name .. | .Attribute .. | .Subscript .. | .Constant .. | .List .. =>true
 | .Call (.Attribute ..) _ _ _=>true
 |_=>false
noncomputable def lS(cs:Scope):Bool:=cs.kind== .function&&cs.names.all λx=>x.2 != .free&&x.2 != .cell&&cs.names.lookup x.1==some x.2
noncomputable def cZ(e:Expr):Bool:=
 match e with
 | .Starred .. =>false
 |_=>true
noncomputable def jJ(e:Expr):Bool:=
 match e with
 | .Set .. =>true
 |_=>false
noncomputable def tV(e:Expr):Option (Option Expr×Option Expr×Option Expr):=
 match e with
 | .Slice lo hi st _=>some (lo,hi,st)
 |_=>none
noncomputable def yl(e:Expr):Option Int:=
 match e with
 | .Constant c _ _=>match c with
  | .int i=>some i
  |_=>none
 |_=>none
noncomputable def tP(e:Expr):Option PySem.Str:=
 match e with
 | .Constant c _ _=>match c with
  | .str s=>some s
  |_=>none
 |_=>none
noncomputable def yo(l:List Comprehension):Option (PySem.Str×Expr×List Expr):=
 match l with
 | []=>none
 |h::r=>if r.isEmpty&&h.is_async==0 then match h.target with
  | .Name x _=>some (x,h.iter,h.ifs)
  |_=>none
  else none
noncomputable def vh(o:CmpOp):Bool:=
 match o with
 | .LtE=>true
 |_=>false
noncomputable def xA(x:PySem.Str)(as:List Expr)(ks:List Keyword):Option (PySem.Str×PySem.Str):=
 if x=="replace"&&ks.isEmpty then match as with
  | []=>none
  |a::r=>match r with
   | []=>none
   |b::t=>if t.isEmpty then match tP a with
    |none=>none
    |some s=>match tP b with
     |none=>none
     |some z=>some (s,z)
    else none
  else none
noncomputable def oE{α:Type}(o:Option α)(k:α->X):X:=
 match o with
 |some a=>k a
 |none=>.bad
noncomputable def ML(p:CP)(sc:Scope)(x:PySem.Str):X:=
 if bu sc x then oE (p.code x) .loc else if eB sc x then oE (p.glb x) .glo else .bad
noncomputable def LX(o:UnaryOp)(a:Expr)(x:X):X:=
 match o with
 | .Not=>.not x
 | .USub=>match yl a with
  |some i=>.k (.int (-i))
  |none=>.neg x
 |_=>.bad
noncomputable def L4(ops:List CmpOp)(bs:List Expr)(A:X)(E:Expr->X):X:=
 match ops with
 | []=>.bad
 |o::ops=>match bs with
  | []=>.bad
  |b::bs=>match ops with
   | []=>match bs with
    | []=>if behindInMarks o b then .bad else .cmp (lW o) A (E b)
    |_::_=>.bad
   |u::ops=>match bs with
    | []=>.bad
    |c::bs=>if vh o&&(vh u&&(ops.isEmpty&&bs.isEmpty))then .rng A (E b) (E c)else .bad
noncomputable def LY(s:Option (Option Expr×Option Expr×Option Expr))(o i:X)(O:Option Expr->X):X:=
 match s with
 |none=>.sub o i
 |some t=>if t.2.2.isNone then .slc o (O t.1) (O t.2.1)else .bad
noncomputable def LZ(p:CP)(cs:Scope)(go:Option (PySem.Str×Expr×List Expr))(I E:Expr->X)(e:Expr):X:=
 oE go λt=>if lS cs&&(bu cs t.1&& !jJ t.2.1)then oE (p.code t.1) λi=>match t.2.2 with
  | []=>.lcm i (I t.2.1) (.k (.bol true)) (E e)
  |c::r=>if r.isEmpty then .lcm i (I t.2.1) (E c) (E e)else .bad
  else .bad
noncomputable def KO(p:CP)(x:PySem.Str)(L:X):X:=
 match p.glb x with
 |some v=>match v with
  | .st a=>if p.isC a then .new a L else .call a L
  |_=>.bad
 |none=>oE (p.blt x) λi=>if i<3 then .fn i L else .bad
noncomputable def D7(p:CP)(l:List Keyword):Option (List Nat):=List.rec (some []) (λk _ ih=>az k.arg λx=>az (p.code x) λi=>ed ih λl=>i::l) l
noncomputable def L5(p:CP)(sc:Scope)(f:Expr)(as:List Expr)(ks:List Keyword)(pos:Pos)(E:Expr->X)(L:List Expr->X):X:=
 match f with
 | .Name x _=>if ks.isEmpty&&(eB sc x&&as.all cZ)then KO p x (L as)else .bad
 | .Attribute o x q=>if dz o&&q.endLine==pos.line then match xA x as ks with
   |some t=>if t.1.cps.size<14&&t.2.cps.size<14 then .rep (E o) t.1.cps.toList t.2.cps.toList else .bad
   |none=>if as.length+ks.length<29&&(as++ks.map (·.value)).all cZ then oE (p.code x) λi=>oE (D7 p ks) λl=>.meth (E o) i (L (as++ks.map (·.value))) l else .bad
  else .bad
 |_=>.bad
mutual
noncomputable def cE(p:CP)(sc:Scope):Nat->Expr->X
 |0,_=>.bad
 |n+1,e=>
  match e with
  | .Constant c _ _=>cK c
  | .Name x _=>ML p sc x
  | .UnaryOp o a _=>LX o a (cE p sc n a)
  | .BoolOp o l _=>match o with
   | .And=>cA p sc n l
   | .Or=>cR p sc n l
  | .Compare a ops bs _=>L4 ops bs (cE p sc n a) λe=>cE p sc n e
  | .BinOp a op b _=>oE (C2 op) λo=>.bin o (cE p sc n a) (cE p sc n b)
  | .IfExp t a b _=>.ife (cE p sc n t) (cE p sc n a) (cE p sc n b)
  | .Attribute o x _=>if dz o then oE (p.code x) λi=>.att (cE p sc n o) i else .bad
  | .Subscript o i _=>LY (tV i) (cE p sc n o) (cE p sc n i) λo=>cO p sc n o
  | .Tuple es _ _=>if es.all cZ then .tup (cL p sc n es)else .bad
  | .List es _=>if es.all cZ then .lst (cL p sc n es)else .bad
  | .Dict ks vs _=>if ks.all (·.isSome)&&ks.length==vs.length&&ks.length≤15&& !ks.isEmpty then .dct (cD p sc n ks vs)else .bad
  | .ListComp e gs cs _=>LZ p cs (yo gs) (λe=>cE p sc n e) (λe=>cE p cs n e) e
  | .Call f as ks pos=>L5 p sc f as ks pos (λe=>cE p sc n e) λl=>cL p sc n l
  |_=>.bad
noncomputable def cO(p:CP)(sc:Scope):Nat->Option Expr->X
 |0,_=>.bad
 |n+1,o=>match o with
  |none=>.k .non
  |some e=>cE p sc n e
noncomputable def cL(p:CP)(sc:Scope):Nat->List Expr->X
 |0,_=>.bad
 |n+1,l=>match l with
  | []=>.nil
  |e::r=>.cons (cE p sc n e) (cL p sc n r)
noncomputable def cA(p:CP)(sc:Scope):Nat->List Expr->X
 |0,_=>.bad
 |n+1,l=>match l with
  | []=>.bad
  |e::r=>if r.isEmpty then cE p sc n e else .and (cE p sc n e) (cA p sc n r)
noncomputable def cR(p:CP)(sc:Scope):Nat->List Expr->X
 |0,_=>.bad
 |n+1,l=>match l with
  | []=>.bad
  |e::r=>if r.isEmpty then cE p sc n e else .or (cE p sc n e) (cR p sc n r)
noncomputable def cD(p:CP)(sc:Scope):Nat->List (Option Expr)->List Expr->X
 |0,_,_=>.bad
 |n+1,ks,vs=>match ks with
  | []=>match vs with
   | []=>.nil
   |_::_=>.bad
  |k::ks=>match vs with
   | []=>.bad
   |v::vs=>oE k λk=>.cons (cE p sc n k) (.cons (cE p sc n v) (cD p sc n ks vs))
end
noncomputable def d5(e:Expr):Bool:=
 match e with
 | .ListComp .. | .SetComp .. | .DictComp .. =>true
 |_=>false
noncomputable def vg(e:Expr):Bool:=
 match e with
 | .Tuple .. =>true
 |_=>false
noncomputable def cT(p:CP)(sc:Scope)(n:Nat):List Expr->Option (List (Option X×Nat))
 | []=>some []
 |e::r=>match e with
  | .Name x _=>if bu sc x then az (p.code x) λi=>az (cT p sc n r) λl=>some ((none,i)::l)else none
  | .Attribute o x _=>az (p.code x) λi=>az (cT p sc n r) λl=>some ((some (cE p sc n o),i)::l)
  |_=>none
noncomputable def qA{α:Type}(o:Option α)(k:α->S):S:=
 match o with
 |some a=>k a
 |none=>.bad
noncomputable def L7(p:CP)(sc:Scope)(n:Nat)(t e:Expr):S:=
 match t with
 | .Name x _=>if bu sc x then qA (p.code x) λi=>.asgN i (cE p sc n e)else .bad
 | .Attribute o x _=>qA (p.code x) λi=>.asgA (cE p sc n o) i (cE p sc n e)
 | .Subscript o i _=>.asgS (cE p sc n o) (cE p sc n i) (cE p sc n e)
 | .Tuple ts _ _=>if vg e then .bad else qA (cT p sc n ts) λl=>.asgT l (cE p sc n e)
 |_=>.bad
noncomputable def L6(p:CP)(sc:Scope)(n:Nat)(t:Expr)(op:Operator)(e:Expr):S:=
 qA (C2 op) λo=>if o<2 then match t with
  | .Name x _=>if bu sc x then qA (p.code x) λi=>.augN i o (cE p sc n e)else .bad
  | .Attribute b x _=>qA (p.code x) λi=>.augA (cE p sc n b) i o (cE p sc n e)
  |_=>.bad
  else .bad
noncomputable def za(p:CP)(sc:Scope)(k:Nat)(it:Expr):Option (List Expr):=
 match it with
 | .Call f as ks _=>match f with
  | .Name x _=>if ks.isEmpty&&(eB sc x&&(p.blt x==some k&&((p.glb x).isNone&&as.all cZ)))then some as else none
  |_=>none
 |_=>none
noncomputable def BO(sc:Scope)(e:Expr):Option PySem.Str:=
 match e with
 | .Name x _=>if bu sc x then some x else none
 |_=>none
noncomputable def L3(p:CP)(sc:Scope)(n:Nat)(t it:Expr)(ln:Nat)(B:S):S:=
 match t with
 | .Name x _=>if bu sc x then qA (p.code x) λi=>match za p sc 3 it with
   |some as=>.frR i (cL p sc n as) B
   |none=>if jJ it then .bad else .fr ln [i] (cE p sc n it) B
  else .bad
 | .Tuple es _ _=>match es with
  | []=>.bad
  |a::es=>match es with
   | []=>.bad
   |b::es=>if es.isEmpty then qA (BO sc a) λy=>qA (BO sc b) λx=>qA (p.code y) λi=>qA (p.code x) λj=>qA (za p sc 9 it) λas=>match as with
     | []=>.bad
     |q::r=>if r.isEmpty then .frE i j (cE p sc n q) B else .bad
    else .bad
 |_=>.bad
mutual
noncomputable def cS(p:CP)(sc:Scope):Nat->Stmt->S
 |0,_=>.bad
 |n+1,st=>
  match st with
  | .Pass _=>.skip
  | .Break _=>.brk
  | .Continue _=>.cont
  | .Return o _=>match o with
   |none=>.ret (.k .non)
   |some e=>.ret (cE p sc n e)
  | .Expr e _=>if d5 e then .bad else .ex (cE p sc n e)
  | .Assign ts e _=>match ts with
   | []=>.bad
   |t::r=>if r.isEmpty&& !d5 e then L7 p sc n t e else .bad
  | .AugAssign t op e _=>L6 p sc n t op e
  | .If t a b _=>.iff (cE p sc n t) (cB p sc n a) (cB p sc n b)
  | .While t b o pos=>if o.isEmpty then .wh pos.line (cE p sc n t) (cB p sc n b)else .bad
  | .For t it b o pos=>if o.isEmpty then L3 p sc n t it pos.line (cB p sc n b)else .bad
  | .Assert t m _=>if m.isNone then .asrt (cE p sc n t)else .bad
  | .Try _ _ _ _ pos=>.prim pos.line
  |_=>.bad
noncomputable def cB(p:CP)(sc:Scope):Nat->List Stmt->S
 |0,_=>.bad
 |n+1,l=>match l with
  | []=>.skip
  |s::r=>.seq (cS p sc n s) (cB p sc n r)
end
end Mine.A
namespace Mine.A
theorem f4{M:Model}{Γ:PySem.Ctx}{p:Pos}{t:Sem Fin}{fs:List Frame}{s:Shared}{e:End}{s':Shared}(h:Runs M Γ p t fs s e s'):s.toks≤s'.toks:=by
 induction h with
 |done=>exact Nat.le_refl _
 |raise=>exact Nat.le_refl _
 |yield=>exact Nat.le_refl _
 |again _ _ ih=>exact ih
 |rule _ ih=>exact ih
 |«at» _ ih=>exact ih
 |load _ _ ih=>exact ih
 |update _ _ ih=>exact ih
 |loadIfAlive _ ih=>exact ih
 |point _ ih=>exact ih
 |alloc _ ih=>exact ih
 |fresh _ ih=>exact Nat.le_trans (Nat.le_succ _) ih
 |ask _ ih=>exact ih
 |choose _ _ ih=>exact ih
 |os _ ih=>exact ih
 |handled _ ih=>exact ih
 |genState _ _ ih=>exact ih
 |stack _ ih=>exact ih
 |thread _ ih=>exact ih
 |newGen _ ih=>exact ih
 |call _ _ i1 i2=>exact Nat.le_trans i1 i2
 |callSusp _ i1=>exact i1
 |resumeFresh _ _ _ _ i1 i2=>exact Nat.le_trans i1 i2
 |resumeSuspended _ _ _ _ i1 i2=>exact Nat.le_trans i1 i2
 |resumeJustStarted _ _ _ ih=>exact ih
 |resumeThrowFresh _ _ ih=>exact ih
 |resumeRunning _ _ ih=>exact ih
 |resumeFinished _ _ ih=>exact ih
 |segRet _ _ i1 i2=>exact Nat.le_trans i1 i2
 |segGen _ _ i1 i2=>exact Nat.le_trans i1 i2
 |segSuspOut _ _ i1=>exact i1
 |segSuspGen _ _ _ _ i1 i2=>exact Nat.le_trans i1 i2
theorem nQ{M:Model}{Γ:PySem.Ctx}{p:Pos}{g:Nat}{r:Resume}{s:Shared}{res:GenResult}{s':Shared}(h:Wakes M Γ p g r s res s'):s.toks≤s'.toks:=by
 unfold Wakes at h
 split at h
 ·exact h.elim
 ·split at h
  ·obtain⟨e,s₁,h,_,_,rfl⟩:=h;exact(show s.toks≤s₁.toks from(show(s.setGen g .running).toks≤s₁.toks from f4 h))
  ·obtain⟨_,rfl⟩:=h;exact Nat.le_refl _
  ·obtain⟨_,rfl⟩:=h;exact Nat.le_refl _
 ·obtain⟨e,s₁,h,_,_,rfl⟩:=h;exact(show s.toks≤s₁.toks from(show(s.setGen g .running).toks≤s₁.toks from f4 h))
 ·obtain⟨_,rfl⟩:=h;exact Nat.le_refl _
 ·obtain⟨_,rfl⟩:=h;exact Nat.le_refl _
theorem wQ{α:Type}{M:Model}{Γ:PySem.Ctx}{Q:α->Pos->Shared->Prop}{E:Value->Pos->Shared->Prop}:∀(t:Sem α) (p:Pos) (s:Shared) (n:Nat),n≤s.toks->Sem.wp M Γ t (λa p' s'=>n≤s'.toks->Q a p' s') E p s->Sem.wp M Γ t Q E p s:=by
 intro t
 induction t with
 |pure a=>intro p s n hn h;exact h hn
 |raise e=>intro p s n hn h;exact h
 |unsupported _|finish _|yield|fork|await|register=>intro p s n hn h;exact h.elim
 |rule tag k ih=>intro p s n hn h;exact ih _ p s n hn h
 |«at» p' k ih=>intro p s n hn h;exact ih _ p' s n hn h
 |load a part k ih=>intro p s n hn h;obtain⟨o,ho,h⟩:=h;exact⟨o,ho,ih _ p s n hn h⟩
 |update a part f k ih=>intro p s n hn h;exact⟨h.1,ih _ p _ n hn h.2⟩
 |loadIfAlive a k ih=>intro p s n hn h;exact ih _ p s n hn h
 |point l k ih=>intro p s n hn h;exact ih _ p s n hn h
 |alloc o k ih=>intro p s n hn h;exact ih _ p _ n hn h
 |fresh k ih=>intro p s n hn h;exact ih _ p _ n (Nat.le_succ_of_le hn) h
 |ask k ih=>intro p s n hn h;exact ih _ p s n hn h
 |choose src m k ih=>intro p s n hn h;exact⟨h.1,ih _ p _ n hn h.2⟩
 |os q l k ih=>intro p s n hn h;exact ih _ p _ n hn h
 |call c hh g l k ih=>intro p s n hn h;obtain⟨r,s₁,h1,h2⟩:=h;exact⟨r,s₁,h1,ih _ p s₁ n (Nat.le_trans hn (f4 h1)) h2⟩
 |handled own k ih=>intro p s n hn h;exact ih _ p s n hn h
 |genState g k ih=>intro p s n hn h;obtain⟨o,ho,h⟩:=h;exact⟨o,ho,ih _ p s n hn h⟩
 |newGen c k ih=>intro p s n hn h;exact ih _ p _ n hn h
 |resume g r l k ih=>intro p s n hn h;obtain⟨res,s₁,h1,h2⟩:=h;exact⟨res,s₁,h1,ih _ p s₁ n (Nat.le_trans hn (nQ h1)) h2⟩
 |stack k ih=>intro p s n hn h;exact ih _ p s n hn h
 |thread k ih=>intro p s n hn h;exact ih _ p s n hn h
theorem aV{α:Type}{M:Model}{A:Around}{t:Sem α}{Q:α->Shared->Prop}{E:Value->Shared->Prop}{s:Shared}(h0:0<s.toks)(h:wpAny M A t (λa s'=>0<s'.toks->Q a s') E s):wpAny M A t Q E s:=
 λΓ p hΓ=>wQ t p s 1 h0 (h Γ p hΓ)
theorem y5{M:Model}{A:Around}{c:Code}{R:Result->Shared->Prop}{s:Shared}(h0:0<s.toks)(h:codeAny M A c (λr s'=>0<s'.toks->R r s') s):codeAny M A c R s:=
 λΓ p hc hΓ=>(h Γ p hc hΓ).elim λr h=>h.elim λs' h=>⟨r,s',h.1,h.2 (Nat.lt_of_lt_of_le h0 (f4 h.1))⟩
noncomputable def dy(l:List Nat):PySem.Str:=⟨l.toArray⟩
structure Gh where
 F:Addr->Option Obj
 φ:Nat->Option (Addr×List Addr)
noncomputable abbrev Mn(vs:Array Value)(n:Nat):Obj:= {cls:=.type "tuple",data:=.seq vs n}
noncomputable abbrev ME(vs:Array Value)(n:Nat):Obj:= {cls:=.type "list",data:=.seq vs n}
noncomputable abbrev j2(C:Addr)(dx:Option Addr):Obj:= {cls:=.ref C,dict:=dx,data:=.plain}
noncomputable abbrev xW(f a:Addr):Obj:= {cls:=.type "method",data:=.fields #[.ref f,.ref a]}
noncomputable def cQ(T:String)(o:Obj)(vs:List Value):Prop:=∃n,o= {cls:=.type T,data:=.seq vs.toArray n}
noncomputable def gD{K:Type}[DecidableEq K]{prog:Program}{w:World}(knd:KeyKind prog w K)(o:Obj)(kvs:List (K×Value)):Prop:=
 ∃es ep,o.ExactDict∧o.data=.dict es ep∧KeysOf knd es∧Pairs knd es.toList kvs∧(kvs.map (·.1)).Nodup
section
variable (prog:Program) (w:World)
mutual
inductive RF (F:Addr->Option Obj):Value->FV->Prop
 |non:RF F .none .non
 |bol (b:Bool):RF F (.bool b) (.bol b)
 |int (i:Int) (t:Tok):RF F (.int i t) (.int i)
 |str (l:List Nat) (t:Tok) (b:l.length≤16777216):RF F (.str ⟨l.toArray⟩ t) (.str l)
 |tup {a:Addr} {vs:List Value} {o:Obj} {l:List FV}:F a=some o->cQ "tuple" o vs->bv F vs l->l.length≤16777216->RF F (.ref a) (.tup l)
 |lst {a:Addr} {vs:List Value} {o:Obj} {l:List FV}:F a=some o->cQ "list" o vs->bv F vs l->l.length≤16777216->RF F (.ref a) (.lst l)
 |dct {a:Addr} {o:Obj} {kvs:List (PySem.Str×Value)} {l:List (List Nat×FV)}:F a=some o->a≠sysModules->gD (strKind prog w) o kvs->i6 F kvs l->l.length≤16777216->RF F (.ref a) (.dct l)
inductive bv (F:Addr->Option Obj):List Value->List FV->Prop
 |nil:bv F [] []
 |cons {v:Value} {vs:List Value} {f:FV} {l:List FV}:RF F v f->bv F vs l->bv F (v::vs) (f::l)
inductive i6 (F:Addr->Option Obj):List (PySem.Str×Value)->List (List Nat×FV)->Prop
 |nil:i6 F [] []
 |cons {v:Value} {vs:List (PySem.Str×Value)} {k:List Nat} {f:FV} {l:List (List Nat×FV)}:RF F v f->i6 F vs l->i6 F ((dy k,v)::vs) ((k,f)::l)
end
end
noncomputable def Sub(F F':Addr->Option Obj):Prop:=∀a o,F a=some o->F' a=some o
section
variable {prog:Program} {w:World}
theorem RF.mono{F F':Addr->Option Obj}(h:Sub F F'){v:Value}{f:FV}(r:RF prog w F v f):RF prog w F' v f:=
 RF.rec (motive_1:=λv f _=>RF prog w F' v f) (motive_2:=λv f _=>bv prog w F' v f) (motive_3:=λv f _=>i6 prog w F' v f)
  .non .bol .int .str (λe q _ b ih=>.tup (h _ _ e) q ih b) (λe q _ b ih=>.lst (h _ _ e) q ih b) (λe n q _ b ih=>.dct (h _ _ e) n q ih b) .nil (λ_ _ a r=>.cons a r) .nil (λ_ _ a r=>.cons a r) r
theorem bv.mono{F F':Addr->Option Obj}(h:Sub F F'){v:List Value}{f:List FV}(r:bv prog w F v f):bv prog w F' v f:=
 bv.rec (motive_1:=λv f _=>RF prog w F' v f) (motive_2:=λv f _=>bv prog w F' v f) (motive_3:=λv f _=>i6 prog w F' v f)
  .non .bol .int .str (λe q _ b ih=>.tup (h _ _ e) q ih b) (λe q _ b ih=>.lst (h _ _ e) q ih b) (λe n q _ b ih=>.dct (h _ _ e) n q ih b) .nil (λ_ _ a r=>.cons a r) .nil (λ_ _ a r=>.cons a r) r
theorem i6.mono{F F':Addr->Option Obj}(h:Sub F F'){v:List (PySem.Str×Value)}{f:List (List Nat×FV)}(r:i6 prog w F v f):i6 prog w F' v f:=
 i6.rec (motive_1:=λv f _=>RF prog w F' v f) (motive_2:=λv f _=>bv prog w F' v f) (motive_3:=λv f _=>i6 prog w F' v f)
  .non .bol .int .str (λe q _ b ih=>.tup (h _ _ e) q ih b) (λe q _ b ih=>.lst (h _ _ e) q ih b) (λe n q _ b ih=>.dct (h _ _ e) n q ih b) .nil (λ_ _ a r=>.cons a r) .nil (λ_ _ a r=>.cons a r) r
end
section
variable {prog:Program} {w:World} {F:Addr->Option Obj} {v:Value} {vs:List Value}
inductive AI (v:Value) (l:List Nat):Prop
 |mk (t:Tok) (e:v=.str ⟨l.toArray⟩ t) (b:l.length≤16777216)
inductive AJ (prog:Program) (w:World) (F:Addr->Option Obj) (n:String) (v:Value) (l:List FV):Prop
 |mk (a:Addr) (vs:List Value) (o:Obj) (e:v=.ref a) (h:F a=some o) (q:cQ n o vs) (r:bv prog w F vs l) (b:l.length≤16777216)
inductive Ia (prog:Program) (w:World) (F:Addr->Option Obj) (v:Value) (l:List (List Nat×FV)):Prop
 |mk (a:Addr) (o:Obj) (kvs:List (PySem.Str×Value)) (e:v=.ref a) (h:F a=some o) (n:a≠sysModules) (q:gD (strKind prog w) o kvs) (r:i6 prog w F kvs l) (b:l.length≤16777216)
noncomputable def MM(prog:Program)(w:World)(F:Addr->Option Obj)(v:Value)(f:FV):Prop:=match f with
 | .non=>v=.none
 | .bol b=>v=.bool b
 | .int i=>∃t,v=.int i t
 | .str l=>AI v l
 | .tup l=>AJ prog w F "tuple" v l
 | .lst l=>AJ prog w F "list" v l
 | .dct l=>Ia prog w F v l
theorem RF.x{f:FV}(h:RF prog w F v f):MM prog w F v f:=by
 cases h with
 |non=>exact rfl
 |bol b=>exact rfl
 |int i t=>exact⟨t,rfl⟩
 |str l t b=>exact⟨t,rfl,b⟩
 |tup e q r b=>exact⟨_,_,_,rfl,e,q,r,b⟩
 |lst e q r b=>exact⟨_,_,_,rfl,e,q,r,b⟩
 |dct e n q r b=>exact⟨_,_,_,rfl,e,n,q,r,b⟩
theorem LH{P:Prop}(h:true=false):P:=by cases h
theorem bU{P:Prop}(h:false=true):P:=by cases h
theorem ax{α:Type}{a:α}{P:Prop}(h:none=some a):P:=by cases h
theorem Ld{f:FV}{i:Int}(e:Mine.A.aI f=some i):f=.int i:=by
 induction f using FV.casesOn with
 |int j=>exact congrArg FV.int (Option.some.inj e)
 |_=>exact ax e
theorem Dd{f:FV}{l:List FV}(e:aT f=some l):f=.tup l:=by
 induction f using FV.casesOn with
 |tup j=>exact congrArg FV.tup (Option.some.inj e)
 |_=>exact ax e
theorem pM{f:FV}{l:List FV}(e:aL f=some l):f=.lst l:=by
 induction f using FV.casesOn with
 |lst j=>exact congrArg FV.lst (Option.some.inj e)
 |_=>exact ax e
theorem s8{f:FV}{l:List Nat}(e:Mine.A.aS f=some l):f=.str l:=by
 induction f using FV.casesOn with
 |str j=>exact congrArg FV.str (Option.some.inj e)
 |_=>exact ax e
theorem RF.aI{f:FV}{i:Int}(h:RF prog w F v f)(e:Mine.A.aI f=some i):∃t,v=.int i t:=(Ld e▸h:RF prog w F v (.int i)).x
theorem RF.aS{f:FV}{l:List Nat}(h:RF prog w F v f)(e:Mine.A.aS f=some l):AI v l:=(s8 e▸h:RF prog w F v (.str l)).x
theorem cm{α β:Type}{o:Option α}{f:α->β}{b:β}(h:ed o f=some b):∃a,o=some a∧f a=b:=by
 induction o using Option.casesOn with
 |none=>exact ax h
 |some a=>exact⟨a,rfl,Option.some.inj h⟩
theorem aw{α β:Type}{o:Option α}{f:α->Option β}{b:β}(h:az o f=some b):∃a,o=some a∧f a=some b:=by
 induction o using Option.casesOn with
 |none=>exact ax h
 |some a=>exact⟨a,rfl,h⟩
theorem rY{α:Type}{l:List α}{a:α}(h:o1 l=some a):l=[a]:=by
 induction l using List.casesOn with
 |nil=>exact ax h
 |cons b t=>
  induction t using List.casesOn with
  |nil=>exact congrArg (λx=>[x]) (Option.some.inj h)
  |cons _ _=>exact ax h
theorem mh{x:V}{f:FV}(h:aC x=some f):x=.c f:=by
 induction x using V.casesOn with
 |c g=>exact congrArg V.c (Option.some.inj h)
 |_=>exact ax h
theorem Az{x:V}{i:Nat}(h:La x=some i):x=.ob i:=by
 induction x using V.casesOn with
 |ob g=>exact congrArg V.ob (Option.some.inj h)
 |_=>exact ax h
theorem pL{o:Option AO}{l:List FV}(h:gj o=some l):o=some (.lst l):=by
 obtain⟨o,rfl,h⟩:=aw h
 induction o using AO.casesOn with
 |lst m=>exact congrArg (λl=>some (AO.lst l)) (Option.some.inj h)
 |_=>exact ax h
theorem Df{o:Option AO}{p:Nat×List (Nat×V)}(h:zh o=some p):o=some (.inst p.1 p.2):=by
 obtain⟨o,rfl,h⟩:=aw h
 induction o using AO.casesOn with
 |inst C d=>obtain rfl:=Option.some.inj h;rfl
 |_=>exact ax h
theorem RF.aCh{f:FV}{c:Nat}(h:RF prog w F v f)(e:Mine.A.aCh f=some c):∃t,v=.str ⟨[c].toArray⟩ t:=by
 cases e':Mine.A.aS f with
 |none=>unfold Mine.A.aCh at e;rw [e'] at e;exact ax e
 |some l=>
  unfold Mine.A.aCh at e;replace e:=e'▸e
  have e:o1 l=some c:=e
  obtain rfl:=rY e
  obtain⟨t,rfl,_⟩:=h.aS e'
  exact⟨t,rfl⟩
inductive H9 (prog:Program) (w:World) (F:Addr->Option Obj) (vs:List Value) (f:FV) (l:List FV):Prop
 |mk (v:Value) (r:List Value) (e:vs=v::r) (h:RF prog w F v f) (t:bv prog w F r l)
theorem bv.inv{vs:List Value}{l:List FV}(h:bv prog w F vs l):match (generalizing:=false) l with| []=>vs=[]|f::l=>H9 prog w F vs f l:=by
 cases h with
 |nil=>rfl
 |cons a r=>exact⟨_,_,rfl,a,r⟩
theorem bv.one{l:List FV}{f:FV}(h:bv prog w F vs l)(e:o1 l=some f):∃v,vs=[v]∧RF prog w F v f:=by
 obtain rfl:=rY e
 obtain⟨v,r,rfl,hv,hr⟩:=h.inv
 obtain rfl:=hr.inv
 exact⟨v,rfl,hv⟩
theorem Bz{l:List FV}{k:FV->FV->FV->Prop}(e:Mine.A.opt3 l k):∃f g z,l=[f,g,z]∧k f g z:=by
 induction l using List.casesOn with
 |nil=>exact e.elim
 |cons f t=>
  induction t using List.casesOn with
  |nil=>exact e.elim
  |cons g t=>
   have e:ai (o1 t) λc=>k f g c:=e
   cases e':o1 t with
   |none=>rw [e'] at e;exact e.elim
   |some z=>exact⟨f,g,z,by rw [rY e'],by rw [e'] at e;exact e⟩
theorem bv.opt3{l:List FV}{k:FV->FV->FV->Prop}(h:bv prog w F vs l)(e:Mine.A.opt3 l k):∃x f u g q z,vs=[x,u,q]∧RF prog w F x f∧RF prog w F u g∧RF prog w F q z∧k f g z:=by
 refine cps λQz qz=> ?_
 obtain⟨f,g,z,rfl,e⟩:=Bz e
 obtain⟨v,r,rfl,hv,h1⟩:=h.inv
 obtain⟨u,r,rfl,hu,h2⟩:=h1.inv
 obtain⟨q,rfl,hq⟩:=h2.one rfl
 refine qz ?_
 exact⟨v,f,u,g,q,z,rfl,hv,hu,hq,e⟩
end
noncomputable def RV(prog:Program)(w:World)(g:Gh)(v:Value):V->Prop
 | .c f=>RF prog w g.F v f
 | .ob i=>∃a ft,g.φ i=some (a,ft)∧v=.ref a
 | .st a=>v=.ref a
 | .mth f i=>∃q a ft,v=.ref q∧g.F q=some (xW f a)∧g.φ i=some (a,ft)
inductive eE (prog:Program) (w:World) (g:Gh):List Value->List V->Prop
 |nil:eE prog w g [] []
 |cons {v:Value} {vs:List Value} {f:V} {l:List V}:RV prog w g v f->eE prog w g vs l->eE prog w g (v::vs) (f::l)
inductive H8 (prog:Program) (w:World) (g:Gh) (vs:List Value) (f:V) (l:List V):Prop
 |mk (v:Value) (r:List Value) (e:vs=v::r) (h:RV prog w g v f) (t:eE prog w g r l)
theorem eE.inv{prog:Program}{w:World}{g:Gh}{vs:List Value}{l:List V}(h:eE prog w g vs l):match (generalizing:=false) l with| []=>vs=[]|f::l=>H8 prog w g vs f l:=by
 cases h with
 |nil=>rfl
 |cons a r=>exact⟨_,_,rfl,a,r⟩
theorem eE.one{prog:Program}{w:World}{g:Gh}{vs:List Value}{l:List V}{f:V}(h:eE prog w g vs l)(e:o1 l=some f):∃v,vs=[v]∧RV prog w g v f:=by
 obtain rfl:=rY e
 obtain⟨v,r,rfl,hv,hr⟩:=h.inv
 obtain rfl:=hr.inv
 exact⟨v,rfl,hv⟩
inductive RD (prog:Program) (w:World) (g:Gh):List (PySem.Str×Value)->List (List Nat×V)->Prop
 |nil:RD prog w g [] []
 |cons {v:Value} {vs:List (PySem.Str×Value)} {k:List Nat} {f:V} {l:List (List Nat×V)}:RV prog w g v f->RD prog w g vs l->RD prog w g ((dy k,v)::vs) ((k,f)::l)
inductive RI (prog:Program) (w:World) (nm:Nat->PySem.Str) (g:Gh):List DictEntry->List (Nat×V)->Prop
 |nil:RI prog w nm g [] []
 |cons {e:DictEntry} {es:List DictEntry} {n:Nat} {t:Tok} {f:V} {l:List (Nat×V)}:e.key=.str (nm n) t->RV prog w g e.val f->RI prog w nm g es l->RI prog w nm g (e::es) ((n,f)::l)
structure Le (b:Bool) (g g':Gh):Prop where
 F:Sub g.F g'.F
 φ:∀i a ft,g.φ i=some (a,ft)->(b=true->i≠32∧i≠33)->∃ft',g'.φ i=some (a,ft')
theorem Le.refl(b:Bool)(g:Gh):Le b g g:=⟨λ_ _ e=>e,λ_ _ ft e _=>⟨ft,e⟩⟩
theorem Le.trans{b c:Bool}{g g₁ g₂:Gh}(h:Le b g g₁)(k:Le c g₁ g₂):Le (b||c) g g₂:=
 ⟨λa o e=>k.F a o (h.F a o e),λi a ft e n=>by
  obtain⟨ft',e'⟩:=h.φ i a ft e (λx=>n (by refine x.symm▸ ?_;rfl))
  exact k.φ i a ft' e' (λx=>n (by refine x.symm▸ ?_;exact Bool.or_true b))⟩
theorem Le.f{g g':Gh}(h:Le false g g'){i:Nat}{a:Addr}{ft:List Addr}(e:g.φ i=some (a,ft)):∃ft',g'.φ i=some (a,ft'):=h.φ i a ft e λx=>bU x
theorem RV.mono{prog:Program}{w:World}{g g':Gh}(h:Le false g g'){v:Value}{x:V}(r:RV prog w g v x):RV prog w g' v x:=by
 induction x using V.casesOn with
 |c _=>exact RF.mono h.F r
 |ob i=>obtain⟨a,ft,e,q⟩:=r;obtain⟨ft',e'⟩:=h.f e;exact⟨a,ft',e',q⟩
 |st _=>exact r
 |mth _ i=>obtain⟨q,a,ft,e,k,p⟩:=r;obtain⟨ft',e'⟩:=h.f p;exact⟨q,a,ft',e,h.F _ _ k,e'⟩
theorem eE.mono{prog:Program}{w:World}{g g':Gh}(h:Le false g g'){vs:List Value}{l:List V}(r:eE prog w g vs l):eE prog w g' vs l:=by
 induction r with
 |nil=>exact .nil
 |cons a _ ih=>exact .cons (a.mono h) ih
theorem RD.mono{prog:Program}{w:World}{g g':Gh}(h:Le false g g'){vs:List (PySem.Str×Value)}{l:List (List Nat×V)}(r:RD prog w g vs l):RD prog w g' vs l:=by
 induction r with
 |nil=>exact .nil
 |cons a _ ih=>exact .cons (a.mono h) ih
theorem RI.mono{prog:Program}{w:World}{nm:Nat->PySem.Str}{g g':Gh}(h:Le false g g'){vs:List DictEntry}{l:List (Nat×V)}(r:RI prog w nm g vs l):RI prog w nm g' vs l:=by
 induction r with
 |nil=>exact .nil
 |cons a c _ ih=>exact .cons a (c.mono h) ih
noncomputable def RO(prog:Program)(w:World)(nm:Nat->PySem.Str)(g:Gh)(h:Heap)(a:Addr)(ft:List Addr):AO->Prop
 | .lst l=>ft=[a]∧∃o vs,h.get? a=some o∧cQ "list" o vs∧bv prog w g.F vs l∧l.length≤16777216
 | .dct l=>ft=[a]∧∃o kvs,h.get? a=some o∧a≠sysModules∧gD (strKind prog w) o kvs∧RD prog w g kvs l∧l.length≤16777216
 | .inst C d=>∃dx es n,ft=[a,dx]∧a≠dx∧h.get? a=some (j2 C (some dx))∧h.get? dx=some (dictOf es n)∧RI prog w nm g es d
 | .frz f=>ft=[]∧RF prog w g.F (.ref a) f
theorem RO.step{prog:Program}{w:World}{nm:Nat->PySem.Str}{g g':Gh}{h h':Heap}{a:Addr}{ft:List Addr}(L:Le false g g')(k:∀x∈ft,∀o,h.get? x=some o->h'.get? x=some o)
  {o:AO} (r:RO prog w nm g h a ft o):RO prog w nm g' h' a ft o:=by
 induction o using AO.casesOn with
 |lst _=>obtain⟨e,o,vs,q,z,r,b⟩:=r;exact⟨e,o,vs,k a (e▸ .head _) _ q,z,bv.mono L.F r,b⟩
 |dct _=>obtain⟨e,o,kvs,q,z,d,r,b⟩:=r;exact⟨e,o,kvs,k a (e▸ .head _) _ q,z,d,r.mono L,b⟩
 |inst _ _=>obtain⟨dx,es,n,e,ne,q,q',r⟩:=r;exact⟨dx,es,n,e,ne,k a (e▸ .head _) _ q,k dx (e▸ .tail _ (.head _)) _ q',r.mono L⟩
 |frz _=>exact⟨r.1,r.2.mono L.F⟩
structure Cx where
 prog:Program
 w:World
 nm:Nat->PySem.Str
 inj:∀i j,nm i=nm j->i=j
 base:Heap
 big:2≤base.objs.size
noncomputable def bZ(g:Gh)(x:Addr):Prop:=∃i a ft,g.φ i=some (a,ft)∧x∈ft
structure al (c:Cx) (g:Gh) (L:Addr) (σ:St) (s:Shared):Prop where
 frz:∀a o,g.F a=some o->s.heap.get? a=some o
 obs:∀i o,lk i σ.H=some o->∃a ft,g.φ i=some (a,ft)∧RO c.prog c.w c.nm g s.heap a ft o
 sep:∀i j a ft b ft',g.φ i=some (a,ft)->g.φ j=some (b,ft')->i≠j->∀x∈ft,x∉ft'
 off:∀x,bZ g x->g.F x=none∧x≠L∧∃o,s.heap.get? x=some o
 nL:g.F L=none
 loc:∃m,s.heap.Ns L m∧∀n v,lk n σ.L=some v->∃w,m (c.nm n)=some w∧RV c.prog c.w g w v
 new:∀i,σ.m≤i->g.φ i=none
 m64:64≤σ.m
 dom:∀i p,g.φ i=some p->i<64->∃o,lk i σ.H=some o
 base:∀a o,c.base.get? a=some o->g.F a=some o
 Lb:c.base.objs.size≤L
 tk:0<s.toks
theorem al.ob{c:Cx}{g:Gh}{L:Addr}{σ:St}{s:Shared}{i:Nat}{a:Addr}{ft:List Addr}{o:AO}(r:al c g L σ s)(e:g.φ i=some (a,ft))(q:lk i σ.H=some o):RO c.prog c.w c.nm g s.heap a ft o:=
 (r.obs i o q).elim λ_ h=>h.elim λ_ h=>by cases Option.some.inj (e.symm.trans h.1);exact h.2
structure GK (a b:Array GenState):Prop where
 old:∀(i:Nat) (q:GenState),a[i]? =some q->b[i]? =some q
 new:∀(i:Nat) (q:GenState),b[i]? =some q->a[i]? =some q∨q.bare=true
theorem GK.refl(a:Array GenState):GK a a:=⟨λ_ _ e=>e,λ_ _ e=>.inl e⟩
theorem GK.trans{a b c:Array GenState}(x:GK a b)(y:GK b c):GK a c:=
 ⟨λi q e=>y.old i q (x.old i q e),λi q e=>(y.new i q e).elim (x.new i q) .inr⟩
structure a8 (b:Bool) (L:Addr) (g:Gh) (s:Shared) (g':Gh) (s':Shared):Prop where
 le:Le b g g'
 keep:∀x o,s.heap.get? x=some o->x≠L->¬bZ g x->s'.heap.get? x=some o
 fp:∀x,bZ g' x->bZ g x∨s.heap.get? x=none
 fF:∀x o,g'.F x=some o->g.F x=some o∨bZ g x∨s.heap.get? x=none
 gens:GK s.gens s'.gens
 os:s'.os=s.os
 drawn:s'.drawn=s.drawn
theorem a8.refl(b:Bool)(L:Addr)(g:Gh)(s:Shared):a8 b L g s g s:=
 ⟨.refl b g,λ_ _ e _ _=>e,λ_ h=>.inl h,λ_ _ h=>.inl h,GK.refl _,rfl,rfl⟩
theorem dW{h h':Heap}{x:Addr}(k:∀o,h.get? x=some o->∃o',h'.get? x=some o')(e:h'.get? x=none):h.get? x=none:=by
 cases q:h.get? x with
 |none=>rfl
 |some o=>obtain⟨o',q'⟩:=k o q;rw [e] at q';exact ax q'
theorem a8.trans'{b d:Bool}{c:Cx}{L:Addr}{g g₁ g₂:Gh}{σ₁:St}{s s₁ s₂:Shared}(r₁:al c g₁ L σ₁ s₁)(x:a8 b L g s g₁ s₁)(y:a8 d L g₁ s₁ g₂ s₂):a8 (b||d) L g s g₂ s₂:=by
 have out:∀z,s₁.heap.get? z=none->bZ g z∨s.heap.get? z=none:=λz e=>by
  by_cases hz:bZ g z
  ·exact .inl hz
  ·refine .inr ?_
   cases q:s.heap.get? z with
   |none=>rfl
   |some o=>
    by_cases hl:z=L
    ·obtain⟨m,⟨oL,_,_,hL,_⟩,_⟩:=r₁.loc
     rw [←hl,e] at hL;exact ax hL
    ·replace e:=(x.keep z o q hl hz)▸e;cases e
 refine⟨x.le.trans y.le,λz o e hl hz=>y.keep z o (x.keep z o e hl hz) hl λhf=> ?_,λz hz=> ?_,λz o hz=> ?_,x.gens.trans y.gens,y.os.trans x.os,y.drawn.trans x.drawn⟩
 ·rcases x.fp z hf with h|h
  ·exact hz h
  ·replace h:=e▸h;cases h
 ·rcases y.fp z hz with h|h
  ·exact x.fp z h
  ·exact out z h
 ·rcases y.fF z o hz with h|h|h
  ·exact x.fF z o h
  ·exact .inr (x.fp z h)
  ·exact .inr (out z h)
theorem a8.trans{b d:Bool}{c:Cx}{L:Addr}{g g₁ g₂:Gh}{σ σ₁:St}{s s₁ s₂:Shared}(_:al c g L σ s)(r₁:al c g₁ L σ₁ s₁)(x:a8 b L g s g₁ s₁)(y:a8 d L g₁ s₁ g₂ s₂):a8 (b||d) L g s g₂ s₂:=a8.trans' r₁ x y
end Mine.A
namespace Mine.A
theorem fX(n:Nat):Nat.beq n n=true:=Nat.beq_refl n
theorem jU{n m:Nat}(h:n≠m):Nat.beq n m=false:=by
 cases e:Nat.beq n m with
 |false=>rfl
 |true=>exact absurd (Nat.eq_of_beq_eq_true e) h
section
variable {α:Type}
theorem JS(n:Nat):lk n ([]:List (Nat×α))=none:=rfl
theorem aj(n:Nat)(p:Nat×α)(l:List (Nat×α)):lk n (p::l)=if n=p.1 then some p.2 else lk n l:=by
 show(Bool.rec (lk n l) (some p.2) (Nat.beq n p.1):Option α)=_
 by_cases h:n=p.1
 ·rw [if_pos h,h,fX]
 ·rw [if_neg h,jU h]
theorem mU(n:Nat)(v:α)(p:Nat×α)(l:List (Nat×α)):put n v (p::l)=if n=p.1 then(n,v)::l else p::put n v l:=by
 show(Bool.rec (p::put n v l) ((n,v)::l) (Nat.beq n p.1):List (Nat×α))=_
 by_cases h:n=p.1
 ·rw [if_pos h,h,fX]
 ·rw [if_neg h,jU h]
theorem af(n m:Nat)(v:α):∀l:List (Nat×α),lk n (put m v l)=if n=m then some v else lk n l:=by
 intro l
 induction l with
 |nil=>
  show lk n [(m,v)]=_
  rw [aj]
 |cons p l ih=>
  rw [mU]
  by_cases h:m=p.1
  ·rw [if_pos h,aj,aj]
   by_cases k:n=m
   ·simp [k]
   ·rw [if_neg k,if_neg k,if_neg (by refine h▸ ?_;exact k)]
  ·rw [if_neg h,aj,aj,ih]
   by_cases k:n=p.1
   ·rw [if_pos k,if_pos k,if_neg (by refine k▸ ?_;exact λe=>h e.symm)]
   ·rw [if_neg k,if_neg k]
end
noncomputable def Gh.at(g:Gh)(i:Nat)(p:Addr×List Addr):Gh:=⟨g.F,λj=>if j=i then some p else g.φ j⟩
theorem Gh.at_self{g:Gh}{i:Nat}{p:Addr×List Addr}:(g.at i p).φ i=some p:=if_pos rfl
theorem Gh.at_ne{g:Gh}{i j:Nat}{p:Addr×List Addr}(h:¬j=i):(g.at i p).φ j=g.φ j:=if_neg h
noncomputable def Gh.add(g:Gh)(a:Addr)(o:Obj):Gh:=⟨λb=>if b=a then some o else g.F b,g.φ⟩
variable {c:Cx} {g:Gh} {L:Addr} {σ:St} {s:Shared}
theorem bZ.at_{i:Nat}{p:Addr×List Addr}{x:Addr}(h:bZ (g.at i p) x):x∈p.2∨∃j a ft,j≠i∧g.φ j=some (a,ft)∧x∈ft:=by
 refine cps λQz qz=> ?_
 obtain⟨j,a,ft,e,hx⟩:=h
 refine qz ?_
 by_cases hj:j=i
 ·have:some p=some (a,ft):=Gh.at_self.symm.trans (hj▸e)
  obtain rfl:=Option.some.inj this;exact .inl hx
 ·exact .inr ⟨j,a,ft,hj,(Gh.at_ne hj).symm.trans e,hx⟩
theorem al.lt(r:al c g L σ s){i:Nat}{p:Addr×List Addr}(h:g.φ i=some p):i<σ.m:=by
 rcases Nat.lt_or_ge i σ.m with k|k
 ·exact k
 ·rw [r.new i k] at h;exact ax h
theorem al.L_there(r:al c g L σ s):∃o,s.heap.get? L=some o:=by
 refine cps λQz qz=> ?_
 obtain⟨m,⟨oL,_,_,hL,_⟩,_⟩:=r.loc
 refine qz ?_
 exact⟨oL,hL⟩
theorem eh{h h':Heap}{L:Addr}{m:PySem.Str->Option Value}(k:∀o,h.get? L=some o->h'.get? L=some o)(N:h.Ns L m):h'.Ns L m:=by
 obtain⟨o,es,ep,e,r⟩:=N
 exact⟨o,es,ep,k o e,r⟩
theorem al.free(r:al c g L σ s){x:Addr}(e:s.heap.get? x=none):g.F x=none∧x≠L∧¬bZ g x:=by
 refine⟨?_,λq=> ?_,λq=> ?_⟩
 ·cases z:g.F x with
  |none=>rfl
  |some o=>have w:=r.frz x o z;rw [e] at w;exact ax w
 ·obtain⟨o,w⟩:=r.L_there;rw [←q,e] at w;exact ax w
 ·obtain⟨_,_,o,w⟩:=r.off x q;rw [e] at w;exact ax w
theorem al.toks(r:al c g L σ s){n:Nat}(h:0<n):al c g L σ {s with toks:=n}:=⟨r.frz,r.obs,r.sep,r.off,r.nL,r.loc,r.new,r.m64,r.dom,r.base,r.Lb,h⟩
theorem al.tok1(r:al c g L σ s):al c g L σ {s with toks:=s.toks+1}:=r.toks (Nat.succ_pos _)
theorem al.tok2(r:al c g L σ s):al c g L σ {s with toks:=s.toks+1+1}:=r.toks (Nat.succ_pos _)
theorem a8.toks(b:Bool)(n:Nat):a8 b L g s g {s with toks:=n}:=⟨.refl b g,λ_ _ e _ _=>e,λ_ h=>.inl h,λ_ _ h=>.inl h,GK.refl _,rfl,rfl⟩
theorem al.change(r:al c g L σ s){i:Nat}{a:Addr}{ft ft':List Addr}{h':Heap}{o':AO}{tk:Nat}(ht:0<tk)(hi:g.φ i=some (a,ft))
  (hk:∀x o,x≠L->s.heap.get? x=some o->x∉ft->h'.get? x=some o) (hf:∀x∈ft',x∈ft∨s.heap.get? x=none) (hx:∀x∈ft',∃o,h'.get? x=some o)
  (hloc:∃m,h'.Ns L m∧∀n v,lk n σ.L=some v->∃w,m (c.nm n)=some w∧RV c.prog c.w g w v)
  (ho:RO c.prog c.w c.nm (g.at i (a,ft')) h' a ft' o'):
  al c (g.at i (a,ft')) L (aR σ (put i o' σ.H)) {s with heap:=h',toks:=tk}∧a8 false L g s (g.at i (a,ft')) {s with heap:=h',toks:=tk}:=by
 have le:Le false g (g.at i (a,ft')):=⟨λ_ _ e=>e,λj b fb e _=>by
  by_cases q:j=i
  ·subst q;replace e:=hi▸e;cases e;exact⟨ft',by exact Gh.at_self⟩
  ·exact⟨fb,(Gh.at_ne (q)).trans e⟩⟩
 have offi:∀x∈ft,g.F x=none∧x≠L∧∃o,s.heap.get? x=some o:=λx hx=>r.off x ⟨i,a,ft,hi,hx⟩
 refine⟨⟨λx o e=>hk x o (λq=>by have e:g.F x=some o:=e;rw [q,r.nL] at e;exact ax e) (r.frz x o e) λq=> ?_,λj o hj=> ?_,λj k b fb d fd hj hk' hne x hx1 hx2=> ?_,λx hx'=> ?_,r.nL, ?_,λj hj=> ?_,r.m64,λj p hj _=> ?_,r.base,r.Lb,ht⟩,
  ⟨le,λx o e hl hn=>hk x o hl e λq=>hn ⟨i,a,ft,hi,q⟩,λx hx'=> ?_,λx o e=>.inl e,GK.refl _,rfl,rfl⟩⟩
 ·have:=(offi x q).1;have e:g.F x=some o:=e;replace this:=e▸this;cases this
 ·have hj':lk j (put i o' σ.H)=some o:=hj
  rw [af] at hj'
  by_cases q:j=i
  ·rw [if_pos q] at hj';obtain rfl:=Option.some.inj hj';exact⟨a,ft',by refine q▸ ?_;exact Gh.at_self,ho⟩
  ·rw [if_neg q] at hj'
   obtain⟨b,fb,e,ro⟩:=r.obs j o hj'
   refine⟨b,fb,(Gh.at_ne (q)).trans e,ro.step le λx hx o e'=>hk x o (r.off x ⟨j,b,fb,e,hx⟩).2.1 e' λz=> ?_⟩
   exact r.sep i j a ft b fb hi e (λw=>q w.symm) x z hx
 ·by_cases q:j=i<;>by_cases q':k=i
  ·exact hne (q.trans q'.symm)
  ·have e1:some (a,ft')=some (b,fb):=Gh.at_self.symm.trans (q▸hj)
   have e2:g.φ k=some (d,fd):=(Gh.at_ne q').symm.trans hk'
   cases e1
   rcases hf x hx1 with z|z
   ·exact r.sep i k a ft d fd hi e2 (λw=>q' w.symm) x z hx2
   ·obtain⟨o,y⟩:=(r.off x ⟨k,d,fd,e2,hx2⟩).2.2;rw [z] at y;exact ax y
  ·have e1:g.φ j=some (b,fb):=(Gh.at_ne q).symm.trans hj
   have e2:some (a,ft')=some (d,fd):=Gh.at_self.symm.trans (q'▸hk')
   cases e2
   rcases hf x hx2 with z|z
   ·exact r.sep j i b fb a ft e1 hi q x hx1 z
   ·obtain⟨o,y⟩:=(r.off x ⟨j,b,fb,e1,hx1⟩).2.2;rw [z] at y;exact ax y
  ·have e1:g.φ j=some (b,fb):=(Gh.at_ne q).symm.trans hj
   have e2:g.φ k=some (d,fd):=(Gh.at_ne q').symm.trans hk'
   exact r.sep j k b fb d fd e1 e2 hne x hx1 hx2
 ·rcases hx'.at_ with z|⟨j,b,fb,hj,e,z⟩
  ·rcases hf x z with y|y
   ·exact⟨(offi x y).1,(offi x y).2.1,hx x z⟩
   ·exact⟨(r.free y).1,(r.free y).2.1,hx x z⟩
  ·obtain⟨u,v,o,w⟩:=r.off x ⟨j,b,fb,e,z⟩
   exact⟨u,v,o,hk x o v w λq=>r.sep i j a ft b fb hi e (λw=>hj w.symm) x q z⟩
 ·obtain⟨m,N,hm⟩:=hloc
  exact⟨m,N,λn v e=>(hm n v e).elim λw e=>⟨w,e.1,e.2.mono le⟩⟩
 ·have:j≠i:=λq=>by have:=r.lt hi;replace hj:=q▸hj;exact Nat.lt_irrefl _ (Nat.lt_of_lt_of_le this hj)
  show(if j=i then _ else g.φ j)=none
  refine(if_neg this)▸ ?_;exact r.new j hj
 ·show∃o,lk j (put i o' σ.H)=some o
  rw [af]
  by_cases q:j=i
  ·exact⟨o',by rw [if_pos q]⟩
  ·rw [if_neg q];rename_i h64;exact r.dom j p ((Gh.at_ne q).symm.trans hj) h64
 ·rcases hx'.at_ with z|⟨j,b,fb,_,e,z⟩
  ·rcases hf x z with y|y
   ·exact .inl ⟨i,a,ft,hi,y⟩
   ·exact .inr y
  ·exact .inl ⟨j,b,fb,e,z⟩
theorem aE{h:Heap}{x:Addr}(e:h.objs.size≤x):h.get? x=none:=by
 cases q:h.get? x with
 |none=>rfl
 |some o=>exact absurd (Heap.lt_size q) (Nat.not_lt.mpr e)
theorem al.alloc(r:al c g L σ s){o:Obj}{o':AO}(hfree:o.isFreed=false)
  (ho:RO c.prog c.w c.nm (g.at σ.m (s.heap.objs.size,[s.heap.objs.size])) (s.heap.push o) s.heap.objs.size [s.heap.objs.size] o'):
  al c (g.at σ.m (s.heap.objs.size,[s.heap.objs.size])) L ⟨σ.L,(σ.m,o')::σ.H,σ.m+1,σ.vl⟩ {s with heap:=s.heap.push o}∧
  a8 false L g s (g.at σ.m (s.heap.objs.size,[s.heap.objs.size])) {s with heap:=s.heap.push o}:=by
 have hm:g.φ σ.m=none:=r.new σ.m (Nat.le_refl _)
 have ne:∀ {j:Nat} {p:Addr×List Addr},g.φ j=some p->j≠σ.m:=λe q=>by rw [q,hm] at e;exact ax e
 have le:Le false g (g.at σ.m (s.heap.objs.size,[s.heap.objs.size])):=⟨λ_ _ e=>e,λj b fb e _=>⟨fb,(Gh.at_ne (ne e)).trans e⟩⟩
 have hk:∀x o₁,s.heap.get? x=some o₁->(s.heap.push o).get? x=some o₁:=λx o₁ e=>Heap.get?_push_of_some _ e
 have hs:s.heap.get? s.heap.objs.size=none:=aE (Nat.le_refl _)
 refine⟨⟨λx o₁ e=>hk x o₁ (r.frz x o₁ e),λj o₁ hj=> ?_,λj k b fb d fd hj hk' hne x hx1 hx2=> ?_,λx hx'=> ?_,r.nL, ?_,λj hj=> ?_,Nat.le_succ_of_le r.m64,λj p hj _=> ?_,r.base,r.Lb,r.tk⟩,
  ⟨le,λx o₁ e _ _=>hk x o₁ e,λx hx'=> ?_,λx o₁ e=>.inl e,GK.refl _,rfl,rfl⟩⟩
 ·have hj':lk j ((σ.m,o')::σ.H)=some o₁:=hj
  rw [aj] at hj'
  by_cases q:j=σ.m
  ·rw [if_pos q] at hj';obtain rfl:=Option.some.inj hj';exact⟨_,_,by refine q▸ ?_;exact Gh.at_self,ho⟩
  ·rw [if_neg q] at hj'
   obtain⟨b,fb,e,ro⟩:=r.obs j o₁ hj'
   exact⟨b,fb,(Gh.at_ne (q)).trans e,ro.step le λx hx o e'=>hk x o e'⟩
 ·have inOld:∀ {j:Nat} {b:Addr} {fb:List Addr},g.φ j=some (b,fb)->∀x∈fb,x≠s.heap.objs.size:=λe x hx q=>by
   obtain⟨o,y⟩:=(r.off x ⟨_,_,_,e,hx⟩).2.2
   exact Nat.lt_irrefl _ (q▸Heap.lt_size y)
  by_cases q:j=σ.m<;>by_cases q':k=σ.m
  ·exact hne (q.trans q'.symm)
  ·have e1:some (s.heap.objs.size,[s.heap.objs.size])=some (b,fb):=Gh.at_self.symm.trans (q▸hj)
   have e2:g.φ k=some (d,fd):=(Gh.at_ne q').symm.trans hk'
   cases e1
   exact inOld e2 x hx2 (List.mem_singleton.mp hx1)
  ·have e1:g.φ j=some (b,fb):=(Gh.at_ne q).symm.trans hj
   have e2:some (s.heap.objs.size,[s.heap.objs.size])=some (d,fd):=Gh.at_self.symm.trans (q'▸hk')
   cases e2
   exact inOld e1 x hx1 (List.mem_singleton.mp hx2)
  ·have e1:g.φ j=some (b,fb):=(Gh.at_ne q).symm.trans hj
   have e2:g.φ k=some (d,fd):=(Gh.at_ne q').symm.trans hk'
   exact r.sep j k b fb d fd e1 e2 hne x hx1 hx2
 ·rcases hx'.at_ with z|⟨j,b,fb,_,e,z⟩
  ·obtain rfl:=List.mem_singleton.mp z
   have w:=r.free hs
   exact⟨w.1,w.2.1,o,Heap.get?_push_size _ hfree⟩
  ·obtain⟨u,v,o,w⟩:=r.off x ⟨j,b,fb,e,z⟩
   exact⟨u,v,o,hk x o w⟩
 ·obtain⟨m,N,hm⟩:=r.loc
  exact⟨m,eh (λo₁ e=>hk _ _ e) N,λn v e=>(hm n v e).elim λw e=>⟨w,e.1,e.2.mono le⟩⟩
 ·have:j≠σ.m:=Nat.ne_of_gt (Nat.lt_of_succ_le hj)
  show(if j=σ.m then _ else g.φ j)=none
  rw [if_neg this];exact r.new j (Nat.le_of_succ_le hj)
 ·show∃o,lk j ((σ.m,o')::σ.H)=some o
  rw [aj]
  by_cases q:j=σ.m
  ·exact⟨o',by rw [if_pos q]⟩
  ·rw [if_neg q];rename_i h64;exact r.dom j p ((Gh.at_ne q).symm.trans hj) h64
 ·rcases hx'.at_ with z|⟨j,b,fb,_,e,z⟩
  ·exact .inr (by refine(List.mem_singleton.mp z)▸ ?_;exact hs)
  ·exact .inl ⟨j,b,fb,e,z⟩
theorem al.allocF(r:al c g L σ s){o:Obj}(hfree:o.isFreed=false):
  al c (g.add s.heap.objs.size o) L σ {s with heap:=s.heap.push o}∧a8 false L g s (g.add s.heap.objs.size o) {s with heap:=s.heap.push o}:=by
 have hs:s.heap.get? s.heap.objs.size=none:=aE (Nat.le_refl _)
 have hF:g.F s.heap.objs.size=none:=(r.free hs).1
 have le:Le false g (g.add s.heap.objs.size o):=⟨λx o₁ e=>by
   show(if x=_ then _ else g.F x)=some o₁
   rw [if_neg (λq=>by rw [q,hF] at e;exact ax e)];exact e,λj b fb e _=>⟨fb,e⟩⟩
 have hk:∀x o₁,s.heap.get? x=some o₁->(s.heap.push o).get? x=some o₁:=λx o₁ e=>Heap.get?_push_of_some _ e
 refine⟨⟨λx o₁ e=> ?_,λj o₁ hj=> ?_,r.sep,λx hx=> ?_, ?_, ?_,r.new,r.m64,r.dom,λa o₁ e=>le.F a o₁ (r.base a o₁ e),r.Lb,r.tk⟩,
  ⟨le,λx o₁ e _ _=>hk x o₁ e,λx hx=>.inl hx,λx o₁ e=> ?_,GK.refl _,rfl,rfl⟩⟩
 ·have e':(if x=s.heap.objs.size then some o else g.F x)=some o₁:=e
  by_cases q:x=s.heap.objs.size
  ·rw [if_pos q] at e';obtain rfl:=Option.some.inj e';refine q▸ ?_;exact Heap.get?_push_size _ hfree
  ·rw [if_neg q] at e';exact hk x o₁ (r.frz x o₁ e')
 ·obtain⟨b,fb,e,ro⟩:=r.obs j o₁ hj
  exact⟨b,fb,e,ro.step le λx _ o e'=>hk x o e'⟩
 ·obtain⟨u,v,o₁,w⟩:=r.off x hx
  refine⟨?_,v,o₁,hk x o₁ w⟩
  show(if x=_ then _ else g.F x)=none
  rw [if_neg (λq=>by(rw [q] at w;replace w:=hs▸w);cases w)];exact u
 ·show(if L=_ then _ else g.F L)=none
  obtain⟨o₁,w⟩:=r.L_there
  rw [if_neg (λq=>by rw [q,hs] at w;exact ax w)];exact r.nL
 ·obtain⟨m,N,hm⟩:=r.loc
  exact⟨m,eh (λo₁ e=>hk _ _ e) N,λn v e=>(hm n v e).elim λw e=>⟨w,e.1,e.2.mono le⟩⟩
 ·have e':(if x=s.heap.objs.size then some o else g.F x)=some o₁:=e
  by_cases q:x=s.heap.objs.size
  ·exact .inr (.inr (by refine q▸ ?_;exact hs))
  ·rw [if_neg q] at e';exact .inl e'
theorem al.freeze(r:al c g L σ s){i:Nat}{a:Addr}{o:Obj}{f:FV}(hi:g.φ i=some (a,[a]))(ho:s.heap.get? a=some o)
  (hf:∀g',Le false g g'->g'.F a=some o->RF c.prog c.w g'.F (.ref a) f):
  ∃g',al c g' L (aR σ (put i (.frz f) σ.H)) s∧a8 false L g s g' s∧RF c.prog c.w g'.F (.ref a) f:=by
 have offa:=r.off a ⟨i,a,[a],hi,.head _⟩
 let g':Gh:=(g.add a o).at i (a,[])
 have le:Le false g g':=⟨λx o₁ e=>by
   show(if x=a then _ else g.F x)=some o₁
   rw [if_neg (λq=>by(replace e:=q▸e;rw [offa.1] at e);exact ax e)];exact e,λj b fb e _=>by
  by_cases q:j=i
  ·subst q;replace e:=hi▸e;cases e;exact⟨[],by simp [g',Gh.at]⟩
  ·exact⟨fb,by simpa [g',Gh.at,Gh.add,q] using e⟩⟩
 have hF:g'.F a=some o:=by show(if a=a then _ else _)=_;rw [if_pos rfl]
 have φne:∀ {j:Nat},j≠i->g'.φ j=g.φ j:=λ{j} q=>by show(if j=i then _ else _)=_;rw [if_neg q];rfl
 have φi:g'.φ i=some (a,[]):=by show(if i=i then _ else _)=_;rw [if_pos rfl]
 have foot:∀x,bZ g' x->∃j b fb,j≠i∧g.φ j=some (b,fb)∧x∈fb:=λx h=>by
  obtain⟨j,b,fb,e,hx⟩:=h
  by_cases q:j=i
  ·(rw [q] at e;replace e:=φi▸e);cases e;cases hx
  ·exact⟨j,b,fb,q,by refine(φne q)▸ ?_;exact e,hx⟩
 refine⟨g',⟨λx o₁ e=> ?_,λj o₁ hj=> ?_,λj k b fb d fd hj hk' hne x hx1 hx2=> ?_,λx hx=> ?_, ?_, ?_,λj hj=> ?_,r.m64,λj p hj _=> ?_,λx o₁ e=>le.F x o₁ (r.base x o₁ e),r.Lb,r.tk⟩,
  ⟨le,λx o₁ e _ _=>e,λx hx=> ?_,λx o₁ e=> ?_,GK.refl _,rfl,rfl⟩,hf g' le hF⟩
 ·have e':(if x=a then some o else g.F x)=some o₁:=e
  by_cases q:x=a
  ·rw [if_pos q] at e';obtain rfl:=Option.some.inj e';refine q▸ ?_;exact ho
  ·rw [if_neg q] at e';exact r.frz x o₁ e'
 ·have hj':lk j (put i (.frz f) σ.H)=some o₁:=hj
  rw [af] at hj'
  by_cases q:j=i
  ·rw [if_pos q] at hj';obtain rfl:=Option.some.inj hj';exact⟨a,[],by rw [q];exact φi,rfl,hf g' le hF⟩
  ·rw [if_neg q] at hj'
   obtain⟨b,fb,e,ro⟩:=r.obs j o₁ hj'
   exact⟨b,fb,by refine(φne q)▸ ?_;exact e,ro.step le λx _ o e'=>e'⟩
 ·by_cases q:j=i
  ·(rw [q] at hj;replace hj:=φi▸hj);cases hj;cases hx1
  ·by_cases q':k=i
   ·rw [q',φi] at hk';cases hk';cases hx2
   ·rw [φne q] at hj;rw [φne q'] at hk'
    exact r.sep j k b fb d fd hj hk' hne x hx1 hx2
 ·obtain⟨j,b,fb,q,e,hx'⟩:=foot x hx
  obtain⟨u,v,w⟩:=r.off x ⟨j,b,fb,e,hx'⟩
  refine⟨?_,v,w⟩
  show(if x=a then _ else g.F x)=none
  rw [if_neg (λz=>r.sep j i b fb a [a] e hi q x hx' (by rw [z];exact .head _))];exact u
 ·show(if L=a then _ else g.F L)=none
  rw [if_neg (λz=>offa.2.1 z.symm)];exact r.nL
 ·obtain⟨m,N,hm⟩:=r.loc
  exact⟨m,N,λn v e=>(hm n v e).elim λw e=>⟨w,e.1,e.2.mono le⟩⟩
 ·have:j≠i:=λq=>by have:=r.lt hi;rw [q] at hj;exact Nat.lt_irrefl _ (Nat.lt_of_lt_of_le this hj)
  rw [φne this];exact r.new j hj
 ·show∃o,lk j (put i (.frz f) σ.H)=some o
  rw [af]
  by_cases q:j=i
  ·exact⟨.frz f,by rw [if_pos q]⟩
  ·rw [if_neg q];rename_i h64;exact r.dom j p (by rw [←φne q];exact hj) h64
 ·obtain⟨j,b,fb,q,e,hx'⟩:=foot x hx
  exact .inl ⟨j,b,fb,e,hx'⟩
 ·have e':(if x=a then some o else g.F x)=some o₁:=e
  by_cases q:x=a
  ·exact .inr (.inl ⟨i,a,[a],hi,by rw [q];exact .head _⟩)
  ·rw [if_neg q] at e';exact .inl e'
theorem al.store(r:al c g L σ s){h':Heap}{tk n:Nat}(ht:0<tk){w:Value}{v:V}{m:PySem.Str->Option Value}(N:s.heap.Ns L m)(hm:∀n v,lk n σ.L=some v->∃w,m (c.nm n)=some w∧RV c.prog c.w g w v)
  (hN:h'.Ns L (λy=>if y=c.nm n then some w else m y)) (hs:Heap.SameBut L s.heap h') (hv:RV c.prog c.w g w v):
  al c g L (cj σ (put n v σ.L)) {s with heap:=h',toks:=tk}∧a8 false L g s g {s with heap:=h',toks:=tk}:=by
 have hk:∀x o,x≠L->s.heap.get? x=some o->h'.get? x=some o:=λx o q e=>(hs.2 x q).trans e
 refine⟨⟨λx o e=>hk x o (λq=>by rw [q,r.nL] at e;exact ax e) (r.frz x o e),λj o hj=> ?_,r.sep,λx hx=> ?_,r.nL, ?_,r.new,r.m64,r.dom,r.base,r.Lb,ht⟩,
  ⟨.refl _ _,λx o e q _=>hk x o q e,λ_ h=>.inl h,λ_ _ h=>.inl h,GK.refl _,rfl,rfl⟩⟩
 ·obtain⟨b,fb,e,ro⟩:=r.obs j o hj
  exact⟨b,fb,e,ro.step (.refl _ _) λx hx o e'=>hk x o (r.off x ⟨j,b,fb,e,hx⟩).2.1 e'⟩
 ·obtain⟨u,v,o,w⟩:=r.off x hx
  exact⟨u,v,o,hk x o v w⟩
 ·refine⟨_,hN,λn' v' e=> ?_⟩
  have e:lk n' (put n v σ.L)=some v':=e
  rw [af] at e
  by_cases q:n'=n
  ·rw [if_pos q] at e;obtain rfl:=Option.some.inj e;exact⟨w,by(refine q▸ ?_;rw [if_pos rfl]),hv⟩
  ·rw [if_neg q] at e
   obtain⟨u,e1,e2⟩:=hm n' v' e
   exact⟨u,by rw [if_neg (λz=>q (c.inj _ _ z))];exact e1,e2⟩
end Mine.A
namespace Mine.A
noncomputable def Holds(F:Addr->Option Obj)(h:Heap):Prop:=∀a o,F a=some o->h.get? a=some o
theorem gY{α:Type}(l:List α):cg l= !l.isEmpty:=by induction l<;>rfl
theorem f0(l:List Nat):(dy l).length=l.length:=by show l.toArray.size=_;simp
theorem cQ.list{h:Heap}{a:Addr}{o:Obj}{vs:List Value}(e:h.get? a=some o)(q:cQ "list" o vs):h.IsList a vs.toArray:=q.elim λn z=>⟨o,e,z▸rfl,n,z▸rfl⟩
theorem cQ.plain{h:Heap}{a:Addr}{o:Obj}{vs:List Value}(e:h.get? a=some o)(q:cQ "list" o vs):h.PlainList a vs.toArray:=q.elim λn z=>⟨n,z▸e⟩
theorem cQ.tup{h:Heap}{a:Addr}{o:Obj}{vs:List Value}(e:h.get? a=some o)(q:cQ "tuple" o vs):IsTup h a vs.toArray:=q.elim λn z=>⟨o,e,z▸rfl,n,z▸rfl⟩
theorem cQ.tuple{h:Heap}{a:Addr}{o:Obj}{vs:List Value}(e:h.get? a=some o)(q:cQ "tuple" o vs):h.IsTuple a vs.toArray:=q.elim λn z=>⟨o,e,z▸rfl,n,z▸rfl⟩
theorem gD.at{K:Type}[DecidableEq K]{prog:Program}{w:World}{knd:KeyKind prog w K}{h:Heap}{a:Addr}{o:Obj}{kvs:List (K×Value)}(e:h.get? a=some o)(q:gD knd o kvs):h.DictOf knd a kvs:=
 q.elim λes q=>q.elim λep r=>⟨o,es,ep,e,r⟩
theorem gD.of{K:Type}[DecidableEq K]{prog:Program}{w:World}{knd:KeyKind prog w K}{h:Heap}{a:Addr}{kvs:List (K×Value)}(q:h.DictOf knd a kvs):∃o,h.get? a=some o∧gD knd o kvs:=
 q.elim λo q=>q.elim λes q=>q.elim λep r=>⟨o,r.1,es,ep,r.2⟩
section
variable {prog:Program} {w:World} {F:Addr->Option Obj}
theorem bv.len{vs:List Value}{l:List FV}(h:bv prog w F vs l):vs.length=l.length:=
 bv.rec (motive_1:=λ_ _ _=>True) (motive_2:=λvs l _=>vs.length=l.length) (motive_3:=λ_ _ _=>True) trivial (λ_=>trivial) (λ_ _=>trivial) (λ_ _ _=>trivial) (λ_ _ _ _ _=>trivial) (λ_ _ _ _ _=>trivial) (λ_ _ _ _ _ _=>trivial)
  rfl (λ_ _ _ ih=>congrArg (· +1) ih) trivial (λ_ _ _ _=>trivial) h
theorem i6.len{vs:List (PySem.Str×Value)}{l:List (List Nat×FV)}(h:i6 prog w F vs l):vs.length=l.length:=
 i6.rec (motive_1:=λ_ _ _=>True) (motive_2:=λ_ _ _=>True) (motive_3:=λvs l _=>vs.length=l.length) trivial (λ_=>trivial) (λ_ _=>trivial) (λ_ _ _=>trivial) (λ_ _ _ _ _=>trivial) (λ_ _ _ _ _=>trivial) (λ_ _ _ _ _ _=>trivial)
  trivial (λ_ _ _ _=>trivial) rfl (λ_ _ _ ih=>congrArg (· +1) ih) h
theorem RD.len{g:Gh}{vs:List (PySem.Str×Value)}{l:List (List Nat×V)}(h:RD prog w g vs l):vs.length=l.length:=by
 induction h with
 |nil=>rfl
 |cons _ _ ih=>exact congrArg (· +1) ih
theorem Gf{α β:Type}{l:List α}{m:List β}(h:l.length=m.length):l.toArray.isEmpty=m.isEmpty:=by
 obtain⟨⟩:=l<;>induction m<;>first|rfl|cases h
end
section
variable {prog:Program} {w:World} {A:Around} {E:Value->Shared->Prop} {s:Shared} {F:Addr->Option Obj} {v u:Value} {f e:FV}
theorem mw{Q:Bool->Shared->Prop}(hF:Holds F s.heap)(h:RF prog w F v f)(hQ:∀tk,Q (ft f) {s with toks:=tk}):wpAny (model prog w) A (truthy v) Q E s:=by
 cases h with
 |non=>exact truthy_none (hQ s.toks)
 |bol b=>exact wpAny_truthy_bool (hQ s.toks)
 |int i t=>
  refine P.truthy_int ?_
  have:(i !=0)=ft (.int i):=by
   show(i !=0)= !decide (i=0)
   by_cases z:i=0<;>simp [z]
  refine this▸ ?_;exact hQ s.toks
 |str l t b=>
  refine P.truthy_str (by show¬((dy l).length:Int)≥_;rw [f0];lia) ?_
  have:(((dy l).length:Int) !=0)=ft (.str l):=by
   rw [f0]
   induction l using List.casesOn with
   |nil=>rfl
   |cons a r=>show(((r.length+1:Nat):Int) !=0)=true;rw [bne_iff_ne];lia
  show Q (((dy l).length:Int) !=0) _
  refine this▸ ?_;exact hQ _
 |tup e q r b=>
  refine truthy_tuple (q.tup (hF _ _ e)) (by rw [List.size_toArray,r.len];lia) ?_
  rw [Gf r.len]
  exact gY _▸hQ _
 |lst e q r b=>
  refine wpAny_truthy_list (q.list (hF _ _ e)) (by rw [List.size_toArray,r.len];lia) ?_
  rw [Gf r.len]
  exact gY _▸hQ _
 |dct e n q r b=>
  refine wpAny_truthy_dict (by simpa using n) (q.at (hF _ _ e)) (by rw [r.len];lia) ?_
  have:=Gf r.len;simp only [List.isEmpty_toArray] at this
  rw [this]
  exact gY _▸hQ _
theorem cv(a b:List Nat):j1 a b=decide (a=b):=by
 induction a generalizing b with
 |nil=>induction b using List.casesOn<;>rfl
 |cons x a ih=>
  induction b using List.casesOn with
  |nil=>rfl
  |cons y b=>
   show(Bool.rec false (j1 a b) (Nat.beq x y):Bool)=_
   by_cases h:x=y
   ·(refine h▸ ?_;rw [fX])
    show j1 a b=_
    rw [ih b]
    simp
   ·refine(jU h).symm▸ ?_
    simp [h]
theorem xq(a b:List Nat):(dy a==dy b)=j1 a b:=by
 rw [cv]
 by_cases h:a=b
 ·subst h;simp
 ·have:¬dy a=dy b:=λe=>h (by
   have:=congrArg (λx:PySem.Str=>x.cps.toList) e
   simpa [dy] using this)
  simp [h,this]
theorem wA{P:Value->Value->Bool->Prop}{b:Bool}(h:RF prog w F v f)(k:RF prog w F u e)(hb:tn f e=some b)
  (nn:P .none .none true) (ni:∀j t,P .none (.int j t) false) (ns:∀l t,P .none (.str l t) false) (bb:∀x y,P (.bool x) (.bool y) (x==y))
  (ii:∀i t j u,P (.int i t) (.int j u) (i==j)) (i_n:∀i t,P (.int i t) .none false) (i_s:∀i t l u,P (.int i t) (.str l u) false)
  (ss:∀l t m u,P (.str l t) (.str m u) (l==m)) (s_n:∀l t,P (.str l t) .none false) (s_i:∀l t i u,P (.str l t) (.int i u) false):P v u b:=by
 have k:=k.x
 induction f using FV.casesOn with
 |non=>
  obtain rfl:=h.x
  induction e using FV.casesOn with
  |non=>obtain rfl:=Option.some.inj hb;obtain rfl:=k;exact nn
  |int j=>obtain rfl:=Option.some.inj hb;obtain⟨t,rfl⟩:=k;exact ni _ _
  |str j=>obtain rfl:=Option.some.inj hb;obtain⟨t,rfl,_⟩:=k;exact ns _ _
  |_=>exact ax hb
 |bol x=>
  obtain rfl:=h.x
  induction e using FV.casesOn with
  |bol y=>
   have e:some (Bool.rec (!y) y x)=some b:=hb
   obtain rfl:=k
   have:b=(x==y):=by obtain rfl:=Option.some.inj e;induction x<;>induction y<;>rfl
   refine this▸ ?_;exact bb x y
  |_=>exact ax hb
 |int i=>
  obtain⟨t,rfl⟩:=h.x
  induction e using FV.casesOn with
  |int j=>
   have e:some (decide (i=j))=some b:=hb
   obtain⟨u,rfl⟩:=k
   have:b=(i==j):=by obtain rfl:=Option.some.inj e;by_cases z:i=j<;>simp [z]
   refine this▸ ?_;exact ii _ _ _ _
  |non=>obtain rfl:=Option.some.inj hb;obtain rfl:=k;exact i_n _ _
  |str j=>obtain rfl:=Option.some.inj hb;obtain⟨t,rfl,_⟩:=k;exact i_s _ _ _ _
  |_=>exact ax hb
 |str l=>
  obtain⟨t,rfl,_⟩:=h.x
  induction e using FV.casesOn with
  |str m=>
   have e:some (j1 l m)=some b:=hb
   obtain⟨u,rfl,_⟩:=k
   have:b=(dy l==dy m):=by obtain rfl:=Option.some.inj e;exact(xq l m).symm
   refine this▸ ?_;exact ss _ _ _ _
  |non=>obtain rfl:=Option.some.inj hb;obtain rfl:=k;exact s_n _ _
  |int j=>obtain rfl:=Option.some.inj hb;obtain⟨u,rfl⟩:=k;exact s_i _ _ _ _
  |_=>exact ax hb
 |_=>exact ax hb
theorem iE{b:Bool}(h:RF prog w F v f)(k:RF prog w F u e)(hb:tn f e=some b):SeqAt.RcAt A s v u b∧SeqAt.EqAt A s v u b:=
 wA (P:=λv u b=>SeqAt.RcAt A s v u b∧SeqAt.EqAt A s v u b) h k hb ⟨SeqAt.RcAt.none_none,SeqAt.EqAt.same _⟩ (λ_ _=>⟨.none_int _ _,.none_int _ _⟩) (λ_ _=>⟨.none_str _ _,.none_str _ _⟩) (λx y=>⟨.bool_bool x y,.bool_bool x y⟩)
  (λi t j u=>⟨.int_int i t j u,.int_int i t j u⟩) (λi t=>⟨.int_none i t,.int_none i t⟩) (λi t l u=>⟨.int_str i t l u,.int_str i t l u⟩) (λl t m u=>⟨.str_str l t m u,.str_str l t m u⟩) (λl t=>⟨.str_none l t,.str_none l t⟩) (λl t i u=>⟨.str_int l t i u,.str_int l t i u⟩)
end
end Mine.A
namespace Mine.A
structure Fm where
 env:Env
 kind:env.scope.kind=.function
 glob:env.globals=mainGlobals
 blt:env.builtins=builtinsNs
noncomputable abbrev Fm.cs(f:Fm):Scope:=f.env.scope
noncomputable abbrev Fm.L(f:Fm):Addr:=f.env.locals
noncomputable def Ao:List (Nat×Value):=[(0,.builtin "len"),(1,.builtin "ord"),(2,.builtin "chr"),(3,.type "range"),(9,.type "enumerate")]
noncomputable def vw(i:Nat):Option Value:=lk i Ao
structure Ctx (c:Cx) (K:Frag) (p:CP) (loose:List PySem.Str) (mg mb:PySem.Str->Option Value):Prop where
 X:K.In c.base
 T:TopRead c.prog loose mg mb c.base
 code:∀x i,p.code x=some i->c.nm i=x∧(x==("__debug__":PySem.Str))=false
 blt:∀x i u,p.glb x=none->p.blt x=some i->vw i=some u->(x==("__debug__":PySem.Str))=false∧mg x=none∧mb x=some u
 glb:∀x v,p.glb x=some v->(x==("__debug__":PySem.Str))=false∧∃u,mg x=some u∧RV c.prog c.w ⟨c.base.get?,λ_=>none⟩ u v
structure bG (d:Nat) (A:Around):Prop where
 hd:A.handled=none
 dep:A.depth+d<recursionLimit
 un:A.units+16*d+64<cLine
noncomputable def bM:Value->Shared->Prop:=λ_ _=>False
section
variable {c:Cx} {g:G} {K:Frag} {p:CP} {loose:List PySem.Str} {mg mb:PySem.Str->Option Value} {f:Fm} {d:Nat}
noncomputable def cN(c:Cx)(L:Addr)(gh:Gh)(s:Shared)(k:V->St->Prop)(Q:Value->Shared->Prop):Prop:=
 ∀gh' Z' s' v x,a8 false L gh s gh' s'->al c gh' L Z' s'->RV c.prog c.w gh' v x->k x Z'->Q v s'
noncomputable def SE(c:Cx)(g:G)(f:Fm)(d:Nat)(x:X)(e:Expr):Prop:=
 ∀gh σ s A k Q,al c gh f.L σ s->bG d A->dO g x σ k->cN c f.L gh s k Q->wpAny (model c.prog c.w) A (eval e f.env) Q bM s
noncomputable def ST(c:Cx)(g:G)(f:Fm)(d:Nat)(x:X)(e:Expr):Prop:=
 ∀gh σ s A (k:Bool->St->Prop) (Q:Bool->Shared->Prop),al c gh f.L σ s->bG d A->dO g x σ (λv σ=>ai (av σ.H v) λt=>k t σ)->
  (∀gh' Z' s' b,a8 false f.L gh s gh' s'->al c gh' f.L Z' s'->k b Z'->Q b s')->wpAny (model c.prog c.w) A (isTrue e f.env (eval e f.env)) Q bM s
theorem fA{prog:Program}{w:World}{g:Gh}{v:Value}{f:FV}(h:RF prog w g.F v f):RV prog w g v (.c f):=h
theorem eQ{sc:Scope}{x:PySem.Str}{k:NameKind}(h:(sc.names.lookup x==some k)=true):sc.names.lookup x=some k:=by simpa using h
inductive DR {α:Type} (o:Option α) (k:α->Prop):Prop
 |mk (a:α) (e:o=some a) (h:k a)
theorem ab{α:Type}{o:Option α}{k:α->Prop}(h:ai o k):DR o k:=by
 induction o using Option.casesOn with
 |none=>exact h.elim
 |some a=>exact⟨a,rfl,h⟩
noncomputable def ob{α:Type}(o:Option α)(k:α->Bool):Bool:=Option.rec false k o
theorem fe{α:Type}{o:Option α}{k:α->Bool}(h:ob o k=true):DR o λa=>k a=true:=by
 induction o using Option.casesOn with
 |none=>exact bU h
 |some a=>exact⟨a,rfl,h⟩
theorem bg{a b:Bool}(h:Bool.and a b=true):a=true∧b=true:=by
 induction a using Bool.casesOn with
 |false=>exact bU h
 |true=>exact⟨rfl,h⟩
theorem sX{b:Bool}{x:Prop}(h:br b x False):b=true∧x:=by
 induction b using Bool.casesOn with
 |false=>exact False.elim h
 |true=>exact⟨rfl,h⟩
theorem pG{b:Bool}{x y:Prop}(h:br b x y):if b then x else y:=by induction b<;>exact h
theorem al.holds{gh:Gh}{L:Addr}{σ:St}{s:Shared}(r:al c gh L σ s):Holds gh.F s.heap:=r.frz
theorem al.keepB{gh:Gh}{L:Addr}{σ:St}{s:Shared}(r:al c gh L σ s):∀b o,c.base.get? b=some o->s.heap.get? b=some o:=λb o e=>r.frz b o (r.base b o e)
theorem al.fr{gh:Gh}{L:Addr}{σ:St}{s:Shared}{m:PySem.Str->Option Value}(r:al c gh L σ s)(N:s.heap.Ns L m):Fr c.base L s.heap m:=⟨N,r.keepB,r.Lb⟩
theorem wF{k:Const}{kd:Nat}{pos:Pos}:SE c g f d (cK k) (.Constant k kd pos):=by
 intro gh σ s A k' Q r rm hev hp
 cases k with
 |none=>exact wpAny_Constant_none (hp gh σ s _ _ (.refl _ _ _ _) r (fA .non) hev)
 |bool b=>exact wpAny_Constant_bool (hp gh σ s _ _ (.refl _ _ _ _) r (fA (.bol b)) hev)
 |int i=>exact wpAny_Constant_int (hp gh σ _ _ _ (.toks _ _) r.tok1 (fA (.int i _)) hev)
 |str x=>
  have hev:dO g (if x.length≤10000 then .k (.str x.cps.toList)else .bad) σ k':=hev
  split at hev
  case isFalse=>exact hev.elim
  rename_i hl
  refine wpAny_Constant_str (hp gh σ _ _ (.c (.str x.cps.toList)) (.toks _ _) r.tok1 ?_ hev)
  show RF c.prog c.w gh.F (.str x s.toks) (.str x.cps.toList)
  have e:x=⟨x.cps.toList.toArray⟩:=by obtain⟨⟩:=x;simp
  have h:=RF.str (prog:=c.prog) (w:=c.w) (F:=gh.F) x.cps.toList s.toks (by refine Array.length_toList▸ ?_;exact Nat.le_trans hl (by decide))
  rw [←e] at h;exact h
 |float _=>exact hev.elim
 |complex _ _=>exact hev.elim
 |bytes _=>exact hev.elim
 |ellipsis=>exact hev.elim
theorem DD(Y:Ctx c K p loose mg mb){x:PySem.Str}{i:Nat}{pos:Pos}(hl:bu f.cs x=true)(hc:p.code x=some i):SE c g f d (.loc i) (.Name x pos):=by
 intro gh σ s A k Q r rm hev hp
 obtain⟨v,hv,hk⟩:=ab hev
 obtain⟨m,N,hm⟩:=r.loc
 obtain⟨w,e1,e2⟩:=hm i v hv
 obtain⟨rfl,hd⟩:=Y.code x i hc
 exact wpAny_Name (wpAny_loadName_local f.kind (eQ hl) N e1 (hp gh σ s w v (.refl _ _ _ _) r e2 hk)) hd
theorem mj{gh:Gh}{L:Addr}{σ:St}{s:Shared}(r:al c gh L σ s){u:Value}{v:V}(h:RV c.prog c.w ⟨c.base.get?,λ_=>none⟩ u v):RV c.prog c.w gh u v:=
 h.mono (Le.mk (g:=⟨c.base.get?,λ_=>none⟩) (g':=gh) r.base λ_ _ _ e _=>by exact ax e)
theorem pO(Y:Ctx c K p loose mg mb){x:PySem.Str}{v:V}{pos:Pos}(hl:eB f.cs x=true)(hc:p.glb x=some v):SE c g f d (.glo v) (.Name x pos):=by
 intro gh σ s A k Q r rm hev hp
 obtain⟨m,N,hm⟩:=r.loc
 obtain⟨hd,u,e1,e2⟩:=Y.glb x v hc
 exact Calls.Name_function_global f.kind (eQ hl) (Calls.loadGlobal_global (by refine f.glob▸ ?_;exact Y.T.g.keeps r.keepB) e1 (hp gh σ s u v (.refl _ _ _ _) r (mj r e2) hev)) hd
theorem jy:typeLookup (.type "method") (Str.ofString "__bool__")=pure none:=by
 rw [typeLookup_type,builtinLookup_eq_fast];kernel_rfl
theorem ku:typeLookup (.type "method") (Str.ofString "__len__")=pure none:=by
 rw [typeLookup_type,builtinLookup_eq_fast];kernel_rfl
theorem nU{s:Shared}{A:Around}{E:Value->Shared->Prop}{q f a:Addr}{Q:Bool->Shared->Prop}{M:Model}(e:s.heap.get? q=some (xW f a))(hQ:Q true s):wpAny M A (truthy (.ref q)) Q E s:=by
 have ht:s.TypeIs (.ref q) "method":=⟨_,e,rfl⟩
 unfold truthy
 first
  |refine wpAny_bind (wpAny_callSpecial?_none (name:=Str.ofString "__bool__") ht jy ?_)
  |refine wpAny_bind (wpAny_pure (wpAny_bind (wpAny_callSpecial?_none (name:=Str.ofString "__bool__") ht jy ?_)))
 first
  |refine wpAny_bind (wpAny_specialOf (name:=Str.ofString "__len__") ht ku ?_)
  |refine wpAny_bind (wpAny_pure (wpAny_bind (wpAny_specialOf (name:=Str.ofString "__len__") ht ku ?_)))
 exact wpAny_pure hQ
theorem dH{gh:Gh}{L:Addr}{σ:St}{s:Shared}{A:Around}{E:Value->Shared->Prop}{v:Value}{x:V}{b:Bool}{Q:Bool->Shared->Prop}(r:al c gh L σ s)(hv:RV c.prog c.w gh v x)(hb:av σ.H x=some b)
  (hQ:∀tk,0<tk->Q b {s with toks:=tk}):wpAny (model c.prog c.w) A (truthy v) Q E s:=by
 refine aV r.tk ?_
 induction x using V.casesOn with
 |c f=>obtain rfl:=Option.some.inj hb;exact mw r.holds hv hQ
 |ob i=>
  obtain⟨a,ft,e,rfl⟩:=hv
  obtain⟨o,q,hb⟩:=aw hb
  have ro:=r.ob e q
  induction o using AO.casesOn with
  |lst l=>
   obtain rfl:=Option.some.inj hb
   obtain⟨_,o,vs,h1,h2,h3,h4⟩:=ro
   refine wpAny_truthy_list (h2.list h1) (by rw [List.size_toArray,h3.len];lia) ?_
   refine(Gf h3.len)▸ ?_
   exact gY _▸hQ _
  |dct l=>
   obtain rfl:=Option.some.inj hb
   obtain⟨_,o,kvs,h1,h0,h2,h3,h4⟩:=ro
   refine wpAny_truthy_dict (by simpa using h0) (h2.at h1) (by rw [h3.len];lia) ?_
   have:=Gf h3.len;simp only [List.isEmpty_toArray] at this
   refine this▸ ?_
   exact gY _▸hQ _
  |inst=>exact ax hb
  |frz f=>obtain rfl:=Option.some.inj hb;exact mw r.holds ro.2 hQ
 |st _=>exact ax hb
 |mth a i=>obtain rfl:=Option.some.inj hb;obtain⟨q,a,ft,rfl,e,_⟩:=hv;exact nU (r.frz q _ e) (hQ _)
theorem HZ{x:X}{e:Expr}(h:SE c g f d x e)(he:∀gl,isTrue e f.env gl=(do let v←gl;standAt e.pos;holding [v] (truthy v))):ST c g f d x e:=by
 intro gh σ s A k Q r rm hev hp
 refine wpAny_isTrue_value (h gh σ s A _ _ r rm hev λgh' Z' s' v y x' r' hv hk=> ?_) (he _)
 obtain⟨b,hb,hk⟩:=ab hk
 exact dH r' hv hb λtk ht=>hp gh' Z' _ b (x'.trans r r' (.toks false tk)) (r'.toks ht) hk
theorem Dz{x:X}{e:Expr}{pos:Pos}(h:SE c g f d x e):SE c g f d (.not x) (.UnaryOp .Not e pos):=by
 intro gh σ s A k Q r rm hev hp
 refine wpAny_UnaryOp (h gh σ s A _ _ r rm hev λgh' Z' s' v y x' r' hv hk=>not_value ?_)
 obtain⟨b,hb,hk⟩:=ab hk
 exact dH r' hv hb λtk ht=>hp gh' Z' _ _ _ (x'.trans r r' (.toks false tk)) (r'.toks ht) (fA (.bol _)) hk
theorem Dk{x:X}{e:Expr}{pos:Pos}(h:ST c g f d x e):ST c g f d (.not x) (.UnaryOp .Not e pos):=by
 intro gh σ s A k Q r rm hev hp
 refine wpAny_isTrue_Not (h gh σ s A (λb σ=>k (!b) σ) _ r rm ?_ λgh' Z' s' b x' r' hk=>hp gh' Z' s' _ x' r' hk)
 exact hev
theorem Li{x y:X}{e e':Expr}{pos:Pos}(h:SE c g f d x e)(h':SE c g f d y e'):SE c g f d (.and x y) (.BoolOp .And [e,e'] pos):=by
 intro gh σ s A k Q r rm hev hp
 refine wpAny_And2 (h gh σ s A _ _ r rm hev λgh₁ σ₁ s₁ v z x₁ r₁ hv hk=> ?_)
 obtain⟨b,hb,hk⟩:=ab hk
 refine dH r₁ hv hb λtk ht=> ?_
 have x₂:=x₁.trans r r₁ (.toks false tk)
 induction b using Bool.casesOn with
 |false=>exact hp gh₁ σ₁ _ _ _ x₂ (r₁.toks ht) hv hk
 |true=>
  refine h' gh₁ σ₁ _ A k Q (r₁.toks ht) rm hk λgh₂ σ₂ s₂ u y x₃ r₃ hu hk=> ?_
  exact hp gh₂ σ₂ s₂ u y (x₂.trans r (r₁.toks ht) x₃) r₃ hu hk
theorem Ma{x y:X}{e e':Expr}{pos:Pos}(h:SE c g f d x e)(h':SE c g f d y e'):SE c g f d (.or x y) (.BoolOp .Or [e,e'] pos):=by
 intro gh σ s A k Q r rm hev hp
 refine wpAny_Or2 (h gh σ s A _ _ r rm hev λgh₁ σ₁ s₁ v z x₁ r₁ hv hk=> ?_)
 obtain⟨b,hb,hk⟩:=ab hk
 refine dH r₁ hv hb λtk ht=> ?_
 have x₂:=x₁.trans r r₁ (.toks false tk)
 induction b using Bool.casesOn with
 |true=>exact hp gh₁ σ₁ _ _ _ x₂ (r₁.toks ht) hv hk
 |false=>
  refine h' gh₁ σ₁ _ A k Q (r₁.toks ht) rm hk λgh₂ σ₂ s₂ u y x₃ r₃ hu hk=> ?_
  exact hp gh₂ σ₂ s₂ u y (x₂.trans r (r₁.toks ht) x₃) r₃ hu hk
theorem DE{t x y:X}{et e e':Expr}{pos:Pos}(ht:ST c g f d t et)(h:SE c g f d x e)(h':SE c g f d y e'):SE c g f d (.ife t x y) (.IfExp et e e' pos):=by
 intro gh σ s A k Q r rm hev hp
 refine wpAny_IfExp (ht gh σ s A (λb σ=>br b (dO g x σ k) (dO g y σ k)) _ r rm ?_ λgh₁ σ₁ s₁ b x₁ r₁ hk=> ?_)
 ·exact hev
 ·have hk:=pG hk
  induction b using Bool.casesOn with
  |true=>
   refine h gh₁ σ₁ s₁ A k Q r₁ rm hk λgh₂ σ₂ s₂ u y x₃ r₃ hu hk=> ?_
   exact hp gh₂ σ₂ s₂ u y (x₁.trans r r₁ x₃) r₃ hu hk
  |false=>
   refine h' gh₁ σ₁ s₁ A k Q r₁ rm hk λgh₂ σ₂ s₂ u y x₃ r₃ hu hk=> ?_
   exact hp gh₂ σ₂ s₂ u y (x₁.trans r r₁ x₃) r₃ hu hk
theorem DB{x:X}{e:Expr}{pos:Pos}(h:SE c g f d x e):SE c g f d (.neg x) (.UnaryOp .USub e pos):=by
 intro gh σ s A k Q r rm hev hp
 refine wpAny_UnaryOp (h gh σ s A _ _ r rm hev λgh₁ σ₁ s₁ v y x₁ r₁ hv hk=> ?_)
 obtain⟨f,hf,h1⟩:=ab hk
 clear hk
 obtain⟨i,hi,hk⟩:=ab h1
 clear h1
 obtain rfl:=mh hf
 obtain⟨t,rfl⟩:=RF.aI hv hi
 exact P.neg_int (hp gh₁ σ₁ _ _ _ (x₁.trans r r₁ (.toks false _)) r₁.tok1 (fA (.int _ _)) hk)
theorem zy{i:Int}{kd:Nat}{pos pos':Pos}:SE c g f d (.k (.int (-i))) (.UnaryOp .USub (.Constant (.int i) kd pos) pos'):=by
 intro gh σ s A k Q r rm hev hp
 refine wpAny_UnaryOp (wpAny_Constant_int (P.neg_int (hp gh σ _ _ _ ?_ r.tok2 (fA (.int _ _)) hev)))
 exact .toks _ _
end
end Mine.A
namespace Mine.A
noncomputable def DU:Value->Value->Bool
 | .none,.none=>true
 | .str a _,.str b _=>a==b
 | .int a _,.int b _=>a==b
 | .bool a,.bool b=>a==b
 |_,_=>false
section
variable {prog:Program} {w:World} {A:Around} {E:Value->Shared->Prop} {s:Shared} {F:Addr->Option Obj} {v u:Value} {f e:FV}
theorem AN{b:Bool}(h:RF prog w F v f)(k:RF prog w F u e)(hb:tn f e=some b):DU v u=b:=
 wA (P:=λv u b=>DU v u=b) h k hb rfl (λ_ _=>rfl) (λ_ _=>rfl) (λ_ _=>rfl) (λ_ _ _ _=>rfl) (λ_ _=>rfl) (λ_ _ _ _=>rfl) (λ_ _ _ _=>rfl) (λ_ _=>rfl) (λ_ _ _ _=>rfl)
theorem Da{b:Bool}(h:RF prog w F v f)(k:RF prog w F u e)(hb:tn f e=some b):SeqAt.RcNeAt A s v u (!b):=
 wA (P:=λv u b=>SeqAt.RcNeAt A s v u (!b)) h k hb .none_none (λ_ _=>.none_int _ _) (λ_ _=>.none_str _ _) (λx y=>.bool_bool x y) (λi t j u=>.int_int i t j u) (λi t=>.int_none i t) (λi t l u=>.int_str i t l u)
  (λl t m u=>.str_str l t m u) (λl t=>.str_none l t) (λl t i u=>.str_int l t i u)
theorem bv.get{vs:List Value}{l:List FV}(h:bv prog w F vs l):∀j (h1:j<vs.length) (h2:j<l.length),RF prog w F vs[j] l[j]:=by
 induction vs generalizing l with
 |nil=>intro j h1;exact absurd h1 (Nat.not_lt_zero _)
 |cons a r ih=>
  cases h with
  |cons ha hr=>
   intro j h1 h2
   induction j using Nat.casesOn with
   |zero=>exact ha
   |succ j=>exact ih hr j (Nat.lt_of_succ_lt_succ h1) (Nat.lt_of_succ_lt_succ h2)
theorem gT{a b:List Nat}(e:dy a=dy b):a=b:=by
 have:=congrArg (λx:PySem.Str=>x.cps.toList) e
 simpa [dy] using this
theorem Iw{n:Nat}{l:List FV}:dep (n+1) (.tup l)=l.all (dep n):=rfl
theorem Ix{n:Nat}{l:List FV}:dep (n+1) (.lst l)=l.all (dep n):=rfl
theorem nM{n:Nat}:((List.range n).all λ_=>true)=true:=by rw [List.all_eq_true];intros;rfl
noncomputable def Md(prog:Program)(w:World)(s:Shared)(F:Addr->Option Obj)(n:Nat):Prop:=∀(A:Around) {v u:Value} {f:FV},A.units+n<cLine->dep n f=true->RF prog w F v f->RF prog w F u f->SeqAt.EqAt A s v u true
theorem Ab(hF:Holds F s.heap){n:Nat}(ih:Md prog w s F n){A:Around}{a1 a2:Addr}{f:FV}(hu:A.units+(n+1)<cLine)(hd:dep (n+1) f=true)(h:RF prog w F (.ref a1) f)(k:RF prog w F (.ref a2) f):
  SeqAt.RcAt A s (.ref a1) (.ref a2) true∧SeqAt.RcNeAt A s (.ref a1) (.ref a2) false:=by
 have hu0:A.units<cLine:=by lia
 have it:∀ {vs1 vs2:List Value} {l:List FV},l.all (dep n)=true->bv prog w F vs1 l->bv prog w F vs2 l->∀j (h1:j<vs1.toArray.size) (h2:j<vs2.toArray.size),SeqAt.EqAt A.in1 s vs1.toArray[j] vs2.toArray[j] ((λ_=>true) j):=λhd r1 r2 j h1 h2=>
  have hl:=r1.len▸(h1:j<_)
  ih A.in1 (by rw [Around.in1_units];lia) (List.all_eq_true.mp hd _ (List.getElem_mem hl)) (r1.get j h1 hl) (r2.get j h2 hl)
 induction f using FV.casesOn with
 |tup l=>
  obtain⟨_,vs1,o1,⟨⟩,e1,q1,r1,_⟩:=h.x
  obtain⟨_,vs2,o2,⟨⟩,e2,q2,r2,_⟩:=k.x
  have z:(vs1.toArray.size==vs2.toArray.size)=true:=beq_iff_eq.mpr (r1.len.trans r2.len.symm)
  have t1:=SeqAt.RcAt.tuples (e:=λ_=>true) (q1.tuple (hF _ _ e1)) (q2.tuple (hF _ _ e2)) hu0 (it hd r1 r2)
  have t2:=SeqAt.RcNeAt.tuples (e:=λ_=>true) (q1.tuple (hF _ _ e1)) (q2.tuple (hF _ _ e2)) hu0 (it hd r1 r2)
  rw [nM,z] at t1 t2
  exact⟨t1,t2⟩
 |lst l=>
  obtain⟨_,vs1,o1,⟨⟩,e1,q1,r1,_⟩:=h.x
  obtain⟨_,vs2,o2,⟨⟩,e2,q2,r2,_⟩:=k.x
  have z:vs1.toArray.size=vs2.toArray.size:=r1.len.trans r2.len.symm
  have t1:=SeqAt.RcAt.lists (e:=λ_=>true) (q1.list (hF _ _ e1)) (q2.list (hF _ _ e2)) z hu0 (it hd r1 r2)
  have t2:=SeqAt.RcNeAt.lists (e:=λ_=>true) (q1.list (hF _ _ e1)) (q2.list (hF _ _ e2)) z hu0 (it hd r1 r2)
  rw [nM] at t1 t2
  exact⟨t1,t2⟩
 |dct l=>exact bU hd
 |non=>cases h
 |bol=>cases h
 |int=>cases h
 |str=>cases h
theorem lL(hF:Holds F s.heap)(n:Nat):Md prog w s F n:=by
 induction n with
 |zero=>exact λA _ _ _ _ hd _ _=>bU hd
 |succ n ih=>
  intro A v u f hu hd h k
  have rf:∀ {a1 a2:Addr},v=.ref a1->u=.ref a2->SeqAt.EqAt A s v u true:=λ{a1 a2} e1 e2=>by
   subst e1 e2
   by_cases hab:a1=a2
   ·exact hab▸SeqAt.EqAt.same _
   ·exact SeqAt.EqAt.of_refs hab (Ab hF ih hu hd h k).1
  induction f using FV.casesOn with
  |non=>exact(iE h k rfl).2
  |bol x=>exact(iE h k (by induction x<;>rfl)).2
  |int i=>exact(iE h k (congrArg some (decide_eq_true rfl))).2
  |str l=>exact(iE h k (congrArg some ((cv l l).trans (decide_eq_true rfl)))).2
  |tup l=>
   obtain⟨a1,_,_,e1,_⟩:=h.x
   obtain⟨a2,_,_,e2,_⟩:=k.x
   exact rf e1 e2
  |lst l=>
   obtain⟨a1,_,_,e1,_⟩:=h.x
   obtain⟨a2,_,_,e2,_⟩:=k.x
   exact rf e1 e2
  |dct l=>exact bU hd
theorem xD(hF:Holds F s.heap){n:Nat}{A:Around}{a1 a2:Addr}{f:FV}(hu:A.units+n<cLine)(hd:dep n f=true)(h:RF prog w F (.ref a1) f)(k:RF prog w F (.ref a2) f):
  SeqAt.RcAt A s (.ref a1) (.ref a2) true∧SeqAt.RcNeAt A s (.ref a1) (.ref a2) false:=by
 induction n using Nat.casesOn with
 |zero=>exact bU hd
 |succ n=>exact Ab hF (lL hF n) hu hd h k
end
section
variable {c:Cx} {g:G} {gh:Gh} {L:Addr} {σ:St} {s:Shared} {A:Around} {E:Value->Shared->Prop} {v u:Value} {x y:V}
theorem c7{f:FV}(r:al c gh L σ s)(hv:RV c.prog c.w gh v x)(h:fC σ.H x=some f):∃F,Holds F s.heap∧Sub gh.F F∧RF c.prog c.w F v f:=by
 induction x using V.casesOn with
 |c f'=>obtain rfl:=Option.some.inj h;exact⟨gh.F,r.holds,λ_ _ e=>e,hv⟩
 |ob i=>
  obtain⟨a,ft,e,rfl⟩:=hv
  obtain⟨o,q,h⟩:=aw h
  have ro:=r.ob e q
  induction o using AO.casesOn with
  |frz f'=>obtain rfl:=Option.some.inj h;exact⟨gh.F,r.holds,λ_ _ e=>e,ro.2⟩
  |dct=>exact ax h
  |inst=>exact ax h
  |lst l=>
   obtain rfl:=Option.some.inj h
   obtain⟨hft,o,vs,h1,h2,h3,h4⟩:=ro
   have hn:gh.F a=none:=(r.off a ⟨i,a,ft,e,by rw [hft];exact .head _⟩).1
   have sub:Sub gh.F (λb=>if b=a then some o else gh.F b):=λb o' e=>by
    show(if b=a then _ else gh.F b)=some o'
    rw [if_neg (λz=>by(rw [z] at e;replace e:=hn▸e);cases e)];exact e
   refine⟨λb=>if b=a then some o else gh.F b,λb o' e=> ?_,sub,.lst (o:=o) (by simp) h2 (bv.mono sub h3) h4⟩
   dsimp only at e
   by_cases z:b=a
   ·rw [if_pos z] at e;obtain rfl:=Option.some.inj e;refine z▸ ?_;exact h1
   ·rw [if_neg z] at e;exact r.holds b o' e
 |st _=>exact ax h
 |mth _ _=>exact ax h
theorem gb{f e:FV}(r:al c gh L σ s)(hv:RV c.prog c.w gh v x)(hu:RV c.prog c.w gh u y)(h:fC σ.H x=some f)(k:fC σ.H y=some e):∃F,Holds F s.heap∧RF c.prog c.w F v f∧RF c.prog c.w F u e:=by
 obtain⟨F1,a1,b1,c1⟩:=c7 r hv h
 obtain⟨F2,a2,b2,c2⟩:=c7 r hu k
 refine⟨s.heap.get?,λ_ _ e=>e,RF.mono (λa o e=>a1 a o e) c1,RF.mono (λa o e=>a2 a o e) c2⟩
end
end Mine.A
namespace Mine.A
theorem lm:∀a b:List Nat,oI a b=decide (a<b)
 | [],[]=>by simp [oI]
 | [],_::_=>by simp [oI]
 |_::_,[]=>by simp [oI]
 |x::a,y::b=>by
  show(Bool.rec (Bool.rec false (oI a b) (Nat.beq x y)) true (Nat.blt x y):Bool)=_
  rw [Bool.eq_iff_iff,decide_eq_true_eq,List.cons_lt_cons_iff]
  rcases Nat.lt_trichotomy x y with h|h|h
  ·refine(show Nat.blt x y=true from Nat.blt_eq.mpr h).symm▸ ?_;exact⟨λ_=>.inl h,λ_=>rfl⟩
  ·subst h
   (refine(show Nat.blt x x=false from by rw [Bool.eq_false_iff];intro z;exact Nat.lt_irrefl _ (Nat.blt_eq.mp z)).symm▸ ?_;rw [fX])
   show oI a b=true↔_
   rw [lm a b,decide_eq_true_eq]
   exact⟨λz=>.inr ⟨rfl,z⟩,λz=>z.elim (λw=>absurd w (Nat.lt_irrefl _)) (·.2)⟩
  ·rw [show Nat.blt x y=false from by rw [Bool.eq_false_iff];intro z;exact Nat.lt_asymm h (Nat.blt_eq.mp z),jU (λe=>Nat.lt_irrefl _ (e▸h))]
   exact⟨λz=>(nomatch z),λz=>z.elim (λw=>absurd w (Nat.lt_asymm h)) (λw=>absurd w.1 (λe=>Nat.lt_irrefl _ (e▸h)))⟩
theorem sf{a x:FV}{l:List FV}{b:Bool}(h:jB a (x::l)=some b):∃p q,tn x a=some p∧jB a l=some q∧b=(p||q):=by
 obtain⟨p,e,h⟩:=aw h
 obtain⟨q,e',rfl⟩:=cm h
 exact⟨p,q,e,e',by induction p<;>rfl⟩
section
variable {prog:Program} {w:World} {A:Around} {s:Shared} {F:Addr->Option Obj}
theorem qL{v:Value}{a:FV}(hv:RF prog w F v a){l:List FV}:∀ {vs:List Value} {b:Bool},bv prog w F vs l->jB a l=some b->(vs.any λy=>DU y v)=b∧∀y∈vs,SeqAt.EqAt A s y v (DU y v):=by
 induction l with
 |nil=>intro vs b h e;obtain rfl:=h.inv;obtain rfl:=Option.some.inj e;exact⟨rfl,λ_ hy=>(List.not_mem_nil hy).elim⟩
 |cons x l ih=>
  intro vs b h e
  obtain⟨u,r,rfl,hx,hr⟩:=h.inv
  obtain⟨p,q,h1,h2,rfl⟩:=sf e
  obtain⟨i1,i2⟩:=ih hr h2
  have hq:=AN hx hv h1
  refine⟨by rw [List.any_cons,i1,hq],λy hy=> ?_⟩
  rcases List.mem_cons.mp hy with rfl|hy
  ·exact hq▸(iE hx hv h1).2
  ·exact i2 y hy
theorem i6.inv{prog:Program}{w:World}{F:Addr->Option Obj}{vs:List (PySem.Str×Value)}{l:List (List Nat×FV)}(h:i6 prog w F vs l):match (generalizing:=false) l with| []=>vs=[]|f::l=>∃v r,vs=(dy f.1,v)::r∧RF prog w F v f.2∧i6 prog w F r l:=by
 cases h with
 |nil=>rfl
 |cons a r=>exact⟨_,_,rfl,a,r⟩
theorem vm{prog:Program}{w:World}{F:Addr->Option Obj}(a:List Nat){l:List (List Nat×FV)}:∀ {kvs:List (PySem.Str×Value)},i6 prog w F kvs l->j3 a l=(valueAt kvs (dy a)).isSome:=by
 induction l with
 |nil=>intro kvs h;obtain rfl:=h.inv;rfl
 |cons f l ih=>
  intro kvs h
  obtain⟨v,r,rfl,_,hr⟩:=h.inv
  have ih:=ih hr
  show(Bool.rec (j3 a l) true (j1 a f.1):Bool)=_
  rw [cv]
  unfold valueAt
  rw [List.find?_cons]
  by_cases z:a=f.1
  ·subst z;simp
  ·have:¬dy f.1=dy a:=λe=>z (gT e).symm
   simp only [z,this,decide_false]
   exact ih
end
section
variable {c:Cx} {g:G} {gh:Gh} {L:Addr} {σ:St} {s:Shared} {A:Around} {E:Value->Shared->Prop} {v u:Value} {x y:V}
theorem jI{prog:Program}{w:World}(a:List Nat)(t:Tok):(strKind prog w).is (dy a) (.str ⟨a.toArray⟩ t)=true:=by simp [PySem.strKind,PySem.Value.isStrOf,dy]
theorem IV{a:Addr}(h:a≠sysModules):(a==sysModules)=false:=by simpa using h
theorem BH{F:Addr->Option Obj}{fx fy:FV}{k:Bool->Prop}{Q:Value->Shared->Prop}(hF:Holds F s.heap)(hv:RF c.prog c.w F v fx)(hu:RF c.prog c.w F u fy)
  (h:cI.mem fx fy k) (hQ:∀b tk,k b->Q (.bool b) {s with toks:=tk}):wpAny (model c.prog c.w) A (compareOp .In v u) Q E s:=by
 induction fy using FV.casesOn with
 |tup l=>
  refine cps λQz qz=> ?_
  obtain⟨b,hb,hk⟩:=ab h
  obtain⟨a,vs,o,rfl,e,q,r,_⟩:=hu.x
  obtain⟨i1,i2⟩:=qL (A:=A.in1) (s:=s) hv r hb
  refine qz ?_
  refine SeqAt.in_tupleAt (λy=>DU y v) (q.tuple (hF _ _ e)) (λy hy=>i2 y (by simpa using hy)) ?_
  rw [List.any_toArray,i1];exact hQ b s.toks hk
 |lst l=>
  refine cps λQz qz=> ?_
  obtain⟨b,hb,hk⟩:=ab h
  obtain⟨a,vs,o,rfl,e,q,r,_⟩:=hu.x
  obtain⟨i1,i2⟩:=qL (A:=A.in1) (s:=s) hv r hb
  refine qz ?_
  refine SeqAt.in_listAt (λy=>DU y v) (q.list (hF _ _ e)) (λy hy=>i2 y (by simpa using hy)) ?_
  rw [List.any_toArray,i1];exact hQ b s.toks hk
 |dct l=>
  refine cps λQz qz=> ?_
  obtain⟨a,ha,hk⟩:=ab h
  obtain⟨t,rfl,_⟩:=hv.aS ha
  obtain⟨_,o,kvs,rfl,e,n,q,r,_⟩:=hu.x
  refine qz ?_
  refine wpAny_in_of (knd:=strKind c.prog c.w) (k:=dy a) (jI _ _) (IV n) (q.at (hF _ _ e)).mapOf ?_
  refine(vm a r)▸ ?_;exact hQ _ _ hk
 |str bl=>
  refine cps λQz qz=> ?_
  obtain⟨q,hq,hk⟩:=ab h
  obtain⟨t,rfl⟩:=hv.aCh hq
  obtain⟨t',rfl,_⟩:=hu.x
  refine qz ?_
  refine SB.contains (x:=⟨bl.toArray⟩) (y:=⟨[q].toArray⟩) ?_
  have e:Txt.contains ⟨bl.toArray⟩ ⟨#[q]⟩=decide (q∈bl):=StrLaws.found_one ⟨bl.toArray⟩ q
  have:=hQ _ s.toks hk
  rw [←e] at this;exact this
 |_=>exact h.elim
theorem uo{F:Addr->Option Obj}{fx fy:FV}{k:Bool->Prop}(hF:Holds F s.heap)(hv:RF c.prog c.w F v fx)(hu:RF c.prog c.w F u fy)(hu0:A.units+16<cLine)
  (h:yI fx fy k):∃b,k b∧SeqAt.RcAt A s v u b∧SeqAt.RcNeAt A s v u (!b):=by
 have ze:ai (tn fx fy) k->∃b,k b∧SeqAt.RcAt A s v u b∧SeqAt.RcNeAt A s v u (!b):=λh=>by
  obtain⟨b,hb,hk⟩:=ab h
  exact⟨b,hk,(iE hv hu hb).1,Da hv hu hb⟩
 have dp:∀ {a b:Addr},v=.ref a->u=.ref b->fx=fy->dep 12 fx=true->k true->∃b,k b∧SeqAt.RcAt A s v u b∧SeqAt.RcNeAt A s v u (!b):=λe1 e2 e3 hd hk=>by
  subst e1 e2 e3
  exact⟨true,hk,xD (n:=12) hF (by lia) hd hv hu⟩
 induction fx using FV.casesOn with
 |tup x=>
  refine cps λQz qz=> ?_
  obtain⟨y,e,⟨rfl,hd⟩,hk⟩:=ab h
  obtain rfl:=Dd e
  refine qz ?_
  obtain⟨a,_,_,ev,_⟩:=hv.x
  obtain⟨b,_,_,eu,_⟩:=hu.x
  exact dp ev eu rfl hd hk
 |lst x=>
  refine cps λQz qz=> ?_
  obtain⟨y,e,⟨rfl,hd⟩,hk⟩:=ab h
  obtain rfl:=pM e
  refine qz ?_
  obtain⟨a,_,_,ev,_⟩:=hv.x
  obtain⟨b,_,_,eu,_⟩:=hu.x
  exact dp ev eu rfl hd hk
 |_=>exact ze h
theorem vb{F:Addr->Option Obj}{A':Around}(hF:Holds F s.heap)(hu:A'.units+12<cLine){kb:List (PySem.Str×Value)}(nd:(kb.map (·.1)).Nodup){l:List (List Nat×FV)}:∀ {ka kc:List (PySem.Str×Value)},i6 c.prog c.w F ka l->i6 c.prog c.w F kc l->(∀p∈kc,p∈kb)->(∀p∈l,dep 12 p.2=true)->KeqHits A' s kb ka true:=by
 induction l with
 |nil=>intro ka kc h _ _ _;obtain rfl:=h.inv;exact .nil
 |cons f l ih=>
  intro ka kc h1 h2 hs hd
  refine cps λQz qz=> ?_
  obtain⟨v1,t1,rfl,a1,r1⟩:=h1.inv
  obtain⟨v2,t2,rfl,a2,r2⟩:=h2.inv
  refine qz ?_
  exact .hit (e:=true) (b:=true) (mu nd (hs _ (.head _))) (lL hF 12 A' hu (hd _ (.head _)) a1 a2) (ih r1 r2 (λp hp=>hs p (.tail _ hp)) λp hp=>hd p (.tail _ hp))
theorem Cy{F:Addr->Option Obj}{f:FV}{v1 v2:Value}(hF:Holds F s.heap)(hu0:A.units+16<cLine)(hj:LU f=true)(g1:RF c.prog c.w F v1 f)(g2:RF c.prog c.w F v2 f):wJ c.prog c.w A.in1 s v1 v2:=by
 induction f using FV.casesOn with
 |dct es=>
  refine cps λQz qz=> ?_
  obtain⟨x1,o1,k1,rfl,d1,n1,p1,s1,_⟩:=g1.x
  obtain⟨x2,o2,k2,rfl,d2,n2,p2,s2,_⟩:=g2.x
  refine qz ?_
  by_cases hab:x1=x2
  ·refine hab▸ ?_;exact .at (SeqAt.EqAt.same _)
  ·refine wJ.dict hab n1 n2 (p1.at (hF _ _ d1)) (p2.at (hF _ _ d2)) (by rw [Around.in1_units];lia) (by(refine s1.len▸ ?_;rw [s2.len])) (vb hF (by rw [Around.in1_units,Around.in1_units];lia) ?_ s1 s2 (λ_ h=>h) λp hp=>List.all_eq_true.mp hj p hp)
   refine cps λQz qz=> ?_
   obtain⟨_,_,_,_,_,_,nd⟩:=p2
   refine qz ?_
   exact nd
 |_=>refine .at (lL hF 12 A.in1 (by rw [Around.in1_units];lia) ?_ g1 g2);exact hj
theorem BK{F:Addr->Option Obj}{fx fy:FV}{k:Bool->Prop}{Q:Value->Shared->Prop}(hF:Holds F s.heap)(hv:RF c.prog c.w F v fx)(hu:RF c.prog c.w F u fy)(hu0:A.units+16<cLine)
  (h:G1 fx fy k) (hQ:∀b,k b->Q (.bool (!b)) s):wpAny (model c.prog c.w) A (compareOp .NotEq v u) Q E s:=by
 have std:yI fx fy k->wpAny (model c.prog c.w) A (compareOp .NotEq v u) Q E s:=λh=>by
  obtain⟨b,hk,_,t1⟩:=uo hF hv hu hu0 h
  exact t1 c.prog c.w E Q (hQ _ hk)
 induction fx using FV.casesOn with
 |lst l=>
  refine cps λQz qz=> ?_
  obtain⟨y,e,⟨rfl,hd⟩,hk⟩:=ab h
  obtain rfl:=pM e
  refine qz ?_
  rcases hd with hd|hd
  ·exact std ⟨⟨rfl,hd⟩,hk⟩
  ·refine cps λQz qz=> ?_
   obtain⟨a1,vs1,o1,rfl,e1,q1,r1,_⟩:=hv.x
   obtain⟨a2,vs2,o2,rfl,e2,q2,r2,_⟩:=hu.x
   refine qz ?_
   refine r9 (q1.list (hF _ _ e1)) (q2.list (hF _ _ e2)) (by(refine List.size_toArray▸ ?_;rw [List.size_toArray,r1.len,r2.len])) (by lia) (λj h1 h2=> ?_) (hQ true hk)
   have h1:j<vs1.length:=by simpa using h1
   have h2:j<vs2.length:=by simpa using h2
   have hl:j<l.length:=by refine r1.len▸ ?_;exact h1
   exact Cy hF hu0 (List.all_eq_true.mp hd _ (List.getElem_mem hl)) (r1.get j h1 hl) (r2.get j h2 hl)
 |_=>exact std h
theorem nH{K:FV->FV->Prop}{P:Prop}(r:al c gh L σ s)(hv:RV c.prog c.w gh v x)(hu:RV c.prog c.w gh u y)(h:ai (fC σ.H x) λx=>ai (fC σ.H y) λy=>K x y)
  (hP:∀ {F:Addr->Option Obj} {fx fy:FV},Holds F s.heap->RF c.prog c.w F v fx->RF c.prog c.w F u fy->K fx fy->P):P:=
 by
 obtain⟨_,hx,h⟩:=ab h
 obtain⟨_,hy,h⟩:=ab h
 obtain⟨_,hF,h1,h2⟩:=gb r hv hu hx hy
 exact hP hF h1 h2 h
theorem mX{P:Value->Value->Prop}{F:Addr->Option Obj}{fx fy:FV}{op:Nat}{k:Bool->Prop}(h1:RF c.prog c.w F v fx)(h2:RF c.prog c.w F u fy)(h:LD op fx fy k)
  (hi:∀i t j t',FE op i j k->P (.int i t) (.int j t')) (hs:∀p t q t',FD op p q k->P (.str ⟨p.toArray⟩ t) (.str ⟨q.toArray⟩ t')):P v u:=by
 induction fx using FV.casesOn with
 |int i=>
  obtain⟨j,e,h⟩:=ab h
  obtain⟨t,rfl⟩:=h1.x
  obtain⟨t',rfl⟩:=h2.aI e
  exact hi _ _ _ _ h
 |str i=>
  obtain⟨j,e,h⟩:=ab h
  obtain⟨t,rfl,_⟩:=h1.x
  obtain⟨t',rfl,_⟩:=h2.aS e
  exact hs _ _ _ _ h
 |_=>exact h.elim
theorem oQ{b:Bool}(hv:RV c.prog c.w gh v x)(h:iN x=some b):(v==Value.none)=b:=by
 induction x using V.casesOn with
 |c f=>
  have hv:=RF.x hv
  obtain rfl:=Option.some.inj h
  induction f using FV.casesOn with
  |non=>obtain rfl:=hv;rfl
  |bol=>obtain rfl:=hv;rfl
  |int=>obtain⟨_,rfl⟩:=hv;rfl
  |str=>obtain⟨_,rfl,_⟩:=hv;rfl
  |_=>obtain⟨_,_,_,rfl,_⟩:=hv;rfl
 |ob i=>obtain⟨a,ft,_,rfl⟩:=hv;obtain rfl:=Option.some.inj h;rfl
 |st a=>obtain rfl:=(hv:v=.ref a);obtain rfl:=Option.some.inj h;rfl
 |mth a i=>obtain⟨q,a,ft,rfl,_⟩:=hv;obtain rfl:=Option.some.inj h;rfl
theorem uw{P:Prop}(hv:RV c.prog c.w gh v x)(h:ai (iN x) λz=>br z P False):v=.none∧P:=by
 obtain⟨b,hb,h⟩:=ab h
 induction b using Bool.casesOn with
 |false=>exact h.elim
 |true=>exact⟨eq_of_beq (oQ hv hb),h⟩
theorem Af{k:Bool->Prop}{p q:List Nat}(h:k (oI p q)):k (decide (p<q)):=lm p q▸h
theorem Ae{k:Bool->Prop}{p q:List Nat}(h:k (!oI p q)):k (!decide (p<q)):=lm p q▸h
theorem xN{op:CmpOp}{k:Bool->Prop}{Q:Value->Shared->Prop}(r:al c gh L σ s)(hv:RV c.prog c.w gh v x)(hu:RV c.prog c.w gh u y)(hu0:A.units+16<cLine)
  (h:cI (lW op) x y σ k) (hQ:∀b tk,k b->Q (.bool b) {s with toks:=tk}):wpAny (model c.prog c.w) A (compareOp op v u) Q E s:=by
 cases op with
 |Is=>obtain⟨rfl,h⟩:=uw hu h;obtain⟨b,hb,hk⟩:=ab h;exact is_none_gen (oQ hv hb▸hQ b s.toks hk)
 |IsNot=>obtain⟨rfl,h⟩:=uw hu h;obtain⟨b,hb,hk⟩:=ab h;exact isnot_none_gen (oQ hv hb▸hQ _ s.toks hk)
 |Eq=>exact nH r hv hu h λhF h1 h2 h=>(uo hF h1 h2 hu0 h).elim λb t=>t.2.1 c.prog c.w E Q (hQ b s.toks t.1)
 |NotEq=>exact nH r hv hu h λhF h1 h2 h=>BK (k:=λr=>k (!r)) hF h1 h2 hu0 h λb hk=>hQ _ s.toks hk
 |In=>exact nH r hv hu h λhF h1 h2 h=>BH hF h1 h2 h hQ
 |NotIn=>exact nH r hv hu h λhF h1 h2 h=>mX (P:=λv u=>wpAny (model c.prog c.w) A (compareOp .NotIn v u) Q E s) h1 h2 h (λ_ _ _ _ h=>h.elim) (λ_ _ _ _ h=>h.elim)
 |Lt=>exact nH r hv hu h λhF h1 h2 h=>mX (P:=λv u=>wpAny (model c.prog c.w) A (compareOp .Lt v u) Q E s) h1 h2 h (λ_ _ _ _ h=>P.lt_int (hQ _ s.toks h)) (λ_ _ _ _ h=>P.lt_str (hQ _ s.toks (Af h)))
 |LtE=>exact nH r hv hu h λhF h1 h2 h=>mX (P:=λv u=>wpAny (model c.prog c.w) A (compareOp .LtE v u) Q E s) h1 h2 h (λ_ _ _ _ h=>P.le_int (hQ _ s.toks h)) (λ_ _ _ _ h=>P.le_str (hQ _ s.toks (Ae h)))
 |Gt=>exact nH r hv hu h λhF h1 h2 h=>mX (P:=λv u=>wpAny (model c.prog c.w) A (compareOp .Gt v u) Q E s) h1 h2 h (λ_ _ _ _ h=>P.gt_int (hQ _ s.toks h)) (λ_ _ _ _ h=>P.gt_str (hQ _ s.toks (Af h)))
 |GtE=>exact nH r hv hu h λhF h1 h2 h=>mX (P:=λv u=>wpAny (model c.prog c.w) A (compareOp .GtE v u) Q E s) h1 h2 h (λ_ _ _ _ h=>P.ge_int (hQ _ s.toks h)) (λ_ _ _ _ h=>P.ge_str (hQ _ s.toks (Ae h)))
theorem jx{op:CmpOp}{k:Bool->Prop}{Q:Value->Shared->Prop}(r:al c gh L σ s)(hv:RV c.prog c.w gh v x)(hu:RV c.prog c.w gh u y)(hu0:A.units+16<cLine)
  (h:cI (lW op) x y σ k) (hQ:∀b tk,0<tk->k b->Q (.bool b) {s with toks:=tk}):wpAny (model c.prog c.w) A (compareOp op v u) Q E s:=
 aV r.tk (xN r hv hu hu0 h λb tk hk ht=>hQ b tk ht hk)
end
end Mine.A
namespace Mine.A
section
variable {c:Cx} {g:G} {K:Frag} {p:CP} {loose:List PySem.Str} {mg mb:PySem.Str->Option Value} {f:Fm} {d:Nat}
theorem bG.u16{A:Around}(rm:bG d A):A.units+16<cLine:=by have:=rm.un;lia
noncomputable def zG(c:Cx)(g:G)(L:Addr)(d:Nat):Prop:=
 ∀gh σ s A x fa (xv:V) v (k:Bool->St->Prop) (Q:Bool->Shared->Prop),al c gh L σ s->bG d A->RV c.prog c.w gh v xv->g.con x=some fa->cC g fa [.st x,xv] [] σ (λv s=>ai (av s.H v) λt=>k t s)->
  (∀gh' Z' s' b,a8 false L gh s gh' s'->al c gh' L Z' s'->k b Z'->Q b s')->wpAny (model c.prog c.w) A (contains (.ref x) v) Q bM s
theorem HD{op:CmpOp}(h:Nat.beq (lW op) 8=true):op=.In:=by induction op<;>first|rfl|exact bU h
theorem qx{op:CmpOp}{gh:Gh}{L:Addr}{σ:St}{s:Shared}{A:Around}{v u:Value}{x y:V}{k:Bool->St->Prop}{Q:Value->Shared->Prop}(hI:zG c g L d)(r:al c gh L σ s)(rm:bG d A)(hv:RV c.prog c.w gh v x)(hu:RV c.prog c.w gh u y)
  (h:nG g (lW op) x y σ k) (hp:∀gh' Z' s' b,a8 false L gh s gh' s'->al c gh' L Z' s'->k b Z'->Q (.bool b) s'):wpAny (model c.prog c.w) A (compareOp op v u) Q bM s:=by
 have std:cI (lW op) x y σ (λv=>k v σ)->wpAny (model c.prog c.w) A (compareOp op v u) Q bM s:=λh=>
  jx r hv hu rm.u16 h λt tk ht hk=>hp gh σ _ t (.toks false tk) (r.toks ht) hk
 induction y using V.casesOn with
 |st a=>
  have h:=pG h
  split at h
  ·rename_i h8
   obtain rfl:=HD h8
   obtain⟨fa,hf,hk⟩:=ab h
   obtain rfl:=(hu:u=.ref a)
   exact wpAny_bind (hI gh σ s A a fa x v k _ r rm hv hf hk λgh' Z' s' b x' r' hk=>wpAny_pure (hp gh' Z' s' b x' r' hk))
  ·exact h.elim
 |c f=>exact std h
 |ob i=>exact std h
 |mth f i=>exact std h
theorem DG(hI:zG c g f.L d){op:CmpOp}{x y:X}{e e':Expr}{pos:Pos}(h:SE c g f d x e)(h':SE c g f d y e')(hm:behindInMarks op e'=false):SE c g f d (.cmp (lW op) x y) (.Compare e [op] [e'] pos):=by
 intro gh σ s A k Q r rm hev hp
 refine wpAny_Compare1 (h gh σ s A _ _ r rm hev λgh₁ σ₁ s₁ v a x₁ r₁ hv hk=>h' gh₁ σ₁ s₁ A _ _ r₁ rm hk λgh₂ σ₂ s₂ u b x₂ r₂ hu hk=> ?_) hm
 exact qx hI r₂ rm (hv.mono x₂.le) hu hk λgh₃ Z3 s₃ t x₃ r₃ hk=>hp gh₃ Z3 _ _ (.c (.bol t)) ((x₁.trans r r₁ x₂).trans r r₂ x₃) r₃ (fA (.bol t)) hk
theorem Dm(hI:zG c g f.L d){op:CmpOp}{x y:X}{e e':Expr}{pos:Pos}(h:SE c g f d x e)(h':SE c g f d y e')(hm:behindInMarks op e'=false):ST c g f d (.cmp (lW op) x y) (.Compare e [op] [e'] pos):=by
 intro gh σ s A k Q r rm hev hp
 refine wpAny_isTrue_Compare1 (h gh σ s A _ _ r rm hev λgh₁ σ₁ s₁ v a x₁ r₁ hv hk=>h' gh₁ σ₁ s₁ A _ _ r₁ rm hk λgh₂ σ₂ s₂ u b x₂ r₂ hu hk=> ?_) hm
 refine qx hI r₂ rm (hv.mono x₂.le) hu hk λgh₃ Z3 s₃ t x₃ r₃ hk=>wpAny_truthy_bool ?_
 obtain⟨t',ht',hk⟩:=ab hk
 obtain rfl:=Option.some.inj ht'
 exact hp gh₃ Z3 _ t ((x₁.trans r r₁ x₂).trans r r₂ x₃) r₃ hk
theorem Dx{x y z:X}{e e' e'':Expr}{pos:Pos}(h:SE c g f d x e)(h':SE c g f d y e')(h'':SE c g f d z e''):SE c g f d (.rng x y z) (.Compare e [.LtE,.LtE] [e',e''] pos):=by
 intro gh σ s A k Q r rm hev hp
 refine Compare_chain (h gh σ s A _ _ r rm hev λgh₁ σ₁ s₁ v a x₁ r₁ hv hk=>chain_link (h' gh₁ σ₁ s₁ A _ _ r₁ rm hk λgh₂ σ₂ s₂ u b x₂ r₂ hu hk=> ?_)) (by obtain⟨⟩:=e''<;>first|rfl|(simp [lastMarks,behindInMarks]))
 have x12:=x₁.trans r r₁ x₂
 refine jx (op:=.LtE) r₂ (hv.mono x₂.le) hu rm.u16 hk λt tk ht hk=>wpAny_truthy_bool ?_
 have hk:=pG hk
 have x12':=x12.trans r r₂ (.toks false tk)
 induction t using Bool.casesOn with
 |false=>exact hp gh₂ σ₂ _ _ (.c (.bol false)) x12' (r₂.toks ht) (fA (.bol false)) hk
 |true=>
  refine chain_last (h'' gh₂ σ₂ _ A _ _ (r₂.toks ht) rm hk λgh₃ Z3 s₃ w q x₃ r₃ hw hk=> ?_)
  refine jx (op:=.LtE) r₃ (hu.mono x₃.le) hw rm.u16 hk λt' tk' ht' hk=> ?_
  exact hp gh₃ Z3 _ _ (.c (.bol t')) ((x12'.trans r (r₂.toks ht) x₃).trans r r₃ (.toks false tk')) (r₃.toks ht') (fA (.bol t')) hk
theorem Dj{x y z:X}{e e' e'':Expr}{pos:Pos}(h:SE c g f d x e)(h':SE c g f d y e')(h'':SE c g f d z e''):ST c g f d (.rng x y z) (.Compare e [.LtE,.LtE] [e',e''] pos):=by
 intro gh σ s A k Q r rm hev hp
 refine isTrue_chain (h gh σ s A _ _ r rm hev λgh₁ σ₁ s₁ v a x₁ r₁ hv hk=>test_link (h' gh₁ σ₁ s₁ A _ _ r₁ rm hk λgh₂ σ₂ s₂ u b x₂ r₂ hu hk=> ?_)) (by obtain⟨⟩:=e''<;>first|rfl|(simp [lastMarks,behindInMarks]))
 have x12:=x₁.trans r r₁ x₂
 refine jx (op:=.LtE) r₂ (hv.mono x₂.le) hu rm.u16 hk λt tk ht hk=>wpAny_truthy_bool ?_
 have hk:=pG hk
 have x12':=x12.trans r r₂ (.toks false tk)
 induction t using Bool.casesOn with
 |false=>exact hp gh₂ σ₂ _ false x12' (r₂.toks ht) hk
 |true=>
  refine test_last (h'' gh₂ σ₂ _ A _ _ (r₂.toks ht) rm hk λgh₃ Z3 s₃ w q x₃ r₃ hw hk=> ?_)
  refine jx (op:=.LtE) r₃ (hu.mono x₃.le) hw rm.u16 hk λt' tk' ht' hk=>wpAny_truthy_bool ?_
  exact hp gh₃ Z3 _ t' ((x12'.trans r (r₂.toks ht) x₃).trans r r₃ (.toks false tk')) (r₃.toks ht') hk
theorem ym{F:Addr->Option Obj}{v u:Value}{fx fy:FV}{K:Int->Int->Prop}{P:Value->Value->Prop}(hv:RF c.prog c.w F v fx)(hu:RF c.prog c.w F u fy)(h:ai (aI fx) λx=>ai (aI fy) λy=>K x y)
  (hP:∀x t y t',K x y->P (.int x t) (.int y t')):P v u:=by
 obtain⟨x,e,h⟩:=ab h
 obtain⟨y,e',h⟩:=ab h
 obtain⟨t,rfl⟩:=hv.aI e
 obtain⟨t',rfl⟩:=hu.aI e'
 exact hP x t y t' h
theorem xO{gh:Gh}{L:Addr}{σ:St}{s:Shared}{A:Around}{E:Value->Shared->Prop}{F:Addr->Option Obj}{v u:Value}{fx fy:FV}{k:FV->Prop}{Q:Value->Shared->Prop}
  (hv:RF c.prog c.w F v fx) (hu:RF c.prog c.w F u fy) (h:pH fx fy k)
  (hQ:∀w r tk,(∀F',RF c.prog c.w F' w r)->k r->Q w {s with toks:=tk}):wpAny (model c.prog c.w) A (binaryOp .Add v u) Q E s:=by
 induction fx using FV.casesOn with
 |str x=>
  obtain⟨y,e,hl,hk⟩:=ab h
  obtain⟨t,rfl,_⟩:=hv.x
  obtain⟨t',rfl,_⟩:=hu.aS e
  refine SB.add (λt'' tk=> ?_) (by show(dy x).length+(dy y).length≤_;rw [f0,f0,sizeLine_eq];exact hl)
  have e:(⟨x.toArray⟩:PySem.Str)++⟨y.toArray⟩=⟨(x++y).toArray⟩:=by show PySem.Str.mk (x.toArray++y.toArray)=_;simp
  refine e▸ ?_
  exact hQ _ _ tk (λF'=>.str (x++y) t'' (by rw [List.length_append];exact hl)) hk
 |int x=>
  obtain⟨y,e,hk⟩:=ab h
  obtain⟨t,rfl⟩:=hv.x
  obtain⟨t',rfl⟩:=hu.aI e
  exact P.add_int (hQ _ _ _ (λF'=>.int _ _) hk)
 |_=>exact h.elim
theorem BL{gh:Gh}{L:Addr}{σ:St}{s:Shared}{A:Around}{E:Value->Shared->Prop}{F:Addr->Option Obj}{v u:Value}{fx fy:FV}{op:Operator}{o:Nat}{k:FV->Prop}{Q:Value->Shared->Prop}
  (ho:C2 op=some o) (hv:RF c.prog c.w F v fx) (hu:RF c.prog c.w F u fy) (h:HE o fx fy k)
  (hQ:∀w r tk,(∀F',RF c.prog c.w F' w r)->k r->Q w {s with toks:=tk}):wpAny (model c.prog c.w) A (binaryOp op v u) Q E s:=by
 cases op with
 |Add=>obtain rfl:=Option.some.inj ho;exact xO (gh:=gh) (L:=L) (σ:=σ) hv hu h hQ
 |Sub=>obtain rfl:=Option.some.inj ho;exact ym (P:=λv u=>wpAny (model c.prog c.w) A (binaryOp .Sub v u) Q E s) hv hu h λ_ _ _ _ h=>P.sub_int (hQ _ _ _ (λF'=>.int _ _) h)
 |Mod=>obtain rfl:=Option.some.inj ho;exact ym (P:=λv u=>wpAny (model c.prog c.w) A (binaryOp .Mod v u) Q E s) hv hu h λ_ _ _ _ h=>mod_int' h.1.1 (hQ _ _ _ (λF'=>.int _ _) h.2)
 |FloorDiv=>obtain rfl:=Option.some.inj ho;exact ym (P:=λv u=>wpAny (model c.prog c.w) A (binaryOp .FloorDiv v u) Q E s) hv hu h λ_ _ _ _ h=>floordiv_int h.1.1 (hQ _ _ _ (λF'=>.int _ _) h.2) (.inl h.1.2)
 |Mult=>obtain rfl:=Option.some.inj ho;exact h.elim
 |_=>cases ho
theorem DH{op:Operator}{o:Nat}{x y:X}{e e':Expr}{pos:Pos}(ho:C2 op=some o)(h:SE c g f d x e)(h':SE c g f d y e')
  (hnl:∀gh σ s A k Q v u a b,al c gh f.L σ s->bG d A->RV c.prog c.w gh v a->RV c.prog c.w gh u b->j8 o a b σ k->cN c f.L gh s k Q->wpAny (model c.prog c.w) A (binaryOp op v u) Q bM s):
  SE c g f d (.bin o x y) (.BinOp e op e' pos):=by
 intro gh σ s A k Q r rm hev hp
 refine wpAny_BinOp (h gh σ s A _ _ r rm hev λgh₁ σ₁ s₁ v a x₁ r₁ hv hk=>h' gh₁ σ₁ s₁ A _ _ r₁ rm hk λgh₂ σ₂ s₂ u b x₂ r₂ hu hk=> ?_)
 exact hnl gh₂ σ₂ s₂ A _ Q v u a b r₂ rm (hv.mono x₂.le) hu hk λgh₃ Z3 s₃ w z x₃ r₃ hw hk=>hp gh₃ Z3 s₃ w z ((x₁.trans r r₁ x₂).trans r r₂ x₃) r₃ hw hk
theorem ly{α:Type}{l:List α}{i:Int}{a:α}(h:d7 l i=some a):∃j,seqIndex? i l.length=some j∧l[j]? =some a∧ -(l.length:Int)≤i∧i<l.length:=by
 unfold d7 at h
 by_cases h0:0≤i
 ·replace h:=(show decide (0≤i)=true from decide_eq_true h0)▸h
  have h:l[i.toNat]? =some a:=h
  have hl:i.toNat<l.length:=by
   rcases Nat.lt_or_ge i.toNat l.length with z|z
   ·exact z
   ·rw [List.getElem?_eq_none z] at h;exact ax h
  refine⟨i.toNat, ?_,h,by lia,by lia⟩
  unfold seqIndex?
  simp only [show¬i<0 by lia,if_false]
  rw [if_pos (by simp;lia)]
 ·rw [show decide (0≤i)=false from decide_eq_false h0] at h
  have h:(Bool.rec none l[(i+l.length).toNat]? (decide (0≤i+l.length)):Option α)=some a:=h
  by_cases h1:0≤i+l.length
  ·rw [show decide (0≤i+l.length)=true from decide_eq_true h1] at h
   have h:l[(i+l.length).toNat]? =some a:=h
   have hl:(i+l.length).toNat<l.length:=by
    rcases Nat.lt_or_ge (i+l.length).toNat l.length with z|z
    ·exact z
    ·rw [List.getElem?_eq_none z] at h;exact ax h
   refine⟨(i+l.length).toNat, ?_,h,by lia,by lia⟩
   unfold seqIndex?
   simp only [show i<0 by lia,if_true]
   rw [if_pos (by simp;lia)]
  ·rw [show decide (0≤i+l.length)=false from decide_eq_false h1] at h;exact ax h
end
end Mine.A
namespace Mine.A
section
variable {c:Cx} {g:G} {K:Frag} {p:CP} {loose:List PySem.Str} {mg mb:PySem.Str->Option Value} {f:Fm} {d:Nat}
theorem bv.get?{prog:Program}{w:World}{F:Addr->Option Obj}{l:List FV}:∀ {vs:List Value} {j:Nat} {a:FV},bv prog w F vs l->l[j]? =some a->∃v,vs[j]? =some v∧RF prog w F v a:=by
 induction l with
 |nil=>intro vs j a _ h;exact ax h
 |cons x l ih=>
  intro vs j a h e
  obtain⟨v,r,rfl,ha,hr⟩:=h.inv
  induction j using Nat.casesOn with
  |zero=>exact⟨v,rfl,Option.some.inj e▸ha⟩
  |succ j=>exact ih (j:=j) hr e
theorem A9{prog:Program}{w:World}{F:Addr->Option Obj}(a:List Nat){l:List (List Nat×FV)}{r:FV}:∀ {kvs:List (PySem.Str×Value)},i6 prog w F kvs l->tW a l=some r->∃v,valueAt kvs (dy a)=some v∧RF prog w F v r:=by
 induction l with
 |nil=>intro _ _ h;exact ax h
 |cons f l ih=>
  intro kvs h hs
  obtain⟨v,t,rfl,hv,hr⟩:=h.inv
  have hs:(Bool.rec (tW a l) (some f.2) (j1 a f.1):Option FV)=some r:=hs
  rw [cv] at hs
  unfold valueAt at ih⊢
  refine(List.find?_cons)▸ ?_
  by_cases z:a=f.1
  ·subst z
   simp only [decide_true] at hs⊢
   obtain rfl:=Option.some.inj hs;exact⟨_,rfl,hv⟩
  ·have:¬dy f.1=dy a:=λe=>z (gT e).symm
   simp only [z,this,decide_false] at hs⊢
   exact ih hr hs
theorem xn{gh:Gh}{prog:Program}{w:World}(a:List Nat){kvs:List (PySem.Str×Value)}{l:List (List Nat×V)}{r:V}(h:RD prog w gh kvs l)(hs:tW a l=some r):∃v,valueAt kvs (dy a)=some v∧RV prog w gh v r:=by
 induction h with
 |nil=>exact ax hs
 | @cons v vs k x l hv hr ih=>
  have hs:(Bool.rec (tW a l) (some x) (j1 a k):Option V)=some r:=hs
  rw [cv] at hs
  unfold valueAt at ih⊢
  refine(List.find?_cons)▸ ?_
  by_cases z:a=k
  ·subst z
   simp only [decide_true] at hs⊢
   obtain rfl:=Option.some.inj hs;exact⟨_,rfl,hv⟩
  ·have:¬dy k=dy a:=λe=>z (gT e).symm
   simp only [z,this,decide_false] at hs⊢
   exact ih hs
section
variable {gh:Gh} {L:Addr} {σ:St} {s:Shared} {A:Around} {E:Value->Shared->Prop} {v u:Value} {x y:V}
theorem kA{a:Addr}{vs:List Value}{l:List FV}{F:Addr->Option Obj}{i:Int}{t:Tok}{r:FV}{Q:Value->Shared->Prop}(hl:s.heap.IsList a vs.toArray)(hr:bv c.prog c.w F vs l)(hb:l.length≤16777216)
  (hi:d7 l i=some r) (hQ:∀v,RF c.prog c.w F v r->Q v s):wpAny (model c.prog c.w) A (PySem.getItem (.ref a) (.int i t)) Q E s:=by
 obtain⟨j,h1,h2,h3,h4⟩:=ly hi
 obtain⟨v,e1,e2⟩:=hr.get? h2
 unfold seqIndex? at h1
 have hlen:=hr.len
 by_cases h0:i<0
 ·simp only [h0,if_true] at h1
  split at h1
  ·obtain rfl:=Option.some.inj h1
   refine wpAny_getItem_list_neg (x:=v) hl h0 (by rw [List.size_toArray,hlen];exact h3) (by lia) ?_ (hQ v e2)
   rw [List.size_toArray,hlen,List.getElem?_toArray];exact e1
  ·cases h1
 ·simp only [h0,if_false] at h1
  split at h1
  ·obtain rfl:=Option.some.inj h1
   refine wpAny_getItem_list (x:=v) hl (by lia) (by lia) ?_ (hQ v e2)
   rw [List.getElem?_toArray];exact e1
  ·cases h1
theorem qt{F:Addr->Option Obj}{fx fy:FV}{k:FV->Prop}{Q:Value->Shared->Prop}(hF:Holds F s.heap)(hv:RF c.prog c.w F v fx)(hu:RF c.prog c.w F u fy)(h:A2 fx fy k)
  (hQ:∀v r tk,RF c.prog c.w F v r->k r->Q v {s with toks:=tk}):SubscriptOn (model c.prog c.w) A v u Q E s:=by
 induction fx using FV.casesOn with
 |str l=>
  obtain⟨i,ei,h⟩:=ab h
  obtain⟨r,hr,hk⟩:=ab h
  obtain⟨j,h1,h2,h3,h4⟩:=ly hr
  obtain⟨t,rfl,b⟩:=hv.x
  obtain⟨t',rfl⟩:=hu.aI ei
  refine⟨"str",_,PySem.F.slot_str_getitem.lookup,rfl,P.getItem_str (c:=r) ?_ ?_ (hQ _ _ _ (.str [r] _ (by simp)) hk)⟩
  ·rw [Bool.or_eq_false_iff,decide_eq_false_iff_not,decide_eq_false_iff_not]
   exact⟨by lia,by lia⟩
  ·have:(⟨l.toArray⟩:PySem.Str).length=l.length:=by show l.toArray.size=_;simp
   rw [this,h1,Option.bind_some]
   show l.toArray[j]? =some r
   rw [List.getElem?_toArray];exact h2
 |lst l=>
  obtain⟨i,ei,h⟩:=ab h
  obtain⟨r,hr,hk⟩:=ab h
  obtain⟨a,vs,o,rfl,e,q,rr,b⟩:=hv.x
  obtain⟨t',rfl⟩:=hu.aI ei
  exact⟨"list",_,PySem.F.slot_list_getitem.lookup,⟨_,hF _ _ e,by obtain⟨n,z⟩:=q;rw [z]⟩,kA (q.list (hF _ _ e)) rr b hr λv hv=>hQ v r s.toks hv hk⟩
 |tup l=>
  obtain⟨i,ei,h⟩:=ab h
  obtain⟨r,hr,hk⟩:=ab h
  obtain⟨j,h1,h2,h3,h4⟩:=ly hr
  obtain⟨a,vs,o,rfl,e,q,rr,b⟩:=hv.x
  obtain⟨t',rfl⟩:=hu.aI ei
  obtain⟨v,e1,e2⟩:=rr.get? h2
  refine⟨"tuple",_,PySem.F.slot_tuple_getitem.lookup,⟨_,hF _ _ e,by obtain⟨n,z⟩:=q;rw [z]⟩,getItem_tuple (j:=j) (q.tup (hF _ _ e)) (by lia) (by lia) ?_ ?_ (hQ v r s.toks e2 hk)⟩
  ·rw [List.size_toArray,rr.len];exact h1
  ·refine(List.getElem?_toArray)▸ ?_;exact e1
 |dct l=>
  obtain⟨a,ea,h⟩:=ab h
  obtain⟨r,hr,hk⟩:=ab h
  obtain⟨_,o,kvs,rfl,e,n,q,rr,b⟩:=hv.x
  obtain⟨t,rfl,_⟩:=hu.aS ea
  obtain⟨v,e1,e2⟩:=A9 a rr hr
  exact⟨"dict",_,PySem.F.slot_dict_getitem.lookup,(q.at (hF _ _ e)).typeIs,wpAny_getItem_of (jI a t) (q.at (hF _ _ e)).mapOf e1 (hQ v r _ e2 hk)⟩
 |_=>exact h.elim
theorem xK{k:V->St->Prop}{Q:Value->Shared->Prop}(r:al c gh L σ s)(hv:RV c.prog c.w gh v x)(hu:RV c.prog c.w gh u y)(h:oe x y σ k)
  (hQ:∀v z tk,RV c.prog c.w gh v z->k z σ->Q v {s with toks:=tk}):SubscriptOn (model c.prog c.w) A v u Q E s:=by
 obtain⟨f,ef,h'⟩:=ab h
 obtain rfl:=mh ef
 clear h ef
 have h:=h'
 clear h'
 induction x using V.casesOn with
 |ob n=>
  obtain⟨a,ft,e,rfl⟩:=hv
  obtain⟨o,q,h⟩:=ab h
  have ro:=r.ob e q
  induction o using AO.casesOn with
  |dct es=>
   obtain⟨ky,ek,h⟩:=ab h
   obtain⟨z,hz,hk⟩:=ab h
   obtain⟨_,o,kvs,h1,h0,h2,h3,h4⟩:=ro
   obtain⟨t,rfl,_⟩:=RF.aS hu ek
   obtain⟨v,e1,e2⟩:=xn ky h3 hz
   exact⟨"dict",_,PySem.F.slot_dict_getitem.lookup,(h2.at h1).typeIs,wpAny_getItem_of (jI ky t) (h2.at h1).mapOf e1 (hQ v z _ e2 hk)⟩
  |lst l=>
   obtain⟨i,ei,h⟩:=ab h
   obtain⟨z,hz,hk⟩:=ab h
   obtain⟨_,o,vs,h1,h2,h3,h4⟩:=ro
   obtain⟨t,rfl⟩:=RF.aI hu ei
   exact⟨"list",_,PySem.F.slot_list_getitem.lookup,⟨_,h1,by obtain⟨n,z⟩:=h2;rw [z]⟩,kA (h2.list h1) h3 h4 hz λv hv=>hQ v (.c z) s.toks hv hk⟩
  |frz fx=>exact qt r.holds ro.2 hu h λv z tk hz hk=>hQ v (.c z) tk hz hk
  |inst _ _=>exact h.elim
 |c fx=>exact qt r.holds hv hu h λv z tk hz hk=>hQ v (.c z) tk hz hk
 |_=>exact h.elim
theorem tL{Q:Value->Shared->Prop}(h0:0<s.toks)(h:SubscriptOn (model c.prog c.w) A v u (λa s'=>0<s'.toks->Q a s') E s):SubscriptOn (model c.prog c.w) A v u Q E s:=by
 obtain⟨T,id,a,b,z⟩:=h;exact⟨T,id,a,b,aV h0 z⟩
theorem BA{k:V->St->Prop}{Q:Value->Shared->Prop}(r:al c gh L σ s)(hv:RV c.prog c.w gh v x)(hu:RV c.prog c.w gh u y)(h:oe x y σ k)
  (hQ:∀v z tk,0<tk->RV c.prog c.w gh v z->k z σ->Q v {s with toks:=tk}):SubscriptOn (model c.prog c.w) A v u Q E s:=
 tL r.tk (xK r hv hu h λv z tk hv hk ht=>hQ v z tk ht hv hk)
end
theorem uv{i:Expr}(h:(match i with| .Slice .. =>false|_=>true)=true)(o v:Value):subscripted i false o v=operate [o,v] (getItem o v):=by
 obtain⟨⟩:=i<;>first|rfl|cases h
theorem tM{M:Model}{prog:Program}{w:World}{A:Around}{E:Value->Shared->Prop}{s:Shared}{env:Env}{value i:Expr}{pos:Pos}{Q:Value->Shared->Prop}(hs:(match i with| .Slice .. =>false|_=>true)=true)
  (h:wpAny (model prog w) A (eval value env) (λo s₁=>wpAny (model prog w) A (eval i env) (λv s₂=>SubscriptOn (model prog w) A o v Q E s₂) E s₁) E s):
  wpAny (model prog w) A (eval (.Subscript value i pos) env) Q E s:=by
 rw [arm_eval_Subscript]
 refine wpAny_bind (wpAny_mono h (λo s₁ h₁=>wpAny_bind (wpAny_holding (wpAny_mono h₁ (λv s₂ h₂=>wpAny_bind (wpAny_standAt ?_)) λ_ _ x=>x))) λ_ _ x=>x)
 obtain⟨T,id,hl,hT,hg⟩:=h₂
 refine wpAny_bind ?_
 refine(getitemInPython_of_ne hT.not_modules)▸ ?_
 refine wpAny_bind (wpAny_specialOf hT hl (wpAny_pure ?_))
 rw [uv hs]
 exact wpAny_bind (wpAny_operating (wpAny_mono hg (λr s₃ h₃=>wpAny_bind (wpAny_letTemporaryGo (wpAny_pure h₃))) λ_ _ x=>x))
theorem Dv{x y:X}{e e':Expr}{pos:Pos}(hs:(match e' with| .Slice .. =>false|_=>true)=true)(h:SE c g f d x e)(h':SE c g f d y e'):SE c g f d (.sub x y) (.Subscript e e' pos):=by
 intro gh σ s A k Q r rm hev hp
 refine tM (M:=model c.prog c.w) hs (h gh σ s A _ _ r rm hev λgh₁ σ₁ s₁ v a x₁ r₁ hv hk=>h' gh₁ σ₁ s₁ A _ _ r₁ rm hk λgh₂ σ₂ s₂ u b x₂ r₂ hu hk=> ?_)
 exact BA r₂ (hv.mono x₂.le) hu hk λw z tk ht hw hk=>hp gh₂ σ₂ _ w z ((x₁.trans r r₁ x₂).trans r r₂ (.toks false tk)) (r₂.toks ht) hw hk
end
end Mine.A
namespace Mine.A
structure eF (K:Frag) (C:Addr):Prop where
 ga:findIn K (.ref C) "__getattribute__"=some (some (.builtin "object.__getattribute__"))
 gk:findIn K (.ref C) "__getattr__"=some none
 sa:findIn K (.ref C) "__setattr__"=some (some (.builtin "object.__setattr__"))
 po:plainOver K C=true
 hd:(clsIn K C).any (·.hasDict)=true
structure rC (K:Frag) (C f:Addr) (x:PySem.Str):Prop where
 fi:findIn K (.ref C) x=some (some (.ref f))
 ty:typeIn K (.ref f)=some (.type "function")
 ge:specialIn K (.ref f) "__get__"=some (some (.builtin "function.__get__"))
 ta:takesIn K (.ref f)=some false
 co:copiedNames.contains x=false
 fn:fnIn K f=true
noncomputable def jA:List PySem.Str:=["append","pop","join","replace","count","rfind","split","lower","upper","startswith","find","get","update","index","keys","has_"]
structure pR (c:Cx) (K:Frag) (g:G):Prop where
 own:∀C n,g.own C n=true->eF K C∧findIn K (.ref C) (c.nm n)=some none
 cls:∀C n f,g.cls C n=some f->eF K C∧rC K C f (c.nm n)
 catt:∀C n v,g.catt C n=some v->eF K C∧copiedNames.contains (c.nm n)=false∧∃u,findIn K (.ref C) (c.nm n)=some (some u)∧specialIn K u "__get__"=some none∧handedIn u=true∧
  RV c.prog c.w ⟨c.base.get?,λ_=>none⟩ u v
 satt:∀a n v,g.satt a n=some v->∃C dx od u,K.lookup a=some (j2 C (some dx))∧K.lookup dx=some od∧eF K C∧findObj K C (some od) (c.nm n)=some (.value u)∧handedIn u=true∧
  RV c.prog c.w ⟨c.base.get?,λ_=>none⟩ u v
 scls:∀a n f,g.scls a n=some f->∃C dx od,K.lookup a=some (j2 C (some dx))∧K.lookup dx=some od∧eF K C∧rC K C f (c.nm n)∧shadowIn (some od) (c.nm n)=some false
 con:∀a f,g.con a=some f->∃C dx od,K.lookup a=some (j2 C (some dx))∧K.lookup dx=some od∧findIn K (.ref C) "__contains__"=some (some (.ref f))∧isFn K (.ref f)=true
 ini:∀C f,g.ini C=some f->makesIn K C=true∧findIn K (.ref C) "__init__"=some (some (.ref f))∧typeIn K (.ref f)=some (.type "function")∧keepIn K (.ref C)=true∧g.cid C<64
 fn:∀f,g.fn f=true->fnIn K f=true
 mn:∀n,n<16->c.nm n=jA.getD n ""
theorem tc{prog:Program}{w:World}{F:Addr->Option Obj}{v:Value}{f:FV}(h:RF prog w F v f):handedIn v=true:=by cases h<;>rfl
theorem s9{prog:Program}{w:World}{g:Gh}{v:Value}{x:V}(h:RV prog w g v x):handedIn v=true:=by
 induction x using V.casesOn with
 |c f=>exact tc h
 |ob i=>obtain⟨a,ft,_,rfl⟩:=h;rfl
 |st a=>obtain rfl:=(h:v=.ref a);rfl
 |mth a i=>obtain⟨q,a,ft,rfl,_⟩:=h;rfl
section
variable {c:Cx} {gh:Gh}
theorem ng{n m:Nat}{t:Tok}:Value.isStr (.str (c.nm m) t) (c.nm n)=decide (n=m):=by
 show(c.nm m==c.nm n)=_
 by_cases h:n=m
 ·subst h;simp
 ·have:¬c.nm m=c.nm n:=λe=>h (c.inj _ _ e).symm
  simp [h,this]
theorem kB{n m:Nat}{t:Tok}{e:DictEntry}{es:List DictEntry}(hk:e.key=.str (c.nm m) t):getL (c.nm n) (e::es)=if n=m then some (some e.val)else getL (c.nm n) es:=by
 have hr:(e::es).any (·.refKey)=es.any (·.refKey):=by rw [List.any_cons,show e.refKey=false from by unfold DictEntry.refKey;rw [hk]];rfl
 unfold getL
 rw [List.find?_cons,hk,ng]
 by_cases z:n=m
 ·simp only [z,decide_true,if_true]
 ·simp only [z,decide_false,if_false,hr]
theorem ir{n:Nat}{v:V}{es:List DictEntry}{l:List (Nat×V)}(h:RI c.prog c.w c.nm gh es l)(hl:lk n l=some v):∃u,getL (c.nm n) es=some (some u)∧RV c.prog c.w gh u v:=by
 induction h with
 |nil=>exact ax hl
 | @cons e es m t f l hk hv hr ih=>
  rw [aj] at hl
  rw [kB hk]
  by_cases z:n=m
  ·rw [if_pos z] at hl⊢;exact⟨_,rfl,Option.some.inj hl▸hv⟩
  ·rw [if_neg z] at hl⊢;exact ih hl
theorem iu{n:Nat}{es:List DictEntry}{l:List (Nat×V)}(h:RI c.prog c.w c.nm gh es l)(hl:lk n l=none):getL (c.nm n) es=some none:=by
 induction h with
 |nil=>rfl
 | @cons e es m t f l hk hv hr ih=>
  rw [aj] at hl
  rw [kB hk]
  by_cases z:n=m
  ·rw [if_pos z] at hl;cases hl
  ·rw [if_neg z] at hl⊢;exact ih hl
theorem RI.len{es:List DictEntry}{l:List (Nat×V)}(h:RI c.prog c.w c.nm gh es l):es.length=l.length:=by
 induction h with
 |nil=>rfl
 |cons _ _ _ ih=>exact congrArg (· +1) ih
theorem DN{n:Nat}{hsh:Int}{t:Tok}{u:Value}{v:V}(hu:RV c.prog c.w gh u v){es:List DictEntry}{l:List (Nat×V)}(h:RI c.prog c.w c.nm gh es l):
  RI c.prog c.w c.nm gh (putL (c.nm n) hsh (.str (c.nm n) t) u es) (put n v l):=by
 induction h with
 |nil=>exact .cons (e:=⟨hsh,.str (c.nm n) t,u⟩) rfl hu .nil
 | @cons e es m t' f l hk hv hr ih=>
  rw [mU]
  unfold putL
  rw [hk,ng]
  by_cases z:n=m
  ·rw [if_pos z]
   simp only [z,decide_true,if_true]
   exact .cons (e:=⟨e.hash,.str (c.nm m) t',u⟩) rfl hu hr
  ·rw [if_neg z]
   simp only [z,decide_false]
   exact .cons hk hv ih
end
section
variable {c:Cx} {g:G} {K:Frag} {gh:Gh} {L:Addr} {σ:St} {s:Shared} {A:Around} {v:Value} {x:V}
theorem lx{h:Heap}{a C dx:Addr}{es:List DictEntry}{n:Nat}(h1:h.get? a=some (j2 C (some dx)))(h2:h.get? dx=some (dictOf es n)):InstAt h a (j2 C (some dx)) C (some (dictOf es n)):=⟨h1,rfl,rfl,h2⟩
theorem eF.cd{C:Addr}(h:eF K C):∃cd,clsIn K C=some cd∧cd.hasDict=true:=any_some h.hd
theorem nu{C:Addr}{es:List DictEntry}{n:Nat}{nm:PySem.Str}{u:Value}(h:eF K C)(hn:findIn K (.ref C) nm=some none)(hg:getL nm es=some (some u)):findObj K C (some (dictOf es n)) nm=some (.value u):=by
 obtain⟨cd,h1,h2⟩:=h.cd
 unfold findObj
 rw [h1,hn,Option.bind_some,Option.bind_some,Option.bind_some]
 show(W.ownOf cd _ nm).bind _=_
 unfold W.ownOf
 rw [if_pos h2]
 show(lookIn nm (dictOf es n)).bind _=_
 rw [lookIn_dict,hg]
 rfl
theorem vx{C f:Addr}{es:List DictEntry}{n:Nat}{nm:PySem.Str}(h:eF K C)(m:rC K C f nm)(hg:getL nm es=some none):findObj K C (some (dictOf es n)) nm=some (.bind (.builtin "function.__get__") (.ref f)):=by
 obtain⟨cd,h1,h2⟩:=h.cd
 unfold findObj
 rw [h1,m.fi,Option.bind_some,Option.bind_some]
 dsimp only
 rw [m.ge,Option.bind_some]
 dsimp only
 (refine m.ta▸ ?_;rw [Option.bind_some])
 show(W.ownOf cd _ nm).bind _=_
 unfold W.ownOf
 rw [if_pos h2]
 show(lookIn nm (dictOf es n)).bind _=_
 rw [lookIn_dict,hg,Option.bind_some]
 dsimp only
 refine m.co▸ ?_
 rfl
theorem vy{C:Addr}{es:List DictEntry}{n:Nat}{nm:PySem.Str}{u:Value}(h:eF K C)(hc:copiedNames.contains nm=false)(hn:findIn K (.ref C) nm=some (some u))(hs:specialIn K u "__get__"=some none)(hh:handedIn u=true)
  (hg:getL nm es=some none):findObj K C (some (dictOf es n)) nm=some (.value u):=by
 obtain⟨cd,h1,h2⟩:=h.cd
 unfold findObj
 rw [h1,hn,Option.bind_some,Option.bind_some]
 dsimp only
 rw [hs,Option.bind_some]
 dsimp only
 rw [Option.bind_some]
 show(W.ownOf cd _ nm).bind _=_
 unfold W.ownOf
 rw [if_pos h2]
 show(lookIn nm (dictOf es n)).bind _=_
 rw [lookIn_dict,hg,Option.bind_some]
 dsimp only
 refine hc▸ ?_
 simp [hh]
theorem uq(X:K.In c.base)(Y:pR c K g){n:Nat}{k:V->St->Prop}{Q:Value->Shared->Prop}{b:Bool}(r:al c gh L σ s)(hv:RV c.prog c.w gh v x)(h:nK g x n σ k)(hp:cN c L gh s k Q):
  wpAny (model c.prog c.w) A (getAttr v (c.nm n) b) Q bM s:=by
 have Xs:K.In s.heap:=X.keeps r.keepB
 induction x using V.casesOn with
 |c f=>exact False.elim h
 |mth f i=>exact False.elim h
 |st a=>
  obtain rfl:=(hv:v=.ref a)
  obtain⟨z,hz,hk⟩:=ab h
  obtain⟨C,dx,od,u,h1,h2,h3,h4,h5,h6⟩:=Y.satt a n z hz
  have I:InstAt s.heap a (j2 C (some dx)) C (some od):=⟨Xs _ _ h1,rfl,rfl,Xs _ _ h2⟩
  exact get_value Xs I h3.ga h4 h5 (hp gh σ _ u z (.toks _ _) r.tok1 (mj r h6) hk)
 |ob i=>
  obtain⟨a,ft,e,rfl⟩:=hv
  obtain⟨o,q,h⟩:=ab h
  have ro:=r.ob e q
  induction o using AO.casesOn with
  |inst C dd=>
   obtain⟨dx,es,m,hft,hne,h1,h2,h3⟩:=ro
   have I:=lx h1 h2
   have h:pJ g i n σ k C dd:=h
   unfold pJ at h
   cases hz:lk n dd with
   |some z=>
    rw [hz] at h
    obtain⟨ho,h⟩:=sX h
    obtain⟨c1,c2⟩:=Y.own C n ho
    obtain⟨u,g1,g2⟩:=ir h3 hz
    exact get_value Xs I c1.ga (nu c1 c2 g1) (s9 g2) (hp gh σ _ u z (.toks _ _) r.tok1 g2 h)
   |none=>
    rw [hz] at h
    have gn:=iu h3 hz
    cases hf:g.cls C n with
    |some fa=>
     rw [hf] at h
     obtain⟨c1,c2⟩:=Y.cls C n fa hf
     refine get_bind Xs I c1.ga (vx c1 c2 gn) c1.gk (wpAny_call (fn_get Xs c2.ty ?_))
     show wpAny _ _ (handedOut (.ref s.heap.objs.size)) _ _ _
     rw [handedOut_of rfl]
     refine wpAny_pure ?_
     obtain⟨r1,x1⟩:=r.tok1.allocF (o:=xW fa a) rfl
     exact hp _ σ _ _ (.mth fa i) ((a8.toks false (s.toks+1)).trans r r.tok1 x1) r1 ⟨_,a,ft,rfl,if_pos rfl,e⟩ h
    |none=>
     rw [hf] at h
     obtain⟨z,hz',hk⟩:=ab h
     obtain⟨c1,c2,u,c3,c4,c5,c6⟩:=Y.catt C n z hz'
     exact get_value Xs I c1.ga (vy c1 c2 c3 c4 c5 gn) c5 (hp gh σ _ u z (.toks _ _) r.tok1 (mj r c6) hk)
  |_=>exact h.elim
end
end Mine.A
namespace Mine.A
noncomputable def jv(h:Heap)(bad:List Addr):List (Addr×Obj):=(List.range h.objs.size).filterMap λa=>if a∈bad then none else(h.get? a).map λo=>(a,o)
theorem eO{h:Heap}{bad:List Addr}{p:Addr×Obj}:p∈jv h bad↔p.1∉bad∧h.get? p.1=some p.2:=by
 unfold jv
 rw [List.mem_filterMap]
 constructor
 ·rintro ⟨a,_,e⟩
  split at e
  ·exact ax e
  ·rename_i q
   obtain⟨o,e1,rfl⟩:=Option.map_eq_some_iff.mp e
   exact⟨q,e1⟩
 ·rintro ⟨h1,h2⟩
  refine⟨p.1,List.mem_range.mpr (Heap.lt_size h2), ?_⟩
  (rw [if_neg h1];refine h2▸ ?_);rfl
theorem LN{h:Heap}{L:Addr}{m:PySem.Str->Option Value}(N:h.Ns L m):Fr {} L h m:=⟨N,λb o e=>by simp [Heap.get?] at e,Nat.zero_le _⟩
theorem Gp(a:Addr):({}:Heap).get? a=none:=by simp [Heap.get?]
theorem Ac{h:Heap}{L:Addr}{bad:List Addr}(hL:L∈bad):News {} L h (jv h bad):=λp hp=>
 have h:=eO.mp hp;⟨h.2,λe=>h.1 (e▸hL),Gp _⟩
theorem AH{g:Gh}{i:Nat}{a:Addr}{ft:List Addr}(ft':List Addr)(e:g.φ i=some (a,ft)):Le false g (g.at i (a,ft')):=
 ⟨λ_ _ e=>e,λj b fb e2 _=>by
  by_cases z:j=i
  ·subst z;replace e2:=e▸e2;cases e2;exact⟨ft',by exact Gh.at_self⟩
  ·exact⟨fb,(Gh.at_ne (z)).trans e2⟩⟩
theorem uj(x:PySem.Str)(hsh:Int)(k v:Value):∀es:List DictEntry,(putL x hsh k v es).length≤es.length+1:=by
 intro es
 induction es with
 |nil=>
  exact Nat.le_refl _
 |cons e r ih=>
  unfold putL
  split
  ·simp
  ·simpa using ih
section
variable {c:Cx} {g:G} {K:Frag} {gh:Gh} {L:Addr} {σ:St} {s:Shared} {A:Around}
theorem BD(X:K.In c.base){i n:Nat}{a C:Addr}{ft:List Addr}{d:List (Nat×V)}{u:Value}{v:V}{Q:Unit->Shared->Prop}(r:al c gh L σ s)(e:gh.φ i=some (a,ft))(q:lk i σ.H=some (.inst C d))
  (c1:eF K C) (c2:findIn K (.ref C) (c.nm n)=some none) (hw:RV c.prog c.w gh u v) (hdl:d.length≤900)
  (hQ:∀gh' s',a8 false L gh s gh' s'->al c gh' L (aR σ (put i (.inst C (put n v d)) σ.H)) s'->Q () s'):wpAny (model c.prog c.w) A (setAttr (.ref a) (c.nm n) u) Q bM s:=by
 have Xs:K.In s.heap:=X.keeps r.keepB
 have ro:=r.ob e q
 obtain⟨dx,es,m,hft,hne,h1,h2,h3⟩:=ro
 have I:=lx h1 h2
 obtain⟨mm,N,hm⟩:=r.loc
 have hgl:(lookIn (c.nm n) (dictOf es m)).isSome=true:=by
  rw [lookIn_dict]
  cases z:lk n d with
  |none=>rw [iu h3 z];rfl
  |some v=>obtain⟨u,g1,_⟩:=ir h3 z;rw [g1];rfl
 have offd:=r.off dx ⟨i,a,ft,e,by rw [hft];exact .tail _ (.head _)⟩
 have N0:News {} L s.heap ([]++(dx,dictOf es m)::jv s.heap [dx,L]):=λp hp=>by
  rcases List.mem_cons.mp (show p∈(dx,dictOf es m)::jv s.heap [dx,L] from hp)with rfl|hp
  ·exact⟨h2,offd.2.1,Gp _⟩
  ·exact Ac (.tail _ (.head _)) p hp
 refine set_plain Xs I c1.sa (osa_dict (LN N) N0 Xs I rfl c1.po (by unfold takerIn;refine c2.symm▸ ?_;rfl) c1.hd hgl (λ_ h=>(List.not_mem_nil h).elim) (λp hp=> ?_)
  (putName_dict _ _ _ _ _ _) rfl (Nat.le_trans (uj _ _ _ _ es) (by refine h3.len.symm▸ ?_;lia)) λh' F' N'=> ?_)
 ·have:=(eO.mp hp).1
  intro z;exact this (by refine z.symm▸ ?_;exact .head _)
 ·have hk:∀x o,x≠L->x≠dx->s.heap.get? x=some o->h'.get? x=some o:=λx o hl hd' ho=>
   (N' (x,o) (List.mem_append_right _ (.tail _ (eO.mpr ⟨by simp [hl,hd'],ho⟩)))).1
  have hd':=(N' (dx,_) (List.mem_append_right _ (.head _))).1
  have offa:=r.off a ⟨i,a,ft,e,by rw [hft];exact .head _⟩
  obtain⟨r1,x1⟩:=r.change (h':=h') (o':=.inst C (put n v d)) (ft':=ft) (tk:=s.toks+1+1) (Nat.succ_pos _) e
   (λx o hl ho hx=>hk x o hl (λz=>hx (by(rw [hft];refine z▸ ?_);exact .tail _ (.head _))) ho) (λx hx=>.inl hx)
   (λx hx=>by
    replace hx:=hft▸hx
    rcases List.mem_cons.mp hx with rfl|hx
    ·exact⟨_,hk _ _ offa.2.1 hne h1⟩
    ·refine(List.mem_singleton.mp hx)▸ ?_;exact⟨_,hd'⟩)
   ⟨mm,F'.ns,hm⟩
   ⟨dx,_,_,hft,hne,hk _ _ offa.2.1 hne h1,hd',(DN hw h3).mono (AH ft e)⟩
  exact hQ _ _ x1 r1
end
end Mine.A
namespace Mine.A
theorem gM{o:Expr}(h:dz o=true)(n:PySem.Str)(env:Env)(t:Sem Value):attributeBase o n env t=t:=by
 cases o with
 |Call f args kws pos=>obtain⟨⟩:=f<;>first|rfl|cases h
 |_=>first|rfl|cases h
section
variable {c:Cx} {g:G} {K:Frag} {f:Fm} {d:Nat}
theorem DI(XK:K.In c.base)(Y:pR c K g){x:X}{e:Expr}{n:Nat}{nm:PySem.Str}{pos:Pos}(hb:dz e=true)(hn:c.nm n=nm)(h:SE c g f d x e):SE c g f d (.att x n) (.Attribute e nm pos):=by
 intro gh σ s A k Q r rm hev hp
 rw [arm_eval_Attribute,gM hb, ←hn]
 refine wpAny_bind (h gh σ s A _ _ r rm hev λgh₁ σ₁ s₁ v a x₁ r₁ hv hk=>wpAny_bind (wpAny_standAt (wpAny_bind (wpAny_holding ?_))))
 exact uq XK Y r₁ hv hk λgh₂ σ₂ s₂ u b x₂ r₂ hu hk=>wpAny_bind (wpAny_letTemporaryGo (wpAny_pure (hp gh₂ σ₂ s₂ u b (x₁.trans r r₁ x₂) r₂ hu hk)))
noncomputable def SL(c:Cx)(g:G)(f:Fm)(d:Nat)(x:X)(es:List Expr):Prop:=
 ∀gh σ s A (k:List V->St->Prop) (Q:List Value->Shared->Prop) pos,al c gh f.L σ s->bG d A->ev g x σ k->
  (∀gh' Z' s' vs xs,a8 false f.L gh s gh' s'->al c gh' f.L Z' s'->eE c.prog c.w gh' vs xs->k xs Z'->Q vs s')->wpAny (model c.prog c.w) A (spliced (backTo pos (starEach es f.env))) Q bM s
theorem d8{e:Expr}(h:cZ e=true)(es:List Expr)(env:Env):starEach (e::es) env=(false,eval e env)::starEach es env:=by
 obtain⟨⟩:=e<;>first|rfl|cases h
theorem Dt:SL c g f d .nil []:=by
 intro gh σ s A k Q pos r rm hev hp
 exact wpAny_items_nil (hp gh σ s [] [] (.refl _ _ _ _) r .nil hev)
theorem zx{x y:X}{e:Expr}{es:List Expr}(hs:cZ e=true)(h:SE c g f d x e)(h':SL c g f d y es):SL c g f d (.cons x y) (e::es):=by
 intro gh σ s A k Q pos r rm hev hp
 rw [d8 hs]
 show wpAny _ _ (spliced ((false,eval e f.env)::backTo pos (starEach es f.env))) _ _ _
 unfold spliced
 refine wpAny_bind (h gh σ s A _ _ r rm hev λgh₁ σ₁ s₁ v a x₁ r₁ hv hk=> ?_)
 refine wpAny_bind (wpAny_pure (wpAny_bind (wpAny_holding ?_)))
 refine h' gh₁ σ₁ s₁ A _ _ pos r₁ rm hk λgh₂ σ₂ s₂ vs xs x₂ r₂ hvs hk=> ?_
 exact wpAny_pure (hp gh₂ σ₂ s₂ (v::vs) (a::xs) (x₁.trans r r₁ x₂) r₂ (.cons (hv.mono x₂.le) hvs) hk)
theorem jw{gh:Gh}{L:Addr}{σ:St}{s:Shared}{v:Value}{x:V}{p:FV×List (Nat×AO)}(r:al c gh L σ s)(hv:RV c.prog c.w gh v x)(h:oY σ.H x=some p):
  ∃gh',a8 false L gh s gh' s∧al c gh' L (aR σ p.2) s∧RF c.prog c.w gh'.F v p.1:=by
 induction x using V.casesOn with
 |c f=>obtain rfl:=Option.some.inj h;exact⟨gh,.refl _ _ _ _,r,hv⟩
 |st _=>exact ax h
 |mth _ _=>exact ax h
 |ob i=>
  obtain⟨a,ft,e,rfl⟩:=hv
  obtain⟨o,q,h⟩:=aw h
  have ro:=r.ob e q
  induction o using AO.casesOn with
  |frz f=>obtain rfl:=Option.some.inj h;exact⟨gh,.refl _ _ _ _,r,ro.2⟩
  |lst l=>
   obtain rfl:=Option.some.inj h
   obtain⟨rfl,o,vs,h1,h2,h3,h4⟩:=ro
   obtain⟨g',r',x',rf⟩:=r.freeze (f:=.lst l) e h1 λg' le hF=>.lst hF h2 (bv.mono le.F h3) h4
   exact⟨g',x',r',rf⟩
  |_=>exact ax h
end
end Mine.A
namespace Mine.A
section
variable {c:Cx} {g:G} {K:Frag} {f:Fm} {d:Nat} {L:Addr} {s:Shared}
theorem oX{H:List (Nat×AO)}{x:V}{p:FV×List (Nat×AO)}(h:oY H x=some p){i:Nat}{l:List (List Nat×V)}(hi:lk i H=some (.dct l)):lk i p.2=some (.dct l):=by
 induction x using V.casesOn with
 |c f=>obtain rfl:=Option.some.inj h;exact hi
 |st _=>exact ax h
 |mth _ _=>exact ax h
 |ob j=>
  obtain⟨o,q,h⟩:=aw h
  induction o using AO.casesOn with
  |frz f=>obtain rfl:=Option.some.inj h;exact hi
  |lst l'=>
   obtain rfl:=Option.some.inj h
   show lk i (put j _ H)=_
   rw [af]
   by_cases z:i=j
   ·rw [z,q] at hi;cases hi
   ·exact(if_neg z).trans hi
  |_=>exact ax h
theorem xM{es:List (List Nat×V)}:∀ {σ:St} {p:List (List Nat×FV)×List (Nat×AO)} {gh:Gh} {kvs:List (PySem.Str×Value)},al c gh L σ s->RD c.prog c.w gh kvs es->Gu es σ.H=some p->
  ∃gh',a8 false L gh s gh' s∧al c gh' L (aR σ p.2) s∧i6 c.prog c.w gh'.F kvs p.1∧(∀i l,lk i σ.H=some (.dct l)->lk i p.2=some (.dct l)):=by
 induction es with
 |nil=>
  intro σ p gh kvs rel rd h
  cases rd
  obtain rfl:=Option.some.inj h
  exact⟨gh,.refl _ _ _ _,rel,.nil,λ_ _ e=>e⟩
 |cons e es ih=>
  intro σ p gh kvs rel rd h
  cases rd with
  |cons hv hr=>
   obtain⟨q,e1,h⟩:=aw h
   obtain⟨z,e2,rfl⟩:=cm h
   obtain⟨g1,x1,rel1,rf1⟩:=jw rel hv e1
   obtain⟨g2,x2,rel2,rf2,k2⟩:=ih rel1 (hr.mono x1.le) e2
   exact⟨g2,x1.trans rel rel1 x2,rel2,.cons (RF.mono x2.le.F rf1) rf2,λi l hi=>k2 i l (oX e1 hi)⟩
theorem eM{gh:Gh}{σ:St}{v:Value}{x:V}{p:FV×List (Nat×AO)}(r:al c gh L σ s)(hv:RV c.prog c.w gh v x)(h:frz σ.H x=some p):
  ∃gh',a8 false L gh s gh' s∧al c gh' L (aR σ p.2) s∧RF c.prog c.w gh'.F v p.1:=by
 induction x using V.casesOn with
 |c f=>exact jw r hv h
 |st _=>exact ax h
 |mth _ _=>exact ax h
 |ob i=>
  obtain⟨o,q,h'⟩:=aw h
  induction o using AO.casesOn with
  |frz f=>exact jw r hv ((congrArg (λo=>az o _) q).trans h')
  |lst l=>exact jw r hv ((congrArg (λo=>az o _) q).trans h')
  |inst=>exact ax h'
  |dct es=>
   obtain⟨⟨rr,H₁⟩,e1,rfl⟩:=cm h'
   obtain⟨a,ft,e,rfl⟩:=hv
   obtain⟨hft,o,kvs,h1,h0,h2,h3,h4⟩:=r.ob e q
   obtain⟨g1,x1,r1,rf1,k1⟩:=xM r h3 e1
   obtain⟨a2,ft2,e2,hft2,_⟩:=r1.obs i _ (k1 i es q)
   obtain⟨ft3,e3⟩:=x1.le.f e
   replace e2:=e3▸e2;cases e2
   subst hft2
   obtain⟨g',r',x',rf⟩:=r1.freeze (f:=.dct rr) e3 h1 λg' le hF=>.dct hF h0 h2 (i6.mono le.F rf1) (by rw [←rf1.len,h3.len];exact h4)
   exact⟨g',x1.trans r r1 x',r',rf⟩
theorem qw{xs:List V}:∀ {σ:St} {p:List FV×List (Nat×AO)} {gh:Gh} {vs:List Value},al c gh L σ s->eE c.prog c.w gh vs xs->sF xs σ.H=some p->
  ∃gh',a8 false L gh s gh' s∧al c gh' L (aR σ p.2) s∧bv c.prog c.w gh'.F vs p.1:=by
 induction xs with
 |nil=>
  intro σ p gh vs rel rd h
  cases rd
  obtain rfl:=Option.some.inj h
  exact⟨gh,.refl _ _ _ _,rel,.nil⟩
 |cons x xs ih=>
  intro σ p gh vs rel rd h
  obtain⟨v,t,rfl,hv,hr⟩:=rd.inv
  obtain⟨q,e1,h⟩:=aw h
  obtain⟨z,e2,rfl⟩:=cm h
  obtain⟨g1,x1,rel1,rf1⟩:=eM rel hv e1
  obtain⟨g2,x2,rel2,rf2⟩:=ih rel1 (hr.mono x1.le) e2
  exact⟨g2,x1.trans rel rel1 x2,rel2,.cons (RF.mono x2.le.F rf1) rf2⟩
theorem bW{n m:Nat}(h:Nat.ble n m=true):n≤m:=Nat.le_of_ble_eq_true h
theorem Du{x:X}{es:List Expr}{k₀:Nat}{pos:Pos}(h:SL c g f d x es):SE c g f d (.tup x) (.Tuple es k₀ pos):=by
 intro gh σ s A k Q r rm hev hp
 refine wpAny_Tuple (h gh σ s A _ _ pos r rm hev λgh₁ σ₁ s₁ vs xs x₁ r₁ hvs hk=> ?_)
 obtain⟨fl,hfl,hk⟩:=ab hk
 obtain⟨g2,x2,r2,rf⟩:=qw r₁ hvs hfl
 obtain⟨hlen,hk⟩:=sX hk
 ·have hlen:=bW hlen
  refine⟨by rw [rf.len,sizeLine_eq];lia, ?_⟩
  obtain⟨r3,x3⟩:=r2.allocF (o:=({cls:=.type "tuple",data:=.seq vs.toArray}:Obj)) rfl
  refine hp _ _ _ _ (.c (.tup fl.1)) ((x₁.trans r r₁ x2).trans r r2 x3) r3 (fA (.tup (o:= {cls:=.type "tuple",data:=.seq vs.toArray}) ?_ ⟨0,rfl⟩ (bv.mono x3.le.F rf) (by lia))) hk
  show(if s₁.heap.objs.size=s₁.heap.objs.size then _ else _)=_
  rw [if_pos rfl]
theorem DC{x:X}{es:List Expr}{pos:Pos}(h:SL c g f d x es):SE c g f d (.lst x) (.List es pos):=by
 intro gh σ s A k Q r rm hev hp
 refine wpAny_List (h gh σ s A _ _ pos r rm hev λgh₁ σ₁ s₁ vs xs x₁ r₁ hvs hk=> ?_)
 obtain⟨fl,hfl,hk⟩:=ab hk
 obtain⟨g2,x2,r2,rf⟩:=qw r₁ hvs hfl
 obtain⟨hlen,hk⟩:=sX hk
 ·have hlen:=bW hlen
  refine⟨by rw [rf.len,sizeLine_eq];lia, ?_⟩
  obtain⟨r3,x3⟩:=r2.alloc (o:=({cls:=.type "list",data:=.seq vs.toArray}:Obj)) (o':=.lst fl.1) rfl
   ⟨rfl,_,vs,Heap.get?_push_size _ rfl,⟨0,rfl⟩,rf,by lia⟩
  refine hp _ _ _ _ (.ob σ₁.m) ((x₁.trans r r₁ x2).trans r r2 x3) r3 ⟨s₁.heap.objs.size,[s₁.heap.objs.size], ?_,rfl⟩ hk
  show(if σ₁.m=σ₁.m then _ else _)=_
  rw [if_pos rfl]
end
end Mine.A
namespace Mine.A
section
variable {c:Cx} {g:G} {K:Frag} {f:Fm} {d:Nat} {gh:Gh} {L:Addr} {σ:St} {s:Shared}
theorem RD.stored{k:List Nat}{u:Value}{x:V}(hu:RV c.prog c.w gh u x){kvs:List (PySem.Str×Value)}{l:List (List Nat×V)}(h:RD c.prog c.w gh kvs l)(hn:(kvs.map (·.1)).Nodup):
  RD c.prog c.w gh (stored kvs (dy k) u) (oz k x l):=by
 induction h with
 |nil=>exact .cons hu .nil
 | @cons v vs k' y l hv hr ih=>
  rw [List.map_cons,List.nodup_cons] at hn
  show RD _ _ _ _ (Bool.rec ((k',y)::oz k x l) ((k',x)::l) (j1 k k'):List (List Nat×V))
  rw [cv]
  by_cases z:k=k'
  ·subst z
   unfold PySem.stored
   rw [if_pos (by simp),List.map_cons,if_pos rfl,map_store_of_not_mem vs (dy k) u hn.1]
   simp only [decide_true]
   exact .cons hu hr
  ·have zz:¬dy k'=dy k:=λe=>z (gT e).symm
   have e:PySem.stored ((dy k',v)::vs) (dy k) u=(dy k',v)::PySem.stored vs (dy k) u:=by
    unfold PySem.stored
    rw [List.any_cons,show decide ((dy k',v).1=dy k)=false from decide_eq_false zz,Bool.false_or]
    split
    ·rw [List.map_cons,if_neg zz]
    ·rfl
   simp only [z,decide_false]
   rw [e];exact .cons hv (ih hn.2)
theorem kR{kvs:List (PySem.Str×Value)}{k:PySem.Str}{v:Value}(h:(kvs.map (·.1)).Nodup):((PySem.stored kvs k v).map (·.1)).Nodup:=by
 unfold PySem.stored
 split
 ·have:(kvs.map λkv=>if kv.1=k then(kv.1,v)else kv).map (·.1)=kvs.map (·.1):=by
   rw [List.map_map]
   refine List.map_congr_left λx _=> ?_
   show(if x.1=k then(x.1,v)else x).1=x.1
   split<;>rfl
  rw [this];exact h
 ·rename_i hn
  rw [List.map_append,List.nodup_append]
  refine⟨h,by simp,λa ha b hb=> ?_⟩
  obtain rfl:b=k:=by simpa using hb
  intro e
  subst e
  obtain⟨p,hp,rfl⟩:=List.mem_map.mp ha
  exact hn (List.any_eq_true.mpr ⟨p,hp,by simp⟩)
theorem RD.merged{more:List (PySem.Str×Value)}{es:List (List Nat×V)}(h:RD c.prog c.w gh more es):∀ {kvs:List (PySem.Str×Value)} {l:List (List Nat×V)},RD c.prog c.w gh kvs l->(kvs.map (·.1)).Nodup->
  RD c.prog c.w gh (merged kvs more) (es.foldl (λacc p=>oz p.1 p.2 acc) l)∧((merged kvs more).map (·.1)).Nodup:=by
 induction h with
 |nil=>intro kvs l h hn;exact⟨h,hn⟩
 | @cons v vs k x es hv hr ih=>
  intro kvs l h hn
  exact ih (h.stored hv hn) (kR hn)
theorem al.push(r:al c gh L σ s)(o:Obj):al c gh L σ {s with heap:=s.heap.push o}:=by
 have hk:∀x o₁,s.heap.get? x=some o₁->(s.heap.push o).get? x=some o₁:=λx o₁ e=>Heap.get?_push_of_some _ e
 refine⟨λx o₁ e=>hk x o₁ (r.frz x o₁ e),λj o₁ hj=> ?_,r.sep,λx hx=> ?_,r.nL, ?_,r.new,r.m64,r.dom,r.base,r.Lb,r.tk⟩
 ·obtain⟨b,fb,e,ro⟩:=r.obs j o₁ hj
  exact⟨b,fb,e,ro.step (.refl _ _) λx _ o e'=>hk x o e'⟩
 ·obtain⟨u,v,o₁,w⟩:=r.off x hx
  exact⟨u,v,o₁,hk x o₁ w⟩
 ·obtain⟨m,N,hm⟩:=r.loc
  exact⟨m,eh (λo₁ e=>hk _ _ e) N,hm⟩
theorem a8.push(o:Obj):a8 false L gh s gh {s with heap:=s.heap.push o}:=
 ⟨.refl _ _,λ_ _ e _ _=>Heap.get?_push_of_some _ e,λ_ h=>.inl h,λ_ _ h=>.inl h,GK.refl _,rfl,rfl⟩
theorem al.adopt(r:al c gh L σ s){D:Addr}{h':Heap}{o':AO}{tk:Nat}(ht:0<tk)(hD:∃o,s.heap.get? D=some o)(hF:gh.F D=none)(hL:D≠L)(hf:¬bZ gh D)(hs:Heap.SameBut D s.heap h')(hD':∃o,h'.get? D=some o)
  (ho:RO c.prog c.w c.nm (gh.at σ.m (D,[D])) h' D [D] o'):
  al c (gh.at σ.m (D,[D])) L ⟨σ.L,(σ.m,o')::σ.H,σ.m+1,σ.vl⟩ {s with heap:=h',toks:=tk}∧Le false gh (gh.at σ.m (D,[D]))∧
   (∀x o,s.heap.get? x=some o->x≠D->h'.get? x=some o):=by
 have hm:gh.φ σ.m=none:=r.new σ.m (Nat.le_refl _)
 have ne:∀ {j:Nat} {p:Addr×List Addr},gh.φ j=some p->j≠σ.m:=λe q=>by rw [q,hm] at e;exact ax e
 have le:Le false gh (gh.at σ.m (D,[D])):=⟨λ_ _ e=>e,λj b fb e _=>⟨fb,(Gh.at_ne (ne e)).trans e⟩⟩
 have hk:∀x o₁,s.heap.get? x=some o₁->x≠D->h'.get? x=some o₁:=λx o₁ e q=>(hs.2 x q).trans e
 have nf:∀ {j:Nat} {b:Addr} {fb:List Addr},gh.φ j=some (b,fb)->∀x∈fb,x≠D:=λe x hx q=>hf ⟨_,_,_,e,q▸hx⟩
 refine⟨⟨λx o₁ e=>hk x o₁ (r.frz x o₁ e) λq=> ?_,λj o₁ hj=> ?_,λj k b fb d fd hj hk' hne x hx1 hx2=> ?_,λx hx'=> ?_,r.nL, ?_,λj hj=> ?_,Nat.le_succ_of_le r.m64,λj p hj _=> ?_,r.base,r.Lb,ht⟩,le,hk⟩
 ·have e:gh.F x=some o₁:=e
  rw [q,hF] at e;exact ax e
 ·have hj':lk j ((σ.m,o')::σ.H)=some o₁:=hj
  rw [aj] at hj'
  by_cases q:j=σ.m
  ·rw [if_pos q] at hj';obtain rfl:=Option.some.inj hj';exact⟨_,_,by refine q▸ ?_;exact Gh.at_self,ho⟩
  ·rw [if_neg q] at hj'
   obtain⟨b,fb,e,ro⟩:=r.obs j o₁ hj'
   exact⟨b,fb,(Gh.at_ne (q)).trans e,ro.step le λx hx o e'=>hk x o e' (nf e x hx)⟩
 ·by_cases q:j=σ.m<;>by_cases q':k=σ.m
  ·exact hne (q.trans q'.symm)
  ·have e1:some (D,[D])=some (b,fb):=Gh.at_self.symm.trans (q▸hj)
   have e2:gh.φ k=some (d,fd):=(Gh.at_ne q').symm.trans hk'
   cases e1
   exact nf e2 x hx2 (List.mem_singleton.mp hx1)
  ·have e1:gh.φ j=some (b,fb):=(Gh.at_ne q).symm.trans hj
   have e2:some (D,[D])=some (d,fd):=Gh.at_self.symm.trans (q'▸hk')
   cases e2
   exact nf e1 x hx1 (List.mem_singleton.mp hx2)
  ·have e1:gh.φ j=some (b,fb):=(Gh.at_ne q).symm.trans hj
   have e2:gh.φ k=some (d,fd):=(Gh.at_ne q').symm.trans hk'
   exact r.sep j k b fb d fd e1 e2 hne x hx1 hx2
 ·rcases hx'.at_ with z|⟨j,b,fb,_,e,z⟩
  ·have z:=List.mem_singleton.mp z
   refine z.symm▸ ?_;exact⟨hF,hL,hD'⟩
  ·obtain⟨u,v,o,w⟩:=r.off x ⟨j,b,fb,e,z⟩
   exact⟨u,v,o,hk x o w (nf e x z)⟩
 ·obtain⟨m,N,hm⟩:=r.loc
  exact⟨m,eh (λo₁ e=>hk _ _ e hL.symm) N,λn v e=>(hm n v e).elim λw e=>⟨w,e.1,e.2.mono le⟩⟩
 ·have:j≠σ.m:=Nat.ne_of_gt (Nat.lt_of_succ_le hj)
  show(if j=σ.m then _ else gh.φ j)=none
  rw [if_neg this];exact r.new j (Nat.le_of_succ_le hj)
 ·show∃o,lk j ((σ.m,o')::σ.H)=some o
  rw [aj]
  by_cases q:j=σ.m
  ·exact⟨o',by rw [if_pos q]⟩
  ·rw [if_neg q];rename_i h64;exact r.dom j p ((Gh.at_ne q).symm.trans hj) h64
end
end Mine.A
namespace Mine.A
inductive RP (prog:Program) (w:World) (g:Gh):List (Value×Value)->List V->Prop
 |nil:RP prog w g [] []
 |cons {k v:Value} {ps:List (Value×Value)} {a b:V} {xs:List V}:RV prog w g k a->RV prog w g v b->RP prog w g ps xs->RP prog w g ((k,v)::ps) (a::b::xs)
theorem RP.mono{prog:Program}{w:World}{g g':Gh}(h:Le false g g'){ps:List (Value×Value)}{xs:List V}(r:RP prog w g ps xs):RP prog w g' ps xs:=by
 induction r with
 |nil=>exact .nil
 |cons a b _ ih=>exact .cons (a.mono h) (b.mono h) ih
theorem sP{a b:V}{xs:List V}{es:List (List Nat×V)}(h:pq (a::b::xs)=some es):∃k r,a=.c (.str k)∧pq xs=some r∧es=(k,b)::r:=by
 obtain⟨f,e,h⟩:=aw (f:=λf=>az (aS f) λk=>ed (pq xs) λr=>(k,b)::r) h
 obtain⟨k,e1,h⟩:=aw h
 obtain⟨r,e2,h⟩:=cm h
 exact⟨k,r,(mh e).trans (congrArg V.c (s8 e1)),e2,h.symm⟩
theorem RP.carries{prog:Program}{w:World}{g:Gh}{ps:List (Value×Value)}{xs:List V}(h:RP prog w g ps xs):∀ {es:List (List Nat×V)},pq xs=some es->
  ∃kvs,Carries (PySem.strKind prog w) ps kvs∧RD prog w g kvs es:=by
 induction h with
 |nil=>intro es h;obtain rfl:=Option.some.inj h;exact⟨[],trivial,.nil⟩
 | @cons k v ps a b xs ha hb hr ih=>
  intro es h
  obtain⟨k,r,rfl,e,rfl⟩:=sP h
  obtain⟨kvs,c1,c2⟩:=ih e
  obtain⟨t,rfl,_⟩:=RF.x ha
  exact⟨(dy k,v)::kvs,⟨jI k t,rfl,c1⟩,.cons hb c2⟩
section
variable {c:Cx} {g:G} {K:Frag} {f:Fm} {d:Nat}
noncomputable def SP(c:Cx)(g:G)(f:Fm)(d:Nat)(x:X)(ks:List (Option Expr))(vs:List Expr):Prop:=
 ∀gh σ s A (k:List V->St->Prop) (Q:List (Value×Value)->Shared->Prop) pos,al c gh f.L σ s->bG d A->ev g x σ k->
  (∀gh' Z' s' ps xs,a8 false f.L gh s gh' s'->al c gh' f.L Z' s'->RP c.prog c.w gh' ps xs->k xs Z'->Q ps s')->wpAny (model c.prog c.w) A (evalPairs (pairTrees ks vs f.env pos)) Q bM s
theorem Ds:SP c g f d .nil [] []:=by
 intro gh σ s A k Q pos r rm hev hp
 exact wpAny_pure (hp gh σ s [] [] (.refl _ _ _ _) r .nil hev)
theorem zu{x y z:X}{e e':Expr}{ks:List (Option Expr)}{vs:List Expr}(h:SE c g f d x e)(h':SE c g f d y e')(h'':SP c g f d z ks vs):SP c g f d (.cons x (.cons y z)) (some e::ks) (e'::vs):=by
 intro gh σ s A k Q pos r rm hev hp
 show wpAny _ _ (evalPairs ((eval e f.env,do let x←eval e' f.env;standAt pos;pure x)::pairTrees ks vs f.env pos)) _ _ _
 unfold evalPairs
 refine wpAny_bind (h gh σ s A _ _ r rm hev λgh₁ σ₁ s₁ u a x₁ r₁ hu hk=>wpAny_bind (wpAny_holding (wpAny_bind ?_)))
 refine h' gh₁ σ₁ s₁ A _ _ r₁ rm hk λgh₂ σ₂ s₂ v b x₂ r₂ hv hk=>wpAny_bind (wpAny_standAt (wpAny_pure (wpAny_bind (wpAny_holding ?_))))
 refine h'' gh₂ σ₂ s₂ A _ _ pos r₂ rm hk λgh₃ Z3 s₃ ps xs x₃ r₃ hps hk=>wpAny_pure ?_
 have x12:=x₁.trans r r₁ x₂
 exact hp gh₃ Z3 s₃ _ (a::b::xs) (x12.trans r r₂ x₃) r₃ (.cons (hu.mono (x₂.trans r₁ r₂ x₃).le) (hv.mono x₃.le) hps) hk
theorem DF{x:X}{ks:List (Option Expr)}{vs:List Expr}{pos:Pos}(hall:ks.all (·.isSome)=true)(hl:ks.length=vs.length)(h0:ks≠[])(hlen:ks.length≤15)(h:SP c g f d x ks vs):
  SE c g f d (.dct x) (.Dict ks vs pos):=by
 intro gh σ s A k Q r rm hev hp
 have r0:=r.push (emptyDict:Obj)
 have x0:a8 false f.L gh s gh {s with heap:=s.heap.push emptyDict}:=.push _
 have hs:s.heap.get? s.heap.objs.size=none:=aE (Nat.le_refl _)
 have hD0:(s.heap.push emptyDict).get? s.heap.objs.size=some emptyDict:=Heap.get?_push_size _ rfl
 obtain⟨hF0,hL0,hf0⟩:=r.free hs
 refine wpAny_Dict_any hall hl h0 hlen (wpAny_mono (wpAny_evalPairs_len (Q:=λps s₁=>∃gh₁ σ₁ xs,a8 false f.L gh {s with heap:=s.heap.push emptyDict} gh₁ s₁∧al c gh₁ f.L σ₁ s₁∧RP c.prog c.w gh₁ ps xs∧
  ai (pq xs) λes=>fg (.dct (D3 es)) σ₁ λv s=>one k [v] s) (h gh σ _ A _ _ pos r0 rm hev λgh₁ σ₁ s₁ ps xs x₁ r₁ hps hk=>⟨gh₁,σ₁,xs,x₁,r₁,hps,hk⟩)) (λps s₁ hh=> ?_) λ_ _ z=>z)
 obtain⟨hpl,gh₁,σ₁,xs,x₁,r₁,hps,hk⟩:=hh
 rw [pairTrees_length ks vs f.env pos hall hl] at hpl
 obtain⟨es,hes,hk⟩:=ab hk
 obtain⟨kvs,cc,rd⟩:=hps.carries hes
 have hD1:s₁.heap.get? s.heap.objs.size=some emptyDict:=x₁.keep _ _ hD0 hL0 hf0
 have hF1:gh₁.F s.heap.objs.size=none:=by
  cases q:gh₁.F s.heap.objs.size with
  |none=>rfl
  |some o=>
   rcases x₁.fF _ o q with z|z|z
   ·rw [hF0] at z;exact ax z
   ·exact(hf0 z).elim
   ·replace z:=hD0▸z;cases z
 have hf1:¬bZ gh₁ s.heap.objs.size:=λz=>by
  rcases x₁.fp _ z with z|z
  ·exact hf0 z
  ·replace z:=hD0▸z;cases z
 have hd1:s₁.heap.DictOf (PySem.strKind c.prog c.w) s.heap.objs.size []:=⟨emptyDict, #[],0,hD1,⟨rfl,rfl,rfl⟩,rfl,λ_ he=>by simp at he,.nil,List.nodup_nil⟩
 have hkl:kvs.length≤15:=by rw [cc.length,hpl];exact hlen
 unfold storeAll
 refine wpAny_storeAll (knd:=PySem.strKind c.prog c.w) ps kvs [] s₁ _ cc hd1 (by rw [sizeLine_eq];simp;lia) λh' hm' hs'=> ?_
 obtain⟨o,ho,hio⟩:=gD.of hm'
 obtain⟨m1,m2⟩:=rd.merged (kvs:=[]) (l:=[]) .nil List.nodup_nil
 have hml:(D3 es).length≤16777216:=by
  have e1:=m1.len
  have e2:=merged_length_le ([]:List (PySem.Str×Value)) kvs
  unfold D3
  simp only [List.length_nil] at e2
  lia
 have lea:Le false gh₁ (gh₁.at σ₁.m (s.heap.objs.size,[s.heap.objs.size])):=⟨λ_ _ e=>e,λj b fb e _=>⟨fb,by
  have:j≠σ₁.m:=λq=>by rw [q,r₁.new σ₁.m (Nat.le_refl _)] at e;exact ax e
  exact(Gh.at_ne (this)).trans e⟩⟩
 have hsm:s.heap.objs.size≠sysModules:=by
  obtain⟨o,hL⟩:=r.L_there
  have h1:=Heap.lt_size hL
  have h2:=r.Lb
  have h3:=c.big
  exact Nat.ne_of_gt (Nat.lt_of_lt_of_le (Nat.lt_of_lt_of_le (by decide:1<2) h3) (Nat.le_trans h2 (Nat.le_of_lt h1)))
 obtain⟨r2,l2,k2⟩:=r₁.adopt (o':=.dct (D3 es)) (tk:=s₁.toks+ps.length) (Nat.lt_of_lt_of_le r₁.tk (Nat.le_add_right _ _)) ⟨_,hD1⟩ hF1 hL0 hf1 hs' ⟨o,ho⟩ ⟨rfl,o,_,ho,hsm,hio,m1.mono lea,hml⟩
 refine hp _ _ _ (.ref s.heap.objs.size) (.ob σ₁.m) ⟨x₁.le.trans l2,λx o e hl hn=> ?_,λx hx=> ?_,λx o e=> ?_,x₁.gens,x₁.os,x₁.drawn⟩ r2 ⟨s.heap.objs.size,[s.heap.objs.size], ?_,rfl⟩ hk
 ·refine k2 x o (x₁.keep x o (Heap.get?_push_of_some _ e) hl hn) λz=> ?_
  rw [z,hs] at e;exact ax e
 ·rcases hx.at_ with z|⟨j,b,fb,_,e,z⟩
  ·rw [List.mem_singleton.mp z];exact .inr hs
  ·rcases x₁.fp x ⟨j,b,fb,e,z⟩with w|w
   ·exact .inl w
   ·refine .inr (dW (λo ho=>⟨o,Heap.get?_push_of_some _ ho⟩) w)
 ·rcases x₁.fF x o e with w|w|w
  ·exact .inl w
  ·exact .inr (.inl w)
  ·exact .inr (.inr (dW (λo ho=>⟨o,Heap.get?_push_of_some _ ho⟩) w))
 ·show(if σ₁.m=σ₁.m then _ else _)=_
  rw [if_pos rfl]
end
end Mine.A
namespace Mine.A
noncomputable def RL(prog:Program)(w:World)(g:Gh)(a:Flow)(b:Fl):Prop:=
 Fl.casesOn (motive:=λ_=>Prop) b (a=.next) (a=.brk) (a=.cont) λx=>∃v,a=.ret v∧RV prog w g v x
theorem RL.mono{prog:Program}{w:World}{g g':Gh}(h:Le false g g'){a:Flow}{b:Fl}(r:RL prog w g a b):RL prog w g' a b:=by
 induction b with
 |ret x=>exact r.elim λv r=>⟨v,r.1,r.2.mono h⟩
 |_=>exact r
section
variable {c:Cx} {g:G} {K:Frag} {p:CP} {loose:List PySem.Str} {mg mb:PySem.Str->Option Value} {f:Fm} {d:Nat}
noncomputable def gC(c:Cx)(L:Addr)(gh:Gh)(s:Shared)(k:Fl->St->Prop)(Q:Flow->Shared->Prop):Prop:=
 ∀gh' Z' s' a b,a8 false L gh s gh' s'->al c gh' L Z' s'->RL c.prog c.w gh' a b->k b Z'->Q a s'
noncomputable def SS(c:Cx)(g:G)(f:Fm)(d:Nat)(x:S)(st:Stmt):Prop:=
 ∀gh σ s A k Q,al c gh f.L σ s->bG d A->ex g x σ k->gC c f.L gh s k Q->wpAny (model c.prog c.w) A (exec st f.env) Q bM s
noncomputable def SB(c:Cx)(g:G)(f:Fm)(d:Nat)(x:S)(sts:List Stmt):Prop:=
 ∀gh σ s A k Q,al c gh f.L σ s->bG d A->ex g x σ k->gC c f.L gh s k Q->wpAny (model c.prog c.w) A (execs sts f.env) Q bM s
theorem zl{pos:Pos}:SS c g f d .skip (.Pass pos):=by
 intro gh σ s A k Q r rm hev hp
 exact wpAny_Pass (hp gh σ s .next .nxt (.refl _ _ _ _) r rfl hev)
theorem Dr{pos:Pos}:SS c g f d .brk (.Break pos):=by
 intro gh σ s A k Q r rm hev hp
 exact wpAny_Break (hp gh σ s .brk .brk (.refl _ _ _ _) r rfl hev)
theorem zm{pos:Pos}:SS c g f d .cont (.Continue pos):=by
 intro gh σ s A k Q r rm hev hp
 exact wpAny_Continue (hp gh σ s .cont .cnt (.refl _ _ _ _) r rfl hev)
theorem Dn{x:X}{e:Expr}{pos:Pos}(h:SE c g f d x e):SS c g f d (.ret x) (.Return (some e) pos):=by
 intro gh σ s A k Q r rm hev hp
 exact wpAny_Return_some (h gh σ s A _ _ r rm hev λgh₁ σ₁ s₁ v a x₁ r₁ hv hk=>hp gh₁ σ₁ s₁ (.ret v) (.ret a) x₁ r₁ ⟨v,rfl,hv⟩ hk)
theorem zk{pos:Pos}:SS c g f d (.ret (.k .non)) (.Return none pos):=by
 intro gh σ s A k Q r rm hev hp
 exact wpAny_Return_none (hp gh σ s (.ret .none) (.ret (.c .non)) (.refl _ _ _ _) r ⟨_,rfl,fA .non⟩ hev)
theorem Gg(f:Fm):interactive f.env=false:=by
 unfold interactive
 show((f.cs.kind== .module)&&_)=false
 refine f.kind▸ ?_;rfl
theorem A0{e:Expr}(h:d5 e=false)(n:Nat)(env:Env):swapsWith e none n env=pure false:=by
 obtain⟨⟩:=e<;>first|rfl|cases h
theorem kO{e:Expr}(h:d5 e=false)(t:Expr)(n:Nat)(env:Env):swapsWith e (some t) n env=pure false:=by
 obtain⟨⟩:=e<;>first|rfl|cases h
theorem H5{x:X}{e:Expr}{pos:Pos}(hc:d5 e=false)(h:SE c g f d x e):SS c g f d (.ex x) (.Expr e pos):=by
 intro gh σ s A k Q r rm hev hp
 exact wpAny_Expr_any (h gh σ s A _ _ r rm hev λgh₁ σ₁ s₁ v a x₁ r₁ hv hk=>hp gh₁ σ₁ s₁ .next .nxt x₁ r₁ rfl hk) (Gg f) (A0 hc _ _)
theorem dI(Y:Ctx c K p loose mg mb){gh:Gh}{σ:St}{s:Shared}{A:Around}{x:PySem.Str}{n:Nat}{v:Value}{a:V}{Q:Unit->Shared->Prop}(hl:bu f.cs x=true)(hc:p.code x=some n)(r:al c gh f.L σ s)(hv:RV c.prog c.w gh v a)
  (hQ:∀s',a8 false f.L gh s gh s'->al c gh f.L (cj σ (put n a σ.L)) s'->Q () s'):wpAny (model c.prog c.w) A (storeName f.env x v) Q bM s:=by
 obtain⟨rfl,_⟩:=Y.code x n hc
 obtain⟨m,N,hm⟩:=r.loc
 refine wpAny_storeName_local (eQ hl) N (λh' hn hs=> ?_) (by show(f.env.scope.kind== .class||(f.env.scope.kind== .module&&f.env.locals !=f.env.globals))=false;refine f.kind▸ ?_;rfl)
 obtain⟨r1,x1⟩:=r.store (tk:=s.toks+1) (Nat.succ_pos _) N hm hn hs hv
 exact hQ _ x1 r1
theorem zs(Y:Ctx c K p loose mg mb){x:X}{e:Expr}{nm:PySem.Str}{n:Nat}{pos pos':Pos}(hc:d5 e=false)(hl:bu f.cs nm=true)(hn:p.code nm=some n)(h:SE c g f d x e):
  SS c g f d (.asgN n x) (.Assign [.Name nm pos'] e pos):=by
 intro gh σ s A k Q r rm hev hp
 refine wpAny_Assign_Name (h gh σ s A _ _ r rm hev λgh₁ σ₁ s₁ v a x₁ r₁ hv hk=> ?_) (kO hc _ _ _)
 exact dI Y hl hn r₁ hv λs' x₂ r₂=>hp gh₁ _ s' .next .nxt (x₁.trans r r₁ x₂) r₂ rfl hk
theorem Do{t:X}{a b:S}{e:Expr}{as bs:List Stmt}{pos:Pos}(ht:ST c g f d t e)(ha:SB c g f d a as)(hb:SB c g f d b bs):SS c g f d (.iff t a b) (.If e as bs pos):=by
 intro gh σ s A k Q r rm hev hp
 refine wpAny_If (ht gh σ s A (λb' σ=>br b' (ex g a σ k) (ex g b σ k)) _ r rm hev λgh₁ σ₁ s₁ v x₁ r₁ hk=> ?_)
 have hk:=pG hk
 induction v using Bool.casesOn with
 |true=>exact ha gh₁ σ₁ s₁ A k Q r₁ rm hk λgh₂ σ₂ s₂ u w x₂ r₂ hu hk=>hp gh₂ σ₂ s₂ u w (x₁.trans r r₁ x₂) r₂ hu hk
 |false=>exact hb gh₁ σ₁ s₁ A k Q r₁ rm hk λgh₂ σ₂ s₂ u w x₂ r₂ hu hk=>hp gh₂ σ₂ s₂ u w (x₁.trans r r₁ x₂) r₂ hu hk
theorem DK:SB c g f d .skip []:=by
 intro gh σ s A k Q r rm hev hp
 exact wpAny_execs_nil (hp gh σ s .next .nxt (.refl _ _ _ _) r rfl hev)
theorem zE{a b:S}{st:Stmt}{sts:List Stmt}(ha:SS c g f d a st)(hb:SB c g f d b sts):SB c g f d (.seq a b) (st::sts):=by
 intro gh σ s A k Q r rm hev hp
 refine wpAny_execs_cons (ha gh σ s A _ _ r rm hev λgh₁ σ₁ s₁ u w x₁ r₁ hu hk=> ?_)
 induction w using Fl.casesOn with
 |nxt=>
  obtain rfl:=hu
  exact hb gh₁ σ₁ s₁ A k Q r₁ rm hk λgh₂ σ₂ s₂ u w x₂ r₂ hu hk=>hp gh₂ σ₂ s₂ u w (x₁.trans r r₁ x₂) r₂ hu hk
 |brk=>obtain rfl:=hu;exact hp gh₁ σ₁ s₁ .brk .brk x₁ r₁ rfl hk
 |cnt=>obtain rfl:=hu;exact hp gh₁ σ₁ s₁ .cont .cnt x₁ r₁ rfl hk
 |ret a=>obtain⟨v,rfl,hu⟩:=hu;exact hp gh₁ σ₁ s₁ (.ret v) (.ret a) x₁ r₁ ⟨v,rfl,hu⟩ hk
theorem zp{t:X}{e:Expr}{pos:Pos}(ht:ST c g f d t e):SS c g f d (.asrt t) (.Assert e none pos):=by
 intro gh σ s A k Q r rm hev hp
 refine wpAny_Assert_holds (ht gh σ s A (λb' σ=>br b' (k .nxt σ) False) _ r rm hev λgh₁ σ₁ s₁ v x₁ r₁ hk=> ?_)
 obtain⟨rfl,hk⟩:=sX hk
 exact⟨rfl,hp gh₁ σ₁ s₁ .next .nxt x₁ r₁ rfl hk⟩
end
end Mine.A
namespace Mine.A
section
variable {α:Type}
theorem v6(n:Nat)(p:Nat×α)(l:List (Nat×α)):iT n (p::l)=if n=p.1 then iT n l else p::iT n l:=by
 show(Bool.rec (p::iT n l) (iT n l) (Nat.beq n p.1):List (Nat×α))=_
 by_cases h:n=p.1
 ·rw [if_pos h,h,fX]
 ·rw [if_neg h,jU h]
theorem jG(n m:Nat):∀l:List (Nat×α),lk n (iT m l)=if n=m then none else lk n l:=by
 intro l
 induction l with
 |nil=>
  show(none:Option α)=_
  split<;>rfl
 |cons p l ih=>
  rw [v6]
  by_cases h:m=p.1
  ·rw [if_pos h,ih]
   by_cases k:n=m
   ·rw [if_pos k,if_pos k]
   ·rw [if_neg k,if_neg k,aj,if_neg (by refine h▸ ?_;exact k)]
  ·rw [if_neg h,aj,ih,aj]
   by_cases k:n=p.1
   ·rw [if_pos k,if_pos k,if_neg (by refine k▸ ?_;exact λe=>h e.symm)]
   ·rw [if_neg k,if_neg k]
end
section
variable {c:Cx} {g:G} {K:Frag} {p:CP} {loose:List PySem.Str} {mg mb:PySem.Str->Option Value} {f:Fm} {d:Nat} {gh:Gh} {L:Addr} {σ:St} {s:Shared}
noncomputable def Gh.mov(g:Gh)(i c':Nat)(a:Addr)(ft:List Addr):Gh:=⟨g.F,λj=>if j=c' then some (a,ft)else if j=i then some (a,[])else g.φ j⟩
theorem lq{α:Type}(n:Nat)(o:α){H:List (Nat×α)}(h:lk n H=none)(j:Nat):lk j ((n,o)::H)=lk j (H++[(n,o)]):=by
 induction H with
 |nil=>rfl
 |cons p H ih=>
  rw [aj] at h
  by_cases q:n=p.1
  ·rw [if_pos q] at h;cases h
  ·rw [if_neg q] at h
   rw [List.cons_append,aj j p, ←ih h,aj,aj,aj]
   by_cases a:j=n
   ·rw [if_pos a,if_neg (λe=>q (a.symm.trans e)),if_pos a]
   ·rw [if_neg a,if_neg (show¬j=(n,o).1 from a)]
theorem al.sameH{H H':List (Nat×AO)}(r:al c gh L (aR σ H) s)(e:∀i,lk i H=lk i H'):al c gh L (aR σ H') s:=
 ⟨r.frz,λi o h=>r.obs i o ((e i).trans h),r.sep,r.off,r.nL,r.loc,r.new,r.m64,λi p h h64=>(r.dom i p h h64).elim λo q=>⟨o,(e i).symm.trans q⟩,r.base,r.Lb,r.tk⟩
theorem al.move(r:al c gh L σ s){i c':Nat}{a:Addr}{ft:List Addr}{o:AO}(hi:gh.φ i=some (a,ft))(hH:lk i σ.H=some o)(hc:lk c' σ.H=none)(h1:c'<64)(h2:64≤i):
  al c (gh.mov i c' a ft) L (aR σ ((c',o)::iT i σ.H)) s∧a8 false L gh s (gh.mov i c' a ft) s:=by
 have hφc:gh.φ c'=none:=by
  cases q:gh.φ c' with
  |none=>rfl
  |some p=>obtain⟨o,e⟩:=r.dom c' p q h1;rw [hc] at e;exact ax e
 have hne:i≠c':=λe=>by lia
 have φc:(gh.mov i c' a ft).φ c'=some (a,ft):=by simp [Gh.mov]
 have φi:(gh.mov i c' a ft).φ i=some (a,[]):=by simp [Gh.mov,hne]
 have φo:∀ {j:Nat},j≠i->j≠c'->(gh.mov i c' a ft).φ j=gh.φ j:=λ{j} q1 q2=>by simp [Gh.mov,q1,q2]
 have le:Le false gh (gh.mov i c' a ft):=⟨λ_ _ e=>e,λj b fb e _=>by
  by_cases q1:j=i
  ·subst q1;replace e:=hi▸e;cases e;exact⟨[],φi⟩
  ·by_cases q2:j=c'
   ·rw [q2,hφc] at e;exact ax e
   ·exact⟨fb,by rw [φo q1 q2];exact e⟩⟩
 have foot:∀ {j:Nat} {b:Addr} {fb:List Addr} {x:Addr},(gh.mov i c' a ft).φ j=some (b,fb)->x∈fb->(j=c'∧x∈ft)∨(j≠c'∧j≠i∧gh.φ j=some (b,fb)):=λ{j b fb x} e hx=>by
  by_cases q2:j=c'
  ·(rw [q2] at e;replace e:=φc▸e);cases e;exact .inl ⟨q2,hx⟩
  ·by_cases q1:j=i
   ·(rw [q1] at e;replace e:=φi▸e);cases e;cases hx
   ·rw [φo q1 q2] at e;exact .inr ⟨q2,q1,e⟩
 have fsub:∀x,bZ (gh.mov i c' a ft) x->bZ gh x:=λx h=>by
  obtain⟨j,b,fb,e,hx⟩:=h
  rcases foot e hx with ⟨_,z⟩|⟨_,_,z⟩
  ·exact⟨i,a,ft,hi,z⟩
  ·exact⟨j,b,fb,z,hx⟩
 refine⟨⟨r.frz,λj o₁ hj=> ?_,λj k b fb d fd hj hk' hjk x hx1 hx2=> ?_,λx hx=>r.off x (fsub x hx),r.nL, ?_,λj hj=> ?_,r.m64,λj p hj h64=> ?_,r.base,r.Lb,r.tk⟩,
  ⟨le,λ_ _ e _ _=>e,λx hx=>.inl (fsub x hx),λ_ _ e=>.inl e,GK.refl _,rfl,rfl⟩⟩
 ·have hj':lk j ((c',o)::iT i σ.H)=some o₁:=hj
  rw [aj] at hj'
  by_cases q2:j=c'
  ·rw [if_pos q2] at hj';obtain rfl:=Option.some.inj hj'
   obtain⟨a',ft',e',ro⟩:=r.obs i o hH
   replace e':=hi▸e';cases e'
   exact⟨a,ft,by refine q2.symm▸ ?_;exact φc,ro.step le λ_ _ _ e=>e⟩
  ·(replace hj':=(if_neg q2)▸hj';rw [jG] at hj')
   by_cases q1:j=i
   ·rw [if_pos q1] at hj';exact ax hj'
   ·rw [if_neg q1] at hj'
    obtain⟨b,fb,e,ro⟩:=r.obs j o₁ hj'
    exact⟨b,fb,by refine(φo q1 q2)▸ ?_;exact e,ro.step le λ_ _ _ e=>e⟩
 ·rcases foot hj hx1 with ⟨z1,w1⟩|⟨z1,y1,w1⟩<;>rcases foot hk' hx2 with ⟨z2,w2⟩|⟨z2,y2,w2⟩
  ·exact hjk (z1.trans z2.symm)
  ·exact r.sep i k a ft d fd hi w2 (λe=>y2 e.symm) x w1 hx2
  ·exact r.sep j i b fb a ft w1 hi y1 x hx1 w2
  ·exact r.sep j k b fb d fd w1 w2 hjk x hx1 hx2
 ·obtain⟨m,N,hm⟩:=r.loc
  exact⟨m,N,λn v e=>(hm n v e).elim λw e=>⟨w,e.1,e.2.mono le⟩⟩
 ·have q1:j≠i:=λe=>by have h3:=r.lt hi;have h4:σ.m≤j:=hj;lia
  have q2:j≠c':=λe=>by have h3:=r.m64;have h4:σ.m≤j:=hj;lia
  refine(φo q1 q2)▸ ?_;exact r.new j hj
 ·show∃o₁,lk j ((c',o)::iT i σ.H)=some o₁
  rw [aj]
  by_cases q2:j=c'
  ·exact⟨o,by rw [if_pos q2]⟩
  ·rw [if_neg q2,jG]
   have q1:j≠i:=λe=>by lia
   rw [if_neg q1];exact r.dom j p (by rw [←φo q1 q2];exact hj) h64
end
end Mine.A
namespace Mine.A
section
variable {c:Cx} {g:G} {K:Frag} {p:CP} {loose:List PySem.Str} {mg mb:PySem.Str->Option Value} {f:Fm} {d:Nat} {gh:Gh} {L:Addr} {σ:St} {s:Shared}
theorem BF{v:Value}{x:V}{n:Nat}{k:V->St->Prop}(hn:n<64)(r:al c gh L σ s)(hv:RV c.prog c.w gh v x)(h:LK n x σ k):
  ∃gh' Z' y,a8 false L gh s gh' s∧al c gh' L Z' s∧RV c.prog c.w gh' v y∧k y Z':=by
 have triv:k x σ->∃gh' Z' y,a8 false L gh s gh' s∧al c gh' L Z' s∧RV c.prog c.w gh' v y∧k y Z':=λh=>⟨gh,σ,x,.refl _ _ _ _,r,hv,h⟩
 have h:Bool.rec (V.casesOn (motive:=λ_=>Prop) x (λ_=>k x σ) (λi=>Bool.rec (k x σ) (ai (lk i σ.H) λo=>Option.rec (k (.ob n) (aR σ (iT i σ.H++[(n,o)]))) (λ_=>False) (lk n σ.H)) (Nat.ble 64 i)) (λ_=>k x σ) (λ_ _=>k x σ)) (k x σ) (Nat.beq n 0):=h
 cases h0:Nat.beq n 0 with
 |true=>rw [h0] at h;exact triv h
 |false=>
  rw [h0] at h
  induction x using V.casesOn with
  |ob i=>
   have h:br (Nat.ble 64 i) (ai (lk i σ.H) λo=>Option.rec (k (.ob n) (aR σ (iT i σ.H++[(n,o)]))) (λ_=>False) (lk n σ.H)) (k (.ob i) σ):=h
   cases hb:Nat.ble 64 i with
   |false=>rw [hb] at h;exact triv h
   |true=>
    rw [hb] at h
    obtain⟨o,ho,h⟩:=ab h
    cases hc:lk n σ.H with
    |some _=>rw [hc] at h;exact h.elim
    |none=>
     rw [hc] at h
     obtain⟨a,ft,e,rfl⟩:=hv
     obtain⟨r1,x1⟩:=r.move e ho hc hn (bW hb)
     exact⟨_,_,.ob n,x1,r1.sameH (lq n o (by rw [jG,hc];exact ite_self _)),⟨a,ft,if_pos rfl,rfl⟩,h⟩
  |_=>exact triv h
theorem BG{v:Value}{x:V}{n:Nat}{k:V->St->Prop}(hn:n<64)(r:al c gh L σ s)(hv:RV c.prog c.w gh v x)(h:Im n x σ k):
  ∃gh' Z' y,a8 false L gh s gh' s∧al c gh' L Z' s∧RV c.prog c.w gh' v y∧k y Z':=by
 unfold Im at h
 cases hb:Nat.beq n 63 with
 |false=>rw [hb] at h;exact BF hn r hv h
 |true=>
  rw [hb] at h
  obtain⟨q,hf,hk⟩:=ab h
  obtain⟨g2,x2,r2,rf⟩:=eM r hv hf
  exact⟨g2,_,.c q.1,x2,r2,rf,hk⟩
theorem ik(XK:K.In c.base)(Y:pR c K g)(hcan:∀n,g.canon n<64){A:Around}{ov v:Value}{ox x:V}{n:Nat}{k:St->Prop}{Q:Unit->Shared->Prop}(r:al c gh L σ s)(ho:RV c.prog c.w gh ov ox)(hv:RV c.prog c.w gh v x)
  (h:eH g ox n x σ k) (hQ:∀gh' Z' s',a8 false L gh s gh' s'->al c gh' L Z' s'->k Z'->Q () s'):wpAny (model c.prog c.w) A (setAttr ov (c.nm n) v) Q bM s:=by
 obtain⟨i,ei,h⟩:=ab h
 obtain rfl:=Az ei
 obtain⟨gh1,Z1,y,x1,r1,hv1,hk⟩:=BG (hcan n) r hv h
 obtain⟨a,ft,e,rfl⟩:=ho.mono x1.le
 obtain⟨p,q,hk⟩:=ab hk
 obtain⟨hb,hk⟩:=sX hk
 rw [Bool.and_eq_true] at hb
 obtain⟨c1,c2⟩:=Y.own p.1 n hb.1
 exact BD XK r1 e (Df q) c1 c2 hv1 (bW hb.2) λgh2 s2 x2 r2=>hQ gh2 _ s2 (x1.trans r r1 x2) r2 hk
theorem zt(XK:K.In c.base)(Y:pR c K g)(hcan:∀n,g.canon n<64){x y:X}{e o:Expr}{nm:PySem.Str}{n:Nat}{pos pos':Pos}(hc:d5 e=false)(hn:c.nm n=nm)(h:SE c g f d x e)(h':SE c g f d y o):
  SS c g f d (.asgA y n x) (.Assign [.Attribute o nm pos'] e pos):=by
 intro gh σ s A k Q r rm hev hp
 refine plainObj_wpAny_Assign_Attribute (h gh σ s A _ _ r rm hev λgh₁ σ₁ s₁ v a x₁ r₁ hv hk=>h' gh₁ σ₁ s₁ A _ _ r₁ rm hk λgh₂ σ₂ s₂ u b x₂ r₂ hu hk=> ?_) (kO hc _ _ _)
 refine hn▸ ?_
 refine ik XK Y hcan r₂ hu (hv.mono x₂.le) hk λgh₃ Z3 s₃ x₃ r₃ hk=> ?_
 exact hp gh₃ Z3 s₃ .next .nxt ((x₁.trans r r₁ x₂).trans r r₂ x₃) r₃ rfl hk
end
end Mine.A
namespace Mine.A
section
variable {c:Cx} {g:G} {K:Frag} {p:CP} {loose:List PySem.Str} {mg mb:PySem.Str->Option Value} {f:Fm} {d:Nat}
noncomputable def Ib(c:Cx)(d:Nat)(L:Addr)(op:Operator)(o:Nat):Prop:=
 ∀gh σ s A k Q v u a b,al c gh L σ s->bG d A->RV c.prog c.w gh v a->RV c.prog c.w gh u b->oR o a b σ k->cN c L gh s k Q->wpAny (model c.prog c.w) A (inplaceOp op v u) Q bM s
theorem zn(Y:Ctx c K p loose mg mb){x:X}{e:Expr}{nm:PySem.Str}{n o:Nat}{op:Operator}{pos pos':Pos}(hl:bu f.cs nm=true)(hn:p.code nm=some n)(hi:Ib c d f.L op o)(h:SE c g f d x e):
  SS c g f d (.augN n o x) (.AugAssign (.Name nm pos') op e pos):=by
 intro gh σ s A k Q r rm hev hp
 obtain⟨a,ha,hev⟩:=ab hev
 obtain⟨m,N,hm⟩:=r.loc
 obtain⟨u,e1,e2⟩:=hm n a ha
 have hnm:=(Y.code nm n hn).1
 refine wpAny_AugAssign_Name (wpAny_loadName_local f.kind (eQ hl) N (by rw [←hnm];exact e1) (h gh σ s A _ _ r rm hev λgh₁ σ₁ s₁ v b x₁ r₁ hv hk=> ?_))
 refine hi gh₁ σ₁ s₁ A _ _ u v a b r₁ rm (e2.mono x₁.le) hv hk λgh₂ σ₂ s₂ w y x₂ r₂ hw hk=> ?_
 exact dI Y hl hn r₂ hw λs' x₃ r₃=>hp gh₂ _ s' .next .nxt ((x₁.trans r r₁ x₂).trans r r₂ x₃) r₃ rfl hk
theorem zo(XK:K.In c.base)(Y:pR c K g)(hcan:∀n,g.canon n<64){x y:X}{e b:Expr}{nm:PySem.Str}{n o:Nat}{op:Operator}{pos pos':Pos}(hn:c.nm n=nm)(hi:Ib c d f.L op o)(h:SE c g f d x e)(h':SE c g f d y b):
  SS c g f d (.augA y n o x) (.AugAssign (.Attribute b nm pos') op e pos):=by
 intro gh σ s A k Q r rm hev hp
 refine hn▸ ?_
 refine wpAny_AugAssign_AttributeAny (h' gh σ s A _ _ r rm hev λgh₁ σ₁ s₁ ov oa x₁ r₁ ho hk=> ?_)
 refine uq XK Y r₁ ho hk λgh₂ σ₂ s₂ u a x₂ r₂ hu hk=> ?_
 refine h gh₂ σ₂ s₂ A _ _ r₂ rm hk λgh₃ Z3 s₃ v z x₃ r₃ hv hk=> ?_
 refine hi gh₃ Z3 s₃ A _ _ u v a z r₃ rm (hu.mono x₃.le) hv hk λgh₄ Z4 s₄ w y x₄ r₄ hw hk=> ?_
 have x23:=x₂.trans r₁ r₂ x₃
 have x24:=x23.trans r₁ r₃ x₄
 refine ik XK Y hcan r₄ (ho.mono x24.le) hw hk λgh5 σ₅ s₅ x₅ r₅ hk=> ?_
 exact hp gh5 σ₅ s₅ .next .nxt ((x₁.trans r r₁ x24).trans r r₄ x₅) r₅ rfl hk
end
end Mine.A
namespace Mine.A
section
variable {c:Cx} {g:G} {gh:Gh} {L:Addr} {σ:St} {s:Shared} {A:Around}
theorem xL{i:Nat}{a:Addr}{ft:List Addr}{es:List (List Nat×V)}{key:List Nat}{t:Tok}{u:Value}{v:V}{Q:Unit->Shared->Prop}(r:al c gh L σ s)(e:gh.φ i=some (a,ft))(q:lk i σ.H=some (.dct es))
  (hu:RV c.prog c.w gh u v) (hlen:es.length≤900)
  (hQ:∀gh' s',a8 false L gh s gh' s'->al c gh' L (aR σ (put i (.dct (oz key v es)) σ.H)) s'->Q () s'):wpAny (model c.prog c.w) A (setItem (.ref a) (.str ⟨key.toArray⟩ t) u) Q bM s:=by
 have ro:=r.ob e q
 obtain⟨hft,o,kvs,h1,h0,h2,h3,h4⟩:=ro
 subst hft
 have nd:(kvs.map (·.1)).Nodup:=by obtain⟨_,_,_,_,_,_,z⟩:=h2;exact z
 have offa:=r.off a ⟨i,a,[a],e,.head _⟩
 refine wpAny_setItem_pairs (knd:=PySem.strKind c.prog c.w) (jI key t) (h2.at h1) (λh' hm' hs'=> ?_) (by rw [h3.len,sizeLine_eq];lia)
 obtain⟨o',ho',hio⟩:=gD.of hm'
 have rd:=(h3.stored (k:=key) hu nd)
 obtain⟨m,N,hm⟩:=r.loc
 obtain⟨r1,x1⟩:=r.change (h':=h') (o':=.dct (oz key v es)) (ft':=[a]) (tk:=s.toks+1) (Nat.succ_pos _) e
  (λx o hl ho hx=>(hs'.2 x (λz=>hx (by refine z▸ ?_;exact .head _))).trans ho) (λx hx=>.inl hx)
  (λx hx=>by refine(List.mem_singleton.mp hx)▸ ?_;exact⟨o',ho'⟩)
  ⟨m,eh (λo ho=>(hs'.2 L offa.2.1.symm).trans ho) N,hm⟩
  ⟨rfl,o',_,ho',h0,hio,rd.mono (AH [a] e),by refine rd.len▸ ?_;have:=stored_length_le kvs (dy key) u;rw [h3.len] at this;lia⟩
 exact hQ _ _ x1 r1
end
end Mine.A
namespace Mine.A
section
variable {c:Cx} {d:Nat} {L:Addr}
theorem zH:Ib c d L .Sub 1:=by
 intro gh σ s A k Q v u a b r rm hv hu h hp
 have h:fw 1 a b σ k:=h
 obtain⟨x,hx,h⟩:=ab h
 obtain⟨y,hy,h⟩:=ab h
 obtain⟨F,hF,h1,h2⟩:=gb r hv hu hx hy
 exact ym (P:=λv u=>wpAny (model c.prog c.w) A (inplaceOp .Sub v u) Q bM s) h1 h2 h λ_ _ _ _ h=>P.isub_int (hp gh σ _ _ (.c (.int _)) (.toks _ _) r.tok1 (fA (.int _ _)) h)
end
end Mine.A
namespace Mine.A
theorem vk:seqSlot? (.type "list") (dunderI "add")=pure (some (.builtin "list.__iadd__")):=PySem.seqSlot_of PySem.F.slot_list_iadd.lookup (by decide+kernel)
theorem sA:fillsInplaceSlot (.type "list") "add" (Operator.Add== .Add)=pure false:=by
 unfold fillsInplaceSlot
 show(typeLookup (.type "list") (dunderI "add")>>=λfi=>pure (fi.isSome&& !isSeqSlot fi))=pure false
 rw [PySem.F.slot_list_iadd.lookup]
 rfl
section
variable {prog:Program} {w:World} {A:Around} {E:Value->Shared->Prop} {s:Shared}
theorem oT{l b:Addr}{items items2:Array Value}{n n2:Nat}{Q:Value->Shared->Prop}(hl:s.heap.get? l=some {cls:=.type "list",data:=.seq items n})(hb:s.heap.get? b=some {cls:=.type "list",data:=.seq items2 n2})
  (hz:items.size+items2.size≤sizeLine) (h:Q (.ref l) {s with heap:=s.heap.update l (Obj.mapSeq λx=>x++items2)}):wpAny (model prog w) A (inplaceOp .Add (.ref l) (.ref b)) Q E s:=by
 have tl:s.TypeIs (.ref l) "list":=⟨_,hl,rfl⟩
 have tb:s.TypeIs (.ref b) "list":=⟨_,hb,rfl⟩
 unfold inplaceOp
 refine wpAny_holding ?_
 refine wpAny_bind (wpAny_typeOf tl (wpAny_bind (wpAny_of_eq sA ?_)))
 show wpAny (model prog w) A (if false=true then _ else _) Q E s
 rw [if_neg Bool.false_ne_true]
 refine wpAny_bind (wpAny_binaryOp1_none (nm:="add") tl tb PySem.noFill_list_add ?_)
 refine wpAny_bind (wpAny_of_eq vk ?_)
 refine wpAny_bind (wpAny_rule ?_)
 exact call_meets PySem.F.slot_list_iadd tl PySem.F.entry_list_iadd (PySem.F.args_list_iadd_2 _ _) (AutoSeq1.list___iadd___list_list_0 l items n b items2 n2 (by rw [Bool.and_eq_true,not_and];intro _;show¬decide (items.size+items2.size>sizeLine)=true;rw [decide_eq_true_eq];lia) (by lia) (by lia)) ⟨hl,hb,h⟩
end
end Mine.A
namespace Mine.A
section
variable {c:Cx} {d:Nat} {L:Addr}
theorem bv.append{prog:Program}{w:World}{F:Addr->Option Obj}{us:List Value}{l m:List FV}(k:bv prog w F us m):∀ {vs:List Value},bv prog w F vs l->bv prog w F (vs++us) (l++m):=by
 induction l with
 |nil=>intro vs h;obtain rfl:=h.inv;exact k
 |cons f l ih=>intro vs h;obtain⟨v,r,rfl,a,hr⟩:=h.inv;exact .cons a (ih hr)
theorem eC{gh:Gh}{σ:St}{s:Shared}{v:Value}{x:V}{q:List FV}(r:al c gh L σ s)(hv:RV c.prog c.w gh v x)(h:fC σ.H x=some (.lst q)):
  ∃a o vs,v=.ref a∧s.heap.get? a=some o∧cQ "list" o vs∧bv c.prog c.w gh.F vs q∧q.length≤16777216:=by
 have closed:∀ {v:Value},RF c.prog c.w gh.F v (.lst q)->∃a o vs,v=.ref a∧s.heap.get? a=some o∧cQ "list" o vs∧bv c.prog c.w gh.F vs q∧q.length≤16777216:=λh=>by
  obtain⟨a,vs,o,ev,e,z,rr,b⟩:=h.x;exact⟨a,o,vs,ev,r.holds _ _ e,z,rr,b⟩
 induction x using V.casesOn with
 |c f=>obtain rfl:=Option.some.inj h;exact closed hv
 |st _=>exact ax h
 |mth _ _=>exact ax h
 |ob i=>
  obtain⟨a,ft,e,rfl⟩:=hv
  obtain⟨o,q',h⟩:=aw h
  have ro:=r.ob e q'
  induction o using AO.casesOn with
  |frz f'=>obtain rfl:=Option.some.inj h;exact closed ro.2
  |lst l=>
   have h:some (FV.lst l)=some (.lst q):=h
   cases h
   obtain⟨hft,o,vs,h1,h2,h3,h4⟩:=ro
   exact⟨a,o,vs,rfl,h1,h2,h3,h4⟩
  |_=>cases h
theorem al.setList{gh:Gh}{σ:St}{s:Shared}(r:al c gh L σ s){i:Nat}{a:Addr}{ft:List Addr}{l l':List FV}{vs':List Value}{h':Heap}{o':Obj}{tk:Nat}(ht:0<tk)(e:gh.φ i=some (a,ft))(q:lk i σ.H=some (.lst l))
  (hs:Heap.SameBut a s.heap h') (ho:h'.get? a=some o') (hq:cQ "list" o' vs') (hr:bv c.prog c.w gh.F vs' l') (hb:l'.length≤16777216):
  al c (gh.at i (a,[a])) L (aR σ (put i (.lst l') σ.H)) {s with heap:=h',toks:=tk}∧a8 false L gh s (gh.at i (a,[a])) {s with heap:=h',toks:=tk}:=by
 have ro:=r.ob e q
 obtain⟨hft,o,vs,h1,h2,h3,h4⟩:=ro
 subst hft
 have offa:=r.off a ⟨i,a,[a],e,.head _⟩
 obtain⟨m,N,hm⟩:=r.loc
 exact r.change (ft':=[a]) ht e
  (λx o hl ho hx=>(hs.2 x (λz=>hx (by refine z▸ ?_;exact .head _))).trans ho) (λx hx=>.inl hx)
  (λx hx=>by refine(List.mem_singleton.mp hx)▸ ?_;exact⟨o',ho⟩)
  ⟨m,eh (λo ho=>(hs.2 L offa.2.1.symm).trans ho) N,hm⟩ ⟨rfl,o',vs',ho,hq,hr,hb⟩
end
end Mine.A
namespace Mine.A
section
variable {c:Cx} {d:Nat} {L:Addr}
theorem nl{gh:Gh}{σ:St}{s:Shared}{A:Around}{F:Addr->Option Obj}{v u:Value}{x y:FV}{k:V->St->Prop}{Q:Value->Shared->Prop}(r:al c gh L σ s)(h1:RF c.prog c.w F v x)(h2:RF c.prog c.w F u y)
  (h:HE 0 x y (λr=>k (.c r) σ)) (hp:cN c L gh s k Q):wpAny (model c.prog c.w) A (inplaceOp .Add v u) Q bM s:=by
 induction x using FV.casesOn with
 |int i=>
  obtain⟨j,e,h⟩:=ab h
  obtain⟨t,rfl⟩:=h1.x
  obtain⟨t',rfl⟩:=h2.aI e
  exact P.iadd_int (hp gh σ _ _ (.c (.int (i+j))) (.toks _ _) r.tok1 (fA (.int _ _)) h)
 |str l=>
  obtain⟨m,e,hl,hk⟩:=ab h
  obtain⟨t,rfl,_⟩:=h1.x
  obtain⟨t',rfl,_⟩:=h2.aS e
  refine aV r.tk (SB.iadd (λt'' tk ht=> ?_) (by show(dy l).length+(dy m).length≤_;rw [f0,f0,sizeLine_eq];exact hl))
  have e:(⟨l.toArray⟩:PySem.Str)++⟨m.toArray⟩=⟨(l++m).toArray⟩:=by show PySem.Str.mk (l.toArray++m.toArray)=_;simp
  rw [e]
  exact hp gh σ _ _ (.c (.str (l++m))) (.toks _ _) (r.toks ht) (fA (.str (l++m) t'' (by rw [List.length_append];exact hl))) hk
 |_=>exact False.elim h
end
end Mine.A
namespace Mine.A
section
variable {c:Cx} {d:Nat} {L:Addr}
theorem zI:Ib c d L .Add 0:=by
 intro gh σ s A k Q v u a b r rm hv hu h hp
 have closed:fw 0 a b σ k->wpAny (model c.prog c.w) A (inplaceOp .Add v u) Q bM s:=λh=>by
  obtain⟨x,hx,h⟩:=ab h
  obtain⟨y,hy,h⟩:=ab h
  obtain⟨F,hF,h1,h2⟩:=gb r hv hu hx hy
  exact nl r h1 h2 h hp
 induction a using V.casesOn with
 |ob i=>
  have h:Option.rec (fw 0 (.ob i) b σ k) (λo=>AO.casesOn (motive:=λ_=>Prop) o (λl=>ai (fC σ.H b) λy=>ai (aL y) λq=>tm (l.length+q.length) (k (.ob i) (aR σ (put i (.lst (l++q)) σ.H)))) (λ_=>fw 0 (.ob i) b σ k) (λ_ _=>fw 0 (.ob i) b σ k) (λ_=>fw 0 (.ob i) b σ k)) (lk i σ.H):=h
  cases hl:lk i σ.H with
  |none=>rw [hl] at h;exact closed h
  |some o=>
   rw [hl] at h
   induction o using AO.casesOn with
   |lst l=>
    obtain⟨y,hy,h⟩:=ab h
    obtain⟨q,e,hle,hk⟩:=ab h
    obtain rfl:=pM e
    obtain⟨a,ft,e,rfl⟩:=hv
    obtain⟨hft,o,vs,h1,⟨n,rfl⟩,h3,h4⟩:=r.ob e hl
    obtain⟨b',o2,us,rfl,g1,⟨n2,rfl⟩,g3,g4⟩:=eC r hu hy
    have hz:vs.toArray.size+us.toArray.size=l.length+q.length:=congr (congrArg HAdd.hAdd h3.len) g3.len
    refine oT h1 g1 (by rw [sizeLine_eq,hz];exact hle) ?_
    have hup:(s.heap.update a (Obj.mapSeq λx=>x++us.toArray)).get? a=some (Obj.mapSeq (λx=>x++us.toArray) {cls:=.type "list",data:=.seq vs.toArray n}):=Heap.get?_update_self _ h1 rfl
    obtain⟨r1,x1⟩:=r.setList (l':=l++q) (vs':=vs++us) (tk:=s.toks) r.tk e hl (Heap.SameBut.update ..) hup ⟨_,by simp [Obj.mapSeq];rfl⟩ (bv.append g3 h3) (by refine List.length_append.symm▸ ?_;exact hle)
    exact hp _ _ _ _ (.ob i) x1 r1 ⟨a,[a],by exact Gh.at_self,rfl⟩ hk
   |_=>exact closed h
 |c f=>exact closed h
 |st _=>exact closed h
 |mth _ _=>exact closed h
end
end Mine.A
namespace Mine.A
section
variable {prog:Program} {w:World} {A:Around} {E:Value->Shared->Prop} {s:Shared}
theorem mG{l:Addr}{items:Array Value}{n:Nat}{k:Int}{t:Tok}{v:Value}{Q:Unit->Shared->Prop}(ho:s.heap.get? l=some {cls:=.type "list",data:=.seq items n})
  (h0:k<0) (h1: -(items.size:Int)≤k) (hfit: -(2 ^ 63)≤k)
  (hQ:Q () {s with heap:=s.heap.update l (Obj.mapSeq (·.setIfInBounds (k+items.size).toNat v))}):wpAny (model prog w) A (setItem (.ref l) (.int k t) v) Q E s:=by
 have hl:s.heap.IsList l items:=⟨_,ho,rfl,n,rfl⟩
 unfold setItem
 try with_reducible refine wpAny_holding ?_
 first|refine wpAny_bind (wpAny_pure ?_)|skip
 refine wpAny_bind (wpAny_sequenceKey hl.typeIs (by decide) ?_)
 refine wpAny_bind (wpAny_callSpecial?_slot (name:=Str.ofString "__setitem__") hl.typeIs PySem.slot_list_setitem
  (wpAny_call_entry PySem.slot_list_setitem hl.typeIs PySem.entry_list_setitem ?_ (PySem.args_list_setitem _ _ _)))
 show wpAny _ _ (Builtin.List.listSubscript? (.int k t)>>=_) _ _ s
 refine wpAny_bind (wpAny_listSubscript_int (fitsIndex_neg h0 hfit) ?_)
 clear hfit
 have hidx:=seqIndex_neg h0 h1
 have hx:items[(k+items.size).toNat]? =some (items[(k+items.size).toNat]'(by lia)):=Array.getElem?_eq_getElem _
 obtain⟨j,rfl⟩:∃j:Nat,k=Int.negSucc j:=by
  cases k with
  |ofNat n=>exact absurd h0 (Int.not_lt.mpr (Int.natCast_nonneg n))
  |negSucc n=>exact⟨n,rfl⟩
 show wpAny _ _ ((Builtin.List.listItems (.ref l)>>=λxs=>pure ((seqIndex? (Int.negSucc j) xs.size).bind λi=>xs[i]?.map (i, ·)))>>=_) _ _ s
 refine wpAny_bind (wpAny_bind ?_)
 show wpAny _ _ (seqItems? (.ref l)>>=_) _ _ s
 refine wpAny_bind (wpAny_seqItems ho rfl (wpAny_pure (wpAny_pure ?_)))
 refine hidx▸ ?_
 simp only [Option.bind_some,hx,Option.map_some]
 show wpAny _ _ (setSeqItemAt l _ v>>=_) _ _ s
 refine wpAny_bind (wpAny_setSeqItemAt ho rfl ?_)
 first
  |exact wpAny_bind (wpAny_pure (wpAny_pure ⟨.none,rfl,wpAny_pure hQ⟩))
  |exact wpAny_pure ⟨.none,rfl,wpAny_pure hQ⟩
end
end Mine.A
namespace Mine.A
noncomputable def Gh.low(g:Gh):Gh:=⟨g.F,λi=>if i<64 then g.φ i else none⟩
noncomputable def Gh.mix(g' g:Gh):Gh:=⟨g'.F,λi=>if i<64 then g'.φ i else g.φ i⟩
structure i5 (c:Cx) (g:Gh) (H:List (Nat×AO)) (s:Shared):Prop where
 frz:∀a o,g.F a=some o->s.heap.get? a=some o
 obs:∀i o,lk i H=some o->∃a ft,g.φ i=some (a,ft)∧RO c.prog c.w c.nm g s.heap a ft o
 sep:∀i j a ft b ft',g.φ i=some (a,ft)->g.φ j=some (b,ft')->i≠j->∀x∈ft,x∉ft'
 off:∀x,bZ g x->g.F x=none∧∃o,s.heap.get? x=some o
 dom:∀i p,g.φ i=some p->i<64∧∃o,lk i H=some o
 base:∀a o,c.base.get? a=some o->g.F a=some o
 big:c.base.objs.size≤s.heap.objs.size
 tk:0<s.toks
structure tf (b:Bool) (g:Gh) (s:Shared) (g':Gh) (s':Shared):Prop where
 le:Le b g g'
 keep:∀x o,s.heap.get? x=some o->¬bZ g x->s'.heap.get? x=some o
 fp:∀x,bZ g' x->bZ g x∨s.heap.get? x=none
 fF:∀x o,g'.F x=some o->g.F x=some o∨bZ g x∨s.heap.get? x=none
 gens:GK s.gens s'.gens
 os:s'.os=s.os
 drawn:s'.drawn=s.drawn
theorem gw(i:Nat):∀H:List (Nat×AO),lk i (lo H)=if i<64 then lk i H else none:=by
 intro H
 induction H with
 |nil=>
  show(none:Option AO)=_
  split<;>rfl
 |cons p H ih=>
  show lk i (Bool.rec (lo H) (p::lo H) (Nat.blt p.1 64):List (Nat×AO))=_
  cases e:Nat.blt p.1 64 with
  |true=>
   have h64:p.1<64:=Nat.lt_of_lt_of_le (Nat.lt_succ_self _) (bW e)
   show lk i (p::lo H)=_
   rw [aj,aj,ih]
   by_cases q:i=p.1
   ·rw [if_pos q,if_pos q,if_pos (by lia)]
   ·rw [if_neg q,if_neg q]
  |false=>
   have h64:¬p.1<64:=λh=>by
    have:Nat.blt p.1 64=true:=Nat.ble_eq.mpr h
    rw [e] at this;exact bU this
   show lk i (lo H)=_
   rw [ih,aj]
   split
   ·rw [if_neg (λq=>h64 (by lia))]
   ·rfl
theorem u0(i:Nat):∀H:List (Nat×AO),lk i (hi H)=if i<64 then none else lk i H:=by
 intro H
 induction H with
 |nil=>
  show(none:Option AO)=_
  split<;>rfl
 |cons p H ih=>
  show lk i (Bool.rec (p::hi H) (hi H) (Nat.blt p.1 64):List (Nat×AO))=_
  cases e:Nat.blt p.1 64 with
  |true=>
   have h64:p.1<64:=Nat.lt_of_lt_of_le (Nat.lt_succ_self _) (bW e)
   show lk i (hi H)=_
   rw [ih,aj]
   split
   ·rfl
   ·rw [if_neg (λq=>by lia)]
  |false=>
   have h64:¬p.1<64:=λh=>by
    have:Nat.blt p.1 64=true:=Nat.ble_eq.mpr h
    rw [e] at this;exact bU this
   show lk i (p::hi H)=_
   rw [aj,aj,ih]
   by_cases q:i=p.1
   ·rw [if_pos q,if_pos q,if_neg (by lia)]
   ·rw [if_neg q,if_neg q]
theorem ip(i:Nat)(H H':List (Nat×AO)):lk i (H++H')=(lk i H).or (lk i H'):=by
 induction H with
 |nil=>rfl
 |cons p H ih=>
  rw [List.cons_append,aj,aj]
  split
  ·rfl
  ·exact ih
theorem Gh.low_le(g:Gh):Sub g.low.F g.F:=λ_ _ e=>e
theorem ez{g:Gh}{i:Nat}{p:Addr×List Addr}(e:g.low.φ i=some p):i<64∧g.φ i=some p:=by
 have e:(if i<64 then g.φ i else none)=some p:=e
 split at e
 ·rename_i h;exact⟨h,e⟩
 ·exact ax e
theorem jC{g:Gh}{i:Nat}{p:Addr×List Addr}(h:i<64)(e:g.φ i=some p):g.low.φ i=some p:=by
 show(if i<64 then g.φ i else none)=some p
 refine(if_pos h)▸ ?_;exact e
theorem dN{a b:Nat}(e:Nat.blt a b=true):a<b:=Nat.lt_of_lt_of_le (Nat.lt_succ_self _) (bW e)
theorem jW{prog:Program}{w:World}{g:Gh}{v:Value}{x:V}(h:RV prog w g v x)(hl:jD x=true):RV prog w g.low v x:=by
 induction x using V.casesOn with
 |c f=>exact h
 |ob i=>obtain⟨a,ft,e,q⟩:=h;exact⟨a,ft,jC (dN hl) e,q⟩
 |st a=>exact h
 |mth f i=>obtain⟨q,a,ft,h1,h2,h3⟩:=h;exact⟨q,a,ft,h1,h2,jC (dN hl) h3⟩
theorem zF{prog:Program}{w:World}{g:Gh}{vs:List Value}{xs:List V}(h:eE prog w g vs xs)(hl:xs.all jD=true):eE prog w g.low vs xs:=by
 induction h with
 |nil=>exact .nil
 |cons a _ ih=>
  rw [List.all_cons,Bool.and_eq_true] at hl
  exact .cons (jW a hl.1) (ih hl.2)
theorem DQ{prog:Program}{w:World}{g:Gh}{vs:List (PySem.Str×Value)}{xs:List (List Nat×V)}(h:RD prog w g vs xs)(hl:(xs.all λp=>jD p.2)=true):RD prog w g.low vs xs:=by
 induction h with
 |nil=>exact .nil
 |cons a _ ih=>
  rw [List.all_cons,Bool.and_eq_true] at hl
  exact .cons (jW a hl.1) (ih hl.2)
theorem DO{prog:Program}{w:World}{nm:Nat->PySem.Str}{g:Gh}{vs:List DictEntry}{xs:List (Nat×V)}(h:RI prog w nm g vs xs)(hl:(xs.all λp=>jD p.2)=true):RI prog w nm g.low vs xs:=by
 induction h with
 |nil=>exact .nil
 |cons k a _ ih=>
  rw [List.all_cons,Bool.and_eq_true] at hl
  exact .cons k (jW a hl.1) (ih hl.2)
theorem DM{prog:Program}{w:World}{nm:Nat->PySem.Str}{g:Gh}{h:Heap}{a:Addr}{ft:List Addr}{o:AO}(r:RO prog w nm g h a ft o)(hl:io o=true):RO prog w nm g.low h a ft o:=by
 induction o using AO.casesOn with
 |dct _=>obtain⟨e,o,kvs,q,z,d,r,b⟩:=r;exact⟨e,o,kvs,q,z,d,DQ r hl,b⟩
 |inst _ _=>obtain⟨dx,es,n,e,ne,q,q',r⟩:=r;exact⟨dx,es,n,e,ne,q,q',DO r hl⟩
 |_=>exact r
theorem oJ{α:Type}{i:Nat}{o:α}{H:List (Nat×α)}(h:lk i H=some o):(i,o)∈H:=by
 induction H with
 |nil=>exact ax h
 |cons p H ih=>
  rw [aj] at h
  by_cases q:i=p.1
  ·rw [if_pos q] at h;obtain rfl:=Option.some.inj h;exact q▸ .head _
  ·rw [if_neg q] at h;exact .tail _ (ih h)
theorem Db{H:List (Nat×AO)}(h:(H.all λp=>io p.2)=true){i:Nat}{o:AO}(e:lk i H=some o):io o=true:=List.all_eq_true.mp h _ (oJ e)
section
variable {c:Cx} {g:G} {K:Frag} {f:Fm} {d:Nat} {gh:Gh} {L:Addr} {σ:St} {s:Shared}
theorem al.toC(r:al c gh L σ s)(hl:((lo σ.H).all λp=>io p.2)=true):i5 c gh.low (lo σ.H) s:=by
 refine⟨r.frz,λi o h=> ?_,λi j a ft b ft' h1 h2 hne=>r.sep i j a ft b ft' (ez h1).2 (ez h2).2 hne,λx hx=> ?_,λi p e=> ?_,r.base,by obtain⟨o,e⟩:=r.L_there;exact Nat.le_trans r.Lb (Nat.le_of_lt (Heap.lt_size e)),r.tk⟩
 ·have ha:=Db hl h
  rw [gw] at h
  split at h
  ·rename_i hi
   obtain⟨a,ft,e,ro⟩:=r.obs i o h
   exact⟨a,ft,jC hi e,DM ro ha⟩
  ·exact ax h
 ·obtain⟨i,a,ft,e,hx⟩:=hx
  have u:=r.off x ⟨i,a,ft,(ez e).2,hx⟩
  exact⟨u.1,u.2.2⟩
 ·obtain⟨hi,e⟩:=ez e
  obtain⟨o,ho⟩:=r.dom i p e hi
  exact⟨hi,o,by rw [gw,if_pos hi];exact ho⟩
theorem fY{x:Addr}(h:bZ gh.low x):bZ gh x:=by
 obtain⟨i,a,ft,e,hx⟩:=h;exact⟨i,a,ft,(ez e).2,hx⟩
theorem al.ofC(r:al c gh L σ s){gh':Gh}{s':Shared}{H':List (Nat×AO)}(x:tf false gh.low s gh' s')(r':i5 c gh' H' s'):
  al c (gh'.mix gh) L (aR σ (H'++hi σ.H)) s'∧a8 false L gh s (gh'.mix gh) s'∧Le false gh' (gh'.mix gh):=by
 have mlo:∀ {i:Nat},i<64->(gh'.mix gh).φ i=gh'.φ i:=λ{i} h=>by show(if i<64 then _ else _)=_;rw [if_pos h]
 have mhi:∀ {i:Nat},¬i<64->(gh'.mix gh).φ i=gh.φ i:=λ{i} h=>by show(if i<64 then _ else _)=_;rw [if_neg h]
 have le':Le false gh' (gh'.mix gh):=⟨λ_ _ e=>e,λi a ft e _=>⟨ft,by rw [mlo (r'.dom i _ e).1];exact e⟩⟩
 have le:Le false gh (gh'.mix gh):=⟨x.le.F,λi a ft e hn=>by
  by_cases h:i<64
  ·obtain⟨ft',e'⟩:=x.le.φ i a ft (jC h e) hn
   exact⟨ft',by refine(mlo h)▸ ?_;exact e'⟩
  ·exact⟨ft,by rw [mhi h];exact e⟩⟩
 have hiFoot:∀ {j:Nat} {b:Addr} {fb:List Addr} {y:Addr},¬j<64->gh.φ j=some (b,fb)->y∈fb->¬bZ gh.low y:=λ{j b fb y} hj e hy h=>by
  obtain⟨i,a,ft,e2,hy2⟩:=h
  obtain⟨hi,e2⟩:=ez e2
  exact r.sep i j a ft b fb e2 e (λq=>hj (q▸hi)) y hy2 hy
 have Lfoot:¬bZ gh.low L:=λh=>(r.off L (fY h)).2.1 rfl
 have keepL:∀o,s.heap.get? L=some o->s'.heap.get? L=some o:=λo e=>x.keep L o e Lfoot
 have foot':∀y,bZ (gh'.mix gh) y->bZ gh' y∨∃j b fb,¬j<64∧gh.φ j=some (b,fb)∧y∈fb:=λy h=>by
  obtain⟨j,b,fb,e,hy⟩:=h
  by_cases h:j<64
  ·rw [mlo h] at e;exact .inl ⟨j,b,fb,e,hy⟩
  ·rw [mhi h] at e;exact .inr ⟨j,b,fb,h,e,hy⟩
 refine⟨⟨r'.frz,λi o h=> ?_,λi j a ft b ft' h1 h2 hne y hy1 hy2=> ?_,λy hy=> ?_, ?_, ?_,λi hi=> ?_,r.m64,λi p e hi=> ?_,r'.base,r.Lb,r'.tk⟩,
  ⟨le,λy o e hl hn=>x.keep y o e λh=>hn (fY h),λy hy=> ?_,λy o e=> ?_,x.gens,x.os,x.drawn⟩,le'⟩
 ·have h:lk i (H'++hi σ.H)=some o:=h
  rw [ip] at h
  cases q:lk i H' with
  |some o'=>
   replace h:=q▸h
   have h:some o'=some o:=h
   obtain rfl:=Option.some.inj h
   obtain⟨a,ft,e,ro⟩:=r'.obs i _ q
   exact⟨a,ft,by rw [mlo (r'.dom i _ e).1];exact e,ro.step le' λ_ _ _ e=>e⟩
  |none=>
   rw [q] at h
   have h:lk i (hi σ.H)=some o:=h
   rw [u0] at h
   split at h
   ·cases h
   ·rename_i hi
    obtain⟨a,ft,e,ro⟩:=r.obs i o h
    exact⟨a,ft,by rw [mhi hi];exact e,ro.step le λy hy o ho=>x.keep y o ho (hiFoot hi e hy)⟩
 ·by_cases k1:i<64<;>by_cases k2:j<64
  ·rw [mlo k1] at h1;rw [mlo k2] at h2;exact r'.sep i j a ft b ft' h1 h2 hne y hy1 hy2
  ·rw [mlo k1] at h1;rw [mhi k2] at h2
   rcases x.fp y ⟨i,a,ft,h1,hy1⟩with z|z
   ·exact hiFoot k2 h2 hy2 z
   ·obtain⟨_,_,o,w⟩:=r.off y ⟨j,b,ft',h2,hy2⟩;rw [z] at w;exact ax w
  ·rw [mhi k1] at h1;rw [mlo k2] at h2
   rcases x.fp y ⟨j,b,ft',h2,hy2⟩with z|z
   ·exact hiFoot k1 h1 hy1 z
   ·obtain⟨_,_,o,w⟩:=r.off y ⟨i,a,ft,h1,hy1⟩;rw [z] at w;exact ax w
  ·rw [mhi k1] at h1;rw [mhi k2] at h2;exact r.sep i j a ft b ft' h1 h2 hne y hy1 hy2
 ·rcases foot' y hy with z|⟨j,b,fb,hj,e,hz⟩
  ·obtain⟨u,w⟩:=r'.off y z
   refine⟨u,λq=> ?_,w⟩
   rcases x.fp y z with k|k
   ·exact Lfoot (q▸k)
   ·obtain⟨o,e⟩:=r.L_there;rw [←q,k] at e;exact ax e
  ·obtain⟨u,v,o,w⟩:=r.off y ⟨j,b,fb,e,hz⟩
   refine⟨?_,v,o,x.keep y o w (hiFoot hj e hz)⟩
   show gh'.F y=none
   cases q:gh'.F y with
   |none=>rfl
   |some o'=>
    rcases x.fF y o' q with k|k|k
    ·have k:gh.F y=some o':=k
     rw [u] at k;exact ax k
    ·exact(hiFoot hj e hz k).elim
    ·rw [w] at k;cases k
 ·show gh'.F L=none
  cases q:gh'.F L with
  |none=>rfl
  |some o'=>
   rcases x.fF L o' q with k|k|k
   ·have k:gh.F L=some o':=k
    rw [r.nL] at k;exact ax k
   ·exact(Lfoot k).elim
   ·obtain⟨o,e⟩:=r.L_there;rw [k] at e;exact ax e
 ·obtain⟨m,N,hm⟩:=r.loc
  exact⟨m,eh keepL N,λn v e=>(hm n v e).elim λw e=>⟨w,e.1,e.2.mono le⟩⟩
 ·have h64:=r.m64
  have hi:σ.m≤i:=hi
  rw [mhi (by lia)];exact r.new i hi
 ·rw [mlo hi] at e
  obtain⟨o,ho⟩:=(r'.dom i p e).2
  exact⟨o,by show lk i (H'++_)=_;rw [ip,ho];rfl⟩
 ·rcases foot' y hy with z|⟨j,b,fb,_,e,hz⟩
  ·rcases x.fp y z with k|k
   ·exact .inl (fY k)
   ·exact .inr k
  ·exact .inl ⟨j,b,fb,e,hz⟩
 ·rcases x.fF y o e with k|k|k
  ·exact .inl k
  ·exact .inr (.inl (fY k))
  ·exact .inr (.inr k)
noncomputable def cn(c:Cx)(vs:List Value)(kws:List Nat):Args:=⟨vs.take (vs.length-kws.length),(kws.map c.nm).zip (vs.drop (vs.length-kws.length))⟩
theorem bq(vs:List Value):cn c vs []=⟨vs,[]⟩:=by simp [cn]
noncomputable def bH(b:Bool)(c:Cx)(fa:Addr)(d:Nat)(spec:List V->List Nat->List (Nat×AO)->(V->List (Nat×AO)->Prop)->Prop):Prop:=
 ∀gh H s A vs xs kws k R,i5 c gh H s->eE c.prog c.w gh vs xs->bG d A->spec xs kws H k->
  (∀gh' s' v y H',tf b gh s gh' s'->i5 c gh' H' s'->RV c.prog c.w gh' v y->k y H'->R (.ok (.ret v)) s')->
  codeAny (model c.prog c.w) A (.call (.ref fa) (cn c vs kws)) R s
theorem bG.mono{d e:Nat}{A:Around}(h:bG e A)(l:d≤e):bG d A:=⟨h.hd,by have:=h.dep;lia,by have:=h.un;lia⟩
theorem bH.mono{b:Bool}{fa:Addr}{d e:Nat}{spec}(h:bH b c fa d spec)(l:d≤e):bH b c fa e spec:=
 λgh H s A vs xs kws k R r hv rm=>h gh H s A vs xs kws k R r hv (rm.mono l)
theorem gW{fa:Addr}{A:Around}{vs:List Value}{xs:List V}{kws:List Nat}{k:V->St->Prop}{R:Result->Shared->Prop}(C:bH false c fa d (g.call fa))(r:al c gh L σ s)(rm:bG d A)(hv:eE c.prog c.w gh vs xs)
  (h:cC g fa xs kws σ k) (hp:∀gh' Z' s' v x,a8 false L gh s gh' s'->al c gh' L Z' s'->RV c.prog c.w gh' v x->k x Z'->R (.ok (.ret v)) s'):codeAny (model c.prog c.w) A (.call (.ref fa) (cn c vs kws)) R s:=by
 obtain⟨hb,h⟩:=sX h
 ·rw [Bool.and_eq_true,Bool.and_eq_true] at hb
  replace hb:=hb.2
  refine C gh.low (lo σ.H) s A vs xs kws _ R (r.toC hb.2) (zF hv hb.1) rm h λgh' s' v y H' x r' hv' hk=> ?_
  obtain⟨r2,x2,l2⟩:=r.ofC x r'
  exact hp _ _ s' v y x2 r2 (hv'.mono l2) hk
theorem jS{fa:Nat}{xs:List V}{kws:List Nat}{k:V->St->Prop}(h:cC g fa xs kws σ k):g.fn fa=true:=by
 have h:=(sX h).1
 rw [Bool.and_eq_true] at h
 exact h.1
end
end Mine.A
namespace Mine.A
noncomputable def E7(v:V)(H:List (Nat×AO)):Option (V×List (Nat×AO)):=
 V.casesOn (motive:=λ_=>Option (V×List (Nat×AO))) v (λ_=>some (v,H)) (λi=>Bool.rec (some (v,H)) (ed (frz H v) λr=>(.c r.1,r.2)) (Nat.ble 64 i)) (λ_=>some (v,H)) (λ_ _=>some (v,H))
noncomputable def LO(fl:Fl):V:=Fl.casesOn (motive:=λ_=>V) fl (.c .non) (.c .non) (.c .non) λv=>v
noncomputable def fin(k:V->List (Nat×AO)->Prop)(fl:Fl)(s:St):Prop:=
 ai (E7 (LO fl) s.H) λr=>br (Bool.and (jD r.1) ((lo r.2).all λp=>io p.2)) (k r.1 (lo r.2)) False
section
variable {c:Cx} {g:G} {K:Frag} {p:CP} {loose:List PySem.Str} {mg mb:PySem.Str->Option Value} {d:Nat} {gh:Gh}
theorem i5.enter{H:List (Nat×AO)}{s:Shared}(r:i5 c gh H s){h₀:Heap}{m:PySem.Str->Option Value}{L0:List (Nat×V)}{tk:Nat}(ht:0<tk)(hn:h₀.Ns s.heap.objs.size m)(hk:∀b o,s.heap.get? b=some o->h₀.get? b=some o)
  (hm:∀n v,lk n L0=some v->∃u,m (c.nm n)=some u∧RV c.prog c.w gh u v):al c gh s.heap.objs.size ⟨L0,H,64,false⟩ {s with heap:=h₀,toks:=tk}:=by
 have hs:s.heap.get? s.heap.objs.size=none:=aE (Nat.le_refl _)
 refine⟨λa o e=>hk a o (r.frz a o e),λi o h=> ?_,r.sep,λx hx=> ?_, ?_,⟨m,hn,hm⟩,λi hi=> ?_,Nat.le_refl _,λi p e _=>(r.dom i p e).2,r.base,r.big,ht⟩
 ·obtain⟨a,ft,e,ro⟩:=r.obs i o h
  exact⟨a,ft,e,ro.step (.refl _ _) λx _ o e=>hk x o e⟩
 ·obtain⟨u,o,w⟩:=r.off x hx
  exact⟨u,λq=>(by rw [q,hs] at w;exact ax w),o,hk x o w⟩
 ·cases q:gh.F s.heap.objs.size with
  |none=>rfl
  |some o=>have:=r.frz _ o q;rw [hs] at this;exact ax this
 ·cases q:gh.φ i with
  |none=>rfl
  |some p=>have h1:=(r.dom i p q).1;have hi:64≤i:=hi;lia
theorem i5.leave{H:List (Nat×AO)}{s s':Shared}(r:i5 c gh H s){h₀:Heap}{tk:Nat}(hk:∀b o,s.heap.get? b=some o->h₀.get? b=some o){b:Bool}{gh':Gh}{Z':St}
  (x:a8 b s.heap.objs.size gh {s with heap:=h₀,toks:=tk} gh' s') (r':al c gh' s.heap.objs.size Z' s') (hl:((lo Z'.H).all λp=>io p.2)=true):
  tf b gh s gh'.low s'∧i5 c gh'.low (lo Z'.H) s':=by
 have hs:s.heap.get? s.heap.objs.size=none:=aE (Nat.le_refl _)
 have s7:∀y,h₀.get? y=none->s.heap.get? y=none:=λy e=>dW (λo ho=>⟨o,hk y o ho⟩) e
 refine⟨⟨⟨x.le.F,λi a ft e n=> ?_⟩,λy o e hn=>x.keep y o (hk y o e) (λq=>by rw [q,hs] at e;exact ax e) hn,λy hy=> ?_,λy o e=> ?_,x.gens,x.os,x.drawn⟩,r'.toC hl⟩
 ·obtain⟨ft',e'⟩:=x.le.φ i a ft e n
  exact⟨ft',jC (r.dom i _ e).1 e'⟩
 ·rcases x.fp y (fY hy)with k|k
  ·exact .inl k
  ·exact .inr (s7 y k)
 ·rcases x.fF y o e with k|k|k
  ·exact .inl k
  ·exact .inr (.inl k)
  ·exact .inr (.inr (s7 y k))
theorem qu{L:Addr}{σ:St}{s:Shared}{v:Value}{x:V}{p:V×List (Nat×AO)}(r:al c gh L σ s)(hv:RV c.prog c.w gh v x)(h:E7 x σ.H=some p):
  ∃gh',a8 false L gh s gh' s∧al c gh' L (aR σ p.2) s∧RV c.prog c.w gh' v p.1:=by
 have triv:some (x,σ.H)=some p->∃gh',a8 false L gh s gh' s∧al c gh' L (aR σ p.2) s∧RV c.prog c.w gh' v p.1:=λh=>by
  obtain rfl:=Option.some.inj h;exact⟨gh,.refl _ _ _ _,r,hv⟩
 induction x using V.casesOn with
 |ob i=>
  have h:(Bool.rec (some (.ob i,σ.H)) (ed (frz σ.H (.ob i)) λr=>(.c r.1,r.2)) (Nat.ble 64 i):Option (V×List (Nat×AO)))=some p:=h
  cases hb:Nat.ble 64 i with
  |false=>rw [hb] at h;exact triv h
  |true=>
   rw [hb] at h
   obtain⟨q,e,rfl⟩:=cm h
   exact eM r hv e
 |_=>exact triv h
theorem wH{prog:Program}{w:World}{gh:Gh}{a:Flow}{y:Fl}(hl:RL prog w gh a y):RV prog w gh (match (generalizing:=false) a with| .ret v=>v|_=>.none) (LO y):=by
 induction y with
 |ret x=>obtain⟨v,rfl,h⟩:=hl;exact h
 |_=>obtain rfl:=hl;exact fA .non
noncomputable def Ck(fd:FuncData)(L a:Addr)(hk:fd.scope.kind=.function)(hg:fd.globals=mainGlobals)(hb:fd.builtins=builtinsNs):Fm:=⟨callEnv fd L a,hk,hg,hb⟩
theorem pT(T:TopRead c.prog loose mg mb c.base){b:Bool}{fa:Addr}{o:Obj}{fd:FuncData}{body:List Stmt}{x:S}{spec:List V->List Nat->List (Nat×AO)->(V->List (Nat×AO)->Prop)->Prop}{bind:List V->List Nat->Option (List (Nat×V))}
  (hk:fd.scope.kind=.function) (hg:fd.globals=mainGlobals) (hb:fd.builtins=builtinsNs) (hco:fd.scope.isCoroutine=false) (hgen:fd.scope.isGenerator=false)
  (ho:c.base.get? fa=some o) (hdata:o.data=.func fd) (hbody:fd.body=.stmts body) (hcd:c.base.CodeRec fd.code fd.qualname) (hcell:∀x∈fd.scope.names,x.2≠ .cell)
  (hbind:∀gh s vs xs kws L0,Holds gh.F s.heap->(∀a o,c.base.get? a=some o->s.heap.get? a=some o)->eE c.prog c.w gh vs xs->bind xs kws=some L0->∃bs,BindsTo s fd (cn c vs kws) bs∧(∀x∈bs,fd.scope.names.lookup x.1=some .local)∧
   ∀n v,lk n L0=some v->∃u,bs.reverse.lookup (c.nm n)=some u∧RV c.prog c.w gh u v)
  (hS:∀L gh σ s A k Q,al c gh L σ s->bG d A->ex g x σ k->(∀gh' Z' s' a y,a8 b L gh s gh' s'->al c gh' L Z' s'->RL c.prog c.w gh' a y->k y Z'->Q a s')->wpAny (model c.prog c.w) A (execs body (callEnv fd L fa)) Q bM s)
  (hspec:∀xs kws H k,spec xs kws H k->ai (bind xs kws) λL0=>ex g x ⟨L0,H,64,false⟩ (fin k)):bH b c fa (d+1) spec:=by
 intro gh H s A vs xs kws k R r hv rm hsp hp
 obtain⟨L0,hL0,hex⟩:=ab (hspec xs kws H k hsp)
 have kb:∀a o,c.base.get? a=some o->s.heap.get? a=some o:=λa o e=>r.frz a o (r.base a o e)
 obtain⟨bs,hB,hloc,hlk⟩:=hbind gh s vs xs kws L0 r.frz kb hv hL0
 refine codeAny_call_def (body:=body) (by have:=rm.dep;lia) (kb _ _ ho) hdata (T.nolimit.keeps kb) ?_ hbody hB hcell hloc (λh₀ hn hx=> ?_) hco hgen hk
 ·obtain⟨cc,oc,vs',t,e1,e2,e3,e4⟩:=hcd
  exact⟨cc,oc,vs',t,e1,kb _ _ e2,e3,e4⟩
 ·have r0:=r.enter (L0:=L0) (tk:=s.toks+bs.length) (Nat.lt_of_lt_of_le r.tk (Nat.le_add_right _ _)) hn hx hlk
  refine wpAny_mono (hS _ gh _ _ _ (fin k) _ r0 ⟨rm.hd,by have:=rm.dep;show A.depth+1+d<_;lia,by have:=rm.un;show A.units+3+16*d+64<_;lia⟩ hex λgh' Z' s' a y x' r' hl hk=> ?_) (λ_ _ h=>h) λ_ _ h=>h.elim
  obtain⟨p,e1,hk⟩:=ab hk
  obtain⟨hb2,hk⟩:=sX hk
  ·rw [Bool.and_eq_true] at hb2
   obtain⟨gh2,x2,r2,hv2⟩:=qu r' (wH hl) e1
   obtain⟨x3,r3⟩:=r.leave hx (x'.trans r0 r' x2) r2 hb2.2
   have x3:tf b gh s gh2.low s':=by rw [Bool.or_false] at x3;exact x3
   exact hp _ s' _ p.1 _ x3 r3 (jW hv2 hb2.1) hk
end
end Mine.A
namespace Mine.A
section
variable {c:Cx} {g:G} {K:Frag} {p:CP} {loose:List PySem.Str} {mg mb:PySem.Str->Option Value} {f:Fm} {d:Nat}
inductive ib (c:Cx) (g:G) (f:Fm) (d:Nat):X->List Expr->Prop
 |nil:ib c g f d .nil []
 |bad {es:List Expr}:es.all cZ=true->ib c g f d .bad es
 |cons {x y:X} {e:Expr} {es:List Expr}:cZ e=true->SE c g f d x e->ib c g f d y es->ib c g f d (.cons x y) (e::es)
theorem ib.SL{x:X}{es:List Expr}(h:ib c g f d x es):SL c g f d x es:=by
 induction h with
 |nil=>exact Dt
 |bad _=>intro gh σ s A k Q pos r rm hev hp;exact hev.elim
 |cons a b _ ih=>exact zx a b ih
theorem eE.app{prog:Program}{w:World}{gh:Gh}{vs us:List Value}{xs ys:List V}(h:eE prog w gh vs xs)(h':eE prog w gh us ys):eE prog w gh (vs++us) (xs++ys):=by
 induction h with
 |nil=>exact h'
 |cons a _ ih=>exact .cons a ih
theorem eE.len{prog:Program}{w:World}{gh:Gh}{vs:List Value}{xs:List V}(h:eE prog w gh vs xs):vs.length=xs.length:=by
 induction h with
 |nil=>rfl
 |cons _ _ ih=>exact congrArg (· +1) ih
theorem rP{es':List Expr}(es:List Expr):∀ {x:X} {gh:Gh} {σ:St} {s:Shared} {A:Around} {k:List V->St->Prop} {Q:List Value->Shared->Prop} {pos:Pos},ib c g f d x (es++es')->al c gh f.L σ s->bG d A->ev g x σ k->
  (∀gh' Z' s' vs xs x',a8 false f.L gh s gh' s'->al c gh' f.L Z' s'->eE c.prog c.w gh' vs xs->vs.length=es.length->ib c g f d x' es'->ev g x' Z' (λys σ=>k (xs++ys) σ)->Q vs s')->
  wpAny (model c.prog c.w) A (spliced (backTo pos (starEach es f.env))) Q bM s:=by
 induction es with
 |nil=>
  intro x gh σ s A k Q pos hr r rm hev hp
  exact wpAny_items_nil (hp gh σ s [] [] x (.refl _ _ _ _) r .nil rfl hr hev)
 |cons e es ih=>
  intro x gh σ s A k Q pos hr r rm hev hp
  have hr:ib c g f d x (e::(es++es')):=hr
  cases hr with
  |bad _=>exact hev.elim
  |cons hs h hr=>
   rw [d8 hs]
   show wpAny _ _ (spliced ((false,eval e f.env)::backTo pos (starEach es f.env))) _ _ _
   unfold spliced
   refine wpAny_bind (h gh σ s A _ _ r rm hev λgh₁ σ₁ s₁ v a x₁ r₁ hv hk=> ?_)
   refine wpAny_bind (wpAny_pure (wpAny_bind (wpAny_holding ?_)))
   refine ih (pos:=pos) hr r₁ rm hk λgh₂ σ₂ s₂ vs xs x' x₂ r₂ hvs hlen hr' hk=> ?_
   exact wpAny_pure (hp gh₂ σ₂ s₂ (v::vs) (a::xs) x' (x₁.trans r r₁ x₂) r₂ (.cons (hv.mono x₂.le) hvs) (congrArg (· +1) hlen) hr' hk)
theorem xt{pos:Pos}(kws:List Keyword):∀ {x:X} {gh:Gh} {σ:St} {s:Shared} {A:Around} {k:List V->St->Prop} {Q:List Value->Shared->Prop},ib c g f d x (kws.map (·.value))->al c gh f.L σ s->bG d A->ev g x σ k->
  (∀gh' Z' s' vs xs,a8 false f.L gh s gh' s'->al c gh' f.L Z' s'->eE c.prog c.w gh' vs xs->vs.length=kws.length->k xs Z'->Q vs s')->
  wpAny (model c.prog c.w) A (evalAll ((backToKw pos (keywordEach kws f.env)).map (·.2))) Q bM s:=by
 induction kws with
 |nil=>
  intro x gh σ s A k Q hr r rm hev hp
  have hr:ib c g f d x []:=hr
  cases hr with
  |bad _=>exact hev.elim
  |nil=>exact wpAny_evalAll_nil (hp gh σ s [] [] (.refl _ _ _ _) r .nil rfl hev)
 |cons kw kws ih=>
  intro x gh σ s A k Q hr r rm hev hp
  obtain⟨n,e,q⟩:=kw
  have hr:ib c g f d x (e::kws.map (·.value)):=hr
  cases hr with
  |bad _=>exact hev.elim
  |cons hs h hr=>
   show wpAny _ A (evalAll ((do let v←eval e f.env;standAt pos;pure v)::(backToKw pos (keywordEach kws f.env)).map (·.2))) Q bM s
   refine wpAny_evalAll_cons (wpAny_bind (h gh σ s A _ _ r rm hev λgh₁ σ₁ s₁ v a x₁ r₁ hv hk=>wpAny_bind (wpAny_standAt (wpAny_pure ?_))))
   refine ih hr r₁ rm hk λgh₂ σ₂ s₂ vs xs x₂ r₂ hvs hlen hk=> ?_
   exact hp gh₂ σ₂ s₂ (v::vs) (a::xs) (x₁.trans r r₁ x₂) r₂ (.cons (hv.mono x₂.le) hvs) (congrArg (· +1) hlen) hk
theorem nb(Y:Ctx c K p loose mg mb)(pos:Pos)(env:Env){kws:List Keyword}:∀ {ks:List Nat},D7 p kws=some ks->(backToKw pos (keywordEach kws env)).all (·.1.isSome)=true∧(backToKw pos (keywordEach kws env)).any (·.1.isNone)=false∧
  (backToKw pos (keywordEach kws env)).filterMap (·.1)=ks.map c.nm∧ks.length=kws.length:=by
 induction kws with
 |nil=>intro ks h;obtain rfl:=Option.some.inj h;exact⟨rfl,rfl,rfl,rfl⟩
 |cons kw r ih=>
  intro ks h
  obtain⟨a,e,q⟩:=kw
  obtain⟨x,ha,h⟩:=aw h
  obtain⟨i,h1,h⟩:=aw h
  obtain⟨l,h2,rfl⟩:=cm h
  obtain rfl:a=some x:=ha
  obtain⟨a1,a2,a3,a4⟩:=ih h2
  refine⟨a1,a2, ?_,congrArg (· +1) a4⟩
  show x::(backToKw pos (keywordEach r env)).filterMap _=_
  rw [a3,List.map_cons,(Y.code x i h1).1]
theorem ce(pos:Pos)(env:Env){es:List Expr}(h:es.all cZ=true):(backTo pos (starEach es env)).any (·.1)=false:=by
 induction es with
 |nil=>rfl
 |cons e es ih=>
  rw [List.all_cons,Bool.and_eq_true] at h
  rw [d8 h.1]
  exact ih h.2
theorem ib.stars{x:X}{es es':List Expr}(h:ib c g f d x (es++es')):es.all cZ=true:=by
 induction es generalizing x with
 |nil=>rfl
 |cons e es ih=>
  have h:ib c g f d x (e::(es++es')):=h
  cases h with
  |bad hs=>
   rw [List.all_cons,Bool.and_eq_true] at hs
   have:=hs.2
   rw [List.all_append,Bool.and_eq_true] at this
   rw [List.all_cons,hs.1,this.1];rfl
  |cons a _ b=>rw [List.all_cons,a,ih b];rfl
theorem dT{args:List Expr}{kws:List Keyword}{ks:List Nat}{x:X}{gh:Gh}{σ:St}{s:Shared}{A:Around}{k:List V->St->Prop}{Q:Args->Shared->Prop}{pos:Pos}{fv:Value}(Y:Ctx c K p loose mg mb)(hk:D7 p kws=some ks)
  (hr:ib c g f d x (args++kws.map (·.value))) (r:al c gh f.L σ s) (rm:bG d A) (hev:ev g x σ k)
  (hp:∀gh' Z' s' vs xs,ks.length≤vs.length->a8 false f.L gh s gh' s'->al c gh' f.L Z' s'->eE c.prog c.w gh' vs xs->k xs Z'->Q (cn c vs ks) s'):
  wpAny (model c.prog c.w) A (evalArgs fv true (backTo pos (starEach args f.env)) (backToKw pos (keywordEach kws f.env))) Q bM s:=by
 obtain⟨a1,a2,a3,a4⟩:=nb Y pos f.env hk
 have last:∀ {gh₁ σ₁ s₁ vs xs x'},a8 false f.L gh s gh₁ s₁->al c gh₁ f.L σ₁ s₁->eE c.prog c.w gh₁ vs xs->ib c g f d x' (kws.map (·.value))->ev g x' σ₁ (λys σ=>k (xs++ys) σ)->
   wpAny (model c.prog c.w) A (evalAll ((backToKw pos (keywordEach kws f.env)).map (·.2))) (λus s₂=>Q ⟨vs,((backToKw pos (keywordEach kws f.env)).filterMap (·.1)).zip us⟩ s₂) bM s₁:=λ{gh₁ σ₁ s₁ vs xs x'} x₁ r₁ hvs hr' hk=>by
  refine xt kws hr' r₁ rm hk λgh₂ σ₂ s₂ us ys x₂ r₂ hus hlen hk=> ?_
  have:=hp gh₂ σ₂ s₂ (vs++us) (xs++ys) (by((refine List.length_append▸ ?_;refine a4▸ ?_);refine hlen▸ ?_);lia) (x₁.trans r r₁ x₂) r₂ ((hvs.mono x₂.le).app hus) hk
  have e:cn c (vs++us) ks=⟨vs,((backToKw pos (keywordEach kws f.env)).filterMap (·.1)).zip us⟩:=by
   unfold cn
   rw [a3,List.length_append,a4, ←hlen,Nat.add_sub_cancel,List.take_left,List.drop_left]
  rw [e] at this;exact this
 induction args using List.casesOn with
 |nil=>exact evalArgs_kw_nil a1 (last (.refl _ _ _ _) r .nil hr (by simpa using hev))
 |cons e es=>
  have hs:=hr.stars
  rw [List.all_cons,Bool.and_eq_true] at hs
  have hsp:=rP (e::es) (A:=A) (pos:=pos) (Q:=λvs s₁=>wpAny (model c.prog c.w) A (evalAll ((backToKw pos (keywordEach kws f.env)).map (·.2))) (λus s₂=>Q ⟨vs,((backToKw pos (keywordEach kws f.env)).filterMap (·.1)).zip us⟩ s₂) bM s₁) hr r rm hev
   λgh₁ σ₁ s₁ vs xs x' x₁ r₁ hvs _ hr' hk=>last x₁ r₁ hvs hr' hk
  rw [d8 hs.1] at hsp⊢
  exact evalArgs_kw a1 hsp
noncomputable def te(Q:Value->Shared->Prop)(r:Result)(s':Shared):Prop:=match r with| .ok (.ret v)=>Q v s'| .ok _=>False| .error e=>bM e s'
theorem qU{fa:Addr}(h:fnIn K fa=true):keepIn K (.ref fa)=true:=by
 unfold fnIn at h
 unfold keepIn
 dsimp only
 cases q:K.lookup fa with
 |none=>rw [q] at h;exact bU h
 |some o=>
  rw [q] at h
  obtain⟨o1,o2,o3,o4⟩:=o
  cases o3<;>first|rfl|exact bU h
theorem iV(v:Value){vs:List Value}{ks:List Nat}(h:ks.length≤vs.length):cn c (v::vs) ks=⟨v::(cn c vs ks).pos,(cn c vs ks).kw⟩:=by
 unfold cn
 rw [List.length_cons,Nat.sub_add_comm h,List.take_succ_cons,List.drop_succ_cons]
theorem zB(Y:Ctx c K p loose mg mb)(YG:pR c K g){nm:PySem.Str}{fa:Nat}{x:X}{args:List Expr}{pos pos':Pos}(C:bH false c fa d (g.call fa))(hl:eB f.cs nm=true)(hc:p.glb nm=some (.st fa))(h:ib c g f d x args):
  SE c g f d (.call fa x) (.Call (.Name nm pos') args [] pos):=by
 intro gh σ s A k Q r rm hev hp
 refine wpAny_Call_Name_kw (pO (g:=g) (d:=d) Y hl hc gh σ s A (λv σ=>v=.st fa∧ev g (.call fa x) σ (one k)) _ r rm ⟨rfl,hev⟩ λgh₁ σ₁ s₁ v z x₁ r₁ hv h=> ?_)
 obtain⟨rfl,hk⟩:=h
 obtain rfl:=(hv:v=.ref fa)
 have hr:ib c g f d x (args++([]:List Keyword).map (·.value)):=by simpa using h
 have hk:ev g x σ₁ (λvs s=>cC g fa vs [] s λv s=>one k [v] s):=hk
 refine callWith_of (P:=λh=>K.In h∧fnIn K fa=true) (by show((backTo pos (starEach args f.env)).any (·.1)||false)=false;refine(ce pos f.env hr.stars).symm▸ ?_;rfl)
  (λh hh=>keeps_K (qU hh.2) h hh.1) (dT (ks:=[]) Y rfl hr r₁ rm hk λgh₂ σ₂ s₂ vs xs _ x₂ r₂ hvs hk=>⟨⟨Y.X.keeps r₂.keepB,YG.fn _ (jS hk)⟩, ?_⟩)
 refine wpAny_call (gW (R:=te Q) C r₂ rm hvs hk λgh₃ Z3 s₃ v y x₃ r₃ hv hk=> ?_)
 exact hp gh₃ Z3 s₃ v y ((x₁.trans r r₁ x₂).trans r r₂ x₃) r₃ hv hk
end
end Mine.A
namespace Mine.A
noncomputable def s0(n:Nat):String:=["list.append","list.pop","str.join","str.replace","str.count","str.rfind","str.split","str.lower","str.upper","str.startswith"].getD n ""
theorem xg(n:Nat)(h2:2≤n)(h9:n≤9):Slot "str" (jA.getD n "") (s0 n)∧typeOf (.builtin (s0 n))=pure (.type "method_descriptor"):=by
 rcases Nat.eq_or_lt_of_le h9 with rfl|h9; · exact⟨F.slot_str_startswith,F.type_str_startswith⟩
 rcases Nat.eq_or_lt_of_le (Nat.le_of_lt_succ h9)with rfl|h9; · exact⟨F.slot_str_upper,F.type_str_upper⟩
 rcases Nat.eq_or_lt_of_le (Nat.le_of_lt_succ h9)with rfl|h9; · exact⟨F.slot_str_lower,F.type_str_lower⟩
 rcases Nat.eq_or_lt_of_le (Nat.le_of_lt_succ h9)with rfl|h9; · exact⟨F.slot_str_split,F.type_str_split⟩
 rcases Nat.eq_or_lt_of_le (Nat.le_of_lt_succ h9)with rfl|h9; · exact⟨F.slot_str_rfind,F.type_str_rfind⟩
 rcases Nat.eq_or_lt_of_le (Nat.le_of_lt_succ h9)with rfl|h9; · exact⟨F.slot_str_count,F.type_str_count⟩
 rcases Nat.eq_or_lt_of_le (Nat.le_of_lt_succ h9)with rfl|h9; · exact⟨F.slot_str_replace,F.type_str_replace⟩
 obtain rfl:=Nat.le_antisymm (Nat.le_of_lt_succ h9) h2;exact⟨F.slot_str_join,F.type_str_join⟩
theorem yc(n:Nat)(h:n≤1):Slot "list" (jA.getD n "") (s0 n)∧typeOf (.builtin (s0 n))=pure (.type "method_descriptor"):=by
 rcases Nat.eq_or_lt_of_le h with rfl|h; · exact⟨F.slot_list_pop,F.type_list_pop⟩
 obtain rfl:=Nat.le_zero.mp (Nat.le_of_lt_succ h);exact⟨F.slot_list_append,F.type_list_append⟩
theorem oF{l:List Nat}(h:(!cg l)=true):l=[]:=by induction l<;>first|rfl|exact bU h
noncomputable def MR(c:Cx)(gh:Gh)(n:Nat)(kws:List Nat)(fv:Value)(first:List Value)(m:M):Prop:=
 M.casesOn (motive:=λ_=>Prop) m (λf v=>fv=.ref f∧∃u,first=[u]∧RV c.prog c.w gh u v) (λf j=>first=[]∧∃q a ft,fv=.ref q∧gh.F q=some (xW f a)∧gh.φ j=some (a,ft))
  (λx=>fv=.builtin (s0 n)∧kws=[]∧2≤n∧n≤9∧∃u,first=[u]∧RF c.prog c.w gh.F u (.str x)) (λi=>fv=.builtin (s0 n)∧kws=[]∧n≤1∧∃a ft,first=[.ref a]∧gh.φ i=some (a,ft))
section
variable {c:Cx} {g:G} {K:Frag} {p:CP} {loose:List PySem.Str} {mg mb:PySem.Str->Option Value} {f:Fm} {d:Nat}
theorem mE{es:List DictEntry}{n:Nat}{nm:PySem.Str}(hg:getL nm es=some none):shadowIn (some (dictOf es n)) nm=some false:=by
 show(lookIn nm (dictOf es n)).map _=_
 rw [lookIn_dict,hg];rfl
theorem q0{FF:Addr->Option Obj}{s:Shared}{A:Around}{E:Value->Shared->Prop}{v:Value}{x:List Nat}{nm:PySem.Str}{id:String}{pl:Sem Bool}{Q:Value×List Value->Shared->Prop}(sl:Slot "str" nm id)(ty:typeOf (.builtin id)=pure (.type "method_descriptor"))
  (hv:RF c.prog c.w FF v (.str x)) (h:Q (.builtin id,[v]) s):wpAny (model c.prog c.w) A (getMethod v nm pl) Q E s:=by
 obtain⟨y,t,rfl⟩:∃y t,v=.str y t:=by cases hv;exact⟨_,_,rfl⟩
 exact getMethod_builtin (typeIs_str _ _ _) F.plainAttrs_str sl ty (λ_ e=>nomatch e) h
theorem BJ(XK:K.In c.base)(Y:pR c K g){gh:Gh}{L:Addr}{σ:St}{s:Shared}{A:Around}{ov:Value}{o:V}{n:Nat}{m:M}{pl:Sem Bool}{Q:Value×List Value->Shared->Prop}(r:al c gh L σ s)(hv:RV c.prog c.w gh ov o)
  {kws:List Nat} (h:iY g o n kws σ=some m) (hQ:∀gh' s' fv first,a8 false L gh s gh' s'->al c gh' L σ s'->MR c gh' n kws fv first m->Q (fv,first) s'):wpAny (model c.prog c.w) A (getMethod ov (c.nm n) pl) Q bM s:=by
 have Xs:K.In s.heap:=XK.keeps r.keepB
 induction o using V.casesOn with
 |mth f i=>exact ax h
 |c fv=>
  obtain⟨x,e,h'⟩:=aw h
  clear h
  obtain rfl:=s8 e
  have h:(Bool.rec none (some (.str x)) (Bool.and (!cg kws) (Bool.and (Nat.ble 2 n) (Nat.ble n 9))):Option M)=some m:=h'
  cases hb:Bool.and (!cg kws) (Bool.and (Nat.ble 2 n) (Nat.ble n 9))with
  |false=>rw [hb] at h;exact ax h
  |true=>
   rw [hb] at h;obtain rfl:=Option.some.inj h
   rw [Bool.and_eq_true,Bool.and_eq_true] at hb
   obtain⟨sl,ty⟩:=xg n (bW hb.2.1) (bW hb.2.2)
   rw [←Y.mn n (Nat.lt_of_le_of_lt (bW hb.2.2) (by decide))] at sl
   exact q0 sl ty hv (hQ gh s _ _ (.refl _ _ _ _) r ⟨rfl,oF hb.1,bW hb.2.1,bW hb.2.2,_,rfl,hv⟩)
 |st a=>
  obtain rfl:=(hv:ov=.ref a)
  obtain⟨fa,hf,rfl⟩:=cm h
  obtain⟨C,dx,od,h1,h2,h3,h4,h5⟩:=Y.scls a n fa hf
  have I:InstAt s.heap a (j2 C (some dx)) C (some od):=⟨Xs _ _ h1,rfl,rfl,Xs _ _ h2⟩
  exact method_fn Xs I h3.ga h3.gk h4.fi h4.ty h5 (hQ gh s _ _ (.refl _ _ _ _) r ⟨rfl,_,rfl,rfl⟩)
 |ob i=>
  obtain⟨a,ft,e,rfl⟩:=hv
  obtain⟨o,q,h⟩:=aw h
  have ro:=r.ob e q
  induction o using AO.casesOn with
  |inst C dd=>
   obtain⟨dx,es,mm,hft,hne,h1,h2,h3⟩:=ro
   have I:=lx h1 h2
   have h:uG g i n C dd=some m:=h
   unfold uG at h
   cases hz:lk n dd with
   |some v=>
    rw [hz] at h
    induction v using V.casesOn with
    |mth fa j=>
     have h:(Bool.rec none (some (.own fa j)) (g.own C n):Option M)=some m:=h
     cases ho:g.own C n with
     |false=>rw [ho] at h;exact ax h
     |true=>
      rw [ho] at h;obtain rfl:=Option.some.inj h
      obtain⟨c1,c2⟩:=Y.own C n ho
      obtain⟨u,g1,qa,b,ft2,rfl,k1,k2⟩:=ir h3 hz
      refine method_usual Xs I c1.ga c1.gk c2 rfl (get_value Xs I c1.ga (nu c1 c2 g1) rfl ?_)
      exact hQ gh _ _ _ (.toks _ _) r.tok1 ⟨rfl,qa,b,ft2,rfl,k1,k2⟩
    |_=>exact ax h
   |none=>
    rw [hz] at h
    obtain⟨fa,hf,rfl⟩:=cm h
    obtain⟨c1,c2⟩:=Y.cls C n fa hf
    exact method_fn Xs I c1.ga c1.gk c2.fi c2.ty (mE (iu h3 hz)) (hQ gh s _ _ (.refl _ _ _ _) r ⟨rfl,_,rfl,a,ft,e,rfl⟩)
  |lst l=>
   have h:(Bool.rec none (some (.lst i)) (Bool.and (!cg kws) (Nat.ble n 1)):Option M)=some m:=h
   cases hb:Bool.and (!cg kws) (Nat.ble n 1)with
   |false=>rw [hb] at h;exact ax h
   |true=>
    rw [hb] at h;obtain rfl:=Option.some.inj h
    rw [Bool.and_eq_true] at hb
    obtain⟨sl,ty⟩:=yc n (bW hb.2)
    rw [←Y.mn n (Nat.lt_of_le_of_lt (bW hb.2) (by decide))] at sl
    obtain⟨hft,o,vs,k1,⟨nn,rfl⟩,k3,k4⟩:=ro
    exact getMethod_builtin ⟨_,k1,rfl⟩ F.plainAttrs_list sl ty (λb e=>by cases e;exact⟨_,k1,rfl⟩) (hQ gh s _ _ (.refl _ _ _ _) r ⟨rfl,oF hb.1,bW hb.2,a,ft,rfl,e⟩)
  |_=>exact ax h
noncomputable def AB(c:Cx)(L:Addr):Prop:=∀n gh σ s A k Q v x vs fs,2≤n->n≤9->al c gh L σ s->A.handled=none->RF c.prog c.w gh.F v (.str x)->bv c.prog c.w s.heap.get? vs fs->xh n x fs σ k->cN c L gh s k Q->wpAny (model c.prog c.w) A (PySem.call (.builtin (s0 n)) (v::vs)) Q bM s
noncomputable def AG(c:Cx)(L:Addr):Prop:=∀n gh σ s A k Q i a ft l vs xs,n≤1->al c gh L σ s->gh.φ i=some (a,ft)->lk i σ.H=some (.lst l)->eE c.prog c.w gh vs xs->FZ n i l xs σ k->cN c L gh s k Q->wpAny (model c.prog c.w) A (PySem.call (.builtin (s0 n)) (.ref a::vs)) Q bM s
theorem sR{gh:Gh}{L:Addr}{σ:St}{s:Shared}(r:al c gh L σ s){vs:List Value}{xs:List V}(h:eE c.prog c.w gh vs xs):∀ {fs:List FV},sS σ.H xs=some fs->bv c.prog c.w s.heap.get? vs fs:=by
 induction h with
 |nil=>intro fs h;obtain rfl:=Option.some.inj h;exact .nil
 |cons ha _ ih=>
  intro fs h
  obtain⟨f,e1,h⟩:=aw h
  obtain⟨t,e2,rfl⟩:=cm h
  obtain⟨F,b1,b2,b3⟩:=c7 r ha e1
  exact .cons (RF.mono (λa o e=>b1 a o e) b3) (ih e2)
theorem qS{kws:List Keyword}(h:D7 p kws=some []):kws=[]:=by
 induction kws using List.casesOn with
 |nil=>rfl
 |cons k r=>
  obtain⟨x,_,h⟩:=aw h
  obtain⟨i,_,h⟩:=aw h
  obtain⟨l,_,h⟩:=cm h
  cases h
theorem zA(Y:Ctx c K p loose mg mb)(YG:pR c K g)(hS:AB c f.L)(hL:AG c f.L)(C:∀fa,bH false c fa d (g.call fa)){o:Expr}{xo x:X}{nm:PySem.Str}{n:Nat}{args:List Expr}{kws:List Keyword}{ks:List Nat}{apos pos:Pos}
  (hb:dz o=true) (hline:(apos.endLine==pos.line)=true) (hfew:args.length+kws.length<29) (hn:c.nm n=nm) (hk:D7 p kws=some ks) (h:SE c g f d xo o) (hr:ib c g f d x (args++kws.map (·.value))):
  SE c g f d (.meth xo n x ks) (.Call (.Attribute o nm apos) args kws pos):=by
 intro gh σ s A k Q r rm hev hp
 rw [arm_eval_Call,gM hb, ←hn]
 refine wpAny_bind (h gh σ s A _ _ r rm hev λgh₁ σ₁ s₁ ov oa x₁ r₁ ho hk1=> ?_)
 obtain⟨m,hm,hk1⟩:=ab hk1
 obtain⟨a1,a2,a3,a4⟩:=nb Y pos f.env hk
 have hst:(backTo pos (starEach args f.env)).all (λx=> !x.1)=true:=by
  have:=ce pos f.env hr.stars
  rw [List.any_eq_false] at this
  rw [List.all_eq_true]
  intro y hy
  simpa using this y hy
 have hform:methodCallForm (args.length+kws.length) (backTo pos (starEach args f.env)) (backToKw pos (keywordEach kws f.env))=true:=by
  unfold methodCallForm
  rw [hst,a1]
  simp only [Bool.and_true,Bool.true_and,decide_eq_true_eq]
  split<;>omega
 have hpos:methodCallPos true o f.env apos pos=pure pos:=by unfold methodCallPos;simp [hline]
 unfold methodCall
 refine hform▸ ?_
 refine wpAny_bind (wpAny_standAt (wpAny_bind (wpAny_holding (BJ Y.X YG r₁ ho hm λgh₂ s₂ fv first x₂ r₂ hmr=> ?_))))
 refine wpAny_bind (wpAny_of_eq hpos ?_)
 have hplain:((backTo pos (starEach args f.env)).any (·.1)||(backToKw pos (keywordEach kws f.env)).any (·.1.isNone))=false:=by(refine(ce pos f.env hr.stars).symm▸ ?_;refine a2.symm▸ ?_);rfl
 have x12:=x₁.trans r r₁ x₂
 induction m using M.casesOn with
 |fn fa v=>
  obtain⟨rfl,u,rfl,hu⟩:=hmr
  refine callWith_of (P:=λh=>K.In h∧fnIn K fa=true) hplain (λh hh=>keeps_K (qU hh.2) h hh.1) (dT Y hk hr r₂ rm hk1 λgh₃ Z3 s₃ vs xs hlen x₃ r₃ hvs hk=>⟨⟨Y.X.keeps r₃.keepB,YG.fn _ (jS hk)⟩, ?_⟩)
  refine wpAny_call ?_
  have e:=iV (c:=c) u hlen
  have:=gW (A:=A) (R:=te Q) (vs:=u::vs) (C fa) r₃ rm (.cons (hu.mono x₃.le) hvs) hk λgh₄ Z4 s₄ v y x₄ r₄ hv hk=>hp gh₄ Z4 s₄ v y ((x12.trans r r₂ x₃).trans r r₃ x₄) r₄ hv hk
  rw [e] at this
  exact this
 |own fa j=>
  obtain⟨rfl,q,a,ft,rfl,k1,k2⟩:=hmr
  refine callWith_of (P:=λh=>MethP K q fa (.ref a) h∧fnIn K fa=true) hplain (λh hh=>keeps_M hh.2 h hh.1) (dT Y hk hr r₂ rm hk1 λgh₃ Z3 s₃ vs xs hlen x₃ r₃ hvs hk=>⟨⟨⟨r₃.frz _ _ (x₃.le.F _ _ k1),Y.X.keeps r₃.keepB⟩,YG.fn _ (jS hk)⟩, ?_⟩)
  refine wpAny_call (method_call (r₃.frz _ _ (x₃.le.F _ _ k1)) ?_)
  have e:=iV (c:=c) (.ref a) hlen
  obtain⟨ft',k3⟩:=x₃.le.φ j a ft k2 (λx=>bU x)
  have:=gW (A:=A) (R:=te Q) (vs:=.ref a::vs) (C fa) r₃ rm (.cons (show RV c.prog c.w gh₃ (.ref a) (.ob j) from⟨a,ft',k3,rfl⟩) hvs) hk λgh₄ Z4 s₄ v y x₄ r₄ hv hk=>hp gh₄ Z4 s₄ v y ((x12.trans r r₂ x₃).trans r r₃ x₄) r₄ hv hk
  rw [e] at this
  exact this
 |str z=>
  obtain⟨rfl,rfl,h2,h9,u,rfl,hu⟩:=hmr
  obtain rfl:=qS hk
  refine Calls.callWith_builtin (ce pos f.env hr.stars) (dT (kws:=[]) Y hk hr r₂ rm hk1 λgh₃ Z3 s₃ vs xs hlen x₃ r₃ hvs hk=> ?_)
  rw [bq]
  obtain⟨fs,hfs,hk⟩:=ab hk
  refine hS n gh₃ Z3 s₃ A _ Q u z vs fs h2 h9 r₃ rm.hd (RF.mono x₃.le.F hu) (sR r₃ hvs hfs) hk λgh₄ Z4 s₄ v y x₄ r₄ hv hk=> ?_
  exact hp gh₄ Z4 s₄ v y ((x12.trans r r₂ x₃).trans r r₃ x₄) r₄ hv hk
 |lst i=>
  obtain⟨rfl,rfl,h1,a,ft,rfl,ha⟩:=hmr
  obtain rfl:=qS hk
  refine Calls.callWith_builtin (ce pos f.env hr.stars) (dT (kws:=[]) Y hk hr r₂ rm hk1 λgh₃ Z3 s₃ vs xs hlen x₃ r₃ hvs hk=> ?_)
  rw [bq]
  obtain⟨l,hl,hk⟩:=ab hk
  have hl:=pL hl
  ·obtain⟨ft',e'⟩:=x₃.le.f ha
   refine hL n gh₃ Z3 s₃ A _ Q i a ft' l vs xs h1 r₃ e' hl hvs hk λgh₄ Z4 s₄ v y x₄ r₄ hv hk=> ?_
   exact hp gh₄ Z4 s₄ v y ((x12.trans r r₂ x₃).trans r r₃ x₄) r₄ hv hk
theorem Aj{L:Addr}(X:K.In c.base)(YG:pR c K g)(C:∀fa,bH false c fa d (g.call fa)):zG c g L d:=by
 intro gh σ s A x fa xv v k Q r rm hv hf h hp
 obtain⟨D,dx,od,h1,h2,h3,h4⟩:=YG.con x fa hf
 obtain⟨m,N,_⟩:=r.loc
 have Xs:K.In s.heap:=X.keeps r.keepB
 have I:InstAt s.heap x (j2 D (some dx)) D (some od):=⟨Xs _ _ h1,rfl,rfl,Xs _ _ h2⟩
 have hu:RV c.prog c.w gh (.ref x) (.st x):=rfl
 refine contains_K (r.fr N) X I h3 h4 (wpAny_call ?_)
 have:=gW (R:=te (λrv s'=>wpAny (model c.prog c.w) A (truthy rv) Q bM s')) (C fa) r rm (.cons hu (.cons hv .nil)) h λgh₃ Z3 s₃ rv y x₃ r₃ hrv hk=> ?_
 ·rw [bq] at this;exact this
 obtain⟨t,ht,hk⟩:=ab hk
 exact dH r₃ hrv ht λtk hk0=>hp gh₃ Z3 _ t (x₃.trans r r₃ (.toks false tk)) (r₃.toks hk0) hk
end
end Mine.A
namespace Mine.A
section
variable {c:Cx} {g:G} {K:Frag} {p:CP} {loose:List PySem.Str} {mg mb:PySem.Str->Option Value} {f:Fm} {d:Nat}
theorem al.give{gh:Gh}{L:Addr}{σ:St}{s:Shared}(r:al c gh L σ s){i:Nat}{a:Addr}{ft:List Addr}{o:AO}(hφ:gh.φ i=none)(hi:i<σ.m)(hft:∀x∈ft,gh.F x=none∧x≠L∧¬bZ gh x∧∃o,s.heap.get? x=some o)
  (ho:RO c.prog c.w c.nm (gh.at i (a,ft)) s.heap a ft o):al c (gh.at i (a,ft)) L (aR σ ((i,o)::σ.H)) s∧Le false gh (gh.at i (a,ft)):=by
 have ne:∀ {j:Nat} {p:Addr×List Addr},gh.φ j=some p->j≠i:=λe q=>by rw [q,hφ] at e;exact ax e
 have le:Le false gh (gh.at i (a,ft)):=⟨λ_ _ e=>e,λj b fb e _=>⟨fb,(Gh.at_ne (ne e)).trans e⟩⟩
 have nf:∀ {j:Nat} {b:Addr} {fb:List Addr} {x:Addr},gh.φ j=some (b,fb)->x∈fb->x∉ft:=λe hx q=>(hft _ q).2.2.1 ⟨_,_,_,e,hx⟩
 refine⟨⟨r.frz,λj o₁ hj=> ?_,λj k b fb d fd hj hk' hne x hx1 hx2=> ?_,λx hx'=> ?_,r.nL, ?_,λj hj=> ?_,r.m64,λj p hj h64=> ?_,r.base,r.Lb,r.tk⟩,le⟩
 ·have hj':lk j ((i,o)::σ.H)=some o₁:=hj
  rw [aj] at hj'
  by_cases q:j=i
  ·rw [if_pos q] at hj';obtain rfl:=Option.some.inj hj';exact⟨_,_,by refine q▸ ?_;exact Gh.at_self,ho⟩
  ·rw [if_neg q] at hj'
   obtain⟨b,fb,e,ro⟩:=r.obs j o₁ hj'
   exact⟨b,fb,(Gh.at_ne (q)).trans e,ro.step le λx _ o e'=>e'⟩
 ·by_cases q:j=i<;>by_cases q':k=i
  ·exact hne (q.trans q'.symm)
  ·have e1:some (a,ft)=some (b,fb):=Gh.at_self.symm.trans (q▸hj)
   have e2:gh.φ k=some (d,fd):=(Gh.at_ne q').symm.trans hk'
   cases e1
   exact nf e2 hx2 hx1
  ·have e1:gh.φ j=some (b,fb):=(Gh.at_ne q).symm.trans hj
   have e2:some (a,ft)=some (d,fd):=Gh.at_self.symm.trans (q'▸hk')
   cases e2
   exact nf e1 hx1 hx2
  ·have e1:gh.φ j=some (b,fb):=(Gh.at_ne q).symm.trans hj
   have e2:gh.φ k=some (d,fd):=(Gh.at_ne q').symm.trans hk'
   exact r.sep j k b fb d fd e1 e2 hne x hx1 hx2
 ·rcases hx'.at_ with z|⟨j,b,fb,_,e,z⟩
  ·obtain⟨u,v,_,w⟩:=hft x z
   exact⟨u,v,w⟩
  ·exact r.off x ⟨j,b,fb,e,z⟩
 ·obtain⟨m,N,hm⟩:=r.loc
  exact⟨m,N,λn v e=>(hm n v e).elim λw e=>⟨w,e.1,e.2.mono le⟩⟩
 ·have:j≠i:=λq=>by have hj:σ.m≤j:=hj;lia
  show(if j=i then _ else gh.φ j)=none
  rw [if_neg this];exact r.new j hj
 ·show∃o₁,lk j ((i,o)::σ.H)=some o₁
  rw [aj]
  by_cases q:j=i
  ·exact⟨o,by rw [if_pos q]⟩
  ·rw [if_neg q];exact r.dom j p ((Gh.at_ne q).symm.trans hj) h64
theorem bG.make{A:Around}(h:bG (d+1) A)(C:Addr)(vs:List Value)(kw:List (PySem.Str×Value)):bG d (A.under (.builtin "type.__call__" ⟨.ref C::vs,kw⟩)):=
 ⟨h.hd,by have:=h.dep;show A.depth+1+d<_;lia,by have:=h.un;show A.units+1+16*d+64<_;lia⟩
theorem al.setH_{gh:Gh}{L:Addr}{σ:St}{s:Shared}{H:List (Nat×AO)}(r:al c gh L (aR σ σ.H) s):al c gh L σ s:=r
theorem uz{C:Nat}{xs:List V}{σ:St}{k:V->St->Prop}(h:uA g C xs σ k):lk (g.cid C) σ.H=none∧DR (g.ini C) λf=>cC g f (.ob (g.cid C)::xs) [] (aR σ (σ.H++[(g.cid C,.inst C [])])) λv s'=>br (B9 v) (k (.ob (g.cid C)) s') False:=by
 unfold uA at h
 cases q:lk (g.cid C) σ.H with
 |none=>rw [q] at h;exact⟨rfl,ab h⟩
 |some _=>rw [q] at h;exact h.elim
theorem B8{gh:Gh}{v:Value}{y:V}(h:B9 y=true)(hv:RV c.prog c.w gh v y):v=.none:=by
 induction y using V.casesOn with
 |c f=>
  induction f using FV.casesOn with
  |non=>exact RF.x hv
  |_=>exact bU h
 |_=>exact bU h
theorem BE(XK:K.In c.base)(Y:pR c K g){A:Around}{C:Addr}{gh:Gh}{L:Addr}{σ:St}{s:Shared}{vs:List Value}{xs:List V}{k:V->St->Prop}{Q:Value->Shared->Prop}(CC:∀fa,bH false c fa d (g.call fa))(r:al c gh L σ s)(rm:bG (d+1) A)
  (hv:eE c.prog c.w gh vs xs) (h:uA g C xs σ k) (hp:cN c L gh s k Q):codeAny (model c.prog c.w) A (.call (.ref C) ⟨vs,[]⟩) (te Q) s:=by
 obtain⟨hfree,fI,hfI,h⟩:=uz h
 obtain⟨m1,m2,m3,m4,m5⟩:=Y.ini C fI hfI
 have Xs:K.In s.heap:=XK.keeps r.keepB
 have hφ:gh.φ (g.cid C)=none:=by
  cases q:gh.φ (g.cid C)with
  |none=>rfl
  |some p=>obtain⟨o,e⟩:=r.dom _ p q m5;rw [hfree] at e;exact ax e
 have r1:=r.push (emptyDict:Obj)
 have r2:=r1.push (instObj C s.heap.objs.size:Obj)
 have hs0:s.heap.get? s.heap.objs.size=none:=aE (Nat.le_refl _)
 have hs1:s.heap.get? (s.heap.objs.size+1)=none:=aE (Nat.le_succ _)
 have hD:((s.heap.push emptyDict).push (instObj C s.heap.objs.size)).get? s.heap.objs.size=some emptyDict:=Heap.get?_push_of_some _ (Heap.get?_push_size _ rfl)
 have hI:((s.heap.push emptyDict).push (instObj C s.heap.objs.size)).get? (s.heap.objs.size+1)=some (instObj C s.heap.objs.size):=by
  have:=Heap.get?_push_size (s.heap.push emptyDict) (o:=instObj C s.heap.objs.size) rfl
  rwa [Heap.size_push] at this
 obtain⟨r3,l3⟩:=r2.give (o:=.inst C []) (a:=s.heap.objs.size+1) (ft:=[s.heap.objs.size+1,s.heap.objs.size]) hφ (Nat.lt_of_lt_of_le m5 r.m64)
  (λx hx=>by
   rcases List.mem_cons.mp hx with rfl|hx
   ·have w:=r.free hs1;exact⟨w.1,w.2.1,w.2.2,_,hI⟩
   ·obtain rfl:=List.mem_singleton.mp hx;have w:=r.free hs0;exact⟨w.1,w.2.1,w.2.2,_,hD⟩)
  ⟨s.heap.objs.size,[],0,rfl,Nat.succ_ne_self _,hI,hD,.nil⟩
 have x3:a8 false L gh s (gh.at (g.cid C) (s.heap.objs.size+1,[s.heap.objs.size+1,s.heap.objs.size])) {s with heap:=(s.heap.push emptyDict).push (instObj C s.heap.objs.size)}:=by
  refine⟨l3,λx o e _ _=>Heap.get?_push_of_some _ (Heap.get?_push_of_some _ e),λx hx=> ?_,λx o e=>.inl e,GK.refl _,rfl,rfl⟩
  rcases hx.at_ with z|⟨j,b,fb,_,e,z⟩
  ·rcases List.mem_cons.mp z with rfl|z
   ·exact .inr hs1
   ·refine(List.mem_singleton.mp z).symm▸ ?_;exact .inr hs0
  ·exact .inl ⟨j,b,fb,e,z⟩
 have hself:RV c.prog c.w (gh.at (g.cid C) (s.heap.objs.size+1,[s.heap.objs.size+1,s.heap.objs.size])) (.ref (s.heap.objs.size+1)) (.ob (g.cid C)):=⟨_,_,Gh.at_self,rfl⟩
 obtain⟨hh,gs,dr,tk,os⟩:=s
 refine make_core (makes_of Xs m1) (looks_findIn Xs m2) (λself=>bind_fn Xs self m3) (.inl rfl) ?_
 have rm':=rm.make C vs []
 have:=gW (A:=A.under (.builtin "type.__call__" ⟨.ref C::vs,[]⟩)) (R:=InitBack (hh.objs.size+1) (te Q)) (CC fI) (r3.sameH (lq _ _ hfree)) rm' (.cons hself (hv.mono l3)) h λgh₄ Z4 s₄ v y x₄ r₄ hv hk=> ?_
 ·rw [bq] at this
  exact this
 ·obtain⟨hz,hk⟩:=sX hk
  ·obtain rfl:v=.none:=B8 hz hv
   have hob:RV c.prog c.w gh₄ (.ref (hh.objs.size+1)) (.ob (g.cid C)):=RV.mono x₄.le hself
   exact⟨rfl,hp gh₄ Z4 s₄ _ (.ob (g.cid C)) (x3.trans r (r3.sameH (lq _ _ hfree)) x₄) r₄ hob hk⟩
theorem DA(Y:Ctx c K p loose mg mb)(YG:pR c K g){nm:PySem.Str}{C:Nat}{x:X}{args:List Expr}{pos pos':Pos}(CC:∀fa,bH false c fa d (g.call fa))(hl:eB f.cs nm=true)(hc:p.glb nm=some (.st C))(h:ib c g f (d+1) x args):
  SE c g f (d+1) (.new C x) (.Call (.Name nm pos') args [] pos):=by
 intro gh σ s A k Q r rm hev hp
 refine wpAny_Call_Name_kw (pO (g:=g) (d:=d+1) Y hl hc gh σ s A (λv σ=>v=.st C∧ev g (.new C x) σ (one k)) _ r rm ⟨rfl,hev⟩ λgh₁ σ₁ s₁ v z x₁ r₁ hv h=> ?_)
 obtain⟨rfl,hk⟩:=h
 obtain rfl:=(hv:v=.ref C)
 have hr:ib c g f (d+1) x (args++([]:List Keyword).map (·.value)):=by simpa using h
 have hk:ev g x σ₁ (λvs s=>uA g C vs s λv s=>one k [v] s):=hk
 refine callWith_of (P:=λh=>K.In h∧keepIn K (.ref C)=true) (by show((backTo pos (starEach args f.env)).any (·.1)||false)=false;refine(ce pos f.env hr.stars).symm▸ ?_;rfl)
  (λh hh=>keeps_K hh.2 h hh.1) (dT (ks:=[]) Y rfl hr r₁ rm hk λgh₂ σ₂ s₂ vs xs _ x₂ r₂ hvs hk=>⟨⟨Y.X.keeps r₂.keepB, ?_⟩, ?_⟩)
 ·obtain⟨_,fI,hfI,_⟩:=uz hk
  exact(YG.ini C fI hfI).2.2.2.1
 ·rw [bq]
  refine wpAny_call (BE Y.X YG CC r₂ rm hvs hk λgh₃ Z3 s₃ v y x₃ r₃ hv hk=> ?_)
  exact hp gh₃ Z3 s₃ v y ((x₁.trans r r₁ x₂).trans r r₂ x₃) r₃ hv hk
end
end Mine.A
namespace Mine.A
theorem bv.set{prog:Program}{w:World}{F:Addr->Option Obj}{u:Value}{x:FV}(hu:RF prog w F u x){l:List FV}:∀ {vs:List Value} (j:Nat),bv prog w F vs l->bv prog w F (vs.set j u) (l.set j x):=by
 induction l with
 |nil=>intro vs j h;obtain rfl:=h.inv;exact .nil
 |cons f l ih=>
  intro vs j h
  obtain⟨v,r,rfl,a,hr⟩:=h.inv
  induction j using Nat.casesOn with
  |zero=>exact .cons hu hr
  |succ j=>exact .cons a (ih j hr)
theorem mF{prog:Program}{w:World}{A:Around}{E:Value->Shared->Prop}{s:Shared}{l:Addr}{items:Array Value}{n:Nat}{k:Int}{t:Tok}{v:Value}{Q:Unit->Shared->Prop}(ho:s.heap.get? l=some {cls:=.type "list",data:=.seq items n})
  (h0:0≤k) (hn:k<items.size) (hfit:k<2 ^ 63) (hQ:Q () {s with heap:=s.heap.update l (Obj.mapSeq (·.setIfInBounds k.toNat v))}):wpAny (model prog w) A (setItem (.ref l) (.int k t) v) Q E s:=by
 have hl:s.heap.IsList l items:=⟨_,ho,rfl,n,rfl⟩
 unfold setItem
 try with_reducible refine wpAny_holding ?_
 first|refine wpAny_bind (wpAny_pure ?_)|skip
 refine wpAny_bind (wpAny_sequenceKey hl.typeIs (by decide) ?_)
 refine wpAny_bind (wpAny_callSpecial?_slot (name:=Str.ofString "__setitem__") hl.typeIs PySem.slot_list_setitem
  (wpAny_call_entry PySem.slot_list_setitem hl.typeIs PySem.entry_list_setitem ?_ (PySem.args_list_setitem _ _ _)))
 show wpAny _ _ (Builtin.List.listSubscript? (.int k t)>>=_) _ _ s
 refine wpAny_bind (wpAny_listSubscript_int (fitsIndex_of h0 hfit) ?_)
 clear hfit
 obtain⟨j,rfl⟩:=Int.eq_ofNat_of_zero_le h0
 have hj:j<items.size:=by lia
 have hx':items[j]? =some items[j]:=Array.getElem?_eq_getElem hj
 show wpAny _ _ ((seqItemAt l j>>=λr=>pure (r.map (j, ·)))>>=_) _ _ s
 refine wpAny_bind (wpAny_bind (wpAny_seqItemAt ho rfl (wpAny_pure ?_)))
 refine hx'▸ ?_
 show wpAny _ _ (setSeqItemAt l j v>>=_) _ _ s
 refine wpAny_bind (wpAny_setSeqItemAt ho rfl ?_)
 first
  |exact wpAny_bind (wpAny_pure (wpAny_pure ⟨.none,rfl,wpAny_pure hQ⟩))
  |exact wpAny_pure ⟨.none,rfl,wpAny_pure hQ⟩
section
variable {c:Cx} {g:G} {K:Frag} {p:CP} {loose:List PySem.Str} {mg mb:PySem.Str->Option Value} {f:Fm} {d:Nat} {gh:Gh} {L:Addr} {σ:St} {s:Shared}
theorem ot{A:Around}{n:Nat}{a:Addr}{ft:List Addr}{l l':List FV}{u:Value}{x:FV}{j:Int}{t:Tok}{Q:Unit->Shared->Prop}(r:al c gh L σ s)(e:gh.φ n=some (a,ft))(q:lk n σ.H=some (.lst l))(hu:RF c.prog c.w gh.F u x)(h:km l j x=some l')
  (hQ:∀gh' s',a8 false L gh s gh' s'->al c gh' L (aR σ (put n (.lst l') σ.H)) s'->Q () s'):wpAny (model c.prog c.w) A (setItem (.ref a) (.int j t) u) Q bM s:=by
 have ro:=r.ob e q
 obtain⟨hft,o,vs,h1,⟨m,hm⟩,h3,h4⟩:=ro
 subst hm
 have hlen:=h3.len
 unfold km at h
 cases h0:decide (0≤j)with
 |true=>
  rw [h0] at h
  dsimp only at h
  have h0:=of_decide_eq_true h0
  cases hn:decide (j<l.length)with
  |false=>rw [hn] at h;exact ax h
  |true=>
   rw [hn] at h;cases h
   have hn:=of_decide_eq_true hn
   refine mF h1 h0 (by rw [List.size_toArray,hlen];lia) (by lia) ?_
   have hup:(s.heap.update a (Obj.mapSeq (·.setIfInBounds j.toNat u))).get? a=some (Obj.mapSeq (·.setIfInBounds j.toNat u) {cls:=.type "list",data:=.seq vs.toArray m}):=Heap.get?_update_self _ h1 rfl
   obtain⟨r1,x1⟩:=r.setList (l':=l.set j.toNat x) (vs':=vs.set j.toNat u) (tk:=s.toks) r.tk e q (Heap.SameBut.update ..) hup ⟨_,by simp [Obj.mapSeq];rfl⟩ (bv.set hu _ h3) (by rw [List.length_set];exact h4)
   exact hQ _ _ x1 r1
 |false=>
  rw [h0] at h
  dsimp only at h
  have h0:=of_decide_eq_false h0
  cases hn:decide (0≤j+l.length)with
  |false=>rw [hn] at h;exact ax h
  |true=>
   rw [hn] at h;cases h
   have hn:=of_decide_eq_true hn
   refine mG h1 (by lia) (by rw [List.size_toArray,hlen];lia) (by lia) ?_
   rw [List.size_toArray,hlen]
   have hup:(s.heap.update a (Obj.mapSeq (·.setIfInBounds (j+l.length).toNat u))).get? a=some (Obj.mapSeq (·.setIfInBounds (j+l.length).toNat u) {cls:=.type "list",data:=.seq vs.toArray m}):=Heap.get?_update_self _ h1 rfl
   obtain⟨r1,x1⟩:=r.setList (l':=l.set (j+l.length).toNat x) (vs':=vs.set (j+l.length).toNat u) (tk:=s.toks) r.tk e q (Heap.SameBut.update ..) hup ⟨_,by simp [Obj.mapSeq];rfl⟩ (bv.set hu _ h3) (by rw [List.length_set];exact h4)
   exact hQ _ _ x1 r1
theorem rX{A:Around}{ov iv v:Value}{ox ix x:V}{k:St->Prop}{Q:Unit->Shared->Prop}(r:al c gh L σ s)(ho:RV c.prog c.w gh ov ox)(hi:RV c.prog c.w gh iv ix)(hv:RV c.prog c.w gh v x)
  (h:oh ox ix x σ k) (hQ:∀gh' Z' s',a8 false L gh s gh' s'->al c gh' L Z' s'->k Z'->Q () s'):wpAny (model c.prog c.w) A (setItem ov iv v) Q bM s:=by
 obtain⟨n,e0,h1⟩:=ab h
 clear h
 obtain rfl:=Az e0
 obtain⟨f,e0,h2⟩:=ab h1
 clear h1
 obtain rfl:=mh e0
 obtain⟨o,q,h⟩:=ab h2
 clear h2
 obtain⟨a,ft,e,rfl⟩:=ho
 induction o using AO.casesOn with
 |dct es=>
  obtain⟨key,e0,h⟩:=ab h
  obtain⟨hb,h⟩:=sX h
  obtain⟨t,rfl,_⟩:=RF.aS hi e0
  exact xL r e q hv (bW hb) λgh' s' x' r'=>hQ _ _ _ x' r' h
 |lst l=>
  obtain⟨j,e0,h⟩:=ab h
  obtain⟨p,hf,h⟩:=ab h
  obtain⟨l1,q1,h⟩:=ab h
  obtain⟨l',hl',hk⟩:=ab h
  obtain⟨t,rfl⟩:=RF.aI hi e0
  obtain⟨g1,x1,r1,rf⟩:=eM r hv hf
  obtain⟨ft1,e1⟩:=x1.le.f e
  exact ot r1 e1 (pL q1) rf hl' λgh' s' x' r'=>hQ _ _ _ (x1.trans r r1 x') r' hk
 |_=>exact h.elim
theorem zr{x y z:X}{e o i:Expr}{pos pos':Pos}(hc:d5 e=false)(h:SE c g f d x e)(h':SE c g f d y o)(h'':SE c g f d z i):
  SS c g f d (.asgS y z x) (.Assign [.Subscript o i pos'] e pos):=by
 intro gh σ s A k Q r rm hev hp
 refine wpAny_Assign_Subscript (h gh σ s A _ _ r rm hev λgh₁ σ₁ s₁ v a x₁ r₁ hv hk=>h' gh₁ σ₁ s₁ A _ _ r₁ rm hk λgh₂ σ₂ s₂ u b x₂ r₂ hu hk=>h'' gh₂ σ₂ s₂ A _ _ r₂ rm hk λgh₃ Z3 s₃ iv ia x₃ r₃ hiv hk=> ?_) (kO hc _ _ _)
 have x23:=x₂.trans r₁ r₂ x₃
 refine rX r₃ (hu.mono x₃.le) hiv (hv.mono x23.le) hk λgh₄ Z4 s₄ x₄ r₄ hk=> ?_
 exact hp gh₄ Z4 s₄ .next .nxt ((x₁.trans r r₁ x23).trans r r₃ x₄) r₄ rfl hk
end
end Mine.A
namespace Mine.A
section
variable {c:Cx} {g:G} {K:Frag} {p:CP} {loose:List PySem.Str} {mg mb:PySem.Str->Option Value} {f:Fm} {d:Nat} {gh:Gh} {L:Addr} {σ:St} {s:Shared}
theorem al.more(r:al c gh L σ s){h':Heap}{tk:Nat}(ht:0<tk)(hk:∀x o,s.heap.get? x=some o->h'.get? x=some o):al c gh L σ {s with heap:=h',toks:=tk}∧a8 false L gh s gh {s with heap:=h',toks:=tk}:=by
 refine⟨⟨λx o₁ e=>hk x o₁ (r.frz x o₁ e),λj o₁ hj=> ?_,r.sep,λx hx=> ?_,r.nL, ?_,r.new,r.m64,r.dom,r.base,r.Lb,ht⟩,⟨.refl _ _,λ_ _ e _ _=>hk _ _ e,λ_ h=>.inl h,λ_ _ h=>.inl h,GK.refl _,rfl,rfl⟩⟩
 ·obtain⟨b,fb,e,ro⟩:=r.obs j o₁ hj
  exact⟨b,fb,e,ro.step (.refl _ _) λx _ o e'=>hk x o e'⟩
 ·obtain⟨u,v,o₁,w⟩:=r.off x hx
  exact⟨u,v,o₁,hk x o₁ w⟩
 ·obtain⟨m,N,hm⟩:=r.loc
  exact⟨m,eh (λo₁ e=>hk _ _ e) N,hm⟩
inductive TS (c:Cx) (g:G) (f:Fm) (d:Nat) (p:CP):List (Option X×Nat)->List Expr->Prop
 |nil:TS c g f d p [] []
 |nm {n:Nat} {x:PySem.Str} {pos:Pos} {ts:List (Option X×Nat)} {es:List Expr}:bu f.cs x=true->p.code x=some n->TS c g f d p ts es->TS c g f d p ((none,n)::ts) (.Name x pos::es)
 |att {n:Nat} {x:X} {o:Expr} {nm:PySem.Str} {pos:Pos} {ts:List (Option X×Nat)} {es:List Expr}:c.nm n=nm->SE c g f d x o->TS c g f d p ts es->TS c g f d p ((some x,n)::ts) (.Attribute o nm pos::es)
theorem TS.each{ts:List (Option X×Nat)}{es:List Expr}(h:TS c g f d p ts es)(env:Env):(assignEach es env).length=es.length∧(assignEach es env).findIdx? (·.1)=none∧ts.length=es.length:=by
 induction h with
 |nil=>exact⟨rfl,rfl,rfl⟩
 |nm _ _ _ ih=>
  obtain⟨a,b,d⟩:=ih
  refine⟨congrArg (· +1) a, ?_,congrArg (· +1) d⟩
  show((false,_)::assignEach _ env).findIdx? (·.1)=none
  rw [List.findIdx?_cons,b];rfl
 |att _ _ _ ih=>
  obtain⟨a,b,d⟩:=ih
  refine⟨congrArg (· +1) a, ?_,congrArg (· +1) d⟩
  show((false,_)::assignEach _ env).findIdx? (·.1)=none
  rw [List.findIdx?_cons,b];rfl
theorem BB(Y:Ctx c K p loose mg mb)(YG:pR c K g)(hcan:∀n,g.canon n<64){A:Around}(rm:bG d A){ts:List (Option X×Nat)}{es:List Expr}(h:TS c g f d p ts es):
  ∀ {gh:Gh} {σ:St} {s:Shared} {vs:List Value} {l:List FV} {k:St->Prop} {Q:Unit->Shared->Prop},al c gh f.L σ s->bv c.prog c.w gh.F vs l->D0 g ts l σ k->
   (∀gh' Z' s',a8 false f.L gh s gh' s'->al c gh' f.L Z' s'->k Z'->Q () s')->wpAny (model c.prog c.w) A (assignInOrder ((assignEach es f.env).map (·.2)) vs) Q bM s:=by
 induction h with
 |nil=>
  intro gh σ s vs l k Q r hv hst hQ
  induction l using List.casesOn with
  |nil=>obtain rfl:=hv.inv;exact wpAny_pure (hQ gh σ s (.refl _ _ _ _) r hst)
  |cons _ _=>exact False.elim hst
 | @nm n x pos ts es hl hc _ ih=>
  intro gh σ s vs l k Q r hv hst hQ
  induction l using List.casesOn with
  |nil=>exact False.elim hst
  |cons fv l=>
   obtain⟨v,vs,rfl,ha,hr⟩:=hv.inv
   show wpAny _ A (do holding vs (assign (.Name x pos) f.env v);assignInOrder ((assignEach es f.env).map (·.2)) vs) Q bM s
   refine wpAny_bind (wpAny_holding (PyProof.Rows.assign_Name (dI Y hl hc r (fA ha) λs1 x1 r1=> ?_)))
   exact ih r1 hr hst λgh' Z' s' x' r' hk=>hQ gh' Z' s' (x1.trans r r1 x') r' hk
 | @att n x o nm pos ts es hn hx _ ih=>
  intro gh σ s vs l k Q r hv hst hQ
  induction l using List.casesOn with
  |nil=>exact False.elim hst
  |cons fv l=>
   obtain⟨v,vs,rfl,ha,hr⟩:=hv.inv
   show wpAny _ A (do holding vs (assign (.Attribute o nm pos) f.env v);assignInOrder ((assignEach es f.env).map (·.2)) vs) Q bM s
   refine wpAny_bind (wpAny_holding ?_)
   show wpAny _ A (do let ov←holding [v] (eval o f.env);standAt pos.atName;holding [v,ov] (setAttr ov nm v);release [v,ov] []) _ bM s
   refine wpAny_bind (wpAny_holding (hx gh σ s A _ _ r rm hst λgh₁ σ₁ s₁ ov oa x₁ r₁ ho hk=>wpAny_bind (wpAny_standAt (wpAny_bind (wpAny_holding ?_)))))
   refine hn▸ ?_
   refine ik Y.X YG hcan r₁ ho (fA (RF.mono x₁.le.F ha)) hk λgh₂ σ₂ s₂ x₂ r₂ hk=> ?_
   have x12:=x₁.trans r r₁ x₂
   refine wpAny_release (ih r₂ (bv.mono x12.le.F hr) hk λgh' Z' s' x' r' hk=>hQ gh' Z' s' (x12.trans r r₂ x') r' hk)
theorem kP{es:List Expr}{k₀:Nat}{tpos:Pos}{value:Expr}(h:vg value=false)(env:Env):swappedStores [.Tuple es k₀ tpos] value env=pure none:=by
 obtain⟨⟩:=value<;>first|rfl|cases h
theorem zq(Y:Ctx c K p loose mg mb)(YG:pR c K g)(hcan:∀n,g.canon n<64){x:X}{e:Expr}{es:List Expr}{ts:List (Option X×Nat)}{k₀:Nat}{tpos pos:Pos}(hc:d5 e=false)(ht:vg e=false)(hts:TS c g f d p ts es)(h:SE c g f d x e):
  SS c g f d (.asgT ts x) (.Assign [.Tuple es k₀ tpos] e pos):=by
 intro gh σ s A k Q r rm hev hp
 refine PyProof.Rows.Assign_Tuple (h gh σ s A _ _ r rm hev λgh₁ σ₁ s₁ v a x₁ r₁ hv hk=> ?_) (by exact kO hc (.Tuple es k₀ tpos) pos.line f.env) (kP ht _)
 obtain⟨q,e0,h1⟩:=ab hk
 clear hk
 obtain rfl:=mh e0
 obtain⟨l,e0,h2⟩:=ab h1
 clear h1
 obtain rfl:=Dd e0
 obtain⟨hlen,hk⟩:=sX h2
 clear h2
 have hlen:=Nat.eq_of_beq_eq_true hlen
 obtain⟨a,vs,o,rfl,he,⟨n,rfl⟩,hr,hb⟩:=RF.x hv
 obtain⟨e1,e2,e3⟩:=hts.each f.env
 refine assign_Tuple_tuple rm.hd ⟨_,r₁.frz _ _ he,rfl,n,rfl⟩ ?_ e2 λh' hx=> ?_
 ·rw [e1,List.size_toArray,hr.len, ←hlen,e3]
 ·obtain⟨r2,x2⟩:=r₁.more (tk:=s₁.toks) r₁.tk (λx o e=>hx x o (Nat.ne_of_lt (Heap.lt_size e)) e)
  exact BB Y YG hcan rm hts r2 hr hk λgh' Z' s' x' r' hk=>hp gh' Z' s' .next .nxt ((x₁.trans r r₁ x2).trans r r2 x') r' rfl hk
end
end Mine.A
namespace Mine.A
section
variable {c:Cx} {g:G} {K:Frag} {p:CP} {loose:List PySem.Str} {mg mb:PySem.Str->Option Value} {f:Fm} {d:Nat} {gh:Gh} {L:Addr} {σ:St} {s:Shared}
theorem al.more₂(r:al c gh L σ s){h':Heap}{m:PySem.Str->Option Value}{tk:Nat}(ht:0<tk)(hk:∀x o,x≠L->s.heap.get? x=some o->h'.get? x=some o)(hN:h'.Ns L m)(hm:∀n v,lk n σ.L=some v->∃w,m (c.nm n)=some w∧RV c.prog c.w gh w v):
  al c gh L σ {s with heap:=h',toks:=tk}∧a8 false L gh s gh {s with heap:=h',toks:=tk}:=by
 refine⟨⟨λx o₁ e=>hk x o₁ (λq=>by rw [q,r.nL] at e;exact ax e) (r.frz x o₁ e),λj o₁ hj=> ?_,r.sep,λx hx=> ?_,r.nL,⟨m,hN,hm⟩,r.new,r.m64,r.dom,r.base,r.Lb,ht⟩,⟨.refl _ _,λ_ _ e q _=>hk _ _ q e,λ_ h=>.inl h,λ_ _ h=>.inl h,GK.refl _,rfl,rfl⟩⟩
 ·obtain⟨b,fb,e,ro⟩:=r.obs j o₁ hj
  exact⟨b,fb,e,ro.step (.refl _ _) λx hx o e'=>hk x o (r.off x ⟨j,b,fb,e,hx⟩).2.1 e'⟩
 ·obtain⟨u,v,o₁,w⟩:=r.off x hx
  exact⟨u,v,o₁,hk x o₁ v w⟩
theorem bv.rep{prog:Program}{w:World}{F:Addr->Option Obj}{vs:List Value}{l:List FV}(h:bv prog w F vs l):∀n,bv prog w F (List.replicate n vs).flatten (List.replicate n l).flatten:=by
 intro n
 induction n with
 |zero=>
  exact .nil
 |succ n ih=>
  (((refine List.replicate_succ▸ ?_;refine List.replicate_succ▸ ?_);refine List.flatten_cons▸ ?_);refine List.flatten_cons▸ ?_)
  exact bv.append ih h
theorem vv(vs:List Value):∀(n:Nat) (a:Array Value),List.foldl (λx1 x2=>x1++x2) a (List.replicate n vs.toArray)=a++(List.replicate n vs).flatten.toArray:=by
 intro n
 induction n with
 |zero=>
  intro a
  simp
 |succ n ih=>
  intro a
  rw [List.replicate_succ,List.foldl_cons,ih,List.replicate_succ,List.flatten_cons]
  simp
noncomputable def Ic(c:Cx)(d:Nat)(L:Addr)(op:Operator)(o:Nat):Prop:=
 ∀gh σ s A k Q v u a b,al c gh L σ s->bG d A->RV c.prog c.w gh v a->RV c.prog c.w gh u b->j8 o a b σ k->cN c L gh s k Q->wpAny (model c.prog c.w) A (binaryOp op v u) Q bM s
theorem tz{F:Addr->Option Obj}{v:Value}{l:List FV}(hF:Holds F s.heap)(h:RF c.prog c.w F v (.tup l)):∃a vs n,v=.ref a∧s.heap.get? a=some {cls:=.type "tuple",data:=.seq vs n}∧bv c.prog c.w F vs.toList l:=by
 obtain⟨a,vs,o,rfl,e,⟨n,rfl⟩,r,b⟩:=h.x
 exact⟨a,vs.toArray,n,rfl,hF _ _ e,by simpa using r⟩
theorem rl{v:Value}{x:V}{q:List FV}(r:al c gh L σ s)(hv:RV c.prog c.w gh v x)(h:fC σ.H x=some (.tup q)):RF c.prog c.w gh.F v (.tup q):=by
 induction x using V.casesOn with
 |c f=>obtain rfl:=Option.some.inj h;exact hv
 |st _=>exact ax h
 |mth _ _=>exact ax h
 |ob i=>
  obtain⟨a,ft,e,rfl⟩:=hv
  obtain⟨o,q',h⟩:=aw h
  have ro:=r.ob e q'
  induction o using AO.casesOn with
  |frz f'=>obtain rfl:=Option.some.inj h;exact ro.2
  |lst l=>have h:some (FV.lst l)=some (.tup q):=h;cases h
  |_=>exact ax h
theorem e6{op:Operator}{o:Nat}{A:Around}{v u:Value}{a b:V}{fx fy:FV}{k:V->St->Prop}{Q:Value->Shared->Prop}(ho:C2 op=some o)(r:al c gh L σ s)(hv:RV c.prog c.w gh v a)(hu:RV c.prog c.w gh u b)(hx:fC σ.H a=some fx)(hy:fC σ.H b=some fy)
  (h:HE o fx fy λr=>k (.c r) σ) (hp:cN c L gh s k Q):wpAny (model c.prog c.w) A (binaryOp op v u) Q bM s:=by
 obtain⟨F,hF,h1,h2⟩:=gb r hv hu hx hy
 exact aV r.tk (BL (gh:=gh) (L:=L) (σ:=σ) ho h1 h2 h λw z tk hw hk ht=>hp gh σ _ w (.c z) (.toks _ _) (r.toks ht) (hw _) hk)
theorem gF{vs:List Value}{l:List FV}{tk:Nat}{k:V->St->Prop}{Q:Value->Shared->Prop}(ht:0<tk)(r:al c gh L σ s)(hv:bv c.prog c.w gh.F vs l)(hl:l.length≤16777216)(h:fg (.lst l) σ k)(hp:cN c L gh s k Q):
  Q (.ref s.heap.objs.size) {s with heap:=s.heap.push {cls:=.type "list",data:=.seq vs.toArray},toks:=tk}:=by
 obtain⟨r3,x3⟩:=(r.toks ht).alloc (o:=({cls:=.type "list",data:=.seq vs.toArray}:Obj)) (o':=.lst l) rfl
  ⟨rfl,_,vs,Heap.get?_push_size _ rfl,⟨0,rfl⟩,bv.mono (λ_ _ e=>e) hv,hl⟩
 refine hp _ _ _ _ (.ob σ.m) ((a8.toks false tk).trans r (r.toks ht) x3) r3 ⟨s.heap.objs.size,[s.heap.objs.size], ?_,rfl⟩ h
 show(if σ.m=σ.m then _ else _)=_
 rw [if_pos rfl]
theorem HS{A:Around}{v u:Value}{a b:V}{x y:List FV}{k:V->St->Prop}{Q:Value->Shared->Prop}(r:al c gh L σ s)(hv:RV c.prog c.w gh v a)(hu:RV c.prog c.w gh u b)(hx:fC σ.H a=some (.lst x))(hy:fC σ.H b=some (.lst y))
  (hle:x.length+y.length≤16777216) (hk:fg (.lst (x++y)) σ k) (hp:cN c L gh s k Q):wpAny (model c.prog c.w) A (binaryOp .Add v u) Q bM s:=by
 obtain⟨a1,o1,vs,rfl,e1,⟨n1,rfl⟩,r1,b1⟩:=eC r hv hx
 obtain⟨a2,o2,us,rfl,e2,⟨n2,rfl⟩,r2,b2⟩:=eC r hu hy
 refine P.add_list e1 e2 ?_ (by rw [List.size_toArray,List.size_toArray,r1.len,r2.len,sizeLine_eq];exact hle)
 rw [List.append_toArray]
 exact gF r.tk r (bv.append r2 r1) (by rw [List.length_append];exact hle) hk hp
theorem HR{A:Around}{v u:Value}{a b:V}{x y:List FV}{k:V->St->Prop}{Q:Value->Shared->Prop}(r:al c gh L σ s)(hv:RV c.prog c.w gh v a)(hu:RV c.prog c.w gh u b)(hx:fC σ.H a=some (.tup x))(hy:fC σ.H b=some (.tup y))
  (hb:Bool.and (cg x) (cg y)=true) (hle:x.length+y.length≤16777216) (hk:k (.c (.tup (x++y))) σ) (hp:cN c L gh s k Q):wpAny (model c.prog c.w) A (binaryOp .Add v u) Q bM s:=by
 have hb:=(Bool.and_eq_true _ _).mp hb
 obtain⟨a1,vs,n1,rfl,e1,r1⟩:=tz r.holds (rl r hv hx)
 obtain⟨a2,us,n2,rfl,e2,r2⟩:=tz r.holds (rl r hu hy)
 have l1:=r1.len
 have l2:=r2.len
 rw [Array.length_toList] at l1 l2
 have ne:∀ {l:List FV} {w:Array Value},cg l=true->w.size=l.length->¬w.isEmpty=true:=λ{l w} h e q=>by
  induction l using List.casesOn with
  |nil=>exact bU h
  |cons _ _=>replace e:=(Array.isEmpty_iff_size_eq_zero.mp q)▸e;cases e
 refine P.add_tuple e1 e2 (ne hb.1 l1) (ne hb.2 l2) ?_ (by((refine l1▸ ?_;refine l2▸ ?_);refine sizeLine_eq▸ ?_);exact hle)
 obtain⟨r3,x3⟩:=r.allocF (o:=({cls:=.type "tuple",data:=.seq (vs++us)}:Obj)) rfl
 exact hp _ _ _ _ (.c (.tup (x++y))) x3 r3 (fA (.tup (vs:=vs.toList++us.toList) (o:= {cls:=.type "tuple",data:=.seq (vs++us)}) (if_pos rfl) ⟨0,by simp⟩ (bv.mono x3.le.F (bv.append r2 r1)) (by refine List.length_append▸ ?_;exact hle))) hk
theorem FL{A:Around}{v:Value}{n:Int}{t:Tok}{a:V}{x:List FV}{k:V->St->Prop}{Q:Value->Shared->Prop}(r:al c gh L σ s)(hv:RV c.prog c.w gh v a)(hx:fC σ.H a=some (.lst x))
  (hlo: -(2 ^ 63:Int)≤n) (hhi:n<2 ^ 63) (hle:x.length*n.toNat≤16777216) (hk:fg (.lst (List.replicate n.toNat x).flatten) σ k) (hp:cN c L gh s k Q):wpAny (model c.prog c.w) A (binaryOp .Mult v (.int n t)) Q bM s:=by
 obtain⟨a1,o1,vs,rfl,e1,⟨n1,rfl⟩,r1,b1⟩:=eC r hv hx
 obtain⟨m,N,hm⟩:=r.loc
 refine mul_list (LN N) (Ac (bad:=[L]) (.head _)) e1 hlo hhi (by rw [List.size_toArray,r1.len];exact hle) λh' F' N'=> ?_
 have hk':∀y o,y≠L->s.heap.get? y=some o->h'.get? y=some o:=λy o hy ho=>(N' (y,o) (.tail _ (eO.mpr ⟨by simpa using hy,ho⟩))).1
 have hD:=(N' _ (.head _)).1
 have hDL:=(N' _ (.head _)).2.1
 obtain⟨r2,x2⟩:=r.more₂ (tk:=s.toks) r.tk hk' F'.ns hm
 have hs0:s.heap.get? s.heap.objs.size=none:=aE (Nat.le_refl _)
 obtain⟨hF0,_,hf0⟩:=r.free hs0
 have hseq:(List.foldl (λx1 x2=>x1++x2) #[] (List.replicate (if vs.toArray.isEmpty=true then 0 else n.toNat) vs.toArray))=(List.replicate n.toNat vs).flatten.toArray:=by
  rw [vv]
  split
  ·rename_i he
   have:vs=[]:=by simpa using he
   subst this;simp
  ·simp
 have lea:Le false gh (gh.at σ.m (s.heap.objs.size,[s.heap.objs.size])):=⟨λ_ _ e=>e,λj b fb e _=>⟨fb,by
  have:j≠σ.m:=λq=>by rw [q,r.new σ.m (Nat.le_refl _)] at e;exact ax e
  exact(Gh.at_ne (this)).trans e⟩⟩
 have hlen:((List.replicate n.toNat x).flatten).length=n.toNat*x.length:=by simp
 obtain⟨r3,l3,k3⟩:=r2.adopt (h':=h') (o':=.lst (List.replicate n.toNat x).flatten) (tk:=s.toks) r.tk ⟨_,hD⟩ hF0 hDL hf0 (Heap.SameBut.refl _ _) ⟨_,hD⟩
  ⟨rfl,_,(List.replicate n.toNat vs).flatten,hD,⟨0,by rw [hseq]⟩,bv.mono lea.F (bv.rep r1 _),by rw [hlen,Nat.mul_comm];exact hle⟩
 refine hp _ _ _ _ (.ob σ.m) ⟨l3,λy o e hl _=>hk' y o hl e,λy hy=> ?_,λy o e=>.inl e,GK.refl _,rfl,rfl⟩ r3 ⟨s.heap.objs.size,[s.heap.objs.size], ?_,rfl⟩ hk
 ·rcases hy.at_ with z|⟨j,b,fb,_,e,z⟩
  ·rw [List.mem_singleton.mp z];exact .inr hs0
  ·exact .inl ⟨j,b,fb,e,z⟩
 ·show(if σ.m=σ.m then _ else _)=_
  rw [if_pos rfl]
theorem DT{op:Operator}{o:Nat}(ho:C2 op=some o):Ic c d L op o:=by
 intro gh σ s A k Q v u a b r rm hv hu h hp
 obtain⟨fx,hx,h1⟩:=ab h
 obtain⟨fy,hy,h1⟩:=ab h1
 clear h
 cases op with
 |Add=>
  cases ho
  induction fx using FV.casesOn with
  |lst x=>
   obtain⟨y,e,hle,hk⟩:=ab h1
   obtain rfl:=pM e
   exact HS r hv hu hx hy hle hk hp
  |tup x=>
   obtain⟨y,e,⟨hb,hle⟩,hk⟩:=ab h1
   obtain rfl:=Dd e
   exact HR r hv hu hx hy hb hle hk hp
  |_=>exact e6 rfl r hv hu hx hy h1 hp
 |Mult=>
  obtain rfl:=Option.some.inj ho
  obtain⟨x,e,h1⟩:=ab h1
  obtain⟨n,e',⟨⟨hlo,hhi⟩,hle⟩,hk⟩:=ab h1
  obtain rfl:=pM e
  obtain⟨F,hF,_,h2⟩:=c7 r hu hy
  obtain⟨t,rfl⟩:=h2.aI e'
  exact FL r hv hx hlo hhi hle hk hp
 |Sub=>obtain rfl:=Option.some.inj ho;exact e6 rfl r hv hu hx hy h1 hp
 |Mod=>obtain rfl:=Option.some.inj ho;exact e6 rfl r hv hu hx hy h1 hp
 |FloorDiv=>obtain rfl:=Option.some.inj ho;exact e6 rfl r hv hu hx hy h1 hp
 |_=>cases ho
end
end Mine.A
namespace Mine.A
open Builtin.Str
theorem C3(n:Nat)(i:Int):bnd n i≤n:=by
 unfold bnd
 by_cases h:0≤i
 ·rw [decide_eq_true h];exact Nat.min_le_right _ _
 ·rw [decide_eq_false h];show(i+n).toNat≤n;lia
theorem rs(n:Nat)(i:Int):max 0 (min (if i<0 then i+n else i) (n:Int))=(bnd n i:Int):=by
 unfold bnd
 by_cases h:0≤i
 ·rw [decide_eq_true h,if_neg (by lia)]
  show _=((min i.toNat n:Nat):Int)
  obtain⟨k,rfl⟩:=Int.eq_ofNat_of_zero_le h
  rw [Int.toNat_natCast]
  rcases Nat.le_total k n with q|q
  ·rw [Nat.min_eq_left q,Int.min_eq_left (Int.ofNat_le.mpr q)];exact Int.max_eq_right (Int.natCast_nonneg k)
  ·rw [Nat.min_eq_right q,Int.min_eq_right (Int.ofNat_le.mpr q)];exact Int.max_eq_right (Int.natCast_nonneg n)
 ·rw [decide_eq_false h,if_pos (by lia)]
  show _=(((i+n).toNat:Nat):Int)
  rw [Int.min_eq_left (by lia),Int.ofNat_toNat,Int.max_comm]
noncomputable def ti(n:Nat)(a:Option Int):Nat:=Option.rec 0 (λi=>bnd n i) a
noncomputable def wN(n:Nat)(b:Option Int):Nat:=Option.rec n (λj=>bnd n j) b
theorem d9{α:Type}(l:List α)(a b:Option Int):slice l a b=(l.take (wN l.length b)).drop (ti l.length a):=rfl
theorem oU(n:Nat)(b:Option Int):wN n b≤n:=by
 induction b using Option.casesOn with
 |none=>exact Nat.le_refl _
 |some j=>exact C3 n j
theorem mT(lo hi:Nat):sliceRange (lo:Int) (hi:Int) 1=(List.range (hi-lo)).map (λk=>lo+k):=by
 simp only [sliceRange,show((1:Int)>0)=True from by simp,if_true]
 by_cases hlt:(lo:Int)<hi
 ·have e3:(((hi:Int)-lo+1-1) / 1).toNat=hi-lo:=by rw [Int.add_sub_cancel,Int.ediv_one];exact Int.toNat_sub hi lo
  simp only [hlt,if_true,e3]
  refine List.map_congr_left λk _=> ?_
  lia
 ·have:hi-lo=0:=by lia
  simp [hlt,this]
theorem qq{α:Type}(l:List α)(a b:Option Int):((List.range (wN l.length b-ti l.length a)).map (λk=>ti l.length a+k)).filterMap (l[·]?)=slice l a b:=by
 rw [d9]
 have h:=oU l.length b
 by_cases k:ti l.length a≤wN l.length b
 ·rw [StrLaws.picks l _ _ (by lia),List.drop_take]
 ·rw [show wN l.length b-ti l.length a=0 by lia,List.drop_eq_nil_of_le (by rw [List.length_take];lia)];rfl
theorem p7(l:List Nat)(a b:Option Int):strSliceIndices a b 1 (⟨l.toArray⟩:PySem.Str).length=(List.range (wN l.length b-ti l.length a)).map (λk=>ti l.length a+k):=by
 rw [←mT]
 have hl:(⟨l.toArray⟩:PySem.Str).length=l.length:=by show l.toArray.size=_;simp
 rw [hl]
 unfold strSliceIndices ti wN
 simp only [show((1:Int)>0)=True from by simp,if_true]
 induction a<;>induction b<;>simp only [rs]<;>rfl
theorem tN(l:List Nat)(a b:Option Int):((strSliceIndices a b 1 (⟨l.toArray⟩:PySem.Str).length).filterMap ((⟨l.toArray⟩:PySem.Str).cps[·]?)).toArray=(slice l a b).toArray:=by
 rw [p7]
 have:=qq l a b
 refine this▸ ?_
 have hf:((⟨l.toArray⟩:PySem.Str).cps[·]?)=λx:Nat=>l[x]? :=funext λx=>by show l.toArray[x]? =l[x]?;simp
 rw [hf]
theorem sg(vs:List Value)(a b:Option Int):slicePick vs.toArray a b none=(slice vs a b).toArray:=by
 unfold slicePick
 have e:sliceRange (sliceBounds a b none vs.toArray.size).1 (sliceBounds a b none vs.toArray.size).2.1 (sliceBounds a b none vs.toArray.size).2.2=(List.range (wN vs.length b-ti vs.length a)).map (λk=>ti vs.length a+k):=by
  rw [←mT,List.size_toArray]
  unfold sliceBounds ti wN
  simp only [Option.getD_none,show((1:Int)>0)=True from by simp,if_true]
  induction a<;>induction b<;>simp only [rs]<;>rfl
 rw [e, ←qq vs a b]
 have hf:(vs.toArray[·]?)=λx:Nat=>vs[x]? :=funext λx=>by simp
 rw [hf]
theorem mD{α:Type}{l:List α}{a b:Option Int}(h:(slice l a b).length=l.length):slice l a b=l:=by
 rw [d9] at h⊢
 have hh:=oU l.length b
 rw [List.length_drop,List.length_take] at h
 induction l using List.casesOn with
 |nil=>simp
 |cons x r=>
  have h1:ti (x::r).length a=0:=by simp only [List.length_cons] at h⊢;lia
  have h2:wN (x::r).length b=(x::r).length:=by simp only [List.length_cons] at h hh⊢;lia
  rw [h1,h2,List.drop_zero,List.take_length]
theorem rU{l:List Nat}{a b:Option Int}:(strSliceIndices a b 1 (⟨l.toArray⟩:PySem.Str).length).length=(slice l a b).length:=by
 rw [p7,List.length_map,List.length_range,d9,List.length_drop,List.length_take]
 rw [Nat.min_eq_left (oU l.length b)]
theorem kl{α:Type}(l:List α)(a b:Option Int):(slice l a b).length≤l.length:=by
 rw [d9,List.length_drop,List.length_take];lia
theorem bv.take{prog:Program}{w:World}{F:Addr->Option Obj}{l:List FV}:∀ {vs:List Value} (n:Nat),bv prog w F vs l->bv prog w F (vs.take n) (l.take n):=by
 induction l with
 |nil=>intro vs n h;obtain rfl:=h.inv;rw [List.take_nil,List.take_nil];exact .nil
 |cons f l ih=>
  intro vs n h
  obtain⟨v,r,rfl,a,hr⟩:=h.inv
  induction n using Nat.casesOn with
  |zero=>exact .nil
  |succ n=>exact .cons a (ih n hr)
theorem bv.drop{prog:Program}{w:World}{F:Addr->Option Obj}{l:List FV}:∀ {vs:List Value} (n:Nat),bv prog w F vs l->bv prog w F (vs.drop n) (l.drop n):=by
 induction l with
 |nil=>intro vs n h;obtain rfl:=h.inv;rw [List.drop_nil,List.drop_nil];exact .nil
 |cons f l ih=>
  intro vs n h
  obtain⟨v,r,rfl,a,hr⟩:=h.inv
  induction n using Nat.casesOn with
  |zero=>exact .cons a hr
  |succ n=>exact ih n hr
theorem bv.slice{prog:Program}{w:World}{F:Addr->Option Obj}{vs:List Value}{l:List FV}(a b:Option Int)(h:bv prog w F vs l):bv prog w F (slice vs a b) (slice l a b):=by
 (rw [d9,d9];refine h.len▸ ?_)
 exact bv.drop _ (bv.take _ h)
theorem qr{prog:Program}{w:World}{F:Addr->Option Obj}{v:Value}{p:FV}{i:Option Int}(h:RF prog w F v p)(e:BM p=some i):IsPart v i∧∃q:Option (Int×Tok),v=partValue q∧q.map (·.1)=i:=by
 induction p using FV.casesOn with
 |non=>obtain rfl:=h.x;obtain rfl:=Option.some.inj e;exact⟨.none,none,rfl,rfl⟩
 |int j=>obtain⟨t,rfl⟩:=h.x;obtain rfl:=Option.some.inj e;exact⟨.int j t,some (j,t),rfl,rfl⟩
 |_=>exact ax e
section
variable {c:Cx} {g:G} {K:Frag} {p:CP} {loose:List PySem.Str} {mg mb:PySem.Str->Option Value} {f:Fm} {d:Nat} {gh:Gh} {L:Addr} {σ:St} {s:Shared}
noncomputable def SO(c:Cx)(g:G)(f:Fm)(d:Nat)(x:X)(e:Option Expr):Prop:=
 ∀gh σ s A k Q,al c gh f.L σ s->bG d A->dO g x σ k->cN c f.L gh s k Q->wpAny (model c.prog c.w) A (evalPart e f.env) Q bM s
theorem zw:SO c g f d (.k .non) none:=by
 intro gh σ s A k Q r rm hev hp
 exact wpAny_pure (hp gh σ s _ (.c .non) (.refl _ _ _ _) r (fA .non) hev)
theorem zv{x:X}{e:Expr}(h:SE c g f d x e):SO c g f d x (some e):=h
noncomputable def ec(l u:Value):Obj:= {cls:=.type "slice",data:=.fields #[l,u,.none]}
theorem BC{A:Around}{v l u:Value}{o a b:V}{k:V->St->Prop}{Q:Value->Shared->Prop}(r:al c gh L σ s)(hv:RV c.prog c.w gh v o)(hl:RV c.prog c.w gh l a)(hu:RV c.prog c.w gh u b)(h:xm o a b σ k)
  (hp:cN c L gh s k Q):∃T id,typeLookup (.type T) "__getitem__"=pure (some (.builtin id))∧({s with heap:=s.heap.push (ec l u)}:Shared).TypeIs v T∧
   wpAny (model c.prog c.w) A (PySem.getItem v (.ref s.heap.objs.size)) Q bM {s with heap:=s.heap.push (ec l u)}:=by
 obtain⟨fo,h1,h⟩:=ab h
 obtain⟨fa,h2,h⟩:=ab h
 obtain⟨fb,h3,h⟩:=ab h
 obtain⟨i,h4,h⟩:=ab h
 obtain⟨j,h5,h⟩:=ab h
 obtain⟨_,_,_,ra⟩:=c7 r hl h2
 obtain⟨_,_,_,rb⟩:=c7 r hu h3
 obtain⟨p1,q1,rfl,m1⟩:=qr ra h4
 obtain⟨p2,q2,rfl,m2⟩:=qr rb h5
 have r0:=r.push (ec (partValue q1) (partValue q2))
 have x0:a8 false L gh s gh {s with heap:=s.heap.push (ec (partValue q1) (partValue q2))}:=.push _
 induction fo using FV.casesOn with
 |str x=>
  obtain⟨F,hF,_,rf⟩:=c7 r hv h1
  obtain⟨t,rfl,bb⟩:=rf.x
  ·refine⟨"str",_,PySem.F.slot_str_getitem.lookup,rfl,wpAny_getItem_str_slice (l:=q1) (u:=q2) (st:=none) ⟨_,Heap.get?_push_size _ rfl,rfl,rfl⟩ rfl ?_⟩
   have hlen:(slice x i j).length≤16777216:=Nat.le_trans (kl x i j) bb
   have key:∀t' tk,0<tk->Q (.str ⟨(slice x i j).toArray⟩ t') {s with heap:=s.heap.push (ec (partValue q1) (partValue q2)),toks:=tk}:=λt' tk ht=>
    hp gh σ _ _ (.c (.str (slice x i j))) (x0.trans r r0 (.toks false tk)) (r0.toks ht) (fA (.str _ t' hlen)) h
   have hpick:((slicePicked (⟨x.toArray⟩:PySem.Str) q1 q2 none).filterMap ((⟨x.toArray⟩:PySem.Str).cps[·]?)).toArray=(slice x i j).toArray:=by
    unfold slicePicked
    (refine m1.symm▸ ?_;refine m2.symm▸ ?_)
    exact tN x i j
   unfold sliceMade
   split
   ·rename_i hc
    rw [Bool.and_eq_true] at hc
    have hw:(slice x i j)=x:=by
     have h6:=beq_iff_eq.mp hc.2
     unfold slicePicked at h6
     rw [m1,m2] at h6
     have h7:=rU (l:=x) (a:=i) (b:=j)
     refine mD (h7.symm.trans (h6.trans ?_))
     show x.toArray.size=_
     simp
    have:=key t s.toks r.tk
    replace this:=hw▸this
    exact this
   ·refine hpick▸ ?_
    exact⟨by show(slice x i j).toArray.size≤_;rw [List.size_toArray,sizeLine_eq];exact hlen,key _ _ (Nat.succ_pos _)⟩
 |lst l'=>
  obtain⟨a1,o1,vs,rfl,e1,⟨n1,rfl⟩,r1,b1⟩:=eC r hv h1
  have hl':s.heap.IsList a1 vs.toArray:=⟨_,e1,rfl,n1,rfl⟩
  refine⟨"list",_,list_getitem_lookup,⟨_,Heap.get?_push_of_some _ e1,rfl⟩,wpAny_getItem_list_slice (hl'.push _) (Heap.IsSliceOf.new ..) p1 p2 .none (by simp) ?_ (by rw [List.size_toArray,r1.len,sizeLine_eq];exact b1)⟩
  rw [sg]
  obtain⟨r3,x3⟩:=r0.alloc (o:=({cls:=.type "list",data:=.seq (slice vs i j).toArray}:Obj)) (o':=.lst (slice l' i j)) rfl
   ⟨rfl,_,slice vs i j,Heap.get?_push_size _ rfl,⟨0,rfl⟩,bv.mono (λ_ _ e=>e) (bv.slice i j r1),Nat.le_trans (kl l' i j) b1⟩
  refine hp _ _ _ _ (.ob σ.m) (x0.trans r r0 x3) r3 ⟨_,[(s.heap.push (ec (partValue q1) (partValue q2))).objs.size], ?_,rfl⟩ h
  show(if σ.m=σ.m then _ else _)=_
  rw [if_pos rfl]
 |_=>exact h.elim
theorem Dw{x y z:X}{e:Expr}{lo hi:Option Expr}{pos pos':Pos}(h:SE c g f d x e)(h':SO c g f d y lo)(h'':SO c g f d z hi):SE c g f d (.slc x y z) (.Subscript e (.Slice lo hi none pos') pos):=by
 intro gh σ s A k Q r rm hev hp
 rw [arm_eval_Subscript]
 refine wpAny_bind (h gh σ s A _ _ r rm hev λgh₁ σ₁ s₁ v a x₁ r₁ hv hk=>wpAny_bind (wpAny_holding (wpAny_Slice (h' gh₁ σ₁ s₁ A _ _ r₁ rm hk λgh₂ σ₂ s₂ l b x₂ r₂ hl hk=>h'' gh₂ σ₂ s₂ A _ _ r₂ rm hk λgh₃ Z3 s₃ u b' x₃ r₃ hu hk=> ?_))))
 refine wpAny_pure ?_
 have x23:=x₂.trans r₁ r₂ x₃
 obtain⟨T,id,hlk,hT,hg⟩:=BC (A:=A) (Q:=Q) r₃ (hv.mono x23.le) (hl.mono x₃.le) hu hk λgh₄ Z4 s₄ w b x₄ r₄ hw hk=>hp gh₄ Z4 s₄ w b ((x₁.trans r r₁ x23).trans r r₃ x₄) r₄ hw hk
 refine wpAny_bind (wpAny_standAt (wpAny_bind ?_))
 refine(getitemInPython_of_ne hT.not_modules)▸ ?_
 refine wpAny_bind (wpAny_specialOf hT hlk (wpAny_pure ?_))
 refine wpAny_bind ?_
 show wpAny _ _ (operate _ (PySem.getItem v _)) _ _ _
 exact wpAny_operating (wpAny_mono hg (λr s₃ h₃=>wpAny_bind (wpAny_letTemporaryGo (wpAny_pure h₃))) λ_ _ x=>x)
end
end Mine.A
namespace Mine.A
section
variable {c:Cx} {g:G} {K:Frag} {p:CP} {loose:List PySem.Str} {mg mb:PySem.Str->Option Value} {f:Fm} {d:Nat} {gh:Gh} {L:Addr} {σ:St} {s:Shared}
theorem BI{A:Around}{v:Value}{x:FV}{F:Addr->Option Obj}{n:Nat}{Q:Value->Shared->Prop}(hF:Holds F s.heap)(hv:RF c.prog c.w F v x)
  (hn:Gz x=some n) (hQ:∀t tk,Q (.int n t) {s with toks:=tk}):wpAny (model c.prog c.w) A (PySem.call (.builtin "len") [v]) Q bM s:=by
 induction x using FV.casesOn with
 |str l=>
  obtain⟨t,rfl,b⟩:=hv.x
  obtain rfl:=Option.some.inj hn
  have e:(⟨l.toArray⟩:PySem.Str).length=l.length:=by show l.toArray.size=_;simp
  refine P.len_str (by rw [e];lia) ?_
  refine e▸ ?_;exact hQ _ _
 |tup l=>
  obtain⟨a,vs,o,rfl,e,⟨m,rfl⟩,r,b⟩:=hv.x
  obtain rfl:=Option.some.inj hn
  refine P.len_tuple (hF _ _ e) (by rw [List.size_toArray,r.len];lia) ?_
  rw [List.size_toArray,r.len];exact hQ _ _
 |lst l=>
  obtain⟨a,vs,o,rfl,e,q,r,b⟩:=hv.x
  obtain rfl:=Option.some.inj hn
  refine PyProof.Rows.len_list (q.list (hF _ _ e)) (by rw [List.size_toArray,r.len];lia) ?_
  rw [List.size_toArray,r.len];exact hQ _ _
 |dct l=>
  obtain⟨a,o,kvs,rfl,e,h0,q,r,b⟩:=hv.x
  obtain rfl:=Option.some.inj hn
  refine call_len_dict (by simpa using h0) (q.at (hF _ _ e)) (by rw [r.len];lia) ?_
  refine r.len▸ ?_;exact hQ _ _
 |_=>cases hn
theorem FH{A:Around}{id:Nat}{u:Value}{vs:List Value}{xs:List V}{k:V->St->Prop}{Q:Value->Shared->Prop}(hu:vw id=some u)(r:al c gh L σ s)(hv:eE c.prog c.w gh vs xs)(h:D4 id xs σ k)(hp:cN c L gh s k Q):
  ∃bi,u=.builtin bi∧wpAny (model c.prog c.w) A (PySem.call (.builtin bi) vs) Q bM s:=by
 obtain⟨x,hx,h⟩:=ab h
 obtain⟨v,rfl,ha⟩:=hv.one hx
 induction id using Nat.casesOn with
 |zero=>
  obtain rfl:=Option.some.inj hu
  obtain⟨y,hy,h1⟩:=ab h
  obtain⟨n,hn,h2⟩:=ab h1
  obtain⟨F,hF,_,rf⟩:=c7 r ha hy
  exact⟨_,rfl,aV r.tk (BI hF rf hn λt tk ht=>hp gh σ _ _ (.c (.int _)) (.toks _ _) (r.toks ht) (fA (.int _ t)) h2)⟩
 |succ id=>
  induction id using Nat.casesOn with
  |zero=>
   obtain rfl:=Option.some.inj hu
   obtain⟨y,hy,h1⟩:=ab h
   obtain⟨ch,hc,h2⟩:=ab h1
   obtain rfl:=mh hy
   obtain⟨t,rfl⟩:=RF.aCh ha hc
   exact⟨_,rfl,P.ord_of_char (hp gh σ _ _ (.c (.int ch)) (.toks _ _) r.tok1 (fA (.int _ _)) h2)⟩
  |succ _=>exact h.elim
theorem H6(Y:Ctx c K p loose mg mb){nm:PySem.Str}{id:Nat}{x:X}{args:List Expr}{pos pos':Pos}(hl:eB f.cs nm=true)(hg:p.glb nm=none)(hb:p.blt nm=some id)(hid:id<3)(h:ib c g f d x args):
  SE c g f d (.fn id x) (.Call (.Name nm pos') args [] pos):=by
 intro gh σ s A k Q r rm hev hp
 obtain⟨bi,hu⟩:∃bi,vw id=some (.builtin bi):=by
  clear hb
  induction id using Nat.casesOn with
  |zero=>exact⟨_,rfl⟩
  |succ id=>
   induction id using Nat.casesOn with
   |zero=>exact⟨_,rfl⟩
   |succ id=>
    induction id using Nat.casesOn with
    |zero=>exact⟨_,rfl⟩
    |succ id=>exact absurd (Nat.lt_of_succ_lt_succ (Nat.lt_of_succ_lt_succ (Nat.lt_of_succ_lt_succ hid))) (Nat.not_lt_zero id)
 obtain⟨hd,hm,hmb⟩:=Y.blt nm id _ hg hb hu
 have hr:ib c g f d x (args++([]:List Keyword).map (·.value)):=by simpa using h
 refine wpAny_Call_Name_kw (Calls.Name_function_global f.kind (eQ hl) (Calls.loadGlobal_builtin (by rw [f.glob];exact Y.T.g.keeps r.keepB) hm (by rw [f.blt];exact Y.T.b.keeps r.keepB) hmb ?_) hd)
 refine Calls.callWith_builtin (ce pos f.env hr.stars) (dT (kws:=[]) (ks:=[]) Y rfl hr r rm hev λgh₂ σ₂ s₂ vs xs _ x₂ r₂ hvs hk=> ?_)
 rw [bq]
 obtain⟨bi',e,hw⟩:=FH (A:=A) hu r₂ hvs hk λgh₃ Z3 s₃ v y x₃ r₃ hv hk=>hp gh₃ Z3 s₃ v y (x₂.trans r r₂ x₃) r₃ hv hk
 cases e
 exact hw
end
end Mine.A
namespace Mine.A
open Builtin.Str
noncomputable abbrev sO(l:List Nat):PySem.Str:=⟨l.toArray⟩
theorem bT(l:List Nat):(sO l).length=l.length:=by show l.toArray.size=_;simp
theorem qo(y l:List Nat):y.isPrefixOf l=true↔l.take y.length=y:=by
 rw [List.isPrefixOf_iff_prefix,List.prefix_iff_eq_take]
 exact eq_comm
theorem ma(l y:List Nat)(hi k:Nat)(hy:y≠[])(hh:hi≤l.length):StrLaws.At (sO l) (sO y) hi k↔y.isPrefixOf ((l.take hi).drop k)=true:=by
 unfold StrLaws.At
 rw [StrLaws.subAt_eq,qo,bT]
 have h1:1≤y.length:=List.length_pos_iff.mpr hy
 show(k+y.length≤hi∧((l.toArray.toList.drop k).take y.length==y.toArray.toList)=true)↔_
 simp only [beq_iff_eq,List.drop_take]
 constructor
 ·rintro ⟨a,b⟩
  rw [List.take_take,Nat.min_eq_left (Nat.le_sub_of_add_le' a)]
  exact b
 ·intro h
  have hl:=congrArg List.length h
  rw [List.length_take,List.length_take] at hl
  have hb:y.length≤hi-k:=Nat.le_trans (Nat.le_trans (Nat.le_of_eq hl.symm) (Nat.min_le_right _ _)) (Nat.min_le_left _ _)
  clear hl
  refine⟨by lia, ?_⟩
  rw [List.take_take,Nat.min_eq_left hb] at h
  exact h
theorem ue(y z:List Nat)(n:Nat):∀(l:List Nat),ba y z n l=ba y z 0 (l.drop n):=by
 induction n with
 |zero=>intro l;rw [List.drop_zero]
 |succ n ih=>
  intro l
  induction l using List.casesOn with
  |nil=>rw [List.drop_nil];rfl
  |cons c r=>exact ih r
theorem k6{y z:List Nat}(hy:y≠[]){l:List Nat}(h:y.isPrefixOf l=true):ba y z 0 l=z++ba y z 0 (l.drop y.length):=by
 induction l using List.casesOn with
 |nil=>induction y using List.casesOn with
  |nil=>exact absurd rfl hy
  |cons _ _=>exact bU h
 |cons c r=>
  show(if y.isPrefixOf (c::r)then z++ba y z (y.length-1) r else c::ba y z 0 r)=_
  rw [if_pos h,ue]
  obtain⟨m,hm⟩:∃m,y.length=m+1:=⟨y.length-1,by have:=List.length_pos_iff.mpr hy;lia⟩
  (refine hm▸ ?_;rw [List.drop_succ_cons]);rfl
theorem fO{y z:List Nat}{c:Nat}{r:List Nat}(h:¬y.isPrefixOf (c::r)=true):ba y z 0 (c::r)=c::ba y z 0 r:=by
 show(if y.isPrefixOf (c::r)then z++ba y z (y.length-1) r else c::ba y z 0 r)=_
 rw [if_neg h]
theorem qk{y z:List Nat}(n:Nat):∀(l:List Nat),n≤l.length->(∀k,k<n->¬y.isPrefixOf (l.drop k)=true)->ba y z 0 l=l.take n++ba y z 0 (l.drop n):=by
 induction n with
 |zero=>intro l _ _;rw [List.take_zero,List.drop_zero];rfl
 |succ n ih=>
  intro l h hn
  induction l using List.casesOn with
  |nil=>exact absurd h (Nat.not_succ_le_zero n)
  |cons c r=>
   rw [fO (hn 0 (Nat.succ_pos _))]
   exact congrArg (c:: ·) (ih r (Nat.le_of_succ_le_succ h) λk hk=>hn (k+1) (Nat.succ_lt_succ hk))
theorem gH(z s:PySem.Str){P:List PySem.Str}(h:P≠[]):(Str.join z (s::P)).cps.toList=s.cps.toList++z.cps.toList++(Str.join z P).cps.toList:=by
 induction P using List.casesOn with
 |nil=>exact absurd rfl h
 |cons p r=>
  show((s.cps++z.cps)++(Str.join z (p::r)).cps).toList=_
  simp
theorem rR(l y z:List Nat)(hy:y≠[]):∀(cuts:List Nat) (a f:Nat),a≤l.length->StrLaws.ChainG (sO l) (sO y) l.length a cuts f->(∀k,f≤k->¬StrLaws.At (sO l) (sO y) l.length k)->
  (Str.join (sO z) (StrLaws.partsFrom (sO l) (sO y).length a cuts)).cps.toList=ba y z 0 (l.drop a):=by
 intro cuts
 induction cuts with
 |nil=>
  intro a f ha h hn
  have e:f=a:=h
  subst e
  have key:=qk (y:=y) (z:=z) (l.drop f).length (l.drop f) (Nat.le_refl _) λk _ q=>hn (f+k) (by lia) ((ma l y l.length _ hy (Nat.le_refl _)).mpr (by(refine List.take_length▸ ?_;refine List.drop_drop▸ ?_);exact q))
  refine key▸ ?_
  show(strSub (sO l) f (sO l).length).cps.toList=_
  rw [StrLaws.strSub_toList,bT,List.drop_length,List.take_length]
  show(l.drop f).take (l.length-f)=_
  rw [List.take_of_length_le (by refine List.length_drop▸ ?_;exact Nat.le_refl _)]
  simp [ba]
 |cons c cuts ih=>
  intro a f ha h hn
  obtain⟨h1,h2,h3,h4⟩:=h
  have hc:=(ma l y l.length c hy (Nat.le_refl _)).mp h2
  rw [List.take_length] at hc
  have hcl:c+y.length≤l.length:=by have:=h2.1;rw [bT] at this;exact this
  have key:=qk (y:=y) (z:=z) (c-a) (l.drop a) (by rw [List.length_drop];lia) λk hk q=>h3 (a+k) (by lia) (by lia) ((ma l y l.length _ hy (Nat.le_refl _)).mpr (by(refine List.take_length▸ ?_;refine List.drop_drop▸ ?_);exact q))
  rw [key,List.drop_drop,show a+(c-a)=c by lia,k6 hy hc,List.drop_drop]
  show(Str.join (sO z) (strSub (sO l) a c::StrLaws.partsFrom (sO l) (sO y).length (c+(sO y).length) cuts)).cps.toList=_
  rw [gH _ _ (by obtain⟨p,r,e⟩:=StrLaws.partsFrom_ne (sO l) (sO y).length (c+(sO y).length) cuts;rw [e];simp),StrLaws.strSub_toList]
  have ih:=ih (c+(sO y).length) f (by rw [bT];exact hcl) h4 hn
  rw [ih,bT]
  simp
theorem og{x:PySem.Str}{l:List Nat}(h:x.cps.toList=l):x=sO l:=by obtain⟨⟩:=x;rw [←h]
theorem Bq(l y z:List Nat)(hy:y≠[]):Txt.replace (sO l) (sO y) (sO z)=sO (ba y z 0 l):=by
 have h1:1≤(sO y).length:=by rw [bT];exact List.length_pos_iff.mpr hy
 obtain⟨f,hc,hn⟩:=StrLaws.occ_tight (sO l) (sO y) h1
 rw [bT] at hc hn
 have key:=rR l y z hy _ 0 f (Nat.zero_le _) hc hn
 replace key:=List.drop_zero▸key
 unfold Txt.replace
 have hy0:((sO y).length==0)=false:=by rw [bT];induction y<;>first|exact absurd rfl hy|rfl
 rw [hy0,Bool.false_and,Bool.or_false]
 rw [bT]
 split
 ·rename_i he
  have he:occurrences (sO l) (sO y) 0 l.length (l.length+1)=[]:=by simpa using he
  rw [he] at key
  refine key▸ ?_
  show _=sO (strSub (sO l) 0 (sO l).length).cps.toList
  rw [StrLaws.sub_whole]
 ·refine og ?_
  rw [StrLaws.glued_eq_join,StrLaws.partsBetween_eq]
  exact key
theorem ol{c:Nat}:∀(a:List Nat) (t:List Nat),c∉a->ak c (a++c::t)=a::ak c t:=by
 intro a
 induction a with
 |nil=>
  intro t _
  simp [ak]
 |cons x a ih=>
  intro t h
  rw [List.mem_cons,not_or] at h
  have hx:¬x=c:=λe=>h.1 e.symm
  show(if x=c then []::ak c (a++c::t)else match ak c (a++c::t)with
   |h::t=>(x::h)::t
   | []=>[[x]])=_
  rw [if_neg hx,ih t h.2]
theorem om{c:Nat}:∀(a:List Nat),c∉a->ak c a=[a]:=by
 intro a
 induction a with
 |nil=>
  intro _
  exact rfl
 |cons x a ih=>
  intro h
  rw [List.mem_cons,not_or] at h
  have hx:¬x=c:=λe=>h.1 e.symm
  unfold ak
  rw [if_neg hx,ih h.2]
theorem oj{c:Nat}{parts:List PySem.Str}(h0:parts≠[])(h:∀p∈parts,c∉p.cps.toList):ak c (Str.join (sO [c]) parts).cps.toList=parts.map λp=>p.cps.toList:=by
 induction parts with
 |nil=>exact absurd rfl h0
 |cons p r ih=>
  induction r using List.casesOn with
  |nil=>exact om _ (h p (.head _))
  |cons q r=>
   rw [gH _ _ (List.cons_ne_nil q r)]
   show ak c (p.cps.toList++[c]++_)=_
   rw [List.append_assoc,List.singleton_append,ol _ _ (h p (.head _)),ih (List.cons_ne_nil q r) λx hx=>h x (.tail _ hx)]
   rfl
theorem dB(x y:PySem.Str):Txt.split x y≠[]:=by
 unfold Txt.split
 split
 ·simp
 ·split
  ·simp
  ·rw [StrLaws.partsBetween_eq]
   obtain⟨p,r,e⟩:=StrLaws.partsFrom_ne x y.length 0 (occurrences x y 0 x.length (x.length+1))
   rw [e];simp
theorem tR(l:List Nat)(c:Nat):(Txt.split (sO l) (sO [c])).map (λp=>p.cps.toList)=ak c l:=by
 have h:=oj (c:=c) (dB _ _) (StrLaws.split_free (sO l) c)
 rw [StrLaws.join_split] at h
 exact h.symm
theorem oo(c:Nat):∀l:List Nat,(ak c l).length≤l.length+1:=by
 intro l
 induction l with
 |nil=>
  simp [ak]
 |cons x r ih=>
  have ih:=ih
  unfold ak
  split
  ·simp only [List.length_cons];lia
  ·split
   ·rename_i h t e;rw [e] at ih;simp only [List.length_cons] at ih⊢;lia
   ·simp
theorem mB(c:Nat):∀l:List Nat,∀p∈ak c l,p.length≤l.length:=by
 intro l
 induction l with
 |nil=>
  intro p h
  simp [ak] at h;subst h;simp
 |cons x r ih=>
  intro p h
  have ih:=ih
  unfold ak at h
  split at h
  ·rcases List.mem_cons.mp h with rfl|h
   ·simp
   ·have:=ih p h;simp only [List.length_cons];lia
  ·split at h
   ·rename_i hh t e
    replace ih:=e▸ih
    rcases List.mem_cons.mp h with rfl|h
    ·have:=ih hh (.head _);simp only [List.length_cons];lia
    ·have:=ih p (.tail _ h);simp only [List.length_cons];lia
   ·refine(List.mem_singleton.mp h)▸ ?_;simp
theorem iC(l:List Nat)(c hi k:Nat)(hh:hi≤l.length):StrLaws.At (sO l) (sO [c]) hi k↔(l.take hi)[k]? =some c:=by
 rw [ma l [c] hi k (by simp) hh,List.isPrefixOf_iff_prefix,List.prefix_iff_eq_take]
 have e:(l.take hi)[k]? =((l.take hi).drop k)[0]? :=by rw [List.getElem?_drop];rfl
 refine e▸ ?_
 cases (l.take hi).drop k with
 |nil=>simp
 |cons a r=>simp [eq_comm]
theorem pv(l:List Nat)(c hi:Nat)(hh:hi≤l.length):∀(cuts:List Nat) (a f:Nat),StrLaws.ChainG (sO l) (sO [c]) hi a cuts f->(∀k,f≤k->¬StrLaws.At (sO l) (sO [c]) hi k)->cuts.length=((l.take hi).drop a).count c:=by
 intro cuts
 induction cuts with
 |nil=>
  intro a f h hn
  have e:f=a:=h
  subst e
  symm
  show List.count c _=0
  rw [List.count_eq_zero]
  intro hm
  obtain⟨i,hi',e⟩:=List.mem_iff_getElem.mp hm
  refine hn (f+i) (by lia) ((iC l c hi _ hh).mpr ?_)
  rw [←List.getElem?_drop,List.getElem?_eq_getElem hi',e]
 |cons b cuts ih=>
  intro a f h hn
  obtain⟨h1,h2,h3,h4⟩:=h
  have ih:=ih (b+(sO [c]).length) f h4 hn
  have hb:=(iC l c hi b hh).mp h2
  have hlt:b<(l.take hi).length:=by
   rcases Nat.lt_or_ge b (l.take hi).length with z|z
   ·exact z
   ·rw [List.getElem?_eq_none z] at hb;exact ax hb
  have e1:(l.take hi).drop a=((l.take hi).drop a).take (b-a)++(l.take hi).drop b:=by
   have:=(List.take_append_drop (b-a) ((l.take hi).drop a)).symm
   rw [List.drop_drop,show a+(b-a)=b by lia] at this
   exact this
  have e2:(l.take hi).drop b=c::(l.take hi).drop (b+1):=by
   rw [List.drop_eq_getElem_cons hlt]
   congr 1
   rw [List.getElem?_eq_getElem hlt] at hb
   exact Option.some.inj hb
  have z0:(((l.take hi).drop a).take (b-a)).count c=0:=by
   rw [List.count_eq_zero]
   intro hm
   obtain⟨i,hi',e⟩:=List.mem_iff_getElem.mp hm
   have hi2:i<b-a:=by rw [List.length_take] at hi';lia
   refine h3 (a+i) (by lia) (by lia) ((iC l c hi _ hh).mpr ?_)
   refine(List.getElem?_drop)▸ ?_
   have:(((l.take hi).drop a).take (b-a))[i]? =some c:=by rw [List.getElem?_eq_getElem hi',e]
   rw [List.getElem?_take,if_pos hi2] at this
   exact this
  (rw [e1,List.count_append,z0,e2,List.count_cons_self,Nat.zero_add,List.length_cons];refine ih▸ ?_)
  rfl
theorem v8(l:List Nat)(c hi:Nat)(hh:hi≤l.length):(occurrences (sO l) (sO [c]) 0 hi ((sO l).length+1)).length=(l.take hi).count c:=by
 rw [StrLaws.occ_eq,bT]
 have key:=StrLaws.tight_run (sO l) (sO [c]) hi (l.length+1) 0 (Nat.le_refl _) (hi+1-0) 0 ((#[]:Array Nat),0) rfl (λk _ h=>by lia) (by simp;lia)
 have:=pv l c hi hh _ 0 _ key.1 λk hk hA=>key.2 k hk (by have:=hA.1;lia) hA
 replace this:=List.drop_zero▸this
 exact this
theorem mR{c:Nat}{l:List Nat}(h:∀k:Nat,l[k]? ≠some c):fB c l= -1:=by
 induction l with
 |nil=>rfl
 |cons x r ih=>
  unfold fB
  rw [ih λk=>h (k+1),if_neg (by decide),if_neg λe=>h 0 (congrArg some e)]
theorem ub{c:Nat}{l:List Nat}:∀ {a:Nat},l[a]? =some c->(∀k:Nat,a<k->l[k]? ≠some c)->fB c l=a:=by
 induction l with
 |nil=>intro a h;exact ax h
 |cons x r ih=>
  intro a h hn
  unfold fB
  induction a using Nat.casesOn with
  |zero=>rw [mR λk=>hn (k+1) (Nat.succ_pos _),if_neg (by decide),if_pos (Option.some.inj h)];rfl
  |succ a=>rw [ih (a:=a) h λk hk=>hn (k+1) (Nat.succ_lt_succ hk),if_pos (Int.natCast_nonneg _)];rfl
theorem u9(l:List Nat)(c hi:Nat)(hh:hi≤l.length):(match lastOccurrence (sO l) (sO [c]) 0 hi with|some i=>(i:Int)|none=> -1)=fB c (l.take hi):=by
 rw [StrLaws.last_eq]
 have key:=StrLaws.last_run (sO l) (sO [c]) hi (List.range' 0 (hi+1-0)) [] none (λ_ h=>(List.not_mem_nil h).elim) (λ_ h=>(List.not_mem_nil h).elim) (by simpa using List.pairwise_lt_range' (s:=0) (n:=hi+1-0))
 have mem:∀i,StrLaws.At (sO l) (sO [c]) hi i->i∈[]++List.range' 0 (hi+1-0):=λi hi'=>by have:=hi'.1;simp [List.mem_range']<;>lia
 cases hr:(forIn (List.range' 0 (hi+1-0)) none (StrLaws.lastBody (sO l) (sO [c]) hi)).run with
 |none=>
  replace key:=hr▸key
  exact(mR λk e=>by have hA:=(iC l c hi k hh).mpr e;exact key k (mem k hA) hA).symm
 |some a=>
  replace key:=hr▸key
  exact(ub ((iC l c hi a hh).mp key.1) λk hk e=>by have hA:=(iC l c hi k hh).mpr e;exact key.2 k (mem k hA) hk hA).symm
theorem yd:∀c,c<128->Unicode.lowerOf c=[i4 c]:=by
 have h:(List.range 128).all (λc=>Unicode.lowerOf c==[i4 c])=true:=by decide+kernel
 intro c hc
 exact eq_of_beq (List.all_eq_true.mp h c (List.mem_range.mpr hc))
theorem uY(l:List Nat)(h:(l.all λc=>Nat.blt c 128)=true):Txt.lower (sO l)=sO (fS l):=by
 refine og ?_
 unfold Txt.lower placed
 have e:((sO l).cps.mapIdx λi _=>(Unicode.lowerAt (sO l).cps i).toArray)=(l.map λc=> #[i4 c]).toArray:=by
  refine Array.ext (by simp) λi h1 h2=> ?_
  have hi:i<l.length:=by simpa using h1
  simp only [Array.getElem_mapIdx,List.getElem_toArray,List.getElem_map]
  have hc:l[i]<128:=dN (List.all_eq_true.mp h _ (List.getElem_mem hi))
  unfold Unicode.lowerAt
  show(match (l.toArray)[i]? with|none=>[]|some c=>if c==0x3A3&&Unicode.endsWord _ i then [0x3C2]else Unicode.lowerOf c).toArray=_
  rw [List.getElem?_toArray,List.getElem?_eq_getElem hi]
  have:(l[i]==0x3A3)=false:=by simp;lia
  simp only [this,Bool.false_and,Bool.false_eq_true,if_false,yd _ hc]
 refine e▸ ?_
 have:∀l:List Nat,((l.map λc=> #[i4 c]).toArray.flatten).toList=l.map i4:=by
  intro l
  induction l with
  |nil=>rfl
  |cons x r ih=>simp_all
 exact this l
end Mine.A
namespace Mine.A
open Builtin.Str Builtin
theorem lE(x y:PySem.Str)(i j:Int)(t u v w:Tok):Gives («str.count» ⟨[.str x t,.str y u,.int i v,.int j w],[]⟩) (.int (occurrences x y (fromIndex x.length i) (min (fromIndex x.length j) x.length) (x.length+1)).length):=by
 show Gives (retInt (occurrences x y (fromIndex x.length i) (min (fromIndex x.length j) x.length) (x.length+1)).length) _
 exact .of_eq rfl
theorem lD(x y:PySem.Str)(i j:Int)(t u v w:Tok):Gives («str.rfind» ⟨[.str x t,.str y u,.int i v,.int j w],[]⟩) (.int (match lastOccurrence x y (fromIndex x.length i) (min (fromIndex x.length j) x.length)with|some i=>(i:Int)|none=> -1)):=by
 show Gives (match lastOccurrence x y (fromIndex x.length i) (min (fromIndex x.length j) x.length)with|some i=>retInt i|none=>(do rule "str.rfind.not-found";retInt (-1))) _
 cases lastOccurrence x y (fromIndex x.length i) (min (fromIndex x.length j) x.length)with
 |none=>exact .rule (.of_eq rfl)
 |some i=>exact .of_eq rfl
theorem fV(n:Nat):fromIndex n 0=0:=by simp [fromIndex]
theorem gz(n:Nat){b:Int}(h:0≤b):fromIndex n b=b.toNat:=by
 unfold fromIndex
 rw [if_neg (by lia)];lia
theorem my(l:List Nat)(n:Nat):l.take (min n l.length)=l.take n:=by
 rcases Nat.le_total n l.length with h|h
 ·rw [Nat.min_eq_left h]
 ·rw [Nat.min_eq_right h,List.take_length,List.take_of_length_le h]
noncomputable def jn(sep y r:List Nat)(t:List FV):List Nat:=List.casesOn (motive:=λ_=>List Nat) t y λ_ _=>y++sep++r
theorem oN{sep:List Nat}{x:FV}{t:List FV}{r:List Nat}(h:dK sep (x::t)=some r):∃y r',x=.str y∧dK sep t=some r'∧r=jn sep y r' t:=by
 obtain⟨y,e,h⟩:=aw (f:=λy=>ed (dK sep t) λr=>jn sep y r t) h
 obtain⟨r',e',h⟩:=cm h
 exact⟨y,r',s8 e,e',h.symm⟩
theorem xy(y z:List Nat)(l:List Nat):∀n:Nat,(ba y z n l).length≤l.length*(z.length+1):=by
 induction l with
 |nil=>intro n;exact Nat.zero_le _
 |cons c r ih=>
  intro n
  rw [List.length_cons,Nat.succ_mul]
  induction n using Nat.casesOn with
  |zero=>
   show(if y.isPrefixOf (c::r)then z++ba y z (y.length-1) r else c::ba y z 0 r).length≤_
   split
   ·rw [List.length_append];have:=ih (y.length-1);lia
   ·rw [List.length_cons];have:=ih 0;lia
  |succ n=>exact Nat.le_trans (ih n) (Nat.le_add_right _ _)
theorem sj{prog:Program}{w:World}{F:Addr->Option Obj}{sep:List Nat}{l:List FV}:∀ {vs:List Value} {r:List Nat},bv prog w F vs l->dK sep l=some r->
  ∃ys,StrsAre vs ys∧(Str.join (sO sep) ys).cps.toList=r∧(ys.map (·.length)).sum≤r.length∧ys.length=l.length:=by
 induction l with
 |nil=>
  intro vs r h e
  obtain rfl:=h.inv
  have e:some []=some r:=e
  obtain rfl:=Option.some.inj e;exact⟨[],.nil,rfl,Nat.le_refl _,rfl⟩
 |cons x l ih=>
  intro vs r h e
  obtain⟨v,vs,rfl,ha,hr⟩:=h.inv
  obtain⟨y,r',rfl,e1,rfl⟩:=oN e
  obtain⟨ys,h1,h2,h3,h4⟩:=ih hr e1
  obtain⟨t,rfl,b⟩:=ha.x
  refine⟨sO y::ys,.cons _ _ h1, ?_, ?_,by rw [List.length_cons,h4,List.length_cons]⟩
  ·cases l with
   |nil=>
    have:ys=[]:=List.length_eq_zero_iff.mp h4
    subst this;rfl
   |cons a l=>
    rw [gH _ _ (by intro e;replace h4:=e▸h4;cases h4),h2]
    rfl
  ·rw [List.map_cons,List.sum_cons,bT]
   cases l with
   |nil=>
    have:ys=[]:=List.length_eq_zero_iff.mp h4
    subst this;simp [jn]
   |cons a l=>show _≤(y++sep++r').length;simp only [List.length_append];lia
theorem wI{prog:Program}{w:World}{F:Addr->Option Obj}:∀(n:Nat) (ps:List PySem.Str),(∀p∈ps,p.length≤16777216)->bv prog w F (strsFrom n ps) (ps.map λp=>FV.str p.cps.toList):=by
 intro n ps
 induction ps generalizing n with
 |nil=>
  intro _
  exact .nil
 |cons p r ih=>
  intro h
  refine .cons ?_ (ih (n+1) λq hq=>h q (.tail _ hq))
  have e:p=sO p.cps.toList:=by obtain⟨⟩:=p;simp
  have:=RF.str (prog:=prog) (w:=w) (F:=F) p.cps.toList n (by have:=h p (.head _);refine Array.length_toList▸ ?_;exact this)
  rw [show(⟨p.cps.toList.toArray⟩:PySem.Str)=p from e.symm] at this
  exact this
section
variable {c:Cx} {g:G} {K:Frag} {p:CP} {loose:List PySem.Str} {mg mb:PySem.Str->Option Value} {f:Fm} {d:Nat} {gh:Gh} {L:Addr} {σ:St} {s:Shared}
theorem tO{A:Around}{x:List Nat}{v:Value}{f:FV}{t:Tok}{k:V->St->Prop}{Q:Value->Shared->Prop}(r:al c gh L σ s)(bx:x.length≤16777216)(hv:RF c.prog c.w s.heap.get? v f)
  (h:ai (aL f) λl=>ai (dK x l) λr=>tm (r.length+l.length*x.length+x.length) (k (.c (.str r)) σ)) (hp:cN c L gh s k Q):wpAny (model c.prog c.w) A (PySem.call (.builtin (s0 2)) [.str ⟨x.toArray⟩ t,v]) Q bM s:=by
 obtain⟨l,e,h1⟩:=ab h
 obtain⟨rr,hj,hle,hk⟩:=ab h1
 obtain rfl:=pM e
 obtain⟨a,vs,o,rfl,e,q,rf,b⟩:=hv.x
 obtain⟨ys,y1,y2,y3,y4⟩:=sj rf hj
 refine aV r.tk (PyProof.Rows.join_list (q.list e) (by simpa using y1) (by rw [bT,y4];lia) λt' tk ht=> ?_)
 have:Txt.join (sO x) ys=sO rr:=by
  refine og ?_
  unfold Txt.join
  rw [StrLaws.glued_eq_join];exact y2
 refine this▸ ?_
 exact hp gh σ _ _ (.c (.str rr)) (.toks _ _) (r.toks ht) (fA (.str rr t' (by lia))) hk
theorem rI{A:Around}{x:List Nat}{ch:Nat}{t t1:Tok}{k:V->St->Prop}{Q:Value->Shared->Prop}(hh:A.handled=none)(r:al c gh L σ s)(bx:x.length≤16777216)
  (hle:x.length+2≤16777216) (hk:fg (.lst ((ak ch x).map .str)) σ k) (hp:cN c L gh s k Q):wpAny (model c.prog c.w) A (PySem.call (.builtin (s0 6)) [.str ⟨x.toArray⟩ t,.str ⟨[ch].toArray⟩ t1]) Q bM s:=by
 have hse:=tR x ch
 have hlen:((ak ch x).map FV.str).length≤16777216:=by rw [List.length_map];have:=oo ch x;lia
 have gl:Txt.split (sO x) (sO [ch])=[sO x]->ak ch x=[x]:=λe=>by
  rw [e] at hse;exact hse.symm
 have o0:Txt.split (sO x) (sO [ch])=[sO x]->Q (.ref s.heap.objs.size) {s with heap:=s.heap.push {cls:=.type "list",data:=.seq [Value.str (sO x) t].toArray}}:=λe=>by
  have hk:=hk
  have hlen:=hlen
  rw [gl e] at hk hlen
  exact gF (tk:=s.toks) r.tk r (.cons (.str x t bx) .nil) hlen hk hp
 cases h1:(decide ((sO x).length<(sO [ch]).length)||decide (strKind (sO x)<strKind (sO [ch])))
 ·cases hf:(occurrences (sO x) (sO [ch]) 0 (sO x).length ((sO x).length+1)).isEmpty
  ·have hsp:Txt.split (sO x) (sO [ch])=partsBetween (sO x) (occurrences (sO x) (sO [ch]) 0 (sO x).length ((sO x).length+1)) (sO [ch]).length:=by
    unfold Txt.split;rw [h1,hf];rfl
   have hpl:(Txt.split (sO x) (sO [ch])).length≤16777216:=by((refine(List.length_map (f:=λp:PySem.Str=>p.cps.toList))▸ ?_;refine hse▸ ?_);refine(List.length_map (f:=FV.str))▸ ?_);exact hlen
   refine call_meets F.slot_str_split (typeIs_str _ _ _) F.entry_str_split (F.args_str_split_2 _ _) (meets_str_split_sep (sO x) (sO [ch]) t t1 h1 rfl hf (by rw [bT,sizeLine_eq];exact bx) (by(refine hsp▸ ?_;rw [sizeLine_eq]);exact hpl)) ?_
   refine hsp▸ ?_
   refine gF (Nat.lt_of_lt_of_le r.tk (Nat.le_add_right _ _)) r ?_ hlen hk hp
   have:=wI (prog:=c.prog) (w:=c.w) (F:=gh.F) s.toks (Txt.split (sO x) (sO [ch])) λp hp=>by
    have hm:p.cps.toList∈ak ch x:=by refine hse▸ ?_;exact List.mem_map_of_mem hp
    have:=mB ch x _ hm
    show p.cps.size≤_
    refine Array.length_toList▸ ?_;lia
   rw [show((Txt.split (sO x) (sO [ch])).map λp=>FV.str p.cps.toList)=(ak ch x).map FV.str by(refine hse▸ ?_;rw [List.map_map]);rfl] at this
   exact this
  ·exact call_meets F.slot_str_split (typeIs_str _ _ _) F.entry_str_split (F.args_str_split_2 _ _) (meets_str_split_not_found (sO x) (sO [ch]) t t1 h1 rfl hf) (o0 (by unfold Txt.split;rw [h1,hf];rfl))
 ·exact call_meets F.slot_str_split (typeIs_str _ _ _) F.entry_str_split (F.args_str_split_2 _ _) (meets_str_split_cannot_occur (sO x) (sO [ch]) t t1 h1) (o0 (by unfold Txt.split;rw [h1];rfl))
theorem CZ{x:List Nat}{ch:Nat}{j:Int}(hb:0≤j):(occurrences (sO x) (sO [ch]) (fromIndex (sO x).length 0) (min (fromIndex (sO x).length j) (sO x).length) ((sO x).length+1)).length=(x.take j.toNat).count ch:=by
 rw [fV,gz _ hb,bT]
 have:=v8 x ch (min j.toNat x.length) (Nat.min_le_right _ _)
 rw [bT,my] at this
 exact this
theorem Bn{x:List Nat}{ch:Nat}{j:Int}(hb:0≤j):(match lastOccurrence (sO x) (sO [ch]) (fromIndex (sO x).length 0) (min (fromIndex (sO x).length j) (sO x).length)with|some i=>(i:Int)|none=> -1)=fB ch (x.take j.toNat):=by
 rw [fV,gz _ hb,bT]
 have:=u9 x ch (min j.toNat x.length) (Nat.min_le_right _ _)
 rw [my] at this
 exact this
theorem Bs{x pf:List Nat}:(decide (0+(sO pf).length≤(sO x).length)&&subAt (sO x) (sO pf) 0)=pf.isPrefixOf x:=by
 rw [Bool.eq_iff_iff,Bool.and_eq_true,decide_eq_true_eq,StrLaws.subAt_eq,qo,bT,bT]
 show(0+pf.length≤x.length∧((x.toArray.toList.drop 0).take pf.length==pf.toArray.toList)=true)↔_
 simp only [beq_iff_eq,List.drop_zero]
 constructor
 ·exact λh=>h.2
 ·intro h
  refine⟨?_,h⟩
  have:=congrArg List.length h
  rw [List.length_take] at this;lia
theorem A3:AB c L:=by
 intro n gh σ s A k Q v x vs fs h2 h9 r hh hv hvs h hp
 obtain⟨t,rfl,bx⟩:=hv.x
 rcases Nat.eq_or_lt_of_le h9 with rfl|h9
 ·obtain⟨f,e,h⟩:=ab h
  obtain⟨pf,e1,hk⟩:=ab h
  obtain⟨v,rfl,hv⟩:=hvs.one e
  obtain⟨t1,rfl,_⟩:=hv.aS e1
  refine call_gives F.slot_str_startswith (typeIs_str _ _ _) F.entry_str_startswith (F.args_str_startswith_2 _ _) (gives_str_startswith _ _ _ _) ?_
  show Q (.bool (decide (0+(sO pf).length≤(sO x).length)&&subAt (sO x) (sO pf) 0)) s
  refine Bs▸ ?_
  exact hp gh σ s _ (.c (.bol _)) (.refl _ _ _ _) r (fA (.bol _)) hk
 rcases Nat.eq_or_lt_of_le (Nat.le_of_lt_succ h9)with rfl|h9
 ·exact h.elim
 rcases Nat.eq_or_lt_of_le (Nat.le_of_lt_succ h9)with rfl|h9
 ·induction fs using List.casesOn with
  |cons _ _=>exact h.elim
  |nil=>
   obtain⟨ha,hk⟩:=h
   obtain rfl:=hvs.inv
   have e:=uY x ha
   have hl:(fS x).length=x.length:=by simp [fS]
   refine SC.lower (by rw [e,bT,hl];unfold tooLong;exact decide_eq_false (by refine sizeLine_eq▸ ?_;lia)) ?_
   rw [e]
   exact hp gh σ _ _ (.c (.str (fS x))) (.toks _ _) r.tok1 (fA (.str (fS x) _ (by refine hl▸ ?_;exact bx))) hk
 rcases Nat.eq_or_lt_of_le (Nat.le_of_lt_succ h9)with rfl|h9
 ·obtain⟨f,e,h⟩:=ab h
  obtain⟨ch,e1,hle,hk⟩:=ab h
  obtain⟨v,rfl,hv⟩:=hvs.one e
  obtain⟨t1,rfl⟩:=hv.aCh e1
  exact rI hh r bx hle hk hp
 rcases Nat.eq_or_lt_of_le (Nat.le_of_lt_succ h9)with rfl|h9
 ·obtain⟨a,f,b,g,z,w,rfl,ha,hb,hz,h⟩:=hvs.opt3 h
  obtain⟨ch,e1,h⟩:=ab h
  obtain⟨i,e2,h⟩:=ab h
  obtain⟨j,e3,⟨rfl,hb0,hb1⟩,hk⟩:=ab h
  obtain⟨t1,rfl⟩:=ha.aCh e1
  obtain⟨t2,rfl⟩:=hb.aI e2
  obtain⟨t3,rfl⟩:=hz.aI e3
  refine call_gives F.slot_str_rfind (typeIs_str _ _ _) F.entry_str_rfind (F.args_str_rfind_4 _ _ _ _) (lD _ _ _ _ _ _ _ _) ?_
  show Q (.int (match lastOccurrence (sO x) (sO [ch]) (fromIndex (sO x).length 0) (min (fromIndex (sO x).length j) (sO x).length)with|some i=>(i:Int)|none=> -1) s.toks) {s with toks:=s.toks+1}
  rw [Bn hb0]
  exact hp gh σ _ _ (.c (.int _)) (.toks _ _) r.tok1 (fA (.int _ _)) hk
 rcases Nat.eq_or_lt_of_le (Nat.le_of_lt_succ h9)with rfl|h9
 ·obtain⟨a,f,b,g,z,w,rfl,ha,hb,hz,h⟩:=hvs.opt3 h
  obtain⟨ch,e1,h⟩:=ab h
  obtain⟨i,e2,h⟩:=ab h
  obtain⟨j,e3,⟨rfl,hb0,hb1⟩,hk⟩:=ab h
  obtain⟨t1,rfl⟩:=ha.aCh e1
  obtain⟨t2,rfl⟩:=hb.aI e2
  obtain⟨t3,rfl⟩:=hz.aI e3
  refine call_gives F.slot_str_count (typeIs_str _ _ _) F.entry_str_count (F.args_str_count_4 _ _ _ _) (lE _ _ _ _ _ _ _ _) ?_
  show Q (.int ((occurrences (sO x) (sO [ch]) (fromIndex (sO x).length 0) (min (fromIndex (sO x).length j) (sO x).length) ((sO x).length+1)).length:Nat) s.toks) {s with toks:=s.toks+1}
  rw [CZ hb0]
  exact hp gh σ _ _ (.c (.int _)) (.toks _ _) r.tok1 (fA (.int _ _)) hk
 rcases Nat.eq_or_lt_of_le (Nat.le_of_lt_succ h9)with rfl|h9
 ·exact h.elim
 obtain rfl:=Nat.le_antisymm (Nat.le_of_lt_succ h9) h2
 obtain⟨f,e,h⟩:=ab h
 obtain⟨v,rfl,hv⟩:=hvs.one e
 exact tO r bx hv h hp
theorem Dy(Y:Ctx c K p loose mg mb){o:Expr}{xo:X}{a b:PySem.Str}{k1 k2:Nat}{p1 p2 apos pos:Pos}(hb:dz o=true)(hline:(apos.endLine==pos.line)=true)(hza:a.cps.size<14)(hz:b.cps.size<14)(h:SE c g f d xo o):
  SE c g f d (.rep xo a.cps.toList b.cps.toList) (.Call (.Attribute o "replace" apos) [.Constant (.str a) k1 p1,.Constant (.str b) k2 p2] [] pos):=by
 intro gh σ s A k Q r rm hev hp
 rw [arm_eval_Call,gM hb]
 refine wpAny_bind (h gh σ s A _ _ r rm hev λgh₁ σ₁ s₁ ov oa x₁ r₁ ho hk=> ?_)
 obtain⟨q,e0,h1⟩:=ab hk
 clear hk
 obtain rfl:=mh e0
 obtain⟨x,e0,⟨hne,hfit⟩,hk⟩:=ab h1
 clear h1
 obtain rfl:=s8 e0
 rw [Bool.and_eq_true] at hne
 have ea:a=sO a.cps.toList:=by cases a;simp
 have eb:b=sO b.cps.toList:=by obtain⟨⟩:=b;simp
 have hpos:methodCallPos true o f.env apos pos=pure pos:=by unfold methodCallPos;simp [hline]
 have hform:methodCallForm ([Expr.Constant (.str a) k1 p1,Expr.Constant (.str b) k2 p2].length+([]:List Keyword).length) (backTo pos (starEach [.Constant (.str a) k1 p1,.Constant (.str b) k2 p2] f.env)) (backToKw pos (keywordEach [] f.env))=true:=rfl
 unfold methodCall
 refine hform▸ ?_
 have ho':RF c.prog c.w gh₁.F ov (.str x):=ho
 refine wpAny_bind (wpAny_standAt (wpAny_bind (wpAny_holding (q0 F.slot_str_replace F.type_str_replace ho' (wpAny_bind (wpAny_of_eq hpos ?_))))))
 refine Calls.callWith_builtin rfl (Calls.evalArgs_plain (Calls.spliced_cons (wpAny_Constant_str (k:=k1) (pos:=p1) (Calls.spliced_cons (wpAny_Constant_str (k:=k2) (pos:=p2) (Calls.spliced_nil ?_))))))
 obtain⟨t,rfl,bx⟩:=ho'.x
 ·have hy:a.cps.toList≠[]:=λe=>by replace hne:=e▸hne;cases hne.1
  have hab:(a==b)=false:=by
   have h2:=hne.2
   rw [cv] at h2
   simp only [Bool.not_eq_true',decide_eq_false_iff_not] at h2
   rw [beq_eq_false_iff_ne]
   intro e;exact h2 (by rw [e])
  have hlx:(ba a.cps.toList b.cps.toList 0 x).length≤16777216:=by
   have h1:=xy a.cps.toList b.cps.toList x 0
   have h2:x.length*(b.cps.toList.length+1)≤x.length*14:=Nat.mul_le_mul_left _ (by refine Array.length_toList▸ ?_;lia)
   lia
  show wpAny _ _ (PySem.call (.builtin "str.replace") [.str (sO x) t,.str a s₁.toks,.str b (s₁.toks+1)]) _ _ _
  have r2:=r₁.tok2
  have x2:=a8.toks (L:=f.L) (g:=gh₁) (s:=s₁) false (s₁.toks+1+1)
  refine aV r2.tk (SC.replaceW (by have:=r₁.tk;show s₁.toks≠0;lia) (Nat.succ_ne_zero _) (Nat.ne_of_lt (Nat.lt_succ_self _)) hab (by rw [bT];exact hfit) (Nat.le_of_lt hz) λt' tk ht=> ?_)
  have e:Txt.replace (sO x) a b=sO (ba a.cps.toList b.cps.toList 0 x):=by
   have:=Bq x a.cps.toList b.cps.toList hy
   rw [←ea, ←eb] at this
   exact this
  refine e▸ ?_
  exact hp gh₁ σ₁ _ _ (.c (.str _)) ((x₁.trans r r₁ x2).trans r r2 (.toks false tk)) (r2.toks ht) (fA (.str _ t' hlx)) hk
end
end Mine.A
namespace Mine.A
section
variable {c:Cx} {g:G} {K:Frag} {p:CP} {loose:List PySem.Str} {mg mb:PySem.Str->Option Value} {f:Fm} {d:Nat} {gh:Gh} {L:Addr} {σ:St} {s:Shared}
theorem bv.last{prog:Program}{w:World}{F:Addr->Option Obj}{vs:List Value}{l:List FV}{x:FV}(h:bv prog w F vs l)(e:l.getLast?=some x):∃v,vs[vs.length-1]? =some v∧RF prog w F v x∧bv prog w F vs.dropLast l.dropLast:=by
 rw [List.getLast?_eq_getElem?] at e
 have hl:=h.len
 obtain⟨v,e1,e2⟩:=h.get? e
 refine⟨v,by rw [hl];exact e1,e2, ?_⟩
 rw [List.dropLast_eq_take,List.dropLast_eq_take,hl]
 exact bv.take _ h
theorem yb{A:Around}{i:Nat}{a:Addr}{ft:List Addr}{l1:List FV}{v:Value}{fv:FV}{k:V->St->Prop}{Q:Value->Shared->Prop}(r:al c gh L σ s)(e:gh.φ i=some (a,ft))(q:lk i σ.H=some (.lst l1))(rf:RF c.prog c.w gh.F v fv)(hle:l1.length+1≤16777216)
  (hk:k (.c .non) (aR σ (put i (.lst (l1++[fv])) σ.H))) (hp:cN c L gh s k Q):wpAny (model c.prog c.w) A (PySem.call (.builtin (s0 0)) [.ref a,v]) Q bM s:=by
 obtain⟨hft,o,ws,h1,⟨m,rfl⟩,h3,h4⟩:=r.ob e q
 refine wpAny_list_append_plain (items:=ws.toArray) ⟨m,h1⟩ (λh' hl' hs=> ?_) (by rw [List.size_toArray,h3.len,sizeLine_eq];omega)
 obtain⟨m',ho'⟩:=hl'
 obtain⟨r2,x2⟩:=r.setList (l':=l1++[fv]) (vs':=ws++[v]) (tk:=s.toks) r.tk e q hs ho' ⟨m',by simp⟩ (bv.append (.cons rf .nil) h3) (by rw [List.length_append];exact hle)
 exact hp _ _ _ _ (.c .non) x2 r2 (fA .non) hk
theorem ya{A:Around}{i:Nat}{a:Addr}{ft:List Addr}{l:List FV}{x:FV}{k:V->St->Prop}{Q:Value->Shared->Prop}(r:al c gh L σ s)(e:gh.φ i=some (a,ft))(q:lk i σ.H=some (.lst l))(hx:l.getLast?=some x)
  (hk:k (.c x) (aR σ (put i (.lst l.dropLast) σ.H))) (hp:cN c L gh s k Q):wpAny (model c.prog c.w) A (PySem.call (.builtin (s0 1)) [.ref a]) Q bM s:=by
 have ro:=r.ob e q
 obtain⟨hft,o,ws,h1,⟨m,hm⟩,h3,h4⟩:=ro
 subst hm
 obtain⟨v,v1,v2,v3⟩:=h3.last hx
 have hsz:ws.toArray.size≤sizeLine:=by rw [List.size_toArray,h3.len,sizeLine_eq];exact h4
 refine call_meets F.slot_list_pop ⟨_,h1,rfl⟩ F.entry_list_pop (F.args_list_pop_1 _) (MeetsSeq.list_pop_last a ws.toArray m v (by rw [List.size_toArray,List.getElem?_toArray];exact v1) hsz) ⟨h1, ?_⟩
 have hup:(s.heap.update a (Obj.mapSeq λxs=>xs.eraseIdxIfInBounds (ws.toArray.size-1))).get? a=some (Obj.mapSeq (λxs=>xs.eraseIdxIfInBounds (ws.toArray.size-1)) {cls:=.type "list",data:=.seq ws.toArray m}):=Heap.get?_update_self _ h1 rfl
 have hd:ws.toArray.eraseIdxIfInBounds (ws.toArray.size-1)=ws.dropLast.toArray:=by
  rw [List.eraseIdxIfInBounds_toArray,List.size_toArray,List.eraseIdx_length_sub_one]
 obtain⟨r2,x2⟩:=r.setList (l':=l.dropLast) (vs':=ws.dropLast) (tk:=s.toks) r.tk e q (Heap.SameBut.update ..) hup ⟨_,by simp only [Obj.mapSeq,hd];rfl⟩ v3 (by rw [List.length_dropLast];omega)
 exact hp _ _ _ _ (.c x) x2 r2 (fA (RF.mono x2.le.F v2)) hk
theorem uX{A:Around}{i:Nat}{a:Addr}{ft:List Addr}{x:FV}{t:List FV}{tk:Tok}{k:V->St->Prop}{Q:Value->Shared->Prop}(r:al c gh L σ s)(e:gh.φ i=some (a,ft))(q:lk i σ.H=some (.lst (x::t)))
  (h:k (.c x) (aR σ (put i (.lst t) σ.H))) (hp:cN c L gh s k Q):wpAny (model c.prog c.w) A (PySem.call (.builtin (s0 1)) [.ref a,.int 0 tk]) Q bM s:=by
 obtain⟨hft,o,ws,h1,⟨m,hm⟩,h3,h4⟩:=r.ob e q
 obtain⟨v,ws,rfl,v2,v3⟩:=h3.inv
 subst hm
 have hl:=v3.len
 have hsz:(v::ws).toArray.size≤sizeLine:=by rw [List.size_toArray,sizeLine_eq,List.length_cons,hl];exact h4
 refine call_meets F.slot_list_pop ⟨_,h1,rfl⟩ F.entry_list_pop (F.args_list_pop_2 _ _) (MeetsSeq.list_pop_at a (v::ws).toArray m 0 _ 0 v (by decide) (by simp [seqIndex?]) (by simp) hsz) ⟨h1, ?_⟩
 have hup:(s.heap.update a (Obj.mapSeq λxs=>xs.eraseIdxIfInBounds 0)).get? a=some (Obj.mapSeq (λxs=>xs.eraseIdxIfInBounds 0) {cls:=.type "list",data:=.seq (v::ws).toArray m}):=Heap.get?_update_self _ h1 rfl
 have hd:(v::ws).toArray.eraseIdxIfInBounds 0=ws.toArray:=by
  rw [List.eraseIdxIfInBounds_toArray];rfl
 obtain⟨r2,x2⟩:=r.setList (l':=t) (vs':=ws) (tk:=s.toks) r.tk e q (Heap.SameBut.update ..) hup ⟨_,by simp only [Obj.mapSeq,hd];rfl⟩ v3 (by rw [List.length_cons] at h4;omega)
 exact hp _ _ _ _ (.c x) x2 r2 (fA (RF.mono x2.le.F v2)) h
theorem B2:AG c L:=by
 intro n gh σ s A k Q i a ft l vs xs hn r e q hvs h hp
 rcases Nat.eq_or_lt_of_le hn with rfl|hn
 ·induction xs using List.casesOn with
  |nil=>
   obtain⟨x,hx,hk⟩:=ab h
   obtain rfl:=hvs.inv
   exact ya r e q hx hk hp
  |cons y ys=>
   obtain⟨x,hx,h1⟩:=ab (o:=o1 (y::ys)) h
   obtain⟨v,rfl,ha⟩:=hvs.one hx
   obtain⟨f,ef,h2⟩:=ab h1
   obtain⟨j,ej,h3⟩:=ab h2
   obtain rfl:=mh ef
   obtain⟨t,rfl⟩:=RF.aI ha ej
   obtain⟨hj,h3⟩:=sX h3
   obtain rfl:=of_decide_eq_true hj
   induction l using List.casesOn with
   |nil=>exact h3.elim
   |cons x t=>exact uX r e q h3 hp
 ·obtain rfl:=Nat.le_zero.mp (Nat.le_of_lt_succ hn)
  obtain⟨x,hx,h1⟩:=ab h
  obtain⟨p,hf,h2⟩:=ab h1
  obtain⟨v,rfl,ha⟩:=hvs.one hx
  obtain⟨g1,x1,r1,rf⟩:=eM r ha hf
  obtain⟨ft1,e1⟩:=x1.le.f e
  obtain⟨l1,q1,hle,hk⟩:=ab h2
  exact yb r1 e1 (pL q1) rf hle hk λgh' Z' s' v y x' r' hv hk=>hp gh' Z' s' v y (x1.trans r r1 x') r' hv hk
end
end Mine.A
namespace Mine.A
theorem nP{prog:Program}{w:World}{A:Around}{R:Result->Shared->Prop}{s:Shared}{test:Expr}{body:List Stmt}{env:Env}
  (h:wpAny (model prog w) A (isTrue test env (eval test env)) (λb s₂=>
    if b then wpAny (model prog w) A (execs body env) (λf s₃=>match f with
      | .next| .cont=>codeAny (model prog w) A (.whileLoop test body [] env) R s₃
      | .brk=>R (.ok .next) s₃
      | .ret v=>R (.ok (.ret v)) s₃) bM s₂
    else R (.ok .next) s₂) bM s):codeAny (model prog w) A (.whileLoop test body [] env) R s:=by
 refine codeAny_of_tree ?_
 show wpAny _ A ((whileTurn test body [] env).onRaise (λx=>do noteFrame x env;theTreesLotGoes x)) _ _ s
 refine wpAny_noted ?_
 simp only [whileTurn]
 refine wpAny_bind (wpAny_mono h (λb s₂ h₂=> ?_) λ_ _ h'=>h'.elim)
 induction b using Bool.casesOn with
 |false=>
  simp only [Bool.false_eq_true,if_false] at h₂⊢
  exact wpAny_bind (wpAny_execs_nil (wpAny_pure h₂))
 |true=>
  simp only [if_true] at h₂⊢
  refine wpAny_bind (wpAny_mono h₂ (λf s₃ h₃=> ?_) λ_ _ h'=>h'.elim)
  cases f with
  |next=>exact wpAny_pure ⟨rfl,h₃⟩
  |cont=>exact wpAny_pure ⟨rfl,h₃⟩
  |brk=>exact wpAny_pure h₃
  |ret v=>exact wpAny_pure h₃
theorem hV{prog:Program}{w:World}{A:Around}{R:Result->Shared->Prop}{s:Shared}{target:Expr}{it:Value}{body:List Stmt}{env:Env}
  (h:wpAny (model prog w) A (pyNext it) (λr s₁=>match r with
   |none=>R (.ok .next) s₁
   |some v=>wpAny (model prog w) A (letOwnedTupleGo target it v) (λ_ s1'=>
     wpAny (model prog w) A (assign target env v) (λ_ s₂=>wpAny (model prog w) A (execs body env) (λf s₃=>match f with
      | .next| .cont=>codeAny (model prog w) A (.forLoop target it body [] env) R s₃
      | .brk=>R (.ok .next) s₃
      | .ret v=>R (.ok (.ret v)) s₃) bM s₂) bM s1') bM s₁) bM s):codeAny (model prog w) A (.forLoop target it body [] env) R s:=by
 refine codeAny_of_tree ?_
 show wpAny _ A ((forTurn target it body [] env).onRaise (λx=>do noteFrame x env;theTreesLotGoes x)) _ _ s
 refine wpAny_noted ?_
 simp only [forTurn]
 refine wpAny_bind (wpAny_standAt (wpAny_bind (wpAny_onRaise (wpAny_mono h (λr s₁ h₁=> ?_) λ_ _ h'=>h'.elim))))
 induction r using Option.casesOn with
 |none=>exact wpAny_pure ⟨rfl,codeAny_block (wpAny_execs_nil h₁)⟩
 |some v=>
  refine wpAny_bind (wpAny_mono h₁ (λ_ s1' h₁'=> ?_) λ_ _ h'=>h'.elim)
  refine wpAny_bind (wpAny_mono h₁' (λ_ s₂ h₂=>wpAny_bind (wpAny_mono h₂ (λf s₃ h₃=> ?_) λ_ _ h'=>h'.elim)) λ_ _ h'=>h'.elim)
  cases f with
  |next=>exact wpAny_pure ⟨rfl,h₃⟩
  |cont=>exact wpAny_pure ⟨rfl,h₃⟩
  |brk=>exact wpAny_pure h₃
  |ret v=>exact wpAny_pure h₃
section
variable {c:Cx} {g:G} {K:Frag} {p:CP} {loose:List PySem.Str} {mg mb:PySem.Str->Option Value} {f:Fm} {d:Nat}
theorem H0{lb:Nat}{x:X}{b:S}{e:Expr}{body:List Stmt}{pos:Pos}(ht:ST c g f d x e)(hb:SB c g f d b body):SS c g f d (.wh lb x b) (.While e body [] pos):=by
 intro gh σ s A k Q r rm hev hp
 refine wpAny_While ?_
 have key:=hev (λZ'=>∀gh' s',a8 false f.L gh s gh' s'->al c gh' f.L Z' s'->codeAny (model c.prog c.w) A (.whileLoop e body [] f.env) (λr s'=>match r with| .ok f=>Q f s'| .error e=>cameBackBy (model c.prog c.w) A f.env bM e s') s')
  λZ' hst gh' s' x' r'=>by
   refine nP (ht gh' Z' s' A (λt σ=>br t (ex g b σ (IB _ k)) (k .nxt σ)) _ r' rm hst λgh₁ σ₁ s₁ t x₁ r₁ hk=> ?_)
   have hk:=pG hk
   induction t using Bool.casesOn with
   |false=>
    simp only [Bool.false_eq_true,if_false] at hk⊢
    exact hp gh₁ σ₁ s₁ .next .nxt (x'.trans r r' x₁) r₁ rfl hk
   |true=>
    simp only [if_true] at hk⊢
    refine hb gh₁ σ₁ s₁ A _ _ r₁ rm hk λgh₂ σ₂ s₂ u y x₂ r₂ hu hk=> ?_
    have x02:=(x'.trans r r' x₁).trans r r₁ x₂
    induction y using Fl.casesOn with
    |nxt=>obtain rfl:=hu;exact hk gh₂ s₂ x02 r₂
    |cnt=>obtain rfl:=hu;exact hk gh₂ s₂ x02 r₂
    |brk=>obtain rfl:=hu;exact hp gh₂ σ₂ s₂ .next .nxt x02 r₂ rfl hk
    |ret a=>obtain⟨v,rfl,hu⟩:=hu;exact hp gh₂ σ₂ s₂ (.ret v) (.ret a) x02 r₂ ⟨v,rfl,hu⟩ hk
 exact key gh s (.refl _ _ _ _) r
end
end Mine.A
namespace Mine.A
structure Ll (c:Cx) (A:Around) (F:Addr->Option Obj) (I:Addr) (fp wr:List Addr) (items:List FV) (St:Nat->Heap->Prop):Prop where
 W:∃P,Walks c.prog c.w A I fp wr items.length P St∧∀i v,P i v->∃x,items[i]? =some x∧RF c.prog c.w F v x
 live:∀i h,St i h->∀b∈fp,∃o,h.get? b=some o
structure hZ (g:Gh) (L:Addr) (fp wr:List Addr):Prop where
 fp:∀b∈fp,b≠L∧¬bZ g b
 wr:∀b∈wr,g.F b=none
section
variable {c:Cx} {g:G} {K:Frag} {p:CP} {loose:List PySem.Str} {mg mb:PySem.Str->Option Value} {f:Fm} {d:Nat} {gh:Gh} {L:Addr} {σ:St} {s:Shared}
theorem al.turn(r:al c gh L σ s){h':Heap}{tk:Nat}(ht:0<tk){fp wr:List Addr}(u:hZ gh L fp wr)(hsub:∀b∈wr,b∈fp)(hk:∀b o,b∉wr->s.heap.get? b=some o->h'.get? b=some o):al c gh L σ {s with heap:=h',toks:=tk}:=by
 have nw:∀x o,gh.F x=some o->x∉wr:=λx o e hx=>by rw [u.wr x hx] at e;exact ax e
 refine⟨λx o₁ e=>hk x o₁ (nw x o₁ e) (r.frz x o₁ e),λj o₁ hj=> ?_,r.sep,λx hx=> ?_,r.nL, ?_,r.new,r.m64,r.dom,r.base,r.Lb,ht⟩
 ·obtain⟨b,fb,e,ro⟩:=r.obs j o₁ hj
  exact⟨b,fb,e,ro.step (.refl _ _) λx hx o e'=>hk x o (λhw=>(u.fp x (hsub x hw)).2 ⟨j,b,fb,e,hx⟩) e'⟩
 ·obtain⟨a,v,o₁,w⟩:=r.off x hx
  exact⟨a,v,o₁,hk x o₁ (λhw=>(u.fp x (hsub x hw)).2 hx) w⟩
 ·obtain⟨m,N,hm⟩:=r.loc
  exact⟨m,eh (λo₁ e=>hk _ _ (λhw=>(u.fp L (hsub L hw)).1 rfl) e) N,hm⟩
theorem a8.turn{b:Bool}{g₀ g₁:Gh}{s0 s₁:Shared}(x:a8 b L g₀ s0 g₁ s₁){h':Heap}{tk:Nat}{wr:List Addr}(hw:∀b∈wr,s0.heap.get? b=none)(hk:∀b o,b∉wr->s₁.heap.get? b=some o->h'.get? b=some o):
  a8 b L g₀ s0 g₁ {s₁ with heap:=h',toks:=tk}:=
 ⟨x.le,λy o e hl hn=>hk y o (λq=>by rw [hw y q] at e;exact ax e) (x.keep y o e hl hn),x.fp,x.fF,x.gens,x.os,x.drawn⟩
theorem hZ.ext{b:Bool}{g₀ g₁:Gh}{s0 s₁:Shared}{fp wr:List Addr}(u:hZ g₀ L fp wr)(x:a8 b L g₀ s0 g₁ s₁)(hsub:∀b∈wr,b∈fp)(hl:∀b∈fp,∃o,s0.heap.get? b=some o):hZ g₁ L fp wr:=by
 have nf:∀b∈fp,¬bZ g₁ b:=λb hb h=>by
  rcases x.fp b h with z|z
  ·exact(u.fp b hb).2 z
  ·obtain⟨o,e⟩:=hl b hb;rw [z] at e;exact ax e
 refine⟨λb hb=>⟨(u.fp b hb).1,nf b hb⟩,λb hb=> ?_⟩
 cases q:g₁.F b with
 |none=>rfl
 |some o=>
  rcases x.fF b o q with z|z|z
  ·rw [u.wr b hb] at z;exact ax z
  ·exact((u.fp b (hsub b hb)).2 z).elim
  ·obtain⟨o,e⟩:=hl b (hsub b hb);rw [z] at e;exact ax e
theorem al.fresh(r:al c gh L σ s):gh.F s.heap.objs.size=none∧s.heap.objs.size≠L∧¬bZ gh s.heap.objs.size:=r.free (aE (Nat.le_refl _))
theorem al.closed(r:al c gh L σ s){a:Addr}{o:Obj}(e:gh.F a=some o):a≠L∧¬bZ gh a:=
 ⟨λz=>(by rw [z,r.nL] at e;exact ax e),λz=>(by have h:=(r.off a z).1;rw [e] at h;cases h)⟩
noncomputable def cu(c:Cx)(A:Around)(L:Addr)(gh:Gh)(s:Shared)(l:List FV)(Z':St)(Q:Value->Shared->Prop):Prop:=
 ∀gh' s' I fp wr St,a8 false L gh s gh' s'->al c gh' L Z' s'->Ll c A gh'.F I fp wr l St->hZ gh' L fp wr->(∀b∈wr,b∈fp)->(∀b∈wr,s.heap.get? b=none)->(∀x o,s.heap.get? x=some o->s'.heap.get? x=some o)->St 0 s'.heap->Q (.ref I) s'
theorem nc{A:Around}{a:Addr}{o no:Obj}{vs:List Value}{l:List FV}{Q:Value->Shared->Prop}{St:Nat->Heap->Prop}(r:al c gh L σ s)(e:gh.F a=some o)(rf:bv c.prog c.w gh.F vs l)
  (W:Walks c.prog c.w A s.heap.objs.size [s.heap.objs.size,a] [s.heap.objs.size] vs.toArray.size (λi v=>vs.toArray[i]? =some v) St) (hSt:∀i h,St i h->(∃o,h.get? s.heap.objs.size=some o)∧∃o,h.get? a=some o) (h0:St 0 (s.heap.push no)) (hQ:cu c A L gh s l σ Q):
  Q (.ref s.heap.objs.size) {s with heap:=s.heap.push no}:=by
 have hs0:s.heap.get? s.heap.objs.size=none:=aE (Nat.le_refl _)
 obtain⟨f1,f2⟩:=r.free hs0
 rw [show vs.toArray.size=l.length from rf.len] at W
 refine hQ gh _ s.heap.objs.size [s.heap.objs.size,a] [s.heap.objs.size] _ (.push _) (r.push _) ⟨⟨_,W,λi v hi=> ?_⟩,λi h st b hb=> ?_⟩ ⟨λb hb=> ?_,λb hb=> ?_⟩ (λb hb=> ?_) (λb hb=> ?_) (λ_ _ e=>Heap.get?_push_of_some _ e) h0
 ·rw [List.getElem?_toArray] at hi
  have hlt:i<l.length:=by
   rcases Nat.lt_or_ge i vs.length with z|z
   ·rw [←rf.len];exact z
   ·rw [List.getElem?_eq_none z] at hi;exact ax hi
  obtain⟨v',e1,e2⟩:=rf.get? (List.getElem?_eq_getElem hlt)
  rw [hi] at e1;obtain rfl:=Option.some.inj e1
  exact⟨_,List.getElem?_eq_getElem hlt,e2⟩
 ·rcases List.mem_cons.mp hb with rfl|hb
  ·exact(hSt i h st).1
  ·rw [List.mem_singleton.mp hb];exact(hSt i h st).2
 ·rcases List.mem_cons.mp hb with rfl|hb
  ·exact f2
  ·rw [List.mem_singleton.mp hb];exact r.closed e
 ·rw [List.mem_singleton.mp hb];exact f1
 ·rw [List.mem_singleton.mp hb];exact .head _
 ·rw [List.mem_singleton.mp hb];exact hs0
theorem al.ne0(r:al c gh L σ s){a:Addr}{o:Obj}(e:gh.F a=some o):a≠s.heap.objs.size:=λz=>by have:=r.frz _ _ e;rw [z,aE (Nat.le_refl _)] at this;exact ax this
theorem sr{A:Around}{a:Addr}{o:Obj}{vs:List Value}{l:List FV}{Q:Value->Shared->Prop}(r:al c gh L σ s)(hA:A.handled=none)(e:gh.F a=some o)(q:cQ "list" o vs)(rf:bv c.prog c.w gh.F vs l)(hQ:cu c A L gh s l σ Q):
  wpAny (model c.prog c.w) A (pyIter (.ref a)) Q bM s:=by
 have hl:=q.list (r.frz _ _ e)
 exact wpAny_pyIter_list hl (nc r e rf (Walks.list hA s.heap.objs.size a (r.ne0 e) vs.toArray) (λi h st=>⟨st.1.elim λo z=>⟨o,z.1⟩,st.2.elim λo z=>⟨o,z.1⟩⟩) ⟨⟨_,Heap.get?_push_size _ rfl,rfl,rfl⟩,hl.push _⟩ hQ)
theorem oO{A:Around}{a:Addr}{o:Obj}{vs:List Value}{l:List FV}{Q:Value->Shared->Prop}(r:al c gh L σ s)(hA:A.handled=none)(e:gh.F a=some o)(q:cQ "tuple" o vs)(rf:bv c.prog c.w gh.F vs l)(hQ:cu c A L gh s l σ Q):
  wpAny (model c.prog c.w) A (pyIter (.ref a)) Q bM s:=by
 have hl:=q.tuple (r.frz _ _ e)
 exact wpAny_pyIter_tuple hl (nc r e rf (Walks.tuple hA s.heap.objs.size a (r.ne0 e) vs.toArray) (λi h st=>⟨st.1.elim λo z=>⟨o,z.1⟩,st.2.elim λo z=>⟨o,z.1⟩⟩) ⟨⟨_,Heap.get?_push_size _ rfl,rfl,rfl⟩,hl.elim λo z=>⟨o,Heap.get?_push_of_some _ z.1,z.2⟩⟩ hQ)
theorem ve{A:Around}{x:List Nat}{t:Tok}{Q:Value->Shared->Prop}(r:al c gh L σ s)(hA:A.handled=none)(hQ:cu c A L gh s (x.map λy=>.str [y]) σ Q):
  wpAny (model c.prog c.w) A (pyIter (.str ⟨x.toArray⟩ t)) Q bM s:=by
 have hs0:s.heap.get? s.heap.objs.size=none:=aE (Nat.le_refl _)
 obtain⟨f1,f2,f3⟩:=r.fresh
 have hsz:(⟨x.toArray⟩:PySem.Str).cps.size=(x.map λy=>FV.str [y]).length:=by show x.toArray.size=_;simp
 have sgn:∀i v,SignAt ⟨x.toArray⟩ i v->∃y,(x.map λy=>FV.str [y])[i]? =some y∧RF c.prog c.w gh.F v y:=λi v h=>by
  obtain⟨ch,u,h1,h2⟩:=h
  have h1:x.toArray[i]? =some ch:=h1
  rw [List.getElem?_toArray] at h1
  subst h2
  exact⟨.str [ch],by rw [List.getElem?_map,h1];rfl,.str [ch] u (by simp)⟩
 have go:∀(T:String),(∀A':Around,A'.handled=none->Walks c.prog c.w A' s.heap.objs.size [s.heap.objs.size] [s.heap.objs.size] (⟨x.toArray⟩:PySem.Str).cps.size (SignAt ⟨x.toArray⟩) (λi h=>h.IsStrIter s.heap.objs.size T ⟨x.toArray⟩ t i))->
   Q (.ref s.heap.objs.size) {s with heap:=s.heap.push {cls:=.type T,data:=.fields #[.str ⟨x.toArray⟩ t,.int 0 0]}}:=λT W=>by
  have W:=W A hA
  rw [hsz] at W
  refine hQ gh _ s.heap.objs.size [s.heap.objs.size] [s.heap.objs.size] _ (.push _) (r.push _) ⟨⟨_,W,sgn⟩,λi h st b hb=> ?_⟩ ⟨λb hb=> ?_,λb hb=> ?_⟩ (λb hb=>hb) (λb hb=> ?_) (λ_ _ e=>Heap.get?_push_of_some _ e) ⟨_,Heap.get?_push_size _ rfl,rfl,rfl⟩
  ·rw [List.mem_singleton.mp hb];obtain⟨o,z,_⟩:=st;exact⟨o,z⟩
  ·rw [List.mem_singleton.mp hb];exact⟨f2,f3⟩
  ·rw [List.mem_singleton.mp hb];exact f1
  ·rw [List.mem_singleton.mp hb];exact hs0
 cases ha:(⟨x.toArray⟩:PySem.Str).cps.all (· <128)
 ·exact wpAny_pyIter_wide ha (go _ λA' hA'=>Walks.strWide hA' _ _ _)
 ·exact wpAny_pyIter_ascii ha (go _ λA' hA'=>Walks.strAscii hA' _ _ _)
theorem cu.after{A:Around}{gh':Gh}{l:List FV}{Z':St}{Q:Value->Shared->Prop}(r:al c gh L σ s)(r':al c gh' L Z' s)(x:a8 false L gh s gh' s)(h:cu c A L gh s l Z' Q):cu c A L gh' s l Z' Q:=
 λg2 s2 I fp wr St x2 r2 i u su hw hk st=>h g2 s2 I fp wr St (x.trans r r' x2) r2 i u su hw hk st
theorem fU{A:Around}{v:Value}{fv:FV}{l:List FV}{Q:Value->Shared->Prop}(r:al c gh L σ s)(hA:A.handled=none)(rf:RF c.prog c.w gh.F v fv)(e:J5 fv=some l)(hQ:cu c A L gh s l σ Q):wpAny (model c.prog c.w) A (pyIter v) Q bM s:=by
 induction fv using FV.casesOn with
 |str x=>obtain⟨t,rfl,b⟩:=rf.x;obtain rfl:=Option.some.inj e;exact ve r hA hQ
 |tup l=>obtain⟨a,vs,o,rfl,e',q,rr,b⟩:=rf.x;obtain rfl:=Option.some.inj e;exact oO r hA e' q rr hQ
 |lst l=>obtain⟨a,vs,o,rfl,e',q,rr,b⟩:=rf.x;obtain rfl:=Option.some.inj e;exact sr r hA e' q rr hQ
 |_=>cases e
theorem qv{A:Around}{v:Value}{x:V}{p:List FV×St}{Q:Value->Shared->Prop}(r:al c gh L σ s)(hA:A.handled=none)(hv:RV c.prog c.w gh v x)(h:vd x σ=some p)(hQ:cu c A L gh s p.1 p.2 Q):
  wpAny (model c.prog c.w) A (pyIter v) Q bM s:=by
 induction x using V.casesOn with
 |c fv=>obtain⟨l0,e1,rfl⟩:=cm h;exact fU r hA hv e1 hQ
 |ob i=>
  obtain⟨a,ft,e,rfl⟩:=hv
  obtain⟨o,q,h1⟩:=aw h
  have ro:=r.ob e q
  induction o using AO.casesOn with
  |lst l'=>
   obtain rfl:=Option.some.inj h1
   obtain⟨rfl,o,vs,h1,h2,h3,h4⟩:=ro
   obtain⟨g',r',x',rf⟩:=r.freeze (f:=.lst l') e h1 λg' le hF=>.lst hF h2 (bv.mono le.F h3) h4
   exact fU r' hA rf rfl (hQ.after r r' x')
  |frz f=>obtain⟨l0,e1,rfl⟩:=cm h1;exact fU r hA ro.2 e1 hQ
  |_=>exact ax h1
 |_=>exact ax h
theorem q8{A:Around}{x:S}{body:List Stmt}{target:Expr}{tk:FV->List (Nat×V)->Option (List (Nat×V))}{k:Fl->St->Prop}{Q:Flow->Shared->Prop}{R:Result->Shared->Prop}{I:Addr}{fp wr:List Addr}{items:List FV}{St0:Nat->Heap->Prop}{F₀:Addr->Option Obj}
  (rm:bG d A) (hb:SB c g f d x body) (r₀:al c gh f.L σ s) (hp:gC c f.L gh s k Q) (hR:∀fl s',Q fl s'->R (.ok fl) s') (it:Ll c A F₀ I fp wr items St0) (hsub:∀b∈wr,b∈fp) (hw:∀b∈wr,s.heap.get? b=none)
  (hgo:∀v,letOwnedTupleGo target (.ref I) v=pure ())
  (hasg:∀gh σ s v y L' (Q':Unit->Shared->Prop),al c gh f.L σ s->RF c.prog c.w gh.F v y->tk y σ.L=some L'->(∀s',a8 false f.L gh s gh s'->al c gh f.L (cj σ L') s'->Q' () s')->wpAny (model c.prog c.w) A (assign target f.env v) Q' bM s):
  ∀(rest:List FV) (i:Nat),items.drop i=rest->i≤items.length->∀gh₁ σ₁ s₁,a8 false f.L gh s gh₁ s₁->al c gh₁ f.L σ₁ s₁->Sub F₀ gh₁.F->hZ gh₁ f.L fp wr->St0 i s₁.heap->dM (ex g x) tk rest σ₁ k->codeAny (model c.prog c.w) A (.forLoop target (.ref I) body [] f.env) R s₁:=by
 obtain⟨P,W,hP⟩:=it.W
 intro rest
 induction rest with
 |nil=>
  intro i hi hle gh₁ σ₁ s₁ x₁ r₁ hF u st hk
  have hn:i=items.length:=by
   have:=congrArg List.length hi
   rw [List.length_drop] at this;simp at this;lia
  subst hn
  refine hV (aV r₁.tk (W.done s₁ _ _ st λh' tk' hk' ht=> ?_))
  exact hR _ _ (hp gh₁ σ₁ _ .next .nxt (x₁.turn hw hk') (r₁.turn ht u hsub hk') rfl hk)
 |cons y rest ih=>
  intro i hi hle gh₁ σ₁ s₁ x₁ r₁ hF u st hk
  have hlt:i<items.length:=by
   have:=congrArg List.length hi
   rw [List.length_drop] at this;simp at this;lia
  have hy:items[i]? =some y:=by
   rw [List.drop_eq_getElem_cons hlt] at hi
   rw [List.getElem?_eq_getElem hlt,(List.cons.inj hi).1]
  have hrest:items.drop (i+1)=rest:=by
   rw [List.drop_eq_getElem_cons hlt] at hi
   exact(List.cons.inj hi).2
  refine hV (aV r₁.tk (W.item i s₁ _ _ hlt st λv h' tk' hpv st' hk' ht=> ?_))
  obtain⟨y',e1,rf⟩:=hP i v hpv
  rw [hy] at e1;obtain rfl:=Option.some.inj e1
  have r2:=r₁.turn ht u hsub hk'
  have x2:=x₁.turn (tk:=tk') hw hk'
  dsimp only
  refine wpAny_of_eq (hgo v) ?_
  obtain⟨L',hL',hk⟩:=ab hk
  refine hasg gh₁ σ₁ _ v y L' _ r2 (RF.mono hF rf) hL' λs3 x3 r3=> ?_
  refine hb gh₁ _ s3 A _ _ r3 rm hk λgh₄ Z4 s₄ a z x₄ r₄ hl hk=> ?_
  have x34:=x3.trans r2 r3 x₄
  have x14:=x2.trans r₀ r2 x34
  have again:dM (ex g x) tk rest Z4 k->codeAny (model c.prog c.w) A (.forLoop target (.ref I) body [] f.env) R s₄:=λhk=>by
   refine ih (i+1) hrest hlt gh₄ Z4 s₄ x14 r₄ (λa o e=>x34.le.F a o (hF a o e)) (u.ext x34 hsub (it.live _ _ st')) ?_ hk
   refine W.frame (i+1) _ _ st' λb hb o e=>x34.keep b o e (u.fp b hb).1 (u.fp b hb).2
  induction z using Fl.casesOn with
  |nxt=>obtain rfl:=hl;exact again hk
  |cnt=>obtain rfl:=hl;exact again hk
  |brk=>obtain rfl:=hl;exact hR _ _ (hp gh₄ Z4 s₄ .next .nxt x14 r₄ rfl hk)
  |ret b=>obtain⟨w,rfl,hl⟩:=hl;exact hR _ _ (hp gh₄ Z4 s₄ (.ret w) (.ret b) x14 r₄ ⟨w,rfl,hl⟩ hk)
end
end Mine.A
namespace Mine.A
section
variable {c:Cx} {g:G} {K:Frag} {p:CP} {loose:List PySem.Str} {mg mb:PySem.Str->Option Value} {f:Fm} {d:Nat} {gh:Gh} {L:Addr} {σ:St} {s:Shared}
theorem jV(Y:Ctx c K p loose mg mb){A:Around}{x:PySem.Str}{n:Nat}{pos:Pos}(hl:bu f.cs x=true)(hc:p.code x=some n):
  ∀gh σ s v y L' (Q':Unit->Shared->Prop),al c gh f.L σ s->RF c.prog c.w gh.F v y->dZ [n] y σ.L=some L'->(∀s',a8 false f.L gh s gh s'->al c gh f.L (cj σ L') s'->Q' () s')->wpAny (model c.prog c.w) A (assign (.Name x pos) f.env v) Q' bM s:=by
 intro gh σ s v y L' Q' r rf hL hQ
 have hL:some (put n (.c y) σ.L)=some L':=hL
 obtain rfl:=Option.some.inj hL
 exact PyProof.Rows.assign_Name (dI Y hl hc r (fA rf) λs1 x1 r1=>hQ s1 x1 r1)
noncomputable def pP(c:Cx)(g:G)(f:Fm)(d:Nat)(lb:Nat)(target:Expr)(body:List Stmt):Prop:=
 ∀gh σ s A k Q v x,al c gh f.L σ s->bG d A->RV c.prog c.w gh v x->g.loop lb [x] σ k->gC c f.L gh s k Q->
  wpAny (model c.prog c.w) A (pyIter v) (λit s₂=>codeAny (model c.prog c.w) A (.forLoop target it body [] f.env) (λr s'=>match r with| .ok f=>Q f s'| .error e=>cameBackBy (model c.prog c.w) A f.env bM e s') s₂) bM s
theorem lH{it:Expr}(h:jJ it=false)(env:Env)(x:Value):foldedSetIterable it env x=pure x:=by
 obtain⟨⟩:=it<;>first|rfl|cases h
theorem AD(Y:Ctx c K p loose mg mb){lb n:Nat}{x:X}{b:S}{it:Expr}{nm:PySem.Str}{body:List Stmt}{pos pos':Pos}(hset:jJ it=false)(hl:bu f.cs nm=true)(hc:p.code nm=some n)(hx:SE c g f d x it)(hb:SB c g f d b body)
  (hgen:pP c g f d lb (.Name nm pos') body):SS c g f d (.fr lb [n] x b) (.For (.Name nm pos') it body [] pos):=by
 intro gh σ s A k Q r rm hev hp
 refine wpAny_For (hx gh σ s A _ _ r rm hev λgh₁ σ₁ s₁ v a x₁ r₁ hv hk=> ?_) (lH hset _)
 have hp1:gC c f.L gh₁ s₁ k Q:=λgh₂ σ₂ s₂ u w x₂ r₂ hu hk=>hp gh₂ σ₂ s₂ u w (x₁.trans r r₁ x₂) r₂ hu hk
 have hk:Option.rec (g.loop lb [a] σ₁ k) (λp=>dM (ex g b) (dZ [n]) p.1 p.2 k) (vd a σ₁):=hk
 cases hi:vd a σ₁ with
 |none=>rw [hi] at hk;exact hgen gh₁ σ₁ s₁ A k Q v a r₁ rm hv hk hp1
 |some q=>
  rw [hi] at hk
  refine qv r₁ rm.hd hv hi λgh₂ s₂ I fp wr St x₂ r₂ ii u su hw _ st=> ?_
  exact q8 rm hb r₁ (R:=λr s'=>match r with| .ok f=>Q f s'| .error e=>cameBackBy (model c.prog c.w) A f.env bM e s') hp1 (λ_ _ h=>h) ii su hw (λ_=>rfl) (jV Y hl hc) q.1 0 rfl (Nat.zero_le _) gh₂ q.2 s₂ x₂ r₂ (λ_ _ e=>e) u st hk
theorem rQ{a b:Int}(h1: -1000000≤a)(h2:a≤1000000)(h3: -1000000≤b)(h4:b≤1000000):Builtin.Range.small a b 1=true∧Builtin.Range.rangeSize a b 1=((b-a).toNat:Int):=by
 have hs:Builtin.Range.rangeSize a b 1=((b-a).toNat:Int):=by
  unfold Builtin.Range.rangeSize
  simp only [show((1:Int)>0)=True from by simp,if_true]
  by_cases h:a<b
  ·rw [if_pos h,Int.ediv_one];lia
  ·rw [if_neg h];lia
 have fl:∀i:Int, -3000000≤i->i≤3000000->Builtin.Range.rangeFitsLong i=true:=λi h h'=>by
  unfold Builtin.Range.rangeFitsLong
  rw [Bool.and_eq_true,decide_eq_true_eq,decide_eq_true_eq];lia
 refine⟨?_,hs⟩
 unfold Builtin.Range.small
 rw [hs,fl a (by lia) (by lia),fl b (by lia) (by lia),fl 1 (by lia) (by lia),fl ((b-a).toNat:Int) (by lia) (by lia)]
 simp only [show((1:Int)>0)=True from by simp,if_true,fl (b+(1-1)) (by lia) (by lia)]
 simp
theorem oP{A:Around}{a b:Int}{rg:Addr}{t u v:Tok}{Q:Value->Shared->Prop}(r:al c gh L σ s)(hA:A.handled=none)(h:(-1000000≤a∧a≤1000000)∧(-1000000≤b∧b≤1000000))(hr:IsRange s.heap rg a b 1 t u v)
  (hQ:cu c A L gh s (kZ a (b-a).toNat) σ Q):wpAny (model c.prog c.w) A (pyIter (.ref rg)) Q bM s:=by
 obtain⟨⟨h1,h2⟩,h3,h4⟩:=h
 obtain⟨hs,hz⟩:=rQ h1 h2 h3 h4
 have hs0:s.heap.get? s.heap.objs.size=none:=aE (Nat.le_refl _)
 obtain⟨f1,f2,f3⟩:=r.fresh
 have W:=Walks.range (prog:=c.prog) (w:=c.w) hA s.heap.objs.size a 1 (b-a).toNat
 have hlen:(kZ a (b-a).toNat).length=(b-a).toNat:=by simp [kZ]
 rw [←hlen] at W
 have hget:∀i,i<(b-a).toNat->(kZ a (b-a).toNat)[i]? =some (.int (a+i)):=λi hi=>by
  unfold kZ
  rw [List.getElem?_map,List.getElem?_range hi];rfl
 refine wpAny_pyIter_range hr hs (hQ gh _ s.heap.objs.size [s.heap.objs.size] [s.heap.objs.size] _ (.push _) (r.push _) ⟨⟨_,W.bound,λi v h=>⟨_,hget i (by have hi:=h.1;rw [hlen] at hi;exact hi), ?_⟩⟩,λi h st b hb=> ?_⟩ ⟨λb hb=> ?_,λb hb=> ?_⟩ (λb hb=>hb) (λb hb=> ?_) (λ_ _ e=>Heap.get?_push_of_some _ e) ?_)
 ·obtain⟨_,t,rfl⟩:=h
  rw [Int.mul_one];exact .int _ t
 ·refine(List.mem_singleton.mp hb)▸ ?_;exact⟨_,st⟩
 ·refine(List.mem_singleton.mp hb)▸ ?_;exact⟨f2,f3⟩
 ·refine(List.mem_singleton.mp hb)▸ ?_;exact f1
 ·refine(List.mem_singleton.mp hb)▸ ?_;exact hs0
 ·show IsRangeIter _ _ _ _ _
  rw [hz,hlen]
  have:(s.heap.push {cls:=.type "range_iterator",data:=.fields #[rawInt a,rawInt ((b-a).toNat:Int),rawInt 1]}).get? s.heap.objs.size=some {cls:=.type "range_iterator",data:=.fields #[rawInt a,rawInt ((b-a).toNat:Int),rawInt 1]}:=Heap.get?_push_size _ rfl
  simpa using this
theorem E5{gh:Gh}{vs:List Value}{xs:List V}{k1:Int->Prop}{k2:Int->Int->Prop}(h:eE c.prog c.w gh vs xs)(hk:Lx xs k1 k2):(∃a t,vs=[.int a t]∧k1 a)∨∃a t b u,vs=[.int a t,.int b u]∧k2 a b:=by
 have rd:∀ {v:Value} {x:V} {i:Int},RV c.prog c.w gh v x->K9 x=some i->∃t,v=.int i t:=λhv e=>by
  obtain⟨f,e1,e2⟩:=aw e
  obtain rfl:=mh e1
  exact RF.aI hv e2
 induction xs using List.casesOn with
 |nil=>exact hk.elim
 |cons x xs=>
  obtain⟨v,r,rfl,ha,hr⟩:=h.inv
  obtain⟨a,e,hk⟩:=ab hk
  obtain⟨t,rfl⟩:=rd ha e
  induction xs using List.casesOn with
  |nil=>obtain rfl:=hr.inv;exact .inl ⟨a,t,rfl,hk⟩
  |cons y ys=>
   obtain⟨u,r',rfl,hb,hr'⟩:=hr.inv
   obtain⟨b,e,hk⟩:=ab hk
   obtain⟨t',rfl⟩:=rd hb e
   induction ys using List.casesOn with
   |nil=>obtain rfl:=hr'.inv;exact .inr ⟨a,t,b,t',rfl,hk⟩
   |cons _ _=>exact hk.elim
theorem Dp(Y:Ctx c K p loose mg mb){n:Nat}{x:X}{b:S}{args:List Expr}{nm fn:PySem.Str}{body:List Stmt}{pos pos' pf pc:Pos}(hl:bu f.cs nm=true)(hc:p.code nm=some n)(hfl:eB f.cs fn=true)(hg:p.glb fn=none)(hbl:p.blt fn=some 3)
  (hx:ib c g f d x args) (hb:SB c g f d b body):SS c g f d (.frR n x b) (.For (.Name nm pos') (.Call (.Name fn pf) args [] pc) body [] pos):=by
 intro gh σ s A k Q r rm hev hp
 obtain⟨hd,hm,hmb⟩:=Y.blt fn 3 _ hg hbl rfl
 have hr:ib c g f d x (args++([]:List Keyword).map (·.value)):=by simpa using hx
 refine wpAny_For (wpAny_Call_Name_kw (Calls.Name_function_global f.kind (eQ hfl) (Calls.loadGlobal_builtin (by rw [f.glob];exact Y.T.g.keeps r.keepB) hm (by rw [f.blt];exact Y.T.b.keeps r.keepB) hmb ?_) hd)) (lH rfl _)
 refine PyProof.Rows.callWith_type (ce pc f.env hr.stars) (dT (kws:=[]) (ks:=[]) Y rfl hr r rm hev λgh₁ σ₁ s₁ vs xs _ x₁ r₁ hvs hk=> ?_)
 rw [bq]
 have hp1:gC c f.L gh₁ s₁ k Q:=λgh₂ σ₂ s₂ u w x₂ r₂ hu hk=>hp gh₂ σ₂ s₂ u w (x₁.trans r r₁ x₂) r₂ hu hk
 have go:∀(a b':Int) (t u v:Tok) (tk:Nat),0<tk->((-1000000≤a∧a≤1000000)∧(-1000000≤b'∧b'≤1000000))->dM (ex g b) (dZ [n]) (kZ a (b'-a).toNat) σ₁ k->
   wpAny (model c.prog c.w) A (pyIter (.ref s₁.heap.objs.size)) (λit s₂=>codeAny (model c.prog c.w) A (.forLoop (.Name nm pos') it body [] f.env) (λr s'=>match r with| .ok f=>Q f s'| .error e=>cameBackBy (model c.prog c.w) A f.env bM e s') s₂) bM
    {s₁ with heap:=s₁.heap.push {cls:=.type "range",data:=.fields #[.int a t,.int b' u,.int 1 v]},toks:=tk}:=λa b' t u v tk ht hab hk=>by
  have r2:=(r₁.push ({cls:=.type "range",data:=.fields #[.int a t,.int b' u,.int 1 v]}:Obj)).toks (n:=tk) ht
  have x2:a8 false f.L gh₁ s₁ gh₁ {s₁ with heap:=s₁.heap.push {cls:=.type "range",data:=.fields #[.int a t,.int b' u,.int 1 v]},toks:=tk}:=(a8.push _).trans r₁ (r₁.push _) (.toks false tk)
  have hp2:gC c f.L gh₁ _ k Q:=λgh₃ Z3 s₃ u w x₃ r₃ hu hk=>hp1 gh₃ Z3 s₃ u w (x2.trans r₁ r2 x₃) r₃ hu hk
  refine oP r2 rm.hd hab (Heap.get?_push_size _ rfl) λgh₂ s₂ I fp wr St x₂ r₃ ii u su hw _ st=> ?_
  exact q8 rm hb r2 (R:=λr s'=>match r with| .ok f=>Q f s'| .error e=>cameBackBy (model c.prog c.w) A f.env bM e s') hp2 (λ_ _ h=>h) ii su hw (λ_=>rfl) (jV Y hl hc) _ 0 rfl (Nat.zero_le _) gh₂ σ₁ s₂ x₂ r₃ (λ_ _ e=>e) u st hk
 rcases E5 hvs hk with ⟨a,t,rfl,hab,hk⟩|⟨a,t,b',t',rfl,hab,hk⟩
 ·exact call_range_1 (go 0 _ _ _ _ _ (Nat.succ_pos _) ⟨⟨by decide,by decide⟩,hab⟩ (by rw [Int.sub_zero];exact hk))
 ·exact call_range_2 (go _ _ _ _ _ _ (Nat.succ_pos _) hab hk)
end
end Mine.A
namespace Mine.A
section
variable {c:Cx} {g:G} {K:Frag} {p:CP} {loose:List PySem.Str} {mg mb:PySem.Str->Option Value} {f:Fm} {d:Nat} {gh:Gh} {L:Addr} {σ:St} {s:Shared}
theorem vL(Y:Ctx c K p loose mg mb){A:Around}{x:S}{body:List Stmt}{y z:PySem.Str}{iy iz k0:Nat}{py pz tp:Pos}{k:Fl->St->Prop}{Q:Flow->Shared->Prop}{R:Result->Shared->Prop}{e it l:Addr}{vs:List Value}{items:List FV}{F₀:Addr->Option Obj}
  (rm:bG d A) (hb:SB c g f d x body) (r₀:al c gh f.L σ s) (hp:gC c f.L gh s k Q) (hR:∀fl s',Q fl s'->R (.ok fl) s') (hei:e≠it) (hle:l≠e) (hli:l≠it) (hv:bv c.prog c.w F₀ vs items) (hw:∀b∈[e,it],s.heap.get? b=none)
  (hly:bu f.cs y=true) (hcy:p.code y=some iy) (hlz:bu f.cs z=true) (hcz:p.code z=some iz):
  ∀(rest:List FV) (i:Nat),items.drop i=rest->i≤items.length->∀gh₁ σ₁ s₁,a8 false f.L gh s gh₁ s₁->al c gh₁ f.L σ₁ s₁->Sub F₀ gh₁.F->hZ gh₁ f.L [e,it,l] [e,it]->
   ((∃old,IsEnum s₁.heap e it i old)∧s₁.heap.IsListIter it l i∧s₁.heap.IsList l vs.toArray)->dM (ex g x) (dZ [iy,iz]) ((rest.zipIdx i).map λp=>.tup [.int p.2,p.1]) σ₁ k->
   codeAny (model c.prog c.w) A (.forLoop (.Tuple [.Name y py,.Name z pz] k0 tp) (.ref e) body [] f.env) R s₁:=by
 have W:=WalksT.enumerate (prog:=c.prog) (w:=c.w) rm.hd e it l hei hle hli vs.toArray
 have hsz:vs.toArray.size=items.length:=by rw [List.size_toArray,hv.len]
 have hsub:∀b∈[e,it],b∈[e,it,l]:=λb hb=>by
  rcases List.mem_cons.mp hb with rfl|hb
  ·exact .head _
  ·rw [List.mem_singleton.mp hb];exact .tail _ (.head _)
 replace W:=hsz▸W
 intro rest
 induction rest with
 |nil=>
  intro i hi hle' gh₁ σ₁ s₁ x₁ r₁ hF u st hk
  have hn:i=items.length:=by
   have:=congrArg List.length hi
   rw [List.length_drop] at this;simp at this;omega
  subst hn
  refine hV (aV r₁.tk (W.done s₁ _ _ st λh' tk' hk' ht=> ?_))
  exact hR _ _ (hp gh₁ σ₁ _ .next .nxt (x₁.turn hw hk') (r₁.turn ht u hsub hk') rfl hk)
 |cons a rest ih=>
  intro i hi hle' gh₁ σ₁ s₁ x₁ r₁ hF u st hk
  have hlt:i<items.length:=by
   have:=congrArg List.length hi
   rw [List.length_drop] at this;simp at this;omega
  have hy:items[i]? =some a:=by
   replace hi:=(List.drop_eq_getElem_cons hlt)▸hi
   rw [List.getElem?_eq_getElem hlt,(List.cons.inj hi).1]
  have hrest:items.drop (i+1)=rest:=by
   rw [List.drop_eq_getElem_cons hlt] at hi
   exact(List.cons.inj hi).2
  refine hV (aV r₁.tk (W.item i s₁ _ _ hlt st λT vals h' tk' hpv hT hT2 hmid hk' ht=> ?_))
  obtain⟨t,xv,e1,rfl⟩:=hpv
  rw [List.getElem?_toArray] at e1
  obtain⟨xv',e2,rf⟩:=hv.get? hy
  rw [e1] at e2;obtain rfl:=Option.some.inj e2
  have r2:=r₁.turn ht u hsub hk'
  have x2:=x₁.turn (tk:=tk') hw hk'
  dsimp only
  refine W.go _ _ _ i T _ _ _ hmid λh'' st'' hk''=> ?_
  have r3:=r2.turn (tk:=tk') ht u hsub hk''
  have x3:=x2.turn (tk:=tk') hw hk''
  have hTt:IsTup h'' T #[.int i t,xv]:=by
   obtain⟨o,ho,q⟩:=hT2
   exact⟨o,hk'' T o (W.apart i T _ hmid) ho,q⟩
  refine assign_Tuple_tuple rm.hd hTt rfl rfl λh3 hx3=> ?_
  obtain⟨r4,x4⟩:=r3.more (h':=h3) (tk:=tk') ht (λb o eo=>hx3 b o (Nat.ne_of_lt (Heap.lt_size eo)) eo)
  have hk:ai (some (put iz (.c a) (put iy (.c (.int i)) σ₁.L))) (λL=>ex g x (cj σ₁ L) (Km (dM (ex g x) (dZ [iy,iz]) ((rest.zipIdx (i+1)).map λp=>.tup [.int p.2,p.1])) k)):=hk
  show wpAny _ _ (do holding [xv] (assign (.Name y py) f.env (.int i t));assignInOrder [assign (.Name z pz) f.env] [xv]) _ _ _
  refine wpAny_bind (wpAny_holding (PyProof.Rows.assign_Name (dI Y hly hcy r4 (fA (.int i t)) λs5 x5 r5=> ?_)))
  show wpAny _ _ (do holding [] (assign (.Name z pz) f.env xv);assignInOrder [] []) _ _ _
  refine wpAny_bind (wpAny_holding (PyProof.Rows.assign_Name (dI Y hlz hcz r5 (fA (RF.mono hF rf)) λs6 x6 r6=>wpAny_pure ?_)))
  have x04:=x3.trans r₀ r3 x4
  have x46:=x5.trans r4 r5 x6
  refine hb gh₁ _ s6 A _ _ r6 rm hk λgh₄ Z4 s₄ w zf x₇ r₄ hl hk=> ?_
  have x47:=x46.trans r4 r6 x₇
  have x07:=x04.trans r₀ r4 x47
  have keep4:∀b∈[e,it,l],∀o,h''.get? b=some o->s₄.heap.get? b=some o:=λb hb o eo=>
   x47.keep b o (hx3 b o (Nat.ne_of_lt (Heap.lt_size eo)) eo) (u.fp b hb).1 (u.fp b hb).2
  have live:∀b∈[e,it,l],∃o,h''.get? b=some o:=λb hb=>by
   obtain⟨⟨old,he⟩,hit,hl'⟩:=st''
   rcases List.mem_cons.mp hb with rfl|hb
   ·exact⟨_,he⟩
   ·rcases List.mem_cons.mp hb with rfl|hb
    ·obtain⟨o,z,_⟩:=hit;exact⟨o,z⟩
    ·rw [List.mem_singleton.mp hb];obtain⟨o,z,_⟩:=hl';exact⟨o,z⟩
  have again:dM (ex g x) (dZ [iy,iz]) ((rest.zipIdx (i+1)).map λp=>.tup [.int p.2,p.1]) Z4 k->codeAny (model c.prog c.w) A (.forLoop (.Tuple [.Name y py,.Name z pz] k0 tp) (.ref e) body [] f.env) R s₄:=λhk=>by
   refine ih (i+1) hrest hlt gh₄ Z4 s₄ x07 r₄ (λa o eo=>x47.le.F a o (hF a o eo)) (u.ext x47 hsub λb hb=> ?_) (W.frame (i+1) _ _ st'' keep4) hk
   obtain⟨o,eo⟩:=live b hb
   exact⟨o,hx3 b o (Nat.ne_of_lt (Heap.lt_size eo)) eo⟩
  induction zf using Fl.casesOn with
  |nxt=>obtain rfl:=hl;exact again hk
  |cnt=>obtain rfl:=hl;exact again hk
  |brk=>obtain rfl:=hl;exact hR _ _ (hp gh₄ Z4 s₄ .next .nxt x07 r₄ rfl hk)
  |ret b=>obtain⟨v,rfl,hl⟩:=hl;exact hR _ _ (hp gh₄ Z4 s₄ (.ret v) (.ret b) x07 r₄ ⟨v,rfl,hl⟩ hk)
theorem Dq(Y:Ctx c K p loose mg mb){iy iz k0:Nat}{x:X}{b:S}{it:Expr}{y z fn:PySem.Str}{body:List Stmt}{pos py pz tp pf pc:Pos}(hly:bu f.cs y=true)(hcy:p.code y=some iy)(hlz:bu f.cs z=true)(hcz:p.code z=some iz)
  (hfl:eB f.cs fn=true) (hg:p.glb fn=none) (hbl:p.blt fn=some 9) (hst:cZ it=true) (hx:SE c g f d x it) (hb:SB c g f d b body):
  SS c g f d (.frE iy iz x b) (.For (.Tuple [.Name y py,.Name z pz] k0 tp) (.Call (.Name fn pf) [it] [] pc) body [] pos):=by
 intro gh σ s A k Q r rm hev hp
 obtain⟨hd,hm,hmb⟩:=Y.blt fn 9 _ hg hbl rfl
 refine wpAny_For (wpAny_Call_Name_kw (Calls.Name_function_global f.kind (eQ hfl) (Calls.loadGlobal_builtin (by rw [f.glob];exact Y.T.g.keeps r.keepB) hm (by rw [f.blt];exact Y.T.b.keeps r.keepB) hmb ?_) hd)) (lH rfl _)
 rw [d8 hst]
 refine PyProof.Rows.callWith_type rfl (Calls.evalArgs_plain (Calls.spliced_cons (hx gh σ s A _ _ r rm hev λgh₁ σ₁ s₁ v a x₁ r₁ hv hk=>Calls.spliced_nil ?_)))
 obtain⟨p,hf,hk⟩:=ab hk
 obtain⟨l,el,hk⟩:=ab hk
 obtain⟨g2,x2,r2,rf⟩:=jw r₁ hv hf
 ·rw [pM el] at rf
  obtain⟨la,vs,o,rfl,e,q,rr,bb⟩:=rf.x
  ·have hL:=q.list (r2.frz _ _ e)
   have hs0:s₁.heap.get? s₁.heap.objs.size=none:=aE (Nat.le_refl _)
   have hs1:s₁.heap.get? (s₁.heap.objs.size+1)=none:=aE (Nat.le_succ _)
   have hlt:=Heap.lt_size (r2.frz _ _ e)
   refine call_enumerate_list hL λh' hen hit hsz lz=> ?_
   obtain⟨r3,x3⟩:=r2.more (h':=h') (tk:=s₁.toks) r2.tk lz
   have hp1:gC c f.L g2 s₁ k Q:=λgh₂ σ₂ s₂ u w x₂ r₂ hu hk=>hp gh₂ σ₂ s₂ u w ((x₁.trans r r₁ x2).trans r r2 x₂) r₂ hu hk
   have W:=WalksT.enumerate (prog:=c.prog) (w:=c.w) rm.hd (s₁.heap.objs.size+1) s₁.heap.objs.size la (Nat.succ_ne_self _) (Nat.ne_of_lt (Nat.lt_succ_of_lt hlt)) (Nat.ne_of_lt hlt) vs.toArray
   have hst0:(∃old,IsEnum h' (s₁.heap.objs.size+1) s₁.heap.objs.size ((0:Nat):Int) old)∧h'.IsListIter s₁.heap.objs.size la 0∧h'.IsList la vs.toArray:=⟨⟨_,hen⟩,hit,hL.at λo eo=>lz _ o eo⟩
   refine W.self 0 _ _ _ hst0 ?_
   refine vL Y rm hb r2 (R:=λr s'=>match r with| .ok f=>Q f s'| .error e=>cameBackBy (model c.prog c.w) A f.env bM e s') hp1 (λ_ _ h=>h) (Nat.succ_ne_self _) (Nat.ne_of_lt (Nat.lt_succ_of_lt hlt)) (Nat.ne_of_lt hlt) rr (λb hb=> ?_) hly hcy hlz hcz l 0 rfl (Nat.zero_le _) g2 _ _ x3 r3 (λ_ _ e=>e) ⟨λb hb=> ?_,λb hb=> ?_⟩ hst0 hk
   ·rcases List.mem_cons.mp hb with rfl|hb
    ·exact hs1
    ·refine(List.mem_singleton.mp hb)▸ ?_;exact hs0
   ·rcases List.mem_cons.mp hb with rfl|hb
    ·exact(r2.free hs1).2
    ·rcases List.mem_cons.mp hb with rfl|hb
     ·exact(r2.free hs0).2
     ·refine(List.mem_singleton.mp hb)▸ ?_;exact r2.closed e
   ·rcases List.mem_cons.mp hb with rfl|hb
    ·exact(r2.free hs1).1
    ·refine(List.mem_singleton.mp hb)▸ ?_;exact(r2.free hs0).1
end
end Mine.A
namespace Mine.A
theorem kH{prog:Program}{w:World}{A:Around}{R:Result->Shared->Prop}{s:Shared}{elt target iter:Expr}{ifs:List Expr}{scope:Scope}{pos:Pos}{it acc:Value}{env:Env}
  (h:wpAny (model prog w) A (pyNext it) (λr s₁=>match r with
   |none=>R (.ok .next) s₁
   |some v=>wpAny (model prog w) A (assign target env v) (λ_ s₂=>
     wpAny (model prog w) A (forIn ifs true λc r=>if r=true then do let ok←isTrue c env (eval c env);pure (ForInStep.yield ok)else pure (ForInStep.yield r)) (λok s₃=>
      if ok=true then wpAny (model prog w) A (eval elt env) (λx s₄=>
       wpAny (model prog w) A (call (.builtin "list.append") [acc,x]) (λ_ s₅=>codeAny (model prog w) A (.compLoop (.ListComp elt [⟨target,iter,ifs,0⟩] scope pos) 0 it acc env) R s₅) bM s₄) bM s₃
      else codeAny (model prog w) A (.compLoop (.ListComp elt [⟨target,iter,ifs,0⟩] scope pos) 0 it acc env) R s₃) bM s₂) bM s₁) bM s)
  (ht:∀v,letOwnedTupleGo target it v=pure ()):codeAny (model prog w) A (.compLoop (.ListComp elt [⟨target,iter,ifs,0⟩] scope pos) 0 it acc env) R s:=by
 refine codeAny_of_tree ?_
 show wpAny _ A ((compTurn (.ListComp elt [⟨target,iter,ifs,0⟩] scope pos) 0 it acc env).onRaise (λx=>do noteFrame x env;theTreesLotGoes x)) _ _ s
 refine wpAny_noted ?_
 rw [compTurn_list]
 refine wpAny_bind (wpAny_standAt (wpAny_bind (wpAny_mono h (λr s₁ h₁=> ?_) λ_ _ h'=>h'.elim)))
 induction r using Option.casesOn with
 |none=>exact wpAny_pure h₁
 |some v=>
  refine wpAny_bind (wpAny_of_eq (ht v) ?_)
  refine wpAny_bind (wpAny_mono h₁ (λ_ s₂ h₂=>wpAny_bind (wpAny_mono h₂ (λok s₃ h₃=> ?_) λ_ _ h'=>h'.elim)) λ_ _ h'=>h'.elim)
  induction ok using Bool.casesOn with
  |false=>exact wpAny_pure ⟨rfl,h₃⟩
  |true=>
   exact wpAny_bind (wpAny_bind (wpAny_mono h₃ (λx s₄ h₄=>wpAny_bind (wpAny_mono h₄ (λ_ s₅ h₅=>wpAny_pure (wpAny_pure ⟨rfl,h₅⟩)) λ_ _ h'=>h'.elim)) λ_ _ h'=>h'.elim))
section
variable {c:Cx} {g:G} {K:Frag} {p:CP} {loose:List PySem.Str} {mg mb:PySem.Str->Option Value} {f:Fm} {d:Nat} {gh:Gh} {L:Addr} {σ:St} {s:Shared}
theorem al.forget(r:al c gh L σ s):al c gh L (cj σ []) s:=
 ⟨r.frz,r.obs,r.sep,r.off,r.nL,r.loc.elim λm h=>⟨m,h.1,λ_ _ e=>ax e⟩,r.new,r.m64,r.dom,r.base,r.Lb,r.tk⟩
theorem al.inner(r:al c gh L σ s){h':Heap}{C:Addr}{m:PySem.Str->Option Value}{tk:Nat}(ht:0<tk)(hk:∀x o,s.heap.get? x=some o->h'.get? x=some o)(hC:s.heap.objs.size≤C)(hN:h'.Ns C m):
  al c gh C (cj σ []) {s with heap:=h',toks:=tk}:=by
 have hs:s.heap.get? C=none:=aE hC
 refine⟨λx o₁ e=>hk x o₁ (r.frz x o₁ e),λj o₁ hj=> ?_,r.sep,λx hx=> ?_, ?_,⟨m,hN,λ_ _ e=>ax e⟩,r.new,r.m64,r.dom,r.base, ?_,ht⟩
 ·obtain⟨b,fb,e,ro⟩:=r.obs j o₁ hj
  exact⟨b,fb,e,ro.step (.refl _ _) λx _ o e'=>hk x o e'⟩
 ·obtain⟨u,v,o₁,w⟩:=r.off x hx
  exact⟨u,λq=>(by(replace w:=q▸w;rw [hs] at w);exact ax w),o₁,hk x o₁ w⟩
 ·exact(r.free hs).1
 ·obtain⟨o,e⟩:=r.L_there
  exact Nat.le_trans r.Lb (Nat.le_trans (Nat.le_of_lt (Heap.lt_size e)) hC)
theorem al.outer(r:al c gh L σ s){C:Addr}{b:Bool}{gh':Gh}{Z':St}{s':Shared}(hC:s.heap.get? C=none)(x:a8 b C gh s gh' s')(r':al c gh' C Z' s')(hb:b=false):
  al c gh' L (cj Z' σ.L) s'∧a8 b L gh s gh' s':=by
 subst hb
 have hLC:L≠C:=λq=>by obtain⟨o,e⟩:=r.L_there;rw [q,hC] at e;exact ax e
 have hLf:¬bZ gh L:=λh=>(r.off L h).2.1 rfl
 have kL:∀o,s.heap.get? L=some o->s'.heap.get? L=some o:=λo e=>x.keep L o e hLC hLf
 refine⟨⟨r'.frz,r'.obs,r'.sep,λy hy=> ?_, ?_, ?_,r'.new,r'.m64,r'.dom,r'.base,r.Lb,r'.tk⟩,⟨x.le,λy o e _ hn=>x.keep y o e (λq=>by rw [q,hC] at e;exact ax e) hn,x.fp,x.fF,x.gens,x.os,x.drawn⟩⟩
 ·obtain⟨u,_,w⟩:=r'.off y hy
  refine⟨u,λq=> ?_,w⟩
  rcases x.fp y hy with k|k
  ·exact hLf (q▸k)
  ·obtain⟨o,e⟩:=r.L_there;rw [←q,k] at e;exact ax e
 ·cases q:gh'.F L with
  |none=>rfl
  |some o=>
   rcases x.fF L o q with k|k|k
   ·rw [r.nL] at k;exact ax k
   ·exact(hLf k).elim
   ·obtain⟨o,e⟩:=r.L_there;rw [k] at e;exact ax e
 ·obtain⟨m,N,hm⟩:=r.loc
  exact⟨m,eh kL N,λn v e=>(hm n v e).elim λw e=>⟨w,e.1,e.2.mono x.le⟩⟩
end
end Mine.A
namespace Mine.A
section
variable {c:Cx} {g:G} {K:Frag} {p:CP} {loose:List PySem.Str} {mg mb:PySem.Str->Option Value} {d:Nat}
noncomputable def mi(c:Cx)(g:G)(f:Fm)(d:Nat)(x:X)(ifs:List Expr):Prop:=
 ∀gh σ s A (k:Bool->St->Prop) (Q:Bool->Shared->Prop),al c gh f.L σ s->bG d A->dO g x σ (λv σ=>ai (av σ.H v) λt=>k t σ)->
  (∀gh' Z' s' b,a8 false f.L gh s gh' s'->al c gh' f.L Z' s'->k b Z'->Q b s')->
  wpAny (model c.prog c.w) A (forIn ifs true λc r=>if r=true then do let ok←isTrue c f.env (eval c f.env);pure (ForInStep.yield ok)else pure (ForInStep.yield r)) Q bM s
theorem Ex{f:Fm}:mi c g f d (.k (.bol true)) []:=by
 intro gh σ s A k Q r rm hev hp
 exact wpAny_tests_nil (hp gh σ s true (.refl _ _ _ _) r hev)
theorem Eu{f:Fm}{x:X}{e:Expr}(h:ST c g f d x e):mi c g f d x [e]:=by
 intro gh σ s A k Q r rm hev hp
 exact wpAny_tests_one (h gh σ s A k Q r rm hev hp)
theorem v9{fc:Fm}(Y:Ctx c K p loose mg mb){A:Around}{cd e:X}{nm:PySem.Str}{n:Nat}{px pos:Pos}{elt iter:Expr}{ifs:List Expr}{scope:Scope}{R:Result->Shared->Prop}{k:V->St->Prop}{I D:Addr}{fp wr:List Addr}{items:List FV}{St0:Nat->Heap->Prop}
  {F₀:Addr->Option Obj} {gh₀:Gh} {sB:Shared} (rm:bG d A) (htest:mi c g fc d cd ifs) (helt:SE c g fc d e elt) (hl:bu fc.cs nm=true) (hc:p.code nm=some n) (it:Ll c A F₀ I fp wr items St0) (hsub:∀b∈wr,b∈fp) (hDfp:D∉fp) (hw:∀b∈D::wr,sB.heap.get? b=none)
  (hR:∀gh' Z' s' vs accF nD,a8 false fc.L gh₀ sB gh' s'->al c gh' fc.L Z' s'->s'.heap.get? D=some {cls:=.type "list",data:=.seq vs.toArray nD}->bv c.prog c.w gh'.F vs accF->gh'.F D=none->¬bZ gh' D->fg (.lst accF) Z' k->accF.length≤16777216->R (.ok .next) s'):
  ∀(rest:List FV) (i:Nat),items.drop i=rest->i≤items.length->∀gh₁ σ₁ s₁ vs acc nD,a8 false fc.L gh₀ sB gh₁ s₁->al c gh₁ fc.L σ₁ s₁->Sub F₀ gh₁.F->hZ gh₁ fc.L (D::fp) (D::wr)->St0 i s₁.heap->
   s₁.heap.get? D=some {cls:=.type "list",data:=.seq vs.toArray nD}->bv c.prog c.w gh₁.F vs acc->acc.length≤16777216->wL n (ev g cd) (ev g e) rest acc σ₁ k->
   codeAny (model c.prog c.w) A (.compLoop (.ListComp elt [⟨.Name nm px,iter,ifs,0⟩] scope pos) 0 (.ref I) (.ref D) fc.env) R s₁:=by
 obtain⟨P,W,hP⟩:=it.W
 have hsub':∀b∈D::wr,b∈D::fp:=λb hb=>by
  rcases List.mem_cons.mp hb with rfl|hb
  ·exact .head _
  ·exact .tail _ (hsub b hb)
 have hDwr:D∉wr:=λh=>hDfp (hsub D h)
 intro rest
 induction rest with
 |nil=>
  intro i hi hle gh₁ σ₁ s₁ vs acc nD x₁ r₁ hF u st hD hacc hlen hk
  have hn:i=items.length:=by
   have:=congrArg List.length hi
   rw [List.length_drop] at this;simp at this;lia
  subst hn
  refine kH (aV r₁.tk (W.done s₁ _ _ st λh' tk' hk' ht=> ?_)) (λ_=>rfl)
  have u':hZ gh₁ fc.L fp wr:=⟨λb hb=>u.fp b (.tail _ hb),λb hb=>u.wr b (.tail _ hb)⟩
  exact hR gh₁ σ₁ _ vs acc nD (x₁.turn (λb hb=>hw b (.tail _ hb)) hk') (r₁.turn ht u' hsub hk') (hk' D _ hDwr hD) hacc (u.wr D (.head _)) (u.fp D (.head _)).2 hk hlen
 |cons y rest ih=>
  intro i hi hle gh₁ σ₁ s₁ vs acc nD x₁ r₁ hF u st hD hacc hlen hk
  have hlt:i<items.length:=by
   have:=congrArg List.length hi
   rw [List.length_drop] at this;simp at this;lia
  have hy:items[i]? =some y:=by
   replace hi:=(List.drop_eq_getElem_cons hlt)▸hi
   rw [List.getElem?_eq_getElem hlt,(List.cons.inj hi).1]
  have hrest:items.drop (i+1)=rest:=by
   rw [List.drop_eq_getElem_cons hlt] at hi
   exact(List.cons.inj hi).2
  have u':hZ gh₁ fc.L fp wr:=⟨λb hb=>u.fp b (.tail _ hb),λb hb=>u.wr b (.tail _ hb)⟩
  refine kH (aV r₁.tk (W.item i s₁ _ _ hlt st λv h' tk' hpv st' hk' ht=> ?_)) (λ_=>rfl)
  obtain⟨y',e1,rf⟩:=hP i v hpv
  rw [hy] at e1;obtain rfl:=Option.some.inj e1
  have r2:=r₁.turn (tk:=tk') ht u' hsub hk'
  have x2:=x₁.turn (tk:=tk') (λb hb=>hw b (.tail _ hb)) hk'
  have live:∀b∈D::fp,∃o,h'.get? b=some o:=λb hb=>by
   rcases List.mem_cons.mp hb with rfl|hb
   ·exact⟨_,hk' _ _ hDwr hD⟩
   ·exact it.live _ _ st' b hb
  refine PyProof.Rows.assign_Name (dI Y hl hc r2.forget (fA (RF.mono hF rf)) λs3 x3 r3=> ?_)
  have x03:=a8.trans' r2 x2 x3
  have hk:ev g cd (cj σ₁ [(n,.c y)]) (one λc s=>ai (av s.H c) λt=>br t (ev g e s (one λee s=>ai (frz s.H ee) λr=>tm (acc.length+1) (wL n (ev g cd) (ev g e) rest (acc++[r.1]) (aR s r.2) k))) (wL n (ev g cd) (ev g e) rest acc s k)):=hk
  refine htest gh₁ _ s3 A (λt s=>br t (ev g e s (one λee s=>ai (frz s.H ee) λr=>tm (acc.length+1) (wL n (ev g cd) (ev g e) rest (acc++[r.1]) (aR s r.2) k))) (wL n (ev g cd) (ev g e) rest acc s k)) _ r3 rm hk λgh₄ Z4 s₄ t x4 r4 hk=> ?_
  have x34:=a8.trans' r3 x3 x4
  have x04:=a8.trans' r3 x03 x4
  have hk:=pG hk
  have keepAll:∀ {ghz:Gh} {sz:Shared},a8 false fc.L gh₁ {s₁ with heap:=h',toks:=tk'} ghz sz->hZ ghz fc.L (D::fp) (D::wr)∧St0 (i+1) sz.heap∧sz.heap.get? D=some {cls:=.type "list",data:=.seq vs.toArray nD}:=λ{ghz sz} xz=>
   ⟨u.ext xz hsub' live,W.frame (i+1) _ _ st' λb hb o eo=>xz.keep b o eo (u.fp b (.tail _ hb)).1 (u.fp b (.tail _ hb)).2,xz.keep D _ (hk' _ _ hDwr hD) (u.fp D (.head _)).1 (u.fp D (.head _)).2⟩
  induction t using Bool.casesOn with
  |false=>
   simp only [Bool.false_eq_true,if_false] at hk⊢
   obtain⟨u4,st4,hD4⟩:=keepAll x34
   exact ih (i+1) hrest hlt gh₄ Z4 s₄ vs acc nD x04 r4 (λa o e=>x34.le.F a o (hF a o e)) u4 st4 hD4 (bv.mono x34.le.F hacc) hlen hk
  |true=>
   simp only [if_true] at hk⊢
   refine helt gh₄ Z4 s₄ A _ _ r4 rm hk λgh5 σ₅ s₅ ev ex x5 r5 hv hk=> ?_
   obtain⟨q,hf,hfit,hk⟩:=ab hk
   obtain⟨g6,x6,r6,rf6⟩:=eM r5 hv hf
   have x35:=a8.trans' r4 x34 x5
   have x36:=a8.trans' r5 x35 x6
   have x05:=a8.trans' r4 x04 x5
   have x06:=a8.trans' r5 x05 x6
   obtain⟨u6,st6,hD6⟩:=keepAll x36
   refine wpAny_list_append_plain (items:=vs.toArray) ⟨nD,hD6⟩ (λh7 hl7 hs7=> ?_) (by have:=hacc.len;(refine List.size_toArray▸ ?_;rw [sizeLine_eq]);lia)
   obtain⟨n7,hD7⟩:=hl7
   have hk7:∀b o,b∉[D]->s₅.heap.get? b=some o->h7.get? b=some o:=λb o hb eo=>(hs7.2 b (λz=>hb (by refine z▸ ?_;exact .head _))).trans eo
   have uD:hZ g6 fc.L [D] [D]:=⟨λb hb=>by refine(List.mem_singleton.mp hb)▸ ?_;exact u6.fp D (.head _),λb hb=>by refine(List.mem_singleton.mp hb)▸ ?_;exact u6.wr D (.head _)⟩
   have r7:=r6.turn (tk:=s₅.toks) r6.tk uD (λ_ h=>h) hk7
   have x07:=x06.turn (tk:=s₅.toks) (wr:=[D]) (λb hb=>by refine(List.mem_singleton.mp hb)▸ ?_;exact hw D (.head _)) hk7
   refine ih (i+1) hrest hlt g6 _ _ (vs++[ev]) (acc++[q.1]) n7 x07 r7 (λa o e=>x36.le.F a o (hF a o e)) u6 (W.frame (i+1) _ _ st6 λb hb o eo=>hk7 b o (λz=>hDfp (by refine(List.mem_singleton.mp z)▸ ?_;exact hb)) eo) (by rw [hD7];simp) (bv.append (.cons rf6 .nil) (bv.mono x36.le.F hacc)) (by rw [List.length_append];exact hfit) hk
end
end Mine.A
namespace Mine.A
section
variable {c:Cx} {g:G} {K:Frag} {p:CP} {loose:List PySem.Str} {mg mb:PySem.Str->Option Value} {f:Fm} {d:Nat}
theorem eX{cs:Scope}(h:lS cs=true):cs.kind=.function∧(∀x∈cs.names,x.2≠ .free)∧(∀x∈cs.names,x.2≠ .cell)∧(∀x∈cs.names,cs.names.lookup x.1=some x.2):=by
 unfold lS at h
 rw [Bool.and_eq_true] at h
 have h2:=List.all_eq_true.mp h.2
 refine⟨by simpa using h.1,λx hx=> ?_,λx hx=> ?_,λx hx=> ?_⟩<;>
 ·have:=h2 x hx
  simp only [Bool.and_eq_true,bne_iff_ne,ne_eq,beq_iff_eq] at this
  first|exact this.1.1|exact this.1.2|exact this.2
noncomputable def D6(f:Fm)(cs:Scope)(hk:cs.kind=.function)(C:Addr):Fm:=⟨{newEnv cs C f.env.globals [] f.env.qual none .none (some f.env) builtinsNs with scope:=cs},hk,f.glob,f.blt⟩
theorem wD(Y:Ctx c K p loose mg mb){cd e x:X}{n:Nat}{nm:PySem.Str}{px pos:Pos}{elt iter:Expr}{ifs:List Expr}{cs:Scope}(hset:jJ iter=false)(hcs:lS cs=true)(hl:bu cs nm=true)(hc:p.code nm=some n)(hx:SE c g f d x iter)
  (htest:∀C,mi c g (D6 f cs (eX hcs).1 C) d cd ifs) (helt:∀C,SE c g (D6 f cs (eX hcs).1 C) d e elt):
  SE c g f d (.lcm n x cd e) (.ListComp elt [⟨.Name nm px,iter,ifs,0⟩] cs pos):=by
 intro gh σ s A k Q r rm hev hp
 obtain⟨hkind,hfree,hcell,hnames⟩:=eX hcs
 refine wpAny_ListComp hfree hkind (λx hx hl=>(hnames x hx).trans (by rw [hl])) (hx gh σ s A _ _ r rm hev λgh₁ σ₁ s₁ v a x₁ r₁ hv hk=> ?_) (lH hset _)
 obtain⟨q,hi,hk⟩:=ab hk
 refine qv r₁ rm.hd hv hi λgh₂ s₂ I fp wr St0 x₂ r₂ ii u su hw lz st=> ?_
 refine wpAny_newList ?_ (Nat.zero_le _)
 refine wpAny_newFunctionEnv hcell (λ_ h=>(List.not_mem_nil h).elim) (λh' hN hsb=> ?_) hkind
 have hszD:(s₂.heap.push {cls:=.type "list",data:=.seq #[]}).objs.size=s₂.heap.objs.size+1:=Heap.size_push ..
 have hDnone:s₂.heap.get? s₂.heap.objs.size=none:=aE (Nat.le_refl _)
 have hCnone:s₂.heap.get? (s₂.heap.push {cls:=.type "list",data:=.seq #[]}).objs.size=none:=by rw [hszD];exact aE (Nat.le_succ _)
 have back1:∀y,s₂.heap.get? y=none->s₁.heap.get? y=none:=λy e=>dW (λo ho=>⟨o,lz y o ho⟩) e
 have k24:∀y o,s₂.heap.get? y=some o->h'.get? y=some o:=λy o e=>(hsb.2 y (λq=>by rw [q,hCnone] at e;exact ax e)).trans (Heap.get?_push_of_some _ (Heap.get?_push_of_some _ e))
 have hD4:h'.get? s₂.heap.objs.size=some {cls:=.type "list",data:=.seq ([]:List Value).toArray 0}:=by
  refine(hsb.2 _ ?_).trans (Heap.get?_push_of_some _ (Heap.get?_push_size _ rfl))
  refine hszD▸ ?_;exact Nat.ne_of_lt (Nat.lt_succ_self _)
 have r4:=r₂.inner (h':=h') (tk:=s₂.toks) r₂.tk k24 (by rw [hszD];exact Nat.le_succ _) hN
 have xC:a8 false (s₂.heap.push {cls:=.type "list",data:=.seq #[]}).objs.size gh₁ s₁ gh₂ {s₂ with heap:=h',toks:=s₂.toks}:=
  ⟨x₂.le,λy o e _ _=>k24 y o (lz y o e),x₂.fp,x₂.fF,x₂.gens,x₂.os,x₂.drawn⟩
 have fpLive:∀b∈fp,∃o,s₂.heap.get? b=some o:=ii.live _ _ st
 have hDfp:s₂.heap.objs.size∉fp:=λh=>by obtain⟨o,e⟩:=fpLive _ h;rw [hDnone] at e;exact ax e
 obtain⟨f1,f2,f3⟩:=r₂.fresh
 have uC:hZ gh₂ (s₂.heap.push {cls:=.type "list",data:=.seq #[]}).objs.size (s₂.heap.objs.size::fp) (s₂.heap.objs.size::wr):=by
  refine⟨λb hb=> ?_,λb hb=> ?_⟩
  ·rcases List.mem_cons.mp hb with rfl|hb
   ·exact⟨by rw [hszD];exact Nat.ne_of_lt (Nat.lt_succ_self _),f3⟩
   ·refine⟨λq=> ?_,(u.fp b hb).2⟩
    obtain⟨o,e⟩:=fpLive b hb
    rw [q,hCnone] at e;exact ax e
  ·rcases List.mem_cons.mp hb with rfl|hb
   ·exact f1
   ·exact u.wr b hb
 have st4:St0 0 h':=by
  obtain⟨P,W,_⟩:=ii.W
  exact W.frame 0 _ _ st λb hb o e=>k24 b o e
 have run:=v9 (fc:=D6 f cs hkind (s₂.heap.push {cls:=.type "list",data:=.seq #[]}).objs.size) (elt:=elt) (iter:=iter) (px:=px) (pos:=pos) (scope:=cs) (sB:=s₁) (gh₀:=gh₁) (I:=I) (D:=s₂.heap.objs.size) (F₀:=gh₂.F) (k:=λv s'=>one k [v] (cj s' σ₁.L)) Y rm (htest _) (helt _) hl hc ii su hDfp
  (λb hb=>by
   rcases List.mem_cons.mp hb with rfl|hb
   ·exact back1 _ hDnone
   ·exact hw b hb)
  (R:=λr s'=>∃m,s'.heap.Ns (s₂.heap.push {cls:=.type "list",data:=.seq #[]}).objs.size m∧∀h',Heap.SameBut (s₂.heap.push {cls:=.type "list",data:=.seq #[]}).objs.size s'.heap h'->match r with
   | .ok _=>Q (.ref s₂.heap.objs.size) {s' with heap:=h'}
   | .error x=>wpAny (model c.prog c.w) A (passOn "comprehension.variables-let-go" x (D6 f cs hkind (s₂.heap.push {cls:=.type "list",data:=.seq #[]}).objs.size).env) Q bM {s' with heap:=h'})
  (λgh' Z' s' vs accF nD x' r' hD hacc hDF hDf hnew hlen=> ?_) q.1 0 rfl (Nat.zero_le _) gh₂ _ _ [] [] 0 xC r4 (λ_ _ e=>e) uC st4 hD4 .nil (Nat.zero_le _) hk
 ·obtain⟨P,W,_⟩:=ii.W
  exact codeAny_compStart_list run (W.self 0 _ _ _ st4 run)
 ·obtain⟨m,N,_⟩:=r'.loc
  refine⟨m,N,λh6 hs6=> ?_⟩
  have hC1:s₁.heap.get? (s₂.heap.push {cls:=.type "list",data:=.seq #[]}).objs.size=none:=back1 _ hCnone
  obtain⟨ro,xo⟩:=r₁.outer hC1 x' r' rfl
  have hDC:s₂.heap.objs.size≠(s₂.heap.push {cls:=.type "list",data:=.seq #[]}).objs.size:=by rw [hszD];exact Nat.ne_of_lt (Nat.lt_succ_self _)
  have hk6:∀b o,b∉[(s₂.heap.push {cls:=.type "list",data:=.seq #[]}).objs.size]->s'.heap.get? b=some o->h6.get? b=some o:=λb o hb eo=>(hs6.2 b (λz=>hb (by refine z▸ ?_;exact .head _))).trans eo
  have uC6:hZ gh' f.L [(s₂.heap.push {cls:=.type "list",data:=.seq #[]}).objs.size] [(s₂.heap.push {cls:=.type "list",data:=.seq #[]}).objs.size]:=by
   refine⟨λb hb=> ?_,λb hb=> ?_⟩
   ·refine(List.mem_singleton.mp hb)▸ ?_
    refine⟨λq=> ?_,λq=>(r'.off _ q).2.1 rfl⟩
    obtain⟨o,e⟩:=r₁.L_there;rw [←q,hC1] at e;exact ax e
   ·refine(List.mem_singleton.mp hb)▸ ?_;exact r'.nL
  have r6:=ro.turn (tk:=s'.toks) ro.tk uC6 (λ_ h=>h) hk6
  have x6:=xo.turn (tk:=s'.toks) (λb hb=>by refine(List.mem_singleton.mp hb)▸ ?_;exact hC1) hk6
  have hD6:h6.get? s₂.heap.objs.size=some {cls:=.type "list",data:=.seq vs.toArray nD}:=hk6 _ _ (λh=>hDC (List.mem_singleton.mp h)) hD
  have hDL:s₂.heap.objs.size≠f.L:=f2
  have hD1:s₁.heap.get? s₂.heap.objs.size=none:=back1 _ hDnone
  have lea:Le false gh' (gh'.at Z'.m (s₂.heap.objs.size,[s₂.heap.objs.size])):=⟨λ_ _ e=>e,λj b fb e _=>⟨fb,by
   have:j≠Z'.m:=λq=>by rw [q,r'.new Z'.m (Nat.le_refl _)] at e;exact ax e
   exact(Gh.at_ne (this)).trans e⟩⟩
  obtain⟨r7,l7,k7⟩:=r6.adopt (h':=h6) (o':=.lst accF) (tk:=s'.toks) ro.tk ⟨_,hD6⟩ hDF hDL hDf (Heap.SameBut.refl _ _) ⟨_,hD6⟩
   ⟨rfl,_,vs,hD6,⟨nD,rfl⟩,bv.mono lea.F hacc,hlen⟩
  have x7:a8 false f.L gh₁ s₁ (gh'.at Z'.m (s₂.heap.objs.size,[s₂.heap.objs.size])) {s' with heap:=h6}:=by
   refine⟨x6.le.trans l7,λy o e hl hn=>x6.keep y o e hl hn,λy hy=> ?_,λy o e=>x6.fF y o e,x6.gens,x6.os,x6.drawn⟩
   rcases hy.at_ with z|⟨j,b,fb,_,e,z⟩
   ·rw [List.mem_singleton.mp z];exact .inr hD1
   ·exact x6.fp y ⟨j,b,fb,e,z⟩
  refine hp _ _ _ _ (.ob Z'.m) (x₁.trans r r₁ x7) r7 ⟨s₂.heap.objs.size,[s₂.heap.objs.size], ?_,rfl⟩ hnew
  show(if Z'.m=Z'.m then _ else _)=_
  rw [if_pos rfl]
end
end Mine.A
namespace Mine.A
section
variable {c:Cx} {g:G} {f:Fm} {d:Nat}
noncomputable def zD(c:Cx)(g:G)(f:Fm)(d:Nat)(op:BoolOp)(x:X)(es:List Expr):Prop:=
 ∀gh σ s A k Q pos,al c gh f.L σ s->bG d A->dO g x σ k->cN c f.L gh s k Q->wpAny (model c.prog c.w) A (boolOp pos op (evalEach es f.env)) Q bM s
noncomputable def zj(c:Cx)(g:G)(f:Fm)(d:Nat)(op:BoolOp)(x:X)(es:List Expr):Prop:=
 ∀gh σ s A (k:Bool->St->Prop) (Q:Bool->Shared->Prop),al c gh f.L σ s->bG d A->dO g x σ (λv σ=>ai (av σ.H v) λt=>k t σ)->
  (∀gh' Z' s' b,a8 false f.L gh s gh' s'->al c gh' f.L Z' s'->k b Z'->Q b s')->wpAny (model c.prog c.w) A (allTrue op es f.env) Q bM s
theorem rB{op:BoolOp}{x:X}{e:Expr}(h:SE c g f d x e):zD c g f d op x [e]:=by
 intro gh σ s A k Q pos r rm hev hp
 exact h gh σ s A k Q r rm hev hp
theorem zC{x y:X}{e e':Expr}{es:List Expr}(h:SE c g f d x e)(h':zD c g f d .And y (e'::es)):zD c g f d .And (.and x y) (e::e'::es):=by
 intro gh σ s A k Q pos r rm hev hp
 show wpAny _ A (do
  let v←eval e f.env
  standAt pos
  let t←holding [v] (truthy v)
  match BoolOp.And,t with
  | .And,false| .Or,true=>pure v
  |_,_=>boolOp pos .And (evalEach (e'::es) f.env)) Q bM s
 refine wpAny_bind (h gh σ s A _ _ r rm hev λgh₁ σ₁ s₁ v z x₁ r₁ hv hk=>wpAny_bind (wpAny_standAt (wpAny_bind (wpAny_holding ?_))))
 obtain⟨b,hb,hk⟩:=ab hk
 refine dH r₁ hv hb λtk ht=> ?_
 have x₂:=x₁.trans r r₁ (.toks false tk)
 induction b using Bool.casesOn with
 |false=>exact wpAny_pure (hp gh₁ σ₁ _ _ _ x₂ (r₁.toks ht) hv hk)
 |true=>exact h' gh₁ σ₁ _ A k Q pos (r₁.toks ht) rm hk λgh₂ σ₂ s₂ u y x₃ r₃ hu hk=>hp gh₂ σ₂ s₂ u y (x₂.trans r (r₁.toks ht) x₃) r₃ hu hk
theorem DJ{x y:X}{e e':Expr}{es:List Expr}(h:SE c g f d x e)(h':zD c g f d .Or y (e'::es)):zD c g f d .Or (.or x y) (e::e'::es):=by
 intro gh σ s A k Q pos r rm hev hp
 show wpAny _ A (do
  let v←eval e f.env
  standAt pos
  let t←holding [v] (truthy v)
  match BoolOp.Or,t with
  | .And,false| .Or,true=>pure v
  |_,_=>boolOp pos .Or (evalEach (e'::es) f.env)) Q bM s
 refine wpAny_bind (h gh σ s A _ _ r rm hev λgh₁ σ₁ s₁ v z x₁ r₁ hv hk=>wpAny_bind (wpAny_standAt (wpAny_bind (wpAny_holding ?_))))
 obtain⟨b,hb,hk⟩:=ab hk
 refine dH r₁ hv hb λtk ht=> ?_
 have x₂:=x₁.trans r r₁ (.toks false tk)
 induction b using Bool.casesOn with
 |true=>exact wpAny_pure (hp gh₁ σ₁ _ _ _ x₂ (r₁.toks ht) hv hk)
 |false=>exact h' gh₁ σ₁ _ A k Q pos (r₁.toks ht) rm hk λgh₂ σ₂ s₂ u y x₃ r₃ hu hk=>hp gh₂ σ₂ s₂ u y (x₂.trans r (r₁.toks ht) x₃) r₃ hu hk
theorem AE{op:BoolOp}{x:X}{es:List Expr}{pos:Pos}(h:zD c g f d op x es):SE c g f d x (.BoolOp op es pos):=by
 intro gh σ s A k Q r rm hev hp
 exact h gh σ s A k Q pos r rm hev hp
theorem rA{op:BoolOp}{x:X}{e:Expr}(h:ST c g f d x e):zj c g f d op x [e]:=by
 intro gh σ s A k Q r rm hev hp
 cases op with
 |And=>
  refine wpAny_allTrue_And_cons (h gh σ s A k _ r rm hev λgh₁ σ₁ s₁ b x₁ r₁ hk=> ?_)
  induction b using Bool.casesOn with
  |true=>exact wpAny_allTrue_And_nil (hp gh₁ σ₁ s₁ true x₁ r₁ hk)
  |false=>exact hp gh₁ σ₁ s₁ false x₁ r₁ hk
 |Or=>
  refine wpAny_allTrue_Or_cons (h gh σ s A k _ r rm hev λgh₁ σ₁ s₁ b x₁ r₁ hk=> ?_)
  induction b using Bool.casesOn with
  |true=>exact hp gh₁ σ₁ s₁ true x₁ r₁ hk
  |false=>exact wpAny_allTrue_Or_nil (hp gh₁ σ₁ s₁ false x₁ r₁ hk)
theorem um{H:List (Nat×AO)}{a:V}{P:Prop}{k:Bool->Prop}(b:Bool):(ai (av H a) λt=>br t (Bool.rec P (ai (av H a) λt=>k t) b) (Bool.rec (ai (av H a) λt=>k t) P b))=(ai (av H a) λt=>br t (Bool.rec P (k true) b) (Bool.rec (k false) P b)):=by
 cases h:av H a with
 |none=>rfl
 |some t=>induction t<;>induction b<;>rfl
theorem zi{x y:X}{e:Expr}{es:List Expr}(h:ST c g f d x e)(h':zj c g f d .And y es):zj c g f d .And (.and x y) (e::es):=by
 intro gh σ s A k Q r rm hev hp
 have hev:dO g x σ (λa s=>ai (av s.H a) λt=>br t (dO g y s λv σ=>ai (av σ.H v) λt=>k t σ) (ai (av s.H a) λt=>k t s)):=hev
 have he:(λ(a:V) (s:St)=>ai (av s.H a) λt=>br t (dO g y s λv σ=>ai (av σ.H v) λt=>k t σ) (ai (av s.H a) λt=>k t s))=λa s=>ai (av s.H a) λt=>br t (dO g y s λv σ=>ai (av σ.H v) λt=>k t σ) (k false s):=
  funext λa=>funext λs=>um false
 rw [he] at hev
 refine wpAny_allTrue_And_cons (h gh σ s A (λt s=>br t (dO g y s λv σ=>ai (av σ.H v) λt=>k t σ) (k false s)) _ r rm hev λgh₁ σ₁ s₁ b x₁ r₁ hk=> ?_)
 induction b using Bool.casesOn with
 |true=>exact h' gh₁ σ₁ s₁ A k Q r₁ rm hk λgh₂ σ₂ s₂ b x₂ r₂ hk=>hp gh₂ σ₂ s₂ b (x₁.trans r r₁ x₂) r₂ hk
 |false=>exact hp gh₁ σ₁ s₁ false x₁ r₁ hk
theorem Di{x y:X}{e:Expr}{es:List Expr}(h:ST c g f d x e)(h':zj c g f d .Or y es):zj c g f d .Or (.or x y) (e::es):=by
 intro gh σ s A k Q r rm hev hp
 have hev:dO g x σ (λa s=>ai (av s.H a) λt=>br t (ai (av s.H a) λt=>k t s) (dO g y s λv σ=>ai (av σ.H v) λt=>k t σ)):=hev
 have he:(λ(a:V) (s:St)=>ai (av s.H a) λt=>br t (ai (av s.H a) λt=>k t s) (dO g y s λv σ=>ai (av σ.H v) λt=>k t σ))=λa s=>ai (av s.H a) λt=>br t (k true s) (dO g y s λv σ=>ai (av σ.H v) λt=>k t σ):=
  funext λa=>funext λs=>um true
 rw [he] at hev
 refine wpAny_allTrue_Or_cons (h gh σ s A (λt s=>br t (k true s) (dO g y s λv σ=>ai (av σ.H v) λt=>k t σ)) _ r rm hev λgh₁ σ₁ s₁ b x₁ r₁ hk=> ?_)
 induction b using Bool.casesOn with
 |true=>exact hp gh₁ σ₁ s₁ true x₁ r₁ hk
 |false=>exact h' gh₁ σ₁ s₁ A k Q r₁ rm hk λgh₂ σ₂ s₂ b x₂ r₂ hk=>hp gh₂ σ₂ s₂ b (x₁.trans r r₁ x₂) r₂ hk
theorem AC{op:BoolOp}{x:X}{es:List Expr}{pos:Pos}(h:zj c g f d op x es):ST c g f d x (.BoolOp op es pos):=by
 intro gh σ s A k Q r rm hev hp
 exact wpAny_isTrue_BoolOp (h gh σ s A k Q r rm hev hp)
theorem Dl{t x y:X}{et e e':Expr}{pos:Pos}(ht:ST c g f d t et)(h:ST c g f d x e)(h':ST c g f d y e'):ST c g f d (.ife t x y) (.IfExp et e e' pos):=by
 intro gh σ s A k Q r rm hev hp
 rw [arm_isTrue_IfExp]
 refine wpAny_bind (ht gh σ s A (λb σ=>br b (dO g x σ λv σ=>ai (av σ.H v) λt=>k t σ) (dO g y σ λv σ=>ai (av σ.H v) λt=>k t σ)) _ r rm hev λgh₁ σ₁ s₁ b x₁ r₁ hk=> ?_)
 induction b using Bool.casesOn with
 |true=>exact h gh₁ σ₁ s₁ A k Q r₁ rm hk λgh₂ σ₂ s₂ b x₂ r₂ hk=>hp gh₂ σ₂ s₂ b (x₁.trans r r₁ x₂) r₂ hk
 |false=>exact h' gh₁ σ₁ s₁ A k Q r₁ rm hk λgh₂ σ₂ s₂ b x₂ r₂ hk=>hp gh₂ σ₂ s₂ b (x₁.trans r r₁ x₂) r₂ hk
end
end Mine.A
namespace Mine.A
structure gB (c:Cx) (g:G) (K:Frag) (p:CP) (loose:List PySem.Str) (mg mb:PySem.Str->Option Value) (d:Nat):Prop where
 Y:Ctx c K p loose mg mb
 YG:pR c K g
 can:∀n,g.canon n<64
 C:∀fa,bH false c fa d (g.call fa)
 noloop:∀lb,p.gen lb=false->∀v σ k,¬g.loop lb v σ k
section
variable {c:Cx} {g:G} {K:Frag} {p:CP} {loose:List PySem.Str} {mg mb:PySem.Str->Option Value} {d:Nat}
theorem eZ{f:Fm}{x:X}{e:Expr}(h:SE c g f d x e)(he:∀gl,isTrue e f.env gl=(do let v←gl;standAt e.pos;holding [v] (truthy v))):SE c g f d x e∧ST c g f d x e:=⟨h,HZ h he⟩
theorem cM{f:Fm}{e:Expr}:SE c g f d .bad e∧ST c g f d .bad e:=⟨λ_ _ _ _ _ _ _ _ hev _=>hev.elim,λ_ _ _ _ _ _ _ _ hev _=>hev.elim⟩
theorem gB.nm(S:gB c g K p loose mg mb d){x:PySem.Str}{i:Nat}(h:p.code x=some i):c.nm i=x:=(S.Y.code x i h).1
theorem gB.C1(S:gB c g K p loose mg mb d)(fa:Nat):bH false c fa (d+1) (g.call fa):=(S.C fa).mono (Nat.le_succ _)
noncomputable def Ln(c:Cx)(g:G)(p:CP)(d:Nat)(n:Nat):Prop:=∀(f:Fm) e,SE c g f (d+1) (cE p f.cs n e) e∧ST c g f (d+1) (cE p f.cs n e) e
noncomputable def Mb(c:Cx)(g:G)(p:CP)(d:Nat)(n:Nat):Prop:=∀(f:Fm) o,SO c g f (d+1) (cO p f.cs n o) o
noncomputable def Mc(c:Cx)(g:G)(p:CP)(d:Nat)(n:Nat):Prop:=∀(f:Fm) es,es.all cZ=true->ib c g f (d+1) (cL p f.cs n es) es
noncomputable def Mf(c:Cx)(g:G)(p:CP)(d:Nat)(n:Nat):Prop:=∀(f:Fm) es,(zD c g f (d+1) .And (cA p f.cs n es) es∧zj c g f (d+1) .And (cA p f.cs n es) es)∧(zD c g f (d+1) .Or (cR p f.cs n es) es∧zj c g f (d+1) .Or (cR p f.cs n es) es)
noncomputable def Me(c:Cx)(g:G)(p:CP)(d:Nat)(n:Nat):Prop:=∀(f:Fm) ks vs,SP c g f (d+1) (cD p f.cs n ks vs) ks vs
theorem lX{f:Fm}{op:BoolOp}{es:List Expr}:zD c g f d op .bad es∧zj c g f d op .bad es:=⟨λ_ _ _ _ _ _ _ _ _ hev _=>hev.elim,λ_ _ _ _ _ _ _ _ hev _=>hev.elim⟩
noncomputable abbrev mq(c:Cx)(g:G)(f:Fm)(d:Nat)(x:X)(e:Expr):Prop:=SE c g f d x e∧ST c g f d x e
theorem rK{e:Expr}{t:Option Expr×Option Expr×Option Expr}(h:tV e=some t):∃q,e=.Slice t.1 t.2.1 t.2.2 q:=by
 obtain⟨⟩:=e<;>first|exact ax h|(cases h;exact⟨_,rfl⟩)
theorem rL{e:Expr}:tV e=none->(match e with| .Slice .. =>false|_=>true)=true:=by
 obtain⟨⟩:=e<;>intro h<;>first|rfl|cases h
theorem sy{e:Expr}{i:Int}(h:yl e=some i):∃k q,e=.Constant (.int i) k q:=by
 obtain⟨⟩:=e<;>first|exact ax h|(rename_i c k q;induction c<;>first|exact ax h|(cases h;exact⟨k,q,rfl⟩))
theorem ki{e:Expr}{i:PySem.Str}(h:tP e=some i):∃k q,e=.Constant (.str i) k q:=by
 obtain⟨⟩:=e<;>first|exact ax h|(rename_i c k q;induction c<;>first|exact ax h|(cases h;exact⟨k,q,rfl⟩))
theorem sD{l:List Comprehension}{t:PySem.Str×Expr×List Expr}(h:yo l=some t):∃q,l=[⟨.Name t.1 q,t.2.1,t.2.2,0⟩]:=by
 induction l using List.casesOn with
 |nil=>exact ax h
 |cons a r=>
  obtain⟨tg,it,cds,as⟩:=a
  unfold yo at h
  dsimp only at h
  split at h
  ·rename_i hc
   rw [Bool.and_eq_true] at hc
   obtain rfl:=List.isEmpty_iff.mp hc.1
   obtain rfl:as=0:=beq_iff_eq.mp hc.2
   obtain⟨⟩:=tg<;>first|exact ax h|(cases h;exact⟨_,rfl⟩)
  ·exact ax h
theorem rS{x:PySem.Str}{as:List Expr}{ks:List Keyword}{t:PySem.Str×PySem.Str}(h:xA x as ks=some t):x="replace"∧ks=[]∧∃k1 p1 k2 p2,as=[.Constant (.str t.1) k1 p1,.Constant (.str t.2) k2 p2]:=by
 unfold xA at h
 split at h
 ·rename_i hc
  rw [Bool.and_eq_true] at hc
  refine⟨beq_iff_eq.mp hc.1,List.isEmpty_iff.mp hc.2, ?_⟩
  induction as using List.casesOn with
  |nil=>exact ax h
  |cons a r=>
   induction r using List.casesOn with
   |nil=>exact ax h
   |cons b r=>
    dsimp only at h
    split at h
    ·rename_i hr
     obtain rfl:=List.isEmpty_iff.mp hr
     cases ha:tP a with
     |none=>rw [ha] at h;exact ax h
     |some s=>
      cases hb:tP b with
      |none=>rw [ha,hb] at h;exact ax h
      |some z=>
       rw [ha,hb] at h
       obtain rfl:=Option.some.inj h
       obtain⟨k1,p1,rfl⟩:=ki ha
       obtain⟨k2,p2,rfl⟩:=ki hb
       exact⟨k1,p1,k2,p2,rfl⟩
    ·cases h
 ·exact ax h
theorem eN{α:Type}{f:Fm}{o:Option α}{k:α->X}{e:Expr}(h:∀a,o=some a->mq c g f d (k a) e):mq c g f d (oE o k) e:=by
 induction o using Option.casesOn with
 |none=>exact cM
 |some a=>exact h a rfl
theorem de{f:Fm}{b:Bool}{x:X}{e:Expr}(h:b=true->mq c g f d x e):mq c g f d (if b=true then x else .bad) e:=by
 induction b using Bool.casesOn with
 |false=>exact cM
 |true=>exact h rfl
theorem Eg{f:Fm}{o:UnaryOp}{a:Expr}{x:X}{q:Pos}(h:mq c g f d x a):mq c g f d (LX o a x) (.UnaryOp o a q):=by
 cases o with
 |Not=>exact⟨Dz h.1,Dk h.2⟩
 |USub=>
  show mq c g f d (match yl a with
   |some i=>.k (.int (-i))
   |none=>.neg x) _
  cases e:yl a with
  |none=>exact eZ (DB h.1) λ_=>rfl
  |some i=>
   obtain⟨k,q',rfl⟩:=sy e
   exact eZ zy λ_=>rfl
 |_=>exact cM
theorem uW{o:CmpOp}(h:vh o=true):o=.LtE:=by induction o<;>first|rfl|exact bU h
theorem Hr(S:gB c g K p loose mg mb d){f:Fm}{ops:List CmpOp}{bs:List Expr}{a:Expr}{A:X}{E:Expr->X}{q:Pos}(ha:SE c g f (d+1) A a)(hE:∀e,SE c g f (d+1) (E e) e):mq c g f (d+1) (L4 ops bs A E) (.Compare a ops bs q):=by
 induction ops using List.casesOn with
 |nil=>exact cM
 |cons o ops=>
  induction bs using List.casesOn with
  |nil=>exact cM
  |cons b bs=>
   induction ops using List.casesOn with
   |nil=>
    induction bs using List.casesOn with
    |nil=>
     show mq c g f (d+1) (if behindInMarks o b then .bad else .cmp (lW o) A (E b)) _
     cases hm:behindInMarks o b with
     |true=>exact cM
     |false=>exact⟨DG (Aj S.Y.X S.YG S.C1) ha (hE b) hm,Dm (Aj S.Y.X S.YG S.C1) ha (hE b) hm⟩
    |cons _ _=>exact cM
   |cons u ops=>
    induction bs using List.casesOn with
    |nil=>exact cM
    |cons b2 bs=>
     refine de λh=> ?_
     rw [Bool.and_eq_true,Bool.and_eq_true,Bool.and_eq_true] at h
     obtain⟨h1,h2,h3,h4⟩:=h
     obtain rfl:=uW h1
     obtain rfl:=uW h2
     obtain rfl:=List.isEmpty_iff.mp h3
     obtain rfl:=List.isEmpty_iff.mp h4
     exact⟨Dx ha (hE b) (hE b2),Dj ha (hE b) (hE b2)⟩
theorem EK{f:Fm}{o i:Expr}{xo xi:X}{O:Option Expr->X}{q:Pos}(ho:SE c g f d xo o)(hi:SE c g f d xi i)(hO:∀e,SO c g f d (O e) e):mq c g f d (LY (tV i) xo xi O) (.Subscript o i q):=by
 cases e:tV i with
 |none=>exact eZ (Dv (rL e) ho hi) λ_=>rfl
 |some t=>
  obtain⟨lo,hi',st⟩:=t
  obtain⟨q',rfl⟩:=rK e
  induction st using Option.casesOn with
  |none=>exact eZ (Dw ho (hO lo) (hO hi')) λ_=>rfl
  |some _=>exact cM
theorem F6(S:gB c g K p loose mg mb d){f:Fm}{cs:Scope}{gs:List Comprehension}{I E:Expr->X}{e:Expr}{q:Pos}(hI:∀e,SE c g f (d+1) (I e) e)(hE:∀(hk:cs.kind=.function) (C:Addr) (e:Expr),mq c g (D6 f cs hk C) (d+1) (E e) e):mq c g f (d+1) (LZ p cs (yo gs) I E e) (.ListComp e gs cs q):=by
 refine eN λt ht=>de λh=>eN λi hc=> ?_
 rw [Bool.and_eq_true,Bool.and_eq_true,Bool.not_eq_true'] at h
 obtain⟨q',rfl⟩:=sD ht
 obtain⟨x,it,ifs⟩:=t
 induction ifs using List.casesOn with
 |nil=>exact eZ (wD S.Y h.2.2 h.1 h.2.1 hc (hI it) (λC=>Ex) λC=>(hE _ C e).1) λ_=>rfl
 |cons cd r=>
  refine de λhr=> ?_
  obtain rfl:=List.isEmpty_iff.mp hr
  exact eZ (wD S.Y h.2.2 h.1 h.2.1 hc (hI it) (λC=>Eu (hE _ C cd).2) λC=>(hE _ C e).1) λ_=>rfl
theorem Gr(S:gB c g K p loose mg mb d){f:Fm}{x:PySem.Str}{as:List Expr}{L:X}{q q':Pos}(hl:eB f.cs x=true)(h:ib c g f (d+1) L as):mq c g f (d+1) (KO p x L) (.Call (.Name x q) as [] q'):=by
 unfold KO
 cases hg:p.glb x with
 |none=>
  refine eN λi hb=> ?_
  show mq c g f (d+1) (if i<3 then .fn i L else .bad) _
  by_cases hi:i<3
  ·rw [if_pos hi];exact eZ (H6 S.Y hl hg hb hi h) λ_=>rfl
  ·rw [if_neg hi];exact cM
 |some v=>
  induction v using V.casesOn with
  |st a=>
   show mq c g f (d+1) (if p.isC a=true then .new a L else .call a L) _
   cases p.isC a with
   |true=>exact eZ (DA S.Y S.YG S.C hl hg h) λ_=>rfl
   |false=>exact eZ (zB S.Y S.YG (S.C1 a) hl hg h) λ_=>rfl
  |_=>exact cM
theorem HB(S:gB c g K p loose mg mb d){f:Fm}{h:Expr}{as:List Expr}{ks:List Keyword}{q:Pos}{E:Expr->X}{L:List Expr->X}(hE:∀e,SE c g f (d+1) (E e) e)(hL:∀es,es.all cZ=true->ib c g f (d+1) (L es) es):mq c g f (d+1) (L5 p f.cs h as ks q E L) (.Call h as ks q):=by
 cases h with
 |Name x q'=>
  refine de λh=> ?_
  rw [Bool.and_eq_true,Bool.and_eq_true] at h
  obtain⟨h1,h2,h3⟩:=h
  obtain rfl:=List.isEmpty_iff.mp h1
  exact Gr S h2 (hL as h3)
 |Attribute o x apos=>
  refine de λh=> ?_
  rw [Bool.and_eq_true] at h
  cases e:xA x as ks with
  |some t=>
   obtain⟨rfl,rfl,k1,p1,k2,p2,rfl⟩:=rS e
   show mq c g f (d+1) (if(decide (t.1.cps.size<14)&&decide (t.2.cps.size<14))=true then .rep (E o) t.1.cps.toList t.2.cps.toList else .bad) _
   refine de λh4=> ?_
   rw [Bool.and_eq_true,decide_eq_true_eq,decide_eq_true_eq] at h4
   exact eZ (Dy S.Y h.1 h.2 h4.1 h4.2 (hE o)) λ_=>rfl
  |none=>
   show mq c g f (d+1) (if(decide (as.length+ks.length<29)&&(as++ks.map (·.value)).all cZ)=true then oE (p.code x) λi=>oE (D7 p ks) λl=>.meth (E o) i (L (as++ks.map (·.value))) l else .bad) _
   refine de λh4=>eN λi hc=>eN λl hk=> ?_
   rw [Bool.and_eq_true,decide_eq_true_eq] at h4
   exact eZ (zA S.Y S.YG A3 B2 S.C1 h.1 h.2 h4.1 (S.nm hc) hk (hE o) (hL _ h4.2)) λ_=>rfl
 |_=>exact cM
theorem A4(S:gB c g K p loose mg mb d){n:Nat}(hE:Ln c g p d n)(hO:Mb c g p d n)(hL:Mc c g p d n)(hB:Mf c g p d n)(hD:Me c g p d n):Ln c g p d (n+1):=by
 intro f e
 cases e with
 |Constant k q q'=>exact eZ wF λ_=>rfl
 |Name x q=>
  show mq c g f (d+1) (if bu f.cs x=true then oE (p.code x) .loc else if eB f.cs x=true then oE (p.glb x) .glo else .bad) _
  cases hl:bu f.cs x with
  |true=>exact eN λi hc=>eZ (DD S.Y hl hc) λ_=>rfl
  |false=>exact de λhg=>eN λv hc=>eZ (pO S.Y hg hc) λ_=>rfl
 |UnaryOp o a q=>exact Eg (hE f a)
 |BoolOp o l q=>
  cases o with
  |And=>exact⟨AE (hB f l).1.1,AC (hB f l).1.2⟩
  |Or=>exact⟨AE (hB f l).2.1,AC (hB f l).2.2⟩
 |Compare a ops bs q=>exact Hr S (hE f a).1 λe=>(hE f e).1
 |BinOp a op b q=>exact eN λo ho=>eZ (DH ho (hE f a).1 (hE f b).1 (DT ho)) λ_=>rfl
 |IfExp t a b q=>exact⟨DE (hE f t).2 (hE f a).1 (hE f b).1,Dl (hE f t).2 (hE f a).2 (hE f b).2⟩
 |Attribute o x q=>exact de λhb=>eN λi hc=>eZ (DI S.Y.X S.YG hb (S.nm hc) (hE f o).1) λ_=>rfl
 |Subscript o i q=>exact EK (hE f o).1 (hE f i).1 (hO f)
 |Tuple es _ q=>exact de λh=>eZ (Du (hL f es h).SL) λ_=>rfl
 |List es q=>exact de λh=>eZ (DC (hL f es h).SL) λ_=>rfl
 |Dict ks vs q=>
  refine de λh=> ?_
  rw [Bool.and_eq_true,Bool.and_eq_true,Bool.and_eq_true,Bool.not_eq_true',decide_eq_true_eq] at h
  obtain⟨⟨⟨h1,h2⟩,h3⟩,h4⟩:=h
  exact eZ (DF h1 (beq_iff_eq.mp h2) (List.isEmpty_eq_false_iff.mp h4) h3 (hD f ks vs)) λ_=>rfl
 |ListComp e gs cs q=>exact F6 S (λe=>(hE f e).1) λhk C e=>hE (D6 f cs hk C) e
 |Call h as ks q=>exact HB S (λe=>(hE f e).1) (hL f)
 |_=>exact cM
theorem eW(S:gB c g K p loose mg mb d):∀n,Ln c g p d n∧Mb c g p d n∧Mc c g p d n∧Mf c g p d n∧Me c g p d n:=by
 intro n
 induction n with
 |zero=>
  exact⟨λ_ _=>cM,λ_ _ _ _ _ _ _ _ _ _ hev _=>hev.elim,λ_ _ h=>.bad h,λ_ _=>⟨lX,lX⟩,λ_ _ _ _ _ _ _ _ _ _ _ _ hev _=>hev.elim⟩
 |succ n ih=>
  obtain⟨hE,hO,hL,hB,hD⟩:=ih
  refine⟨A4 S hE hO hL hB hD,λf o=> ?_,λf es h=> ?_,λf es=> ?_,λf ks vs=> ?_⟩
  ·induction o using Option.casesOn with
   |none=>exact zw
   |some e=>exact zv (hE f e).1
  ·induction es using List.casesOn with
   |nil=>exact .nil
   |cons e r=>
    rw [List.all_cons,Bool.and_eq_true] at h
    exact .cons h.1 (hE f e).1 (hL f r h.2)
  ·induction es using List.casesOn with
   |nil=>exact⟨lX,lX⟩
   |cons e r=>
    induction r using List.casesOn with
    |nil=>exact⟨⟨rB (hE f e).1,rA (hE f e).2⟩,rB (hE f e).1,rA (hE f e).2⟩
    |cons e' r=>exact⟨⟨zC (hE f e).1 (hB f (e'::r)).1.1,zi (hE f e).2 (hB f (e'::r)).1.2⟩,DJ (hE f e).1 (hB f (e'::r)).2.1,Di (hE f e).2 (hB f (e'::r)).2.2⟩
  ·have bad:∀ {ks vs},SP c g f (d+1) .bad ks vs:=λ_ _ _ _ _ _ _ _ _ hev _=>hev.elim
   induction ks using List.casesOn with
   |nil=>
    induction vs using List.casesOn with
    |nil=>exact Ds
    |cons _ _=>exact bad
   |cons k ks=>
    induction vs using List.casesOn with
    |nil=>exact bad
    |cons v vs=>
     induction k using Option.casesOn with
     |none=>exact bad
     |some k=>exact zu (hE f k).1 (hE f v).1 (hD f ks vs)
end
end Mine.A
namespace Mine.A
mutual
noncomputable def Ik(p:CP):Nat->Stmt->List Stmt
 |0,_=>[]
 |n+1,st=>
  match st with
  | .If _ a b _=>kT p n a++kT p n b
  | .While _ b _ _=>kT p n b
  | .For _ _ b _ pos=>if p.gen pos.line then [st]else kT p n b
  | .Try _ _ _ _ _=>[st]
  |_=>[]
noncomputable def kT(p:CP):Nat->List Stmt->List Stmt
 |0,_=>[]
 |_+1,[]=>[]
 |n+1,s::r=>Ik p n s++kT p n r
end
section
variable {c:Cx} {g:G} {K:Frag} {p:CP} {loose:List PySem.Str} {mg mb:PySem.Str->Option Value} {d:Nat}
theorem cJ{f:Fm}{st:Stmt}:SS c g f d .bad st:=λ_ _ _ _ _ _ _ _ hev _=>hev.elim
theorem C8{f:Fm}{st:List Stmt}:SB c g f d .bad st:=λ_ _ _ _ _ _ _ _ hev _=>hev.elim
theorem nX(S:gB c g K p loose mg mb d){f:Fm}{n:Nat}{es:List Expr}:∀ {ts:List (Option X×Nat)},cT p f.cs n es=some ts->TS c g f (d+1) p ts es:=by
 induction es with
 |nil=>intro ts h;obtain rfl:=Option.some.inj h;exact .nil
 |cons e r ih=>
  intro ts h
  cases e with
  |Name x q=>
   have h:(if bu f.cs x=true then az (p.code x) λi=>az (cT p f.cs n r) λl=>some ((none,i)::l)else none)=some ts:=h
   cases hl:bu f.cs x with
   |false=>rw [hl] at h;exact ax h
   |true=>
    rw [hl,if_pos rfl] at h
    obtain⟨i,hc,h1⟩:=aw h
    obtain⟨l,hr,h2⟩:=aw h1
    obtain rfl:=Option.some.inj h2
    exact .nm hl hc (ih hr)
  |Attribute o x q=>
   obtain⟨i,hc,h1⟩:=aw h
   obtain⟨l,hr,h2⟩:=aw h1
   obtain rfl:=Option.some.inj h2
   exact .att (S.nm hc) ((eW S n).1 f o).1 (ih hr)
  |_=>exact ax h
theorem vj{L:Addr}{op:Operator}{o:Nat}(ho:C2 op=some o)(h2:o<2):Ib c d L op o:=by
 induction op<;>cases ho<;>first|exact zI|exact zH|omega
theorem c9{α:Type}{f:Fm}{o:Option α}{k:α->S}{st:Stmt}(h:∀a,o=some a->SS c g f d (k a) st):SS c g f d (qA o k) st:=by
 induction o using Option.casesOn with
 |none=>exact cJ
 |some a=>exact h a rfl
theorem eS{f:Fm}{b:Bool}{x:S}{st:Stmt}(h:b=true->SS c g f d x st):SS c g f d (if b=true then x else .bad) st:=by
 induction b using Bool.casesOn with
 |false=>exact cJ
 |true=>exact h rfl
theorem o6{f:Fm}{b:Bool}{x:S}{st:Stmt}(h:b=false->SS c g f d x st):SS c g f d (if b=true then .bad else x) st:=by
 induction b using Bool.casesOn with
 |true=>exact cJ
 |false=>exact h rfl
theorem HP(S:gB c g K p loose mg mb d){f:Fm}{n:Nat}{t e:Expr}{q:Pos}(hn:d5 e=false):SS c g f (d+1) (L7 p f.cs n t e) (.Assign [t] e q):=by
 have hE:=(eW S n).1
 cases t with
 |Name x q'=>exact eS λhl=>c9 λi hc=>zs S.Y hn hl hc (hE f e).1
 |Attribute o x q'=>exact c9 λi hc=>zt S.Y.X S.YG S.can hn (S.nm hc) (hE f e).1 (hE f o).1
 |Subscript o i q'=>exact zr hn (hE f e).1 (hE f o).1 (hE f i).1
 |Tuple ts k q'=>exact o6 λht=>c9 λl hl=>zq S.Y S.YG S.can hn ht (nX S hl) (hE f e).1
 |_=>exact cJ
theorem HM(S:gB c g K p loose mg mb d){f:Fm}{n:Nat}{t e:Expr}{op:Operator}{q:Pos}:SS c g f (d+1) (L6 p f.cs n t op e) (.AugAssign t op e q):=by
 have hE:=(eW S n).1
 refine c9 λo ho=> ?_
 by_cases h2:o<2
 ·rw [if_pos h2]
  cases t with
  |Name x q'=>exact eS λhl=>c9 λi hc=>zn S.Y hl hc (vj ho h2) (hE f e).1
  |Attribute b x q'=>exact c9 λi hc=>zo S.Y.X S.YG S.can (S.nm hc) (vj ho h2) (hE f e).1 (hE f b).1
  |_=>exact cJ
 ·rw [if_neg h2];exact cJ
theorem kJ{sc:Scope}{k:Nat}{it:Expr}{as:List Expr}(h:za p sc k it=some as):∃x q q',it=.Call (.Name x q) as [] q'∧eB sc x=true∧p.blt x=some k∧p.glb x=none∧as.all cZ=true:=by
 cases it with
 |Call h1 as' ks q=>
  cases h1 with
  |Name x q'=>
   have h:(if(ks.isEmpty&&(eB sc x&&(p.blt x==some k&&((p.glb x).isNone&&as'.all cZ))))=true then some as' else none)=some as:=h
   split at h
   ·rename_i hc
    obtain rfl:=Option.some.inj h
    rw [Bool.and_eq_true,Bool.and_eq_true,Bool.and_eq_true,Bool.and_eq_true] at hc
    obtain⟨h1,h2,h3,h4,h5⟩:=hc
    obtain rfl:=List.isEmpty_iff.mp h1
    exact⟨x,q',q,rfl,h2,beq_iff_eq.mp h3,Option.isNone_iff_eq_none.mp h4,h5⟩
   ·exact ax h
  |_=>exact ax h
 |_=>exact ax h
theorem kx{sc:Scope}{e:Expr}{x:PySem.Str}(h:BO sc e=some x):∃q,e=.Name x q∧bu sc x=true:=by
 cases e with
 |Name y q=>
  have h:(if bu sc y=true then some y else none)=some x:=h
  split at h
  ·rename_i hl;obtain rfl:=Option.some.inj h;exact⟨q,rfl,hl⟩
  ·exact ax h
 |_=>exact ax h
theorem Gx(S:gB c g K p loose mg mb d){f:Fm}{n:Nat}{t it:Expr}{b:List Stmt}{B:Mine.A.S}{q:Pos}(hg:p.gen q.line=false)(hB:SB c g f (d+1) B b):SS c g f (d+1) (L3 p f.cs n t it q.line B) (.For t it b [] q):=by
 obtain⟨hE,_,hL,_,_⟩:=eW S n
 have loopOk:∀ {lb:Nat} {t:Expr} {b:List Stmt},p.gen lb=false->pP c g f (d+1) lb t b:=λhg _ _ _ _ _ _ _ _ _ _ _ hl _=>(S.noloop _ hg _ _ _ hl).elim
 cases t with
 |Name x q'=>
  refine eS λhl=>c9 λi hc=> ?_
  cases hr:za p f.cs 3 it with
  |some as=>
   obtain⟨y,q1,q2,rfl,h1,h2,h3,h4⟩:=kJ hr
   exact Dp S.Y hl hc h1 h3 h2 (hL f as h4) hB
  |none=>exact o6 λhs=>AD S.Y hs hl hc (hE f it).1 hB (loopOk hg)
 |Tuple es k q'=>
  induction es using List.casesOn with
  |nil=>exact cJ
  |cons a es=>
   induction es using List.casesOn with
   |nil=>exact cJ
   |cons b' es=>
    refine eS λhe=>c9 λy hy=>c9 λx hx=>c9 λi hc=>c9 λj hc'=>c9 λas has=> ?_
    obtain rfl:=List.isEmpty_iff.mp he
    obtain⟨q1,rfl,l1⟩:=kx hy
    obtain⟨q2,rfl,l2⟩:=kx hx
    induction as using List.casesOn with
    |nil=>exact cJ
    |cons w r=>
     refine eS λhr=> ?_
     obtain rfl:=List.isEmpty_iff.mp hr
     obtain⟨z,q3,q4,rfl,h1,h2,h3,h4⟩:=kJ has
     rw [List.all_cons,Bool.and_eq_true] at h4
     exact Dq S.Y l1 hc l2 hc' h1 h3 h2 h4.1 (hE f w).1 hB
 |_=>exact cJ
theorem tQ(S:gB c g K p loose mg mb d){n:Nat}(hB:∀(f:Fm) sts,(∀t∈kT p n sts,∀m,SS c g f (d+1) (cS p f.cs m t) t)->SB c g f (d+1) (cB p f.cs n sts) sts)(f:Fm)(st:Stmt)
  (hs:∀t∈Ik p (n+1) st,∀m,SS c g f (d+1) (cS p f.cs m t) t):SS c g f (d+1) (cS p f.cs (n+1) st) st:=by
 have hE:=(eW S n).1
 cases st with
 |Pass q=>exact zl
 |Break q=>exact Dr
 |Continue q=>exact zm
 |Return o q=>
  induction o using Option.casesOn with
  |none=>exact zk
  |some e=>exact Dn (hE f e).1
 |Expr e q=>exact o6 λh=>H5 h (hE f e).1
 |Assign ts e q=>
  induction ts using List.casesOn with
  |nil=>exact cJ
  |cons t r=>
   refine eS λh=> ?_
   rw [Bool.and_eq_true,Bool.not_eq_true'] at h
   obtain rfl:=List.isEmpty_iff.mp h.1
   exact HP S h.2
 |AugAssign t op e q=>exact HM S
 |If t a b q=>exact Do (hE f t).2 (hB f a λt ht m=>hs t (List.mem_append_left _ ht) m) (hB f b λt ht m=>hs t (List.mem_append_right _ ht) m)
 |While t b o q=>
  refine eS λh=> ?_
  obtain rfl:=List.isEmpty_iff.mp h
  exact H0 (hE f t).2 (hB f b hs)
 |For t it b o q=>
  cases hg:p.gen q.line with
  |true=>exact hs _ (show _∈(if p.gen q.line=true then [Stmt.For t it b o q]else kT p n b) by rw [if_pos hg];exact .head _) (n+1)
  |false=>
   refine eS λh=> ?_
   obtain rfl:=List.isEmpty_iff.mp h
   exact Gx S hg (hB f b λt' ht m=>hs t' (show t'∈(if p.gen q.line=true then _ else kT p n b) by rw [if_neg (by refine hg▸ ?_;decide)];exact ht) m)
 |Assert t m q=>
  refine eS λh=> ?_
  obtain rfl:=Option.isNone_iff_eq_none.mp h
  exact zp (hE f t).2
 |Try a b o fi q=>exact hs _ (.head _) (n+1)
 |_=>exact cJ
theorem dR(S:gB c g K p loose mg mb d):∀(n:Nat) (f:Fm) sts,(∀t∈kT p n sts,∀m,SS c g f (d+1) (cS p f.cs m t) t)->SB c g f (d+1) (cB p f.cs n sts) sts
 |0,f,sts,_=>C8
 |n+1,f,[],_=>DK
 |n+1,f,st::r,h=>by
  refine zE ?_ (dR S n f r λt ht m=>h t (List.mem_append_right _ ht) m)
  have hs:∀t∈Ik p n st,∀m,SS c g f (d+1) (cS p f.cs m t) t:=λt ht m=>h t (List.mem_append_left _ ht) m
  induction n using Nat.casesOn with
  |zero=>exact cJ
  |succ k=>exact tQ S (λf sts hh=>dR S k f sts hh) f st hs
end
end Mine.A
namespace Mine.A
section
variable {c:Cx} {gh gh':Gh} {L C:Addr} {σ Z':St} {s s':Shared}
structure tq (c:Cx) (gh:Gh) (C:Addr) (n0 i0:Nat) (s:Shared):Prop where
 ns:∃m,s.heap.Ns C m∧∃a ft,gh.φ i0=some (a,ft)∧m (c.nm n0)=some (.ref a)
 nF:gh.F C=none
 nf:¬bZ gh C
 big:c.base.objs.size≤C
variable {n0 i0:Nat}
theorem al.wake(r:al c gh L σ s)(f:tq c gh C n0 i0 s):al c gh C (cj σ [(n0,.ob i0)]) s:=by
 refine⟨r.frz,r.obs,r.sep,λx hx=>⟨(r.off x hx).1,λe=>f.nf (e▸hx),(r.off x hx).2.2⟩,f.nF, ?_,r.new,r.m64,r.dom,r.base,f.big,r.tk⟩
 obtain⟨m,N,a,ft,e1,e2⟩:=f.ns
 refine⟨m,N,λn v e=> ?_⟩
 have e:(if n=n0 then some (V.ob i0)else none)=some v:=by
  rw [←e];show _=lk n ((n0,V.ob i0)::[]);rw [aj];rfl
 split at e
 ·rename_i q;obtain rfl:=Option.some.inj e;subst q
  exact⟨_,e2,a,ft,e1,rfl⟩
 ·cases e
theorem al.sleep(r:al c gh L σ s)(f:tq c gh C n0 i0 s)(hLC:L≠C)(x:a8 false C gh s gh' s')(r':al c gh' C Z' s')(hl:lk n0 Z'.L=some (.ob i0)):al c gh' L (cj Z' σ.L) s'∧tq c gh' C n0 i0 s':=by
 have hLf:¬bZ gh L:=λh=>(r.off L h).2.1 rfl
 have kL:∀o,s.heap.get? L=some o->s'.heap.get? L=some o:=λo e=>x.keep L o e hLC hLf
 refine⟨⟨r'.frz,r'.obs,r'.sep,λy hy=> ?_, ?_, ?_,r'.new,r'.m64,r'.dom,r'.base,r.Lb,r'.tk⟩,⟨?_,r'.nL,λh=>(r'.off C h).2.1 rfl,f.big⟩⟩
 ·obtain⟨u,_,w⟩:=r'.off y hy
  refine⟨u,λq=> ?_,w⟩
  rcases x.fp y hy with k|k
  ·exact hLf (q▸k)
  ·obtain⟨o,e⟩:=r.L_there;rw [←q,k] at e;exact ax e
 ·cases q:gh'.F L with
  |none=>rfl
  |some o=>
   rcases x.fF L o q with k|k|k
   ·rw [r.nL] at k;exact ax k
   ·exact(hLf k).elim
   ·obtain⟨o,e⟩:=r.L_there;rw [k] at e;exact ax e
 ·obtain⟨m,N,hm⟩:=r.loc
  exact⟨m,eh kL N,λn v e=>let ⟨w,e1,e2⟩:=hm n v e;⟨w,e1,e2.mono x.le⟩⟩
 ·obtain⟨m,N,hm⟩:=r'.loc
  obtain⟨w,e1,a,ft,e2,rfl⟩:=hm n0 _ hl
  exact⟨m,N,a,ft,e2,e1⟩
theorem tq.there(f:tq c gh C n0 i0 s):∃o,s.heap.get? C=some o:=by
 obtain⟨m,⟨oL,_,_,hL,_⟩,_⟩:=f.ns
 exact⟨oL,hL⟩
theorem tq.step(f:tq c gh C n0 i0 s)(hLC:C≠L)(x:a8 false L gh s gh' s'):tq c gh' C n0 i0 s':=by
 have hex:=f.there
 refine⟨?_, ?_,λh=> ?_,f.big⟩
 ·obtain⟨m,N,a,ft,e1,e2⟩:=f.ns
  obtain⟨ft',e3⟩:=x.le.φ i0 a ft e1 (λq=>nomatch q)
  exact⟨m,eh (λo e=>x.keep C o e hLC f.nf) N,a,ft',e3,e2⟩
 ·cases q:gh'.F C with
  |none=>rfl
  |some o=>
   rcases x.fF C o q with k|k|k
   ·rw [f.nF] at k;exact ax k
   ·exact(f.nf k).elim
   ·obtain⟨o,e⟩:=hex;rw [k] at e;exact ax e
 ·rcases x.fp C h with k|k
  ·exact f.nf k
  ·obtain⟨o,e⟩:=hex;rw [k] at e;exact ax e
theorem a8.over{gh₀:Gh}{s0:Shared}(r:al c gh L σ s)(E:a8 false L gh₀ s0 gh s)(hC:s0.heap.get? C=none)(x:a8 false C gh s gh' s'):a8 false L gh₀ s0 gh' s':=by
 have out:∀z,s.heap.get? z=none->bZ gh₀ z∨s0.heap.get? z=none:=λz e=>by
  by_cases hz:bZ gh₀ z
  ·exact .inl hz
  ·refine .inr ?_
   cases q:s0.heap.get? z with
   |none=>rfl
   |some o=>
    by_cases hl:z=L
    ·obtain⟨oL,hL⟩:=r.L_there
     rw [←hl,e] at hL;exact ax hL
    ·replace e:=(E.keep z o q hl hz)▸e;cases e
 refine⟨E.le.trans x.le,λz o e hl hz=>x.keep z o (E.keep z o e hl hz) (λq=>by rw [q,hC] at e;exact ax e) λhf=> ?_,λz hz=> ?_,λz o hz=> ?_,E.gens.trans x.gens,x.os.trans E.os,x.drawn.trans E.drawn⟩
 ·rcases E.fp z hf with h|h
  ·exact hz h
  ·replace h:=e▸h;cases h
 ·rcases x.fp z hz with h|h
  ·exact E.fp z h
  ·exact out z h
 ·rcases x.fF z o hz with h|h|h
  ·exact E.fF z o h
  ·exact .inr (E.fp z h)
  ·exact .inr (out z h)
theorem al.setGen(r:al c gh L σ s)(i:Nat)(q:GenState):al c gh L σ (s.setGen i q):=⟨r.frz,r.obs,r.sep,r.off,r.nL,r.loc,r.new,r.m64,r.dom,r.base,r.Lb,r.tk⟩
theorem tq.setGen(f:tq c gh C n0 i0 s)(i:Nat)(q:GenState):tq c gh C n0 i0 (s.setGen i q):=⟨f.ns,f.nF,f.nf,f.big⟩
end
end Mine.A
namespace Mine.A
noncomputable def Iv(spec:List V->List Nat->List (Nat×AO)->(V->List (Nat×AO)->Prop)->Prop)(xs:List V)(kws:List Nat)(H:List (Nat×AO))(k:V->List (Nat×AO)->Prop):Prop:=
 H=[]∧spec xs kws [] λv _=>∃f,v=.c f∧k (.c f) []
theorem pS{c:Cx}{fa:Addr}{d:Nat}{spec:List V->List Nat->List (Nat×AO)->(V->List (Nat×AO)->Prop)->Prop}(h:bH false c fa d spec):bH false c fa d (Iv spec):=by
 intro gh H s A vs xs kws k R r hv rm hsp hp
 obtain⟨rfl,hsp⟩:=hsp
 refine h gh [] s A vs xs kws _ R r hv rm hsp λgh' s' v y H' x r' hv' hk=> ?_
 obtain⟨f,rfl,hk⟩:=hk
 refine hp ⟨gh'.F,λ_=>none⟩ s' v (.c f) [] ⟨⟨x.le.F,λi a ft e _=> ?_⟩,x.keep,λz hz=> ?_,x.fF,x.gens,x.os,x.drawn⟩ ⟨r'.frz,λi o e=>(nomatch e),λi j a ft b ft' e=>(nomatch e),λz hz=> ?_,λi p e=>(nomatch e),r'.base,r'.big,r'.tk⟩ hv' hk
 ·obtain⟨_,o,q⟩:=r.dom i _ e;exact ax q
 ·obtain⟨i,a,ft,e,_⟩:=hz;exact ax e
 ·obtain⟨i,a,ft,e,_⟩:=hz;exact ax e
end Mine.A
namespace Mine.A
noncomputable abbrev sq(g:G)(b:S)(K:Fl->St->Prop):Fl->St->Prop:=Ij (ex g b) K
section
variable {g:G} {s:St} {F:V->St->Prop} {k:List V->St->Prop} {K:Fl->St->Prop}
theorem du{b:Bool}{x y:Prop}(h1:b=true->x)(h2:b=false->y):br b x y:=by cases b;exact h2 rfl;exact h1 rfl
theorem bV{b:Bool}{x y:Prop}(h:b=true)(h1:x):br b x y:=by subst h;exact h1
theorem fu{b:Bool}{x y:Prop}(h:b=false)(h1:y):br b x y:=by subst h;exact h1
theorem aa{α:Type}{o:Option α}{a:α}{k:α->Prop}(h:o=some a)(h1:k a):ai o k:=by subst h;exact h1
theorem ci{f:FV}(h:F (.c f) s):ev g (.k f) s (one F):=h
theorem ad{n:Nat}(h:ai (lk n s.L) λv=>F v s):ev g (.loc n) s (one F):=h
theorem eg{v:V}(h:F v s):ev g (.glo v) s (one F):=h
theorem cr{o:X}{n:Nat}(h:ev g o s (one λo s=>nK g o n s F)):ev g (.att o n) s (one F):=h
theorem gv{o i:X}(h:ev g o s (one λo s=>ev g i s (one λi s=>oe o i s F))):ev g (.sub o i) s (one F):=h
theorem FI{o i j:X}(h:ev g o s (one λo s=>ev g i s (one λi s=>ev g j s (one λj s=>xm o i j s F)))):ev g (.slc o i j) s (one F):=h
theorem dJ{op:Nat}{a b:X}(h:ev g a s (one λa s=>ev g b s (one λb s=>j8 op a b s F))):ev g (.bin op a b) s (one F):=h
theorem bL{op:Nat}{a b:X}(h:ev g a s (one λa s=>ev g b s (one λb s=>nG g op a b s λv s=>F (.c (.bol v)) s))):ev g (.cmp op a b) s (one F):=h
theorem qC{a b:X}(h:ev g a s (one λa s=>ai (av s.H a) λt=>br t (ev g b s (one F)) (F a s))):ev g (.and a b) s (one F):=h
theorem xP{a b:X}(h:ev g a s (one λa s=>ai (av s.H a) λt=>br t (F a s) (ev g b s (one F)))):ev g (.or a b) s (one F):=h
theorem FJ{c a b:X}(h:ev g c s (one λc s=>ai (av s.H c) λt=>br t (ev g a s (one F)) (ev g b s (one F)))):ev g (.ife c a b) s (one F):=h
theorem ur{i:Nat}{a:X}(h:ev g a s λvs s=>D4 i vs s F):ev g (.fn i a) s (one F):=h
theorem il{f:Nat}{a:X}(h:ev g a s λvs s=>cC g f vs [] s F):ev g (.call f a) s (one F):=h
theorem b6{o a:X}{n:Nat}{kw:List Nat}(h:ev g o s (one λo s=>ai (iY g o n kw s) λm=>ev g a s λvs s=>gZ g m n vs kw s F)):ev g (.meth o n a kw) s (one F):=h
theorem kt{o:X}{a b:List Nat}(h:ev g o s (one λo s=>E8 a b o s F)):ev g (.rep o a b) s (one F):=h
theorem gr{l:X}(h:ev g l s λvs s=>ai (sF vs s.H) λr=>br (Nat.ble r.1.length 1000) (F (.c (.tup r.1)) (aR s r.2)) False):ev g (.tup l) s (one F):=h
theorem gX{l:X}(h:ev g l s λvs s=>ai (sF vs s.H) λr=>br (Nat.ble r.1.length 1000) (fg (.lst r.1) (aR s r.2) F) False):ev g (.lst l) s (one F):=h
theorem ut{l:X}(h:ev g l s λvs s=>ai (pq vs) λes=>fg (.dct (D3 es)) s F):ev g (.dct l) s (one F):=h
theorem jX{op:Nat}{a:V}{y:FV}{F:Bool->St->Prop}(h:cI op a (.c y) s λv=>F v s):nG g op a (.c y) s F:=h
theorem Lq{op i:Nat}{a:V}{F:Bool->St->Prop}(h:cI op a (.ob i) s λv=>F v s):nG g op a (.ob i) s F:=h
theorem Mk{x f:Nat}{a:V}{F:Bool->St->Prop}(h1:g.con x=some f)(h:cC g f [.st x,a] [] s λv s=>ai (av s.H v) λt=>F t s):nG g 8 a (.st x) s F:=aa h1 h
theorem rq{H:List (Nat×AO)}{i:Nat}{l:List FV}(h:lk i H=some (.lst l)):fC H (.ob i)=some (.lst l):=by
 show az (lk i H) _=_
 rw [h];rfl
theorem ay(h:k [] s):ev g .nil s k:=h
theorem ah{a b:X}(h:ev g a s (one λa s=>ev g b s λvs s=>k (a::vs) s)):ev g (.cons a b) s k:=h
theorem bD(h:K .nxt s):ex g .skip s K:=h
theorem jh{a b:S}(h:ex g a s (sq g b K)):ex g (.seq a b) s K:=h
theorem ie{b:S}(h:ex g b s K):sq g b K .nxt s:=h
theorem LA{b:S}{v:V}(h:K (.ret v) s):sq g b K (.ret v) s:=h
theorem kU{e:X}{b:S}(h:ev g e s (one λ_ s=>ex g b s K)):ex g (.seq (.ex e) b) s K:=h
theorem bE{n:Nat}{e:X}{b:S}(h:ev g e s (one λv s=>ex g b (cj s (put n v s.L)) K)):ex g (.seq (.asgN n e) b) s K:=h
theorem ou{o e:X}{n:Nat}{b:S}(h:ev g e s (one λv s=>ev g o s (one λo s=>eH g o n v s λs=>ex g b s K))):ex g (.seq (.asgA o n e) b) s K:=h
theorem Bf{n op:Nat}{e:X}{b:S}(h:ai (lk n s.L) λa=>ev g e s (one λb' s=>oR op a b' s λv s=>ex g b (cj s (put n v s.L)) K)):ex g (.seq (.augN n op e) b) s K:=h
theorem Bg{n op:Nat}{o e:X}{b:S}(h:ev g o s (one λo s=>nK g o n s λa s=>ev g e s (one λb' s=>oR op a b' s λv s=>eH g o n v s λs=>ex g b s K))):ex g (.seq (.augA o n op e) b) s K:=h
theorem dC{c:X}{x y b:S}(h:ev g c s (one λv s=>ai (av s.H v) λt=>br t (ex g x s (sq g b K)) (ex g y s (sq g b K)))):ex g (.seq (.iff c x y) b) s K:=h
theorem iI{e:X}{b:S}(h:ev g e s (one λv s=>K (.ret v) s)):ex g (.seq (.ret e) b) s K:=h
theorem bF{i n C:Nat}{d:List (Nat×V)}{v:V}(h1:lk i s.H=some (.inst C d))(h2:lk n d=some v)(h3:g.own C n=true)(h:F v s):nK g (.ob i) n s F:=by
 refine aa h1 ?_
 show pJ g i n s F C d
 unfold pJ
 rw [h2];exact bV h3 h
theorem HU{i n C f:Nat}{d:List (Nat×V)}(h1:lk i s.H=some (.inst C d))(h2:lk n d=none)(h3:g.cls C n=some f)(h:F (.mth f i) s):nK g (.ob i) n s F:=by
 refine aa h1 ?_
 show pJ g i n s F C d
 unfold pJ
 rw [h2,h3];exact h
theorem HT{a n:Nat}{v:V}(h1:g.satt a n=some v)(h:F v s):nK g (.st a) n s F:=aa h1 h
theorem Ih{i n C:Nat}{d:List (Nat×V)}{v:V}{k:St->Prop}(hc:g.canon n=0)(h1:lk i s.H=some (.inst C d))(h2:Bool.and (g.own C n) (Nat.ble d.length 900)=true)(h:k (aR s (put i (.inst C (put n v d)) s.H))):eH g (.ob i) n v s k:=by
 refine aa rfl ?_
 rw [hc]
 show ai (zh (lk i s.H)) _
 rw [h1];exact bV h2 h
theorem Ml{i n C c j:Nat}{o:AO}{d:List (Nat×V)}{k:St->Prop}(hc:g.canon n=c+1)(hf:Nat.beq (c+1) 63=false)(hj:Nat.ble 64 j=true)(h3:lk j s.H=some o)(h4:lk (c+1) s.H=none)(h1:lk i (iT j s.H++[(c+1,o)])=some (.inst C d))(h2:Bool.and (g.own C n) (Nat.ble d.length 900)=true)
  (h:k (aR s (put i (.inst C (put n (.ob (c+1)) d)) (iT j s.H++[(c+1,o)])))):eH g (.ob i) n (.ob j) s k:=by
 refine aa rfl ?_
 rw [hc]
 unfold Im
 rw [hf]
 show br (Nat.ble 64 j) _ _
 refine bV hj (aa h3 ?_)
 rw [h4]
 show ai (zh (lk i (iT j s.H++[(c+1,o)]))) _
 rw [h1];exact bV h2 h
theorem jH{f:Nat}{vs:List V}{kw:List Nat}(hf:g.fn f=true)(hv:vs.all jD=true)(hl:((lo s.H).all λp=>io p.2)=true)(h:g.call f vs kw (lo s.H) λv H=>F v (aR s (H++hi s.H))):cC g f vs kw s F:=
 bV (by rw [hf,hv,hl];rfl) h
theorem oG{f n:Nat}{v:V}{vs:List V}{kw:List Nat}(h:cC g f (v::vs) kw s F):gZ g (.fn f v) n vs kw s F:=h
theorem FR{f j n:Nat}{vs:List V}{kw:List Nat}(h:cC g f (.ob j::vs) kw s F):gZ g (.own f j) n vs kw s F:=h
theorem K2{a b:Int}(h:F (.c (.int (a+b))) s):j8 0 (.c (.int a)) (.c (.int b)) s F:=h
theorem wv{a b:List Nat}(h1:a.length+b.length≤16777216)(h:F (.c (.str (a++b))) s):j8 0 (.c (.str a)) (.c (.str b)) s F:=⟨h1,h⟩
theorem GT{l:List Nat}(h:F (.c (.int l.length)) s):D4 0 [.c (.str l)] s F:=h
theorem sb{o:AO}(h:F (.ob s.m) ⟨s.L,(s.m,o)::s.H,s.m+1,s.vl⟩):fg o s F:=h
theorem t7{ts:List (Option X×Nat)}{e:X}{b:S}(h:ev g e s (one λv s=>tu g ts v s λs=>ex g b s K)):ex g (.seq (.asgT ts e) b) s K:=h
theorem El{ts:List (Option X×Nat)}{l:List FV}{k:St->Prop}(e:Nat.beq ts.length l.length=true)(h:D0 g ts l s k):tu g ts (.c (.tup l)) s k:=bV e h
theorem zL{k:St->Prop}(h:k s):D0 g [] [] s k:=h
theorem pV{n:Nat}{ts:List (Option X×Nat)}{f:FV}{l:List FV}{k:St->Prop}(h:D0 g ts l (cj s (put n (.c f) s.L)) k):D0 g ((none,n)::ts) (f::l) s k:=h
theorem EW{lb:Nat}{ns:List Nat}{it:X}{b c:S}(h:ev g it s (one λv s=>Option.rec (g.loop lb [v] s (sq g c K)) (λr=>dM (ex g b) (dZ ns) r.1 r.2 (sq g c K)) (vd v s))):ex g (.seq (.fr lb ns it b) c) s K:=h
theorem lG{B:St->(Fl->St->Prop)->Prop}{tk:FV->List (Nat×V)->Option (List (Nat×V))}(h:K .nxt s):dM B tk [] s K:=h
noncomputable abbrev fo(B:St->(Fl->St->Prop)->Prop)(tk:FV->List (Nat×V)->Option (List (Nat×V)))(l:List FV)(K:Fl->St->Prop):Fl->St->Prop:=Km (dM B tk l) K
theorem jM{B:St->(Fl->St->Prop)->Prop}{tk:FV->List (Nat×V)->Option (List (Nat×V))}{x:FV}{l:List FV}(h:ai (tk x s.L) λL=>B (cj s L) (fo B tk l K)):dM B tk (x::l) s K:=h
noncomputable abbrev wo(P:St->Prop)(K:Fl->St->Prop):Fl->St->Prop:=IB P K
noncomputable def wt(g:G)(c:X)(b:S)(K:Fl->St->Prop)(P:St->Prop)(s:St):Prop:=ev g c s (one λv s=>ai (av s.H v) λt=>br t (ex g b s (wo P K)) (K .nxt s))
theorem Bc{lb:Nat}{c:X}{b r:S}(h:∀P:St->Prop,(∀s,wt g c b (sq g r K) P s->P s)->P s):ex g (.seq (.wh lb c b) r) s K:=h
theorem w5{i j:Int}{k:Bool->Prop}(h:k (decide (i=j))):cI 0 (.c (.int i)) (.c (.int j)) s k:=h
theorem IR{i j:Int}{k:Bool->Prop}(h:k (!decide (i=j))):cI 1 (.c (.int i)) (.c (.int j)) s k:=h
theorem IQ{i j:Int}{k:Bool->Prop}(h:k (decide (j<i))):cI 4 (.c (.int i)) (.c (.int j)) s k:=h
theorem ED{v:V}{b:Bool}{k:Bool->Prop}(e:iN v=some b)(h:k b):cI 6 v (.c .non) s k:=aa e h
theorem Ey{a b:List Nat}{k:Bool->Prop}(h:k (decide (a=b))):cI 0 (.c (.str a)) (.c (.str b)) s k:=by
 rw [←cv] at h;exact h
end
end Mine.A
namespace Mine.Head
abbrev pw:Program:=PySem.Challenge.pw_te0042_01
def stmts:List Stmt:=pw.main.body
def st(i:Nat):Stmt:=stmts.getD i default
def wa:Stmt->List Stmt
 | .ClassDef _ _ _ b _ _ _ _ _ _ _=>b
 |_=>[]
def me(i j:Nat):Stmt:=(wa (st i)).getD j default
abbrev S(s:String)(t:Nat):Value:=.str (Str.ofString s) t
abbrev R(a:Nat):Value:=.ref a
def E(P:Params)(s:String)(t:Nat)(v:Value):DictEntry:=⟨PyData.keyHash P (Str.ofString s),.str (Str.ofString s) t,v⟩
def EI(h i:Int)(t:Nat)(v:Value):DictEntry:=⟨h,.int i t,v⟩
def tp(l:List Value):Obj:= {cls:=.type "tuple",data:=.seq l.toArray 0}
def ls(l:List Value)(n:Nat):Obj:= {cls:=.type "list",data:=.seq l.toArray n}
def tb(l:List Value):Obj:= {cls:=.none,data:=.fields l.toArray}
def dc(l:List DictEntry)(n:Nat):Obj:= {cls:=.type "dict",data:=.dict l.toArray n}
def fn(d:Stmt)(q:String)(dv kv doc pm cd ct:Value):Obj:=match d with
 | .FunctionDef name args body _ _ _ scope _ _ _=> {cls:=.type "function",data:=.func {name:=name,qualname:=Str.ofString q,params:=args,body:=.stmts body,scope:=scope,globals:=3,closure:=[],defaults:=dv,kwdefaults:=kv,doc:=doc,pyModule:=pm,code:=cd,closureTuple:=ct}}
 |_=>default
def pr(d:Stmt)(q:String):Obj:=match d with
 | .FunctionDef name args body _ _ _ scope _ _ _=> {cls:=.none,data:=.func {name:=name,qualname:=Str.ofString q,params:=args,body:=.stmts body,scope:=scope,globals:=0,closure:=[],defaults:=.none,kwdefaults:=.none}}
 |_=>default
def bt:Nat->List Obj->BT
 |0,_=>.nil
 |_+1,[]=>.nil
 |n+1,o::r=>.node o (bt n (odds r)) (bt n (evens r))
where
 odds:List Obj->List Obj
  | []=>[]
  | [a]=>[a]
  |a::_::r=>a::odds r
 evens:List Obj->List Obj
  | []=>[]
  | [_]=>[]
  |_::b::r=>b::evens r
def pt(l:List Obj):List (Nat×Obj)->List Obj
 | []=>l
 |(i,o)::r=>pt (l.set i o) r
abbrev M0:Value:=S "html5lib._tokenizer" 820
abbrev M1:Value:=S "html5lib._inputstream" 557
abbrev M2:Value:=S "html5lib._trie.py" 731
abbrev M3:Value:=S "law_te0042_01" 1473
abbrev I(i:Nat)(t:Nat):Value:=.int (Int.ofNat i) t
def ER(P:Params)(s:String)(t v:Nat):DictEntry:=E P s t (R v)
def ES(P:Params)(s:String)(t:Nat)(v:String)(u:Nat):DictEntry:=E P s t (S v u)
def EB(P:Params)(s:String)(t:Nat):DictEntry:=E P s t (.builtin s)
def ET(P:Params)(s:String)(t:Nat):DictEntry:=E P s t (.type s)
def JP:List Value:=[S "AMP" 292,S "AMP;" 295,S "Eacute" 298,S "Eacute;" 301,S "Mopf;" 304,S "ac;" 307,S "acE;" 310,S "acute" 313,S "acute;" 316,S "amp" 319,S "amp;" 322,S "ang;" 325,S "angle;" 328,S "bne;" 331,S "copy" 334,S "copy;" 337,S "eacute" 340,S "eacute;" 343,S "frac12" 346,S "frac12;" 349,S "gt" 352,S "gt;" 355,S "lt" 358,S "lt;" 361,S "nbsp" 364,S "nbsp;" 367,S "not" 370,S "not;" 373,S "notin;" 376,S "notni;" 379,S "para" 382,S "para;" 385,S "parallel;" 388,S "quot" 391,S "quot;" 394,S "sup1" 396,S "sup1;" 398,S "sup2" 400,S "sup2;" 402,S "sup;" 404,S "times" 406,S "times;" 408,S "timesb;" 410]
def LJ:List Value:=[S "a" 197,S "b" 198,S "c" 199,S "d" 200,S "e" 201,S "f" 202,S "g" 203,S "h" 204,S "i" 205,S "j" 206,S "k" 207,S "l" 208,S "m" 209,S "n" 210,S "o" 211,S "p" 212,S "q" 213,S "r" 214,S "s" 215,S "t" 216,S "u" 217,S "v" 218,S "w" 219,S "x" 220,S "y" 221,S "z" 222,S "A" 223,S "B" 224,S "C" 225,S "D" 226,S "E" 227,S "F" 228,S "G" 229,S "H" 230,S "I" 231,S "J" 232,S "K" 233,S "L" 234,S "M" 235,S "N" 236,S "O" 237,S "P" 238,S "Q" 239,S "R" 240,S "S" 241,S "T" 242,S "U" 243,S "V" 244,S "W" 245,S "X" 246,S "Y" 247,S "Z" 248]
def LI:List Value:=[S "0" 263,S "1" 264,S "2" 265,S "3" 266,S "4" 267,S "5" 268,S "6" 269,S "7" 270,S "8" 271,S "9" 272,S "a" 273,S "b" 274,S "c" 275,S "d" 276,S "e" 277,S "f" 278,S "A" 279,S "B" 280,S "C" 281,S "D" 282,S "E" 283,S "F" 284]
noncomputable def LT(P:Params):List DictEntry:=[ES P "eacute;" 343 "é" 344,ES P "frac12" 346 "½" 347,ES P "frac12;" 349 "½" 350,ES P "gt" 352 ">" 353,ES P "gt;" 355 ">" 356,ES P "lt" 358 "<" 359,ES P "lt;" 361 "<" 362,ES P "nbsp" 364 "\u00a0" 365,ES P "nbsp;" 367 "\u00a0" 368,ES P "not" 370 "¬" 371,ES P "not;" 373 "¬" 374,ES P "notin;" 376 "∉" 377,ES P "notni;" 379 "∌" 380,ES P "para" 382 "¶" 383,ES P "para;" 385 "¶" 386,ES P "parallel;" 388 "∥" 389,E P "quot" 391 (S "\"" 392)]
noncomputable def LS(P:Params):List DictEntry:=[EI 143 143 473 (S "\u008f" 474),EI 144 144 476 (S "\u0090" 477),EI 145 145 479 (S "‘" 480),EI 146 146 482 (S "’" 483),EI 147 147 485 (S "“" 486),EI 148 148 488 (S "”" 489),EI 149 149 491 (S "•" 492),EI 150 150 494 (S "–" 495),EI 151 151 497 (S "—" 498),EI 152 152 500 (S "˜" 501),EI 153 153 503 (S "™" 504),EI 154 154 506 (S "š" 507),EI 155 155 509 (S "›" 510),EI 156 156 512 (S "œ" 513),EI 157 157 515 (S "\u009d" 516),EI 158 158 518 (S "ž" 519),EI 159 159 521 (S "Ÿ" 522)]
noncomputable def LR(P:Params):List DictEntry:=[E P "__firstlineno__" 616 (.int 26 615),E P "_defaultChunkSize" 618 (.int 10240 617),ER P "__init__" 626 91,ER P "reset" 633 98,ER P "openStream" 642 105,ER P "_position" 655 112,ER P "position" 664 119,ER P "char" 673 126,ER P "readChunk" 683 134,ER P "characterErrorsUCS4" 692 141,ER P "charsUntil" 704 149,ER P "unget" 712 156,ER P "__static_attributes__" 723 157]
noncomputable def LQ(P:Params):List DictEntry:=[E P "__firstlineno__" 756 (.int 141 755),ER P "__init__" 764 185,ER P "__contains__" 772 192,ER P "__len__" 779 199,ER P "__getitem__" 787 206,ER P "has_keys_with_prefix" 798 213,ER P "longest_prefix" 807 220,ER P "__static_attributes__" 812 221]
noncomputable def LP(P:Params):List DictEntry:=[E P "__firstlineno__" 848 (.int 179 847),ER P "__init__" 857 254,ER P "__iter__" 864 261,ER P "consumeNumberEntity" 879 268,ER P "consumeEntity" 894 276,ER P "processEntityInAttribute" 902 283,ER P "emitCurrentToken" 912 290,ER P "dataState" 921 297,ER P "entityDataState" 928 304,ER P "rcdataState" 937 311,ER P "characterReferenceInRcdata" 944 318,ER P "rawtextState" 953 325,ER P "scriptDataState" 962 332,ER P "plaintextState" 970 339,ER P "tagOpenState" 978 346,ER P "closeTagOpenState" 986 353,ER P "tagNameState" 994 360,ER P "rcdataLessThanSignState" 1002 367,ER P "rcdataEndTagOpenState" 1010 374,ER P "rcdataEndTagNameState" 1019 381,ER P "rawtextLessThanSignState" 1027 388,ER P "rawtextEndTagOpenState" 1035 395,ER P "rawtextEndTagNameState" 1044 402,ER P "scriptDataLessThanSignState" 1052 409,ER P "scriptDataEndTagOpenState" 1060 416,ER P "scriptDataEndTagNameState" 1069 423,ER P "scriptDataEscapeStartState" 1077 430,ER P "scriptDataEscapeStartDashState" 1085 437,ER P "scriptDataEscapedState" 1094 444,ER P "scriptDataEscapedDashState" 1102 451,ER P "scriptDataEscapedDashDashState" 1110 458,ER P "scriptDataEscapedLessThanSignState" 1118 465,ER P "scriptDataEscapedEndTagOpenState" 1126 472,ER P "scriptDataEscapedEndTagNameState" 1135 479,ER P "scriptDataDoubleEscapeStartState" 1143 486,ER P "scriptDataDoubleEscapedState" 1151 493,ER P "scriptDataDoubleEscapedDashState" 1159 500,ER P "scriptDataDoubleEscapedDashDashState" 1167 507,ER P "scriptDataDoubleEscapedLessThanSignState" 1175 514,ER P "scriptDataDoubleEscapeEndState" 1183 521,ER P "beforeAttributeNameState" 1191 528,ER P "attributeNameState" 1203 535,ER P "afterAttributeNameState" 1211 542,ER P "beforeAttributeValueState" 1219 549,ER P "attributeValueDoubleQuotedState" 1227 556,ER P "attributeValueSingleQuotedState" 1235 563,ER P "attributeValueUnQuotedState" 1243 570,ER P "afterAttributeValueState" 1251 577,ER P "selfClosingStartTagState" 1259 584,ER P "bogusCommentState" 1267 591,ER P "markupDeclarationOpenState" 1277 598,ER P "commentStartState" 1285 605,ER P "commentStartDashState" 1293 612,ER P "commentState" 1301 619,ER P "commentEndDashState" 1309 626,ER P "commentEndState" 1317 633,ER P "commentEndBangState" 1325 640,ER P "doctypeState" 1333 647,ER P "beforeDoctypeNameState" 1341 654,ER P "doctypeNameState" 1349 661,ER P "afterDoctypeNameState" 1359 668,ER P "afterDoctypePublicKeywordState" 1367 675,ER P "beforeDoctypePublicIdentifierState" 1375 682,ER P "doctypePublicIdentifierDoubleQuotedState" 1383 689,ER P "doctypePublicIdentifierSingleQuotedState" 1391 696,ER P "afterDoctypePublicIdentifierState" 1399 703,ER P "betweenDoctypePublicAndSystemIdentifiersState" 1407 710,ER P "afterDoctypeSystemKeywordState" 1415 717,ER P "beforeDoctypeSystemIdentifierState" 1423 724,ER P "doctypeSystemIdentifierDoubleQuotedState" 1431 731,ER P "doctypeSystemIdentifierSingleQuotedState" 1439 738,ER P "afterDoctypeSystemIdentifierState" 1447 745,ER P "bogusDoctypeState" 1455 752,ER P "__static_attributes__" 1465 753]
noncomputable def mt(d:Stmt)(s q:String)(a n l x p:Nat)(dv m:Value)(r:List Obj):List Obj:=pr d q::(⟨.type "code",none,.fields [S s a,S q (a+1),S "/claim/cut.py" (a+2),I l 0,I n 0,I 0 0,I 0 0,I 3 0,R x,.bool true,I 181 0,R (x+1),.none,R (x+2),R (x+3),R (x+4),I p 0,I l 0,S "/claim/cut.py" (p+1)].toArray,[].toArray⟩:Obj)::fn d q dv .none .none m (R (x+5)) .none::r
noncomputable def Kw(P:Params):List Obj:=
dc [ES P "__name__" 1 "builtins" 160,E P "__doc__" 2 (.builtin "builtins.__doc__:str#opaque"),E P "__package__" 3 (.builtin "builtins.__package__:str#opaque"),E P "__loader__" 4 (.builtin "builtins.__loader__:shared#opaque"),E P "__spec__" 5 (.builtin "builtins.__spec__#opaque"),EB P "__build_class__" 6,EB P "__import__" 7,EB P "abs" 8,EB P "all" 9,EB P "any" 10,EB P "ascii" 11,EB P "bin" 12,EB P "breakpoint" 13,EB P "callable" 14,EB P "chr" 15,EB P "compile" 16,EB P "delattr" 17,EB P "dir" 18,EB P "divmod" 19,EB P "eval" 20,EB P "exec" 21,EB P "format" 22,EB P "getattr" 23,EB P "globals" 24,EB P "hasattr" 25,EB P "hash" 26,EB P "hex" 27,EB P "id" 28,EB P "input" 29,EB P "isinstance" 30,EB P "issubclass" 31,EB P "iter" 32,EB P "aiter" 33,EB P "len" 34,EB P "locals" 35,EB P "max" 36,EB P "min" 37,EB P "next" 38,EB P "anext" 39,EB P "oct" 40,EB P "ord" 41,EB P "pow" 42,EB P "print" 43,EB P "repr" 44,EB P "round" 45,EB P "setattr" 46,EB P "sorted" 47,EB P "sum" 48,EB P "vars" 49,E P "None" 50 .none,E P "Ellipsis" 51 .ellipsis,E P "NotImplemented" 52 .notImplemented,E P "False" 53 (.bool false),E P "True" 54 (.bool true),ET P "bool" 55,ET P "memoryview" 56,ET P "bytearray" 57,ET P "bytes" 58,ET P "classmethod" 59,ET P "complex" 60,ET P "dict" 61,ET P "enumerate" 62,ET P "filter" 63,ET P "float" 64,ET P "frozenset" 65,ET P "property" 66,ET P "int" 67,ET P "list" 68,ET P "map" 69,ET P "object" 70,ET P "range" 71,ET P "reversed" 72,ET P "set" 73,ET P "slice" 74,ET P "staticmethod" 75,ET P "str" 76,ET P "super" 77,ET P "tuple" 78,ET P "type" 79,ET P "zip" 80,E P "__debug__" 81 (.bool true),ET P "BaseException" 82,ET P "BaseExceptionGroup" 83,ET P "Exception" 84,ET P "GeneratorExit" 85,ET P "KeyboardInterrupt" 86,ET P "SystemExit" 87,ET P "ArithmeticError" 88,ET P "AssertionError" 89,ET P "AttributeError" 90,ET P "BufferError" 91,ET P "EOFError" 92,ET P "ImportError" 93,ET P "LookupError" 94,ET P "MemoryError" 95,ET P "NameError" 96,ET P "OSError" 97,ET P "ReferenceError" 98,ET P "RuntimeError" 99,ET P "StopAsyncIteration" 100,ET P "StopIteration" 101,ET P "SyntaxError" 102,ET P "SystemError" 103,ET P "TypeError" 104,ET P "ValueError" 105,ET P "Warning" 106,ET P "FloatingPointError" 107,ET P "OverflowError" 108,ET P "ZeroDivisionError" 109,ET P "BytesWarning" 110,ET P "DeprecationWarning" 111,ET P "EncodingWarning" 112,ET P "FutureWarning" 113,ET P "ImportWarning" 114,ET P "PendingDeprecationWarning" 115,ET P "ResourceWarning" 116,ET P "RuntimeWarning" 117,ET P "SyntaxWarning" 118,ET P "UnicodeWarning" 119,ET P "UserWarning" 120,ET P "BlockingIOError" 121,ET P "ChildProcessError" 122,ET P "ConnectionError" 123,ET P "FileExistsError" 124,ET P "FileNotFoundError" 125,ET P "InterruptedError" 126,ET P "IsADirectoryError" 127,ET P "NotADirectoryError" 128,ET P "PermissionError" 129,ET P "ProcessLookupError" 130,ET P "TimeoutError" 131,ET P "IndentationError" 132,ET P "_IncompleteInputError" 133,ET P "IndexError" 134,ET P "KeyError" 135,ET P "ModuleNotFoundError" 136,ET P "NotImplementedError" 137,ET P "PythonFinalizationError" 138,ET P "RecursionError" 139,ET P "UnboundLocalError" 140,ET P "UnicodeError" 141,ET P "BrokenPipeError" 142,ET P "ConnectionAbortedError" 143,ET P "ConnectionRefusedError" 144,ET P "ConnectionResetError" 145,ET P "TabError" 146,ET P "UnicodeDecodeError" 147,ET P "UnicodeEncodeError" 148,ET P "UnicodeTranslateError" 149,ET P "ExceptionGroup" 150,E P "EnvironmentError" 151 (.type "OSError"),E P "IOError" 152 (.type "OSError"),EB P "open" 153,E P "quit" 154 (.builtin "builtins.quit#opaque"),E P "exit" 155 (.builtin "builtins.exit#opaque"),E P "copyright" 156 (.builtin "builtins.copyright#opaque"),E P "credits" 157 (.builtin "builtins.credits#opaque"),E P "license" 158 (.builtin "builtins.license#opaque"),E P "help" 159 (.builtin "builtins.help#opaque")] 159::
dc [ER P "builtins" 162 4,ER P "__main__" 163 5] 2::
(⟨.none,none,.dict [].toArray 0,[].toArray⟩:Obj)::
dc [ES P "__name__" 165 "law_te0042_01" 1473,E P "__doc__" 166 .none,E P "__package__" 167 .none,E P "__loader__" 168 (.builtin "__main__.__loader__#opaque"),E P "__spec__" 169 .none,ER P "__annotations__" 170 6,ER P "__builtins__" 171 4,ES P "__file__" 173 "/claim/cut.py" 172,E P "__cached__" 174 .none,E P "EOF" 189 .none,ER P "spaceCharacters" 195 15,ER P "asciiLetters" 249 20,ER P "digits" 261 25,ER P "hexDigits" 285 30,ER P "asciiLower" 291 35,ER P "entities" 421 36,ER P "replacementCharacters" 524 39,ER P "tokenTypes" 549 41,ER P "tagTokenTypes" 556 42,ER P "Text" 597 66,ER P "_is_invalid" 604 77,ER P "HTMLUnicodeInputStream" 730 159,ER P "bisect_left" 744 171,ER P "Trie" 819 223,ER P "entitiesTrie" 836 229,ER P "HTMLTokenizer" 1472 755,ER P "_law_PIECES" 1507 760,ER P "_law_run" 1520 767,ER P "_law_pieces" 1526 772,ER P "_law_joined" 1535 779,ER P "law" 1541 784] 31::
(⟨(.type "module"),(some 0),.plain,[].toArray⟩:Obj)::
(⟨(.type "module"),(some 3),.plain,[].toArray⟩:Obj)::
dc [] 0::
tp []::
tb []::
(⟨(.type "code"),none,.fields [(S "<module>" 176),(S "<module>" 177),(S "/claim/cut.py" 178),(.int 1 0),(.int 0 0),(.int 0 0),(.int 0 0),(.int 0 0),(R 7),(.bool false),(.int 175 0),(R 8),.none,.none,.none,.none,(.int 179 0),(.int 1 0),(S "/claim/cut.py" 180)].toArray,[].toArray⟩:Obj)::
(⟨(.type "frame"),none,.plain,[(some (R 9)),(some (R 3)),(some (R 3)),none,(some (S "__main__" 164)),none,(some (R 0))].toArray⟩:Obj)::
tp []::
tb [I 7 0,I 0 0,R 34,I 14 0,I 0 0,R 48,I 24 0,I 0 0,R 76,I 26 0,I 0 0,R 83,I 131 0,I 0 0,R 170,I 141 0,I 0 0,R 177,I 179 0,I 0 0,R 245,I 1519 0,I 0 0,R 766,I 1537 0,I 0 0,R 771,I 1539 0,I 0 0,R 778,I 1550 0,I 0 0,R 783]::
(⟨(.type "code"),none,.fields [(S "<module>" 182),(S "<module>" 183),(S "/claim/cut.py" 184),(.int 1 0),(.int 0 0),(.int 0 0),(.int 0 0),(.int 0 0),(R 11),(.bool false),(.int 181 0),(R 12),.none,.none,.none,.none,(.int 185 0),(.int 1 0),(S "/claim/cut.py" 186)].toArray,[].toArray⟩:Obj)::
(⟨(.type "frame"),none,.plain,[(some (R 13)),(some (R 3)),(some (R 3)),none,(some (S "__main__" 164)),none,(some (R 0))].toArray⟩:Obj)::
tp [S "\x09" 190,S "\x0a" 191,S "\x0c" 192,S " " 193,S "\x0d" 194]::
ls LJ 52::
(⟨(.type "str_ascii_iterator"),none,.fields [.none,(.int 52 0)].toArray,[].toArray⟩:Obj)::
tp []::
(⟨(.type "StopIteration"),none,.fields [(R 18),.none,.none,.none,(.bool false),.none].toArray,[].toArray⟩:Obj)::
tp LJ::
ls [S "0" 251,S "1" 252,S "2" 253,S "3" 254,S "4" 255,S "5" 256,S "6" 257,S "7" 258,S "8" 259,S "9" 260] 10::
(⟨(.type "str_ascii_iterator"),none,.fields [.none,(.int 10 0)].toArray,[].toArray⟩:Obj)::
tp []::
(⟨(.type "StopIteration"),none,.fields [(R 23),.none,.none,.none,(.bool false),.none].toArray,[].toArray⟩:Obj)::
tp [S "0" 251,S "1" 252,S "2" 253,S "3" 254,S "4" 255,S "5" 256,S "6" 257,S "7" 258,S "8" 259,S "9" 260]::
ls LI 22::
(⟨(.type "str_ascii_iterator"),none,.fields [.none,(.int 22 0)].toArray,[].toArray⟩:Obj)::
tp []::
(⟨(.type "StopIteration"),none,.fields [(R 28),.none,.none,.none,(.bool false),.none].toArray,[].toArray⟩:Obj)::
[]
noncomputable def o0(P:Params):List Obj:=
tp LI::
tp []::
tb []::
pr (st 6) "asciiLower"::
(⟨(.type "code"),none,.fields [(S "asciiLower" 286),(S "asciiLower" 287),(S "/claim/cut.py" 288),(.int 7 0),(.int 1 0),(.int 0 0),(.int 0 0),(.int 3 0),(R 31),(.bool true),(.int 181 0),(R 32),.none,.none,.none,(R 33),(.int 289 0),(.int 7 0),(S "/claim/cut.py" 290)].toArray,[].toArray⟩:Obj)::
fn (st 6) "asciiLower" .none .none .none (S "html5lib.constants" 187) (R 34) .none::
dc ([ES P "AMP" 292 "&" 293,ES P "AMP;" 295 "&" 296,ES P "Eacute" 298 "É" 299,ES P "Eacute;" 301 "É" 302,ES P "Mopf;" 304 "𝕄" 305,ES P "ac;" 307 "∾" 308,ES P "acE;" 310 "∾̳" 311,ES P "acute" 313 "´" 314,ES P "acute;" 316 "´" 317,ES P "amp" 319 "&" 320,ES P "amp;" 322 "&" 323,ES P "ang;" 325 "∠" 326,ES P "angle;" 328 "∠" 329,ES P "bne;" 331 "=⃥" 332,ES P "copy" 334 "©" 335,ES P "copy;" 337 "©" 338,ES P "eacute" 340 "é" 341]++(LT P++[E P "quot;" 394 (S "\"" 395),ES P "sup1" 396 "¹" 397,ES P "sup1;" 398 "¹" 399,ES P "sup2" 400 "²" 401,ES P "sup2;" 402 "²" 403,ES P "sup;" 404 "⊃" 405,ES P "times" 406 "×" 407,ES P "times;" 408 "×" 409,ES P "timesb;" 410 "⊠" 411])) 43::
dc (LT P) 17::
dc [E P "quot;" 394 (S "\"" 395),ES P "sup1" 396 "¹" 397,ES P "sup1;" 398 "¹" 399,ES P "sup2" 400 "²" 401,ES P "sup2;" 402 "²" 403,ES P "sup;" 404 "⊃" 405,ES P "times" 406 "×" 407,ES P "times;" 408 "×" 409,ES P "timesb;" 410 "⊠" 411] 9::
dc ([EI 0 0 422 (S "�" 423),EI 13 13 425 (S "\x0d" 426),EI 128 128 428 (S "€" 429),EI 129 129 431 (S "\u0081" 432),EI 130 130 434 (S "‚" 435),EI 131 131 437 (S "ƒ" 438),EI 132 132 440 (S "„" 441),EI 133 133 443 (S "…" 444),EI 134 134 446 (S "†" 447),EI 135 135 449 (S "‡" 450),EI 136 136 452 (S "ˆ" 453),EI 137 137 455 (S "‰" 456),EI 138 138 458 (S "Š" 459),EI 139 139 461 (S "‹" 462),EI 140 140 464 (S "Œ" 465),EI 141 141 467 (S "\u008d" 468),EI 142 142 470 (S "Ž" 471)]++LS P) 34::
dc (LS P) 17::
dc [E P "Doctype" 525 (.int 0 526),E P "Characters" 527 (.int 1 528),E P "SpaceCharacters" 529 (.int 2 530),E P "StartTag" 531 (.int 3 532),E P "EndTag" 533 (.int 4 534),E P "EmptyTag" 535 (.int 5 536),E P "Comment" 537 (.int 6 538),E P "ParseError" 539 (.int 7 540)] 8::
tp [I 3 532,I 4 534,I 5 536]::
tp [.type "object"]::
(⟨(.type "builtin_function_or_method"),none,.fields [(.builtin "type.__prepare__"),(.type "type")].toArray,[].toArray⟩:Obj)::
dc [ES P "__module__" 566 "html5lib._inputstream" 557,ES P "__qualname__" 568 "Text" 567,E P "__firstlineno__" 570 (.int 14 569),ER P "__init__" 578 56,ER P "read" 587 63,ER P "__static_attributes__" 590 64] 6::
tp []::
tb [I 16 0,I 4 0,R 55,I 20 0,I 4 0,R 62]::
(⟨(.type "code"),none,.fields [(S "Text" 561),(S "Text" 562),(S "/claim/cut.py" 563),(.int 14 0),(.int 0 0),(.int 0 0),(.int 0 0),(.int 0 0),(R 46),(.bool false),(.int 181 0),(R 47),.none,.none,.none,.none,(.int 564 0),(.int 14 0),(S "/claim/cut.py" 565)].toArray,[].toArray⟩:Obj)::
(⟨(.type "frame"),none,.plain,[(some (R 48)),(some (R 3)),(some (R 45)),none,(some (S "html5lib._inputstream" 557)),none,(some (R 0))].toArray⟩:Obj)::
tp []::
tb []::
tp [S "self" 574,S "text" 575]::
tp []::
mt (me 12 0) "__init__" "Text.__init__" 571 2 16 50 576 .none M1 (tp []::
tb []::
tp [S "self" 582,S "size" 583,S "part" 584]::
tp []::
mt (me 12 1) "read" "Text.read" 579 2 20 57 585 .none M1 [])
noncomputable def Kv(P:Params):List Obj:=
tp [S "place" 588,S "text" 589]::
dc [ES P "__module__" 566 "html5lib._inputstream" 557,E P "__firstlineno__" 570 (.int 14 569),ER P "__init__" 578 56,ER P "read" 587 63,ER P "__static_attributes__" 590 64,ER P "__dict__" 592 67,ER P "__weakref__" 594 68,E P "__doc__" 595 .none] 4::
(⟨(.type "type"),none,.cls {name:="Text",bases:=[(.type "object")],mro:=[(R 66),(.type "object")],ns:=65,qualname:="Text",slotNames:=[],subclasses:=[]},[(some (R 43)),none,(some (S "Text" 559)),(some (S "Text" 567)),(some (.builtin "object.__new__")),(some (.bool true))].toArray⟩:Obj)::
(⟨(.type "getset_descriptor"),none,.fields [(S "__dict__" 591),(R 66),(.builtin "function.__dict__"),(.builtin "function.__dict__#set")].toArray,[].toArray⟩:Obj)::
(⟨(.type "getset_descriptor"),none,.fields [(S "__weakref__" 593),(R 66),(.builtin "ExceptionGroup.__weakref__"),.none].toArray,[].toArray⟩:Obj)::
(⟨(.type "super"),none,.fields [(R 66),(R 66),(R 66)].toArray,[].toArray⟩:Obj)::
(⟨(.type "builtin_function_or_method"),none,.fields [(.builtin "object.__init_subclass__"),(R 66)].toArray,[].toArray⟩:Obj)::
tp []::
tb []::
tp [S "codepoint" 601]::
tp []::
mt (st 13) "_is_invalid" "_is_invalid" 598 1 24 71 602 .none M1 (tp [.type "object"]::
(⟨(.type "builtin_function_or_method"),none,.fields [(.builtin "type.__prepare__"),(.type "type")].toArray,[].toArray⟩:Obj)::
dc ([ES P "__module__" 612 "html5lib._inputstream" 557,ES P "__qualname__" 614 "HTMLUnicodeInputStream" 613]++LR P) 15::
tp []::
tb [I 29 0,I 4 0,R 90,I 35 0,I 4 0,R 97,I 44 0,I 4 0,R 104,I 48 0,I 4 0,R 111,I 59 0,I 4 0,R 118,I 63 0,I 4 0,R 125,I 72 0,I 4 0,R 133,I 98 0,I 4 0,R 140,I 103 0,I 4 0,R 148,I 122 0,I 4 0,R 155]::
(⟨(.type "code"),none,.fields [(S "HTMLUnicodeInputStream" 607),(S "HTMLUnicodeInputStream" 608),(S "/claim/cut.py" 609),(.int 26 0),(.int 0 0),(.int 0 0),(.int 0 0),(.int 0 0),(R 81),(.bool false),(.int 181 0),(R 82),.none,.none,.none,.none,(.int 610 0),(.int 26 0),(S "/claim/cut.py" 611)].toArray,[].toArray⟩:Obj)::
(⟨(.type "frame"),none,.plain,[(some (R 83)),(some (R 3)),(some (R 80)),none,(some (S "html5lib._inputstream" 557)),none,(some (R 0))].toArray⟩:Obj)::
tp []::
tb []::
tp [S "self" 622,S "source" 623]::
tp []::
mt (me 14 1) "__init__" "HTMLUnicodeInputStream.__init__" 619 2 29 85 624 .none M1 (tp []::
tb []::
tp [S "self" 630]::
tp []::
mt (me 14 2) "reset" "HTMLUnicodeInputStream.reset" 627 1 35 92 631 .none M1 (tp []::
[])))
noncomputable def Ku(P:Params):List Obj:=
tb []::
tp [S "self" 637,S "source" 638,S "stream" 639]::
tp []::
mt (me 14 3) "openStream" "HTMLUnicodeInputStream.openStream" 634 2 44 99 640 .none M1 (tp []::
tb []::
tp [S "self" 646,S "offset" 647,S "chunk" 648,S "nLines" 649,S "positionLine" 650,S "lastLinePos" 651,S "positionColumn" 652]::
tp []::
mt (me 14 4) "_position" "HTMLUnicodeInputStream._position" 643 2 48 106 653 .none M1 (tp []::
tb []::
tp [S "self" 659,S "line" 660,S "col" 661]::
tp []::
mt (me 14 5) "position" "HTMLUnicodeInputStream.position" 656 1 59 113 662 .none M1 (tp []::
tb []::
tp [S "self" 668,S "chunkOffset" 669,S "char" 670]::
tp []::
mt (me 14 6) "char" "HTMLUnicodeInputStream.char" 665 1 63 120 671 .none M1 (tp [.none]::
tp []::
tb []::
tp [S "self" 677,S "chunkSize" 678,S "data" 679,S "lastv" 680]::
tp []::
mt (me 14 7) "readChunk" "HTMLUnicodeInputStream.readChunk" 674 2 72 128 681 (R 127) M1 (tp []::
tb []::
tp [S "self" 687,S "data" 688,S "c" 689]::
tp []::
mt (me 14 8) "characterErrorsUCS4" "HTMLUnicodeInputStream.characterErrorsUCS4" 684 2 98 135 690 .none M1 [])))))
noncomputable def Kt(P:Params):List Obj:=
tp [.bool false]::
tp []::
tb []::
tp [S "self" 696,S "characters" 697,S "opposite" 698,S "rv" 699,S "end" 700,S "r" 701]::
tp []::
mt (me 14 9) "charsUntil" "HTMLUnicodeInputStream.charsUntil" 693 3 103 143 702 (R 142) M1 (tp []::
tb []::
tp [S "self" 708,S "char" 709]::
tp []::
mt (me 14 10) "unget" "HTMLUnicodeInputStream.unget" 705 2 122 150 710 .none M1 (tp [S "_bufferedCharacter" 713,S "chunk" 714,S "chunkOffset" 715,S "chunkSize" 716,S "dataStream" 717,S "errors" 718,S "newLines" 719,S "prevNumCols" 720,S "prevNumLines" 721,S "reportCharacterErrors" 722]::
dc ([ES P "__module__" 612 "html5lib._inputstream" 557]++(LR P++[ER P "__dict__" 725 160,ER P "__weakref__" 727 161,E P "__doc__" 728 .none])) 4::
(⟨(.type "type"),none,.cls {name:="HTMLUnicodeInputStream",bases:=[(.type "object")],mro:=[(R 159),(.type "object")],ns:=158,qualname:="HTMLUnicodeInputStream",slotNames:=[],subclasses:=[]},[(some (R 78)),none,(some (S "HTMLUnicodeInputStream" 605)),(some (S "HTMLUnicodeInputStream" 613)),(some (.builtin "object.__new__")),(some (.bool true))].toArray⟩:Obj)::
(⟨(.type "getset_descriptor"),none,.fields [(S "__dict__" 724),(R 159),(.builtin "function.__dict__"),(.builtin "function.__dict__#set")].toArray,[].toArray⟩:Obj)::
(⟨(.type "getset_descriptor"),none,.fields [(S "__weakref__" 726),(R 159),(.builtin "ExceptionGroup.__weakref__"),.none].toArray,[].toArray⟩:Obj)::
(⟨(.type "super"),none,.fields [(R 159),(R 159),(R 159)].toArray,[].toArray⟩:Obj)::
(⟨(.type "builtin_function_or_method"),none,.fields [(.builtin "object.__init_subclass__"),(R 159)].toArray,[].toArray⟩:Obj)::
tp [I 0 733,.none]::
tp []::
tb []::
tp [S "rows" 737,S "key" 738,S "low" 739,S "high" 740,S "middle" 741]::
tp []::
mt (st 16) "bisect_left" "bisect_left" 734 4 131 165 742 (R 164) M2 (tp [.type "object"]::
(⟨(.type "builtin_function_or_method"),none,.fields [(.builtin "type.__prepare__"),(.type "type")].toArray,[].toArray⟩:Obj)::
dc ([ES P "__module__" 752 "html5lib._trie.py" 731,ES P "__qualname__" 754 "Trie" 753]++LQ P) 10::
tp []::
tb [I 143 0,I 4 0,R 184,I 149 0,I 4 0,R 191,I 152 0,I 4 0,R 198,I 155 0,I 4 0,R 205,I 158 0,I 4 0,R 212,I 170 0,I 4 0,R 219]::
(⟨(.type "code"),none,.fields [(S "Trie" 747),(S "Trie" 748),(S "/claim/cut.py" 749),(.int 141 0),(.int 0 0),(.int 0 0),(.int 0 0),(.int 0 0),(R 175),(.bool false),(.int 181 0),(R 176),.none,.none,.none,.none,(.int 750 0),(.int 141 0),(S "/claim/cut.py" 751)].toArray,[].toArray⟩:Obj)::
[])))
noncomputable def Ks(P:Params):List Obj:=
(⟨(.type "frame"),none,.plain,[(some (R 177)),(some (R 3)),(some (R 174)),none,(some (S "html5lib._trie.py" 731)),none,(some (R 0))].toArray⟩:Obj)::
tp []::
tb []::
tp [S "self" 760,S "data" 761]::
tp []::
mt (me 17 0) "__init__" "Trie.__init__" 757 2 143 179 762 .none M2 (tp []::
tb []::
tp [S "self" 768,S "key" 769]::
tp []::
mt (me 17 1) "__contains__" "Trie.__contains__" 765 2 149 186 770 .none M2 (tp []::
tb []::
tp [S "self" 776]::
tp []::
mt (me 17 2) "__len__" "Trie.__len__" 773 1 152 193 777 .none M2 (tp []::
tb []::
tp [S "self" 783,S "key" 784]::
tp []::
mt (me 17 3) "__getitem__" "Trie.__getitem__" 780 2 155 200 785 .none M2 (tp []::
tb []::
tp [S "self" 791,S "prefix" 792,S "lo" 793,S "hi" 794,S "i" 795]::
tp []::
mt (me 17 4) "has_keys_with_prefix" "Trie.has_keys_with_prefix" 788 2 158 207 796 .none M2 (tp []::
tb []::
tp [S "self" 802,S "prefix" 803,S "i" 804]::
tp []::
[])))))
noncomputable def Kr(P:Params):List Obj:=
mt (me 17 5) "longest_prefix" "Trie.longest_prefix" 799 2 170 214 805 .none M2 (tp [S "_cachepoints" 808,S "_cachestr" 809,S "_data" 810,S "_keys" 811]::
dc ([ES P "__module__" 752 "html5lib._trie.py" 731]++(LQ P++[ER P "__dict__" 814 224,ER P "__weakref__" 816 225,E P "__doc__" 817 .none])) 4::
(⟨(.type "type"),none,.cls {name:="Trie",bases:=[(.type "object")],mro:=[(R 223),(.type "object")],ns:=222,qualname:="Trie",slotNames:=[],subclasses:=[]},[(some (R 172)),none,(some (S "Trie" 745)),(some (S "Trie" 753)),(some (.builtin "object.__new__")),(some (.bool true))].toArray⟩:Obj)::
(⟨(.type "getset_descriptor"),none,.fields [(S "__dict__" 813),(R 223),(.builtin "function.__dict__"),(.builtin "function.__dict__#set")].toArray,[].toArray⟩:Obj)::
(⟨(.type "getset_descriptor"),none,.fields [(S "__weakref__" 815),(R 223),(.builtin "ExceptionGroup.__weakref__"),.none].toArray,[].toArray⟩:Obj)::
(⟨(.type "super"),none,.fields [(R 223),(R 223),(R 223)].toArray,[].toArray⟩:Obj)::
(⟨(.type "builtin_function_or_method"),none,.fields [(.builtin "object.__init_subclass__"),(R 223)].toArray,[].toArray⟩:Obj)::
dc [ER P "_data" 825 36,ER P "_keys" 827 236,ES P "_cachestr" 830 "" 828,ER P "_cachepoints" 835 239] 4::
(⟨(R 223),(some 228),.plain,[].toArray⟩:Obj)::
(⟨(.type "frame"),none,.dict [(E P "self" 822 (R 229)),(E P "data" 823 (R 36))].toArray 2,[].toArray⟩:Obj)::
(⟨(.type "dict_keys"),none,.fields [(R 36)].toArray,[].toArray⟩:Obj)::
ls JP 45::
(⟨(.type "dict_keyiterator"),none,.fields [.none,(.int 43 0),(.int 43 0),(.int 43 0)].toArray,[].toArray⟩:Obj)::
tp []::
(⟨(.type "StopIteration"),none,.fields [(R 234),.none,.none,.none,(.bool false),.none].toArray,[].toArray⟩:Obj)::
ls JP 2::
tp JP::
ls [] 0::
tp [I 0 831,I 43 833]::
tp [.type "object"]::
(⟨(.type "builtin_function_or_method"),none,.fields [(.builtin "type.__prepare__"),(.type "type")].toArray,[].toArray⟩:Obj)::
dc ([ES P "__module__" 844 "html5lib._tokenizer" 820,ES P "__qualname__" 846 "HTMLTokenizer" 845]++LP P) 76::
tp []::
tb [I 181 0,I 4 0,R 253,I 190 0,I 4 0,R 260,I 198 0,I 4 0,R 267,I 229 0,I 4 0,R 275,I 280 0,I 4 0,R 282,I 283 0,I 4 0,R 289,I 301 0,I 4 0,R 296,I 319 0,I 4 0,R 303,I 324 0,I 4 0,R 310,I 342 0,I 4 0,R 317,I 347 0,I 4 0,R 324,I 361 0,I 4 0,R 331,I 375 0,I 4 0,R 338,I 386 0,I 4 0,R 345,I 410 0,I 4 0,R 352,I 428 0,I 4 0,R 359,I 446 0,I 4 0,R 366,I 457 0,I 4 0,R 373,I 468 0,I 4 0,R 380,I 489 0,I 4 0,R 387,I 500 0,I 4 0,R 394,I 511 0,I 4 0,R 401,I 532 0,I 4 0,R 408,I 546 0,I 4 0,R 415,I 557 0,I 4 0,R 422,I 578 0,I 4 0,R 429,I 588 0,I 4 0,R 436,I 598 0,I 4 0,R 443,I 615 0,I 4 0,R 450,I 633 0,I 4 0,R 457,I 653 0,I 4 0,R 464,I 668 0,I 4 0,R 471,I 679 0,I 4 0,R 478,I 700 0,I 4 0,R 485,I 716 0,I 4 0,R 492,I 734 0,I 4 0,R 499,I 754 0,I 4 0,R 506,I 776 0,I 4 0,R 513,I 787 0,I 4 0,R 520,I 803 0,I 4 0,R 527,I 830 0,I 4 0,R 534,I 869 0,I 4 0,R 541,I 898 0,I 4 0,R 548,I 928 0,I 4 0,R 555,I 944 0,I 4 0,R 562,I 960 0,I 4 0,R 569,I 981 0,I 4 0,R 576,I 999 0,I 4 0,R 583,I 1014 0,I 4 0,R 590,I 1022 0,I 4 0,R 597,I 1047 0,I 4 0,R 604,I 1067 0,I 4 0,R 611,I 1087 0,I 4 0,R 618,I 1102 0,I 4 0,R 625,I 1119 0,I 4 0,R 632,I 1144 0,I 4 0,R 639,I 1165 0,I 4 0,R 646,I 1180 0,I 4 0,R 653,I 1203 0,I 4 0,R 660,I 1226 0,I 4 0,R 667,I 1266 0,I 4 0,R 674,I 1284 0,I 4 0,R 681,I 1310 0,I 4 0,R 688,I 1331 0,I 4 0,R 695,I 1352 0,I 4 0,R 702,I 1378 0,I 4 0,R 709,I 1402 0,I 4 0,R 716,I 1420 0,I 4 0,R 723,I 1446 0,I 4 0,R 730,I 1467 0,I 4 0,R 737,I 1488 0,I 4 0,R 744,I 1505 0,I 4 0,R 751]::
(⟨(.type "code"),none,.fields [(S "HTMLTokenizer" 839),(S "HTMLTokenizer" 840),(S "/claim/cut.py" 841),(.int 179 0),(.int 0 0),(.int 0 0),(.int 0 0),(.int 0 0),(R 243),(.bool false),(.int 181 0),(R 244),.none,.none,.none,.none,(.int 842 0),(.int 179 0),(S "/claim/cut.py" 843)].toArray,[].toArray⟩:Obj)::
(⟨(.type "frame"),none,.plain,[(some (R 245)),(some (R 3)),(some (R 242)),none,(some (S "html5lib._tokenizer" 820)),none,(some (R 0))].toArray⟩:Obj)::
tp [.none]::
tp []::
tb []::
[])
noncomputable def Kq(P:Params):List Obj:=
tp [S "self" 852,S "stream" 853,S "parser" 854]::
tp []::
mt (me 20 0) "__init__" "HTMLTokenizer.__init__" 849 3 181 248 855 (R 247) M0 (tp []::
tb []::
tp [S "self" 861]::
tp []::
pr (me 20 1) "HTMLTokenizer.__iter__"::
(⟨(.type "code"),none,.fields [(S "__iter__" 858),(S "HTMLTokenizer.__iter__" 859),(S "/claim/cut.py" 860),(.int 190 0),(.int 1 0),(.int 0 0),(.int 0 0),(.int 35 0),(R 255),(.bool true),(.int 181 0),(R 256),.none,(R 257),(R 258),(R 259),(.int 862 0),(.int 190 0),(S "/claim/cut.py" 863)].toArray,[].toArray⟩:Obj)::
fn (me 20 1) "HTMLTokenizer.__iter__" .none .none .none (S "html5lib._tokenizer" 820) (R 260) .none::
tp []::
tb []::
tp [S "self" 868,S "isHex" 869,S "allowed" 870,S "radix" 871,S "charStack" 872,S "c" 873,S "charAsInt" 874,S "char" 875,S "v" 876]::
tp []::
mt (me 20 2) "consumeNumberEntity" "HTMLTokenizer.consumeNumberEntity" 865 2 198 262 877 .none M0 (tp [.none,.bool false]::
tp []::
tb []::
tp [S "self" 883,S "allowedChar" 884,S "fromAttribute" 885,S "output" 886,S "charStack" 887,S "hex" 888,S "entityName" 889,S "entityLength" 890,S "tokenType" 891]::
tp []::
mt (me 20 3) "consumeEntity" "HTMLTokenizer.consumeEntity" 880 3 229 270 892 (R 269) M0 (tp []::
tb []::
tp [S "self" 898,S "allowedChar" 899]::
tp []::
mt (me 20 4) "processEntityInAttribute" "HTMLTokenizer.processEntityInAttribute" 895 2 280 277 900 .none M0 (tp []::
tb []::
tp [S "self" 906,S "token" 907,S "raw" 908,S "data" 909]::
tp []::
[]))))
noncomputable def Kp(P:Params):List Obj:=
mt (me 20 5) "emitCurrentToken" "HTMLTokenizer.emitCurrentToken" 903 1 283 284 910 .none M0 (tp []::
tb []::
tp [S "self" 916,S "data" 917,S "chars" 918]::
tp []::
mt (me 20 6) "dataState" "HTMLTokenizer.dataState" 913 1 301 291 919 .none M0 (tp []::
tb []::
tp [S "self" 925]::
tp []::
mt (me 20 7) "entityDataState" "HTMLTokenizer.entityDataState" 922 1 319 298 926 .none M0 (tp []::
tb []::
tp [S "self" 932,S "data" 933,S "chars" 934]::
tp []::
mt (me 20 8) "rcdataState" "HTMLTokenizer.rcdataState" 929 1 324 305 935 .none M0 (tp []::
tb []::
tp [S "self" 941]::
tp []::
mt (me 20 9) "characterReferenceInRcdata" "HTMLTokenizer.characterReferenceInRcdata" 938 1 342 312 942 .none M0 (tp []::
tb []::
tp [S "self" 948,S "data" 949,S "chars" 950]::
tp []::
mt (me 20 10) "rawtextState" "HTMLTokenizer.rawtextState" 945 1 347 319 951 .none M0 (tp []::
tb []::
tp [S "self" 957,S "data" 958,S "chars" 959]::
tp []::
[]))))))
noncomputable def Ko(P:Params):List Obj:=
mt (me 20 11) "scriptDataState" "HTMLTokenizer.scriptDataState" 954 1 361 326 960 .none M0 (tp []::
tb []::
tp [S "self" 966,S "data" 967]::
tp []::
mt (me 20 12) "plaintextState" "HTMLTokenizer.plaintextState" 963 1 375 333 968 .none M0 (tp []::
tb []::
tp [S "self" 974,S "data" 975]::
tp []::
mt (me 20 13) "tagOpenState" "HTMLTokenizer.tagOpenState" 971 1 386 340 976 .none M0 (tp []::
tb []::
tp [S "self" 982,S "data" 983]::
tp []::
mt (me 20 14) "closeTagOpenState" "HTMLTokenizer.closeTagOpenState" 979 1 410 347 984 .none M0 (tp []::
tb []::
tp [S "self" 990,S "data" 991]::
tp []::
mt (me 20 15) "tagNameState" "HTMLTokenizer.tagNameState" 987 1 428 354 992 .none M0 (tp []::
tb []::
tp [S "self" 998,S "data" 999]::
tp []::
mt (me 20 16) "rcdataLessThanSignState" "HTMLTokenizer.rcdataLessThanSignState" 995 1 446 361 1000 .none M0 (tp []::
tb []::
tp [S "self" 1006,S "data" 1007]::
tp []::
[]))))))
noncomputable def GP(P:Params):List Obj:=
mt (me 20 17) "rcdataEndTagOpenState" "HTMLTokenizer.rcdataEndTagOpenState" 1003 1 457 368 1008 .none M0 (tp []::
tb []::
tp [S "self" 1014,S "appropriate" 1015,S "data" 1016]::
tp []::
mt (me 20 18) "rcdataEndTagNameState" "HTMLTokenizer.rcdataEndTagNameState" 1011 1 468 375 1017 .none M0 (tp []::
tb []::
tp [S "self" 1023,S "data" 1024]::
tp []::
mt (me 20 19) "rawtextLessThanSignState" "HTMLTokenizer.rawtextLessThanSignState" 1020 1 489 382 1025 .none M0 (tp []::
tb []::
tp [S "self" 1031,S "data" 1032]::
tp []::
mt (me 20 20) "rawtextEndTagOpenState" "HTMLTokenizer.rawtextEndTagOpenState" 1028 1 500 389 1033 .none M0 (tp []::
tb []::
tp [S "self" 1039,S "appropriate" 1040,S "data" 1041]::
tp []::
mt (me 20 21) "rawtextEndTagNameState" "HTMLTokenizer.rawtextEndTagNameState" 1036 1 511 396 1042 .none M0 (tp []::
tb []::
tp [S "self" 1048,S "data" 1049]::
tp []::
mt (me 20 22) "scriptDataLessThanSignState" "HTMLTokenizer.scriptDataLessThanSignState" 1045 1 532 403 1050 .none M0 (tp []::
tb []::
tp [S "self" 1056,S "data" 1057]::
tp []::
[]))))))
noncomputable def GO(P:Params):List Obj:=
mt (me 20 23) "scriptDataEndTagOpenState" "HTMLTokenizer.scriptDataEndTagOpenState" 1053 1 546 410 1058 .none M0 (tp []::
tb []::
tp [S "self" 1064,S "appropriate" 1065,S "data" 1066]::
tp []::
mt (me 20 24) "scriptDataEndTagNameState" "HTMLTokenizer.scriptDataEndTagNameState" 1061 1 557 417 1067 .none M0 (tp []::
tb []::
tp [S "self" 1073,S "data" 1074]::
tp []::
mt (me 20 25) "scriptDataEscapeStartState" "HTMLTokenizer.scriptDataEscapeStartState" 1070 1 578 424 1075 .none M0 (tp []::
tb []::
tp [S "self" 1081,S "data" 1082]::
tp []::
mt (me 20 26) "scriptDataEscapeStartDashState" "HTMLTokenizer.scriptDataEscapeStartDashState" 1078 1 588 431 1083 .none M0 (tp []::
tb []::
tp [S "self" 1089,S "data" 1090,S "chars" 1091]::
tp []::
mt (me 20 27) "scriptDataEscapedState" "HTMLTokenizer.scriptDataEscapedState" 1086 1 598 438 1092 .none M0 (tp []::
tb []::
tp [S "self" 1098,S "data" 1099]::
tp []::
mt (me 20 28) "scriptDataEscapedDashState" "HTMLTokenizer.scriptDataEscapedDashState" 1095 1 615 445 1100 .none M0 (tp []::
tb []::
tp [S "self" 1106,S "data" 1107]::
tp []::
[]))))))
noncomputable def GN(P:Params):List Obj:=
mt (me 20 29) "scriptDataEscapedDashDashState" "HTMLTokenizer.scriptDataEscapedDashDashState" 1103 1 633 452 1108 .none M0 (tp []::
tb []::
tp [S "self" 1114,S "data" 1115]::
tp []::
mt (me 20 30) "scriptDataEscapedLessThanSignState" "HTMLTokenizer.scriptDataEscapedLessThanSignState" 1111 1 653 459 1116 .none M0 (tp []::
tb []::
tp [S "self" 1122,S "data" 1123]::
tp []::
mt (me 20 31) "scriptDataEscapedEndTagOpenState" "HTMLTokenizer.scriptDataEscapedEndTagOpenState" 1119 1 668 466 1124 .none M0 (tp []::
tb []::
tp [S "self" 1130,S "appropriate" 1131,S "data" 1132]::
tp []::
mt (me 20 32) "scriptDataEscapedEndTagNameState" "HTMLTokenizer.scriptDataEscapedEndTagNameState" 1127 1 679 473 1133 .none M0 (tp []::
tb []::
tp [S "self" 1139,S "data" 1140]::
tp []::
mt (me 20 33) "scriptDataDoubleEscapeStartState" "HTMLTokenizer.scriptDataDoubleEscapeStartState" 1136 1 700 480 1141 .none M0 (tp []::
tb []::
tp [S "self" 1147,S "data" 1148]::
tp []::
mt (me 20 34) "scriptDataDoubleEscapedState" "HTMLTokenizer.scriptDataDoubleEscapedState" 1144 1 716 487 1149 .none M0 (tp []::
tb []::
tp [S "self" 1155,S "data" 1156]::
tp []::
[]))))))
noncomputable def GM(P:Params):List Obj:=
mt (me 20 35) "scriptDataDoubleEscapedDashState" "HTMLTokenizer.scriptDataDoubleEscapedDashState" 1152 1 734 494 1157 .none M0 (tp []::
tb []::
tp [S "self" 1163,S "data" 1164]::
tp []::
mt (me 20 36) "scriptDataDoubleEscapedDashDashState" "HTMLTokenizer.scriptDataDoubleEscapedDashDashState" 1160 1 754 501 1165 .none M0 (tp []::
tb []::
tp [S "self" 1171,S "data" 1172]::
tp []::
mt (me 20 37) "scriptDataDoubleEscapedLessThanSignState" "HTMLTokenizer.scriptDataDoubleEscapedLessThanSignState" 1168 1 776 508 1173 .none M0 (tp []::
tb []::
tp [S "self" 1179,S "data" 1180]::
tp []::
mt (me 20 38) "scriptDataDoubleEscapeEndState" "HTMLTokenizer.scriptDataDoubleEscapeEndState" 1176 1 787 515 1181 .none M0 (tp []::
tb []::
tp [S "self" 1187,S "data" 1188]::
tp []::
mt (me 20 39) "beforeAttributeNameState" "HTMLTokenizer.beforeAttributeNameState" 1184 1 803 522 1189 .none M0 (tp []::
tb []::
tp [S "self" 1195,S "data" 1196,S "leavingThisState" 1197,S "emitToken" 1198,S "name" 1199,S "_" 1200]::
tp []::
mt (me 20 40) "attributeNameState" "HTMLTokenizer.attributeNameState" 1192 1 830 529 1201 .none M0 (tp []::
tb []::
tp [S "self" 1207,S "data" 1208]::
tp []::
[]))))))
noncomputable def GL(P:Params):List Obj:=
mt (me 20 41) "afterAttributeNameState" "HTMLTokenizer.afterAttributeNameState" 1204 1 869 536 1209 .none M0 (tp []::
tb []::
tp [S "self" 1215,S "data" 1216]::
tp []::
mt (me 20 42) "beforeAttributeValueState" "HTMLTokenizer.beforeAttributeValueState" 1212 1 898 543 1217 .none M0 (tp []::
tb []::
tp [S "self" 1223,S "data" 1224]::
tp []::
mt (me 20 43) "attributeValueDoubleQuotedState" "HTMLTokenizer.attributeValueDoubleQuotedState" 1220 1 928 550 1225 .none M0 (tp []::
tb []::
tp [S "self" 1231,S "data" 1232]::
tp []::
mt (me 20 44) "attributeValueSingleQuotedState" "HTMLTokenizer.attributeValueSingleQuotedState" 1228 1 944 557 1233 .none M0 (tp []::
tb []::
tp [S "self" 1239,S "data" 1240]::
tp []::
mt (me 20 45) "attributeValueUnQuotedState" "HTMLTokenizer.attributeValueUnQuotedState" 1236 1 960 564 1241 .none M0 (tp []::
tb []::
tp [S "self" 1247,S "data" 1248]::
tp []::
mt (me 20 46) "afterAttributeValueState" "HTMLTokenizer.afterAttributeValueState" 1244 1 981 571 1249 .none M0 (tp []::
tb []::
tp [S "self" 1255,S "data" 1256]::
tp []::
[]))))))
noncomputable def GJ(P:Params):List Obj:=
mt (me 20 47) "selfClosingStartTagState" "HTMLTokenizer.selfClosingStartTagState" 1252 1 999 578 1257 .none M0 (tp []::
tb []::
tp [S "self" 1263,S "data" 1264]::
tp []::
mt (me 20 48) "bogusCommentState" "HTMLTokenizer.bogusCommentState" 1260 1 1014 585 1265 .none M0 (tp []::
tb []::
tp [S "self" 1271,S "charStack" 1272,S "matched" 1273,S "expected" 1274]::
tp []::
mt (me 20 49) "markupDeclarationOpenState" "HTMLTokenizer.markupDeclarationOpenState" 1268 1 1022 592 1275 .none M0 (tp []::
tb []::
tp [S "self" 1281,S "data" 1282]::
tp []::
mt (me 20 50) "commentStartState" "HTMLTokenizer.commentStartState" 1278 1 1047 599 1283 .none M0 (tp []::
tb []::
tp [S "self" 1289,S "data" 1290]::
tp []::
mt (me 20 51) "commentStartDashState" "HTMLTokenizer.commentStartDashState" 1286 1 1067 606 1291 .none M0 (tp []::
tb []::
tp [S "self" 1297,S "data" 1298]::
tp []::
mt (me 20 52) "commentState" "HTMLTokenizer.commentState" 1294 1 1087 613 1299 .none M0 (tp []::
tb []::
tp [S "self" 1305,S "data" 1306]::
tp []::
[]))))))
noncomputable def GH(P:Params):List Obj:=
mt (me 20 53) "commentEndDashState" "HTMLTokenizer.commentEndDashState" 1302 1 1102 620 1307 .none M0 (tp []::
tb []::
tp [S "self" 1313,S "data" 1314]::
tp []::
mt (me 20 54) "commentEndState" "HTMLTokenizer.commentEndState" 1310 1 1119 627 1315 .none M0 (tp []::
tb []::
tp [S "self" 1321,S "data" 1322]::
tp []::
mt (me 20 55) "commentEndBangState" "HTMLTokenizer.commentEndBangState" 1318 1 1144 634 1323 .none M0 (tp []::
tb []::
tp [S "self" 1329,S "data" 1330]::
tp []::
mt (me 20 56) "doctypeState" "HTMLTokenizer.doctypeState" 1326 1 1165 641 1331 .none M0 (tp []::
tb []::
tp [S "self" 1337,S "data" 1338]::
tp []::
mt (me 20 57) "beforeDoctypeNameState" "HTMLTokenizer.beforeDoctypeNameState" 1334 1 1180 648 1339 .none M0 (tp []::
tb []::
tp [S "self" 1345,S "data" 1346]::
tp []::
mt (me 20 58) "doctypeNameState" "HTMLTokenizer.doctypeNameState" 1342 1 1203 655 1347 .none M0 (tp []::
tb []::
tp [S "self" 1353,S "data" 1354,S "matched" 1355,S "expected" 1356]::
tp []::
[]))))))
noncomputable def GG(P:Params):List Obj:=
mt (me 20 59) "afterDoctypeNameState" "HTMLTokenizer.afterDoctypeNameState" 1350 1 1226 662 1357 .none M0 (tp []::
tb []::
tp [S "self" 1363,S "data" 1364]::
tp []::
mt (me 20 60) "afterDoctypePublicKeywordState" "HTMLTokenizer.afterDoctypePublicKeywordState" 1360 1 1266 669 1365 .none M0 (tp []::
tb []::
tp [S "self" 1371,S "data" 1372]::
tp []::
mt (me 20 61) "beforeDoctypePublicIdentifierState" "HTMLTokenizer.beforeDoctypePublicIdentifierState" 1368 1 1284 676 1373 .none M0 (tp []::
tb []::
tp [S "self" 1379,S "data" 1380]::
tp []::
mt (me 20 62) "doctypePublicIdentifierDoubleQuotedState" "HTMLTokenizer.doctypePublicIdentifierDoubleQuotedState" 1376 1 1310 683 1381 .none M0 (tp []::
tb []::
tp [S "self" 1387,S "data" 1388]::
tp []::
mt (me 20 63) "doctypePublicIdentifierSingleQuotedState" "HTMLTokenizer.doctypePublicIdentifierSingleQuotedState" 1384 1 1331 690 1389 .none M0 (tp []::
tb []::
tp [S "self" 1395,S "data" 1396]::
tp []::
mt (me 20 64) "afterDoctypePublicIdentifierState" "HTMLTokenizer.afterDoctypePublicIdentifierState" 1392 1 1352 697 1397 .none M0 (tp []::
tb []::
tp [S "self" 1403,S "data" 1404]::
tp []::
[]))))))
noncomputable def GF(P:Params):List Obj:=
mt (me 20 65) "betweenDoctypePublicAndSystemIdentifiersState" "HTMLTokenizer.betweenDoctypePublicAndSystemIdentifiersState" 1400 1 1378 704 1405 .none M0 (tp []::
tb []::
tp [S "self" 1411,S "data" 1412]::
tp []::
mt (me 20 66) "afterDoctypeSystemKeywordState" "HTMLTokenizer.afterDoctypeSystemKeywordState" 1408 1 1402 711 1413 .none M0 (tp []::
tb []::
tp [S "self" 1419,S "data" 1420]::
tp []::
mt (me 20 67) "beforeDoctypeSystemIdentifierState" "HTMLTokenizer.beforeDoctypeSystemIdentifierState" 1416 1 1420 718 1421 .none M0 (tp []::
tb []::
tp [S "self" 1427,S "data" 1428]::
tp []::
mt (me 20 68) "doctypeSystemIdentifierDoubleQuotedState" "HTMLTokenizer.doctypeSystemIdentifierDoubleQuotedState" 1424 1 1446 725 1429 .none M0 (tp []::
tb []::
tp [S "self" 1435,S "data" 1436]::
tp []::
mt (me 20 69) "doctypeSystemIdentifierSingleQuotedState" "HTMLTokenizer.doctypeSystemIdentifierSingleQuotedState" 1432 1 1467 732 1437 .none M0 (tp []::
tb []::
tp [S "self" 1443,S "data" 1444]::
tp []::
mt (me 20 70) "afterDoctypeSystemIdentifierState" "HTMLTokenizer.afterDoctypeSystemIdentifierState" 1440 1 1488 739 1445 .none M0 (tp []::
tb []::
tp [S "self" 1451,S "data" 1452]::
tp []::
[]))))))
noncomputable def GE(P:Params):List Obj:=
mt (me 20 71) "bogusDoctypeState" "HTMLTokenizer.bogusDoctypeState" 1448 1 1505 746 1453 .none M0 (tp [S "currentToken" 1456,S "escape" 1457,S "escapeFlag" 1458,S "lastFourChars" 1459,S "parser" 1460,S "state" 1461,S "stream" 1462,S "temporaryBuffer" 1463,S "tokenQueue" 1464]::
dc ([ES P "__module__" 844 "html5lib._tokenizer" 820]++(LP P++[ER P "__dict__" 1467 756,ER P "__weakref__" 1469 757,E P "__doc__" 1470 .none])) 4::
(⟨(.type "type"),none,.cls {name:="HTMLTokenizer",bases:=[(.type "object")],mro:=[(R 755),(.type "object")],ns:=754,qualname:="HTMLTokenizer",slotNames:=[],subclasses:=[]},[(some (R 240)),none,(some (S "HTMLTokenizer" 837)),(some (S "HTMLTokenizer" 845)),(some (.builtin "object.__new__")),(some (.bool true))].toArray⟩:Obj)::
(⟨(.type "getset_descriptor"),none,.fields [(S "__dict__" 1466),(R 755),(.builtin "function.__dict__"),(.builtin "function.__dict__#set")].toArray,[].toArray⟩:Obj)::
(⟨(.type "getset_descriptor"),none,.fields [(S "__weakref__" 1468),(R 755),(.builtin "ExceptionGroup.__weakref__"),.none].toArray,[].toArray⟩:Obj)::
(⟨(.type "super"),none,.fields [(R 755),(R 755),(R 755)].toArray,[].toArray⟩:Obj)::
(⟨(.type "builtin_function_or_method"),none,.fields [(.builtin "object.__init_subclass__"),(R 755)].toArray,[].toArray⟩:Obj)::
ls [S "a" 1475,S "b c" 1476,S "<" 1477,S "</" 1478,S "</p>" 1479,S "\x00" 1480,S "&" 1481,S " " 1482,S "\x0d\x0a" 1483,S "\x0d" 1484,S "\x0a" 1485,S "</title>" 1486,S "</style " 1487,S "</em-" 1488,S "</emm>" 1489,S "</e" 1490,S "<!--" 1491,S "-->" 1492,S "<p>" 1493,S "&amp;" 1494,S "&#0" 1495,S "\x01" 1496,S "\x7f" 1497,S "﷐" 1498,S "￾" 1499,S "é" 1500,S "😀" 1501,S ">" 1502,S "/" 1503,S "-" 1504,S "</script>" 1505,S "\x09\x0c" 1506] 0::
tp []::
tb []::
tp [S "text" 1511,S "reading" 1512,S "opened" 1513,S "size" 1514,S "tokenizer" 1515,S "row" 1516,S "token" 1517]::
tp []::
mt (st 23) "_law_run" "_law_run" 1508 4 1519 761 1518 .none M3 (tp []::
tb []::
pr (st 24) "_law_pieces"::
(⟨(.type "code"),none,.fields [(S "_law_pieces" 1521),(S "_law_pieces" 1522),(S "/claim/cut.py" 1523),(.int 1537 0),(.int 1 0),(.int 0 0),(.int 0 0),(.int 3 0),(R 768),(.bool true),(.int 181 0),(R 769),.none,.none,.none,(R 770),(.int 1524 0),(.int 1537 0),(S "/claim/cut.py" 1525)].toArray,[].toArray⟩:Obj)::
fn (st 24) "_law_pieces" .none .none .none (S "law_te0042_01" 1473) (R 771) .none::
tp []::
tb []::
tp [S "row" 1530,S "joined" 1531,S "token" 1532]::
tp []::
mt (st 25) "_law_joined" "_law_joined" 1527 1 1539 773 1533 .none M3 (tp []::
tb []::
pr (st 26) "law"::
(⟨(.type "code"),none,.fields [(S "law" 1536),(S "law" 1537),(S "/claim/cut.py" 1538),(.int 1550 0),(.int 1 0),(.int 0 0),(.int 0 0),(.int 3 0),(R 780),(.bool true),(.int 181 0),(R 781),.none,.none,.none,(R 782),(.int 1539 0),(.int 1550 0),(S "/claim/cut.py" 1540)].toArray,[].toArray⟩:Obj)::
fn (st 26) "law" .none .none .none (S "law_te0042_01" 1473) (R 783) .none::
[])))
noncomputable def fin(P:Params):List Obj:=Kw P++(o0 P++(Kv P++(Ku P++(Kt P++(Ks P++(Kr P++(Kq P++(Kp P++(Ko P++(GP P++(GO P++(GN P++(GM P++(GL P++(GJ P++(GH P++(GG P++(GF P++(GE P)))))))))))))))))))
noncomputable def gd(P:Params)(v:Value)(n:Nat):Obj:=dc (E P "__name__" 165 v::[E P "__doc__" 166 .none,E P "__package__" 167 .none,E P "__loader__" 168 (.builtin "__main__.__loader__#opaque"),E P "__spec__" 169 .none,ER P "__annotations__" 170 6,ER P "__builtins__" 171 4,ES P "__file__" 173 "/claim/cut.py" 172,E P "__cached__" 174 .none,E P "EOF" 189 .none,ER P "spaceCharacters" 195 15,ER P "asciiLetters" 249 20,ER P "digits" 261 25,ER P "hexDigits" 285 30,ER P "asciiLower" 291 35,ER P "entities" 421 36,ER P "replacementCharacters" 524 39,ER P "tokenTypes" 549 41,ER P "tagTokenTypes" 556 42,ER P "Text" 597 66,ER P "_is_invalid" 604 77,ER P "HTMLUnicodeInputStream" 730 159,ER P "bisect_left" 744 171,ER P "Trie" 819 223,ER P "entitiesTrie" 836 229,ER P "HTMLTokenizer" 1472 755,ER P "_law_PIECES" 1507 760,ER P "_law_run" 1520 767,ER P "_law_pieces" 1526 772,ER P "_law_joined" 1535 779].take n) (n+1)
noncomputable def gt(n:Nat):Obj:=tb ([I 7 0,I 0 0,R 34,I 14 0,I 0 0,R 48,I 24 0,I 0 0,R 76,I 26 0,I 0 0,R 83,I 131 0,I 0 0,R 170,I 141 0,I 0 0,R 177,I 179 0,I 0 0,R 245,I 1519 0,I 0 0,R 766,I 1537 0,I 0 0,R 771,I 1539 0,I 0 0,R 778].take n)
noncomputable def By(P:Params):List Obj:=pt ((fin P).take 15) [(3,gd P (S "__main__" 164) 8),(12,gt 0)]
noncomputable def kf(P:Params):BT:=bt 12 (By P)
noncomputable def JN(P:Params):List Obj:=pt ((fin P).take 16) [(3,gd P (S "html5lib.constants" 187) 10),(12,gt 0)]
noncomputable def EH(P:Params):BT:=bt 12 (JN P)
noncomputable def JM(P:Params):List Obj:=pt ((fin P).take 21) [(3,gd P (S "html5lib.constants" 187) 11),(12,gt 0)]
noncomputable def DZ(P:Params):BT:=bt 12 (JM P)
noncomputable def JL(P:Params):List Obj:=pt ((fin P).take 26) [(3,gd P (S "html5lib.constants" 187) 12),(12,gt 0)]
noncomputable def DY(P:Params):BT:=bt 12 (JL P)
noncomputable def JK(P:Params):List Obj:=pt ((fin P).take 31) [(3,gd P (S "html5lib.constants" 187) 13),(12,gt 0)]
noncomputable def EG(P:Params):BT:=bt 12 (JK P)
noncomputable def JJ(P:Params):List Obj:=pt ((fin P).take 36) [(3,gd P (S "html5lib.constants" 187) 14),(12,gt 3)]
noncomputable def EF(P:Params):BT:=bt 12 (JJ P)
noncomputable def JI(P:Params):List Obj:=pt ((fin P).take 39) [(3,gd P (S "html5lib.constants" 187) 15),(12,gt 3)]
noncomputable def DX(P:Params):BT:=bt 12 (JI P)
noncomputable def JH(P:Params):List Obj:=pt ((fin P).take 41) [(3,gd P (S "html5lib.constants" 187) 16),(12,gt 3)]
noncomputable def DW(P:Params):BT:=bt 12 (JH P)
noncomputable def JG(P:Params):List Obj:=pt ((fin P).take 42) [(3,gd P (S "html5lib.constants" 187) 17),(12,gt 3)]
noncomputable def DV(P:Params):BT:=bt 12 (JG P)
noncomputable def FC(P:Params):List Obj:=pt ((fin P).take 43) [(3,gd P (S "html5lib.constants" 187) 18),(12,gt 3)]
noncomputable def tI(P:Params):BT:=bt 12 (FC P)
noncomputable def FB(P:Params):List Obj:=pt ((fin P).take 43) [(3,gd P (S "html5lib._inputstream" 557) 18),(12,gt 3)]
noncomputable def xe(P:Params):BT:=bt 12 (FB P)
noncomputable def FA(P:Params):List Obj:=pt ((fin P).take 71) [(3,gd P (S "html5lib._inputstream" 557) 19),(12,gt 6)]
noncomputable def xd(P:Params):BT:=bt 12 (FA P)
noncomputable def Fz(P:Params):List Obj:=pt ((fin P).take 78) [(3,gd P (S "html5lib._inputstream" 557) 20),(12,gt 9)]
noncomputable def xc(P:Params):BT:=bt 12 (Fz P)
noncomputable def Fy(P:Params):List Obj:=pt ((fin P).take 164) [(3,gd P (S "html5lib._inputstream" 557) 21),(12,gt 12)]
noncomputable def xa(P:Params):BT:=bt 12 (Fy P)
noncomputable def Fx(P:Params):List Obj:=pt ((fin P).take 172) [(3,gd P (S "html5lib._trie.py" 731) 22),(12,gt 15)]
noncomputable def w9(P:Params):BT:=bt 12 (Fx P)
noncomputable def Fw(P:Params):List Obj:=pt ((fin P).take 228) [(3,gd P (S "html5lib._trie.py" 731) 23),(12,gt 18)]
noncomputable def w8(P:Params):BT:=bt 12 (Fw P)
noncomputable def Fv(P:Params):List Obj:=pt ((fin P).take 228) [(3,gd P (S "html5lib._tokenizer" 820) 23),(12,gt 18)]
noncomputable def tH(P:Params):BT:=bt 12 (Fv P)
noncomputable def Fu(P:Params):List Obj:=pt ((fin P).take 240) [(3,gd P (S "html5lib._tokenizer" 820) 24),(12,gt 18)]
noncomputable def tG(P:Params):BT:=bt 12 (Fu P)
noncomputable def Ft(P:Params):List Obj:=pt ((fin P).take 760) [(3,gd P (S "html5lib._tokenizer" 820) 25),(12,gt 21)]
noncomputable def w7(P:Params):BT:=bt 12 (Ft P)
noncomputable def Fs(P:Params):List Obj:=pt ((fin P).take 780) [(3,gd P (S "law_te0042_01" 1473) 29),(12,gt 30)]
noncomputable def w6(P:Params):BT:=bt 12 (Fs P)
noncomputable def Fq(P:Params):List Obj:=pt ((fin P).take 785) []
noncomputable def nY(P:Params):BT:=bt 12 (Fq P)
def env:Env:= {scope:=pw.main.scope,locals:=mainNs,globals:=mainNs,cells:=[],code:=(R 13),frame:=some 14}
def cE:Code:=.body stmts env
def IZ(t:BT)(n k:Nat)(os:OsState):SharedT:=⟨t,n, {}, #[], {},k,os⟩
def A8(t:BT)(n k:Nat)(os:OsState):Shared:=⟨absHeap t n {}, #[], {},k,os⟩
abbrev B:List Frame:=[topFrame ⟨0,0,0,0⟩]
set_option maxRecDepth 1000000
noncomputable abbrev QA(w:World)(os:OsState)(n:Nat)(t:Params->BT)(a k i j p q r s:Nat):=Fast.tw10110043849684766642 Fast.tw14364793385576792824 pw w 11 (some (R 6)) 1 n (IZ (t w.params) a k os) (piecesOf ((stmts.drop i).take j) env cE ⟨p,q,r,s⟩ B)
noncomputable abbrev QR(w:World)(os:OsState)(t:Params->BT)(a k p q r s:Nat):Option (Flow×SharedT×Code×Pos):=some (.next,IZ (t w.params) a k os,cE,⟨p,q,r,s⟩)
theorem MA(w:World)(os:OsState):QA w os 33 kf 15 187 0 3 0 0 0 0=QR w os EH 16 196 3 0 3 15:=by kernel_rfl!
theorem Js(w:World)(os:OsState):QA (w.withFollow "special-get-raises" false) os 784 EH 16 196 3 1 3 0 3 15=QR (w.withFollow "special-get-raises" false) os DZ 21 250 4 0 4 12:=by kernel_rfl!
theorem Jr(w:World)(os:OsState):QA (w.withFollow "special-get-raises" true) os 784 EH 16 196 3 1 3 0 3 15=QR (w.withFollow "special-get-raises" true) os DZ 21 250 4 0 4 12:=by kernel_rfl!
theorem Jq(w:World)(os:OsState):QA (w.withFollow "special-get-raises" false) os 196 DZ 21 250 4 1 4 0 4 12=QR (w.withFollow "special-get-raises" false) os DY 26 262 5 0 5 6:=by kernel_rfl!
theorem Jp(w:World)(os:OsState):QA (w.withFollow "special-get-raises" true) os 196 DZ 21 250 4 1 4 0 4 12=QR (w.withFollow "special-get-raises" true) os DY 26 262 5 0 5 6:=by kernel_rfl!
theorem Jo(w:World)(os:OsState):QA (w.withFollow "special-get-raises" false) os 364 DY 26 262 5 1 5 0 5 6=QR (w.withFollow "special-get-raises" false) os EG 31 286 6 0 6 9:=by kernel_rfl!
theorem Jn(w:World)(os:OsState):QA (w.withFollow "special-get-raises" true) os 364 DY 26 262 5 1 5 0 5 6=QR (w.withFollow "special-get-raises" true) os EG 31 286 6 0 6 9:=by kernel_rfl!
theorem Mz(w:World)(os:OsState):QA w os 27 EG 31 286 6 1 6 0 6 9=QR w os EF 36 292 7 0 8 78:=by kernel_rfl!
theorem Jm(w:World)(os:OsState):QA (w.withFollow "special-get-raises" false) os 826 EF 36 292 7 1 7 0 8 78=QR (w.withFollow "special-get-raises" false) os DX 39 422 9 0 9 8:=by kernel_rfl!
theorem Jl(w:World)(os:OsState):QA (w.withFollow "special-get-raises" true) os 826 EF 36 292 7 1 7 0 8 78=QR (w.withFollow "special-get-raises" true) os DX 39 422 9 0 9 8:=by kernel_rfl!
theorem Jk(w:World)(os:OsState):QA (w.withFollow "special-get-raises" false) os 563 DX 39 422 8 1 9 0 9 8=QR (w.withFollow "special-get-raises" false) os DW 41 525 10 0 10 21:=by kernel_rfl!
theorem Jj(w:World)(os:OsState):QA (w.withFollow "special-get-raises" true) os 563 DX 39 422 8 1 9 0 9 8=QR (w.withFollow "special-get-raises" true) os DW 41 525 10 0 10 21:=by kernel_rfl!
theorem Ji(w:World)(os:OsState):QA (w.withFollow "special-get-raises" false) os 131 DW 41 525 9 1 10 0 10 21=QR (w.withFollow "special-get-raises" false) os DV 42 550 11 0 11 10:=by kernel_rfl!
theorem Jh(w:World)(os:OsState):QA (w.withFollow "special-get-raises" true) os 131 DW 41 525 9 1 10 0 10 21=QR (w.withFollow "special-get-raises" true) os DV 42 550 11 0 11 10:=by kernel_rfl!
theorem Fj(w:World)(os:OsState):QA (w.withFollow "special-get-raises" false) os 92 DV 42 550 10 1 11 0 11 10=QR (w.withFollow "special-get-raises" false) os tI 43 557 12 0 12 13:=by kernel_rfl!
theorem Fi(w:World)(os:OsState):QA (w.withFollow "special-get-raises" true) os 92 DV 42 550 10 1 11 0 11 10=QR (w.withFollow "special-get-raises" true) os tI 43 557 12 0 12 13:=by kernel_rfl!
theorem JC(w:World)(os:OsState):QA w os 10 tI 43 557 11 1 12 0 12 13=QR w os xe 43 559 13 0 13 8:=by kernel_rfl!
theorem JB(w:World)(os:OsState):QA w os 261 xe 43 559 12 1 13 0 13 8=QR w os xd 71 598 14 0 23 19:=by kernel_rfl!
theorem JA(w:World)(os:OsState):QA w os 30 xd 71 598 13 1 14 0 23 19=QR w os xc 78 605 24 0 25 210:=by kernel_rfl!
theorem Jz(w:World)(os:OsState):QA w os 550 xc 78 605 14 1 24 0 25 210=QR w os xa 164 731 26 0 129 59:=by kernel_rfl!
theorem Jy(w:World)(os:OsState):QA w os 45 xa 164 731 15 2 26 0 129 59=QR w os w9 172 745 131 0 140 14:=by kernel_rfl!
theorem Jx(w:World)(os:OsState):QA w os 393 w9 172 745 17 1 131 0 140 14=QR w os w8 228 820 141 0 176 30:=by kernel_rfl!
theorem Jw(w:World)(os:OsState):QA w os 10 w8 228 820 18 1 141 0 176 30=QR w os tH 228 822 177 0 177 8:=by kernel_rfl!
theorem Fh(w:World)(os:OsState):QA (w.withFollow "special-get-raises" false) os 1239 tH 228 822 19 1 177 0 177 8=QR (w.withFollow "special-get-raises" false) os tG 240 837 178 0 178 12:=by kernel_rfl!
theorem Fg(w:World)(os:OsState):QA (w.withFollow "special-get-raises" true) os 1239 tH 228 822 19 1 177 0 177 8=QR (w.withFollow "special-get-raises" true) os tG 240 837 178 0 178 12:=by kernel_rfl!
theorem Jv(w:World)(os:OsState):QA w os 2540 tG 240 837 20 1 178 0 178 12=QR w os w7 760 1473 179 0 1516 19:=by kernel_rfl!
theorem Ju(w:World)(os:OsState):QA w os 144 w7 760 1473 21 5 179 0 1516 19=QR w os w6 780 1536 1539 0 1549 17:=by kernel_rfl!
theorem Jt(w:World)(os:OsState):QA w os 27 w6 780 1536 26 1 1539 0 1549 17=QR w os nY 785 1542 1550 0 1582 15:=by kernel_rfl!
end Mine.Head
namespace Mine.Head
abbrev dD:OpenLaw:=PySem.Challenge.rw_te0042_01
noncomputable abbrev QS(w:World)(os:OsState)(n:Nat)(t:Params->BT)(a k i j p q r s:Nat):=segRunT treeTable pw w 11 (some (R 6)) 1 n (IZ (t w.params) a k os) (piecesOf ((stmts.drop i).take j) env cE ⟨p,q,r,s⟩ B)
theorem qs{w:World}{os:OsState}{n:Nat}{t:Params->BT}{a k i j p q r s:Nat}:QS w os n t a k i j p q r s=QA w os n t a k i j p q r s:=by
 unfold QS QA
 rw [Fast.te10110043849684766642,Fast.te14364793385576792824]
abbrev IA(n:Nat)(t:Params->BT)(a k i j p q r s:Nat)(t':Params->BT)(a' k' p' q' r' s':Nat)(w:World):Prop:=∀os:OsState,QA w os n t a k i j p q r s=QR w os t' a' k' p' q' r' s'
theorem q2{n:Nat}{t:Params->BT}{a k i j p q r s:Nat}{t':Params->BT}{a' k' p' q' r' s':Nat}(h1:∀w:World,IA n t a k i j p q r s t' a' k' p' q' r' s' (w.withFollow "special-get-raises" false))(h2:∀w:World,IA n t a k i j p q r s t' a' k' p' q' r' s' (w.withFollow "special-get-raises" true))(w:World):IA n t a k i j p q r s t' a' k' p' q' r' s' w:=
 byRow2 "special-get-raises" (P:=IA n t a k i j p q r s t' a' k' p' q' r' s') h1 h2 w
theorem My(w:World):∀os:OsState,QS w os 33 kf 15 187 0 3 0 0 0 0=QR w os EH 16 196 3 0 3 15:=λos=>qs.trans (MA w os)
theorem Mx(w:World):∀os:OsState,QS w os 784 EH 16 196 3 1 3 0 3 15=QR w os DZ 21 250 4 0 4 12:=λos=>qs.trans (q2 Js Jr w os)
theorem Mw(w:World):∀os:OsState,QS w os 196 DZ 21 250 4 1 4 0 4 12=QR w os DY 26 262 5 0 5 6:=λos=>qs.trans (q2 Jq Jp w os)
theorem Mv(w:World):∀os:OsState,QS w os 364 DY 26 262 5 1 5 0 5 6=QR w os EG 31 286 6 0 6 9:=λos=>qs.trans (q2 Jo Jn w os)
theorem Mu(w:World):∀os:OsState,QS w os 27 EG 31 286 6 1 6 0 6 9=QR w os EF 36 292 7 0 8 78:=λos=>qs.trans (Mz w os)
theorem Mt(w:World):∀os:OsState,QS w os 826 EF 36 292 7 1 7 0 8 78=QR w os DX 39 422 9 0 9 8:=λos=>qs.trans (q2 Jm Jl w os)
theorem Ms(w:World):∀os:OsState,QS w os 563 DX 39 422 8 1 9 0 9 8=QR w os DW 41 525 10 0 10 21:=λos=>qs.trans (q2 Jk Jj w os)
theorem Mr(w:World):∀os:OsState,QS w os 131 DW 41 525 9 1 10 0 10 21=QR w os DV 42 550 11 0 11 10:=λos=>qs.trans (q2 Ji Jh w os)
theorem Jg(w:World):∀os:OsState,QS w os 92 DV 42 550 10 1 11 0 11 10=QR w os tI 43 557 12 0 12 13:=λos=>qs.trans (q2 Fj Fi w os)
theorem Jf(w:World):∀os:OsState,QS w os 10 tI 43 557 11 1 12 0 12 13=QR w os xe 43 559 13 0 13 8:=λos=>qs.trans (JC w os)
theorem Je(w:World):∀os:OsState,QS w os 261 xe 43 559 12 1 13 0 13 8=QR w os xd 71 598 14 0 23 19:=λos=>qs.trans (JB w os)
theorem Jd(w:World):∀os:OsState,QS w os 30 xd 71 598 13 1 14 0 23 19=QR w os xc 78 605 24 0 25 210:=λos=>qs.trans (JA w os)
theorem Jc(w:World):∀os:OsState,QS w os 550 xc 78 605 14 1 24 0 25 210=QR w os xa 164 731 26 0 129 59:=λos=>qs.trans (Jz w os)
theorem Jb(w:World):∀os:OsState,QS w os 45 xa 164 731 15 2 26 0 129 59=QR w os w9 172 745 131 0 140 14:=λos=>qs.trans (Jy w os)
theorem Ja(w:World):∀os:OsState,QS w os 393 w9 172 745 17 1 131 0 140 14=QR w os w8 228 820 141 0 176 30:=λos=>qs.trans (Jx w os)
theorem I9(w:World):∀os:OsState,QS w os 10 w8 228 820 18 1 141 0 176 30=QR w os tH 228 822 177 0 177 8:=λos=>qs.trans (Jw w os)
theorem I8(w:World):∀os:OsState,QS w os 1239 tH 228 822 19 1 177 0 177 8=QR w os tG 240 837 178 0 178 12:=λos=>qs.trans (q2 Fh Fg w os)
theorem I7(w:World):∀os:OsState,QS w os 2540 tG 240 837 20 1 178 0 178 12=QR w os w7 760 1473 179 0 1516 19:=λos=>qs.trans (Jv w os)
theorem I6(w:World):∀os:OsState,QS w os 144 w7 760 1473 21 5 179 0 1516 19=QR w os w6 780 1536 1539 0 1549 17:=λos=>qs.trans (Ju w os)
theorem I5(w:World):∀os:OsState,QS w os 27 w6 780 1536 26 1 1539 0 1549 17=QR w os nY 785 1542 1550 0 1582 15:=λos=>qs.trans (Jt w os)
theorem aQ{tb:String->Option Builtin}{w:World}{n₀:Nat}{an:Option Value}{fq:Pos}{n N:Nat}{s s':SharedT}{r:Shared}{i k:Nat}{c:Code}{po p':Pos}(h:segRunT tb pw w n₀ an 1 n s (piecesOf ((stmts.drop i).take k) env c po [topFrame fq])=some (.next,s',c,p'))
  (x:topRun tb pw w n₀ an N s'.abs (restOf (stmts.drop (i+k)) env c p' [topFrame fq])=some r):topRun tb pw w n₀ an (n+N) s.abs (restOf (stmts.drop i) env c po [topFrame fq])=some r:=by
 have z:=piece_app (rest:=stmts.drop (i+k)) (segRun_of h) x
 have e:(stmts.drop i).take k++stmts.drop (i+k)=stmts.drop i:=by rw [←List.drop_drop,List.take_append_drop]
 rw [e] at z
 exact z
theorem D8:behindTheImports pw=stmts:=by kernel_rfl!
theorem Fn(w:World)(os:OsState):Fast.tw15667345088766844465 Fast.tw14364793385576792824 pw w 11 (some (R 6)) 12 ⟨boot_heap w.params,Array.mk [],boot_drawn,boot_toks,os⟩ (topStub pw)=some (A8 (kf w.params) 15 187 os,⟨Fast.tw11892475500146522536 Fast.tw14364793385576792824 cE,cE,⟨0,0,0,0⟩,B⟩):=by kernel_rfl!
theorem Fk(w:World)(os:OsState):topGo treeTable pw w 11 (some (R 6)) 12 ⟨boot_heap w.params,Array.mk [],boot_drawn,boot_toks,os⟩ (topStub pw)=some (A8 (kf w.params) 15 187 os,⟨denote treeTable cE,cE,⟨0,0,0,0⟩,B⟩):=by
 have h:=Fn w os
 rw [←Fast.te15667345088766844465, ←Fast.te14364793385576792824, ←Fast.te11892475500146522536] at h
 exact h
theorem zb(w:World)(os:OsState):segRun treeTable pw w 11 (some (R 6)) 1 1 (A8 (kf w.params) 15 187 os) (blockOf stmts env cE ⟨0,0,0,0⟩ B)=some (.next,A8 (kf w.params) 15 187 os,cE,⟨0,0,0,0⟩):=by kernel_rfl!
theorem GB(w:World)(os:OsState):topRun treeTable pw w 11 (some (R 6)) 2 (A8 (nY w.params) 785 1542 os) (restOf (stmts.drop 27) env cE ⟨1550,0,1582,15⟩ B)=some (A8 (nY w.params) 785 1542 os):=by kernel_rfl!
theorem run(w:World)(os:OsState):topRun treeTable pw w 11 (some (R 6)) (12+(1+(33+(784+(196+(364+(27+(826+(563+(131+(92+(10+(261+(30+(550+(45+(393+(10+(1239+(2540+(144+(27+2)))))))))))))))))))))) ⟨boot_heap w.params,Array.mk [],boot_drawn,boot_toks,os⟩ (topStub pw)=some (A8 (nY w.params) 785 1542 os):=
 go_top (Fk w os) (piece_block (zb w os) (aQ (i:=0) (k:=3) (My w os) (aQ (i:=3) (k:=1) (Mx w os) (aQ (i:=4) (k:=1) (Mw w os) (aQ (i:=5) (k:=1) (Mv w os) (aQ (i:=6) (k:=1) (Mu w os) (aQ (i:=7) (k:=1) (Mt w os) (aQ (i:=8) (k:=1) (Ms w os) (aQ (i:=9) (k:=1) (Mr w os) (aQ (i:=10) (k:=1) (Jg w os) (aQ (i:=11) (k:=1) (Jf w os) (aQ (i:=12) (k:=1) (Je w os) (aQ (i:=13) (k:=1) (Jd w os) (aQ (i:=14) (k:=1) (Jc w os) (aQ (i:=15) (k:=2) (Jb w os) (aQ (i:=17) (k:=1) (Ja w os) (aQ (i:=18) (k:=1) (I9 w os) (aQ (i:=19) (k:=1) (I8 w os) (aQ (i:=20) (k:=1) (I7 w os) (aQ (i:=21) (k:=5) (I6 w os) (aQ (i:=26) (k:=1) (I5 w os) (GB w os))))))))))))))))))))))
end Mine.Head
namespace Mine.Head
def q:Program:= {pw with main:= {pw.main with body:=[st 26]}}
def loose:List Str:=["EOF","spaceCharacters","asciiLetters","digits","hexDigits","asciiLower","entities","replacementCharacters","tokenTypes","tagTokenTypes","Text","_is_invalid","HTMLUnicodeInputStream","bisect_left","Trie","entitiesTrie","HTMLTokenizer","_law_PIECES","_law_run","_law_pieces","_law_joined"]
noncomputable def H1(P:Params):Heap:=absHeap (nY P) 785 {}
theorem size(w:World):((boot_heap w.params).isNs mainGlobals&&(Array.mk []:Array GenState).size==0,(boot_heap w.params).objs.size,(boot_heap w.params).nsMap mainGlobals "__annotations__")=(true,11,(some (R 6))):=by kernel_rfl!
theorem FG(w:World):(fencedOpening treeTable pw w 20000).map (λs=>(s.heap,s.gens,s.drawn,s.toks))=some (boot_heap w.params,Array.mk [],boot_drawn,boot_toks):=boot_open (by kernel_rfl!) (by decide+kernel) (λ_=>rfl) w
theorem JQ:importedModules pw.main.body=[]:=by kernel_rfl!
theorem F4(w:World)(os:OsState):(staticsOk [] (boot_heap w.params) (H1 w.params)&&namesBound pw (H1 w.params)&&gensDone ⟨H1 w.params, #[], {},1542,os⟩&&laidKept (boot_heap w.params) (H1 w.params))=true:=by kernel_rfl!
theorem F3(w:World)(os:OsState):openSeen q loose [] (λs=>recOk [] s) true ⟨H1 w.params, #[], {},1542,os⟩=openGood q loose:=by rw [Fast.te4187177175401517315];kernel_rfl!
theorem left:LeftO pw q loose (λs=>recOk [] s) (λs=>s.heap) (λw=>H1 w.params) 20000:=by
 refine LeftO.of_pieces (H₁:=H1) FG size (λw os=>run w os) (by decide+kernel) λw=> ?_
 rw [JQ]
 funext os
 exact Prod.ext (F4 w os) (Prod.ext (F3 w os) rfl)
end Mine.Head
namespace Mine.Head
theorem l1:sreFenced pw.main=true:=by rw [Fast.te11788848310118352699];decide+kernel
theorem l2:((moduleNames pw.main.body).isEmpty||lookedIntoSs (moduleNames pw.main.body) pw.main.body)=true:=by rw [Fast.te9807087744658564304,Fast.te12862048085361865435];decide+kernel
theorem l3:namesResolve pw=true:=by rw [Fast.te8377067652309620493];decide+kernel
theorem l4:(pw.boundNames.all (λn=> !worldNames.contains n))=true:=by rw [Fast.te18344453789297297638,Fast.te14412699480532031325];simp only [Fast.te3471404346716756564];decide+kernel
theorem l5:noRoadLSs {strict:= !(importedModules pw.main.body).all cThrough.contains,foot:=none,bare:=(["vars","dir","locals"]:List Str).filter (readsOut pw pw.main.body)} pw.main.body=true:=by
 rw [Fast.te8326940854005059898,Fast.te5923862056798008813,Fast.te13343964577679436407];decide+kernel
theorem l6:(namesMeet pw pw.main.body λ_ n=>attrL n)=true:=by
 rw [Fast.te17119622794617984870,Fast.te17868728402115742887];decide+kernel
theorem lo:looksOpen pw=true:=by
 unfold looksOpen
 rw [l1,l2,l3,l4,l5,l6];rfl
theorem m1:dD.row.partSaid=true:=by
 unfold OpenRow.partSaid
 rw [show dD.row.prog=pw from rfl,lo]
 decide+kernel
theorem m2:dD.row.wellSaid=true:=by
 unfold OpenRow.wellSaid
 rw [m1,Fast.te18344453789297297638,Fast.te12749700546528644094]
 decide+kernel
theorem n1:(decide (dD.foot≤(behindTheImports dD.prog).length)&&dD.footing.all footLine)=true:=by rw [Fast.te10501279942588096481];decide+kernel
theorem n2:noClassBlock dD.prog dD.footing=true:=by rw [Fast.te8179353310426384613];decide+kernel
theorem n3:noRoadLSs {strict:=true,foot:=some dD.bound',writes:=dD.writes,may:=dD.may} dD.footing=true:=by
 rw [Fast.te8326940854005059898,Fast.te797321630700447069,Fast.te9572597257264208301];decide+kernel
theorem n4:defStands dD.about dD.above=true:=by rw [Fast.te9558739934217749035];decide+kernel
theorem n5:dD.namesIt=true:=by rw [Fast.te16286561074155671207];decide+kernel
theorem n6:(dD.bound'.all (λn=> !builtinNamed n||dD.about==[n]|| !dD.reads n))=true:=by
 rw [Fast.te797321630700447069];simp only [Fast.te6984425678791042302];decide+kernel
theorem n7:(dD.prog.main.body.flatMap importedNames).all (λn=> !dD.reads n||(drawsOf n dD.prog.main.body).all λmn=>mn.2 !=("attrgetter":Str)&&mn.2 !=("methodcaller":Str))=true:=by decide+kernel
theorem n8:namesMeet dD.prog dD.footing (λsc n=>(!(["type","isinstance","issubclass","getattr","hasattr"]:List Str).contains n||sc.names.lookup n==some .globalImplicit)&&
  (dD.may !=some n||sc.kind== .module||sc.names.lookup n==some .globalImplicit))=true:=by
 rw [Fast.te17119622794617984870];simp only [Fast.te9572597257264208301];decide+kernel
theorem n9:(dD.own.contains dD.name&&dD.own.eraseDups.length==dD.own.length&&dD.own.all (λn=> !builtinNamed n))=true:=by rw [Fast.te10792542408131684335];decide+kernel
theorem MD:namesMeet dD.prog dD.above (λ_ n=> !dD.own.contains n)=true:=by
 rw [Fast.te17119622794617984870];simp only [Fast.te10792542408131684335];decide+kernel
theorem MC:(namesMeet dD.prog dD.footing λsc n=>sc.kind== .module||sc.names.lookup n !=some .globalExplicit)=true:=by
 rw [Fast.te17119622794617984870];decide+kernel
theorem MB:(dD.most.all (λn=>decide (63≤n))&&dD.bound.all (λn=>decide (2 ^ 63≤n)))=true:=by decide+kernel
theorem MN:(["type","isinstance","issubclass","getattr","hasattr"]:List String).all (λn=>dD.about !=[(n:Str)])=true:=by decide+kernel
theorem IK:Program.tablesWhole pw=true:=by decide+kernel
theorem Bb:dD.wellSaid=true:=by
 unfold OpenLaw.wellSaid
 simp only [Bool.and_eq_true]
 have a1:=n1;have a9:=n9;have a12:=MB
 simp only [Bool.and_eq_true] at a1 a9 a12
 refine⟨⟨⟨⟨⟨⟨⟨⟨⟨⟨⟨⟨⟨⟨⟨⟨⟨⟨m2,a1.1⟩,a1.2⟩,n2⟩,a12.1⟩,a12.2⟩,n3⟩,n4⟩,n5⟩, ?_⟩,n6⟩,rfl⟩,n7⟩,n8⟩,a9.1.1⟩,a9.1.2⟩,a9.2⟩,MD⟩,MC⟩
 decide+kernel
theorem IC:dD.row.toRowW.promised:=⟨[.list []],by decide+kernel,by decide+kernel⟩
def YP(w:World)(h:Heap):Prop:=∀b o,(H1 w.params).get? b=some o->h.get? b=some o
def u8:DefRec:=match st 26 with
 | .FunctionDef name args body _ _ _ scope _ _ pos=>⟨name,args,body,scope,pos⟩
 |_=>⟨"",⟨[],[],none,[],[],none,[]⟩,[],⟨.function,[],false,false,[]⟩,default⟩
theorem bare:dD.row.prog.bare:=⟨rfl,rfl,rfl,rfl,rfl,IK⟩
theorem head(walk:WalkO q loose (λ_ _=>True) YP dD.row.toRowW u8 [] λf vs=>PySem.call f vs):dD.Holds:=
 holds_law Bb λsaid'=>W.holds_open (r:=dD.row) (q:=q) (loose:=loose) (Xt:=λs=>recOk [] s) (XP:=λ_ _=>True) (Yf:=λs=>s.heap) (Ya:=λw=>H1 w.params) (YP:=YP) (d:=u8) (kwd:=[]) (N:=20000)
  left (λw s e b o x=>by rw [e];exact x) (λw h h' y k b o x=>k b o (y b o x)) (λ_ _=>trivial) (λ_ _ _ _ _=>trivial)
  (by kernel_rfl!) (by kernel_rfl!) (by kernel_rfl!) (λs e=>recFacts_of e) (by decide+kernel) said' (by decide+kernel) bare IC walk
end Mine.Head
namespace Mine.B
open Mine.A
open Mine.Head
theorem mZ:∀(l:List Obj) (k:Nat),(bt.odds l)[k]? =l[2*k]?
 | [],k=>by simp [bt.odds]
 | [a],0=>rfl
 | [a],k+1=>by simp [bt.odds,Nat.mul_add]
 |a::b::r,0=>rfl
 |a::b::r,k+1=>by
  show(bt.odds r)[k]? =_
  rw [mZ r k,Nat.mul_add];rfl
theorem kG:∀(l:List Obj) (k:Nat),(bt.evens l)[k]? =l[2*k+1]?
 | [],k=>by simp [bt.evens]
 | [a],k=>by simp [bt.evens]
 |a::b::r,0=>rfl
 |a::b::r,k+1=>by
  show(bt.evens r)[k]? =_
  rw [kG r k,Nat.mul_add];rfl
theorem mY:∀l:List Obj,2*(bt.odds l).length≤l.length+1
 | []=>by simp [bt.odds]
 | [a]=>by simp [bt.odds]
 |a::b::r=>by have:=mY r;simp only [bt.odds,List.length_cons];lia
theorem kF:∀l:List Obj,2*(bt.evens l).length≤l.length
 | []=>by simp [bt.evens]
 | [a]=>by simp [bt.evens]
 |a::b::r=>by have:=kF r;simp only [bt.evens,List.length_cons];lia
theorem pF:∀(n:Nat) (l:List Obj),l.length<2 ^ n->∀i,(bt n l).get i=l[i]?
 |0,l,h,i=>by
  have:l=[]:=List.length_eq_zero_iff.mp (by lia)
  subst this;simp [bt,BT.get]
 |n+1,[],h,i=>by simp [bt,BT.get]
 |n+1,o::r,h,i=>by
  rw [Nat.pow_succ,List.length_cons] at h
  have h1:=mY r;have h2:=kF r
  show(BT.node o (bt n (bt.odds r)) (bt n (bt.evens r))).get i=_
  rw [BT.get_node,pF n _ (by lia),pF n _ (by lia),mZ,kG]
  cases i with
  |zero=>rfl
  |succ i=>
   rw [if_neg (Nat.succ_ne_zero i),List.getElem?_cons_succ]
   split
   ·congr 1;lia
   ·congr 1;lia
theorem q9(P:Params):(fin P).length=785:=by kernel_rfl!
noncomputable def gl(o:Obj):Bool:=match o.data with| .freed=>false|_=>true
theorem sG(P:Params):(fin P).all gl=true:=by kernel_rfl!
noncomputable def d3(P:Params)(a:Addr):Obj:=(fin P).getD a default
theorem ck(P:Params){a:Addr}(h:a<785):(H1 P).get? a=some (d3 P a):=by
 have hl:a<(fin P).length:=by rw [q9];exact h
 have e:(fin P)[a]? =some (d3 P a):=by
  unfold d3;rw [List.getD_eq_getElem?_getD,List.getElem?_eq_getElem hl];rfl
 have hw:gl (d3 P a)=true:=List.all_eq_true.mp (sG P) _ (List.mem_of_getElem? e)
 have e2:(H1 P).objs[a]? =some (d3 P a):=by
  show(absHeap (nY P) 785 {}).objs[a]? =_
  rw [absHeap_at,if_pos h]
  show some ((BT.get (bt 12 (((fin P).take 785))) a).getD default)=_
  rw [pF 12 _ (by rw [List.length_take,q9];decide),List.getElem?_take,if_pos h,e];rfl
 unfold Heap.get?
 rw [e2]
 generalize d3 P a=o at hw
 obtain⟨o1,o2,o3,o4⟩:=o
 cases o3<;>first|rfl|cases hw
theorem kK(P:Params):(H1 P).objs.size=785:=absHeap_size _ _ _
noncomputable def JO(i:Nat):PySem.Str:=⟨(List.replicate (i+1000) 0).toArray⟩
end Mine.B
namespace Mine.B
open Mine.A
open Mine.Head
noncomputable def nms:List PySem.Str:=[[97,112,112,101,110,100],[112,111,112],[106,111,105,110],[114,101,112,108,97,99,101],[99,111,117,110,116],[114,102,105,110,100],[115,112,108,105,116],[108,111,119,101,114],[117,112,112,101,114],[115,116,97,114,116,115,119,105,116,104],[102,105,110,100],[103,101,116],[117,112,100,97,116,101],[105,110,100,101,120],[107,101,121,115],[104,97,115,95],[120,49],[120,50],[120,51],[120,52],[120,53],[120,54],[120,55],[120,56],[120,57],[120,97],[120,98],[120,99],[120,100],[120,101],[120,102],[120,103],[69,79,70],[72,84,77,76,84,111,107,101,110,105,122,101,114],[72,84,77,76,85,110,105,99,111,100,101,73,110,112,117,116,83,116,114,101,97,109],[75,101,121,69,114,114,111,114],[84,101,120,116],[84,114,105,101],[86,97,108,117,101,69,114,114,111,114],[95],[95,95,110,97,109,101,95,95],[95,98,117,102,102,101,114,101,100,67,104,97,114,97,99,116,101,114],[95,99,97,99,104,101,112,111,105,110,116,115],[95,99,97,99,104,101,115,116,114],[95,100,97,116,97],[95,100,101,102,97,117,108,116,67,104,117,110,107,83,105,122,101],[95,105,115,95,105,110,118,97,108,105,100],[95,107,101,121,115],[95,108,97,119,95,66,76,65,78,75,83],[95,108,97,119,95,70,73,71,85,82,69,83],[95,108,97,119,95,71,65,80,83],[95,108,97,119,95,73,78,83,73,68,69],[95,108,97,119,95,75,69,89,83],[95,108,97,119,95,75,73,78,68,83],[95,108,97,119,95,76,69,84,84,69,82,83],[95,108,97,119,95,76,73,78,69,83],[95,108,97,119,95,76,79,83,84],[95,108,97,119,95,78,65,77,69,68],[95,108,97,119,95,79,76,68],[95,108,97,119,95,79,80,69,78,69,82,83],[95,108,97,119,95,80,65,68,83],[95,108,97,119,95,80,73,69,67,69,83],[95,108,97,119,95,83,73,71,78,83],[95,108,97,119,95,83,77,65,76,76],[95,108,97,119,95,83,84,79,80,83],[95,108,97,119,95,97,100,100],[95,108,97,119,95,98,101,116,119,101,101,110],[95,108,97,119,95,99,104,97,114,115],[95,108,97,119,95,102,105,103,117,114,101,115],[95,108,97,119,95,105,110,115,105,100,101],[95,108,97,119,95,106,111,105,110,101,100],[95,108,97,119,95,108,101,116,116,101,114,115],[95,108,97,119,95,109,97,114,107,117,112],[95,108,97,119,95,110,117,109,98,101,114],[95,108,97,119,95,112,105,101,99,101,115],[95,108,97,119,95,114,101,97,99,104],[95,108,97,119,95,114,101,102,101,114,101,110,99,101],[95,108,97,119,95,114,117,110],[95,108,97,119,95,115,107,105,112],[95,108,97,119,95,115,109,97,108,108],[95,108,97,119,95,115,116,111,112],[95,108,97,119,95,116,97,103],[95,108,97,119,95,116,111,108,100],[95,108,97,119,95,118,97,108,117,101],[95,108,97,119,95,119,114,105,116,101],[95,112,111,115,105,116,105,111,110],[95,119,97,108,108],[97,102,116,101,114],[97,102,116,101,114,65,116,116,114,105,98,117,116,101,78,97,109,101,83,116,97,116,101],[97,102,116,101,114,65,116,116,114,105,98,117,116,101,86,97,108,117,101,83,116,97,116,101],[97,102,116,101,114,68,111,99,116,121,112,101,78,97,109,101,83,116,97,116,101],[97,102,116,101,114,68,111,99,116,121,112,101,80,117,98,108,105,99,73,100,101,110,116,105,102,105,101,114,83,116,97,116,101],[97,102,116,101,114,68,111,99,116,121,112,101,80,117,98,108,105,99,75,101,121,119,111,114,100,83,116,97,116,101],[97,102,116,101,114,68,111,99,116,121,112,101,83,121,115,116,101,109,73,100,101,110,116,105,102,105,101,114,83,116,97,116,101],[97,102,116,101,114,68,111,99,116,121,112,101,83,121,115,116,101,109,75,101,121,119,111,114,100,83,116,97,116,101],[97,103,97,105,110],[97,108,108,111,119,101,100],[97,108,108,111,119,101,100,67,104,97,114],[97,112,112,114,111,112,114,105,97,116,101],[97,115,99,105,105,76,101,116,116,101,114,115],[97,115,99,105,105,76,111,119,101,114],[97,116,116,114,105,98,117,116,101,78,97,109,101,83,116,97,116,101],[97,116,116,114,105,98,117,116,101,86,97,108,117,101,68,111,117,98,108,101,81,117,111,116,101,100,83,116,97,116,101],[97,116,116,114,105,98,117,116,101,86,97,108,117,101,83,105,110,103,108,101,81,117,111,116,101,100,83,116,97,116,101],[97,116,116,114,105,98,117,116,101,86,97,108,117,101,85,110,81,117,111,116,101,100,83,116,97,116,101],[98,97,115,101],[98,101,102,111,114,101],[98,101,102,111,114,101,65,116,116,114,105,98,117,116,101,78,97,109,101,83,116,97,116,101],[98,101,102,111,114,101,65,116,116,114,105,98,117,116,101,86,97,108,117,101,83,116,97,116,101],[98,101,102,111,114,101,68,111,99,116,121,112,101,78,97,109,101,83,116,97,116,101],[98,101,102,111,114,101,68,111,99,116,121,112,101,80,117,98,108,105,99,73,100,101,110,116,105,102,105,101,114,83,116,97,116,101],[98,101,102,111,114,101,68,111,99,116,121,112,101,83,121,115,116,101,109,73,100,101,110,116,105,102,105,101,114,83,116,97,116,101],[98,101,104,105,110,100],[98,101,116,119,101,101,110,68,111,99,116,121,112,101,80,117,98,108,105,99,65,110,100,83,121,115,116,101,109,73,100,101,110,116,105,102,105,101,114,115,83,116,97,116,101],[98,105,115,101,99,116,95,108,101,102,116],[98,108,97,110,107],[98,111,103,117,115,67,111,109,109,101,110,116,83,116,97,116,101],[98,111,103,117,115,68,111,99,116,121,112,101,83,116,97,116,101],[99],[99,104,97,114],[99,104,97,114,65,115,73,110,116],[99,104,97,114,83,116,97,99,107],[99,104,97,114,97,99,116,101,114,69,114,114,111,114,115,85,67,83,52],[99,104,97,114,97,99,116,101,114,82,101,102,101,114,101,110,99,101,73,110,82,99,100,97,116,97],[99,104,97,114,97,99,116,101,114,115],[99,104,97,114,115],[99,104,97,114,115,85,110,116,105,108],[99,104,111,115,101,110],[99,104,114],[99,104,117,110,107],[99,104,117,110,107,79,102,102,115,101,116],[99,104,117,110,107,83,105,122,101],[99,108,111,115,101,84,97,103,79,112,101,110,83,116,97,116,101],[99,108,111,115,105,110,103],[99,111,100,101,112,111,105,110,116],[99,111,108],[99,111,109,109,101,110,116,69,110,100,66,97,110,103,83,116,97,116,101],[99,111,109,109,101,110,116,69,110,100,68,97,115,104,83,116,97,116,101],[99,111,109,109,101,110,116,69,110,100,83,116,97,116,101],[99,111,109,109,101,110,116,83,116,97,114,116,68,97,115,104,83,116,97,116,101],[99,111,109,109,101,110,116,83,116,97,114,116,83,116,97,116,101],[99,111,109,109,101,110,116,83,116,97,116,101],[99,111,110,115,117,109,101,69,110,116,105,116,121],[99,111,110,115,117,109,101,78,117,109,98,101,114,69,110,116,105,116,121],[99,117,114,114,101,110,116,84,111,107,101,110],[100,97,116,97],[100,97,116,97,83,116,97,116,101],[100,97,116,97,83,116,114,101,97,109],[100,105,99,116],[100,105,103,105,116,115],[100,111,99,116,121,112,101,78,97,109,101,83,116,97,116,101],[100,111,99,116,121,112,101,80,117,98,108,105,99,73,100,101,110,116,105,102,105,101,114,68,111,117,98,108,101,81,117,111,116,101,100,83,116,97,116,101],[100,111,99,116,121,112,101,80,117,98,108,105,99,73,100,101,110,116,105,102,105,101,114,83,105,110,103,108,101,81,117,111,116,101,100,83,116,97,116,101],[100,111,99,116,121,112,101,83,116,97,116,101],[100,111,99,116,121,112,101,83,121,115,116,101,109,73,100,101,110,116,105,102,105,101,114,68,111,117,98,108,101,81,117,111,116,101,100,83,116,97,116,101],[100,111,99,116,121,112,101,83,121,115,116,101,109,73,100,101,110,116,105,102,105,101,114,83,105,110,103,108,101,81,117,111,116,101,100,83,116,97,116,101],[100,114,97,119,110],[100,117,101],[101,109,105,116,67,117,114,114,101,110,116,84,111,107,101,110],[101,109,105,116,84,111,107,101,110],[101,110,100],[101,110,100,105,110,103],[101,110,116,105,116,105,101,115],[101,110,116,105,116,105,101,115,84,114,105,101],[101,110,116,105,116,121,68,97,116,97,83,116,97,116,101],[101,110,116,105,116,121,76,101,110,103,116,104],[101,110,116,105,116,121,78,97,109,101],[101,110,117,109,101,114,97,116,101],[101,114,114,111,114,115],[101,115,99,97,112,101],[101,115,99,97,112,101,70,108,97,103],[101,120,112,101,99,116,101,100],[102,97,117,108,116],[102,97,117,108,116,121],[102,105,114,115,116],[102,105,116,115],[102,114,111,109,65,116,116,114,105,98,117,116,101],[103,111,116],[104,97,115,95,107,101,121,115,95,119,105,116,104,95,112,114,101,102,105,120],[104,101,97,100],[104,101,120],[104,101,120,68,105,103,105,116,115],[104,105],[104,105,103,104],[105],[105,110,116],[105,115,72,101,120],[106,111,105,110,101,100],[107],[107,101,112,116],[107,101,121],[107,105,110,100],[107,110,111,119,110],[108,97,115,116],[108,97,115,116,70,111,117,114,67,104,97,114,115],[108,97,115,116,76,105,110,101,80,111,115],[108,97,115,116,118],[108,101,97,118,105,110,103,84,104,105,115,83,116,97,116,101],[108,101,110],[108,105,110,101],[108,105,110,101,115],[108,111],[108,111,110,103,101,115,116],[108,111,110,103,101,115,116,95,112,114,101,102,105,120],[108,111,119],[109],[109,97,99,104,105,110,101],[109,97,114,107,117,112,68,101,99,108,97,114,97,116,105,111,110,79,112,101,110,83,116,97,116,101],[109,97,116,99,104,101,100],[109,97,120],[109,101,110,100,101,100],[109,105,100,100,108,101],[109,105,110],[110],[110,76,105,110,101,115],[110,97,109,101],[110,101,119,76,105,110,101,115],[110,111,117,103,104,116],[110,117,109,98,101,114],[110,117,109,98,101,114,115],[111,98,106,101,99,116],[111,102,102,115,101,116],[111,112,101,110,83,116,114,101,97,109],[111,112,101,110,101,100],[111,112,101,110,101,114],[111,112,112,111,115,105,116,101],[111,114,100],[111,116,104,101,114],[111,117,116],[111,117,116,112,117,116],[112],[112,97,105,114],[112,97,114,115,101,114],[112,97,114,116],[112,97,114,116,115],[112,105,101,99,101],[112,105,101,99,101,115],[112,108,97,99,101],[112,108,97,105,110,116,101,120,116,83,116,97,116,101],[112,111,115,105,116,105,111,110],[112,111,115,105,116,105,111,110,67,111,108,117,109,110],[112,111,115,105,116,105,111,110,76,105,110,101],[112,114,101,102,105,120],[112,114,101,118,78,117,109,67,111,108,115],[112,114,101,118,78,117,109,76,105,110,101,115],[112,114,111,99,101,115,115,69,110,116,105,116,121,73,110,65,116,116,114,105,98,117,116,101],[113,117,111,116,101],[113,117,111,116,101,100],[114],[114,97,100,105,120],[114,97,110,103,101],[114,97,119],[114,97,119,116,101,120,116,69,110,100,84,97,103,78,97,109,101,83,116,97,116,101],[114,97,119,116,101,120,116,69,110,100,84,97,103,79,112,101,110,83,116,97,116,101],[114,97,119,116,101,120,116,76,101,115,115,84,104,97,110,83,105,103,110,83,116,97,116,101],[114,97,119,116,101,120,116,83,116,97,116,101],[114,99,100,97,116,97,69,110,100,84,97,103,78,97,109,101,83,116,97,116,101],[114,99,100,97,116,97,69,110,100,84,97,103,79,112,101,110,83,116,97,116,101],[114,99,100,97,116,97,76,101,115,115,84,104,97,110,83,105,103,110,83,116,97,116,101],[114,99,100,97,116,97,83,116,97,116,101],[114,101,97,100],[114,101,97,100,67,104,117,110,107],[114,101,97,100,105,110,103],[114,101,112,108,97,99,101,109,101,110,116,67,104,97,114,97,99,116,101,114,115],[114,101,112,111,114,116,67,104,97,114,97,99,116,101,114,69,114,114,111,114,115],[114,101,115,101,116],[114,101,115,116],[114,111,119],[114,111,119,115],[114,118],[115,97,102,101],[115,97,109,101],[115,99,114,105,112,116],[115,99,114,105,112,116,68,97,116,97,68,111,117,98,108,101,69,115,99,97,112,101,69,110,100,83,116,97,116,101],[115,99,114,105,112,116,68,97,116,97,68,111,117,98,108,101,69,115,99,97,112,101,83,116,97,114,116,83,116,97,116,101],[115,99,114,105,112,116,68,97,116,97,68,111,117,98,108,101,69,115,99,97,112,101,100,68,97,115,104,68,97,115,104,83,116,97,116,101],[115,99,114,105,112,116,68,97,116,97,68,111,117,98,108,101,69,115,99,97,112,101,100,68,97,115,104,83,116,97,116,101],[115,99,114,105,112,116,68,97,116,97,68,111,117,98,108,101,69,115,99,97,112,101,100,76,101,115,115,84,104,97,110,83,105,103,110,83,116,97,116,101],[115,99,114,105,112,116,68,97,116,97,68,111,117,98,108,101,69,115,99,97,112,101,100,83,116,97,116,101],[115,99,114,105,112,116,68,97,116,97,69,110,100,84,97,103,78,97,109,101,83,116,97,116,101],[115,99,114,105,112,116,68,97,116,97,69,110,100,84,97,103,79,112,101,110,83,116,97,116,101],[115,99,114,105,112,116,68,97,116,97,69,115,99,97,112,101,83,116,97,114,116,68,97,115,104,83,116,97,116,101],[115,99,114,105,112,116,68,97,116,97,69,115,99,97,112,101,83,116,97,114,116,83,116,97,116,101],[115,99,114,105,112,116,68,97,116,97,69,115,99,97,112,101,100,68,97,115,104,68,97,115,104,83,116,97,116,101],[115,99,114,105,112,116,68,97,116,97,69,115,99,97,112,101,100,68,97,115,104,83,116,97,116,101],[115,99,114,105,112,116,68,97,116,97,69,115,99,97,112,101,100,69,110,100,84,97,103,78,97,109,101,83,116,97,116,101],[115,99,114,105,112,116,68,97,116,97,69,115,99,97,112,101,100,69,110,100,84,97,103,79,112,101,110,83,116,97,116,101],[115,99,114,105,112,116,68,97,116,97,69,115,99,97,112,101,100,76,101,115,115,84,104,97,110,83,105,103,110,83,116,97,116,101],[115,99,114,105,112,116,68,97,116,97,69,115,99,97,112,101,100,83,116,97,116,101],[115,99,114,105,112,116,68,97,116,97,76,101,115,115,84,104,97,110,83,105,103,110,83,116,97,116,101],[115,99,114,105,112,116,68,97,116,97,83,116,97,116,101],[115,101,101,110],[115,101,108,102],[115,101,108,102,67,108,111,115,105,110,103,83,116,97,114,116,84,97,103,83,116,97,116,101],[115,104,111,114,116],[115,105,103,110],[115,105,122,101],[115,108,97,115,104],[115,111,114,116,101,100],[115,111,117,114,99,101],[115,112,97,99,101,67,104,97,114,97,99,116,101,114,115],[115,116,97,114,116],[115,116,97,116,101],[115,116,111,112],[115,116,111,112,115],[115,116,114,101,97,109],[116,97,103,78,97,109,101,83,116,97,116,101],[116,97,103,79,112,101,110,83,116,97,116,101],[116,97,103,84,111,107,101,110,84,121,112,101,115],[116,97,112,101],[116,101,109,112,111,114,97,114,121,66,117,102,102,101,114],[116,101,120,116],[116,111,107,101,110],[116,111,107,101,110,81,117,101,117,101],[116,111,107,101,110,84,121,112,101],[116,111,107,101,110,84,121,112,101,115],[116,111,107,101,110,105,122,101,114],[116,111,107,101,110,115],[116,111,108,100],[116,117,112,108,101],[116,117,114,110],[117,110,103,101,116],[118],[118,97,108,117,101],[119,97,121],[119,111,114,100],[119,111,114,100,115],[119,114,105,116,116,101,110]].map (λl:List Nat=>(⟨l.toArray⟩:PySem.Str))
noncomputable def a6:V:=.c (.tup [(.str [97]),(.str [98]),(.str [99]),(.str [100]),(.str [101]),(.str [102]),(.str [103]),(.str [104]),(.str [105]),(.str [106]),(.str [107]),(.str [108]),(.str [109]),(.str [110]),(.str [111]),(.str [112]),(.str [113]),(.str [114]),(.str [115]),(.str [116]),(.str [117]),(.str [118]),(.str [119]),(.str [120]),(.str [121]),(.str [122]),(.str [65]),(.str [66]),(.str [67]),(.str [68]),(.str [69]),(.str [70]),(.str [71]),(.str [72]),(.str [73]),(.str [74]),(.str [75]),(.str [76]),(.str [77]),(.str [78]),(.str [79]),(.str [80]),(.str [81]),(.str [82]),(.str [83]),(.str [84]),(.str [85]),(.str [86]),(.str [87]),(.str [88]),(.str [89]),(.str [90])])
noncomputable def jL:V:=.c (.tup [(.str [48]),(.str [49]),(.str [50]),(.str [51]),(.str [52]),(.str [53]),(.str [54]),(.str [55]),(.str [56]),(.str [57])])
noncomputable def iP:V:=.c (.tup [(.str [48]),(.str [49]),(.str [50]),(.str [51]),(.str [52]),(.str [53]),(.str [54]),(.str [55]),(.str [56]),(.str [57]),(.str [97]),(.str [98]),(.str [99]),(.str [100]),(.str [101]),(.str [102]),(.str [65]),(.str [66]),(.str [67]),(.str [68]),(.str [69]),(.str [70])])
noncomputable def dL:V:=.c (.dct [([65,77,80],(.str [38])),([65,77,80,59],(.str [38])),([69,97,99,117,116,101],(.str [201])),([69,97,99,117,116,101,59],(.str [201])),([77,111,112,102,59],(.str [120132])),([97,99,59],(.str [8766])),([97,99,69,59],(.str [8766,819])),([97,99,117,116,101],(.str [180])),([97,99,117,116,101,59],(.str [180])),([97,109,112],(.str [38])),([97,109,112,59],(.str [38])),([97,110,103,59],(.str [8736])),([97,110,103,108,101,59],(.str [8736])),([98,110,101,59],(.str [61,8421])),([99,111,112,121],(.str [169])),([99,111,112,121,59],(.str [169])),([101,97,99,117,116,101],(.str [233])),([101,97,99,117,116,101,59],(.str [233])),([102,114,97,99,49,50],(.str [189])),([102,114,97,99,49,50,59],(.str [189])),([103,116],(.str [62])),([103,116,59],(.str [62])),([108,116],(.str [60])),([108,116,59],(.str [60])),([110,98,115,112],(.str [160])),([110,98,115,112,59],(.str [160])),([110,111,116],(.str [172])),([110,111,116,59],(.str [172])),([110,111,116,105,110,59],(.str [8713])),([110,111,116,110,105,59],(.str [8716])),([112,97,114,97],(.str [182])),([112,97,114,97,59],(.str [182])),([112,97,114,97,108,108,101,108,59],(.str [8741])),([113,117,111,116],(.str [34])),([113,117,111,116,59],(.str [34])),([115,117,112,49],(.str [185])),([115,117,112,49,59],(.str [185])),([115,117,112,50],(.str [178])),([115,117,112,50,59],(.str [178])),([115,117,112,59],(.str [8835])),([116,105,109,101,115],(.str [215])),([116,105,109,101,115,59],(.str [215])),([116,105,109,101,115,98,59],(.str [8864]))])
noncomputable def ap:V:=.c (.dct [([68,111,99,116,121,112,101],(.int (0))),([67,104,97,114,97,99,116,101,114,115],(.int (1))),([83,112,97,99,101,67,104,97,114,97,99,116,101,114,115],(.int (2))),([83,116,97,114,116,84,97,103],(.int (3))),([69,110,100,84,97,103],(.int (4))),([69,109,112,116,121,84,97,103],(.int (5))),([67,111,109,109,101,110,116],(.int (6))),([80,97,114,115,101,69,114,114,111,114],(.int (7)))])
noncomputable def eU:V:=.c (.lst [(.str [97]),(.str [98,32,99]),(.str [60]),(.str [60,47]),(.str [60,47,112,62]),(.str [0]),(.str [38]),(.str [32]),(.str [13,10]),(.str [13]),(.str [10]),(.str [60,47,116,105,116,108,101,62]),(.str [60,47,115,116,121,108,101,32]),(.str [60,47,101,109,45]),(.str [60,47,101,109,109,62]),(.str [60,47,101]),(.str [60,33,45,45]),(.str [45,45,62]),(.str [60,112,62]),(.str [38,97,109,112,59]),(.str [38,35,48]),(.str [1]),(.str [127]),(.str [64976]),(.str [65534]),(.str [233]),(.str [128512]),(.str [62]),(.str [47]),(.str [45]),(.str [60,47,115,99,114,105,112,116,62]),(.str [9,12])])
noncomputable def vn:List (PySem.Str×V):=[
 (⟨#[69,79,70]⟩,.c .non),
 (⟨#[115,112,97,99,101,67,104,97,114,97,99,116,101,114,115]⟩,.c (.tup [(.str [9]),(.str [10]),(.str [12]),(.str [32]),(.str [13])])),
 (⟨#[97,115,99,105,105,76,101,116,116,101,114,115]⟩,a6),
 (⟨#[100,105,103,105,116,115]⟩,jL),
 (⟨#[104,101,120,68,105,103,105,116,115]⟩,iP),
 (⟨#[97,115,99,105,105,76,111,119,101,114]⟩,.st 35),
 (⟨#[101,110,116,105,116,105,101,115]⟩,dL),
 (⟨#[116,111,107,101,110,84,121,112,101,115]⟩,ap),
 (⟨#[116,97,103,84,111,107,101,110,84,121,112,101,115]⟩,.c (.tup [(.int (3)),(.int (4)),(.int (5))])),
 (⟨#[84,101,120,116]⟩,.st 66),
 (⟨#[95,105,115,95,105,110,118,97,108,105,100]⟩,.st 77),
 (⟨#[72,84,77,76,85,110,105,99,111,100,101,73,110,112,117,116,83,116,114,101,97,109]⟩,.st 159),
 (⟨#[98,105,115,101,99,116,95,108,101,102,116]⟩,.st 171),
 (⟨#[84,114,105,101]⟩,.st 223),
 (⟨#[101,110,116,105,116,105,101,115,84,114,105,101]⟩,.st 229),
 (⟨#[72,84,77,76,84,111,107,101,110,105,122,101,114]⟩,.st 755),
 (⟨#[95,108,97,119,95,80,73,69,67,69,83]⟩,eU),
 (⟨#[95,108,97,119,95,114,117,110]⟩,.st 767),
 (⟨#[95,108,97,119,95,112,105,101,99,101,115]⟩,.st 772),
 (⟨#[95,108,97,119,95,106,111,105,110,101,100]⟩,.st 779),
 (⟨#[108,97,119]⟩,.st 784)]
noncomputable def isC(a:Nat):Bool:=[66,159,223,755].contains a
noncomputable def blt(x:PySem.Str):Option Nat:=jR x ([[108,101,110],[111,114,100],[99,104,114],[114,97,110,103,101],[114,110,103,50],[109,97,120],[109,105,110],[105,110,116],[100,105,99,116],[101,110,117,109,101,114,97,116,101],[115,111,114,116,101,100]].map (λl:List Nat=>(⟨l.toArray⟩:PySem.Str))) 0
noncomputable def Kj(n:Nat):Bool:=Nat.beq n 1534||Nat.beq n 252
noncomputable def cp:CP:=⟨nms,Kj,λx=>vn.lookup x,isC,blt⟩
noncomputable def BS:List (Nat×Nat):=[(260,63)]
noncomputable def d4:List (Nat×Nat):=[(265,98),(222,105),(85,112),(239,119),(119,126),(261,134),(122,141),(126,149),(321,156)]
noncomputable def uJ:List (Nat×Nat):=[(178,213),(203,220)]
noncomputable def iZ:List (Nat×Nat):=[(142,276),(146,297),(164,304),(259,311),(123,318),(255,325),(290,332),(238,339),(258,367),(257,374),(256,381),(254,388),(253,395),(252,402),(289,409),(280,416),(279,423),(282,430),(281,437),(288,444),(284,451),(283,458),(287,465),(286,472),(285,479),(274,486)]
noncomputable def yZ:List (Nat×List (Nat×Nat)):=[(66,BS),(159,d4),(223,uJ),(755,iZ),(229,uJ)]
noncomputable def xj:List (Nat×List (Nat×V)):=[(159,[(45,.c (.int (10240)))]),
 (229,[(44,.c (.dct [([65,77,80],(.str [38])),([65,77,80,59],(.str [38])),([69,97,99,117,116,101],(.str [201])),([69,97,99,117,116,101,59],(.str [201])),([77,111,112,102,59],(.str [120132])),([97,99,59],(.str [8766])),([97,99,69,59],(.str [8766,819])),([97,99,117,116,101],(.str [180])),([97,99,117,116,101,59],(.str [180])),([97,109,112],(.str [38])),([97,109,112,59],(.str [38])),([97,110,103,59],(.str [8736])),([97,110,103,108,101,59],(.str [8736])),([98,110,101,59],(.str [61,8421])),([99,111,112,121],(.str [169])),([99,111,112,121,59],(.str [169])),([101,97,99,117,116,101],(.str [233])),([101,97,99,117,116,101,59],(.str [233])),([102,114,97,99,49,50],(.str [189])),([102,114,97,99,49,50,59],(.str [189])),([103,116],(.str [62])),([103,116,59],(.str [62])),([108,116],(.str [60])),([108,116,59],(.str [60])),([110,98,115,112],(.str [160])),([110,98,115,112,59],(.str [160])),([110,111,116],(.str [172])),([110,111,116,59],(.str [172])),([110,111,116,105,110,59],(.str [8713])),([110,111,116,110,105,59],(.str [8716])),([112,97,114,97],(.str [182])),([112,97,114,97,59],(.str [182])),([112,97,114,97,108,108,101,108,59],(.str [8741])),([113,117,111,116],(.str [34])),([113,117,111,116,59],(.str [34])),([115,117,112,49],(.str [185])),([115,117,112,49,59],(.str [185])),([115,117,112,50],(.str [178])),([115,117,112,50,59],(.str [178])),([115,117,112,59],(.str [8835])),([116,105,109,101,115],(.str [215])),([116,105,109,101,115,59],(.str [215])),([116,105,109,101,115,98,59],(.str [8864]))])),(47,.c (.lst [(.str [65,77,80]),(.str [65,77,80,59]),(.str [69,97,99,117,116,101]),(.str [69,97,99,117,116,101,59]),(.str [77,111,112,102,59]),(.str [97,99,59]),(.str [97,99,69,59]),(.str [97,99,117,116,101]),(.str [97,99,117,116,101,59]),(.str [97,109,112]),(.str [97,109,112,59]),(.str [97,110,103,59]),(.str [97,110,103,108,101,59]),(.str [98,110,101,59]),(.str [99,111,112,121]),(.str [99,111,112,121,59]),(.str [101,97,99,117,116,101]),(.str [101,97,99,117,116,101,59]),(.str [102,114,97,99,49,50]),(.str [102,114,97,99,49,50,59]),(.str [103,116]),(.str [103,116,59]),(.str [108,116]),(.str [108,116,59]),(.str [110,98,115,112]),(.str [110,98,115,112,59]),(.str [110,111,116]),(.str [110,111,116,59]),(.str [110,111,116,105,110,59]),(.str [110,111,116,110,105,59]),(.str [112,97,114,97]),(.str [112,97,114,97,59]),(.str [112,97,114,97,108,108,101,108,59]),(.str [113,117,111,116]),(.str [113,117,111,116,59]),(.str [115,117,112,49]),(.str [115,117,112,49,59]),(.str [115,117,112,50]),(.str [115,117,112,50,59]),(.str [115,117,112,59]),(.str [116,105,109,101,115]),(.str [116,105,109,101,115,59]),(.str [116,105,109,101,115,98,59])])),(43,.c (.str [])),(42,.c (.tup [(.int (0)),(.int (43))]))])]
noncomputable def JT:List Nat:=[66,65,159,158,223,222,755,754,229,228,35,77,171,767,772,779,784,56,63,91,98,105,112,119,126,134,141,149,156,185,192,199,206,213,220,254,261,276,297,304,311,318,325,332,339,367,374,381,388,395,402,409,416,423,430,437,444,451,458,465,472,479,486]
noncomputable def oD:List (Nat×List Nat):=[(66,[311,237]),(159,[264,216,147,129,131,130,168,244,243,41]),(755,[305,232,170,194,302,169,144,313,310])]
noncomputable def iA:List (Nat×Nat):=[(66,3),(159,2),(755,1)]
noncomputable def oS:List (Nat×Nat):=[(66,56),(159,91),(755,254)]
noncomputable def lU:List (Nat×Nat):=[(313,5),(168,6),(194,8),(216,9),(144,63)]
noncomputable def iQ:List Nat:=[35,77,171,767,772,779,784,56,63,91,98,105,112,119,126,134,141,149,156,185,192,199,206,213,220,254,261,276,297,304,311,318,325,332,339,367,374,381,388,395,402,409,416,423,430,437,444,451,458,465,472,479,486]
noncomputable def nm(i:Nat):PySem.Str:=(nms[i]?).getD (JO i)
theorem r8:(nms.all λx=>Nat.blt x.cps.toList.length 1000)=true:=by decide+kernel
noncomputable def key(s:PySem.Str):Nat:=s.cps.toList.foldl (λa c=>a*2097152+c+1) 0
noncomputable def ux(l:List Nat):Bool:=List.rec true (λx r ih=>Bool.and (r.all λy=> !Nat.beq x y) ih) l
theorem m0{α:Type}(f:α->Nat){l:List α}(h:ux (l.map f)=true):l.Nodup:=by
 induction l with
 |nil=>exact .nil
 |cons x r ih=>
  obtain⟨h1,h2⟩:=bg h
  refine List.nodup_cons.mpr ⟨λhm=> ?_,ih h2⟩
  have:=List.all_eq_true.mp h1 (f x) (List.mem_map_of_mem hm)
  rw [Nat.beq_refl] at this;exact bU this
theorem qG:nms.Nodup:=m0 key (by decide+kernel)
theorem xS:(nms.all λx=> !(x==("__debug__":PySem.Str)))=true:=by decide+kernel
theorem uy(i j:Nat)(h:nm i=nm j):i=j:=by
 have len:∀i,i<nms.length->(nm i).cps.toList.length<1000:=λi hi=>by
  have:=List.all_eq_true.mp r8 (nm i) (by unfold nm;rw [List.getElem?_eq_getElem hi];exact List.getElem_mem hi)
  exact Nat.lt_of_lt_of_le (Nat.lt_succ_self _) (Nat.le_of_ble_eq_true this)
 have out:∀i,¬i<nms.length->(nm i).cps.toList.length=i+1000:=λi hi=>by
  unfold nm;rw [List.getElem?_eq_none (Nat.not_lt.mp hi)];show(JO i).cps.toList.length=_;unfold JO;simp
 by_cases hi:i<nms.length<;>by_cases hj:j<nms.length
 ·unfold nm at h
  rw [List.getElem?_eq_getElem hi,List.getElem?_eq_getElem hj] at h
  have h:nms[i]=nms[j]:=h
  rcases Nat.lt_trichotomy i j with l|l|l
  ·exact absurd h (List.pairwise_iff_getElem.mp qG i j hi hj l)
  ·exact l
  ·exact absurd h.symm (List.pairwise_iff_getElem.mp qG j i hj hi l)
 ·have:=len i hi;rw [h,out j hj] at this;lia
 ·have:=len j hj;rw [←h,out i hi] at this;lia
 ·have:=out i hi;rw [h,out j hj] at this;lia
theorem Ak{x:PySem.Str}{l:List PySem.Str}:∀ {k i:Nat},jR x l k=some i->k≤i∧l[i-k]? =some x:=by
 induction l with
 |nil=>intro k i h;exact ax h
 |cons y r ih=>
  intro k i h
  unfold jR at h
  by_cases e:x=y
  ·rw [if_pos e] at h;obtain rfl:=Option.some.inj h;exact⟨Nat.le_refl _,by rw [Nat.sub_self,e];rfl⟩
  ·rw [if_neg e] at h
   obtain⟨a,b⟩:=ih h
   refine⟨Nat.le_of_succ_le a, ?_⟩
   rw [show i-k=(i-(k+1))+1 by lia];exact b
theorem y0{x:PySem.Str}{i:Nat}(h:cp.code x=some i):nm i=x∧(x==("__debug__":PySem.Str))=false:=by
 have e:=(Ak h).2
 refine⟨?_, ?_⟩
 ·unfold nm;rw [show nms[i]? =some x from e];rfl
 ·have:=List.all_eq_true.mp xS x (List.mem_of_getElem? e)
  simpa using this
noncomputable def C(w:World):Cx:=⟨pw,w,nm,uy,H1 w.params,by rw [kK];decide⟩
noncomputable def nS(v:Value):Option (PySem.Str×Tok):=Value.casesOn (motive:=λ_=>Option (PySem.Str×Tok)) v none none none (λ_=>none) (λ_ _=>none) (λ_ _=>none) (λs t=>some (s,t)) (λ_ _=>none) (λ_=>none) (λ_=>none) (λ_=>none)
noncomputable def Ef(v:Value):Option (Int×Tok):=Value.casesOn (motive:=λ_=>Option (Int×Tok)) v none none none (λ_=>none) (λi t=>some (i,t)) (λ_ _=>none) (λ_ _=>none) (λ_ _=>none) (λ_=>none) (λ_=>none) (λ_=>none)
noncomputable def wS(v:Value):Option Addr:=Value.casesOn (motive:=λ_=>Option Addr) v none none none (λ_=>none) (λ_ _=>none) (λ_ _=>none) (λ_ _=>none) (λ_ _=>none) (λ_=>none) (λ_=>none) (λa=>some a)
theorem kN{v:Value}{p:PySem.Str×Tok}(h:nS v=some p):v=.str p.1 p.2:=by
 induction v using Value.casesOn with
 |str s t=>obtain rfl:=Option.some.inj h;rfl
 |_=>exact ax h
theorem AP{v:Value}{p:Int×Tok}(h:Ef v=some p):v=.int p.1 p.2:=by
 induction v using Value.casesOn with
 |int s t=>obtain rfl:=Option.some.inj h;rfl
 |_=>exact ax h
theorem nT{v:Value}{a:Addr}(h:wS v=some a):v=.ref a:=by
 induction v using Value.casesOn with
 |ref s=>exact congrArg Value.ref (Option.some.inj h)
 |_=>exact ax h
noncomputable def yX(d:Data):Option (Array Value×Nat):=Data.casesOn (motive:=λ_=>Option (Array Value×Nat)) d none (λ_=>none) (λa n=>some (a,n)) (λ_ _=>none) (λ_ _ _=>none) (λ_ _=>none) (λ_=>none) (λ_=>none) (λ_=>none) (λ_=>none) none
noncomputable def CT(d:Data):Option (Array DictEntry×Nat):=Data.casesOn (motive:=λ_=>Option (Array DictEntry×Nat)) d none (λ_=>none) (λ_ _=>none) (λa n=>some (a,n)) (λ_ _ _=>none) (λ_ _=>none) (λ_=>none) (λ_=>none) (λ_=>none) (λ_=>none) none
noncomputable def CQ(d:Data):Option FuncData:=Data.casesOn (motive:=λ_=>Option FuncData) d none (λ_=>none) (λ_ _=>none) (λ_ _=>none) (λ_ _ _=>none) (λ_ _=>none) (λ_=>none) (λf=>some f) (λ_=>none) (λ_=>none) none
noncomputable def Hg(d:Data):Option (Array Value):=Data.casesOn (motive:=λ_=>Option (Array Value)) d none (λ_=>none) (λ_ _=>none) (λ_ _=>none) (λ_ _ _=>none) (λ_ _=>none) (λ_=>none) (λ_=>none) (λ_=>none) (λa=>some a) none
theorem v7{d:Data}{p:Array Value×Nat}(h:yX d=some p):d=.seq p.1 p.2:=by
 induction d using Data.casesOn with
 |seq s t=>obtain rfl:=Option.some.inj h;rfl
 |_=>exact ax h
theorem CS{d:Data}{p:Array DictEntry×Nat}(h:CT d=some p):d=.dict p.1 p.2:=by
 induction d using Data.casesOn with
 |dict s t=>obtain rfl:=Option.some.inj h;rfl
 |_=>exact ax h
theorem CO{d:Data}{p:FuncData}(h:CQ d=some p):d=.func p:=by
 induction d using Data.casesOn with
 |func s=>exact congrArg Data.func (Option.some.inj h)
 |_=>exact ax h
theorem CR{d:Data}{p:Array Value}(h:Hg d=some p):d=.fields p:=by
 induction d using Data.casesOn with
 |fields s=>exact congrArg Data.fields (Option.some.inj h)
 |_=>exact ax h
noncomputable def fT(e:DictEntry):PySem.Str:=Option.rec ⟨#[]⟩ (λp=>p.1) (nS e.key)
noncomputable def gg(o:Obj):List DictEntry:=Option.rec [] (λp=>p.1.toList) (CT o.data)
noncomputable def yk(o:Obj)(n:String):Bool:=Bool.and (o.cls== .type n) (Bool.and o.dict.isNone o.slots.isEmpty)
theorem qW{o:Obj}{n:String}(h:yk o n=true):o.cls=.type n∧o.dict=none∧o.slots= #[]:=by
 obtain⟨h1,h2⟩:=bg h
 obtain⟨h2,h3⟩:=bg h2
 exact⟨eq_of_beq h1,Option.isNone_iff_eq_none.mp h2,Array.isEmpty_iff.mp h3⟩
noncomputable def at_(P:Params)(v:Value)(n:String)(k:Addr->Obj->Bool):Bool:=ob (wS v) λa=>Bool.and (Nat.blt a 785) (Bool.and (yk (d3 P a) n) (k a (d3 P a)))
noncomputable def IW(P:Params)(n:String)(len:Nat)(ih:List Value->Bool)(v:Value):Bool:=at_ P v n λ_ o=>ob (yX o.data) λp=>Bool.and (ih p.1.toList) (Nat.ble len 16777216)
noncomputable def wz{α β:Type}(p:α->β->Bool)(l:List α):List β->Bool:=List.rec (motive:=λ_=>List β->Bool) (λm=>m.isEmpty) (λa _ ih m=>List.rec false (λb t _=>Bool.and (p a b) (ih t)) m) l
noncomputable def LM(ih:FV->Value->Bool)(q:List Nat×FV)(e:DictEntry):Bool:=ob (nS e.key) λs=>Bool.and (j1 s.1.cps.toList q.1) (ih q.2 e.val)
noncomputable def LV(ih:FV->Value->Bool)(l:List (List Nat×FV))(a:Addr)(o:Obj):Bool:=Bool.and (List.contains [36,41] a) (Bool.and (decide ((l.map (·.1)).Nodup)) (ob (CT o.data) λp=>Bool.and (wz (LM ih) l p.1.toList) (Nat.ble l.length 16777216)))
noncomputable def I3(P:Params)(n:Nat):FV->Value->Bool:=
 Nat.rec (motive:=λ_=>FV->Value->Bool) (λ_ _=>false) (λ_ ih f v=>FV.casesOn (motive_1:=λ_=>Bool) f (v== .none) (λb=>v== .bool b) (λi=>ob (Ef v) λp=>decide (p.1=i))
  (λl=>ob (nS v) λp=>Bool.and (j1 p.1.cps.toList l) (Nat.ble l.length 16777216)) (λl=>IW P "tuple" l.length (wz ih l) v) (λl=>IW P "list" l.length (wz ih l) v)
  (λl=>at_ P v "dict" (LV ih l))) n
theorem kX{s:PySem.Str}{l:List Nat}(h:j1 s.cps.toList l=true):s=dy l:=by
 rw [cv] at h
 obtain rfl:=of_decide_eq_true h
 exact(congrArg PySem.Str.mk (Array.toArray_toList)).symm
noncomputable def DS(P:Params):Prop:=∀a,List.contains [36,41] a=true->(gg (d3 P a)).map (·.hash)=(gg (d3 P a)).map λe=>PyData.keyHash P (fT e)
theorem Cf(P:Params):DS P:=by
 have h1:(gg (d3 P 36)).map (·.hash)=(gg (d3 P 36)).map λe=>PyData.keyHash P (fT e):=by kernel_rfl!
 have h2:(gg (d3 P 41)).map (·.hash)=(gg (d3 P 41)).map λe=>PyData.keyHash P (fT e):=by kernel_rfl!
 intro a h
 have h:a=36∨a=41:=by simpa using h
 rcases h with rfl|rfl
 ·exact h1
 ·exact h2
end Mine.B
namespace Mine.B
open Mine.A
open Mine.Head
theorem CN{w:World}{a:Addr}{es:Array DictEntry}{ep:Nat}(ha:List.contains [36,41] a=true)(h1:yk (d3 w.params a) "dict"=true)(h2:(d3 w.params a).data=.dict es ep)
  (hp:∀e∈es.toList,∃t,e.key=.str (fT e) t) (hn:((es.toList.map λe=>(fT e,e.val)).map (·.1)).Nodup):gD (PySem.strKind (C w).prog w) (d3 w.params a) (es.toList.map λe=>(fT e,e.val)):=by
 have hh:=Cf w.params a ha
 have he:gg (d3 w.params a)=es.toList:=by unfold gg;rw [h2];rfl
 rw [he] at hh
 refine⟨es,ep,qW h1,h2,λe hm=> ?_, ?_,hn⟩
 ·have hm:=Array.mem_toList_iff.mpr hm
  obtain⟨t,hk⟩:=hp e hm
  refine⟨fT e,by rw [hk];exact beq_self_eq_true (fT e), ?_⟩
  have:e.hash=PyData.keyHash w.params (fT e):=by
   obtain⟨i,hi,rfl⟩:=List.getElem_of_mem hm
   have:=congrArg (·[i]?) hh
   simpa [List.getElem?_map,List.getElem?_eq_getElem hi] using this
  rw [this];rfl
 ·clear he hh h2 hn
  generalize es.toList=l at hp
  induction l with
  |nil=>exact .nil
  |cons e r ih=>
   obtain⟨t,hk⟩:=hp e (.head _)
   refine .cons ?_ rfl (ih λe he=>hp e (.tail _ he))
   show(PySem.strKind _ w).is (fT e) e.key=true
   rw [hk];exact beq_self_eq_true (fT e)
theorem HN{P:Params}{v:Value}{n:String}{k:Addr->Obj->Bool}(h:at_ P v n k=true):∃a,v=.ref a∧a<785∧yk (d3 P a) n=true∧k a (d3 P a)=true:=by
 obtain⟨a,e,h⟩:=fe h
 obtain⟨h1,h⟩:=bg h
 obtain⟨h2,h⟩:=bg h
 exact⟨a,nT e,dN h1,h2,h⟩
theorem zW{w:World}{n:String}{len:Nat}{ih:List Value->Bool}{v:Value}(h:IW w.params n len ih v=true):∃a vs o,v=.ref a∧(C w).base.get? a=some o∧cQ n o vs∧ih vs=true∧len≤16777216:=by
 obtain⟨a,rfl,h1,h2,h⟩:=HN h
 obtain⟨p,e,h⟩:=fe h
 obtain⟨h3,h4⟩:=bg h
 refine⟨a,p.1.toList,_,rfl,ck w.params h1,⟨p.2, ?_⟩,h3,bW h4⟩
 obtain⟨e1,e2,e3⟩:=qW h2
 have e4:=v7 e
 generalize d3 w.params a=o at e1 e2 e3 e4
 obtain⟨o1,o2,o3,o4⟩:=o
 subst e1 e2 e3 e4
 rfl
theorem qT{e:DictEntry}{p:PySem.Str×Tok}(h:nS e.key=some p):fT e=p.1:=by unfold fT;rw [h]
theorem ud{w:World}{ih:FV->Value->Bool}(hi:∀f v,ih f v=true->RF (C w).prog w (C w).base.get? v f){l:List FV}:∀ {vs:List Value},wz ih l vs=true->bv (C w).prog w (C w).base.get? vs l:=by
 induction l with
 |nil=>intro vs h;obtain rfl:=List.isEmpty_iff.mp h;exact .nil
 |cons f l hl=>
  intro vs h
  induction vs using List.casesOn with
  |nil=>exact bU h
  |cons v vs=>obtain⟨h1,h2⟩:=bg h;exact .cons (hi f v h1) (hl h2)
theorem Bm{w:World}{ih:FV->Value->Bool}(hi:∀f v,ih f v=true->RF (C w).prog w (C w).base.get? v f){l:List (List Nat×FV)}:∀ {es:List DictEntry},wz (LM ih) l es=true->
  (∀e∈es,∃t,e.key=.str (fT e) t)∧i6 (C w).prog w (C w).base.get? (es.map λe=>(fT e,e.val)) l∧(es.map λe=>(fT e,e.val)).map (·.1)=(l.map (·.1)).map dy:=by
 induction l with
 |nil=>intro es h;obtain rfl:=List.isEmpty_iff.mp h;exact⟨λ_ h=>(List.not_mem_nil h).elim,.nil,rfl⟩
 |cons f l hl=>
  intro es h
  induction es using List.casesOn with
  |nil=>exact bU h
  |cons e es=>
   obtain⟨h1,h2⟩:=bg h
   obtain⟨a1,a2,a3⟩:=hl h2
   obtain⟨p,e1,h1⟩:=fe h1
   obtain⟨h3,h4⟩:=bg h1
   have hk:fT e=dy f.1:=(qT e1).trans (kX h3)
   refine⟨λx hx=> ?_, ?_,congr (congrArg List.cons hk) a3⟩
   ·rcases List.mem_cons.mp hx with rfl|hx
    ·exact⟨p.2,(kN e1).trans (by rw [qT e1])⟩
    ·exact a1 x hx
   ·rw [List.map_cons,hk];exact .cons (hi _ _ h4) a2
theorem E6(w:World)(n:Nat):∀f v,I3 w.params n f v=true->RF (C w).prog w (C w).base.get? v f:=by
 induction n with
 |zero=>intro f v h;exact bU h
 |succ n ih=>
  intro f v h
  induction f using FV.casesOn with
  |non=>exact eq_of_beq h▸ .non
  |bol b=>exact eq_of_beq h▸ .bol b
  |int i=>obtain⟨p,e,h⟩:=fe h;exact(AP e).trans (by rw [of_decide_eq_true h])▸ .int i p.2
  |str l=>
   obtain⟨p,e,h⟩:=fe h
   obtain⟨h1,h2⟩:=bg h
   exact(kN e).trans (by rw [kX h1])▸ .str l p.2 (bW h2)
  |tup l=>obtain⟨a,vs,o,rfl,h1,h2,h3,h4⟩:=zW h;exact .tup h1 h2 (ud ih h3) h4
  |lst l=>obtain⟨a,vs,o,rfl,h1,h2,h3,h4⟩:=zW h;exact .lst h1 h2 (ud ih h3) h4
  |dct l=>
   obtain⟨a,rfl,h1,h2,h⟩:=HN (P:=w.params) (v:=v) (n:="dict") (k:=LV (I3 w.params n) l) h
   obtain⟨hc,h⟩:=bg h
   obtain⟨hn,h⟩:=bg h
   obtain⟨p,e,h⟩:=fe h
   obtain⟨h3,h4⟩:=bg h
   obtain⟨a1,a2,a3⟩:=Bm ih h3
   refine .dct (ck w.params h1) (λe=>by rw [e] at hc;exact absurd hc (by decide)) (CN hc h2 (CS e) a1 ?_) a2 (bW h4)
   rw [a3]
   exact List.Pairwise.map _ (λa b hne e=>hne (gT e)) (of_decide_eq_true hn)
end Mine.B
namespace Mine.B
open Mine.A
open Mine.Head
noncomputable def K(P:Params):Frag:=JT.map λa=>(a,d3 P a)
theorem B5:(JT.all λa=>Nat.blt a 785)=true:=by decide+kernel
theorem Lk(w:World):(K w.params).In (C w).base:=by
 have:∀l:List Nat,(l.all λa=>Nat.blt a 785)=true->Frag.In (l.map λa=>(a,d3 w.params a)) (H1 w.params):=λl=>by
  induction l with
  |nil=>intro _ a o e;cases e
  |cons b r ih=>
   intro hl a o e
   obtain⟨h1,h2⟩:=bg hl
   rw [List.map_cons,List.lookup_cons] at e
   cases q:a==b with
   |true=>rw [q] at e;obtain rfl:=Option.some.inj e;rw [eq_of_beq q];exact ck _ (dN h1)
   |false=>rw [q] at e;exact ih h2 a o e
 exact this JT B5
noncomputable def g0:G where
 call:=λ_ _ _ _ _=>False
 loop:=λ_ _ _ _=>False
 own:=λC n=>Bool.and (Option.rec false (λ_=>true) (lk C iA)) (Option.rec false (λl=>l.any (Nat.beq n)) (lk C oD))
 cls:=λC n=>Bool.rec none (Option.rec none (lk n) (lk C yZ)) (Option.rec false (λ_=>true) (lk C iA))
 catt:=λC n=>Bool.rec none (Option.rec none (lk n) (lk C xj)) (Option.rec false (λ_=>true) (lk C iA))
 satt:=λC n=>Bool.rec none (Option.rec none (lk n) (lk C xj)) (Nat.beq C 229)
 scls:=λC n=>Bool.rec none (Option.rec none (lk n) (lk C yZ)) (Nat.beq C 229)
 cid:=λC=>Option.rec 0 (λa=>a) (lk C iA)
 ini:=λC=>lk C oS
 canon:=λn=>Option.rec 0 (λa=>a) (lk n lU)
 con:=λa=>Bool.rec none (some 192) (Nat.beq a 229)
 fn:=λa=>iQ.any (Nat.beq a)
noncomputable def wa(K:Frag)(C:Nat):Bool:=decide (findIn K (.ref C) "__getattribute__"=some (some (.builtin "object.__getattribute__"))∧findIn K (.ref C) "__getattr__"=some none∧findIn K (.ref C) "__setattr__"=some (some (.builtin "object.__setattr__"))∧
 plainOver K C=true∧(clsIn K C).any (·.hasDict)=true)
theorem lT{K:Frag}{C:Nat}(h:wa K C=true):eF K C:=
 have h:=of_decide_eq_true h;⟨h.1,h.2.1,h.2.2.1,h.2.2.2.1,h.2.2.2.2⟩
noncomputable def FM(K:Frag)(C f:Nat)(x:PySem.Str):Bool:=decide (findIn K (.ref C) x=some (some (.ref f))∧typeIn K (.ref f)=some (.type "function")∧specialIn K (.ref f) "__get__"=some (some (.builtin "function.__get__"))∧takesIn K (.ref f)=some false∧copiedNames.contains x=false∧fnIn K f=true)
theorem qI{K:Frag}{C f:Nat}{x:PySem.Str}(h:FM K C f x=true):rC K C f x:=
 have h:=of_decide_eq_true h;⟨h.1,h.2.1,h.2.2.1,h.2.2.2.1,h.2.2.2.2.1,h.2.2.2.2.2⟩
noncomputable def yn(C:Nat):Bool:=Option.rec false (λ_=>true) (lk C iA)
theorem KN(P:Params):(iA.all λp=>Bool.and (wa (K P) p.1) (!Nat.beq p.1 229))=true:=by kernel_rfl!
theorem Hs(P:Params):wa (K P) 223=true:=by kernel_rfl!
theorem KM(P:Params):(oD.all λp=>p.2.all λn=>decide (findIn (K P) (.ref p.1) (nm n)=some none))=true:=by kernel_rfl!
theorem Hv(P:Params):(yZ.all λp=>p.2.all λq=>FM (K P) (Bool.rec p.1 223 (Nat.beq p.1 229)) q.2 (nm q.1))=true:=by kernel_rfl!
theorem KL(P:Params):(iQ.all λa=>fnIn (K P) a)=true:=by kernel_rfl!
theorem KK(P:Params):(oS.all λp=>decide (makesIn (K P) p.1=true∧findIn (K P) (.ref p.1) "__init__"=some (some (.ref p.2))∧typeIn (K P) (.ref p.2)=some (.type "function")∧keepIn (K P) (.ref p.1)=true∧g0.cid p.1<64))=true:=by kernel_rfl!
end Mine.B
namespace Mine.B
open Mine.A
open Mine.Head
noncomputable def Il(P:Params)(u:Value)(v:V):Bool:=V.casesOn (motive:=λ_=>Bool) v (λf=>I3 P 8 f u) (λ_=>false) (λa=>u== .ref a) (λ_ _=>false)
theorem t8{w:World}{u:Value}{v:V}(h:Il w.params u v=true):RV (C w).prog (C w).w ⟨(C w).base.get?,λ_=>none⟩ u v:=by
 induction v using V.casesOn with
 |c f=>exact E6 w 8 f u h
 |st a=>exact eq_of_beq h
 |_=>exact bU h
noncomputable def Ii(o:Option (Option Value)):Value:=Option.rec .none (λo=>Option.rec .none (λu=>u) o) o
noncomputable def Hy(P:Params)(C n:Nat)(v:V):Bool:=Bool.and (decide (copiedNames.contains (nm n)=false∧findIn (K P) (.ref C) (nm n)=some (some (Ii (findIn (K P) (.ref C) (nm n))))∧specialIn (K P) (Ii (findIn (K P) (.ref C) (nm n))) "__get__"=some none∧handedIn (Ii (findIn (K P) (.ref C) (nm n)))=true)) (Il P (Ii (findIn (K P) (.ref C) (nm n))) v)
noncomputable def Lu(o:Option Builtin.ObjectAttr.Found):Option Value:=az o λo=>match o with| .value u=>some u|_=>none
theorem Ej{o:Option Builtin.ObjectAttr.Found}{u:Value}(h:Lu o=some u):o=some (.value u):=by
 obtain⟨o,rfl,h⟩:=aw h
 cases o<;>first|exact ax h|exact congrArg (λu=>some (Builtin.ObjectAttr.Found.value u)) (Option.some.inj h)
noncomputable def EV(P:Params)(n:Nat)(v:V):Bool:=ob (Lu (findObj (K P) 223 (some (d3 P 228)) (nm n))) λu=>Bool.and (handedIn u) (Il P u v)
theorem lp{α:Type}{n:Nat}{v:α}{l:List (Nat×α)}(h:lk n l=some v):(n,v)∈l:=oJ h
theorem mf{l:List Nat}{n:Nat}(h:l.any (Nat.beq n)=true):n∈l:=by
 obtain⟨x,hx,e⟩:=List.any_eq_true.mp h
 rw [Nat.eq_of_beq_eq_true e];exact hx
theorem cH{α:Type}{p:Nat×α->Bool}{l:List (Nat×α)}(h:l.all p=true){n:Nat}{v:α}(e:lk n l=some v):p (n,v)=true:=List.all_eq_true.mp h _ (oJ e)
theorem Ip{α:Type}{l:List (Nat×List (Nat×α))}{b:Bool}{n m:Nat}{v:α}(e:(Bool.rec none (Option.rec none (lk m) (lk n l)) b:Option α)=some v):b=true∧∃t,lk n l=some t∧lk m t=some v:=by
 cases b with
 |false=>exact ax e
 |true=>
  obtain⟨t,h1,h2⟩:=aw (f:=lk m) e
  exact⟨rfl,t,h1,h2⟩
theorem Hu(P:Params):(xj.all λp=>Bool.rec (Bool.and (!yn p.1) (p.2.all λq=>EV P q.1 q.2)) (Bool.and (!Nat.beq p.1 229) (p.2.all λq=>Hy P p.1 q.1 q.2)) (yn p.1))=true:=by kernel_rfl!
theorem wx(P:Params):(K P).lookup 229=some (j2 223 (some 228)):=by kernel_rfl!
theorem wy(P:Params):(K P).lookup 228=some (d3 P 228):=by kernel_rfl!
theorem FK(n:Nat)(h:n<16):nm n=jA.getD n "":=by
 have:((List.range 16).all λn=>nm n==jA.getD n "")=true:=by decide+kernel
 exact beq_iff_eq.mp (List.all_eq_true.mp this n (List.mem_range.mpr h))
theorem pA{w:World}{C:Nat}(h:yn C=true):eF (K w.params) C∧Nat.beq C 229=false:=by
 obtain⟨v,q,_⟩:=fe (k:=λ_=>true) h
 obtain⟨h1,h2⟩:=bg (cH (KN w.params) q)
 exact⟨lT h1,Bool.not_eq_true' _▸h2⟩
theorem Ht(P:Params):decide (findIn (K P) (.ref 223) "__contains__"=some (some (.ref 192))∧isFn (K P) (.ref 192)=true)=true:=by kernel_rfl!
theorem KG(P:Params):(yZ.all λp=>p.2.all λq=>shadowIn (some (d3 P 228)) (nm q.1)==some false)=true:=by kernel_rfl!
theorem Am(w:World):pR (C w) (K w.params) g0:=by
 refine⟨λC n h=> ?_,λC n f h=> ?_,λC n v h=> ?_,λa n v h=> ?_,λa n f h=> ?_,λa f h=> ?_,λC f h=> ?_,λf h=>List.all_eq_true.mp (KL w.params) f (mf h),FK⟩
 ·obtain⟨h1,h2⟩:=bg h
  obtain⟨l,q,h2⟩:=fe (o:=lk C oD) (k:=λl=>List.any l (Nat.beq n)) h2
  exact⟨(pA h1).1,of_decide_eq_true (List.all_eq_true.mp (cH (KM w.params) q) n (mf h2))⟩
 ·obtain⟨b,l,q,h⟩:=Ip h
  obtain⟨c1,c2⟩:=pA (w:=w) b
  have h2:=cH (cH (Hv w.params) q) h
  rw [c2] at h2
  exact⟨c1,qI h2⟩
 ·obtain⟨b,l,q,h⟩:=Ip h
  have h1:=cH (Hu w.params) q
  have b:yn C=true:=b
  rw [b] at h1
  obtain⟨h2,h3⟩:=bg (cH (bg h1).2 h)
  have h2:=of_decide_eq_true h2
  exact⟨(pA b).1,h2.1,_,h2.2.1,h2.2.2.1,h2.2.2.2,t8 h3⟩
 ·obtain⟨b,l,q,h1⟩:=Ip h
  clear h
  obtain rfl:=Nat.eq_of_beq_eq_true b
  obtain⟨u,e,h2⟩:=fe (cH (bg (cH (Hu w.params) q)).2 h1)
  obtain⟨h3,h4⟩:=bg h2
  exact⟨223,228,d3 w.params 228,u,wx _,wy _,lT (Hs _),Ej e,h3,t8 h4⟩
 ·obtain⟨b,l,q,h1⟩:=Ip h
  clear h
  obtain rfl:=Nat.eq_of_beq_eq_true b
  exact⟨223,228,d3 w.params 228,wx _,wy _,lT (Hs _),qI (cH (cH (Hv w.params) q) h1),eq_of_beq (cH (cH (KG w.params) q) h1)⟩
 ·have h:(Bool.rec none (some 192) (Nat.beq a 229):Option Nat)=some f:=h
  cases b:Nat.beq a 229 with
  |false=>rw [b] at h;exact ax h
  |true=>
   rw [b] at h
   obtain rfl:=Nat.eq_of_beq_eq_true b
   obtain rfl:=Option.some.inj h
   have h6:=of_decide_eq_true (Ht w.params)
   exact⟨223,228,d3 w.params 228,wx _,wy _,h6.1,h6.2⟩
 ·have h1:=of_decide_eq_true (cH (KK w.params) (h:lk C oS=some f))
  exact⟨h1.1,h1.2.1,h1.2.2.1,h1.2.2.2.1,h1.2.2.2.2⟩
end Mine.B
namespace Mine.B
open Mine.A
open Mine.Head
noncomputable def Ki(P:Params)(x:PySem.Str)(v:V):Bool:=Bool.and (!(x==("__debug__":PySem.Str))) (ob (nsFind (gg (d3 P 3)).toArray x) λu=>Il P u v)
theorem KJ(P:Params):(vn.all λp=>Ki P p.1 p.2)=true:=by kernel_rfl!
noncomputable def wn:List PySem.Str:=["len","ord","chr","range","rng2","max","min","int","dict","enumerate","sorted"].map PySem.Str.ofString
theorem C6{x:PySem.Str}{i:Nat}(h:blt x=some i):wn[i]? =some x:=(Ak h).2
theorem KI(P:Params):(Ao.all λp=>ob wn[p.1]? λx=>Bool.and (!(x==("__debug__":PySem.Str))) (Bool.and (nsFind (gg (d3 P 3)).toArray x).isNone (Bool.and (bootBuiltins x==some p.2) (!(x==("__name__":PySem.Str))))))=true:=by kernel_rfl!
theorem LG{w:World}{mg:PySem.Str->Option Value}(N:(H1 w.params).Ns mainGlobals mg)(x:PySem.Str):mg x=nsFind (gg (d3 w.params 3)).toArray x:=by
 obtain⟨o,es,ep,ho,hd,_,hf⟩:=N
 obtain rfl:=Option.some.inj (ho.symm.trans (ck w.params (a:=3) (by decide)))
 rw [show(gg (d3 w.params 3)).toArray=es by unfold gg;rw [hd];rfl];exact(hf x).symm
theorem Ho{w:World}{mg mb:PySem.Str->Option Value}(T:TopRead pw loose mg mb (H1 w.params)):Ctx (C w) (K w.params) cp loose mg mb:=by
 have hmg:=LG T.g
 refine⟨Lk w,T,λx i h=>y0 h,λx i u h1 h2 h3=> ?_,λx v h=> ?_⟩
 ·obtain⟨y,e,hb⟩:=fe (cH (KI w.params) h3)
  obtain rfl:=Option.some.inj (e.symm.trans (C6 h2))
  obtain⟨c1,hb⟩:=bg hb
  obtain⟨c2,hb⟩:=bg hb
  obtain⟨c3,c4⟩:=bg hb
  refine⟨Bool.not_eq_true' _▸c1,(hmg y).trans (Option.isNone_iff_eq_none.mp c2), ?_⟩
  rw [T.builtins y (λz=>by rw [z] at c4;exact bU c4)]
  exact eq_of_beq c3
 ·have m:(x,v)∈vn:=by
   have h:vn.lookup x=some v:=h
   clear T hmg
   revert h
   generalize vn=l
   intro h
   induction l with
   |nil=>cases h
   |cons p r ih=>
    rw [List.lookup_cons] at h
    cases z:x==p.1 with
    |true=>rw [z] at h;obtain rfl:=Option.some.inj h;rw [eq_of_beq z];exact .head _
    |false=>rw [z] at h;exact .tail _ (ih h)
  obtain⟨h1,h2⟩:=bg (List.all_eq_true.mp (KJ w.params) _ m)
  obtain⟨u,hu,h3⟩:=fe h2
  exact⟨Bool.not_eq_true' _▸h1,u,(hmg x).trans hu,t8 h3⟩
end Mine.B
namespace Mine.B
open Mine.A
open Mine.Head
noncomputable def GQ(o:Obj):FuncData:=Option.rec default (λf=>f) (CQ o.data)
noncomputable def K0(b:FuncBody):Option (List Stmt):=match b with| .stmts b=>some b|_=>none
theorem HK{b:FuncBody}{l:List Stmt}(h:K0 b=some l):b=.stmts l:=by
 cases b<;>first|exact ax h|exact congrArg FuncBody.stmts (Option.some.inj h)
noncomputable def a7(fd:FuncData):List Stmt:=Option.rec [] (λb=>b) (K0 fd.body)
noncomputable def fd(P:Params)(a:Nat):FuncData:=GQ (d3 P a)
noncomputable def Hq(P:Params)(cd:Value)(q:PySem.Str):Bool:=ob (wS cd) λc=>Bool.and (Nat.blt c 785) (ob (Hg (d3 P c).data) λvs=>ob (az vs[1]? nS) λp=>j1 p.1.cps.toList q.cps.toList)
noncomputable def Gy(P:Params)(a:Nat):Bool:=Bool.and (Nat.blt a 785) (ob (CQ (d3 P a).data) λfd=>Bool.and (decide (fd.scope.kind=.function∧fd.globals=3∧fd.builtins=0∧fd.scope.isCoroutine=false)) (Bool.and (fd.scope.names.all (λx=>x.2 != .cell)) (Bool.and (ob (K0 fd.body) λ_=>true) (Hq P fd.code fd.qualname))))
theorem KH(P:Params):iQ.all (Gy P)=true:=by kernel_rfl!
structure Lm (w:World) (a:Nat):Prop where
 lt:a<785
 data:(d3 w.params a).data=.func (fd w.params a)
 kind:(fd w.params a).scope.kind=.function
 glob:(fd w.params a).globals=mainGlobals
 blt:(fd w.params a).builtins=builtinsNs
 co:(fd w.params a).scope.isCoroutine=false
 cell:∀x∈(fd w.params a).scope.names,x.2≠ .cell
 body:(fd w.params a).body=.stmts (a7 (fd w.params a))
 code:(C w).base.CodeRec (fd w.params a).code (fd w.params a).qualname
theorem iR(w:World){a:Nat}(h:iQ.any (Nat.beq a)=true):Lm w a:=by
 obtain⟨h0,h⟩:=bg (List.all_eq_true.mp (KH w.params) a (mf h))
 obtain⟨f,hf,h⟩:=fe h
 have e:fd w.params a=f:=by unfold fd GQ;rw [hf]
 obtain⟨h1,h⟩:=bg h
 obtain⟨h2,h⟩:=bg h
 obtain⟨h3,h4⟩:=bg h
 have h1:=of_decide_eq_true h1
 obtain⟨b,hb,_⟩:=fe h3
 refine⟨dN h0, ?_, ?_, ?_, ?_, ?_, ?_, ?_, ?_⟩<;>rw [e]
 ·exact CO hf
 ·exact h1.1
 ·exact h1.2.1
 ·exact h1.2.2.1
 ·exact h1.2.2.2
 ·exact λx hx=>bne_iff_ne.mp (List.all_eq_true.mp h2 x hx)
 ·unfold a7;rw [hb];exact HK hb
 ·obtain⟨cc,hc,h5⟩:=fe h4
  obtain⟨h6,h7⟩:=bg h5
  obtain⟨vs,hv,h8⟩:=fe h7
  obtain⟨p,hp,h9⟩:=fe h8
  obtain⟨v,hv1,hp⟩:=aw hp
  exact⟨cc,d3 w.params cc,vs,p.2,nT hc,ck _ (dN h6),CR hv,by rw [hv1,kN hp,kX h9];exact congrArg (λs=>some (Value.str s p.2)) (congrArg PySem.Str.mk Array.toArray_toList)⟩
noncomputable def tr(w:World)(fa:Nat)(bind:List V->List Nat->Option (List (Nat×V))):Prop:=
 ∀gh s vs xs kws L0,Holds gh.F s.heap->(∀a o,(C w).base.get? a=some o->s.heap.get? a=some o)->eE (C w).prog (C w).w gh vs xs->bind xs kws=some L0->∃bs,BindsTo s (fd w.params fa) (cn (C w) vs kws) bs∧(∀x∈bs,(fd w.params fa).scope.names.lookup x.1=some .local)∧
   ∀n v,lk n L0=some v->∃u,bs.reverse.lookup ((C w).nm n)=some u∧RV (C w).prog (C w).w gh u v
theorem jd{prog:Program}{w:World}{g:Gh}{vs:List Value}{xs:List V}(h:eE prog w g vs xs):vs.length=xs.length:=by
 induction h with
 |nil=>rfl
 |cons _ _ ih=>exact congrArg (· +1) ih
theorem uZ{pn:List Nat}(hd:pn.Nodup){w:World}{gh:Gh}{vs:List Value}{xs:List V}(hv:eE (C w).prog (C w).w gh vs xs)(n:Nat)(v:V)(h:lk n (pn.zip xs)=some v):
  ∃u,((pn.map nm).zip vs).reverse.lookup (nm n)=some u∧RV (C w).prog (C w).w gh u v:=by
 have key:∀(l:List (PySem.Str×Value)) (k:PySem.Str) (u:Value),(l.map (·.1)).Nodup->(k,u)∈l->l.lookup k=some u:=by
  intro l k u hn hm
  induction l with
  |nil=>exact(List.not_mem_nil hm).elim
  |cons p r ih=>
   rw [List.lookup_cons]
   rw [List.map_cons,List.nodup_cons] at hn
   rcases List.mem_cons.mp hm with rfl|hm
   ·rw [beq_self_eq_true]
   ·rw [show(k==p.1)=false from beq_eq_false_iff_ne.mpr λe=>hn.1 (e▸List.mem_map_of_mem (f:=(·.1)) hm)];exact ih hn.2 hm
 have mem:∀(pn:List Nat) (vs:List Value) (xs:List V),eE (C w).prog (C w).w gh vs xs->lk n (pn.zip xs)=some v->∃u,(nm n,u)∈(pn.map nm).zip vs∧RV (C w).prog (C w).w gh u v:=by
  intro pn
  induction pn with
  |nil=>intro vs xs _ h;exact ax h
  |cons m pn ih=>
   intro vs xs hv h
   induction xs using List.casesOn with
   |nil=>exact ax h
   |cons x xs=>
    obtain⟨u,r,rfl,a,hr⟩:=hv.inv
    rw [List.zip_cons_cons,aj] at h
    by_cases q:n=m
    ·rw [if_pos q] at h;obtain rfl:=Option.some.inj h;exact⟨u,q▸ .head _,a⟩
    ·rw [if_neg q] at h;obtain⟨u,h1,h2⟩:=ih _ _ hr h;exact⟨u,.tail _ h1,h2⟩
 obtain⟨u,hm,hr⟩:=mem pn vs xs hv h
 refine⟨u,key _ _ _ ?_ (List.mem_reverse.mpr hm),hr⟩
 rw [List.map_reverse]
 refine List.pairwise_reverse.mpr (List.Pairwise.imp (R:=(· ≠ ·)) Ne.symm ?_)
 have:∀(l:List PySem.Str) (vs:List Value),(l.zip vs).map (·.1)=l.take vs.length:=by
  intro l
  induction l with
  |nil=>intro vs;rw [List.zip_nil_left,List.take_nil];rfl
  |cons a l ih=>intro vs;induction vs using List.casesOn with
   |nil=>rfl
   |cons b vs=>exact congrArg (a:: ·) (ih vs)
 rw [this]
 refine List.Sublist.nodup (List.take_sublist _ _) ?_
 exact List.Pairwise.map _ (λa b hne e=>hne (uy _ _ e)) hd
noncomputable def ar(pn:List Nat)(xs:List V)(kws:List Nat):Option (List (Nat×V)):=Bool.rec none (some (pn.zip xs)) (Bool.and (!cg kws) (Nat.beq xs.length pn.length))
noncomputable def eP(fd:FuncData)(pn:List Nat):Bool:=Bool.and (ux pn) (pn.all λn=>decide (fd.scope.names.lookup (nm n)=some .local))
theorem rZ{l:List Nat}(h:ux l=true):l.Nodup:=m0 (λn=>n) (by rw [List.map_id'];exact h)
theorem lY{w:World}{fa:Nat}{pn:List Nat}(hl:eP (fd w.params fa) pn=true){gh:Gh}{s:Shared}{args:Args}{vs:List Value}{xs:List V}(hv:eE (C w).prog (C w).w gh vs xs)(hb:BindsTo s (fd w.params fa) args ((pn.map nm).zip vs)):
  ∃bs,BindsTo s (fd w.params fa) args bs∧(∀x∈bs,(fd w.params fa).scope.names.lookup x.1=some .local)∧∀n v,lk n (pn.zip xs)=some v->∃u,bs.reverse.lookup ((C w).nm n)=some u∧RV (C w).prog (C w).w gh u v:=by
 obtain⟨h1,h2⟩:=bg hl
 refine⟨_,hb,λx hx=> ?_,λn v e=>uZ (rZ h1) hv n v e⟩
 obtain⟨n,hn,e⟩:=List.mem_map.mp (List.of_mem_zip (a:=x.1) (b:=x.2) hx).1
 exact e▸of_decide_eq_true (List.all_eq_true.mp h2 n hn)
theorem ry{pn:List Nat}{xs:List V}{kws:List Nat}{L0:List (Nat×V)}(h:ar pn xs kws=some L0):kws=[]∧xs.length=pn.length∧L0=pn.zip xs:=by
 unfold ar at h
 cases q:Bool.and (!cg kws) (Nat.beq xs.length pn.length)with
 |false=>rw [q] at h;exact ax h
 |true=>
  rw [q] at h
  obtain⟨h1,h2⟩:=bg q
  exact⟨oF h1,Nat.eq_of_beq_eq_true h2,(Option.some.inj h).symm⟩
theorem kI{w:World}{fa:Nat}(pn:List Nat)(hl:eP (fd w.params fa) pn=true)(H:∀vs:List Value,vs.length=pn.length->bindArgs (fd w.params fa) ⟨vs,[]⟩=pure ((pn.map nm).zip vs)):tr w fa (ar pn):=by
 intro gh s vs xs kws L0 _ _ hv hb
 obtain⟨rfl,hlen,rfl⟩:=ry hb
 exact lY hl hv (by rw [bq];exact .of_eq (H vs ((jd hv).trans hlen)))
section
variable {w:World} {mg mb:PySem.Str->Option Value} {g:G} {d:Nat}
theorem wj(T:TopRead pw loose mg mb (H1 w.params))(Sc:gB (C w) g (K w.params) cp loose mg mb d){fa:Nat}(hfa:iQ.any (Nat.beq fa)=true){x:S}(hx:cB cp (fd w.params fa).scope 60 (a7 (fd w.params fa))=x)
  (hgen:(fd w.params fa).scope.isGenerator=false) (hsp:∀f:Fm,f.cs=(fd w.params fa).scope->∀t∈kT cp 60 (a7 (fd w.params fa)),∀m,SS (C w) g f (d+1) (cS cp f.cs m t) t)
  {bind:List V->List Nat->Option (List (Nat×V))} (hb:tr w fa bind) {spec:List V->List Nat->List (Nat×AO)->(V->List (Nat×AO)->Prop)->Prop}
  (hspec:∀xs kws H k,spec xs kws H k->ai (bind xs kws) λL0=>ex g x ⟨L0,H,64,false⟩ (fin k)):bH false (C w) fa (d+2) spec:=by
 have F:=iR w hfa
 refine pT (fd:=fd w.params fa) T F.kind F.glob F.blt F.co hgen (ck w.params F.lt) F.data F.body F.code F.cell hb (λL gh σ s A k Q r rm hev hp=> ?_) hspec
 have:=dR Sc 60 (Ck (fd w.params fa) L fa F.kind F.glob F.blt) (a7 (fd w.params fa)) (hsp _ rfl)
 refine this gh σ s A k Q r rm ?_ λgh' Z' s' a b x' r' hl hk=>hp gh' Z' s' a b x' r' hl hk
 show ex g (cB cp (fd w.params fa).scope 60 (a7 (fd w.params fa))) σ k
 rw [hx];exact hev
end
end Mine.B
namespace Mine.A
open Mine.B
structure Sm where
 raw:List Nat
 place:Int
 chunk:List Nat
 size:Int
 off:Int
 errs:List FV
 pl:Int
 pc:Int
 buf:FV
structure Tm where
 state:Nat
 ct:FV
 q:Option (List FV)
 tb:Option (List Nat)
noncomputable def sd(σ:Sm):List (Nat×V):=[(264,.mth 141 2),(216,.ob 9),(147,.ob 3),(129,.c (.str σ.chunk)),(131,.c (.int σ.size)),(130,.c (.int σ.off)),(168,.ob 6),(244,.c (.int σ.pl)),(243,.c (.int σ.pc)),(41,.c σ.buf)]
noncomputable def Lv(q:Option (List FV))(tb:Option (List Nat)):List (Nat×V):=match q with
 |none=>[]
 |some _=>(313,.ob 5)::match tb with
  |none=>[]
  |some b=>[(310,.c (.str b))]
noncomputable def td(t:Tm):List (Nat×V):=(305,.ob 2)::(232,.c .non)::(170,.c (.bol false))::(194,.ob 8)::(302,.mth t.state 1)::(169,.c (.bol false))::(144,.c t.ct)::Lv t.q t.tb
noncomputable def hq(q:Option (List FV)):List (Nat×AO):=match q with
 |none=>[]
 |some l=>[(5,.lst l)]
noncomputable def Hp(σ:Sm)(t:Tm):List (Nat×AO):=(1,.inst 755 (td t))::(2,.inst 159 (sd σ))::(9,.lst [.int 0])::(3,.inst 66 [(311,.c (.str σ.raw)),(237,.c (.int σ.place))])::(6,.lst σ.errs)::(8,.lst [])::hq t.q
theorem dh(σ:Sm)(t:Tm):lo (Hp σ t)=Hp σ t:=by
 obtain⟨st,ct,q,tb⟩:=t
 cases q<;>rfl
theorem Ag(σ:Sm)(t:Tm):((Hp σ t).all λp=>io p.2)=true:=by
 obtain⟨st,ct,q,tb⟩:=t
 cases q<;>first|rfl|(cases tb<;>rfl)
theorem iO(σ:Sm)(t:Tm){H:List (Nat×AO)}(h:lo H=Hp σ t):((lo H).all λp=>io p.2)=true:=by rw [h];exact Ag σ t
theorem nv{k:V->List (Nat×AO)->Prop}{f:FV}{L:List (Nat×V)}{H:List (Nat×AO)}{m:Nat}{vl:Bool}(σ:Sm)(t:Tm)(h:lo H=Hp σ t)(hk:k (.c f) (Hp σ t)):fin k (.ret (.c f)) ⟨L,H,m,vl⟩:=by
 refine aa rfl (bV (iO σ t h) ?_)
 show k (.c f) (lo H)
 rw [h];exact hk
theorem GC{k:V->List (Nat×AO)->Prop}{L:List (Nat×V)}{H:List (Nat×AO)}{m:Nat}{vl:Bool}(σ:Sm)(t:Tm)(h:lo H=Hp σ t)(hk:k (.c .non) (Hp σ t)):fin k .nxt ⟨L,H,m,vl⟩:=by
 refine aa rfl (bV (iO σ t h) ?_)
 show k (.c .non) (lo H)
 rw [h];exact hk
theorem cW{k:V->List (Nat×AO)->Prop}{f:FV}{L:List (Nat×V)}{m:Nat}{vl:Bool}(σ:Sm)(t:Tm)(hk:k (.c f) (Hp σ t)):fin k (.ret (.c f)) ⟨L,Hp σ t,m,vl⟩:=nv σ t (dh σ t) hk
theorem oZ{k:V->List (Nat×AO)->Prop}{L:List (Nat×V)}{m:Nat}{vl:Bool}(σ:Sm)(t:Tm)(hk:k (.c .non) (Hp σ t)):fin k .nxt ⟨L,Hp σ t,m,vl⟩:=GC σ t (dh σ t) hk
theorem GD{k:V->List (Nat×AO)->Prop}{f:FV}{L:List (Nat×V)}{H:List (Nat×AO)}{m:Nat}{vl:Bool}(h:((lo H).all λp=>io p.2)=true)(hk:k (.c f) (lo H)):fin k (.ret (.c f)) ⟨L,H,m,vl⟩:=
 aa rfl (bV h hk)
noncomputable def eG:S:=(S.seq (S.ret (X.or (X.rng (X.k (.int (1))) (X.loc 134) (X.k (.int (8)))) (X.or (X.cmp 0 (X.loc 134) (X.k (.int (11)))) (X.or (X.rng (X.k (.int (14))) (X.loc 134) (X.k (.int (31)))) (X.or (X.rng (X.k (.int (127))) (X.loc 134) (X.k (.int (159)))) (X.or (X.rng (X.k (.int (64976))) (X.loc 134) (X.k (.int (65007)))) (X.or (X.cmp 8 (X.bin 4 (X.loc 134) (X.k (.int (65536)))) (X.tup (X.cons (X.k (.int (65534))) (X.cons (X.k (.int (65535))) X.nil)))) (X.rng (X.k (.int (55296))) (X.loc 134) (X.k (.int (57343))))))))))) S.skip)
noncomputable def pQ(c:Int):Bool:=(decide (1≤c)&&decide (c≤8))||(decide (c=11)||((decide (14≤c)&&decide (c≤31))||((decide (127≤c)&&decide (c≤159))||((decide (64976≤c)&&decide (c≤65007))||((decide (65534=Int.fmod c 65536)||decide (65535=Int.fmod c 65536))||(decide (55296≤c)&&decide (c≤57343)))))))
noncomputable def gS(xs:List V)(kws:List Nat)(H:List (Nat×AO))(k:V->List (Nat×AO)->Prop):Prop:=∃c:Int,xs=[.c (.int c)]∧kws=[]∧((lo H).all λp=>io p.2)=true∧k (.c (.bol (pQ c))) (lo H)
theorem ui{c:Int}:Builtin.divisionGoesByPylong c 65536=false:=by
 unfold Builtin.divisionGoesByPylong
 rw [Bool.and_eq_false_iff];left;decide
noncomputable def Ev(g:G)(x:X)(s:St)(v:V):Prop:=∀F:V->St->Prop,F v s->ev g x s (one F)
section
variable {g:G} {s:St}
theorem Ev.or_b{a b:X}{p q:Bool}(ha:Ev g a s (.c (.bol p)))(hb:Ev g b s (.c (.bol q))):Ev g (.or a b) s (.c (.bol (p||q))):=λk hk=>ha _ (by cases p;exact hb _ hk;exact hk)
theorem Ev.rng{a b c:X}{i j l:Int}(ha:Ev g a s (.c (.int i)))(hb:Ev g b s (.c (.int j)))(hc:Ev g c s (.c (.int l))):Ev g (.rng a b c) s (.c (.bol (decide (i≤j)&&decide (j≤l)))):=λk hk=>ha _ (hb _ (du (λh=>hc _ (by rw [h,Bool.true_and] at hk;exact hk)) λh=>by rw [h,Bool.false_and] at hk;exact hk))
theorem Ev.eq_i{a b:X}{i j:Int}(ha:Ev g a s (.c (.int i)))(hb:Ev g b s (.c (.int j))):Ev g (.cmp 0 a b) s (.c (.bol (decide (i=j)))):=λ_ hk=>ha _ (hb _ hk)
theorem Ev.kk{f:FV}:Ev g (.k f) s (.c f):=λ_ hk=>hk
theorem Ev.loc{n:Nat}{v:V}(h:lk n s.L=some v):Ev g (.loc n) s v:=λ_ hk=>aa h hk
end
theorem lO(g:G)(xs kws H k)(h:gS xs kws H k):ai (ar [134] xs kws) λL0=>ex g eG ⟨L0,H,64,false⟩ (fin k):=by
 obtain⟨c,rfl,rfl,hl,hk⟩:=h
 show ex g eG ⟨[(134,.c (.int c))],H,64,false⟩ (fin k)
 have l:Ev g (.loc 134) ⟨[(134,.c (.int c))],H,64,false⟩ (.c (.int c)):=.loc rfl
 have hm:Ev g (X.cmp 8 (X.bin 4 (X.loc 134) (X.k (.int (65536)))) (X.tup (X.cons (X.k (.int (65534))) (X.cons (X.k (.int (65535))) X.nil)))) ⟨[(134,.c (.int c))],H,64,false⟩ (.c (.bol (decide (65534=Int.fmod c 65536)||decide (65535=Int.fmod c 65536)))):=λF hF=>by
  conv=>whnf
  refine⟨⟨by decide,ui⟩, ?_⟩
  conv=>whnf
  revert hF
  show F (.c (.bol _)) _->_
  cases decide (65534=Int.fmod c 65536)<;>cases decide (65535=Int.fmod c 65536)<;>exact id
 refine iI (Ev.or_b (Ev.rng .kk l .kk) (.or_b (.eq_i l .kk) (.or_b (.rng .kk l .kk) (.or_b (.rng .kk l .kk) (.or_b (.rng .kk l .kk) (.or_b hm (.rng .kk l .kk)))))) _ (GD hl hk))
noncomputable def iG:S:=(S.seq (S.asgN 233 (X.slc (X.att (X.loc 292) 311) (X.att (X.loc 292) 237) (X.bin 0 (X.att (X.loc 292) 237) (X.loc 296)))) (S.seq (S.augA (X.loc 292) 237 0 (X.fn 0 (X.cons (X.loc 233) X.nil))) (S.seq (S.ret (X.loc 233)) S.skip)))
noncomputable def e8(n:Int)(σ:Sm):List Nat×Sm:=let p:=slice σ.raw (some σ.place) (some (σ.place+n));(p, {σ with place:=σ.place+p.length})
noncomputable def tZ(xs:List V)(kws:List Nat)(H:List (Nat×AO))(k:V->List (Nat×AO)->Prop):Prop:=∃σ t n,xs=[.ob 3,.c (.int n)]∧kws=[]∧H=Hp σ t∧k (.c (.str (e8 n σ).1)) (Hp (e8 n σ).2 t)
theorem CD(xs kws H k)(h:tZ xs kws H k):ai (ar [292,296] xs kws) λL0=>ex g0 iG ⟨L0,H,64,false⟩ (fin k):=by
 obtain⟨σ,t,n,rfl,rfl,rfl,hk⟩:=h
 exact cW (e8 n σ).2 t hk
end Mine.A
namespace Mine.A
open Mine.B
theorem eA{g:G}{s:St}{F:V->St->Prop}{f:Nat}{vs:List V}{kw:List Nat}(σ:Sm)(t:Tm)(hf:g.fn f=true)(hv:vs.all jD=true)(hH:lo s.H=Hp σ t)(h:g.call f vs kw (Hp σ t) λv H=>F v (aR s (H++hi s.H))):cC g f vs kw s F:=
 jH hf hv (iO σ t hH) (by rw [hH];exact h)
noncomputable def bC:S:=(S.seq (S.asgN 129 (X.att (X.loc 292) 129)) (S.seq (S.asgN 214 (X.meth (X.loc 129) 4 (X.cons (X.k (.str [10])) (X.cons (X.k (.int (0))) (X.cons (X.loc 221) X.nil))) [])) (S.seq (S.asgN 241 (X.bin 0 (X.att (X.loc 292) 244) (X.loc 214))) (S.seq (S.asgN 195 (X.meth (X.loc 129) 5 (X.cons (X.k (.str [10])) (X.cons (X.k (.int (0))) (X.cons (X.loc 221) X.nil))) [])) (S.seq (S.iff (X.cmp 0 (X.loc 195) (X.k (.int (-1)))) (S.seq (S.asgN 240 (X.bin 0 (X.att (X.loc 292) 243) (X.loc 221))) S.skip) (S.seq (S.asgN 240 (X.bin 1 (X.loc 221) (X.bin 0 (X.loc 195) (X.k (.int (1)))))) S.skip)) (S.seq (S.ret (X.tup (X.cons (X.loc 241) (X.cons (X.loc 240) X.nil)))) S.skip))))))
noncomputable def fQ(σ:Sm)(o:Int):Int×Int:=(σ.pl+((σ.chunk.take o.toNat).count 10:Nat),if fB 10 (σ.chunk.take o.toNat)= -1 then σ.pc+o else o-(fB 10 (σ.chunk.take o.toNat)+1))
noncomputable def iK(xs:List V)(kws:List Nat)(H:List (Nat×AO))(k:V->List (Nat×AO)->Prop):Prop:=∃σ t o,xs=[.ob 2,.c (.int o)]∧kws=[]∧H=Hp σ t∧(0≤o∧o<2 ^ 63)∧k (.c (.tup [.int (fQ σ o).1,.int (fQ σ o).2])) (Hp σ t)
theorem nB(xs kws H k)(h:iK xs kws H k):ai (ar [292,221] xs kws) λL0=>ex g0 bC ⟨L0,H,64,false⟩ (fin k):=by
 obtain⟨σ,t,o,rfl,rfl,rfl,ho,hk⟩:=h
 conv=>whnf
 refine⟨⟨rfl,ho⟩, ?_⟩
 conv=>whnf
 refine⟨⟨rfl,ho⟩, ?_⟩
 unfold fQ at hk
 conv=>whnf
 refine du (λh=> ?_) λh=> ?_
 ·rw [if_pos (of_decide_eq_true h)] at hk
  exact cW σ t hk
 ·rw [if_neg (of_decide_eq_false h)] at hk
  exact cW σ t hk
noncomputable def bQ:S:=(S.seq (S.iff (X.cmp 7 (X.loc 119) (X.glo (.c .non))) (S.seq (S.iff (X.cmp 0 (X.att (X.loc 292) 130) (X.k (.int (0)))) (S.seq (S.asgA (X.loc 292) 129 (X.bin 0 (X.loc 119) (X.att (X.loc 292) 129))) (S.seq (S.augA (X.loc 292) 131 0 (X.k (.int (1)))) S.skip)) (S.seq (S.augA (X.loc 292) 130 1 (X.k (.int (1)))) (S.seq (S.asrt (X.cmp 0 (X.sub (X.att (X.loc 292) 129) (X.att (X.loc 292) 130)) (X.loc 119))) S.skip))) S.skip) S.skip) S.skip)
noncomputable def ja(xs:List V)(kws:List Nat)(H:List (Nat×AO))(k:V->List (Nat×AO)->Prop):Prop:=
 (∃σ t,xs=[.ob 2,.c .non]∧kws=[]∧H=Hp σ t∧k (.c .non) (Hp σ t))∨
 (∃σ t c,xs=[.ob 2,.c (.str [c])]∧kws=[]∧H=Hp σ t∧σ.off≠0∧d7 σ.chunk (σ.off-1)=some c∧k (.c .non) (Hp {σ with off:=σ.off-1} t))
theorem yK(xs kws H k)(h:ja xs kws H k):ai (ar [292,119] xs kws) λL0=>ex g0 bQ ⟨L0,H,64,false⟩ (fin k):=by
 rcases h with ⟨σ,t,rfl,rfl,rfl,hk⟩|⟨σ,t,c,rfl,rfl,rfl,h0,hi,hk⟩
 ·exact oZ σ t hk
 ·conv=>whnf
  refine fu (decide_eq_false h0) ?_
  conv=>whnf
  refine aa (o:=d7 σ.chunk (σ.off-1)) hi ?_
  conv=>whnf
  refine bV ((cv [c] [c]).trans (decide_eq_true rfl)) ?_
  exact oZ {σ with off:=σ.off-1} t hk
end Mine.A
namespace Mine.A
open Mine.B
noncomputable abbrev aK:=List V->List Nat->List (Nat×AO)->(V->List (Nat×AO)->Prop)->Prop
noncomputable def dX(tab:List (Nat×aK))(fa:Nat):aK:=Option.rec (λ_ _ _ _=>False) (λs=>s) (lk fa tab)
noncomputable def b7(tab:List (Nat×aK)):G:= {g0 with call:=dX tab}
noncomputable abbrev S1:Nat×AO:=(1,.inst 755 [])
noncomputable abbrev S2:Nat×AO:=(2,.inst 159 [])
noncomputable def H7(l:List (Nat×V)):Nat×AO:=(2,.inst 159 ((264,.mth 141 2)::(216,.ob 9)::l))
noncomputable abbrev S9:Nat×AO:=(9,.lst [.int 0])
noncomputable def S3(raw:List Nat):Nat×AO:=(3,.inst 66 [(311,.c (.str raw)),(237,.c (.int 0))])
noncomputable def e7:S:=(S.seq (S.asgA (X.loc 292) 311 (X.loc 311)) (S.seq (S.asgA (X.loc 292) 237 (X.k (.int (0)))) S.skip))
noncomputable def iL:aK:=λxs kws H k=>∃raw,xs=[.ob 3,.c (.str raw)]∧kws=[]∧H=[S1,H7 [],S9,(3,.inst 66 [])]∧k (.c .non) [S1,H7 [],S9,S3 raw]
theorem nC(xs kws H k)(h:iL xs kws H k):ai (ar [292,311] xs kws) λL0=>ex g0 e7 ⟨L0,H,64,false⟩ (fin k):=by
 obtain⟨raw,rfl,rfl,rfl,hk⟩:=h
 exact hk
noncomputable def bR:S:=(S.seq (S.asgA (X.loc 292) 129 (X.k (.str []))) (S.seq (S.asgA (X.loc 292) 131 (X.k (.int (0)))) (S.seq (S.asgA (X.loc 292) 130 (X.k (.int (0)))) (S.seq (S.asgA (X.loc 292) 168 (X.lst X.nil)) (S.seq (S.asgA (X.loc 292) 244 (X.k (.int (0)))) (S.seq (S.asgA (X.loc 292) 243 (X.k (.int (0)))) (S.seq (S.asgA (X.loc 292) 41 (X.k .non)) S.skip)))))))
noncomputable def HY(raw:List Nat):Sm:=⟨raw,0,[],0,0,[],0,0,.non⟩
noncomputable def qd:aK:=λxs kws H k=>∃raw,xs=[.ob 2]∧kws=[]∧H=[S1,H7 [(147,.ob 3)],S9,S3 raw]∧k (.c .non) [S1,(2,.inst 159 (sd (HY raw))),S9,S3 raw,(6,.lst [])]
theorem yN(xs kws H k)(h:qd xs kws H k):ai (ar [292] xs kws) λL0=>ex g0 bR ⟨L0,H,64,false⟩ (fin k):=by
 obtain⟨raw,rfl,rfl,rfl,hk⟩:=h
 exact hk
noncomputable def w3:List (Nat×aK):=[(77,gS),(63,tZ),(112,iK),(56,iL),(98,qd),(156,ja)]
noncomputable def g1:G:=b7 w3
noncomputable def bw:S:=(S.seq (S.asgN 305 (X.new 66 (X.cons (X.loc 299) X.nil))) (S.seq (S.ret (X.loc 305)) S.skip))
noncomputable def gQ:aK:=λxs kws H k=>∃raw,xs=[.ob 2,.c (.str raw)]∧kws=[]∧H=[S1,H7 [],S9]∧k (.ob 3) [S1,H7 [],S9,S3 raw]
theorem lN(xs kws H k)(h:gQ xs kws H k):ai (ar [292,299] xs kws) λL0=>ex g1 bw ⟨L0,H,64,false⟩ (fin k):=by
 obtain⟨raw,rfl,rfl,rfl,hk⟩:=h
 conv=>whnf
 exact⟨raw,rfl,rfl,rfl,hk⟩
theorem Gi(σ:Sm)(t:Tm):hi (Hp σ t)=[]:=by
 obtain⟨st,ct,q,tb⟩:=t
 cases q<;>rfl
theorem gx{g:G}{s:St}{F:V->St->Prop}{f:Nat}{vs:List V}{kw:List Nat}(σ:Sm)(t:Tm)(hf:g.fn f=true)(hv:vs.all jD=true)(hH:s.H=Hp σ t)(h:g.call f vs kw (Hp σ t) λv H=>F v ⟨s.L,H,s.m,s.vl⟩):cC g f vs kw s F:=by
 refine eA σ t hf hv (by rw [hH,dh]) ?_
 rw [hH,Gi]
 simp only [List.append_nil]
 exact h
noncomputable def bI:S:=(S.seq (S.asgT [(none,199),(none,135)] (X.meth (X.loc 292) 85 (X.cons (X.att (X.loc 292) 130) X.nil) [])) (S.seq (S.ret (X.tup (X.cons (X.bin 0 (X.loc 199) (X.k (.int (1)))) (X.cons (X.loc 135) X.nil)))) S.skip))
noncomputable def ji:aK:=λxs kws H k=>∃σ t,xs=[.ob 2]∧kws=[]∧H=Hp σ t∧(0≤σ.off∧σ.off<2 ^ 63)∧k (.c (.tup [.int ((fQ σ σ.off).1+1),.int (fQ σ σ.off).2])) (Hp σ t)
theorem pe(xs kws H k)(h:ji xs kws H k):ai (ar [292] xs kws) λL0=>ex g1 bI ⟨L0,H,64,false⟩ (fin k):=by
 obtain⟨σ,t,rfl,rfl,rfl,ho,hk⟩:=h
 refine gx σ t rfl rfl rfl ⟨σ,t,σ.off,rfl,rfl,rfl,ho, ?_⟩
 exact cW σ t hk
noncomputable def zU:S:=(S.seq (S.iff (X.call 77 (X.cons (X.fn 1 (X.cons (X.loc 118) X.nil)) X.nil)) (S.seq (S.ex (X.meth (X.att (X.loc 292) 168) 0 (X.cons (X.k (.str [105,110,118,97,108,105,100,45,99,111,100,101,112,111,105,110,116])) X.nil) [])) S.skip) S.skip) S.skip)
noncomputable def aO:S:=(S.seq (S.fr 99 [118] (X.loc 145) zU) S.skip)
noncomputable def ic:FV:=.str [105,110,118,97,108,105,100,45,99,111,100,101,112,111,105,110,116]
noncomputable def ao(l:List Nat):List FV:=(l.filter λ(c:Nat)=>pQ (c:Int)).map λ_=>ic
noncomputable def t4:aK:=λxs kws H k=>∃σ t l,xs=[.ob 2,.c (.str l)]∧kws=[]∧H=Hp σ t∧σ.errs.length+l.length≤16777216∧k (.c .non) (Hp {σ with errs:=σ.errs++ao l} t)
theorem nz(x:Nat)(l:List Nat):ao (x::l)=(if pQ (x:Int)=true then [ic]else [])++ao l:=by
 unfold ao
 by_cases h:pQ (x:Int)=true
 ·rw [if_pos h,List.filter_cons_of_pos (by exact h)];rfl
 ·rw [if_neg h,List.filter_cons_of_neg (by exact h)];rfl
theorem sL(t:Tm)(K:Fl->St->Prop)(l:List Nat):∀(σ:Sm) (L:List (Nat×V)) (m:Nat),lk 292 L=some (.ob 2)->σ.errs.length+l.length≤16777216->
  (∀L',K .nxt ⟨L',Hp {σ with errs:=σ.errs++ao l} t,m,false⟩)->
  dM (ex g1 zU) (dZ [118]) (l.map λx=>.str [x]) ⟨L,Hp σ t,m,false⟩ K:=by
 induction l with
 |nil=>
  intro σ L m hL hb hk
  have:=hk L
  rw [show σ.errs++ao []=σ.errs from List.append_nil _] at this
  exact this
 |cons x l ih=>
  intro σ L m hL hb hk
  have hL':lk 292 (put 118 (.c (.str [x])) L)=some (.ob 2):=by rw [af,if_neg (by decide)];exact hL
  rw [List.length_cons] at hb
  rw [nz, ←List.append_assoc] at hk
  conv=>whnf
  refine aa (o:=lk 118 (put 118 (.c (.str [x])) L)) ((af 118 118 _ _).trans (if_pos rfl)) ?_
  conv=>whnf
  refine gx σ t rfl rfl rfl ⟨(x:Int),rfl,rfl,iO σ t (dh σ t), ?_⟩
  rw [dh]
  conv=>whnf
  refine du (λh=> ?_) λh=> ?_
  ·have h:pQ (x:Int)=true:=h
   rw [if_pos h] at hk
   conv=>whnf
   refine aa (o:=lk 292 (put 118 (.c (.str [x])) L)) hL' ?_
   conv=>whnf
   refine⟨by lia, ?_⟩
   refine ih {σ with errs:=σ.errs++[ic]} _ m hL' ?_ hk
   rw [List.length_append];show _+1+_≤_;lia
  ·have h:pQ (x:Int)=false:=h
   rw [if_neg (by rw [h];decide),List.append_nil] at hk
   exact ih σ _ m hL' (by lia) hk
theorem CF(xs kws H k)(h:t4 xs kws H k):ai (ar [292,145] xs kws) λL0=>ex g1 aO ⟨L0,H,64,false⟩ (fin k):=by
 obtain⟨σ,t,l,rfl,rfl,rfl,hb,hk⟩:=h
 exact sL t _ l σ _ 64 rfl hb λL'=>oZ {σ with errs:=σ.errs++ao l} t hk
end Mine.A
namespace Mine.A
open Mine.B
noncomputable def w0:List (Nat×aK):=(105,gQ)::(119,ji)::(141,t4)::w3
noncomputable def g2:G:=b7 w0
noncomputable def bJ:S:=(S.seq (S.asgA (X.loc 292) 264 (X.att (X.loc 292) 122)) (S.seq (S.asgA (X.loc 292) 216 (X.lst (X.cons (X.k (.int (0))) X.nil))) (S.seq (S.asgA (X.loc 292) 147 (X.meth (X.loc 292) 222 (X.cons (X.loc 299) X.nil) [])) (S.seq (S.ex (X.meth (X.loc 292) 265 X.nil [])) S.skip))))
noncomputable def jp:aK:=λxs kws H k=>∃raw,xs=[.ob 2,.c (.str raw)]∧kws=[]∧H=[S1,S2]∧k (.c .non) [S1,(2,.inst 159 (sd (HY raw))),S9,S3 raw,(6,.lst [])]
theorem pk(xs kws H k)(h:jp xs kws H k):ai (ar [292,299] xs kws) λL0=>ex g2 bJ ⟨L0,H,64,false⟩ (fin k):=by
 obtain⟨raw,rfl,rfl,rfl,hk⟩:=h
 conv=>whnf
 refine⟨raw,rfl,rfl,rfl, ?_⟩
 conv=>whnf
 exact⟨raw,rfl,rfl,rfl,hk⟩
theorem fP{y z:List Nat}(hz:z.length≤y.length)(hy:0<y.length):∀(l:List Nat) (n:Nat),n≤l.length->(ba y z n l).length+n≤l.length
 | [],n,h=>by
  have:n=0:=by simpa using h
  subst this;unfold ba;simp
 |c::r,0,_=>by
  unfold ba
  split
  ·rename_i h
   have h:y.isPrefixOf (c::r)=true:=h
   have hp:=List.IsPrefix.length_le (List.isPrefixOf_iff_prefix.mp h)
   rw [List.length_cons] at hp
   have:=fP hz hy r (y.length-1) (by lia)
   rw [List.length_append,List.length_cons];lia
  ·have:=fP hz hy r 0 (Nat.zero_le _)
   simp only [List.length_cons];lia
 |c::r,n+1,h=>by
  unfold ba
  have:=fP hz hy r n (by rw [List.length_cons] at h;lia)
  rw [List.length_cons];lia
noncomputable def aq(l:List Nat):List Nat:=ba [13] [10] 0 (ba [13,10] [10] 0 l)
theorem f8(l:List Nat):(ba [13,10] [10] 0 l).length≤l.length:=fP (by decide) (by decide) l 0 (Nat.zero_le _)
theorem ew(l:List Nat):(aq l).length≤l.length:=Nat.le_trans (fP (by decide) (by decide) _ 0 (Nat.zero_le _)) (f8 l)
noncomputable def Cl(σ:Sm)(data:List Nat):Sm:= {σ with errs:=σ.errs++ao data,chunk:=aq data,size:=((aq data).length:Int)}
noncomputable def zQ:S:=(S.seq (S.iff (X.att (X.loc 292) 264) (S.seq (S.ex (X.meth (X.loc 292) 264 (X.cons (X.loc 145) X.nil) [])) S.skip) S.skip) (S.seq (S.asgN 145 (X.rep (X.loc 145) [13,10] [10])) (S.seq (S.asgN 145 (X.rep (X.loc 145) [13] [10])) (S.seq (S.asgA (X.loc 292) 129 (X.loc 145)) (S.seq (S.asgA (X.loc 292) 131 (X.fn 0 (X.cons (X.loc 145) X.nil))) (S.seq (S.ret (X.k (.bol true))) S.skip))))))
noncomputable def zR:S:=(S.seq (S.iff (X.cmp 4 (X.fn 0 (X.cons (X.loc 145) X.nil)) (X.k (.int (1)))) (S.seq (S.asgN 196 (X.fn 1 (X.cons (X.sub (X.loc 145) (X.k (.int (-1)))) X.nil))) (S.seq (S.iff (X.or (X.cmp 0 (X.loc 196) (X.k (.int (13)))) (X.rng (X.k (.int (55296))) (X.loc 196) (X.k (.int (56319))))) (S.seq (S.asgA (X.loc 292) 41 (X.sub (X.loc 145) (X.k (.int (-1))))) (S.seq (S.asgN 145 (X.slc (X.loc 145) (X.k .non) (X.k (.int (-1))))) S.skip)) S.skip) S.skip)) S.skip) zQ)
noncomputable def zO:S:=(S.iff (X.att (X.loc 292) 41) (S.seq (S.asgN 145 (X.bin 0 (X.att (X.loc 292) 41) (X.loc 145))) (S.seq (S.asgA (X.loc 292) 41 (X.k .non)) S.skip)) (S.seq (S.iff (X.not (X.loc 145)) (S.seq (S.ret (X.k (.bol false))) S.skip) S.skip) S.skip))
noncomputable def zP:S:=S.seq zO zR
noncomputable def zS:S:=(S.seq (S.asgT [(some (X.loc 292),244),(some (X.loc 292),243)] (X.meth (X.loc 292) 85 (X.cons (X.att (X.loc 292) 131) X.nil) [])) (S.seq (S.asgA (X.loc 292) 129 (X.k (.str []))) (S.seq (S.asgA (X.loc 292) 131 (X.k (.int (0)))) (S.seq (S.asgA (X.loc 292) 130 (X.k (.int (0)))) (S.seq (S.asgN 145 (X.meth (X.att (X.loc 292) 147) 260 (X.cons (X.loc 131) X.nil) [])) zP)))))
noncomputable def bB:S:=(S.seq (S.iff (X.cmp 6 (X.loc 131) (X.k .non)) (S.seq (S.asgN 131 (X.att (X.loc 292) 45)) S.skip) S.skip) zS)
theorem I4{σ:Sm}{t:Tm}{data:List Nat}{L:List (Nat×V)}{m:Nat}{K:Fl->St->Prop}(h1:lk 292 L=some (.ob 2))(h2:lk 145 L=some (.c (.str data)))(hb:σ.errs.length+data.length≤1048576)
  (hk:∀L',K (.ret (.c (.bol true))) ⟨L',Hp (Cl σ data) t,m,false⟩):ex g2 zQ ⟨L,Hp σ t,m,false⟩ K:=by
 have hL:∀v,lk 292 (put 145 v L)=some (.ob 2):=λv=>by rw [af,if_neg (by decide)];exact h1
 have hL2:∀v w,lk 292 (put 145 v (put 145 w L))=some (.ob 2):=λv w=>by rw [af,if_neg (by decide)];exact hL _
 have hd:∀(v:V) (L:List (Nat×V)),lk 145 (put 145 v L)=some v:=λv L=>(af 145 145 _ _).trans (if_pos rfl)
 conv=>whnf
 refine aa (o:=lk 292 L) h1 ?_
 conv=>whnf
 refine aa (o:=lk 292 L) h1 ?_
 conv=>whnf
 refine aa (o:=lk 145 L) h2 ?_
 conv=>whnf
 refine gx σ t rfl rfl rfl ⟨σ,t,data,rfl,rfl,rfl,by lia, ?_⟩
 conv=>whnf
 refine aa (o:=lk 145 L) h2 ?_
 conv=>whnf
 refine⟨⟨rfl,by lia⟩, ?_⟩
 conv=>whnf
 refine aa (o:=lk 145 (put 145 _ L)) (hd _ _) ?_
 conv=>whnf
 refine⟨⟨rfl,Nat.le_trans (f8 _) (by lia)⟩, ?_⟩
 conv=>whnf
 refine aa (o:=lk 145 (put 145 _ (put 145 _ L))) (hd _ _) ?_
 conv=>whnf
 refine aa (o:=lk 292 (put 145 _ (put 145 _ L))) (hL2 _ _) ?_
 conv=>whnf
 refine aa (o:=lk 145 (put 145 _ (put 145 _ L))) (hd _ _) ?_
 conv=>whnf
 refine aa (o:=lk 292 (put 145 _ (put 145 _ L))) (hL2 _ _) ?_
 conv=>whnf
 exact hk _
noncomputable def gy(c:Nat):Bool:=decide ((c:Int)=13)||(decide ((55296:Int)≤(c:Int))&&decide ((c:Int)≤56319))
theorem nk{data:List Nat}(h:1<data.length):d7 data (-1)=some (data.getLastD 0):=by
 show(Bool.rec (Bool.rec none data[(-1+(data.length:Int)).toNat]? (decide (0≤ -1+(data.length:Int)))) data[(-1:Int).toNat]? (decide ((0:Int)≤ -1)):Option Nat)=_
 rw [show decide ((0:Int)≤ -1)=false from rfl,show decide (0≤ -1+(data.length:Int))=true from decide_eq_true (by lia)]
 show data[(-1+(data.length:Int)).toNat]? =_
 rw [show(-1+(data.length:Int)).toNat=data.length-1 by lia, ←List.getLast?_eq_getElem?]
 cases data with
 |nil=>cases h
 |cons a r=>rw [List.getLastD_eq_getLast?,List.getLast?_eq_some_getLast (by simp)];rfl
theorem oq(data:List Nat)(h:1<data.length):slice data none (some (-1))=data.dropLast:=by
 show(data.take (Bool.rec (-1+(data.length:Int)).toNat (min (-1:Int).toNat data.length) (decide ((0:Int)≤ -1)))).drop 0=_
 rw [show decide ((0:Int)≤ -1)=false from rfl]
 show(data.take (-1+(data.length:Int)).toNat).drop 0=_
 rw [List.drop_zero,List.dropLast_eq_take,show(-1+(data.length:Int)).toNat=data.length-1 by lia]
noncomputable def Fa(σ:Sm)(data:List Nat):Sm:=if 1<data.length∧gy (data.getLastD 0)=true then Cl {σ with buf:=.str [data.getLastD 0]} data.dropLast else Cl σ data
theorem Ly{σ:Sm}{t:Tm}{data:List Nat}{L:List (Nat×V)}{m:Nat}{K:Fl->St->Prop}(h1:lk 292 L=some (.ob 2))(h2:lk 145 L=some (.c (.str data)))(hb:σ.errs.length+data.length≤1048576)
  (hk:∀L',K (.ret (.c (.bol true))) ⟨L',Hp (Fa σ data) t,m,false⟩):ex g2 zR ⟨L,Hp σ t,m,false⟩ K:=by
 unfold Fa at hk
 conv=>whnf
 refine aa (o:=lk 145 L) h2 ?_
 conv=>whnf
 refine du (λh=> ?_) λh=> ?_
 ·have hl:1<data.length:=by have:=of_decide_eq_true h;lia
  have l:Ev g2 (.loc 196) ⟨put 196 (.c (.int (data.getLastD 0:Nat))) L,Hp σ t,m,false⟩ (.c (.int (data.getLastD 0:Nat))):=.loc ((af 196 196 _ _).trans (if_pos rfl))
  have h2':lk 145 (put 196 (.c (.int (data.getLastD 0:Nat))) L)=some (.c (.str data)):=by rw [af,if_neg (by decide)];exact h2
  have h1':lk 292 (put 196 (.c (.int (data.getLastD 0:Nat))) L)=some (.ob 2):=by rw [af,if_neg (by decide)];exact h1
  conv=>whnf
  refine aa (o:=lk 145 L) h2 ?_
  conv=>whnf
  refine aa (o:=d7 data (-1)) (nk hl) ?_
  refine Ev.or_b (.eq_i l .kk) (.rng .kk l .kk) _ (aa rfl (du (λhc=> ?_) λhc=> ?_))
  ·rw [if_pos ⟨hl,hc⟩] at hk
   conv=>whnf
   refine aa (o:=lk 145 (put 196 _ L)) h2' ?_
   conv=>whnf
   refine aa (o:=d7 data (-1)) (nk hl) ?_
   conv=>whnf
   refine aa (o:=lk 292 (put 196 _ L)) h1' ?_
   conv=>whnf
   refine aa (o:=lk 145 (put 196 _ L)) h2' ?_
   refine I4 (L:=put 145 (.c (.str (slice data none (some (-1))))) _) (σ:= {σ with buf:=.str [data.getLastD 0]}) (data:=data.dropLast) (by rw [af,if_neg (by decide)];exact h1') ?_ (by rw [List.length_dropLast];show σ.errs.length+_≤_;lia) hk
   rw [oq _ hl];exact(af 145 145 _ _).trans (if_pos rfl)
  ·rw [if_neg (by rw [show gy _=false from hc];intro q;cases q.2)] at hk
   exact I4 h1' h2' hb hk
 ·rw [if_neg (λq=>by have:=of_decide_eq_false h;lia)] at hk
  exact I4 h1 h2 hb hk
noncomputable def sV(f:FV):List Nat:=Option.rec [] (λb=>b) (aS f)
noncomputable def jq(σ:Sm):Sm:= {σ with pl:=(fQ σ σ.size).1,pc:=(fQ σ σ.size).2,chunk:=[],size:=0,off:=0}
noncomputable def D1(n:Int)(σ:Sm):List Nat:=sV σ.buf++(e8 n (jq σ)).1
noncomputable def mS(n:Int)(σ:Sm):Sm:=if D1 n σ=[]then(e8 n (jq σ)).2 else Fa {(e8 n (jq σ)).2 with buf:=.non} (D1 n σ)
noncomputable def wK(n:Int)(σ:Sm):Bool:= !decide (D1 n σ=[])
structure DL (n:Int) (σ:Sm):Prop where
 buf:σ.buf=.non∨∃c,σ.buf=.str [c]
 size:0≤σ.size∧σ.size<2 ^ 63
 errs:σ.errs.length+(D1 n σ).length≤1048576
theorem Mp{raw chunk D:List Nat}{place size off pl pc:Int}{errs:List FV}{c:Nat}{t:Tm}{n:Int}{K:Fl->St->Prop}(hl:[c].length+D.length≤16777216)(hk:K .nxt ⟨[(292,.ob 2),(131,.c (.int n)),(145,.c (.str ([c]++D)))],Hp ⟨raw,place,chunk,size,off,errs,pl,pc,.non⟩ t,64,false⟩):
  ex g2 zO ⟨[(292,.ob 2),(131,.c (.int n)),(145,.c (.str D))],Hp ⟨raw,place,chunk,size,off,errs,pl,pc,.str [c]⟩ t,64,false⟩ K:=⟨hl,hk⟩
theorem Mq{σ:Sm}{t:Tm}{n:Int}{D:List Nat}{K:Fl->St->Prop}(hb:σ.buf=.non∨∃c,σ.buf=.str [c])(h3:σ.errs.length+(sV σ.buf++D).length≤1048576)
  (hk:∀L',K (.ret (.c (.bol (!decide (sV σ.buf++D=[]))))) ⟨L',Hp (if sV σ.buf++D=[]then σ else Fa {σ with buf:=.non} (sV σ.buf++D)) t,64,false⟩):
  ex g2 zP ⟨[(292,.ob 2),(131,.c (.int n)),(145,.c (.str D))],Hp σ t,64,false⟩ K:=by
 obtain⟨raw,place,chunk,size,off,errs,pl,pc,buf⟩:=σ
 rcases hb with h1|⟨c,h1⟩<;>cases h1
 ·cases D with
  |nil=>exact hk _
  |cons a D=>
   rw [if_neg (by rintro ⟨⟩)] at hk
   exact Ly (L:=[(292,.ob 2),(131,.c (.int n)),(145,.c (.str (a::D)))]) rfl rfl h3 hk
 ·have hl:[c].length+D.length≤16777216:=by
   have h3:errs.length+([c]++D).length≤1048576:=h3
   rw [List.length_append] at h3;lia
  rw [if_neg (by rintro ⟨⟩)] at hk
  refine jh (Mp hl ?_)
  exact Ly (L:=[(292,.ob 2),(131,.c (.int n)),(145,.c (.str ([c]++D)))]) rfl rfl h3 hk
theorem Lz{σ:Sm}{t:Tm}{n:Int}{K:Fl->St->Prop}(h:DL n σ)(hk:∀L',K (.ret (.c (.bol (wK n σ)))) ⟨L',Hp (mS n σ) t,64,false⟩):ex g2 zS ⟨[(292,.ob 2),(131,.c (.int n))],Hp σ t,64,false⟩ K:=by
 obtain⟨h1,h2,h3⟩:=h
 conv=>whnf
 refine gx σ t rfl rfl rfl ⟨σ,t,σ.size,rfl,rfl,rfl,h2, ?_⟩
 conv=>whnf
 refine gx (jq σ) t rfl rfl rfl ⟨jq σ,t,n,rfl,rfl,rfl, ?_⟩
 exact Mq (σ:=(e8 n (jq σ)).2) h1 h3 hk
noncomputable def iJ:aK:=λxs kws H k=>∃σ t n,(xs=[.ob 2,.c (.int n)]∨xs=[.ob 2]∧n=10240)∧kws=[]∧H=Hp σ t∧DL n σ∧k (.c (.bol (wK n σ))) (Hp (mS n σ) t)
noncomputable def hY(pn:List Nat)(d:FV)(xs:List V)(kws:List Nat):Option (List (Nat×V)):=
 List.casesOn kws (Bool.rec (Bool.rec none (some (pn.zip (xs++[.c d]))) (Nat.beq (xs.length+1) pn.length)) (some (pn.zip xs)) (Nat.beq xs.length pn.length)) λ_ _=>none
theorem nA(xs kws H k)(h:iJ xs kws H k):ai (hY [292,131] .non xs kws) λL0=>ex g2 bB ⟨L0,H,64,false⟩ (fin k):=by
 obtain⟨σ,t,n,h1,rfl,rfl,hr,hk⟩:=h
 have fi:∀L',fin k (.ret (.c (.bol (wK n σ)))) ⟨L',Hp (mS n σ) t,64,false⟩:=λL'=>cW (mS n σ) t hk
 rcases h1 with rfl|⟨rfl,rfl⟩
 ·exact Lz hr fi
 ·exact Lz hr fi
end Mine.A
namespace Mine.A
open Mine.B
noncomputable abbrev rp(l:List Nat):List Nat:=ba [13,10] [10] 0 l
theorem ow:∀(a b:List Nat),¬(a.getLast?=some 13∧b.head?=some 10)->rp (a++b)=rp a++rp b
 | [],b,_=>rfl
 | [c],b,h=>by
  have n1:¬[13,10].isPrefixOf [c]=true:=by simp [List.isPrefixOf]
  have n2:¬[13,10].isPrefixOf (c::b)=true:=λq=>by
   cases b with
   |nil=>exact n1 q
   |cons x r=>
    simp only [List.isPrefixOf,Bool.and_eq_true,beq_iff_eq] at q
    exact h ⟨by simp [←q.1],by simp [←q.2.1]⟩
  show ba _ _ 0 (c::b)=ba _ _ 0 (c::[])++_
  rw [fO n1,fO n2];rfl
 |c::x::r,b,h=>by
  by_cases q:[13,10].isPrefixOf (c::x::r)=true
  ·have q':[13,10].isPrefixOf (c::x::(r++b))=true:=by simp only [List.isPrefixOf,Bool.and_eq_true] at q⊢;exact⟨q.1,q.2.1,trivial⟩
   have hr:¬(r.getLast?=some 13∧b.head?=some 10):=λt=>h ⟨by
    cases r with
    |nil=>simp at t
    |cons y r=>rw [List.getLast?_cons_cons,List.getLast?_cons_cons];exact t.1,t.2⟩
   show ba _ _ 0 (c::x::(r++b))=ba _ _ 0 (c::x::r)++_
   rw [k6 (by decide) q,k6 (by decide) q']
   show 10::rp (r++b)=(10::rp r)++rp b
   rw [ow r b hr];rfl
  ·have q':¬[13,10].isPrefixOf (c::x::(r++b))=true:=λt=>q (by simp only [List.isPrefixOf,Bool.and_eq_true] at t⊢;exact⟨t.1,t.2.1,trivial⟩)
   have hr:¬((x::r).getLast?=some 13∧b.head?=some 10):=λt=>h ⟨by rw [List.getLast?_cons_cons];exact t.1,t.2⟩
   show ba _ _ 0 (c::x::(r++b))=ba _ _ 0 (c::x::r)++_
   rw [fO q,fO q']
   show c::rp ((x::r)++b)=(c::rp (x::r))++rp b
   rw [ow (x::r) b hr];rfl
noncomputable def Io(c:Nat):Nat:=if c=13 then 10 else c
theorem xx:∀l:List Nat,ba [13] [10] 0 l=l.map Io:=by
 intro l
 induction l with
 |nil=>
  exact rfl
 |cons c r ih=>
  unfold ba
  by_cases h:c=13
  ·subst h
   rw [if_pos (by simp [List.isPrefixOf])]
   show [10]++ba [13] [10] 0 r=_
   rw [ih];rfl
  ·rw [if_neg (by simp only [List.isPrefixOf,Bool.and_true,beq_iff_eq];exact λe=>h e.symm),ih,List.map_cons]
   unfold Io;rw [if_neg h]
theorem jc(l:List Nat):aq l=(rp l).map Io:=xx _
theorem m8{a b:List Nat}(h:¬(a.getLast?=some 13∧b.head?=some 10)):aq (a++b)=aq a++aq b:=by rw [jc,jc,jc,ow a b h,List.map_append]
theorem qJ{l:List Nat}(h:l≠[]):aq l≠[]:=by
 cases l with
 |nil=>exact absurd rfl h
 |cons c r=>
  rw [jc]
  show List.map Io (ba _ _ 0 (c::r))≠[]
  unfold ba
  split<;>simp
theorem uc(c:Nat):∀l, -1≤fB c l:=by
 intro l
 induction l with
 |nil=>
  unfold fB;lia
 |cons x r ih=>
  have:=ih
  unfold fB
  split
  ·lia
  ·split<;>lia
theorem xu(c:Nat)(y:List Nat):∀x,fB c (x++y)=if fB c y= -1 then fB c x else x.length+fB c y:=by
 intro x
 induction x with
 |nil=>
  show fB c y=if fB c y= -1 then-1 else _
  split
  ·assumption
  ·simp
 |cons a x ih=>
  have ih:=ih
  have g1:=uc c x
  have g2:=uc c y
  rw [List.cons_append]
  show(if 0≤fB c (x++y)then fB c (x++y)+1 else if a=c then 0 else-1)=if fB c y= -1 then(if 0≤fB c x then fB c x+1 else if a=c then 0 else-1)else _
  rw [ih]
  by_cases h:fB c y= -1
  ·rw [if_pos h,if_pos h]
  ·rw [if_neg h,if_neg h,if_pos (by lia),List.length_cons];lia
noncomputable def iU(d:List Nat):Int:=d.length-(fB 10 d+1)
noncomputable def gU(d:List Nat):Int:=(d.count 10:Nat)
theorem qp{σ:Sm}{d0:List Nat}{o:Int}{n:Nat}(hl:σ.pl=gU d0)(hc:σ.pc=iU d0)(ho:o=n)(hn:n≤σ.chunk.length):fQ σ o=(gU (d0++σ.chunk.take n),iU (d0++σ.chunk.take n)):=by
 subst ho
 unfold fQ
 rw [hl,hc]
 show(gU d0+((σ.chunk.take (n:Int).toNat).count 10:Nat),_)=_
 rw [Int.toNat_natCast]
 have hlen:(σ.chunk.take n).length=n:=by rw [List.length_take];lia
 congr 1
 ·unfold gU;rw [List.count_append];lia
 ·unfold iU
  rw [xu,List.length_append,hlen]
  split<;>lia
structure pN (σ:Sm) (d r:List Nat) (e m p o:Nat) (d0 b:List Nat):Prop where
 place:σ.place=p
 pr:p≤σ.raw.length
 off:σ.off=o
 size:σ.size=σ.chunk.length
 oc:o≤σ.chunk.length
 buf:b=[]∧σ.buf=.non∨b=[13]∧σ.buf=.str [13]
 dd:d=d0++σ.chunk.take o
 rr:r=σ.chunk.drop o++aq (b++σ.raw.drop p)
 pl:σ.pl=gU d0
 pc:σ.pc=iU d0
 mm:m=(ao (b++σ.raw.drop p)).length
 errs:σ.errs=List.replicate e ic
 raw:σ.raw.length≤10240
 cut:∀c∈σ.raw,gy c=true->c=13
 em:e+m≤10240
 dr:d.length+r.length≤10240
noncomputable def aB(σ:Sm)(d r:List Nat)(e m:Nat):Prop:=∃p o d0 b,pN σ d r e m p o d0 b
theorem gK(a b:List Nat):ao (a++b)=ao a++ao b:=by unfold ao;rw [List.filter_append,List.map_append]
theorem jO(a:List Nat):ao a=List.replicate (ao a).length ic:=by unfold ao;simp [List.map_const']
theorem pb(a:List Nat):(ao a).length≤a.length:=by unfold ao;rw [List.length_map];exact List.length_filter_le _ _
theorem pN.posn{σ:Sm}{d r:List Nat}{e m p o:Nat}{d0 b:List Nat}(h:pN σ d r e m p o d0 b):fQ σ σ.size=(gU (d0++σ.chunk),iU (d0++σ.chunk)):=by
 have:=qp h.pl h.pc h.size (Nat.le_refl _)
 rw [List.take_length] at this;exact this
theorem gc(l k:Nat):bnd l (k:Int)=min k l:=by
 unfold bnd
 rw [decide_eq_true (show(0:Int)≤(k:Int) by lia),Int.toNat_natCast]
theorem xB{σ:Sm}{p n:Nat}(h1:σ.place=p)(h2:p≤σ.raw.length):(e8 (n:Int) (jq σ)).1=(σ.raw.drop p).take n:=by
 unfold e8 jq
 show(σ.raw.take (bnd σ.raw.length (σ.place+n))).drop (bnd σ.raw.length σ.place)=_
 rw [h1, ←Int.natCast_add,gc,gc,Nat.min_eq_left h2, ←List.take_eq_take_min,List.drop_take,Nat.add_sub_cancel_left]
theorem jb{σ:Sm}{d r:List Nat}{e m:Nat}{n:Nat}(hn:2≤n)(h:aB σ d r e m):DL (n:Int) σ∧∃y e' m',r=σ.chunk.drop σ.off.toNat++y∧e'+m'=e+m∧m'≤m∧(n=10240->m'=0)∧
  aB (mS (n:Int) σ) (d++σ.chunk.drop σ.off.toNat) y e' m'∧(mS (n:Int) σ).off=0∧(wK (n:Int) σ=false->y=[]∧(mS (n:Int) σ).chunk=[])∧(wK (n:Int) σ=true->(mS (n:Int) σ).chunk≠[]):=by
 obtain⟨p,o,d0,b,h⟩:=h
 have ho:σ.off.toNat=o:=by rw [h.off];exact Int.toNat_natCast _
 have hd:d++σ.chunk.drop o=d0++σ.chunk:=by rw [h.dd,List.append_assoc,List.take_append_drop]
 have hA:=xB (n:=n) h.place h.pr
 have hb:sV σ.buf=b:=by rcases h.buf with ⟨e1,e2⟩|⟨e1,e2⟩<;>rw [e1,e2]<;>rfl
 have hD:D1 (n:Int) σ=b++(σ.raw.drop p).take n:=by unfold D1;rw [hb,hA]
 have hAB:σ.raw.drop p=(σ.raw.drop p).take n++(σ.raw.drop p).drop n:=(List.take_append_drop _ _).symm
 have hpl:(e8 (n:Int) (jq σ)).2.place=((p+((σ.raw.drop p).take n).length:Nat):Int):=by
  have:(e8 (n:Int) (jq σ)).2.place=σ.place+((e8 (n:Int) (jq σ)).1.length:Int):=rfl
  rw [this,hA,h.place];lia
 have hB:σ.raw.drop (p+((σ.raw.drop p).take n).length)=(σ.raw.drop p).drop n:=by
  rw [←List.drop_drop,List.length_take]
  by_cases q:n≤(σ.raw.drop p).length
  ·rw [Nat.min_eq_left q]
  ·rw [Nat.min_eq_right (by lia),List.drop_length,List.drop_eq_nil_of_le (by lia)]
 have hle:p+((σ.raw.drop p).take n).length≤σ.raw.length:=by rw [List.length_take,List.length_drop];have:=h.pr;lia
 have hlen:(b++(σ.raw.drop p).take n).length≤10241:=by
  have:b.length≤1:=by rcases h.buf with ⟨e1,_⟩|⟨e1,_⟩<;>rw [e1]<;>simp
  have:=h.raw
  rw [List.length_append];lia
 have he:σ.errs.length=e:=by rw [h.errs,List.length_replicate]
 have hem:=h.em
 have hdr:=h.dr
 have hm:=h.mm
 have hpn:=h.posn
 have hcl:σ.chunk.length≤10240:=by
  rw [h.dd,h.rr,List.length_append,List.length_append,List.length_take,List.length_drop] at hdr
  have:=h.oc
  lia
 rw [ho]
 generalize hAe:(σ.raw.drop p).take n=A at*
 generalize hBe:(σ.raw.drop p).drop n=B at*
 have hn10:n=10240->B=[]:=λq=>by
  rw [←hBe];exact List.drop_eq_nil_of_le (by rw [List.length_drop,q];have:=h.raw;lia)
 have hshort:A.length<n->B=[]:=λq=>by
  rw [←hBe];refine List.drop_eq_nil_of_le ?_
  rw [←hAe,List.length_take] at q;lia
 have hsub:∀c∈A,c∈σ.raw:=λc hc=>by rw [←hAe] at hc;exact List.mem_of_mem_drop (List.mem_of_mem_take hc)
 refine⟨⟨?_, ?_,by rw [hD,he];lia⟩, ?_⟩
 ·rcases h.buf with ⟨_,e2⟩|⟨_,e2⟩
  ·exact .inl e2
  ·exact .inr ⟨_,e2⟩
 ·rw [h.size];lia
 refine⟨aq (b++(A++B)), ?_⟩
 have hr:r=σ.chunk.drop o++aq (b++(A++B)):=by rw [h.rr,hAB]
 rw [hAB] at hm
 unfold mS wK
 rw [hD]
 by_cases hz:b++A=[]
 ·rw [if_pos hz,decide_eq_true hz]
  obtain⟨rfl,rfl⟩:=List.append_eq_nil_iff.mp hz
  have hBn:B=[]:=hshort (by rw [List.length_nil];lia)
  subst hBn
  refine⟨e,m,hr,rfl,Nat.le_refl _,λ_=>by rw [hm];rfl,⟨p,0,d0++σ.chunk,[], ?_⟩,rfl,λ_=>⟨rfl,rfl⟩,λq=>(by cases q)⟩
  have hbn:σ.buf=.non:=by rcases h.buf with ⟨_,e2⟩|⟨e1,_⟩;exact e2;cases e1
  have hdn:σ.raw.drop p=[]:=hAB
  refine⟨by rw [hpl];simp,h.pr,rfl,rfl,Nat.zero_le _,.inl ⟨rfl,hbn⟩,by rw [hd];exact(List.append_nil _).symm, ?_, ?_, ?_, ?_,h.errs,h.raw,h.cut,hem, ?_⟩
  ·show aq []=[]++aq ([]++σ.raw.drop p);rw [hdn];rfl
  ·show(fQ σ σ.size).1=_;rw [hpn]
  ·show(fQ σ σ.size).2=_;rw [hpn]
  ·show m=(ao ([]++σ.raw.drop p)).length;rw [hdn,hm];rfl
  ·rw [hd];rw [h.dd,h.rr] at hdr
   have e0:(aq ([]++([]++[]))).length=0:=rfl
   rw [e0]
   simp only [List.length_append,List.length_take,List.length_drop] at hdr⊢
   have:=h.oc;lia
 ·rw [if_neg hz,decide_eq_false hz]
  unfold Fa
  have hdr':(d0++σ.chunk).length+(aq (b++(A++B))).length≤10240:=by
   rw [←hd,List.length_append];rw [hr,List.length_append] at hdr;lia
  by_cases hc:1<(b++A).length∧gy ((b++A).getLastD 0)=true
  ·rw [if_pos hc]
   have hne:(b++A).getLastD 0=(b++A).getLast hz:=by rw [List.getLastD_eq_getLast?,List.getLast?_eq_some_getLast hz];rfl
   have hl13:(b++A).getLastD 0=13:=by
    have hmem:(b++A).getLastD 0∈b++A:=by rw [hne];exact List.getLast_mem hz
    rcases List.mem_append.mp hmem with q|q
    ·rcases h.buf with ⟨e1,_⟩|⟨e1,_⟩
     ·rw [e1] at q;cases q
     ·rw [e1] at q hc;simpa [e1] using q
    ·exact h.cut _ (hsub _ q) hc.2
   have hsp:(b++A).dropLast++[13]=b++A:=by have:=List.dropLast_concat_getLast hz;rw [←hne,hl13] at this;exact this
   have hmd:aq (b++(A++B))=aq (b++A).dropLast++aq ([13]++B):=by
    rw [←List.append_assoc, ←hsp,List.append_assoc]
    rw [List.dropLast_concat]
    exact m8 (by intro q;have:=q.2;simp at this)
   have hme:(ao (b++(A++B))).length=(ao (b++A).dropLast).length+(ao ([13]++B)).length:=by
    rw [←List.append_assoc, ←hsp,List.append_assoc,List.dropLast_concat,gK,List.length_append]
   have hdl:(b++A).dropLast≠[]:=λq=>by have:=congrArg List.length q;rw [List.length_dropLast,List.length_nil] at this;lia
   refine⟨e+(ao (b++A).dropLast).length,(ao ([13]++B)).length,hr,by lia,by lia,λq=>by rw [hn10 q];rfl,⟨p+A.length,0,d0++σ.chunk,[13], ?_⟩,rfl,λq=>(by cases q),λ_=>qJ hdl⟩
   rw [hd]
   refine⟨hpl,hle,rfl,rfl,Nat.zero_le _,.inr ⟨rfl,by rw [hl13];rfl⟩,by simp, ?_, ?_, ?_, ?_, ?_,h.raw,h.cut,by lia,hdr'⟩
   ·show aq (b++(A++B))=(aq (b++A).dropLast).drop 0++aq ([13]++σ.raw.drop (p+A.length));rw [List.drop_zero,hB,hmd]
   ·show(fQ σ σ.size).1=_;rw [hpn]
   ·show(fQ σ σ.size).2=_;rw [hpn]
   ·show(ao ([13]++B)).length=(ao ([13]++σ.raw.drop (p+A.length))).length;rw [hB]
   ·show σ.errs++ao (b++A).dropLast=_
    rw [h.errs,jO,List.length_replicate,List.replicate_append_replicate]
  ·rw [if_neg hc]
   have hsep:¬((b++A).getLast?=some 13∧B.head?=some 10):=by
    rintro ⟨q1,q2⟩
    by_cases hl:1<(b++A).length
    ·refine hc ⟨hl, ?_⟩
     rw [List.getLastD_eq_getLast?,q1];rfl
    ·have:B=[]:=hshort (by rw [List.length_append] at hl;lia)
     rw [this] at q2;cases q2
   have hmd:aq (b++(A++B))=aq (b++A)++aq B:=by rw [←List.append_assoc];exact m8 hsep
   have hme:(ao (b++(A++B))).length=(ao (b++A)).length+(ao B).length:=by rw [←List.append_assoc,gK,List.length_append]
   refine⟨e+(ao (b++A)).length,(ao B).length,hr,by lia,by lia,λq=>by rw [hn10 q];rfl,⟨p+A.length,0,d0++σ.chunk,[], ?_⟩,rfl,λq=>(by cases q),λ_=>qJ hz⟩
   rw [hd]
   refine⟨hpl,hle,rfl,rfl,Nat.zero_le _,.inl ⟨rfl,rfl⟩,by simp, ?_, ?_, ?_, ?_, ?_,h.raw,h.cut,by lia,hdr'⟩
   ·show aq (b++(A++B))=(aq (b++A)).drop 0++aq ([]++σ.raw.drop (p+A.length));rw [List.drop_zero,hB,hmd];rfl
   ·show(fQ σ σ.size).1=_;rw [hpn]
   ·show(fQ σ σ.size).2=_;rw [hpn]
   ·show(ao B).length=(ao ([]++σ.raw.drop (p+A.length))).length;rw [hB];rfl
   ·show σ.errs++ao (b++A)=_
    rw [h.errs,jO,List.length_replicate,List.replicate_append_replicate]
theorem aB.off_nn{σ:Sm}{d r:List Nat}{e m:Nat}(h:aB σ d r e m):0≤σ.off∧σ.off≤σ.size∧σ.size=σ.chunk.length∧σ.size<2 ^ 63:=by
 obtain⟨p,o,d0,b,h⟩:=h
 have hdr:=h.dr
 rw [h.dd,h.rr,List.length_append,List.length_append,List.length_take,List.length_drop] at hdr
 have:=h.oc
 have:=h.off
 have:=h.size
 refine⟨by lia,by lia,by lia,by lia⟩
theorem aB.bound{σ:Sm}{d r:List Nat}{e m:Nat}(h:aB σ d r e m):d.length+r.length≤10240:=by obtain⟨p,o,d0,b,h⟩:=h;exact h.dr
theorem aB.posn{σ:Sm}{d r:List Nat}{e m:Nat}(h:aB σ d r e m):fQ σ σ.off=(gU d,iU d):=by
 obtain⟨p,o,d0,b,h⟩:=h
 rw [qp h.pl h.pc h.off h.oc, ←h.dd]
theorem aB.pass{σ:Sm}{d r:List Nat}{e m:Nat}(h:aB σ d r e m)(n:Nat)(hn:σ.off.toNat+n≤σ.chunk.length):
  aB {σ with off:=σ.off+n} (d++(σ.chunk.drop σ.off.toNat).take n) (r.drop n) e m∧r=(σ.chunk.drop σ.off.toNat).take n++r.drop n:=by
 obtain⟨p,o,d0,b,h⟩:=h
 have ho:σ.off.toNat=o:=by rw [h.off];exact Int.toNat_natCast _
 rw [ho] at hn⊢
 have e1:r.drop n=σ.chunk.drop (o+n)++aq (b++σ.raw.drop p):=by
  rw [h.rr,List.drop_append_of_le_length (by rw [List.length_drop];lia),List.drop_drop]
 have e2:r=(σ.chunk.drop o).take n++r.drop n:=by
  rw [e1, ←List.append_assoc, ←List.drop_drop,List.take_append_drop];exact h.rr
 refine⟨⟨p,o+n,d0,b, ?_⟩,e2⟩
 refine⟨h.place,h.pr,by show σ.off+_=_;rw [h.off];lia,h.size,hn,h.buf, ?_,e1,h.pl,h.pc,h.mm,h.errs,h.raw,h.cut,h.em, ?_⟩
 ·rw [h.dd,List.append_assoc]
  congr 1
  exact(List.take_add ..).symm
 ·have:=h.dr
  have e3:=congrArg List.length e2
  simp only [List.length_append] at e3 this⊢
  lia
theorem hU{α:Type}(l:List α)(o:Nat):d7 l (o:Int)=l[o]? :=by
 unfold d7
 rw [decide_eq_true (show(0:Int)≤(o:Int) by lia),Int.toNat_natCast]
theorem aB.char{σ:Sm}{d r:List Nat}{e m:Nat}(h:aB σ d r e m)(ho:σ.off<σ.size):∃c r',r=c::r'∧d7 σ.chunk σ.off=some c∧aB {σ with off:=σ.off+1} (d++[c]) r' e m:=by
 have hb:=h.off_nn
 have hlt:σ.off.toNat<σ.chunk.length:=by lia
 obtain⟨v,hr⟩:=h.pass 1 (by lia)
 have e1:(σ.chunk.drop σ.off.toNat).take 1=[σ.chunk[σ.off.toNat]]:=by rw [List.drop_eq_getElem_cons hlt];rfl
 rw [e1] at v hr
 refine⟨_,_,hr, ?_,v⟩
 rw [←List.getElem?_eq_getElem hlt, ←hU]
 congr 1;lia
theorem aB.unget{σ:Sm}{d r:List Nat}{c e m:Nat}(h:aB σ (d++[c]) r e m)(ho:0<σ.off):σ.off≠0∧d7 σ.chunk (σ.off-1)=some c∧aB {σ with off:=σ.off-1} d (c::r) e m:=by
 obtain⟨p,o,d0,b,h⟩:=h
 have h1:=h.off
 obtain⟨o',rfl⟩:∃o',o=o'+1:=⟨o-1,by lia⟩
 have hoc:=h.oc
 have hd:=h.dd
 have hlt:o'<σ.chunk.length:=by lia
 rw [List.take_succ_eq_append_getElem hlt, ←List.append_assoc] at hd
 obtain⟨e1,e2⟩:=List.append_inj' hd rfl
 have e2:c=σ.chunk[o']:=by simpa using e2
 refine⟨by lia, ?_,⟨p,o',d0,b, ?_⟩⟩
 ·rw [show σ.off-1=(o':Int) by lia,hU,List.getElem?_eq_getElem hlt,e2]
 ·refine⟨h.place,h.pr,by show σ.off-1=_;lia,h.size,Nat.le_of_lt hlt,h.buf,e1, ?_,h.pl,h.pc,h.mm,h.errs,h.raw,h.cut,h.em, ?_⟩
  ·rw [h.rr,e2, ←List.cons_append, ←List.drop_eq_getElem_cons hlt]
  ·have:=h.dr
   simp only [List.length_append,List.length_cons,List.length_nil] at this⊢;lia
theorem aB.zero{raw:List Nat}(h1:raw.length≤10240)(h2:∀c∈raw,gy c=true->c=13):aB (HY raw) [] (aq raw) 0 (ao raw).length:=
 ⟨0,0,[],[],rfl,Nat.zero_le _,rfl,rfl,Nat.le_refl _,.inl ⟨rfl,rfl⟩,rfl,rfl,rfl,rfl,rfl,rfl,h1,h2,by have:=pb raw;lia,by have:=ew raw;simp;lia⟩
end Mine.A
namespace Mine.A
open Mine.B
noncomputable def wZ:List (Nat×aK):=(91,jp)::(134,iJ)::w0
noncomputable def g3:G:=b7 wZ
noncomputable def zV:S:=(S.seq (S.asgN 130 (X.att (X.loc 292) 130)) (S.seq (S.asgN 119 (X.sub (X.att (X.loc 292) 129) (X.loc 130))) (S.seq (S.asgA (X.loc 292) 130 (X.bin 0 (X.loc 130) (X.k (.int (1))))) (S.seq (S.ret (X.loc 119)) S.skip))))
noncomputable def b0:S:=(S.seq (S.iff (X.cmp 5 (X.att (X.loc 292) 130) (X.att (X.loc 292) 131)) (S.seq (S.iff (X.not (X.meth (X.loc 292) 261 X.nil [])) (S.seq (S.ret (X.glo (.c .non))) S.skip) S.skip) S.skip) S.skip) zV)
noncomputable def kW:aK:=λxs kws H k=>∃σ t d r e m,xs=[.ob 2]∧kws=[]∧H=Hp σ t∧aB σ d r e m∧∀Z' e' m',e'+m'=e+m->m'≤m->(σ.off=σ.size->m'=0)->
 match r with
 | []=>aB Z' d [] e' m'->k (.c .non) (Hp Z' t)
 |c::r'=>aB Z' (d++[c]) r' e' m'->0<Z'.off->k (.c (.str [c])) (Hp Z' t)
theorem qE{b:Bool}(h:(!b)=true):b=false:=by cases b;rfl;cases h
theorem qF{b:Bool}(h:(!b)=false):b=true:=by cases b;cases h;rfl
theorem LW{σ:Sm}{t:Tm}{d r:List Nat}{e m:Nat}{k:V->List (Nat×AO)->Prop}(v:aB σ d r e m)(ho:σ.off<σ.size)
  (hk:∀c r',r=c::r'->aB {σ with off:=σ.off+1} (d++[c]) r' e m->k (.c (.str [c])) (Hp {σ with off:=σ.off+1} t)):ex g3 zV ⟨[(292,.ob 2)],Hp σ t,64,false⟩ (fin k):=by
 obtain⟨c,r',hr,hi,v'⟩:=v.char ho
 conv=>whnf
 refine aa (o:=d7 σ.chunk σ.off) hi ?_
 exact cW {σ with off:=σ.off+1} t (hk c r' hr v')
theorem CI(xs kws H k)(h:kW xs kws H k):ai (ar [292] xs kws) λL0=>ex g3 b0 ⟨L0,H,64,false⟩ (fin k):=by
 obtain⟨σ,t,d,r,e,m,rfl,rfl,rfl,v,hk⟩:=h
 have hb:=v.off_nn
 conv=>whnf
 refine du (λh=> ?_) λh=> ?_
 ·have h:σ.size≤σ.off:=of_decide_eq_true h
  obtain⟨ro,y,e',m',hr,he,hm,h0,v',ho',hf,ht⟩:=jb (n:=10240) (by decide) v
  have hx:σ.chunk.drop σ.off.toNat=[]:=List.drop_eq_nil_of_le (by lia)
  rw [hx,List.nil_append] at hr
  rw [hx,List.append_nil] at v'
  subst hr
  conv=>whnf
  refine gx σ t rfl rfl rfl ⟨σ,t,10240,.inr ⟨rfl,rfl⟩,rfl,rfl,ro, ?_⟩
  conv=>whnf
  refine du (λq=> ?_) λq=> ?_
  ·obtain⟨rfl,hc⟩:=hf (qE q)
   exact cW (mS (10240:Nat) σ) t (hk _ e' m' he hm (λ_=>h0 rfl) v')
  ·have hc:=List.length_pos_iff.mpr (ht (qF q))
   have hb':=v'.off_nn
   refine LW (σ:=mS (10240:Nat) σ) v' (by lia) λc r' hr v2=> ?_
   subst hr
   exact hk _ e' m' he hm (λ_=>h0 rfl) v2 (by show 0<(mS (10240:Nat) σ).off+1;lia)
 ·have h:¬σ.size≤σ.off:=of_decide_eq_false h
  refine LW (σ:=σ) v (by lia) λc r' hr v'=> ?_
  subst hr
  exact hk _ e m rfl (Nat.le_refl _) (λq=>absurd q (by lia)) v' (by show 0<σ.off+1;lia)
noncomputable def CX:X:=(X.and (X.cmp 1 (X.loc 160) (X.att (X.loc 292) 131)) (X.cmp 0 (X.cmp 8 (X.sub (X.att (X.loc 292) 129) (X.loc 160)) (X.loc 124)) (X.loc 225)))
noncomputable def CY:S:=(S.seq (S.augN 160 0 (X.k (.int (1)))) S.skip)
noncomputable def Hk:S:=S.seq (S.iff (X.not (X.meth (X.loc 292) 261 X.nil [])) (S.seq S.brk S.skip) S.skip) S.skip
noncomputable def CU:S:=S.seq (S.ex (X.meth (X.loc 269) 0 (X.cons (X.slc (X.att (X.loc 292) 129) (X.att (X.loc 292) 130) (X.k .non)) X.nil) [])) Hk
noncomputable def Hi:S:=(S.seq (S.ex (X.meth (X.loc 269) 0 (X.cons (X.slc (X.att (X.loc 292) 129) (X.att (X.loc 292) 130) (X.loc 160)) X.nil) [])) (S.seq (S.asgA (X.loc 292) 130 (X.loc 160)) (S.seq S.brk S.skip)))
noncomputable def CV:S:=(S.seq (S.iff (X.cmp 0 (X.loc 160) (X.att (X.loc 292) 130)) (S.seq (S.iff (X.cmp 1 (X.att (X.loc 292) 130) (X.att (X.loc 292) 131)) (S.seq S.brk S.skip) S.skip) S.skip) (S.seq (S.iff (X.cmp 1 (X.loc 160) (X.att (X.loc 292) 131)) Hi S.skip) S.skip)) CU)
noncomputable def yY:S:=(S.seq (S.asgN 160 (X.att (X.loc 292) 130)) (S.seq (S.wh 107 CX CY) CV))
noncomputable def Hn:S:=(S.seq (S.asgN 248 (X.meth (X.k (.str [])) 2 (X.cons (X.loc 269) X.nil) [])) (S.seq (S.ret (X.loc 248)) S.skip))
noncomputable def bz:S:=(S.seq (S.asgN 269 (X.lst X.nil)) (S.seq (S.wh 105 (X.k (.bol true)) yY) Hn))
noncomputable abbrev L1(v:FV)(op:Bool)(j:Int):List (Nat×V):=[(292,.ob 2),(124,.c v),(225,.c (.bol op)),(269,.ob 64),(160,.c (.int j))]
noncomputable def Ea(v:FV)(p:Nat->Bool):Prop:=∀(c:Nat) (k:Bool->Prop),k (p c)->cI.mem (.str [c]) v k
noncomputable def fz(x y:Bool):Bool:=Bool.rec (!y) y x
theorem Hm{P:St->Prop}{K:Fl->St->Prop}{σ:Sm}{v:FV}{op:Bool}{p:Nat->Bool}{H:List (Nat×AO)}{m:Nat}(hp:Ea v p)(hH:lk 2 H=some (.inst 159 (sd σ)))(hsz:σ.size=σ.chunk.length)
  (hP:∀s,wt g3 CX CY K P s->P s) (n:Nat):∀(e:Nat),e+n=σ.chunk.length->
  K .nxt ⟨L1 v op ((e+((σ.chunk.drop e).takeWhile λc=>fz (p c) op).length:Nat):Int),H,m,false⟩->P ⟨L1 v op (e:Nat),H,m,false⟩:=by
 induction n with
 |zero=>
  intro e he hk
  have e0:σ.chunk.drop e=[]:=List.drop_eq_nil_of_le (by lia)
  have e1:(!decide ((e:Int)=σ.size))=false:=by rw [decide_eq_true (by lia)];rfl
  rw [e0] at hk
  refine hP _ ?_
  conv=>whnf
  refine bF hH rfl rfl ?_
  conv=>whnf
  refine fu e1 ?_
  refine fu e1 ?_
  exact hk
 |succ n ih=>
  intro e he hk
  have hlt:e<σ.chunk.length:=by lia
  have e0:σ.chunk.drop e=σ.chunk[e]::σ.chunk.drop (e+1):=List.drop_eq_getElem_cons hlt
  have e1:(!decide ((e:Int)=σ.size))=true:=by rw [decide_eq_false (by lia)];rfl
  rw [e0] at hk
  refine hP _ ?_
  conv=>whnf
  refine bF hH rfl rfl ?_
  conv=>whnf
  refine bV e1 ?_
  conv=>whnf
  refine bF hH rfl rfl ?_
  conv=>whnf
  refine aa (o:=d7 σ.chunk (e:Int)) ((hU _ _).trans (List.getElem?_eq_getElem hlt)) ?_
  conv=>whnf
  refine hp _ _ ?_
  conv=>whnf
  refine du (λh=> ?_) λh=> ?_
  ·have h:fz (p σ.chunk[e]) op=true:=h
   refine ih (e+1) (by lia) ?_
   rw [List.takeWhile_cons_of_pos (p:=λc=>fz (p c) op) h,List.length_cons, ←Nat.add_assoc,Nat.add_right_comm] at hk
   exact hk
  ·have h:fz (p σ.chunk[e]) op=false:=h
   rw [List.takeWhile_cons_of_neg (p:=λc=>fz (p c) op) (by rw [h];decide)] at hk
   exact hk
noncomputable abbrev tw(p:Nat->Bool)(op:Bool)(r:List Nat):List Nat:=r.takeWhile λc=>fz (p c) op
noncomputable abbrev dw(p:Nat->Bool)(op:Bool)(r:List Nat):List Nat:=r.dropWhile λc=>fz (p c) op
noncomputable def HH(b:Bool)(acc:List (List Nat))(σ:Sm)(t:Tm):List (Nat×AO):=match b with
 |true=>(64,.lst (acc.map .str))::Hp σ t
 |false=>Hp σ t++[(64,.lst (acc.map .str))]
theorem AR{q:Nat->Bool}{x y:List Nat}(h:(x.takeWhile q).length=x.length):(x++y).takeWhile q=x++y.takeWhile q∧(x++y).dropWhile q=y.dropWhile q:=by
 induction x with
 |nil=>exact⟨rfl,rfl⟩
 |cons a x ih=>
  cases hq:q a with
  |true=>
   rw [List.takeWhile_cons_of_pos hq] at h
   rw [List.cons_append,List.takeWhile_cons_of_pos hq,List.dropWhile_cons_of_pos hq,List.cons_append]
   have:=ih (by simpa using h)
   exact⟨by rw [this.1],this.2⟩
  |false=>
   rw [List.takeWhile_cons_of_neg (by rw [hq];decide)] at h
   cases h
theorem wT{q:Nat->Bool}{x y:List Nat}(h:(x.takeWhile q).length<x.length):(x++y).takeWhile q=x.take (x.takeWhile q).length∧(x++y).dropWhile q=x.drop (x.takeWhile q).length++y:=by
 induction x with
 |nil=>simp at h
 |cons a x ih=>
  cases hq:q a with
  |true=>
   rw [List.takeWhile_cons_of_pos hq] at h⊢
   rw [List.cons_append,List.takeWhile_cons_of_pos hq,List.dropWhile_cons_of_pos hq,List.length_cons,List.take_succ_cons,List.drop_succ_cons]
   have:=ih (by simpa using h)
   exact⟨by rw [this.1],this.2⟩
  |false=>
   rw [List.takeWhile_cons_of_neg (by rw [hq];decide),List.cons_append,List.takeWhile_cons_of_neg (by rw [hq];decide),List.dropWhile_cons_of_neg (by rw [hq];decide)]
   exact⟨rfl,rfl⟩
theorem xl(l:List Nat){a:Nat}(h:a≤l.length):slice l (some (a:Int)) none=l.drop a:=by
 show(l.take l.length).drop (bnd l.length a)=_
 rw [gc,List.take_length,Nat.min_eq_left h]
theorem tU(l:List Nat){a b:Nat}(h:a≤l.length)(h2:a+b≤l.length):slice l (some (a:Int)) (some ((a+b:Nat):Int))=(l.drop a).take b:=by
 show(l.take (bnd l.length ((a+b:Nat):Int))).drop (bnd l.length a)=_
 rw [gc,gc,Nat.min_eq_left h,Nat.min_eq_left h2,List.drop_take,Nat.add_sub_cancel_left]
theorem Ce(acc:List (List Nat))(x:List Nat):acc.map FV.str++[FV.str x]=(acc++[x]).map .str:=by rw [List.map_append];rfl
section
variable (b:Bool) (acc:List (List Nat)) (σ:Sm) (t:Tm)
theorem tj:lk 2 (HH b acc σ t)=some (.inst 159 (sd σ)):=by cases b<;>rfl
theorem Gn:lk 64 (HH b acc σ t)=some (.lst (acc.map .str)):=by
 obtain⟨_,_,_|_,_⟩:=t<;>cases b<;>rfl
theorem Gk(x:List Nat):put 64 (.lst (acc.map .str++[.str x])) (HH b acc σ t)=HH b (acc++[x]) σ t:=by
 rw [Ce];obtain⟨_,_,_|_,_⟩:=t<;>cases b<;>rfl
theorem Gl(o:Int):put 2 (.inst 159 (sd {σ with off:=o})) (HH b acc σ t)=HH b acc {σ with off:=o} t:=by
 obtain⟨_,_,_|_,_⟩:=t<;>cases b<;>rfl
theorem Gm:lo (HH b acc σ t)=Hp σ t:=by
 obtain⟨_,_,_|_,_⟩:=t<;>cases b<;>rfl
theorem Kh:hi (HH b acc σ t)=[(64,.lst (acc.map .str))]:=by
 obtain⟨_,_,_|_,_⟩:=t<;>cases b<;>rfl
end
section
variable {g:G} {s:St} {F:V->St->Prop}
theorem JR{i n:Nat}{l:List FV}(h:lk i s.H=some (.lst l))(h2:Nat.ble n 1=true):iY g (.ob i) n [] s=some (.lst i):=by
 show az (lk i s.H) _=_
 rw [h]
 show(Bool.rec none (some (.lst i)) (Nat.ble n 1):Option M)=_
 rw [h2]
theorem BP{i n C f:Nat}{d:List (Nat×V)}{kw:List Nat}(h:lk i s.H=some (.inst C d))(h1:lk n d=none)(h2:g.cls C n=some f):iY g (.ob i) n kw s=some (.fn f (.ob i)):=by
 show az (lk i s.H) _=_
 rw [h]
 show uG g i n C d=_
 unfold uG
 rw [h1,h2];rfl
theorem GX{o x:X}{i:Nat}{f:FV}{l:List FV}(ho:Ev g o s (.ob i))(hx:Ev g x s (.c f))(h:lk i s.H=some (.lst l))(hl:l.length+1≤16777216)(hk:F (.c .non) (aR s (put i (.lst (l++[f])) s.H))):ev g (.meth o 0 (.cons x .nil) []) s (one F):=
by
 refine ho _ ?_
 refine aa (JR h rfl) ?_
 refine hx _ ?_
 refine aa (o:=gj (lk i s.H)) (congrArg gj h) ?_
 exact aa (o:=gj (lk i s.H)) (congrArg gj h) ⟨hl,hk⟩
end
variable {K:Fl->St->Prop} {v:FV} {op:Bool} {j:Int} {b:Bool} {acc:List (List Nat)} {σ:Sm} {t:Tm}
theorem Aw{x:X}{y:List Nat}{B:S}(hx:Ev g3 x ⟨L1 v op j,HH b acc σ t,65,false⟩ (.c (.str y)))(ha:acc.length≤20000)(hk:ex g3 B ⟨L1 v op j,HH b (acc++[y]) σ t,65,false⟩ K):
  ex g3 (.seq (.ex (.meth (.loc 269) 0 (.cons x .nil) [])) B) ⟨L1 v op j,HH b acc σ t,65,false⟩ K:=by
 rw [←Gk] at hk
 exact kU (GX (.loc rfl) hx (Gn ..) (by rw [List.length_map];lia) hk)
theorem Hh(ha:acc.length≤20000)(hk:K .brk ⟨L1 v op j,HH b (acc++[slice σ.chunk (some σ.off) (some j)]) {σ with off:=j} t,65,false⟩):ex g3 Hi ⟨L1 v op j,HH b acc σ t,65,false⟩ K:=by
 refine Aw (y:=slice σ.chunk (some σ.off) (some j)) (λF hF=> ?_) ha ?_
 ·conv=>whnf
  refine bF (tj ..) rfl rfl ?_
  conv=>whnf
  refine bF (tj ..) rfl rfl ?_
  exact hF
 ·rw [←Gl] at hk
  refine ou ?_
  conv=>whnf
  refine Ih (i:=2) (g:=g3) (n:=130) (C:=159) rfl (tj ..) rfl ?_
  exact hk
theorem Hj{d r:List Nat}{e m:Nat}(hv:aB σ d r e m)
  (h1:wK (10240:Nat) σ=false->K .brk ⟨L1 v op j,HH false acc (mS (10240:Nat) σ) t,65,false⟩)
  (h2:wK (10240:Nat) σ=true->K .nxt ⟨L1 v op j,HH false acc (mS (10240:Nat) σ) t,65,false⟩):ex g3 Hk ⟨L1 v op j,HH b acc σ t,65,false⟩ K:=by
 obtain⟨ro,_⟩:=jb (n:=10240) (by decide) hv
 conv=>whnf
 refine aa (BP (tj ..) rfl rfl) ?_
 refine eA σ t rfl rfl (Gm ..) ⟨σ,t,10240,.inr ⟨rfl,rfl⟩,rfl,rfl,ro, ?_⟩
 rw [Kh]
 exact du (λq=>h1 (qE q)) λq=>h2 (qF q)
theorem Hl{d r:List Nat}{e m:Nat}(hv:aB σ d r e m)(ha:acc.length≤20000)
  (h1:wK (10240:Nat) σ=false->K .brk ⟨L1 v op j,HH false (acc++[σ.chunk.drop σ.off.toNat]) (mS (10240:Nat) σ) t,65,false⟩)
  (h2:wK (10240:Nat) σ=true->K .nxt ⟨L1 v op j,HH false (acc++[σ.chunk.drop σ.off.toNat]) (mS (10240:Nat) σ) t,65,false⟩):ex g3 CU ⟨L1 v op j,HH b acc σ t,65,false⟩ K:=by
 have hb:=hv.off_nn
 have hs:slice σ.chunk (some σ.off) none=σ.chunk.drop σ.off.toNat:=by
  rw [show σ.off=(σ.off.toNat:Int) by lia];exact xl _ (by lia)
 refine Aw (λF hF=> ?_) ha (Hj hv h1 h2)
 rw [←hs] at hF
 conv=>whnf
 refine bF (tj ..) rfl rfl ?_
 conv=>whnf
 refine bF (tj ..) rfl rfl ?_
 exact hF
theorem C9{L:List (Nat×V)}{F:V->St->Prop}(h:lk 292 L=some (.ob 2))(hF:F (.c (.int σ.off)) ⟨L,HH b acc σ t,65,false⟩):ev g3 (.att (.loc 292) 130) ⟨L,HH b acc σ t,65,false⟩ (one F):=by
 refine aa (o:=lk 292 L) h ?_
 refine bF (tj ..) rfl rfl ?_
 exact hF
theorem CW{P:St->Prop}{p:Nat->Bool}(hp:Ea v p)
  (hP:∀s,wt g3 (X.k (.bol true)) yY K P s->P s) (n:Nat):∀(σ:Sm) (d r:List Nat) (e m:Nat) (acc:List (List Nat)) (L:List (Nat×V)) (b:Bool),(if σ.off=σ.size then r.length+1 else r.length)≤n->acc.length+n≤20000->
  aB σ d r e m->lk 292 L=some (.ob 2)->(∀j,put 160 (.c (.int j)) L=L1 v op j)->
  (∀Z' e' m' acc' j b',e'+m'=e+m->m'≤m->aB Z' (d++tw p op r) (dw p op r) e' m'->acc'.flatten=acc.flatten++tw p op r->acc'.length≤20000->K .nxt ⟨L1 v op j,HH b' acc' Z' t,65,false⟩)->
  P ⟨L,HH b acc σ t,65,false⟩:=by
 induction n with
 |zero=>
  intro σ d r e m acc L b hn ha hv hL hLp hk
  exfalso
  have hb:=hv.off_nn
  by_cases q:σ.off=σ.size
  ·rw [if_pos q] at hn;lia
  ·rw [if_neg q] at hn
   obtain⟨c,r',rfl,_⟩:=hv.char (by lia)
   simp at hn
 |succ n ih=>
  intro σ d r e m acc L b hn ha hv hL hLp hk
  have hb:=hv.off_nn
  have he:σ.off=(σ.off.toNat:Int):=by lia
  have hol:σ.off.toNat≤σ.chunk.length:=by lia
  have hxl:(σ.chunk.drop σ.off.toNat).length=σ.chunk.length-σ.off.toNat:=List.length_drop
  obtain⟨ro,y,e1,m1,hr,he1,hm1,_,v1,ho1,hf1,ht1⟩:=jb (n:=10240) (by decide) hv
  have htl:((σ.chunk.drop σ.off.toNat).takeWhile λc=>fz (p c) op).length≤(σ.chunk.drop σ.off.toNat).length:=(List.takeWhile_prefix _).length_le
  have go:∀(j:Int),((σ.chunk.drop σ.off.toNat).takeWhile λc=>fz (p c) op).length=(σ.chunk.drop σ.off.toNat).length->ex g3 CU ⟨L1 v op j,HH b acc σ t,65,false⟩ (wo P K):=by
   intro j hq
   obtain⟨t1,t2⟩:=AR (y:=y) hq
   rw [←hr] at t1 t2
   refine Hl hv (by lia) (λq=> ?_) λq=> ?_
   ·obtain⟨rfl,_⟩:=hf1 q
    refine hk _ e1 m1 _ _ _ he1 hm1 ?_ ?_ (by rw [List.length_append];simp;lia)
    ·unfold tw dw;rw [t1,t2];simpa using v1
    ·unfold tw;rw [t1];simp
   ·have hc:=List.length_pos_iff.mpr (ht1 q)
    have hb':=v1.off_nn
    refine ih _ _ _ _ _ _ _ _ ?_ (by rw [List.length_append];simp;lia) v1 rfl (λ_=>rfl) ?_
    ·rw [if_neg (by lia)]
     rw [hr,List.length_append,hxl] at hn
     split at hn
     ·lia
     ·lia
    ·intro Z' e' m' acc' j b' a1 a2 a3 a4 a5
     refine hk Z' e' m' acc' j b' (by lia) (by lia) ?_ ?_ a5
     ·unfold tw dw at a3⊢;rw [t1,t2, ←List.append_assoc];exact a3
     ·unfold tw at a4⊢;rw [t1,a4];simp
  have stop:((σ.chunk.drop σ.off.toNat).takeWhile λc=>fz (p c) op).length<(σ.chunk.drop σ.off.toNat).length->aB {σ with off:=((σ.off.toNat+((σ.chunk.drop σ.off.toNat).takeWhile λc=>fz (p c) op).length:Nat):Int)} (d++tw p op r) (dw p op r) e m∧tw p op r=(σ.chunk.drop σ.off.toNat).take ((σ.chunk.drop σ.off.toNat).takeWhile λc=>fz (p c) op).length:=by
   intro hq
   obtain⟨t1,t2⟩:=wT (y:=y) hq
   obtain⟨p1,p2⟩:=hv.pass ((σ.chunk.drop σ.off.toNat).takeWhile λc=>fz (p c) op).length (by lia)
   rw [←hr] at t1 t2
   have t3:dw p op r=r.drop ((σ.chunk.drop σ.off.toNat).takeWhile λc=>fz (p c) op).length:=by
    unfold dw;rw [t2,hr,List.drop_append_of_le_length htl]
   refine⟨?_,t1⟩
   rw [t3];unfold tw;rw [t1]
   have:((σ.off.toNat+((σ.chunk.drop σ.off.toNat).takeWhile λc=>fz (p c) op).length:Nat):Int)=σ.off+(((σ.chunk.drop σ.off.toNat).takeWhile λc=>fz (p c) op).length:Nat):=by lia
   rw [this];exact p1
  have inn:=λ(P':St->Prop)=>Hm (P:=P') (K:=sq g3 CV (wo P K)) (σ:=σ) (v:=v) (op:=op) (p:=p) (m:=65) hp (tj b acc σ t) (by lia)
  generalize hkk:((σ.chunk.drop σ.off.toNat).takeWhile λc=>fz (p c) op).length=kk at*
  refine hP _ ?_
  show ex g3 yY ⟨L,HH b acc σ t,65,false⟩ (wo P K)
  refine bE (C9 hL ?_)
  show ex g3 (.seq (.wh 107 CX CY) CV) ⟨put 160 (.c (.int σ.off)) L,HH b acc σ t,65,false⟩ (wo P K)
  rw [hLp,he]
  refine Bc λP hP=>inn P hP (σ.chunk.length-σ.off.toNat) σ.off.toNat (by lia) ?_
  rw [hkk]
  conv=>whnf
  refine bF (tj ..) rfl rfl ?_
  conv=>whnf
  refine du (λh=> ?_) λh=> ?_
  ·have h:((σ.off.toNat+kk:Nat):Int)=σ.off:=of_decide_eq_true h
   conv=>whnf
   refine bF (tj ..) rfl rfl ?_
   conv=>whnf
   refine bF (tj ..) rfl rfl ?_
   conv=>whnf
   refine du (λh2=> ?_) λh2=> ?_
   ·have h2:σ.off≠σ.size:=of_decide_eq_false (qE h2)
    have k0:kk=0:=by lia
    obtain⟨s1,s2⟩:=stop (by lia)
    rw [k0,List.take_zero] at s2
    rw [h] at s1
    conv=>whnf
    exact hk σ e m acc ((σ.off.toNat+kk:Nat):Int) b rfl (Nat.le_refl _) s1 (by rw [s2,List.append_nil]) (by lia)
   ·have h2:σ.off=σ.size:=of_decide_eq_true (qF h2)
    refine go ((σ.off.toNat+kk:Nat):Int) (by lia)
  ·have h:¬((σ.off.toNat+kk:Nat):Int)=σ.off:=of_decide_eq_false h
   conv=>whnf
   refine bF (tj ..) rfl rfl ?_
   conv=>whnf
   refine du (λh2=> ?_) λh2=> ?_
   ·have h2:((σ.off.toNat+kk:Nat):Int)≠σ.size:=of_decide_eq_false (qE h2)
    obtain⟨s1,s2⟩:=stop (by lia)
    have hs:slice σ.chunk (some σ.off) (some ((σ.off.toNat+kk:Nat):Int))=(σ.chunk.drop σ.off.toNat).take kk:=by
     have:=tU σ.chunk (a:=σ.off.toNat) (b:=kk) hol (by lia)
     rw [←he] at this;exact this
    have fin:=hk {σ with off:=((σ.off.toNat+kk:Nat):Int)} e m (acc++[(σ.chunk.drop σ.off.toNat).take kk]) ((σ.off.toNat+kk:Nat):Int) b rfl (Nat.le_refl _) s1 (by rw [s2];simp) (by rw [List.length_append];simp;lia)
    rw [←hs] at fin
    exact Hh (σ:=σ) (by lia) fin
   ·have h2:((σ.off.toNat+kk:Nat):Int)=σ.size:=of_decide_eq_true (qF h2)
    refine go ((σ.off.toNat+kk:Nat):Int) (by lia)
theorem sk:∀acc:List (List Nat),dK [] (acc.map .str)=some acc.flatten:=by
 intro acc
 induction acc with
 |nil=>
  exact rfl
 |cons x acc ih=>
  have ih:=ih
  show(Option.rec none (λr=>some (List.rec (motive:=λ_=>List Nat) x (λ_ _ _=>x++[]++r) (acc.map FV.str))) (dK [] (acc.map .str)):Option (List Nat))=_
  rw [ih]
  cases acc with
  |nil=>show some x=some [x].flatten;simp
  |cons y acc=>show some (x++[]++(y::acc).flatten)=_;rw [List.append_nil, ←List.flatten_cons]
noncomputable def eK:aK:=λxs kws H k=>∃σ t d r e m v op p,(xs=[.ob 2,.c v,.c (.bol op)]∨xs=[.ob 2,.c v]∧op=false)∧kws=[]∧H=Hp σ t∧Ea v p∧aB σ d r e m∧
 ∀Z' e' m',e'+m'=e+m->m'≤m->aB Z' (d++tw p op r) (dw p op r) e' m'->k (.c (.str (tw p op r))) (Hp Z' t)
theorem Ax{H:List (Nat×AO)}{i:Nat}{l:List FV}(h:lk i H=some (.lst l)):sS H [.ob i]=some [.lst l]:=by
 show az (az (lk i H) _) _=_
 rw [h];rfl
theorem lQ(xs kws H k)(h:eK xs kws H k):ai (hY [292,124,225] (.bol false) xs kws) λL0=>ex g3 bz ⟨L0,H,64,false⟩ (fin k):=by
 obtain⟨σ,t,d,r,e,m,v,op,p,hx,rfl,rfl,hp,hv,hk⟩:=h
 have hx:hY [292,124,225] (.bol false) xs []=some [(292,.ob 2),(124,.c v),(225,.c (.bol op))]:=by
  rcases hx with rfl|⟨rfl,rfl⟩<;>rfl
 have hbd:=hv.bound
 refine aa hx ?_
 refine bE (gX (ay (aa rfl (bV rfl (sb ?_)))))
 show ex g3 (.seq (.wh 105 (.k (.bol true)) yY) Hn) ⟨[(292,.ob 2),(124,.c v),(225,.c (.bol op)),(269,.ob 64)],HH true [] σ t,65,false⟩ (fin k)
 refine Bc λP hP=> ?_
 refine CW (t:=t) hp hP (r.length+1) σ d r e m [] _ true (by split<;>lia) (by simp;lia) hv rfl (λ_=>rfl) λZ' e' m' acc' j b' h1 h2 h3 h4 h5=> ?_
 have hf:acc'.flatten=tw p op r:=h4
 have hlen:(tw p op r).length≤r.length:=(List.takeWhile_prefix _).length_le
 conv=>whnf
 refine aa (Ax (Gn ..)) ?_
 conv=>whnf
 refine aa (sk acc') ?_
 conv=>whnf
 refine⟨by rw [hf,List.length_map];simp only [List.length_nil,Nat.mul_zero,Nat.add_zero];lia, ?_⟩
 rw [hf]
 exact nv Z' t (Gm ..) (hk Z' e' m' h1 h2 h3)
noncomputable def cq:S:=(S.seq (S.asgA (X.loc 292) 305 (X.new 159 (X.cons (X.loc 305) X.nil))) (S.seq (S.asgA (X.loc 292) 232 (X.loc 232)) (S.seq (S.asgA (X.loc 292) 170 (X.k (.bol false))) (S.seq (S.asgA (X.loc 292) 194 (X.lst X.nil)) (S.seq (S.asgA (X.loc 292) 302 (X.att (X.loc 292) 146)) (S.seq (S.asgA (X.loc 292) 169 (X.k (.bol false))) (S.seq (S.asgA (X.loc 292) 144 (X.k .non)) S.skip)))))))
noncomputable def jo:aK:=λxs kws H k=>∃raw,xs=[.ob 1,.c (.str raw)]∧kws=[]∧H=[S1]∧k (.c .non) (Hp (HY raw) ⟨297,.non,none,none⟩)
theorem pi(xs kws H k)(h:jo xs kws H k):ai (hY [292,305,232] .non xs kws) λL0=>ex g3 cq ⟨L0,H,64,false⟩ (fin k):=by
 obtain⟨raw,rfl,rfl,rfl,hk⟩:=h
 refine aa rfl ?_
 repeat walk_at "ae"
 conv=>whnf
 exact⟨raw,rfl,rfl,rfl,hk⟩
end Mine.A
namespace Mine.A
open Mine.B
section
variable {g:G} {s:St} {F:V->St->Prop} {k:Bool->Prop}
theorem IS{a b:Nat}(h:k (decide (a=b))):cI 0 (.c (.str [a])) (.c (.str [b])) s k:=by
 have e:j1 [a] [b]=decide (a=b):=by rw [cv];simp
 have h:k (j1 [a] [b]):=by rw [e];exact h
 exact h
theorem IP{b:List Nat}(h:k false):cI 0 (.c .non) (.c (.str b)) s k:=h
theorem IO{b:List Nat}(h:k false):cI 0 (.c (.str b)) (.c .non) s k:=h
theorem IN(h:k true):cI 0 (.c .non) (.c .non) s k:=h
noncomputable def MK(f:FV):Nat:=Option.rec 0 (λc=>c) (aCh f)
noncomputable def rt(l:List FV):List Nat:=l.map MK
noncomputable def vi(f:FV):Bool:=Mine.A.ob (aCh f) λ_=>true
theorem HX{f:FV}{c:Nat}(h:aCh f=some c):f=.str [c]:=by
 obtain⟨s,e,h⟩:=aw (f:=λs=>o1 s) h
 exact(s8 e).trans (congrArg FV.str (rY h))
theorem qK(c:Nat){l:List FV}(h:l.all vi=true):jB (.str [c]) l=some (decide (c∈rt l)):=by
 induction l with
 |nil=>rfl
 |cons f l ih=>
  obtain⟨h1,h2⟩:=bg h
  obtain⟨x,e,_⟩:=fe h1
  obtain rfl:=HX e
  show ed (jB (.str [c]) l) (λq=>Bool.rec q true (j1 [x] [c]))=some (decide (c∈x::rt l))
  rw [ih h2,cv]
  by_cases q:c=x
  ·rw [decide_eq_true (congrArg (λc=>[c]) q.symm),decide_eq_true (show c∈x::rt l by rw [q];exact .head _)];rfl
  ·rw [decide_eq_false (λe=>q (List.cons.inj e).1.symm)]
   show some (decide (c∈rt l))=_
   rw [decide_eq_decide.mpr (show c∈x::rt l↔c∈rt l from⟨λh=>(List.mem_cons.mp h).resolve_left q,.tail _⟩)]
theorem w4{l:List FV}{c:Nat}(e:l.all vi=true)(h:k (decide (c∈rt l))):cI 8 (.c (.str [c])) (.c (.tup l)) s k:=by
 have h':ai (jB (.str [c]) l) k:=aa (qK c e) h
 exact h'
theorem AW{l:List FV}{b:Bool}(e:jB .non l=some b)(h:k b):cI 8 (.c .non) (.c (.tup l)) s k:=by
 have h':ai (jB .non l) k:=aa e h
 exact h'
theorem pW{l:List FV}(e:l.all vi=true):Ea (.tup l) λc=>decide (c∈rt l):=λc _ h=>aa (qK c e) h
theorem wU(b:List Nat):Ea (.str b) λc=>decide (c∈b):=λ_ _ h=>h
theorem qN{i:Nat}{l0 l:List FV}{v:V}{f:FV}{H':List (Nat×AO)}(h1:lk i s.H=some (.lst l0))(h2:frz s.H v=some (f,H'))(h3:lk i H'=some (.lst l))(h4:Nat.ble (l.length+1) 16777216=true)(h:F (.c .non) (aR s (put i (.lst (l++[f])) H'))):gZ g (.lst i) 0 [v] [] s F:=by
 exact aa (o:=gj (lk i s.H)) (congrArg gj h1) (aa h2 (aa (o:=gj (lk i H')) (congrArg gj h3) ⟨Nat.le_of_ble_eq_true h4,h⟩))
theorem J6{a b:List Nat}(h1:a.length+b.length≤16777216)(h:F (.c (.str (a++b))) s):oR 0 (.c (.str a)) (.c (.str b)) s F:=⟨h1,h⟩
theorem K1{p q:List FV}(h1:Bool.and (cg p) (cg q)=true)(h2:Nat.ble (p.length+q.length) 16777216=true)(h:F (.c (.tup (p++q))) s):j8 0 (.c (.tup p)) (.c (.tup q)) s F:=⟨⟨h1,Nat.le_of_ble_eq_true h2⟩,h⟩
noncomputable abbrev dP:List Nat:=[97,98,99,100,101,102,103,104,105,106,107,108,109,110,111,112,113,114,115,116,117,118,119,120,121,122,65,66,67,68,69,70,71,72,73,74,75,76,77,78,79,80,81,82,83,84,85,86,87,88,89,90]
theorem Ls{op:Nat}{a:V}{G:Bool->St->Prop}(h:cI op a a6 s λv=>G v s):nG g op a a6 s G:=h
theorem EC{c:Nat}(h:k (decide (c∈dP))):cI 8 (.c (.str [c])) a6 s k:=w4 (l:=dP.map λx=>.str [x]) rfl h
theorem EA(h:k false):cI 8 (.c .non) a6 s k:=AW (l:=dP.map λx=>.str [x]) rfl h
noncomputable def Em:List (List Nat×FV):=match ap with| .c (.dct l)=>l|_=>[]
theorem nZ{a:List Nat}{i:Int}(e:tW a Em=some (.int i))(h:F (.c (.int i)) s):oe ap (.c (.str a)) s F:=by
 have h':ai (tW a Em) λr=>F (.c r) s:=aa e h
 exact h'
end
noncomputable def cF:List (Nat×aK):=(126,kW)::(149,eK)::(254,jo)::wZ
noncomputable def g4:G:=b7 cF
structure aD where
 cont:Bool
 st:Nat
 tb:Option (List Nat)
 q:List FV
 x:List Nat
 r:List Nat
noncomputable abbrev oK:List Nat:=[116,121,112,101]
noncomputable abbrev oM:List Nat:=[100,97,116,97]
noncomputable def j0(i:Int)(s:List Nat):FV:=.dct [(oK,.int i),(oM,.str s)]
noncomputable abbrev bp(s:List Nat):FV:=j0 1 s
noncomputable abbrev IH(s:List Nat):FV:=j0 2 s
noncomputable abbrev iF:FV:=j0 7 [105,110,118,97,108,105,100,45,99,111,100,101,112,111,105,110,116]
noncomputable abbrev iW:List Nat:=[9,10,12,32,13]
noncomputable abbrev jf:List Nat:=[9,10,12,32,13,47,62]
noncomputable abbrev cU(l:List Nat)(r:List Nat):List Nat:=tw (λc=>decide (c∈l)) false r
noncomputable abbrev kD(l:List Nat)(r:List Nat):List Nat:=dw (λc=>decide (c∈l)) false r
noncomputable abbrev ig(l:List Nat)(r:List Nat):List Nat:=tw (λc=>decide (c∈l)) true r
noncomputable abbrev ul(l:List Nat)(r:List Nat):List Nat:=dw (λc=>decide (c∈l)) true r
noncomputable def fD(fa:Nat)(pf:Option (List Nat)->List Nat->aD)(cond:FV->Option (List Nat)->List Nat->Prop):aK:=λxs kws H k=>∃σ ct tb d r e m,xs=[.ob 1]∧kws=[]∧H=Hp σ ⟨fa,ct,some [],tb⟩∧aB σ d r e m∧cond ct tb r∧
 ∀Z' e' m',e'+m'=e+m->m'≤m->(σ.off=σ.size->m'=0)->aB Z' (d++(pf tb r).x) (pf tb r).r e' m'->k (.c (.bol (pf tb r).cont)) (Hp Z' ⟨(pf tb r).st,ct,some (pf tb r).q,(pf tb r).tb⟩)
noncomputable abbrev vM:FV:=.dct [(oK,.int 3),([110,97,109,101],.str [101,109]),(oM,.lst [])]
noncomputable def iB(ct:FV)(tb:Option (List Nat))(r:List Nat):Prop:=∃b,tb=some b∧b.length≤20000∧b.all (λc=>Nat.blt c 128)=true∧(ct=.non∨ct=vM∧(fS b=[101,109]->∀c r',r=c::r'->c∉jf))
noncomputable def wO(_:FV)(tb:Option (List Nat))(_:List Nat):Prop:=∃b,tb=some b∧b.length≤20000
noncomputable def c0(_:FV)(_:Option (List Nat))(_:List Nat):Prop:=True
theorem dt(p:Nat×AO)(H:List (Nat×AO)):lo (p::H)=if p.1<64 then p::lo H else lo H:=by
 show(Bool.rec (lo H) (p::lo H) (Nat.blt p.1 64):List (Nat×AO))=_
 cases e:Nat.blt p.1 64 with
 |true=>rw [if_pos (dN e)]
 |false=>rw [if_neg (λh=>by have:Nat.blt p.1 64=true:=Nat.ble_eq_true_of_le h;rw [e] at this;cases this)]
theorem Gj(p:Nat×AO)(H:List (Nat×AO)):hi (p::H)=if p.1<64 then hi H else p::hi H:=by
 show(Bool.rec (p::hi H) (hi H) (Nat.blt p.1 64):List (Nat×AO))=_
 cases e:Nat.blt p.1 64 with
 |true=>rw [if_pos (dN e)]
 |false=>rw [if_neg (λh=>by have:Nat.blt p.1 64=true:=Nat.ble_eq_true_of_le h;rw [e] at this;cases this)]
theorem mV{α:Type}(n:Nat)(v:α)(p:Nat×α)(l:List (Nat×α)):put n v (p::l)=if n=p.1 then(n,v)::l else p::put n v l:=by
 show(Bool.rec (p::put n v l) ((n,v)::l) (Nat.beq n p.1):List (Nat×α))=_
 cases e:Nat.beq n p.1 with
 |true=>rw [if_pos (Nat.eq_of_beq_eq_true e)]
 |false=>rw [if_neg (Nat.ne_of_beq_eq_false e)]
theorem lj{i:Nat}(hi':i<64)(x:AO):∀H:List (Nat×AO),lo (put i x H)=put i x (lo H):=by
 intro H
 induction H with
 |nil=>
  show lo [(i,x)]=[(i,x)];rw [dt,if_pos hi'];rfl
 |cons p H ih=>
  rw [mV]
  split
  ·rename_i e
   rw [dt,if_pos hi',dt,if_pos (by rw [←e];exact hi'),mV,if_pos e]
  ·rename_i e
   rw [dt,dt,ih]
   split
   ·rw [mV,if_neg e]
   ·rfl
theorem cV{i:Nat}(hi':¬i<64)(x:AO):∀H:List (Nat×AO),lo (put i x H)=lo H:=by
 intro H
 induction H with
 |nil=>
  show lo [(i,x)]=[];rw [dt,if_neg hi'];rfl
 |cons p H ih=>
  rw [mV]
  split
  ·rename_i e
   rw [dt,if_neg hi',dt,if_neg (by rw [←e];exact hi')]
  ·rw [dt,dt,ih]
theorem jF(H H':List (Nat×AO)):lo (H++H')=lo H++lo H':=by
 induction H with
 |nil=>rfl
 |cons p H ih=>
  rw [List.cons_append,dt,dt,ih]
  split<;>rfl
theorem qR:∀H:List (Nat×AO),lo (hi H)=[]:=by
 intro H
 induction H with
 |nil=>
  exact rfl
 |cons p H ih=>
  rw [Gj]
  split
  ·exact ih
  ·rename_i h;rw [dt,if_neg h];exact ih
theorem qH{o:AO}{m:Nat}{H:List (Nat×AO)}:lk m ((m,o)::H)=some o:=(aj _ _ _).trans (if_pos rfl)
theorem xV{i m:Nat}{o:AO}{H:List (Nat×AO)}(h:i≠m):lk i ((m,o)::H)=lk i H:=(aj _ _ _).trans (if_neg h)
noncomputable def LF(l L:List (Nat×V)):Prop:=∀n v,lk n l=some v->lk n L=some v
theorem LF.put{l L:List (Nat×V)}(h:LF l L)(n:Nat)(v:V):LF (put n v l) (put n v L):=λa w e=>by
 rw [af] at e⊢
 split
 ·rename_i q;rw [if_pos q] at e;exact e
 ·rename_i q;rw [if_neg q] at e;exact h a w e
theorem im{g:G}{s:St}{i n:Nat}{l:List FV}(h:lk i s.H=some (.lst l))(hn:Nat.ble n 1=true):iY g (.ob i) n [] s=some (.lst i):=by
 unfold iY
 dsimp only
 rw [h]
 show(Bool.rec none (some (.lst i)) (Bool.and true (Nat.ble n 1)):Option M)=_
 rw [hn];rfl
theorem vu{a c:FV}{m:Nat}{H:List (Nat×AO)}:frz ((m,.dct [(oK,.c a),(oM,.c c)])::H) (.ob m)=some (.dct [(oK,a),(oM,c)],(m,.frz (.dct [(oK,a),(oM,c)]))::H):=by
 unfold frz
 dsimp only
 rw [qH]
 show some (FV.dct [(oK,a),(oM,c)],put m (.frz (.dct [(oK,a),(oM,c)])) ((m,AO.dct [(oK,.c a),(oM,.c c)])::H))=_
 rw [mV,if_pos rfl]
structure SA (l:List (Nat×V)) (σ:Sm) (t:Tm) (s:St):Prop where
 o:lk 292 s.L=some (.ob 1)
 L:LF l s.L
 H:lo s.H=Hp σ t
 m:64≤s.m
structure CK (K:Fl->St->Prop) (k:V->List (Nat×AO)->Prop):Prop where
 n:∀s σ t,lo s.H=Hp σ t->k (.c (.bol true)) (Hp σ t)->K .nxt s
 r:∀s σ t f,lo s.H=Hp σ t->k (.c f) (Hp σ t)->K (.ret (.c f)) s
noncomputable def HW:S:=.seq (.ret (.k (.bol true))) .skip
section
variable {tab:List (Nat×aK)} {l:List (Nat×V)} {σ:Sm} {t:Tm} {k:V->List (Nat×AO)->Prop}
theorem pB:CK (sq (b7 tab) HW (fin k)) k:=
 ⟨λs σ t h hk=>ie (iI (ci (nv (L:=s.L) (m:=s.m) (vl:=s.vl) σ t h hk))),λs σ t f h hk=>LA (nv (L:=s.L) (m:=s.m) (vl:=s.vl) σ t h hk)⟩
theorem CK.skip{K:Fl->St->Prop}(h:CK K k):CK (sq (b7 tab) .skip K) k:=
 ⟨λs σ t a b=>ie (bD (h.n s σ t a b)),λs σ t f a b=>LA (h.r s σ t f a b)⟩
noncomputable def GA(tab:List (Nat×aK))(x:S)(l:List (Nat×V))(σ:Sm)(t:Tm)(k:V->List (Nat×AO)->Prop):Prop:=∀s K,SA l σ t s->CK K k->ex (b7 tab) x s K
noncomputable def Et(tab:List (Nat×aK))(e:X)(l:List (Nat×V))(σ:Sm)(t:Tm)(v:V):Prop:=∀s F,SA l σ t s->F v s->ev (b7 tab) e s (one F)
noncomputable def Ew(tab:List (Nat×aK))(e:X)(l:List (Nat×V))(σ:Sm)(t:Tm)(P:Sm->V->Prop):Prop:=∀s F,SA l σ t s->(∀s' Z' v,SA l Z' t s'->P Z' v->F v s')->ev (b7 tab) e s (one F)
theorem Et.w{e:X}{v:V}(h:Et tab e l σ t v):Ew tab e l σ t λZ' v'=>Z'=σ∧v'=v:=λs _ hs hk=>h s _ hs (hk s σ v hs ⟨rfl,rfl⟩)
theorem gJ{f:FV}:Et tab (.k f) l σ t (.c f):=λ_ _ _ h=>ci h
theorem iw{n:Nat}{v:V}(e:lk n l=some v):Et tab (.loc n) l σ t v:=λ_ _ hs h=>ad (aa (hs.L _ _ e) h)
theorem SA.h1{s:St}(h:SA l σ t s):lk 1 s.H=some (.inst 755 (td t)):=by
 have:=gw 1 s.H
 rw [h.H,if_pos (by decide)] at this;exact this.symm
theorem SA.h2{s:St}(h:SA l σ t s):lk 2 s.H=some (.inst 159 (sd σ)):=by
 have:=gw 2 s.H
 rw [h.H,if_pos (by decide)] at this;exact this.symm
theorem SA.h5{s:St}{st:Nat}{ct:FV}{q:List FV}{tb:Option (List Nat)}(h:SA l σ ⟨st,ct,some q,tb⟩ s):lk 5 s.H=some (.lst q):=by
 have:=gw 5 s.H
 rw [h.H,if_pos (by decide)] at this;exact this.symm
theorem SA.call{s:St}(h:SA l σ t s)(Z':Sm)(t':Tm):SA l Z' t' (aR s (Hp Z' t'++hi s.H)):=by
 refine⟨h.o,h.L, ?_,h.m⟩
 show lo (Hp Z' t'++hi s.H)=_
 rw [jF,dh,qR,List.append_nil]
theorem SA.put1{s:St}(h:SA l σ t s){t':Tm}{d:List (Nat×V)}(e:put 1 (.inst 755 d) (Hp σ t)=Hp σ t'):SA l σ t' (aR s (put 1 (.inst 755 d) s.H)):=by
 refine⟨h.o,h.L, ?_,h.m⟩
 show lo (put 1 _ s.H)=_
 rw [lj (by decide),h.H,e]
theorem SA.meth{s:St}(h:SA l σ t s){n f:Nat}(e:g0.cls 159 n=some f)(e2:lk n (sd σ)=none):iY (b7 tab) (.ob 2) n [] s=some (.fn f (.ob 2)):=by
 exact BP h.h2 e2 e
theorem tD(t:Tm):Nat.ble (td t).length 900=true:=by
 obtain⟨st,ct,q,tb⟩:=t
 cases q
 ·rfl
 ·cases tb<;>rfl
theorem cX{α:Type}{n:Nat}{p:Nat×α}{r:List (Nat×α)}(h:Nat.beq n p.1=false):lk n (p::r)=lk n r:=(aj _ _ _).trans (if_neg (Nat.ne_of_beq_eq_false h))
theorem zN{x:Nat}(t:Tm)(h:(td ⟨0,.non,some [],some []⟩).any (λp=>Nat.beq x p.1)=false):lk x (td t)=none:=by
 obtain⟨st,ct,q,tb⟩:=t
 have h:(Nat.beq x 305||(Nat.beq x 232||(Nat.beq x 170||(Nat.beq x 194||(Nat.beq x 302||(Nat.beq x 169||(Nat.beq x 144||(Nat.beq x 313||(Nat.beq x 310||false)))))))))=false:=h
 simp only [Bool.or_eq_false_iff] at h
 obtain⟨h1,h2,h3,h4,h5,h6,h7,h8,h9,_⟩:=h
 have tail:lk x (Lv q tb)=none:=by
  cases q
  ·rfl
  ·cases tb
   ·exact cX h8
   ·exact(cX h8).trans (cX h9)
 exact(cX h1).trans ((cX h2).trans ((cX h3).trans ((cX h4).trans ((cX h5).trans ((cX h6).trans ((cX h7).trans tail))))))
noncomputable abbrev wM:List Nat:=[67,104,97,114,97,99,116,101,114,115]
noncomputable abbrev MF:List Nat:=[83,112,97,99,101,67,104,97,114,97,99,116,101,114,115]
noncomputable abbrev MG:List Nat:=[80,97,114,115,101,69,114,114,111,114]
noncomputable def Mg(T:List Nat)(e:X):X:=.dct (.cons (.k (.str [116,121,112,101])) (.cons (.sub (.glo ap) (.k (.str T))) (.cons (.k (.str [100,97,116,97])) (.cons e .nil))))
noncomputable def pK(T:List Nat)(e:X):S:=.ex (.meth (.att (.loc 292) 313) 0 (.cons (Mg T e) .nil) [])
noncomputable def gA(x:Nat):S:=.asgA (.loc 292) 302 (.att (.loc 292) x)
noncomputable def Dc:S:=.ex (.meth (.att (.loc 292) 305) 321 (.cons (.loc 145) .nil) [])
noncomputable def Dh:S:=.asgN 145 (.meth (.att (.loc 292) 305) 119 .nil [])
noncomputable def wP(a:X):X:=.meth (.att (.loc 292) 305) 126 a []
theorem bP(h:k (.c (.bol true)) (Hp σ t)):GA tab .skip l σ t k:=λs _ hs hc=>bD (hc.n s σ t hs.H h)
theorem lF{f:FV}(h:k (.c f) (Hp σ t)):GA tab (.seq (.ret (.k f)) .skip) l σ t k:=λs _ hs hc=>iI (ci (hc.r s σ t f hs.H h))
theorem am{c:X}{x y:S}{p:Bool}(ht:Et tab c l σ t (.c (.bol p)))(h1:p=true->GA tab x l σ t k)(h2:p=false->GA tab y l σ t k):GA tab (.seq (.iff c x y) .skip) l σ t k:=λs _ hs hc=>
 dC (ht s _ hs (aa rfl (du (λh=>h1 h s _ hs hc.skip) λh=>h2 h s _ hs hc.skip)))
theorem kC{x n:Nat}{b:S}{st:Nat}{ct:FV}{q:Option (List FV)}{tb:Option (List Nat)}(e:g0.cls 755 x=some n)(e2:(td ⟨0,.non,some [],some []⟩).any (λp=>Nat.beq x p.1)=false)(h:GA tab b l σ ⟨n,ct,q,tb⟩ k):GA tab (.seq (gA x) b) l σ ⟨st,ct,q,tb⟩ k:=by
 intro s K hs hc
 refine ou (cr (ad (aa hs.o (HU hs.h1 (zN _ e2) e (ad (aa hs.o ?_))))))
 refine Ih (g:=b7 tab) (n:=302) rfl hs.h1 ?_ (h _ _ (hs.put1 rfl) hc)
 show(true&&Nat.ble (td _).length 900)=true
 rw [tD];rfl
theorem vr{T:List Nat}{i:Int}{e:X}{b:S}{P:Sm->V->Prop}{st:Nat}{ct:FV}{q:List FV}{tb:Option (List Nat)}(eT:tW T Em=some (.int i))(hl:q.length≤1000)(he:Ew tab e l σ ⟨st,ct,some q,tb⟩ P)(h:∀Z' v,P Z' v->∃u,v=.c (.str u)∧GA tab b l Z' ⟨st,ct,some (q++[j0 i u]),tb⟩ k):GA tab (.seq (pK T e) b) l σ ⟨st,ct,some q,tb⟩ k:=by
 intro s K hs hc
 refine kU (b6 (cr (ad (aa hs.o (bF hs.h1 rfl rfl (aa (im hs.h5 rfl) (ah (ut (ah (ci (ah (gv (eg (ci (nZ eT (ah (ci (ah (he s _ hs λs' Z' v hs' hP=> ?_)))))))))))))))))))
 obtain⟨u,rfl,h⟩:=h Z' v hP
 have h5:=hs'.h5
 have hm:=hs'.m
 refine ay (aa (a:=[(oK,.c (.int i)),(oM,.c (.str u))]) rfl (sb (ay ?_)))
 refine qN (i:=5) (l0:=q) (l:=q) ((xV (by lia)).trans h5) vu ((xV (by lia)).trans h5) (Nat.ble_eq_true_of_le (by lia)) ?_
 refine h _ _ ⟨hs'.o,hs'.L, ?_,Nat.le_succ_of_le hs'.m⟩ hc
 show lo (put 5 _ ((s'.m,_)::s'.H))=_
 rw [lj (by decide),dt,if_neg (show¬s'.m<64 by lia),hs'.H];rfl
theorem cw{T:List Nat}{i:Int}{e:X}{b:S}{u:List Nat}{st:Nat}{ct:FV}{q:List FV}{tb:Option (List Nat)}(eT:tW T Em=some (.int i))(hl:Nat.ble q.length 1000=true)(he:Et tab e l σ ⟨st,ct,some q,tb⟩ (.c (.str u)))(h:GA tab b l σ ⟨st,ct,some (q++[j0 i u]),tb⟩ k):GA tab (.seq (pK T e) b) l σ ⟨st,ct,some q,tb⟩ k:=
 vr eT (Nat.le_of_ble_eq_true hl) he.w λZ' v hP=>⟨u,hP.2,hP.1▸h⟩
theorem yp{n:Nat}{e:X}{b:S}{P:Sm->V->Prop}(hn:Nat.beq 292 n=false)(he:Ew tab e l σ t P)(h:∀Z' v,P Z' v->GA tab b (put n v l) Z' t k):GA tab (.seq (.asgN n e) b) l σ t k:=by
 intro s K hs hc
 refine bE (he s _ hs λs' Z' v hs' hP=>h Z' v hP _ _ ⟨?_,hs'.L.put n v,hs'.H,hs'.m⟩ hc)
 exact(af _ _ _ _).trans ((if_neg (Nat.ne_of_beq_eq_false hn)).trans hs'.o)
theorem vp{b:S}(e:lk 145 l=some (.c .non))(h:GA tab b l σ t k)(hC:dX tab 156=ja):GA tab (.seq Dc b) l σ t k:=by
 intro s K hs hc
 refine kU (b6 (cr (ad (aa hs.o (bF hs.h1 rfl rfl (aa (hs.meth rfl rfl) (ah (ad (aa (hs.L _ _ e) (ay (oG (eA σ t rfl rfl hs.H ?_))))))))))))
 show dX tab 156 _ _ _ _
 rw [hC]
 exact .inl ⟨σ,t,rfl,rfl,rfl,h _ _ (hs.call σ t) hc⟩
theorem vq{b:S}{c:Nat}(e:lk 145 l=some (.c (.str [c])))(h0:σ.off≠0)(hi':d7 σ.chunk (σ.off-1)=some c)(h:GA tab b l {σ with off:=σ.off-1} t k)(hC:dX tab 156=ja):GA tab (.seq Dc b) l σ t k:=by
 intro s K hs hc
 refine kU (b6 (cr (ad (aa hs.o (bF hs.h1 rfl rfl (aa (hs.meth rfl rfl) (ah (ad (aa (hs.L _ _ e) (ay (oG (eA σ t rfl rfl hs.H ?_))))))))))))
 show dX tab 156 _ _ _ _
 rw [hC]
 exact .inr ⟨σ,t,c,rfl,rfl,rfl,h0,hi',h _ _ (hs.call {σ with off:=σ.off-1} t) hc⟩
theorem vt{b:S}{e:X}{u:List Nat}{st:Nat}{ct:FV}{q:List FV}{tb:Option (List Nat)}(he:Et tab e l σ ⟨st,ct,some q,tb⟩ (.c (.str u)))(h:GA tab b l σ ⟨st,ct,some q,some u⟩ k):GA tab (.seq (.asgA (.loc 292) 310 e) b) l σ ⟨st,ct,some q,tb⟩ k:=by
 intro s K hs hc
 refine ou (he s _ hs (ad (aa hs.o (Ih (g:=b7 tab) (n:=310) rfl hs.h1 ?_ (h _ _ (hs.put1 ?_) hc)))))
 ·show(true&&Nat.ble (td _).length 900)=true
  rw [tD];rfl
 ·cases tb<;>rfl
theorem oW{b:S}{u:List Nat}{c:Nat}{st:Nat}{ct:FV}{q:List FV}(e:lk 145 l=some (.c (.str [c])))(hu:u.length≤20000)(h:GA tab b l σ ⟨st,ct,some q,some (u++[c])⟩ k):GA tab (.seq (.augA (.loc 292) 310 0 (.loc 145)) b) l σ ⟨st,ct,some q,some u⟩ k:=by
 intro s K hs hc
 exact Bg (ad (aa hs.o (bF hs.h1 rfl rfl (ad (aa (hs.L _ _ e) (J6 (by show u.length+1≤_;lia) (Ih (g:=b7 tab) (n:=310) rfl hs.h1 rfl (h _ _ (hs.put1 rfl) hc))))))))
section
variable {c:Nat}
theorem cY{x:Nat}(e:lk 145 l=some (.c (.str [c]))):Et tab (.cmp 0 (.loc 145) (.k (.str [x]))) l σ t (.c (.bol (decide (c=x)))):=λ_ _ hs h=>bL (ad (aa (hs.L _ _ e) (ci (jX (IS h)))))
theorem dk{x:List Nat}(e:lk 145 l=some (.c .non)):Et tab (.cmp 0 (.loc 145) (.k (.str x))) l σ t (.c (.bol false)):=λ_ _ hs h=>bL (ad (aa (hs.L _ _ e) (ci (jX (IP h)))))
theorem rF(e:lk 145 l=some (.c (.str [c]))):Et tab (.cmp 0 (.loc 145) (.glo (.c .non))) l σ t (.c (.bol false)):=λ_ _ hs h=>bL (ad (aa (hs.L _ _ e) (eg (jX (IO h)))))
theorem rE(e:lk 145 l=some (.c .non)):Et tab (.cmp 0 (.loc 145) (.glo (.c .non))) l σ t (.c (.bol true)):=λ_ _ hs h=>bL (ad (aa (hs.L _ _ e) (eg (jX (IN h)))))
theorem Es{v:V}{b:Bool}(e:lk 145 l=some v)(e2:iN v=some b):Et tab (.cmp 6 (.loc 145) (.glo (.c .non))) l σ t (.c (.bol b)):=λ_ _ hs h=>bL (ad (aa (hs.L _ _ e) (eg (jX (ED e2 h)))))
theorem Ep{f:List FV}(e:lk 145 l=some (.c (.str [c])))(hf:f.all vi=true):Et tab (.cmp 8 (.loc 145) (.glo (.c (.tup f)))) l σ t (.c (.bol (decide (c∈rt f)))):=λ_ _ hs h=>bL (ad (aa (hs.L _ _ e) (eg (jX (w4 hf h)))))
theorem IJ{f:List FV}{b:Bool}(e:lk 145 l=some (.c .non))(hf:jB .non f=some b):Et tab (.cmp 8 (.loc 145) (.glo (.c (.tup f)))) l σ t (.c (.bol b)):=λ_ _ hs h=>bL (ad (aa (hs.L _ _ e) (eg (jX (AW hf h)))))
theorem tC(e:lk 145 l=some (.c (.str [c]))):Et tab (.cmp 8 (.loc 145) (.glo a6)) l σ t (.c (.bol (decide (c∈dP)))):=λ_ _ hs h=>bL (ad (aa (hs.L _ _ e) (eg (Ls (EC h)))))
theorem tB(e:lk 145 l=some (.c .non)):Et tab (.cmp 8 (.loc 145) (.glo a6)) l σ t (.c (.bol false)):=λ_ _ hs h=>bL (ad (aa (hs.L _ _ e) (eg (Ls (EA h)))))
end
end
noncomputable def aD.ok(ct:FV)(k:V->List (Nat×AO)->Prop)(d:List Nat)(e m:Nat)(z:Prop)(o:aD):Prop:=∀Z' e' m',e'+m'=e+m->m'≤m->(z->m'=0)->aB Z' (d++o.x) o.r e' m'->k (.c (.bol o.cont)) (Hp Z' ⟨o.st,ct,some o.q,o.tb⟩)
structure Rd (d:List Nat) (e m:Nat) (z:Prop) (Z':Sm) (x r:List Nat):Prop where
 ex:∃e' m',e'+m'=e+m∧m'≤m∧(z->m'=0)∧aB Z' (d++x) r e' m'
section
variable {tab:List (Nat×aK)} {l:List (Nat×V)} {σ:Sm} {t:Tm} {k:V->List (Nat×AO)->Prop} {ct:FV} {d:List Nat} {e m:Nat} {z:Prop}
theorem aD.pos{P:Prop}[Decidable P]{a b:aD}(hk:aD.ok ct k d e m z (if P then a else b))(h:decide P=true):aD.ok ct k d e m z a:=by rw [if_pos (of_decide_eq_true h)] at hk;exact hk
theorem aD.neg{P:Prop}[Decidable P]{a b:aD}(hk:aD.ok ct k d e m z (if P then a else b))(h:decide P=false):aD.ok ct k d e m z b:=by rw [if_neg (of_decide_eq_false h)] at hk;exact hk
theorem Rd.fin{o:aD}(h:Rd d e m z σ o.x o.r)(hk:aD.ok ct k d e m z o):k (.c (.bol o.cont)) (Hp σ ⟨o.st,ct,some o.q,o.tb⟩):=by
 obtain⟨e',m',a,b,c,v⟩:=h.ex
 exact hk σ e' m' a b c v
theorem Rd.unget{c:Nat}{r:List Nat}(h:Rd d e m z σ [c] r)(h0:0<σ.off):σ.off≠0∧d7 σ.chunk (σ.off-1)=some c∧Rd d e m z {σ with off:=σ.off-1} [] (c::r):=by
 obtain⟨e',m',a,b,y,v⟩:=h.ex
 obtain⟨u1,u2,u3⟩:=v.unget h0
 exact⟨u1,u2,⟨e',m',a,b,y,by rw [List.append_nil];exact u3⟩⟩
theorem Rd.len{x r:List Nat}(h:Rd d e m z σ x r):r.length≤10240:=by
 obtain⟨e',m',a,b,y,v⟩:=h.ex
 have:=v.bound;lia
theorem pa{A:X}{v:FV}{p:Nat->Bool}{op:Bool}{vs:List V}{c:Nat}{r:List Nat}(hC:dX tab 149=eK)(hA:∀s (F:List V->St->Prop),SA l σ t s->F vs s->ev (b7 tab) A s F)(hv:vs=[.c v,.c (.bol op)]∨vs=[.c v]∧op=false)(hp:Ea v p)(hR:Rd d e m z σ [c] r):
  Ew tab (wP A) l σ t λZ' w=>w=.c (.str (tw p op r))∧Rd d e m z Z' (c::tw p op r) (dw p op r):=by
 intro s F hs hk
 obtain⟨e',m',a,b,y,w⟩:=hR.ex
 refine b6 (cr (ad (aa hs.o (bF hs.h1 rfl rfl (aa (hs.meth rfl rfl) (hA s _ hs (oG (eA σ t rfl ?_ hs.H ?_))))))))
 ·rcases hv with rfl|⟨rfl,rfl⟩<;>rfl
 show dX tab 149 _ _ _ _
 rw [hC]
 refine⟨σ,t,d++[c],r,e',m',v,op,p, ?_,rfl,rfl,hp,w,λZ2 e2 m2 g1 g2 v2=>hk _ Z2 _ (hs.call Z2 t) ⟨rfl,⟨e2,m2,g1.trans a,Nat.le_trans g2 b,λq=>by have:=y q;lia,by rw [List.append_assoc] at v2;exact v2⟩⟩⟩
 rcases hv with rfl|⟨rfl,rfl⟩
 ·exact .inl rfl
 ·exact .inr ⟨rfl,rfl⟩
theorem zM(p:Nat->Bool)(op:Bool)(r:List Nat):(tw p op r).length≤r.length:=(List.takeWhile_prefix _).length_le
theorem Cv{x:X}{c:Nat}{r:List Nat}{p:Nat->Bool}{op:Bool}(h145:lk 145 l=some (.c (.str [c])))(hr:r.length≤10240)(hx:Ew tab x l σ t λZ' w=>w=.c (.str (tw p op r))∧Rd d e m z Z' (c::tw p op r) (dw p op r)):
  Ew tab (.bin 0 (.loc 145) x) l σ t λZ' w=>w=.c (.str (c::tw p op r))∧Rd d e m z Z' (c::tw p op r) (dw p op r):=by
 intro s F hs hk
 refine dJ (ad (aa (hs.L _ _ h145) (hx s _ hs λs' Z' v hs' hP=> ?_)))
 obtain⟨rfl,hR⟩:=hP
 have:=zM p op r
 exact wv (by show 1+_≤_;lia) (hk s' Z' _ hs' ⟨rfl,hR⟩)
noncomputable def Lh(tab:List (Nat×aK))(l:List (Nat×V))(fa:Nat)(pf:Option (List Nat)->List Nat->aD)(cond:FV->Option (List Nat)->List Nat->Prop)(b:S):Prop:=∀ct tb k d e m z σ r,cond ct tb r->aD.ok ct k d e m z (pf tb r)->
 match r with
 | []=>Rd d e m z σ [] []->GA tab b (put 145 (.c .non) l) σ ⟨fa,ct,some [],tb⟩ k
 |c::r=>Rd d e m z σ [c] r->0<σ.off->GA tab b (put 145 (.c (.str [c])) l) σ ⟨fa,ct,some [],tb⟩ k
theorem jg{g:G}{a b:S}{s:St}{K:Fl->St->Prop}(h:ex g (.seq a .skip) s (sq g b K)):ex g (.seq a b) s K:=by
 have e:Ij (ex g .skip) (sq g b K)=sq g b K:=by
  funext fl s;cases fl<;>rfl
 have h':ex g a s (Ij (ex g .skip) (sq g b K)):=h
 rw [e] at h';exact h'
theorem p8{fa:Nat}{pf:Option (List Nat)->List Nat->aD}{cond:FV->Option (List Nat)->List Nat->Prop}{a:S}(hC:dX tab 126=kW)(h:Lh tab l fa pf cond (.seq a .skip)){tb:Option (List Nat)}{r:List Nat}(v:aB σ d r e m)(hc:cond ct tb r)(hk:aD.ok ct k d e m (σ.off=σ.size) (pf tb r)){s:St}(hs:SA l σ ⟨fa,ct,some [],tb⟩ s):ex (b7 tab) (.seq Dh (.seq a HW)) s (fin k):=by
 refine bE (b6 (cr (ad (aa hs.o (bF hs.h1 rfl rfl (aa (hs.meth rfl rfl) (ay (oG (eA σ _ rfl rfl hs.H ?_)))))))))
 show dX tab 126 _ _ _ _
 rw [hC]
 refine⟨σ,_,d,r,e,m,rfl,rfl,rfl,v,λZ' e' m' a b y=> ?_⟩
 have key:∀(w:V),SA (put 145 w l) Z' ⟨fa,ct,some [],tb⟩ (cj (aR s (Hp Z' ⟨fa,ct,some [],tb⟩++hi s.H)) (put 145 w s.L)):=λw=>
  have z:=hs.call Z' ⟨fa,ct,some [],tb⟩
  ⟨(af _ _ _ _).trans ((if_neg (by decide)).trans z.o),z.L.put 145 w,z.H,z.m⟩
 have hg:=h ct tb k d e m (σ.off=σ.size) Z' r hc hk
 cases r with
 |nil=>exact λv'=>jg (hg ⟨e',m',a,b,y,by rw [List.append_nil];exact v'⟩ _ _ (key _) pB)
 |cons c r=>exact λv' ho=>jg (hg ⟨e',m',a,b,y,v'⟩ ho _ _ (key _) pB)
theorem dS{fa:Nat}{pf:Option (List Nat)->List Nat->aD}{cond:FV->Option (List Nat)->List Nat->Prop}{a:S}(hC:dX tab 126=kW)(h:Lh tab [] fa pf cond (.seq a .skip)):∀xs kws H k,fD fa pf cond xs kws H k->ai (ar [292] xs kws) λL0=>ex (b7 tab) (.seq Dh (.seq a HW)) ⟨L0,H,64,false⟩ (fin k):=by
 rintro xs kws H k ⟨σ,ct,tb,d,r,e,m,rfl,rfl,rfl,v,hc,hk⟩
 exact aa rfl (p8 hC h v hc hk ⟨rfl,λ_ _ e=>(nomatch e),dh _ _,Nat.le_refl _⟩)
end
end Mine.A
namespace Mine.A
open Mine.B
noncomputable abbrev Iz:S:=.seq (.ret (.k (.bol false))) .skip
noncomputable abbrev rH:X:=.cmp 0 (.loc 145) (.glo (.c .non))
noncomputable abbrev iH(x:Nat):X:=.cmp 0 (.loc 145) (.k (.str [x]))
noncomputable abbrev tJ:X:=.cmp 8 (.loc 145) (.glo a6)
noncomputable abbrev Iu:FV:=.tup [.str [9],.str [10],.str [12],.str [32],.str [13]]
noncomputable abbrev EJ:X:=.cmp 8 (.loc 145) (.glo (.c Iu))
noncomputable def wh(a:S):S:=.seq Dh (.seq a HW)
noncomputable def nN(u:Nat)(b:S):S:=.seq (pK MG (.k (.str [105,110,118,97,108,105,100,45,99,111,100,101,112,111,105,110,116]))) (.seq (pK wM (.k (.str [u]))) b)
noncomputable def AA(e:X)(xb:Nat):S:=.seq (pK wM e) (.seq Dc (.seq (gA xb) .skip))
noncomputable def wB(e:X):S:=.seq (.asgN 125 (wP (.cons e .nil))) (.seq (pK wM (.bin 0 (.loc 145) (.loc 125))) .skip)
noncomputable def De(b:S):S:=.iff EJ (.seq (pK MF (.bin 0 (.loc 145) (wP (.cons (.glo (.c Iu)) (.cons (.k (.bol true)) .nil))))) .skip) b
noncomputable abbrev oi(x n:Nat):Prop:=g0.cls 755 x=some n∧(td ⟨0,.non,some [],some []⟩).any (λp=>Nat.beq x p.1)=false
section
variable {l:List (Nat×V)} {σ:Sm} {t:Tm} {k:V->List (Nat×AO)->Prop} {ct:FV} {d:List Nat} {e m:Nat} {z:Prop} {st B:Nat} {tb:Option (List Nat)} {c:Nat} {r:List Nat}
theorem gG{u:Nat}{b:S}(h:GA cF b l σ ⟨st,ct,some [iF,bp [u]],tb⟩ k):GA cF (nN u b) l σ ⟨st,ct,some [],tb⟩ k:=
 cw (i:=7) rfl rfl gJ (cw (i:=1) rfl rfl gJ h)
theorem sY{x:X}{xb:Nat}{u:List Nat}(h145:lk 145 l=some (.c .non))(e:oi xb B)(hx:Et cF x l σ ⟨st,ct,some [],tb⟩ (.c (.str u)))(h:k (.c (.bol true)) (Hp σ ⟨B,ct,some [bp u],tb⟩)):GA cF (AA x xb) l σ ⟨st,ct,some [],tb⟩ k:=
 cw (i:=1) rfl rfl hx (vp h145 (kC e.1 e.2 (bP h)) rfl)
theorem sZ{x:X}{xb:Nat}{u:List Nat}(h145:lk 145 l=some (.c (.str [c])))(e':oi xb B)(hx:Et cF x l σ ⟨st,ct,some [],tb⟩ (.c (.str u)))(hR:Rd d e m z σ [c] r)(h0:0<σ.off)(hk:aD.ok ct k d e m z ⟨true,B,tb,[bp u],[],c::r⟩):GA cF (AA x xb) l σ ⟨st,ct,some [],tb⟩ k:=
 have h:=hR.unget h0
 cw (i:=1) rfl rfl hx (vq h145 h.1 h.2.1 (kC e'.1 e'.2 (bP (h.2.2.fin hk))) rfl)
theorem Eh{xb:Nat}{q:Option (List FV)}(h145:lk 145 l=some (.c .non))(e:oi xb B)(h:k (.c (.bol true)) (Hp σ ⟨B,ct,q,tb⟩)):GA cF (.seq Dc (.seq (gA xb) .skip)) l σ ⟨st,ct,q,tb⟩ k:=vp h145 (kC e.1 e.2 (bP h)) rfl
theorem Ei{xb:Nat}(h145:lk 145 l=some (.c (.str [c])))(e':oi xb B)(hR:Rd d e m z σ [c] r)(h0:0<σ.off)(hk:aD.ok ct k d e m z ⟨true,B,tb,[],[],c::r⟩):GA cF (.seq Dc (.seq (gA xb) .skip)) l σ ⟨st,ct,some [],tb⟩ k:=
 have h:=hR.unget h0
 vq h145 h.1 h.2.1 (kC e'.1 e'.2 (bP (h.2.2.fin hk))) rfl
theorem cz{x:Nat}{q:Option (List FV)}(e:oi x B)(h:k (.c (.bol true)) (Hp σ ⟨B,ct,q,tb⟩)):GA cF (.seq (gA x) .skip) l σ ⟨st,ct,q,tb⟩ k:=kC e.1 e.2 (bP h)
theorem q6{T:List Nat}{i:Int}{x:X}{p:Nat->Bool}{op:Bool}(eT:tW T Em=some (.int i))(h145:lk 145 l=some (.c (.str [c])))(hR:Rd d e m z σ [c] r)(hx:Ew cF x l σ ⟨st,ct,some [],tb⟩ λZ' w=>w=.c (.str (tw p op r))∧Rd d e m z Z' (c::tw p op r) (dw p op r))
  (hk:aD.ok ct k d e m z ⟨true,st,tb,[j0 i (c::tw p op r)],c::tw p op r,dw p op r⟩):GA cF (.seq (pK T (.bin 0 (.loc 145) x)) .skip) l σ ⟨st,ct,some [],tb⟩ k:=
 vr eT (Nat.zero_le _) (Cv h145 hR.len hx) λ_ _ hP=>⟨_,hP.1,bP (hP.2.fin hk)⟩
theorem kY{f:List FV}{x:X}(hx:∀s F,SA [(145,.c (.str [c]))] σ ⟨st,ct,some [],tb⟩ s->F (.c (.tup f)) s->ev (b7 cF) x s (one F))(hf:f.all vi=true)(hR:Rd d e m z σ [c] r)(hk:aD.ok ct k d e m z ⟨true,st,tb,[bp (c::cU (rt f) r)],c::cU (rt f) r,kD (rt f) r⟩):GA cF (wB x) [(145,.c (.str [c]))] σ ⟨st,ct,some [],tb⟩ k:=by
 refine yp rfl (pa (vs:=[.c (.tup f)]) (op:=false) rfl (λs F hs h=>ah (hx s _ hs (ay h))) (.inr ⟨rfl,rfl⟩) (pW hf) hR) λZ' v hP=> ?_
 obtain⟨rfl,hR'⟩:=hP
 have:=zM (λc=>decide (c∈rt f)) false r
 have:=hR.len
 refine cw (i:=1) (u:=c::cU (rt f) r) rfl rfl (λs F hs h=>dJ (ad (aa (hs.L 145 _ rfl) (ad (aa (hs.L 125 _ rfl) (wv ?_ h)))))) (bP (hR'.fin hk))
 show 1+_≤_
 lia
theorem tS{b:S}(hR:Rd d e m z σ [c] r)(h1:c∈iW->aD.ok ct k d e m z ⟨true,st,tb,[IH (c::ig iW r)],c::ig iW r,ul iW r⟩)(h2:decide (c∈iW)=false->GA cF b [(145,.c (.str [c]))] σ ⟨st,ct,some [],tb⟩ k):GA cF (.seq (De b) .skip) [(145,.c (.str [c]))] σ ⟨st,ct,some [],tb⟩ k:=
 am (Ep rfl rfl) (λh=>q6 (i:=2) rfl rfl hR (pa (vs:=[.c Iu,.c (.bol true)]) rfl (λs F hs h=>ah (eg (ah (ci (ay h))))) (.inl rfl) (pW rfl) hR) (h1 (of_decide_eq_true h))) h2
end
theorem KC{l:List (Nat×V)}{σ:Sm}{t:Tm}{a b c:Nat}:∀s F,SA l σ t s->F (.c (.tup [.str [a],.str [b],.str [c]])) s->ev (b7 cF) (.tup (.cons (.k (.str [a])) (.cons (.k (.str [b])) (.cons (.k (.str [c])) .nil)))) s (one F):=λs F _ h=>
 gr (ah (ci (ah (ci (ah (ci (ay (aa (a:=([.str [a],.str [b],.str [c]],s.H)) rfl (bV rfl h)))))))))
theorem MJ{l:List (Nat×V)}{σ:Sm}{t:Tm}{a b:Nat}:∀s F,SA l σ t s->F (.c (.tup [.str [a],.str [b]])) s->ev (b7 cF) (.tup (.cons (.k (.str [a])) (.cons (.k (.str [b])) .nil))) s (one F):=λs F _ h=>
 gr (ah (ci (ah (ci (ay (aa (a:=([.str [a],.str [b]],s.H)) rfl (bV rfl h)))))))
noncomputable abbrev II(a b c:Nat):X:=.tup (.cons (.k (.str [a])) (.cons (.k (.str [b])) (.cons (.k (.str [c])) .nil)))
noncomputable abbrev Mo(a b:Nat):X:=.tup (.cons (.k (.str [a])) (.cons (.k (.str [b])) .nil))
noncomputable def f5(tb:Option (List Nat))(r:List Nat):aD:=match r with
 | []=>⟨false,339,tb,[],[],[]⟩
 |c::r=>if c=0 then⟨true,339,tb,[iF,bp [65533]],[c],r⟩else
  ⟨true,339,tb,[bp (c::cU [0] r)],c::cU [0] r,kD [0] r⟩
noncomputable def qh:aK:=fD 339 f5 c0
noncomputable def bS:S:=wh (.iff rH Iz (.seq (.iff (iH 0) (nN 65533 .skip) (.seq (pK wM (.bin 0 (.loc 145) (wP (.cons (.k (.str [0])) .nil)))) .skip)) .skip))
theorem yR(xs kws H k)(h:qh xs kws H k):ai (ar [292] xs kws) λL0=>ex g4 bS ⟨L0,H,64,false⟩ (fin k):=by
 refine dS rfl (λct tb k d e m z σ r _ hk=> ?_) xs kws H k h
 cases r with
 |nil=>exact λhR=>am (rE rfl) (λ_=>lF (hR.fin hk)) λh=>nomatch h
 |cons c r=>
  exact λhR h0=>am (rF rfl) (λh=>nomatch h) λ_=>am (cY rfl) (λh=>gG (bP (hR.fin (aD.pos hk h)))) λh=>
   q6 (i:=1) rfl rfl hR (pa (vs:=[.c (.str [0])]) (op:=false) rfl (λs F _ h=>ah (ci (ay h))) (.inr ⟨rfl,rfl⟩) (wU [0]) hR) (aD.neg hk h)
noncomputable def Bw(B K:Nat)(tb:Option (List Nat))(r:List Nat):aD:=match r with
 | []=>⟨false,B,tb,[],[],[]⟩
 |c::r=>if c=60 then⟨true,K,tb,[],[c],r⟩else
  if c=0 then⟨true,B,tb,[iF,bp [65533]],[c],r⟩else
  ⟨true,B,tb,[bp (c::cU [60,0] r)],c::cU [60,0] r,kD [60,0] r⟩
noncomputable def AY(x:Nat):S:=wh (.iff (iH 60) (.seq (gA x) .skip) (.seq (.iff (iH 0) (nN 65533 .skip) (.seq (.iff rH Iz (wB (Mo 60 0))) .skip)) .skip))
theorem vR{B K x:Nat}(ex':oi x K)(xs kws H k)(h:fD B (Bw B K) c0 xs kws H k):ai (ar [292] xs kws) λL0=>ex g4 (AY x) ⟨L0,H,64,false⟩ (fin k):=by
 refine dS rfl (λct tb k d e m z σ r _ hk=> ?_) xs kws H k h
 cases r with
 |nil=>exact λhR=>am (dk rfl) (λh=>nomatch h) λ_=>am (dk rfl) (λh=>nomatch h) λ_=>am (rE rfl) (λ_=>lF (hR.fin hk)) λh=>nomatch h
 |cons c r=>
  exact λhR h0=>am (cY rfl) (λh=>cz ex' (hR.fin (aD.pos hk h))) λh=>am (cY rfl) (λh'=>gG (bP (hR.fin (aD.pos (aD.neg hk h) h')))) λh'=>
   am (rF rfl) (λh=>nomatch h) λ_=>kY MJ rfl hR (aD.neg (aD.neg hk h) h')
noncomputable def kq:=Bw 325 388
noncomputable def zZ:aK:=fD 325 kq c0
noncomputable def b8:S:=AY 254
theorem G6(xs kws H k)(h:zZ xs kws H k):ai (ar [292] xs kws) λL0=>ex g4 b8 ⟨L0,H,64,false⟩ (fin k):=vR ⟨rfl,rfl⟩ xs kws H k h
noncomputable def dE:=Bw 332 409
noncomputable def mI:aK:=fD 332 dE c0
noncomputable def bN:S:=AY 289
theorem vO(xs kws H k)(h:mI xs kws H k):ai (ar [292] xs kws) λL0=>ex g4 bN ⟨L0,H,64,false⟩ (fin k):=vR ⟨rfl,rfl⟩ xs kws H k h
noncomputable def dF(tb:Option (List Nat))(r:List Nat):aD:=match r with
 | []=>⟨false,311,tb,[],[],[]⟩
 |c::r=>if c=38 then⟨true,318,tb,[],[c],r⟩else
  if c=60 then⟨true,367,tb,[],[c],r⟩else
  if c=0 then⟨true,311,tb,[iF,bp [65533]],[c],r⟩else
  if c∈iW then⟨true,311,tb,[IH (c::ig iW r)],c::ig iW r,ul iW r⟩else
  ⟨true,311,tb,[bp (c::cU [38,60,0] r)],c::cU [38,60,0] r,kD [38,60,0] r⟩
noncomputable def mJ:aK:=fD 311 dF c0
noncomputable def ca:S:=wh (.iff (iH 38) (.seq (gA 123) .skip) (.seq (.iff (iH 60) (.seq (gA 258) .skip) (.seq (.iff rH Iz (.seq (.iff (iH 0) (nN 65533 .skip) (.seq (De (wB (II 38 60 0))) .skip)) .skip)) .skip)) .skip))
theorem vQ(xs kws H k)(h:mJ xs kws H k):ai (ar [292] xs kws) λL0=>ex g4 ca ⟨L0,H,64,false⟩ (fin k):=by
 refine dS rfl (λct tb k d e m z σ r _ hk=> ?_) xs kws H k h
 cases r with
 |nil=>exact λhR=>am (dk rfl) (λh=>nomatch h) λ_=>am (dk rfl) (λh=>nomatch h) λ_=>am (rE rfl) (λ_=>lF (hR.fin hk)) λh=>nomatch h
 |cons c r=>
  exact λhR h0=>am (cY rfl) (λh=>cz (B:=318) ⟨rfl,rfl⟩ (hR.fin (aD.pos hk h))) λh1=>am (cY rfl) (λh=>cz (B:=367) ⟨rfl,rfl⟩ (hR.fin (aD.pos (aD.neg hk h1) h))) λh2=>
   am (rF rfl) (λh=>nomatch h) λ_=>am (cY rfl) (λh=>gG (bP (hR.fin (aD.pos (aD.neg (aD.neg hk h1) h2) h)))) λh3=>
   tS hR (λh=>aD.pos (aD.neg (aD.neg (aD.neg hk h1) h2) h3) (decide_eq_true h)) λh4=>kY KC rfl hR (aD.neg (aD.neg (aD.neg (aD.neg hk h1) h2) h3) h4)
noncomputable def fR(tb:Option (List Nat))(r:List Nat):aD:=match r with
 | []=>⟨false,297,tb,[],[],[]⟩
 |c::r=>if c=38 then⟨true,304,tb,[],[c],r⟩else
  if c=0 then⟨true,297,tb,[iF,bp [0]],[c],r⟩else
  if c∈iW then⟨true,297,tb,[IH (c::ig iW r)],c::ig iW r,ul iW r⟩else
  ⟨true,297,tb,[bp (c::cU [38,60,0] r)],c::cU [38,60,0] r,kD [38,60,0] r⟩
noncomputable def t5:aK:=fD 297 fR (λ_ _ r=>∀c r',r=c::r'->c≠60)
noncomputable def cl:S:=wh (.iff (iH 38) (.seq (gA 164) .skip) (.seq (.iff (iH 60) (.seq (gA 307) .skip) (.seq (.iff (iH 0) (nN 0 .skip) (.seq (.iff (.cmp 6 (.loc 145) (.glo (.c .non))) Iz (.seq (De (wB (II 38 60 0))) .skip)) .skip)) .skip)) .skip))
theorem CG(xs kws H k)(h:t5 xs kws H k):ai (ar [292] xs kws) λL0=>ex g4 cl ⟨L0,H,64,false⟩ (fin k):=by
 refine dS rfl (λct tb k d e m z σ r hc hk=> ?_) xs kws H k h
 cases r with
 |nil=>exact λhR=>am (dk rfl) (λh=>nomatch h) λ_=>am (dk rfl) (λh=>nomatch h) λ_=>am (dk rfl) (λh=>nomatch h) λ_=>am (Es rfl rfl) (λ_=>lF (hR.fin hk)) λh=>nomatch h
 |cons c r=>
  exact λhR h0=>am (cY rfl) (λh=>cz (B:=304) ⟨rfl,rfl⟩ (hR.fin (aD.pos hk h))) λh1=>am (cY rfl) (λh=>absurd (of_decide_eq_true h) (hc c r rfl)) λ_=>
   am (cY rfl) (λh=>gG (bP (hR.fin (aD.pos (aD.neg hk h1) h)))) λh3=>am (Es rfl rfl) (λh=>nomatch h) λ_=>
   tS hR (λh=>aD.pos (aD.neg (aD.neg hk h1) h3) (decide_eq_true h)) λh4=>kY KC rfl hR (aD.neg (aD.neg (aD.neg hk h1) h3) h4)
noncomputable def iM(tb:Option (List Nat))(r:List Nat):aD:=match r with
 | []=>⟨true,297,tb,[],[],[]⟩
 |c::r=>if c=45 then⟨true,451,tb,[bp [45]],[c],r⟩else
  if c=60 then⟨true,465,tb,[],[c],r⟩else
  if c=0 then⟨true,444,tb,[iF,bp [65533]],[c],r⟩else
  ⟨true,444,tb,[bp (c::cU [60,45,0] r)],c::cU [60,45,0] r,kD [60,45,0] r⟩
noncomputable def z5:aK:=fD 444 iM c0
noncomputable def D9(u:List Nat)(x:Nat):S:=.seq (pK wM (.k (.str u))) (.seq (gA x) .skip)
theorem mv{l:List (Nat×V)}{σ:Sm}{k:V->List (Nat×AO)->Prop}{ct:FV}{st B x:Nat}{u:List Nat}{tb:Option (List Nat)}(e:oi x B)(h:k (.c (.bol true)) (Hp σ ⟨B,ct,some [bp u],tb⟩)):GA cF (D9 u x) l σ ⟨st,ct,some [],tb⟩ k:=cw (i:=1) rfl rfl gJ (cz e h)
noncomputable def bj:S:=wh (.iff (iH 45) (D9 [45] 284) (.seq (.iff (iH 60) (.seq (gA 287) .skip) (.seq (.iff (iH 0) (nN 65533 .skip) (.seq (.iff rH (.seq (gA 146) .skip) (wB (II 60 45 0))) .skip)) .skip)) .skip))
theorem G9(xs kws H k)(h:z5 xs kws H k):ai (ar [292] xs kws) λL0=>ex g4 bj ⟨L0,H,64,false⟩ (fin k):=by
 refine dS rfl (λct tb k d e m z σ r _ hk=> ?_) xs kws H k h
 cases r with
 |nil=>exact λhR=>am (dk rfl) (λh=>nomatch h) λ_=>am (dk rfl) (λh=>nomatch h) λ_=>am (dk rfl) (λh=>nomatch h) λ_=>am (rE rfl) (λ_=>cz (B:=297) ⟨rfl,rfl⟩ (hR.fin hk)) λh=>nomatch h
 |cons c r=>
  exact λhR h0=>am (cY rfl) (λh=>mv (B:=451) ⟨rfl,rfl⟩ (hR.fin (aD.pos hk h))) λh1=>am (cY rfl) (λh=>cz (B:=465) ⟨rfl,rfl⟩ (hR.fin (aD.pos (aD.neg hk h1) h))) λh2=>
   am (cY rfl) (λh=>gG (bP (hR.fin (aD.pos (aD.neg (aD.neg hk h1) h2) h)))) λh3=>am (rF rfl) (λh=>nomatch h) λ_=>kY KC rfl hR (aD.neg (aD.neg (aD.neg hk h1) h2) h3)
noncomputable def L9(x:Nat):S:=.seq (pK wM (.loc 145)) (.seq (gA x) .skip)
noncomputable def cy(tb:Option (List Nat))(r:List Nat):aD:=match r with
 | []=>⟨true,297,tb,[],[],[]⟩
 |c::r=>if c=45 then⟨true,458,tb,[bp [45]],[c],r⟩else
  if c=60 then⟨true,465,tb,[],[c],r⟩else
  if c=0 then⟨true,444,tb,[iF,bp [65533]],[c],r⟩else
  ⟨true,444,tb,[bp [c]],[c],r⟩
noncomputable def kn:aK:=fD 451 cy c0
noncomputable def aX:S:=wh (.iff (iH 45) (D9 [45] 283) (.seq (.iff (iH 60) (.seq (gA 287) .skip) (.seq (.iff (iH 0) (nN 65533 (.seq (gA 288) .skip)) (.seq (.iff rH (.seq (gA 146) .skip) (L9 288)) .skip)) .skip)) .skip))
theorem sM(xs kws H k)(h:kn xs kws H k):ai (ar [292] xs kws) λL0=>ex g4 aX ⟨L0,H,64,false⟩ (fin k):=by
 refine dS rfl (λct tb k d e m z σ r _ hk=> ?_) xs kws H k h
 cases r with
 |nil=>exact λhR=>am (dk rfl) (λh=>nomatch h) λ_=>am (dk rfl) (λh=>nomatch h) λ_=>am (dk rfl) (λh=>nomatch h) λ_=>am (rE rfl) (λ_=>cz (B:=297) ⟨rfl,rfl⟩ (hR.fin hk)) λh=>nomatch h
 |cons c r=>
  exact λhR h0=>am (cY rfl) (λh=>mv (B:=458) ⟨rfl,rfl⟩ (hR.fin (aD.pos hk h))) λh1=>am (cY rfl) (λh=>cz (B:=465) ⟨rfl,rfl⟩ (hR.fin (aD.pos (aD.neg hk h1) h))) λh2=>
   am (cY rfl) (λh=>gG (cz (B:=444) ⟨rfl,rfl⟩ (hR.fin (aD.pos (aD.neg (aD.neg hk h1) h2) h)))) λh3=>am (rF rfl) (λh=>nomatch h) λ_=>
   cw (i:=1) rfl rfl (iw rfl) (cz (B:=444) ⟨rfl,rfl⟩ (hR.fin (aD.neg (aD.neg (aD.neg hk h1) h2) h3)))
noncomputable def dq(tb:Option (List Nat))(r:List Nat):aD:=match r with
 | []=>⟨true,297,tb,[],[],[]⟩
 |c::r=>if c=45 then⟨true,458,tb,[bp [45]],[c],r⟩else
  if c=60 then⟨true,465,tb,[],[c],r⟩else
  if c=62 then⟨true,332,tb,[bp [62]],[c],r⟩else
  if c=0 then⟨true,444,tb,[iF,bp [65533]],[c],r⟩else
  ⟨true,444,tb,[bp [c]],[c],r⟩
noncomputable def qj:aK:=fD 458 dq c0
noncomputable def aM:S:=wh (.iff (iH 45) (.seq (pK wM (.k (.str [45]))) .skip) (.seq (.iff (iH 60) (.seq (gA 287) .skip) (.seq (.iff (iH 62) (D9 [62] 290) (.seq (.iff (iH 0) (nN 65533 (.seq (gA 288) .skip)) (.seq (.iff rH (.seq (gA 146) .skip) (L9 288)) .skip)) .skip)) .skip)) .skip))
theorem yU(xs kws H k)(h:qj xs kws H k):ai (ar [292] xs kws) λL0=>ex g4 aM ⟨L0,H,64,false⟩ (fin k):=by
 refine dS rfl (λct tb k d e m z σ r _ hk=> ?_) xs kws H k h
 cases r with
 |nil=>exact λhR=>am (dk rfl) (λh=>nomatch h) λ_=>am (dk rfl) (λh=>nomatch h) λ_=>am (dk rfl) (λh=>nomatch h) λ_=>am (dk rfl) (λh=>nomatch h) λ_=>am (rE rfl) (λ_=>cz (B:=297) ⟨rfl,rfl⟩ (hR.fin hk)) λh=>nomatch h
 |cons c r=>
  exact λhR h0=>am (cY rfl) (λh=>cw (i:=1) rfl rfl gJ (bP (hR.fin (aD.pos hk h)))) λh1=>am (cY rfl) (λh=>cz (B:=465) ⟨rfl,rfl⟩ (hR.fin (aD.pos (aD.neg hk h1) h))) λh2=>
   am (cY rfl) (λh=>mv (B:=332) ⟨rfl,rfl⟩ (hR.fin (aD.pos (aD.neg (aD.neg hk h1) h2) h))) λh3=>am (cY rfl) (λh=>gG (cz (B:=444) ⟨rfl,rfl⟩ (hR.fin (aD.pos (aD.neg (aD.neg (aD.neg hk h1) h2) h3) h)))) λh4=>
   am (rF rfl) (λh=>nomatch h) λ_=>cw (i:=1) rfl rfl (iw rfl) (cz (B:=444) ⟨rfl,rfl⟩ (hR.fin (aD.neg (aD.neg (aD.neg (aD.neg hk h1) h2) h3) h4)))
noncomputable def Iq(B T:Nat)(tb:Option (List Nat))(r:List Nat):aD:=match r with
 | []=>⟨true,B,tb,[bp [60]],[],[]⟩
 |c::r=>if c=47 then⟨true,T,some [],[],[c],r⟩else⟨true,B,tb,[bp [60]],[],c::r⟩
noncomputable def zg(x:Nat):S:=.seq (.asgA (.loc 292) 310 (.k (.str []))) (.seq (gA x) .skip)
theorem nW{l:List (Nat×V)}{σ:Sm}{k:V->List (Nat×AO)->Prop}{ct:FV}{st B x:Nat}{tb:Option (List Nat)}(e:oi x B)(h:k (.c (.bol true)) (Hp σ ⟨B,ct,some [],some []⟩)):GA cF (zg x) l σ ⟨st,ct,some [],tb⟩ k:=vt gJ (cz e h)
noncomputable def IT(x xb:Nat):S:=wh (.iff (iH 47) (zg x) (AA (.k (.str [60])) xb))
theorem As{B T K x xb:Nat}(e1:oi x T)(e2:oi xb B)(xs kws H k)(h:fD K (Iq B T) c0 xs kws H k):ai (ar [292] xs kws) λL0=>ex g4 (IT x xb) ⟨L0,H,64,false⟩ (fin k):=by
 refine dS rfl (λct tb k d e m z σ r _ hk=> ?_) xs kws H k h
 cases r with
 |nil=>exact λhR=>am (dk rfl) (λh=>nomatch h) λ_=>sY rfl e2 gJ (hR.fin hk)
 |cons c r=>
  exact λhR h0=>am (cY rfl) (λh=>nW e1 (hR.fin (aD.pos hk h))) λh=>sZ rfl e2 gJ hR h0 (aD.neg hk h)
noncomputable def oB:=Iq 311 374
noncomputable def t0:aK:=fD 367 oB c0
noncomputable def bh:S:=IT 257 259
theorem CE(xs kws H k)(h:t0 xs kws H k):ai (ar [292] xs kws) λL0=>ex g4 bh ⟨L0,H,64,false⟩ (fin k):=As (T:=374) ⟨rfl,rfl⟩ ⟨rfl,rfl⟩ xs kws H k h
noncomputable def lg:=Iq 325 395
noncomputable def qg:aK:=fD 388 lg c0
noncomputable def bf:S:=IT 253 255
theorem yQ(xs kws H k)(h:qg xs kws H k):ai (ar [292] xs kws) λL0=>ex g4 bf ⟨L0,H,64,false⟩ (fin k):=As (T:=395) ⟨rfl,rfl⟩ ⟨rfl,rfl⟩ xs kws H k h
noncomputable def ij(tb:Option (List Nat))(r:List Nat):aD:=match r with
 | []=>⟨true,332,tb,[bp [60]],[],[]⟩
 |c::r=>if c=47 then⟨true,416,some ([]),[],[c],r⟩else
  if c=33 then⟨true,430,tb,[bp [60,33]],[c],r⟩else
  ⟨true,332,tb,[bp [60]],[],c::r⟩
noncomputable def tY:aK:=fD 409 ij c0
noncomputable def aU:S:=wh (.iff (iH 47) (zg 280) (.seq (.iff (iH 33) (D9 [60,33] 282) (AA (.k (.str [60])) 290)) .skip))
theorem CB(xs kws H k)(h:tY xs kws H k):ai (ar [292] xs kws) λL0=>ex g4 aU ⟨L0,H,64,false⟩ (fin k):=by
 refine dS rfl (λct tb k d e m z σ r _ hk=> ?_) xs kws H k h
 cases r with
 |nil=>exact λhR=>am (dk rfl) (λh=>nomatch h) λ_=>am (dk rfl) (λh=>nomatch h) λ_=>sY (B:=332) rfl ⟨rfl,rfl⟩ gJ (hR.fin hk)
 |cons c r=>
  exact λhR h0=>am (cY rfl) (λh=>nW (B:=416) ⟨rfl,rfl⟩ (hR.fin (aD.pos hk h))) λh1=>am (cY rfl) (λh=>mv (B:=430) ⟨rfl,rfl⟩ (hR.fin (aD.pos (aD.neg hk h1) h))) λh2=>sZ (B:=332) rfl ⟨rfl,rfl⟩ gJ hR h0 (aD.neg (aD.neg hk h1) h2)
noncomputable def f6(tb:Option (List Nat))(r:List Nat):aD:=match r with
 | []=>⟨true,444,tb,[bp [60]],[],[]⟩
 |c::r=>if c=47 then⟨true,472,some ([]),[],[c],r⟩else
  if c∈dP then⟨true,486,some ([c]),[bp [60,c]],[c],r⟩else
  ⟨true,444,tb,[bp [60]],[],c::r⟩
noncomputable def qi:aK:=fD 465 f6 c0
noncomputable def aA:S:=wh (.iff (iH 47) (zg 286) (.seq (.iff tJ (.seq (pK wM (.bin 0 (.k (.str [60])) (.loc 145))) (.seq (.asgA (.loc 292) 310 (.loc 145)) (.seq (gA 274) .skip))) (AA (.k (.str [60])) 288)) .skip))
theorem yT(xs kws H k)(h:qi xs kws H k):ai (ar [292] xs kws) λL0=>ex g4 aA ⟨L0,H,64,false⟩ (fin k):=by
 refine dS rfl (λct tb k d e m z σ r _ hk=> ?_) xs kws H k h
 cases r with
 |nil=>exact λhR=>am (dk rfl) (λh=>nomatch h) λ_=>am (tB rfl) (λh=>nomatch h) λ_=>sY (B:=444) rfl ⟨rfl,rfl⟩ gJ (hR.fin hk)
 |cons c r=>
  exact λhR h0=>am (cY rfl) (λh=>nW (B:=472) ⟨rfl,rfl⟩ (hR.fin (aD.pos hk h))) λh1=>am (tC rfl) (λh=>cw (i:=1) (u:=[60,c]) rfl rfl (λs F hs h=>dJ (ci (ad (aa (hs.L 145 _ rfl) (wv (by show 1+1≤16777216;decide) h))))) (vt (iw rfl) (cz (B:=486) ⟨rfl,rfl⟩ (hR.fin (aD.pos (aD.neg hk h1) h))))) λh2=>sZ (B:=444) rfl ⟨rfl,rfl⟩ gJ hR h0 (aD.neg (aD.neg hk h1) h2)
noncomputable def xI(B N:Nat)(tb:Option (List Nat))(r:List Nat):aD:=match tb with
 |none=>⟨false,0,none,[],[],[]⟩
 |some b=>match r with
  | []=>⟨true,B,some b,[bp [60,47]],[],[]⟩
  |c::r=>if c∈dP then⟨true,N,some (b++[c]),[],[c],r⟩else⟨true,B,some b,[bp [60,47]],[],c::r⟩
noncomputable def xf(x xb:Nat):S:=wh (.iff tJ (.seq (.augA (.loc 292) 310 0 (.loc 145)) (.seq (gA x) .skip)) (AA (.k (.str [60,47])) xb))
theorem pg{B N T x xb:Nat}(e1:oi x N)(e2:oi xb B)(xs kws H k)(h:fD T (xI B N) wO xs kws H k):ai (ar [292] xs kws) λL0=>ex g4 (xf x xb) ⟨L0,H,64,false⟩ (fin k):=by
 refine dS rfl (λct tb k d e m z σ r hc hk=> ?_) xs kws H k h
 obtain⟨b,rfl,hb⟩:=hc
 cases r with
 |nil=>exact λhR=>am (tB rfl) (λh=>nomatch h) λ_=>sY rfl e2 gJ (hR.fin hk)
 |cons c r=>
  exact λhR h0=>am (tC rfl) (λh=>oW rfl hb (cz e1 (hR.fin (aD.pos hk h)))) λh=>sZ rfl e2 gJ hR h0 (aD.neg hk h)
noncomputable def ld:=xI 311 381
noncomputable def qe:aK:=fD 374 ld wO
noncomputable def bn:S:=xf 256 259
theorem yO(xs kws H k)(h:qe xs kws H k):ai (ar [292] xs kws) λL0=>ex g4 bn ⟨L0,H,64,false⟩ (fin k):=pg (N:=381) ⟨rfl,rfl⟩ ⟨rfl,rfl⟩ xs kws H k h
noncomputable def jr:=xI 325 402
noncomputable def mK:aK:=fD 395 jr wO
noncomputable def bk:S:=xf 252 255
theorem vS(xs kws H k)(h:mK xs kws H k):ai (ar [292] xs kws) λL0=>ex g4 bk ⟨L0,H,64,false⟩ (fin k):=pg (N:=402) ⟨rfl,rfl⟩ ⟨rfl,rfl⟩ xs kws H k h
noncomputable def k9:=xI 332 423
noncomputable def p9:aK:=fD 416 k9 wO
noncomputable def bc:S:=xf 279 290
theorem yL(xs kws H k)(h:p9 xs kws H k):ai (ar [292] xs kws) λL0=>ex g4 bc ⟨L0,H,64,false⟩ (fin k):=pg (N:=423) ⟨rfl,rfl⟩ ⟨rfl,rfl⟩ xs kws H k h
noncomputable def jt(tb:Option (List Nat))(r:List Nat):aD:=match r with
 | []=>⟨true,444,tb,[bp [60,47]],[],[]⟩
 |c::r=>if c∈dP then⟨true,479,some ([c]),[],[c],r⟩else
  ⟨true,444,tb,[bp [60,47]],[],c::r⟩
noncomputable def mM:aK:=fD 472 jt c0
noncomputable def aF:S:=wh (.iff tJ (.seq (.asgA (.loc 292) 310 (.loc 145)) (.seq (gA 285) .skip)) (AA (.k (.str [60,47])) 288))
theorem vW(xs kws H k)(h:mM xs kws H k):ai (ar [292] xs kws) λL0=>ex g4 aF ⟨L0,H,64,false⟩ (fin k):=by
 refine dS rfl (λct tb k d e m z σ r _ hk=> ?_) xs kws H k h
 cases r with
 |nil=>exact λhR=>am (tB rfl) (λh=>nomatch h) λ_=>sY (B:=444) rfl ⟨rfl,rfl⟩ gJ (hR.fin hk)
 |cons c r=>
  exact λhR h0=>am (tC rfl) (λh=>vt (iw rfl) (cz (B:=479) ⟨rfl,rfl⟩ (hR.fin (aD.pos hk h)))) λh=>sZ (B:=444) rfl ⟨rfl,rfl⟩ gJ hR h0 (aD.neg hk h)
noncomputable def JF(N:Nat)(tb:Option (List Nat))(r:List Nat):aD:=match r with
 | []=>⟨true,332,tb,[],[],[]⟩
 |c::r=>if c=45 then⟨true,N,tb,[bp [45]],[c],r⟩else⟨true,332,tb,[],[],c::r⟩
noncomputable def IU(x:Nat):S:=wh (.iff (iH 45) (D9 [45] x) (.seq Dc (.seq (gA 290) .skip)))
theorem Au{K N x:Nat}(e1:oi x N)(xs kws H k)(h:fD K (JF N) c0 xs kws H k):ai (ar [292] xs kws) λL0=>ex g4 (IU x) ⟨L0,H,64,false⟩ (fin k):=by
 refine dS rfl (λct tb k d e m z σ r _ hk=> ?_) xs kws H k h
 cases r with
 |nil=>exact λhR=>am (dk rfl) (λh=>nomatch h) λ_=>Eh (B:=332) rfl ⟨rfl,rfl⟩ (hR.fin hk)
 |cons c r=>
  exact λhR h0=>am (cY rfl) (λh=>mv e1 (hR.fin (aD.pos hk h))) λh=>Ei (B:=332) rfl ⟨rfl,rfl⟩ hR h0 (aD.neg hk h)
noncomputable def dG:=JF 437
noncomputable def jl:aK:=fD 430 dG c0
noncomputable def aY:S:=IU 281
theorem ph(xs kws H k)(h:jl xs kws H k):ai (ar [292] xs kws) λL0=>ex g4 aY ⟨L0,H,64,false⟩ (fin k):=Au (N:=437) ⟨rfl,rfl⟩ xs kws H k h
noncomputable def cf:=JF 458
noncomputable def fL:aK:=fD 437 cf c0
noncomputable def aN:S:=IU 283
theorem jP(xs kws H k)(h:fL xs kws H k):ai (ar [292] xs kws) λL0=>ex g4 aN ⟨L0,H,64,false⟩ (fin k):=Au (N:=458) ⟨rfl,rfl⟩ xs kws H k h
noncomputable def kr(tb:Option (List Nat))(r:List Nat):aD:=match tb with
 |none=>⟨false,0,none,[],[],[]⟩
 |some b=>match r with
  | []=>⟨true,444,some b,[],[],[]⟩
  |c::r=>if c∈jf then⟨true,444,some b,[bp [c]],[c],r⟩else if c∈dP then⟨true,486,some (b++[c]),[bp [c]],[c],r⟩else⟨true,444,some b,[],[],c::r⟩
noncomputable def pE(_:FV)(tb:Option (List Nat))(r:List Nat):Prop:=∃b,tb=some b∧b.length≤20000∧b.all (λc=>Nat.blt c 128)=true∧∀c r',r=c::r'->c∈jf->fS b≠[115,99,114,105,112,116]
noncomputable def z6:aK:=fD 486 kr pE
noncomputable def Ec:X:=.bin 0 (.glo (.c Iu)) (.tup (.cons (.k (.str [47])) (.cons (.k (.str [62])) .nil)))
noncomputable def aH:S:=wh (.iff (.cmp 8 (.loc 145) Ec) (.seq (pK wM (.loc 145)) (.seq (.iff (.cmp 0 (.meth (.att (.loc 292) 310) 7 .nil []) (.k (.str [115,99,114,105,112,116]))) (.seq (gA 278) .skip) (.seq (gA 288) .skip)) .skip)) (.seq (.iff tJ (.seq (pK wM (.loc 145)) (.seq (.augA (.loc 292) 310 0 (.loc 145)) .skip)) (.seq Dc (.seq (gA 288) .skip))) .skip))
noncomputable abbrev Ky:List FV:=[.str [9],.str [10],.str [12],.str [32],.str [13],.str [47],.str [62]]
theorem vJ{l:List (Nat×V)}{σ:Sm}{t:Tm}:Et cF Ec l σ t (.c (.tup Ky)):=by
 intro s F _ h
 refine dJ (eg (gr (ah (ci (ah (ci (ay ?_)))))))
 refine aa (a:=([.str [47],.str [62]],s.H)) rfl (bV rfl ?_)
 exact K1 (p:=[.str [9],.str [10],.str [12],.str [32],.str [13]]) (q:=[.str [47],.str [62]]) rfl rfl h
theorem A1{s:St}{F:V->St->Prop}(h:F (.c (.str [101,109])) s):oe (.c vM) (.c (.str [110,97,109,101])) s F:=h
theorem Ad{g:G}{s:St}{F:V->St->Prop}{b:List Nat}(h8:b.all (λc=>Nat.blt c 128)=true)(h:F (.c (.str (fS b))) s):gZ g (.str b) 7 [] [] s F:=by
 have h':ai (sS s.H []) λfs=>xh 7 b fs s F:=aa (a:=[]) rfl ⟨h8,h⟩
 exact h'
theorem vK{l:List (Nat×V)}{σ:Sm}{st:Nat}{ct:FV}{q:List FV}{b:List Nat}(h8:b.all (λc=>Nat.blt c 128)=true):Et cF (.meth (.att (.loc 292) 310) 7 .nil []) l σ ⟨st,ct,some q,some b⟩ (.c (.str (fS b))):=λs F hs h=>
 b6 (cr (ad (aa hs.o (bF hs.h1 rfl rfl (aa (a:=M.str b) rfl (ay (Ad h8 h)))))))
theorem Ha(xs kws H k)(h:z6 xs kws H k):ai (ar [292] xs kws) λL0=>ex g4 aH ⟨L0,H,64,false⟩ (fin k):=by
 refine dS rfl (λct tb k d e m z σ r hc hk=> ?_) xs kws H k h
 obtain⟨b,rfl,hb,h8,hs⟩:=hc
 cases r with
 |nil=>exact λhR=>am (p:=false) (λs F hs h=>bL (ad (aa (hs.L 145 _ rfl) (vJ s _ hs (jX (AW rfl h)))))) (λh=>nomatch h) λ_=>am (tB rfl) (λh=>nomatch h) λ_=>Eh (B:=444) rfl ⟨rfl,rfl⟩ (hR.fin hk)
 |cons c r=>
  exact λhR h0=>am (p:=decide (c∈jf)) (λs F hs h=>bL (ad (aa (hs.L 145 _ rfl) (vJ s _ hs (jX (w4 rfl h)))))) (λh=>cw (i:=1) rfl rfl (iw rfl) (am (p:=false) (λs F hs' h'=>bL (vK h8 s _ hs' (ci (jX (Ey (by rw [decide_eq_false (hs c r rfl (of_decide_eq_true h))];exact h')))))) (λh=>nomatch h) λ_=>cz (B:=444) ⟨rfl,rfl⟩ (hR.fin (aD.pos hk h)))) λh1=>
   am (tC rfl) (λh=>cw (i:=1) rfl rfl (iw rfl) (oW rfl hb (bP (hR.fin (aD.pos (aD.neg hk h1) h))))) λh2=>Ei (B:=444) rfl ⟨rfl,rfl⟩ hR h0 (aD.neg (aD.neg hk h1) h2)
noncomputable def Ci(B N:Nat)(b r:List Nat):aD:=match r with
 | []=>⟨true,B,some b,[bp ([60,47]++b)],[],[]⟩
 |c::r=>if c∈dP then⟨true,N,some (b++[c]),[],[c],r⟩else⟨true,B,some b,[bp ([60,47]++b)],[],c::r⟩
noncomputable def rW(B N:Nat)(tb:Option (List Nat))(r:List Nat):aD:=match tb with
 |none=>⟨false,0,none,[],[],[]⟩
 |some b=>Ci B N b r
noncomputable def Mh:X:=.and (.att (.loc 292) 144) (.cmp 0 (.meth (.sub (.att (.loc 292) 144) (.k (.str [110,97,109,101]))) 7 .nil []) (.meth (.att (.loc 292) 310) 7 .nil []))
noncomputable def Lf:S:=.asgA (.loc 292) 144 (.dct (.cons (.k (.str [116,121,112,101])) (.cons (.sub (.glo ap) (.k (.str [69,110,100,84,97,103]))) (.cons (.k (.str [110,97,109,101])) (.cons (.att (.loc 292) 310) (.cons (.k (.str [100,97,116,97])) (.cons (.lst .nil) (.cons (.k (.str [115,101,108,102,67,108,111,115,105,110,103])) (.cons (.k (.bol false)) .nil)))))))))
noncomputable def Dg(xb:Nat):S:=.iff (.and EJ (.loc 98)) (.seq Lf (.seq (gA 107) .skip)) (.seq (.iff (.and (iH 47) (.loc 98)) (.seq Lf (.seq (gA 293) .skip)) (.seq (.iff (.and (iH 62) (.loc 98)) (.seq Lf (.seq (.ex (.meth (.loc 292) 158 .nil [])) (.seq (gA 146) .skip))) (.seq (.iff tJ (.seq (.augA (.loc 292) 310 0 (.loc 145)) .skip) (AA (.bin 0 (.k (.str [60,47])) (.att (.loc 292) 310)) xb)) .skip)) .skip)) .skip)
noncomputable def tK(xb:Nat):S:=.seq (.asgN 98 Mh) (wh (Dg xb))
theorem iD{l:List (Nat×V)}{σ:Sm}{t:Tm}{k:V->List (Nat×AO)->Prop}{x:X}{A T:S}{p:Bool}{v:V}(hx:Et cF x l σ t (.c (.bol p)))(h98:lk 98 l=some v)(hv:p=true->∀H,av H v=some false)(h:GA cF T l σ t k):GA cF (.seq (.iff (.and x (.loc 98)) A T) .skip) l σ t k:=λs _ hs hc=>
 dC (qC (hx s _ hs (aa rfl (du (λhp=>ad (aa (hs.L _ _ h98) (aa (hv hp _) (fu rfl (h s _ hs hc.skip))))) λhp=>aa rfl (fu hp (h s _ hs hc.skip))))))
theorem A5{c:Nat}(h:c∈iW):c∈jf:=(by decide:∀c∈iW,c∈jf) c h
theorem lP{B N xb:Nat}(e2:oi xb B)(xs kws H k)(h:fD N (rW B N) iB xs kws H k):ai (ar [292] xs kws) λL0=>ex g4 (tK xb) ⟨L0,H,64,false⟩ (fin k):=by
 obtain⟨σ,ct,tb,d,r,e,m,rfl,rfl,rfl,v,hc,hk⟩:=h
 have hc':=hc
 obtain⟨b,rfl,hb,h8,hct⟩:=hc
 refine aa rfl ?_
 have hs:SA [] σ ⟨N,ct,some [],some b⟩ ⟨[(292,.ob 1)],Hp σ ⟨N,ct,some [],some b⟩,64,false⟩:=⟨rfl,λ_ _ e=>(nomatch e),dh _ _,Nat.le_refl _⟩
 have htl:∀(l:List (Nat×V)) σ,Et cF (.bin 0 (.k (.str [60,47])) (.att (.loc 292) 310)) l σ ⟨N,ct,some [],some b⟩ (.c (.str ([60,47]++b))):=λl σ s F hs h=>
  dJ (ci (cr (ad (aa hs.o (bF hs.h1 rfl rfl (wv (by show 2+_≤_;lia) h))))))
 have go:∀w:V,(∀H c r',r=c::r'->c∈jf->av H w=some false)->Lh cF [(98,w)] N (rW B N) (λct' tb' r'=>ct'=ct∧tb'=some b∧r'=r) (.seq (Dg xb) .skip):=by
  rintro w hw ct' tb' k d e m z σ r' ⟨rfl,rfl,rfl⟩ hk
  cases r' with
  |nil=>exact λhR=>iD (IJ rfl rfl) rfl (λh=>nomatch h) (iD (dk rfl) rfl (λh=>nomatch h) (iD (dk rfl) rfl (λh=>nomatch h) (am (tB rfl) (λh=>nomatch h) λ_=>sY rfl e2 (htl _ _) (hR.fin hk))))
  |cons c r'=>
   exact λhR h0=>iD (Ep rfl rfl) rfl (λh H=>hw H c r' rfl (A5 (of_decide_eq_true h))) (iD (cY rfl) rfl (λh H=>hw H c r' rfl (by rw [of_decide_eq_true h];decide)) (iD (cY rfl) rfl (λh H=>hw H c r' rfl (by rw [of_decide_eq_true h];decide))
    (am (tC rfl) (λh=>oW rfl hb (bP (hR.fin (aD.pos hk h)))) λh=>sZ rfl e2 (htl _ _) hR h0 (aD.neg hk h))))
 have fin':∀w:V,(∀H c r',r=c::r'->c∈jf->av H w=some false)->ex g4 (wh (Dg xb)) ⟨[(292,.ob 1),(98,w)],Hp σ ⟨N,ct,some [],some b⟩,64,false⟩ (fin k):=λw hw=>
  have hL:LF [(98,w)] [(292,.ob 1),(98,w)]:=λn u q=>by
   rw [aj] at q
   split at q
   ·rename_i y;rw [y];exact q
   ·cases q
  p8 (l:=[(98,w)]) rfl (go w hw) v ⟨rfl,rfl,rfl⟩ hk ⟨rfl,hL,dh _ _,Nat.le_refl _⟩
 rcases hct with rfl|⟨rfl,hne⟩
 ·exact bE (qC (cr (ad (aa hs.o (bF hs.h1 rfl rfl (aa rfl (fu rfl (fin' _ λ_ _ _ _ _=>rfl))))))))
 ·refine bE (qC (cr (ad (aa hs.o (bF hs.h1 rfl rfl (aa rfl (bV rfl (bL (b6 (gv (cr (ad (aa hs.o (bF hs.h1 rfl rfl (ci (A1 ?_))))))))))))))))
  refine aa (a:=M.str [101,109]) rfl (ay (Ad rfl (vK h8 _ _ hs (jX (Ey ?_)))))
  refine fin' _ λH c r' hr hc=> ?_
  show some (decide (fS [101,109]=fS b))=some false
  exact congrArg some (decide_eq_false λq=>hne q.symm c r' hr hc)
noncomputable def lf:=rW 311 381
noncomputable def qf:aK:=fD 381 lf iB
noncomputable def bo:S:=tK 259
theorem yP(xs kws H k)(h:qf xs kws H k):ai (ar [292] xs kws) λL0=>ex g4 bo ⟨L0,H,64,false⟩ (fin k):=lP (B:=311) ⟨rfl,rfl⟩ xs kws H k h
noncomputable def js:=rW 325 402
noncomputable def mL:aK:=fD 402 js iB
noncomputable def bm:S:=tK 255
theorem vT(xs kws H k)(h:mL xs kws H k):ai (ar [292] xs kws) λL0=>ex g4 bm ⟨L0,H,64,false⟩ (fin k):=lP (B:=325) ⟨rfl,rfl⟩ xs kws H k h
noncomputable def lc:=rW 332 423
noncomputable def qb:aK:=fD 423 lc iB
noncomputable def bd:S:=tK 290
theorem yM(xs kws H k)(h:qb xs kws H k):ai (ar [292] xs kws) λL0=>ex g4 bd ⟨L0,H,64,false⟩ (fin k):=lP (B:=332) ⟨rfl,rfl⟩ xs kws H k h
noncomputable def ju:=rW 444 479
noncomputable def mN:aK:=fD 479 ju iB
noncomputable def aG:S:=tK 288
theorem vX(xs kws H k)(h:mN xs kws H k):ai (ar [292] xs kws) λL0=>ex g4 aG ⟨L0,H,64,false⟩ (fin k):=lP (B:=444) ⟨rfl,rfl⟩ xs kws H k h
end Mine.A
namespace Mine.A
open Mine.B
section
variable {g:G} {s:St} {F:V->St->Prop} {k:Bool->Prop}
theorem MI(a b:Nat):Int.fdiv ((a:Int)+(b:Int)) 2=(((a+b) / 2:Nat):Int):=by
 rw [Int.fdiv_eq_ediv_of_nonneg _ (by decide)];omega
theorem Br{c:Int}:Builtin.divisionGoesByPylong c 2=false:=by
 unfold Builtin.divisionGoesByPylong
 rw [Bool.and_eq_false_iff];left;decide
end
noncomputable def kQ(l:List (List Nat)):List FV:=l.map .str
noncomputable def pI(ks:List (List Nat))(key:List Nat):Nat->Nat->Nat->Nat
 |0,lo,_=>lo
 |n+1,lo,hi=>if lo<hi then(if oI (ks.getD ((lo+hi) / 2) []) key then pI ks key n ((lo+hi) / 2+1) hi else pI ks key n lo ((lo+hi) / 2))else lo
noncomputable def pd:List (List Nat×FV):=match dL with| .c (.dct l)=>l|_=>[]
noncomputable def bX:List (List Nat):=match lk 229 xj with
 |some d=>match lk 47 d with
  |some (.c (.lst l))=>l.map λf=>match f with| .str s=>s|_=>[]
  |_=>[]
 |_=>[]
theorem zY:g4.satt 229 44=some dL:=rfl
theorem EE{g:G}{s:St}{key:List Nat}{F:Bool->St->Prop}(h:F (j3 key pd) s):nG g 8 (.c (.str key)) dL s F:=h
noncomputable def HI:X:=(X.cmp 2 (X.loc 204) (X.loc 183))
noncomputable def C7:S:=(S.seq (S.asgN 211 (X.bin 3 (X.bin 0 (X.loc 204) (X.loc 183)) (X.k (.int (2))))) (S.seq (S.iff (X.cmp 2 (X.sub (X.loc 268) (X.loc 211)) (X.loc 190)) (S.seq (S.asgN 204 (X.bin 0 (X.loc 211) (X.k (.int (1))))) S.skip) (S.seq (S.asgN 183 (X.loc 211)) S.skip)) S.skip))
noncomputable def gp:S:=(S.seq (S.iff (X.cmp 6 (X.loc 183) (X.k .non)) (S.seq (S.asgN 183 (X.fn 0 (X.cons (X.loc 268) X.nil))) S.skip) S.skip) (S.seq (S.wh 134 HI C7) (S.seq (S.ret (X.loc 204)) S.skip)))
noncomputable def z7:aK:=λxs kws H k=>∃σ t ks key lo hi,xs=[.c (.lst (kQ ks)),.c (.str key),.c (.int (lo:Nat)),.c (.int (hi:Nat))]∧kws=[]∧H=Hp σ t∧hi≤ks.length∧k (.c (.int (pI ks key ks.length lo hi:Nat))) (Hp σ t)
noncomputable abbrev Lb(ks:List (List Nat))(key:List Nat)(lo hi:Nat)(x:List (Nat×V)):List (Nat×V):=(268,.c (.lst (kQ ks)))::(190,.c (.str key))::(204,.c (.int (lo:Nat)))::(183,.c (.int (hi:Nat)))::x
theorem KZ{ks:List (List Nat)}{key:List Nat}{lo hi:Nat}{x:List (Nat×V)}{H:List (Nat×AO)}{F:V->St->Prop}(hF:F (.c (.int (((lo+hi) / 2:Nat):Int))) ⟨Lb ks key lo hi x,H,64,false⟩):
  ev g4 (X.bin 3 (X.bin 0 (X.loc 204) (X.loc 183)) (X.k (.int (2)))) ⟨Lb ks key lo hi x,H,64,false⟩ (one F):=by
 rw [←MI] at hF
 exact⟨⟨by decide,Br⟩,hF⟩
theorem wq{P:St->Prop}{K:Fl->St->Prop}{σ:Sm}{t:Tm}{ks:List (List Nat)}{key:List Nat}(hP:∀s,wt g4 HI C7 K P s->P s)(n:Nat):∀(lo hi:Nat) (x:List (Nat×V)),hi≤ks.length->hi-lo≤n->
  (∀hi' x',K .nxt ⟨Lb ks key (pI ks key n lo hi) hi' x',Hp σ t,64,false⟩)->P ⟨Lb ks key lo hi x,Hp σ t,64,false⟩:=by
 induction n with
 |zero=>
  intro lo hi x h1 h2 hk
  refine hP _ ?_
  conv=>whnf
  refine fu (decide_eq_false (by lia)) ?_
  exact hk hi x
 |succ n ih=>
  intro lo hi x h1 h2 hk
  refine hP _ ?_
  conv=>whnf
  refine du (λh=> ?_) λh=> ?_
  ·have h:lo<hi:=Int.ofNat_lt.mp (of_decide_eq_true h)
   have hm:(lo+hi) / 2<ks.length:=by lia
   have hg:(kQ ks)[(lo+hi) / 2]? =some (.str (ks.getD ((lo+hi) / 2) [])):=by
    unfold kQ
    rw [List.getElem?_map,List.getD_eq_getElem?_getD,List.getElem?_eq_getElem hm];rfl
   unfold pI at hk
   rw [if_pos h] at hk
   show ex g4 C7 ⟨Lb ks key lo hi x,Hp σ t,64,false⟩ (wo P K)
   refine bE (KZ ?_)
   conv=>whnf
   refine aa (o:=lk 211 (put 211 (.c (.int (((lo+hi) / 2:Nat):Int))) x)) ((af 211 211 _ _).trans (if_pos rfl)) ?_
   refine aa (o:=d7 _ (_:Int)) ((hU _ _).trans hg) ?_
   conv=>whnf
   refine du (λq=> ?_) λq=> ?_
   ·rw [if_pos (show oI (ks.getD ((lo+hi) / 2) []) key=true from q)] at hk
    conv=>whnf
    refine aa (o:=lk 211 (put 211 (.c (.int (((lo+hi) / 2:Nat):Int))) x)) ((af 211 211 _ _).trans (if_pos rfl)) ?_
    exact ih ((lo+hi) / 2+1) hi _ h1 (by lia) hk
   ·rw [if_neg (by rw [show oI (ks.getD ((lo+hi) / 2) []) key=false from q];decide)] at hk
    conv=>whnf
    refine aa (o:=lk 211 (put 211 (.c (.int (((lo+hi) / 2:Nat):Int))) x)) ((af 211 211 _ _).trans (if_pos rfl)) ?_
    exact ih lo ((lo+hi) / 2) _ (Nat.le_of_lt hm) (by lia) hk
  ·unfold pI at hk
   rw [if_neg (λq=>of_decide_eq_false h (Int.ofNat_lt.mpr q))] at hk
   exact hk hi x
theorem Hb(xs kws H k)(h:z7 xs kws H k):ai (ar [268,190,204,183] xs kws) λL0=>ex g4 gp ⟨L0,H,64,false⟩ (fin k):=by
 obtain⟨σ,t,ks,key,lo,hi,rfl,rfl,rfl,hh,hk⟩:=h
 refine aa rfl (dC (bL (ad (aa rfl (ci (jX (ED rfl (aa rfl (fu rfl (bD (ie (Bc λP hP=> ?_))))))))))))
 refine wq hP ks.length lo hi _ hh (by lia) λhi' x'=> ?_
 exact cW σ t hk
noncomputable def dg:S:=(S.seq (S.ret (X.cmp 8 (X.loc 190) (X.att (X.loc 292) 44))) S.skip)
noncomputable def t6:aK:=λxs kws H k=>∃σ t key,xs=[.st 229,.c (.str key)]∧kws=[]∧H=Hp σ t∧k (.c (.bol (j3 key pd))) (Hp σ t)
theorem CH(xs kws H k)(h:t6 xs kws H k):ai (ar [292,190] xs kws) λL0=>ex g4 dg ⟨L0,H,64,false⟩ (fin k):=by
 obtain⟨σ,t,key,rfl,rfl,rfl,hk⟩:=h
 refine aa rfl ?_
 refine iI (bL (ad (aa rfl (cr (ad (aa rfl (HT zY (EE ?_))))))))
 exact cW σ t hk
noncomputable def wY:List (Nat×aK):=(171,z7)::(192,t6)::cF
noncomputable def g5:G:=b7 wY
noncomputable def lz(key:List Nat):Bool:=if j3 key pd then true else if pI bX key bX.length 0 bX.length=bX.length then false else key.isPrefixOf (bX.getD (pI bX key bX.length 0 bX.length) [])
noncomputable def b9:S:=(S.seq (S.iff (X.cmp 8 (X.loc 242) (X.att (X.loc 292) 44)) (S.seq (S.ret (X.k (.bol true))) S.skip) S.skip) (S.seq (S.iff (X.meth (X.loc 242) 9 (X.cons (X.att (X.loc 292) 43) X.nil) []) (S.seq (S.asgT [(none,201),(none,182)] (X.att (X.loc 292) 42)) (S.seq (S.asgN 184 (X.call 171 (X.cons (X.att (X.loc 292) 47) (X.cons (X.loc 242) (X.cons (X.loc 201) (X.cons (X.loc 182) X.nil)))))) S.skip)) (S.seq (S.asgN 184 (X.call 171 (X.cons (X.att (X.loc 292) 47) (X.cons (X.loc 242) X.nil)))) S.skip)) (S.seq (S.iff (X.cmp 0 (X.loc 184) (X.fn 0 (X.cons (X.att (X.loc 292) 47) X.nil))) (S.seq (S.ret (X.k (.bol false))) S.skip) S.skip) (S.seq (S.ret (X.meth (X.sub (X.att (X.loc 292) 47) (X.loc 184)) 9 (X.cons (X.loc 242) X.nil) [])) S.skip))))
noncomputable def z4:aK:=λxs kws H k=>∃σ t key,xs=[.st 229,.c (.str key)]∧kws=[]∧H=Hp σ t∧(j3 key pd=false->pI bX key bX.length 0 bX.length≤bX.length)∧k (.c (.bol (lz key))) (Hp σ t)
theorem G8(xs kws H k)(h:z4 xs kws H k):ai (ar [292,242] xs kws) λL0=>ex g5 b9 ⟨L0,H,64,false⟩ (fin k):=by
 obtain⟨σ,t,key,rfl,rfl,rfl,hb,hk⟩:=h
 unfold lz at hk
 refine aa rfl ?_
 refine dC (bL (ad (aa rfl (cr (ad (aa rfl (HT zY (EE (aa rfl (du (λh=> ?_) λh=> ?_))))))))))
 ·have h:j3 key pd=true:=h
  rw [if_pos h] at hk
  exact cW σ t hk
 ·have h:j3 key pd=false:=h
  rw [if_neg (by rw [h];decide)] at hk
  have hb:=hb h
  have hsl:(kQ bX).length=bX.length:=List.length_map _
  conv=>whnf
  refine gx σ t rfl rfl rfl ⟨σ,t,bX,key,0,bX.length,rfl,rfl,rfl,Nat.le_refl _, ?_⟩
  conv=>whnf
  refine du (λq=> ?_) λq=> ?_
  ·have q:((pI bX key bX.length 0 bX.length:Nat):Int)=((kQ bX).length:Nat):=of_decide_eq_true q
   rw [if_pos (by lia)] at hk
   exact cW σ t hk
  ·have q:¬((pI bX key bX.length 0 bX.length:Nat):Int)=((kQ bX).length:Nat):=of_decide_eq_false q
   have q:¬pI bX key bX.length 0 bX.length=bX.length:=by lia
   rw [if_neg q] at hk
   have hg:(kQ bX)[pI bX key bX.length 0 bX.length]? =some (.str (bX.getD (pI bX key bX.length 0 bX.length) [])):=by
    unfold kQ
    rw [List.getElem?_map,List.getD_eq_getElem?_getD,List.getElem?_eq_getElem (by lia)];rfl
   conv=>whnf
   refine aa (o:=d7 _ (_:Int)) ((hU _ _).trans hg) ?_
   exact cW σ t hk
noncomputable def cP:S:=(S.seq (S.iff (X.cmp 8 (X.loc 242) (X.loc 292)) (S.seq (S.ret (X.loc 242)) S.skip) S.skip) (S.seq (S.frR 184 (X.cons (X.k (.int (1))) (X.cons (X.bin 0 (X.fn 0 (X.cons (X.loc 242) X.nil)) (X.k (.int (1)))) X.nil)) (S.seq (S.iff (X.cmp 8 (X.slc (X.loc 242) (X.k .non) (X.neg (X.loc 184))) (X.loc 292)) (S.seq (S.ret (X.slc (X.loc 242) (X.k .non) (X.neg (X.loc 184)))) S.skip) S.skip) S.skip)) (S.seq S.bad S.skip)))
noncomputable def z3:aK:=λxs kws H k=>∃σ t key,xs=[.st 229,.c (.str key)]∧kws=[]∧H=Hp σ t∧j3 key pd=true∧k (.c (.str key)) (Hp σ t)
theorem G7(xs kws H k)(h:z3 xs kws H k):ai (ar [292,242] xs kws) λL0=>ex g5 cP ⟨L0,H,64,false⟩ (fin k):=by
 obtain⟨σ,t,key,rfl,rfl,rfl,hb,hk⟩:=h
 refine aa rfl ?_
 refine dC (bL (ad (aa rfl (ad (aa rfl (Mk rfl ?_))))))
 refine gx σ t rfl rfl rfl ⟨σ,t,key,rfl,rfl,rfl, ?_⟩
 refine aa rfl (aa rfl (bV hb ?_))
 exact cW σ t hk
end Mine.A
namespace Mine.A
open Mine.B
noncomputable def wX:List (Nat×aK):=(213,z4)::(220,z3)::wY
noncomputable def g6:G:=b7 wX
theorem Kg:lz [97]=true:=by kernel_rfl!
theorem Kf:lz [97,109]=true:=by kernel_rfl!
theorem Ke:lz [97,109,112]=true:=by kernel_rfl!
theorem Kd:lz [97,109,112,59]=true:=by kernel_rfl!
theorem Kc(c:Nat):lz [97,109,112,59,c]=false:=by kernel_rfl!
theorem Kb:lz [108]=true:=by kernel_rfl!
theorem Ka:lz [108,116]=true:=by kernel_rfl!
theorem J9:lz [108,116,59]=true:=by kernel_rfl!
theorem J8(c:Nat):lz [108,116,59,c]=false:=by kernel_rfl!
noncomputable def jT(key:List Nat):Bool:=Nat.ble (pI bX key bX.length 0 bX.length) bX.length
theorem KY:jT [97]=true:=by kernel_rfl!
theorem KX:jT [97,109]=true:=by kernel_rfl!
theorem KW:jT [97,109,112]=true:=by kernel_rfl!
theorem KV:jT [97,109,112,59]=true:=by kernel_rfl!
theorem KU(c:Nat):jT [97,109,112,59,c]=true:=by kernel_rfl!
theorem KT:jT [108]=true:=by kernel_rfl!
theorem KS:jT [108,116]=true:=by kernel_rfl!
theorem KR:jT [108,116,59]=true:=by kernel_rfl!
theorem KQ(c:Nat):jT [108,116,59,c]=true:=by kernel_rfl!
noncomputable def kh:S:=S.seq (S.asgN 166 (X.meth (X.glo (.st 229)) 203 (X.cons (X.meth (X.k (.str [])) 2 (X.cons (X.slc (X.loc 121) (X.k .non) (X.k (.int (-1)))) X.nil) []) X.nil) [])) (S.seq (S.asgN 165 (X.fn 0 (X.cons (X.loc 166) X.nil))) S.skip)
noncomputable def g7:G:= {g6 with loop:=λl _ s k=>Bool.rec False (ex g6 kh s k) (Nat.beq l 252)}
theorem k8{s:St}{K:Fl->St->Prop}(h:ex g6 kh s K):ex g7 (.prim 252) s K:=h
noncomputable def HV(b:Bool)(l:List FV)(σ:Sm)(t:Tm):List (Nat×AO):=match b with
 |true=>(64,.lst l)::Hp σ t
 |false=>Hp σ t++[(64,.lst l)]
noncomputable def sT:X:=(X.cmp 7 (X.sub (X.loc 121) (X.k (.int (-1)))) (X.glo (.c .non)))
noncomputable def sU:S:=(S.seq (S.iff (X.not (X.meth (X.glo (.st 229)) 178 (X.cons (X.meth (X.k (.str [])) 2 (X.cons (X.loc 121) X.nil) []) X.nil) [])) (S.seq S.brk S.skip) S.skip) (S.seq (S.ex (X.meth (X.loc 121) 0 (X.cons (X.meth (X.att (X.loc 292) 305) 119 X.nil []) X.nil) [])) S.skip))
noncomputable def pD:S:=(S.seq (S.iff (X.loc 176) (S.seq S.bad S.skip) (S.seq (S.iff (X.cmp 8 (X.loc 229) (X.glo (.c (.tup [(.str [9]),(.str [10]),(.str [12]),(.str [32]),(.str [13])])))) (S.seq (S.asgN 314 (X.k (.str [83,112,97,99,101,67,104,97,114,97,99,116,101,114,115]))) S.skip) (S.seq (S.asgN 314 (X.k (.str [67,104,97,114,97,99,116,101,114,115]))) S.skip)) (S.seq (S.ex (X.meth (X.att (X.loc 292) 313) 0 (X.cons (X.dct (X.cons (X.k (.str [116,121,112,101])) (X.cons (X.sub (X.glo ap) (X.loc 314)) (X.cons (X.k (.str [100,97,116,97])) (X.cons (X.loc 229) X.nil))))) X.nil) [])) S.skip))) S.skip)
noncomputable def pC:S:=(S.seq (S.prim 252) (S.seq (S.iff (X.cmp 7 (X.loc 166) (X.k .non)) (S.seq (S.iff (X.cmp 1 (X.sub (X.loc 166) (X.k (.int (-1)))) (X.k (.str [59]))) (S.seq (S.ex (X.meth (X.att (X.loc 292) 313) 0 (X.cons (X.dct (X.cons (X.k (.str [116,121,112,101])) (X.cons (X.sub (X.glo ap) (X.k (.str [80,97,114,115,101,69,114,114,111,114]))) (X.cons (X.k (.str [100,97,116,97])) (X.cons (X.k (.str [110,97,109,101,100,45,101,110,116,105,116,121,45,119,105,116,104,111,117,116,45,115,101,109,105,99,111,108,111,110])) X.nil))))) X.nil) [])) S.skip) S.skip) (S.seq (S.iff (X.and (X.cmp 1 (X.sub (X.loc 166) (X.k (.int (-1)))) (X.k (.str [59]))) (X.and (X.loc 176) (X.or (X.cmp 8 (X.sub (X.loc 121) (X.loc 165)) (X.glo a6)) (X.or (X.cmp 8 (X.sub (X.loc 121) (X.loc 165)) (X.glo jL)) (X.cmp 0 (X.sub (X.loc 121) (X.loc 165)) (X.k (.str [61]))))))) (S.seq (S.ex (X.meth (X.att (X.loc 292) 305) 321 (X.cons (X.meth (X.loc 121) 1 X.nil []) X.nil) [])) (S.seq (S.asgN 229 (X.bin 0 (X.k (.str [38])) (X.meth (X.k (.str [])) 2 (X.cons (X.loc 121) X.nil) []))) S.skip)) (S.seq (S.asgN 229 (X.sub (X.glo dL) (X.loc 166))) (S.seq (S.ex (X.meth (X.att (X.loc 292) 305) 321 (X.cons (X.meth (X.loc 121) 1 X.nil []) X.nil) [])) (S.seq (S.augN 229 0 (X.meth (X.k (.str [])) 2 (X.cons (X.slc (X.loc 121) (X.loc 165) (X.k .non)) X.nil) [])) S.skip)))) S.skip)) (S.seq (S.ex (X.meth (X.att (X.loc 292) 313) 0 (X.cons (X.dct (X.cons (X.k (.str [116,121,112,101])) (X.cons (X.sub (X.glo ap) (X.k (.str [80,97,114,115,101,69,114,114,111,114]))) (X.cons (X.k (.str [100,97,116,97])) (X.cons (X.k (.str [101,120,112,101,99,116,101,100,45,110,97,109,101,100,45,101,110,116,105,116,121])) X.nil))))) X.nil) [])) (S.seq (S.ex (X.meth (X.att (X.loc 292) 305) 321 (X.cons (X.meth (X.loc 121) 1 X.nil []) X.nil) [])) (S.seq (S.asgN 229 (X.bin 0 (X.k (.str [38])) (X.meth (X.k (.str [])) 2 (X.cons (X.loc 121) X.nil) []))) S.skip)))) S.skip))
noncomputable def aJ:S:=(S.seq (S.asgN 229 (X.k (.str [38]))) (S.seq (S.asgN 121 (X.lst (X.cons (X.meth (X.att (X.loc 292) 305) 119 X.nil []) X.nil))) (S.seq (S.iff (X.or (X.cmp 8 (X.sub (X.loc 121) (X.k (.int (0)))) (X.glo (.c (.tup [(.str [9]),(.str [10]),(.str [12]),(.str [32]),(.str [13])])))) (X.or (X.cmp 8 (X.sub (X.loc 121) (X.k (.int (0)))) (X.tup (X.cons (X.glo (.c .non)) (X.cons (X.k (.str [60])) (X.cons (X.k (.str [38])) X.nil))))) (X.and (X.cmp 7 (X.loc 97) (X.k .non)) (X.cmp 0 (X.loc 97) (X.sub (X.loc 121) (X.k (.int (0)))))))) (S.seq (S.ex (X.meth (X.att (X.loc 292) 305) 321 (X.cons (X.sub (X.loc 121) (X.k (.int (0)))) X.nil) [])) S.skip) (S.seq (S.iff (X.cmp 0 (X.sub (X.loc 121) (X.k (.int (0)))) (X.k (.str [35]))) (S.seq (S.asgN 180 (X.k (.bol false))) (S.seq (S.ex (X.meth (X.loc 121) 0 (X.cons (X.meth (X.att (X.loc 292) 305) 119 X.nil []) X.nil) [])) (S.seq (S.iff (X.cmp 8 (X.sub (X.loc 121) (X.k (.int (-1)))) (X.tup (X.cons (X.k (.str [120])) (X.cons (X.k (.str [88])) X.nil)))) (S.seq (S.asgN 180 (X.k (.bol true))) (S.seq (S.ex (X.meth (X.loc 121) 0 (X.cons (X.meth (X.att (X.loc 292) 305) 119 X.nil []) X.nil) [])) S.skip)) S.skip) (S.seq (S.iff (X.or (X.and (X.loc 180) (X.cmp 8 (X.sub (X.loc 121) (X.k (.int (-1)))) (X.glo iP))) (X.and (X.not (X.loc 180)) (X.cmp 8 (X.sub (X.loc 121) (X.k (.int (-1)))) (X.glo jL)))) (S.seq (S.ex (X.meth (X.att (X.loc 292) 305) 321 (X.cons (X.sub (X.loc 121) (X.k (.int (-1)))) X.nil) [])) (S.seq (S.asgN 229 (X.meth (X.loc 292) 143 (X.cons (X.loc 180) X.nil) [])) S.skip)) (S.seq (S.ex (X.meth (X.att (X.loc 292) 313) 0 (X.cons (X.dct (X.cons (X.k (.str [116,121,112,101])) (X.cons (X.sub (X.glo ap) (X.k (.str [80,97,114,115,101,69,114,114,111,114]))) (X.cons (X.k (.str [100,97,116,97])) (X.cons (X.k (.str [101,120,112,101,99,116,101,100,45,110,117,109,101,114,105,99,45,101,110,116,105,116,121])) X.nil))))) X.nil) [])) (S.seq (S.ex (X.meth (X.att (X.loc 292) 305) 321 (X.cons (X.meth (X.loc 121) 1 X.nil []) X.nil) [])) (S.seq (S.asgN 229 (X.bin 0 (X.k (.str [38])) (X.meth (X.k (.str [])) 2 (X.cons (X.loc 121) X.nil) []))) S.skip)))) S.skip)))) (S.seq (S.wh 248 sT sU) pC)) S.skip)) pD)))
noncomputable abbrev Lc:List (Nat×V):=[(292,.ob 1),(97,.c .non),(176,.c (.bol false)),(229,.c (.str [38])),(121,.ob 64)]
theorem eY{P:St->Prop}{K:Fl->St->Prop}{σ:Sm}{st:Nat}{ct:FV}{tb:Option (List Nat)}{d r:List Nat}{e m:Nat}{l:List FV}{y key:List Nat}{b:Bool}(hP:∀s,wt g7 sT sU K P s->P s)(hi':d7 l (-1)=some (.str y))(hj:dK [] l=some key)(hl:Nat.ble (key.length+l.length) 1000=true)
  (hk:lz key=true) (hb:jT key=true) (v:aB σ d r e m)
  (h:∀Z' e' m',e'+m'=e+m->m'≤m->match r with
   | []=>aB Z' d [] e' m'->P ⟨Lc,HV false (l++[.non]) Z' ⟨st,ct,some [],tb⟩,65,false⟩
   |c::r'=>aB Z' (d++[c]) r' e' m'->0<Z'.off->P ⟨Lc,HV false (l++[.str [c]]) Z' ⟨st,ct,some [],tb⟩,65,false⟩):P ⟨Lc,HV b l σ ⟨st,ct,some [],tb⟩,65,false⟩:=by
 have hl:=Nat.le_of_ble_eq_true hl
 cases b
 all_goals
  refine hP _ ?_
  conv=>whnf
  refine aa (o:=d7 l (-1)) hi' ?_
  conv=>whnf
  refine aa (o:=dK [] l) hj ?_
  refine⟨by simp only [List.length_nil];lia, ?_⟩
  conv=>whnf
  refine eA σ ⟨st,ct,some [],tb⟩ rfl rfl rfl ⟨σ,⟨st,ct,some [],tb⟩,key,rfl,rfl,rfl,λ_=>Nat.le_of_ble_eq_true hb, ?_⟩
  rw [hk]
  conv=>whnf
  refine eA σ ⟨st,ct,some [],tb⟩ rfl rfl rfl ⟨σ,⟨st,ct,some [],tb⟩,d,r,e,m,rfl,rfl,rfl,v,λZ' e' m' h1 h2 _=> ?_⟩
  have h:=h Z' e' m' h1 h2
  have hl:l.length+1≤16777216:=by lia
  obtain _|⟨c,r⟩:=r
  ·exact λv'=>⟨hl,h v'⟩
  ·exact λv' ho=>⟨hl,h v' ho⟩
theorem ru{P:St->Prop}{K:Fl->St->Prop}{σ:Sm}{st:Nat}{ct:FV}{tb:Option (List Nat)}{l:List FV}{y key:List Nat}(hP:∀s,wt g7 sT sU K P s->P s)(hi':d7 l (-1)=some (.str y))(hj:dK [] l=some key)(hl:Nat.ble (key.length+l.length) 1000=true)
  (hk:lz key=false) (hb:jT key=true) (h:K .nxt ⟨Lc,HV false l σ ⟨st,ct,some [],tb⟩,65,false⟩):P ⟨Lc,HV false l σ ⟨st,ct,some [],tb⟩,65,false⟩:=by
 have hl:=Nat.le_of_ble_eq_true hl
 refine hP _ ?_
 conv=>whnf
 refine aa (o:=d7 l (-1)) hi' ?_
 conv=>whnf
 refine aa (o:=dK [] l) hj ?_
 refine⟨by simp only [List.length_nil];lia, ?_⟩
 conv=>whnf
 refine eA σ ⟨st,ct,some [],tb⟩ rfl rfl rfl ⟨σ,⟨st,ct,some [],tb⟩,key,rfl,rfl,rfl,λ_=>Nat.le_of_ble_eq_true hb, ?_⟩
 rw [hk]
 exact h
theorem wb{P:St->Prop}{K:Fl->St->Prop}{σ:Sm}{st:Nat}{ct:FV}{tb:Option (List Nat)}{l:List FV}(hP:∀s,wt g7 sT sU K P s->P s)(hi':d7 l (-1)=some .non)
  (h:K .nxt ⟨Lc,HV false l σ ⟨st,ct,some [],tb⟩,65,false⟩):P ⟨Lc,HV false l σ ⟨st,ct,some [],tb⟩,65,false⟩:=by
 refine hP _ ?_
 conv=>whnf
 exact aa (o:=d7 l (-1)) hi' h
end Mine.A
namespace Mine.A
open Mine.B
theorem wd{σ:Sm}{st:Nat}{ct:FV}{tb:Option (List Nat)}{k:V->List (Nat×AO)->Prop}{c:Nat}(u1:σ.off≠0)(u2:d7 σ.chunk (σ.off-1)=some c)
  (hk:k (.c .non) (Hp {σ with off:=σ.off-1} ⟨st,ct,some [bp [38]],tb⟩)):ex g7 pC ⟨Lc,HV false [.str [97],.str [109],.str [112],.str [59],.str [c]] σ ⟨st,ct,some [],tb⟩,65,false⟩ (sq g7 S.skip (sq g7 S.skip (sq g7 pD (fin k)))):=by
 refine jh (k8 ?_)
 conv=>whnf
 refine⟨Nat.le_of_ble_eq_true rfl, ?_⟩
 conv=>whnf
 refine eA σ ⟨st,ct,some [],tb⟩ rfl rfl rfl ⟨σ,⟨st,ct,some [],tb⟩,[97,109,112,59],rfl,rfl,rfl,rfl, ?_⟩
 conv=>whnf
 refine eA σ ⟨st,ct,some [],tb⟩ rfl rfl rfl (.inr ⟨σ,⟨st,ct,some [],tb⟩,c,rfl,rfl,rfl,u1,u2, ?_⟩)
 conv=>whnf
 refine⟨Nat.le_of_ble_eq_true rfl, ?_⟩
 conv=>whnf
 refine⟨Nat.le_of_ble_eq_true rfl, ?_⟩
 conv=>whnf
 refine⟨Nat.le_of_ble_eq_true rfl, ?_⟩
 conv=>whnf
 refine bV (iO {σ with off:=σ.off-1} ⟨st,ct,some [bp [38]],tb⟩ ?_) hk
 rfl
theorem wc{σ:Sm}{st:Nat}{ct:FV}{tb:Option (List Nat)}{k:V->List (Nat×AO)->Prop}
  (hk:k (.c .non) (Hp σ ⟨st,ct,some [bp [38]],tb⟩)):ex g7 pC ⟨Lc,HV false [.str [97],.str [109],.str [112],.str [59],.non] σ ⟨st,ct,some [],tb⟩,65,false⟩ (sq g7 S.skip (sq g7 S.skip (sq g7 pD (fin k)))):=by
 refine jh (k8 ?_)
 conv=>whnf
 refine⟨Nat.le_of_ble_eq_true rfl, ?_⟩
 conv=>whnf
 refine eA σ ⟨st,ct,some [],tb⟩ rfl rfl rfl ⟨σ,⟨st,ct,some [],tb⟩,[97,109,112,59],rfl,rfl,rfl,rfl, ?_⟩
 conv=>whnf
 refine eA σ ⟨st,ct,some [],tb⟩ rfl rfl rfl (.inl ⟨σ,⟨st,ct,some [],tb⟩,rfl,rfl,rfl, ?_⟩)
 conv=>whnf
 refine⟨Nat.le_of_ble_eq_true rfl, ?_⟩
 conv=>whnf
 refine⟨Nat.le_of_ble_eq_true rfl, ?_⟩
 conv=>whnf
 refine⟨Nat.le_of_ble_eq_true rfl, ?_⟩
 conv=>whnf
 refine bV (iO σ ⟨st,ct,some [bp [38]],tb⟩ ?_) hk
 rfl
theorem y7{σ:Sm}{st:Nat}{ct:FV}{tb:Option (List Nat)}{k:V->List (Nat×AO)->Prop}{c:Nat}(u1:σ.off≠0)(u2:d7 σ.chunk (σ.off-1)=some c)
  (hk:k (.c .non) (Hp {σ with off:=σ.off-1} ⟨st,ct,some [bp [60]],tb⟩)):ex g7 pC ⟨Lc,HV false [.str [108],.str [116],.str [59],.str [c]] σ ⟨st,ct,some [],tb⟩,65,false⟩ (sq g7 S.skip (sq g7 S.skip (sq g7 pD (fin k)))):=by
 refine jh (k8 ?_)
 conv=>whnf
 refine⟨Nat.le_of_ble_eq_true rfl, ?_⟩
 conv=>whnf
 refine eA σ ⟨st,ct,some [],tb⟩ rfl rfl rfl ⟨σ,⟨st,ct,some [],tb⟩,[108,116,59],rfl,rfl,rfl,rfl, ?_⟩
 conv=>whnf
 refine eA σ ⟨st,ct,some [],tb⟩ rfl rfl rfl (.inr ⟨σ,⟨st,ct,some [],tb⟩,c,rfl,rfl,rfl,u1,u2, ?_⟩)
 conv=>whnf
 refine⟨Nat.le_of_ble_eq_true rfl, ?_⟩
 conv=>whnf
 refine⟨Nat.le_of_ble_eq_true rfl, ?_⟩
 conv=>whnf
 refine⟨Nat.le_of_ble_eq_true rfl, ?_⟩
 conv=>whnf
 refine bV (iO {σ with off:=σ.off-1} ⟨st,ct,some [bp [60]],tb⟩ ?_) hk
 rfl
theorem y6{σ:Sm}{st:Nat}{ct:FV}{tb:Option (List Nat)}{k:V->List (Nat×AO)->Prop}
  (hk:k (.c .non) (Hp σ ⟨st,ct,some [bp [60]],tb⟩)):ex g7 pC ⟨Lc,HV false [.str [108],.str [116],.str [59],.non] σ ⟨st,ct,some [],tb⟩,65,false⟩ (sq g7 S.skip (sq g7 S.skip (sq g7 pD (fin k)))):=by
 refine jh (k8 ?_)
 conv=>whnf
 refine⟨Nat.le_of_ble_eq_true rfl, ?_⟩
 conv=>whnf
 refine eA σ ⟨st,ct,some [],tb⟩ rfl rfl rfl ⟨σ,⟨st,ct,some [],tb⟩,[108,116,59],rfl,rfl,rfl,rfl, ?_⟩
 conv=>whnf
 refine eA σ ⟨st,ct,some [],tb⟩ rfl rfl rfl (.inl ⟨σ,⟨st,ct,some [],tb⟩,rfl,rfl,rfl, ?_⟩)
 conv=>whnf
 refine⟨Nat.le_of_ble_eq_true rfl, ?_⟩
 conv=>whnf
 refine⟨Nat.le_of_ble_eq_true rfl, ?_⟩
 conv=>whnf
 refine⟨Nat.le_of_ble_eq_true rfl, ?_⟩
 conv=>whnf
 refine bV (iO σ ⟨st,ct,some [bp [60]],tb⟩ ?_) hk
 rfl
noncomputable def Iy(o:Nat):List Nat:=if o=38 then [97,109,112,59]else [108,116,59]
noncomputable def EX:aK:=λxs kws H k=>∃σ st ct tb d r e m o,xs=[.ob 1]∧kws=[]∧H=Hp σ ⟨st,ct,some [],tb⟩∧(o=38∨o=60)∧aB σ d (Iy o++r) e m∧
 ∀Z' e' m',e'+m'=e+m->m'≤m->(σ.off=σ.size->m'=0)->aB Z' (d++Iy o) r e' m'->k (.c .non) (Hp Z' ⟨st,ct,some [bp [o]],tb⟩)
noncomputable def wu(xs:List V)(kws:List Nat):Option (List (Nat×V)):=Bool.rec none (ed (o1 xs) λx=>[(292,x),(97,.c .non),(176,.c (.bol false))]) (!cg kws)
theorem zc{xs:List V}{kws:List Nat}{L0:List (Nat×V)}(h:wu xs kws=some L0):∃x,xs=[x]∧kws=[]∧L0=[(292,x),(97,.c .non),(176,.c (.bol false))]:=by
 induction kws using List.casesOn with
 |cons _ _=>exact ax h
 |nil=>obtain⟨x,e,rfl⟩:=cm h;exact⟨x,rY e,rfl,rfl⟩
theorem vZ{σ:Sm}{st:Nat}{ct:FV}{tb:Option (List Nat)}{d r:List Nat}{e m:Nat}{k:V->List (Nat×AO)->Prop}(v:aB σ d (97::109::112::59::r) e m)
  (hk:∀Z' e' m',e'+m'=e+m->m'≤m->(σ.off=σ.size->m'=0)->aB Z' (d++[97,109,112,59]) r e' m'->k (.c .non) (Hp Z' ⟨st,ct,some [bp [38]],tb⟩)):
  ex g7 aJ ⟨[(292,.ob 1),(97,.c .non),(176,.c (.bol false))],Hp σ ⟨st,ct,some [],tb⟩,64,false⟩ (fin k):=by
 conv=>whnf
 refine gx σ ⟨st,ct,some [],tb⟩ rfl rfl rfl ⟨σ,⟨st,ct,some [],tb⟩,d,_,e,m,rfl,rfl,rfl,v,λZ1 e1 m1 a1 b1 c1 v1 o1=> ?_⟩
 conv=>whnf
 show∀P:St->Prop,(∀s,wt g7 sT sU (sq g7 pC (sq g7 S.skip (sq g7 S.skip (sq g7 pD (fin k))))) P s->P s)->P ⟨Lc,HV true [.str [97]] Z1 ⟨st,ct,some [],tb⟩,65,false⟩
 refine λP hP=> ?_
 refine eY (b:=true) (l:=[.str [97]]) (σ:=Z1) hP rfl rfl rfl Kg KY v1 λZ2 e2 m2 a2 b2=> ?_
 intro v2 o2
 refine eY (b:=false) (l:=[.str [97],.str [109]]) (σ:=Z2) hP rfl rfl rfl Kf KX v2 λσ3 e3 m3 a3 b3=> ?_
 intro v3 o3
 refine eY (b:=false) (l:=[.str [97],.str [109],.str [112]]) (σ:=σ3) hP rfl rfl rfl Ke KW v3 λσ4 e4 m4 a4 b4=> ?_
 intro v4 o4
 refine eY (b:=false) (l:=[.str [97],.str [109],.str [112],.str [59]]) (σ:=σ4) hP rfl rfl rfl Kd KV v4 λZ5 e5 m5 a5 b5=> ?_
 obtain _|⟨c,r⟩:=r
 ·intro v5
  simp only [List.append_assoc,List.cons_append,List.nil_append] at v5
  refine wb hP rfl ?_
  refine ie (wc ?_)
  exact hk Z5 e5 m5 (by lia) (by lia) (λz=>by have:=c1 z;lia) v5
 ·intro v5 o5
  obtain⟨u1,u2,u3⟩:=v5.unget o5
  simp only [List.append_assoc,List.cons_append,List.nil_append] at u3
  refine ru hP rfl rfl rfl (Kc c) (KU c) ?_
  refine ie (wd u1 u2 ?_)
  exact hk _ e5 m5 (by lia) (by lia) (λz=>by have:=c1 z;lia) u3
theorem yV{σ:Sm}{st:Nat}{ct:FV}{tb:Option (List Nat)}{d r:List Nat}{e m:Nat}{k:V->List (Nat×AO)->Prop}(v:aB σ d (108::116::59::r) e m)
  (hk:∀Z' e' m',e'+m'=e+m->m'≤m->(σ.off=σ.size->m'=0)->aB Z' (d++[108,116,59]) r e' m'->k (.c .non) (Hp Z' ⟨st,ct,some [bp [60]],tb⟩)):
  ex g7 aJ ⟨[(292,.ob 1),(97,.c .non),(176,.c (.bol false))],Hp σ ⟨st,ct,some [],tb⟩,64,false⟩ (fin k):=by
 conv=>whnf
 refine gx σ ⟨st,ct,some [],tb⟩ rfl rfl rfl ⟨σ,⟨st,ct,some [],tb⟩,d,_,e,m,rfl,rfl,rfl,v,λZ1 e1 m1 a1 b1 c1 v1 o1=> ?_⟩
 conv=>whnf
 show∀P:St->Prop,(∀s,wt g7 sT sU (sq g7 pC (sq g7 S.skip (sq g7 S.skip (sq g7 pD (fin k))))) P s->P s)->P ⟨Lc,HV true [.str [108]] Z1 ⟨st,ct,some [],tb⟩,65,false⟩
 refine λP hP=> ?_
 refine eY (b:=true) (l:=[.str [108]]) (σ:=Z1) hP rfl rfl rfl Kb KT v1 λZ2 e2 m2 a2 b2=> ?_
 intro v2 o2
 refine eY (b:=false) (l:=[.str [108],.str [116]]) (σ:=Z2) hP rfl rfl rfl Ka KS v2 λσ3 e3 m3 a3 b3=> ?_
 intro v3 o3
 refine eY (b:=false) (l:=[.str [108],.str [116],.str [59]]) (σ:=σ3) hP rfl rfl rfl J9 KR v3 λσ4 e4 m4 a4 b4=> ?_
 obtain _|⟨c,r⟩:=r
 ·intro v4
  simp only [List.append_assoc,List.cons_append,List.nil_append] at v4
  refine wb hP rfl ?_
  refine ie (y6 ?_)
  exact hk σ4 e4 m4 (by lia) (by lia) (λz=>by have:=c1 z;lia) v4
 ·intro v4 o4
  obtain⟨u1,u2,u3⟩:=v4.unget o4
  simp only [List.append_assoc,List.cons_append,List.nil_append] at u3
  refine ru hP rfl rfl rfl (J8 c) (KQ c) ?_
  refine ie (y7 u1 u2 ?_)
  exact hk _ e4 m4 (by lia) (by lia) (λz=>by have:=c1 z;lia) u3
theorem KD(xs kws H k)(h:EX xs kws H k):ai (wu xs kws) λL0=>ex g7 aJ ⟨L0,H,64,false⟩ (fin k):=by
 obtain⟨σ,st,ct,tb,d,r,e,m,o,rfl,rfl,rfl,ho,v,hk⟩:=h
 refine aa rfl ?_
 rcases ho with rfl|rfl
 ·exact vZ v hk
 ·exact yV v hk
end Mine.A
namespace Mine.A
open Mine.B
noncomputable def rG:List (Nat×aK):=(276,EX)::wX
noncomputable def g8:G:=b7 rG
noncomputable def Hx(r:List Nat):Option (Nat×List Nat):=if r.take 4=[97,109,112,59]then some (38,r.drop 4)else if r.take 3=[108,116,59]then some (60,r.drop 3)else none
theorem we{r r':List Nat}{o:Nat}(h:Hx r=some (o,r')):(o=38∨o=60)∧r=Iy o++r':=by
 unfold Hx at h
 split at h
 ·rename_i q;cases h;exact⟨.inl rfl,by show r=[97,109,112,59]++r.drop 4;rw [←q,List.take_append_drop]⟩
 ·split at h
  ·rename_i q;cases h;exact⟨.inr rfl,by show r=[108,116,59]++r.drop 3;rw [←q,List.take_append_drop]⟩
  ·cases h
noncomputable def gV(st:Nat)(tb:Option (List Nat))(r:List Nat):aD:=match Hx r with
 |some p=>⟨true,st,tb,[bp [p.1]],Iy p.1,p.2⟩
 |none=>⟨false,0,none,[],[],[]⟩
noncomputable def lV(_:FV)(_:Option (List Nat))(r:List Nat):Prop:=(Hx r).isSome=true
noncomputable def AX(xb:Nat):S:=.seq (.ex (.meth (.loc 292) 142 .nil [])) (.seq (gA xb) HW)
theorem vP{B K xb:Nat}(e1:oi xb B)(xs kws H k)(h:fD K (gV B) lV xs kws H k):ai (ar [292] xs kws) λL0=>ex g8 (AX xb) ⟨L0,H,64,false⟩ (fin k):=by
 obtain⟨σ,ct,tb,d,r,e,m,rfl,rfl,rfl,v,hc,hk⟩:=h
 unfold lV at hc
 unfold gV at hk
 cases q:Hx r with
 |none=>rw [q] at hc;cases hc
 |some p=>
  obtain⟨o,r'⟩:=p
  rw [q] at hk
  obtain⟨q1,rfl⟩:=we q
  have hs:SA [] σ ⟨K,ct,some [],tb⟩ ⟨[(292,.ob 1)],Hp σ ⟨K,ct,some [],tb⟩,64,false⟩:=⟨rfl,λ_ _ e=>(nomatch e),dh _ _,Nat.le_refl _⟩
  have hm:iY g8 (.ob 1) 142 [] ⟨[(292,.ob 1)],Hp σ ⟨K,ct,some [],tb⟩,64,false⟩=some (.fn 276 (.ob 1)):=by
   exact BP hs.h1 (zN _ rfl) rfl
  refine aa rfl (kU (b6 (ad (aa rfl (aa hm (ay (oG (eA σ _ rfl rfl hs.H ?_))))))))
  refine⟨σ,K,ct,tb,d,r',e,m,o,rfl,rfl,rfl,q1,v,λZ' e' m' h1 h2 h3 v'=> ?_⟩
  exact jg (kC (tab:=rG) e1.1 e1.2 (bP (hk Z' e' m' h1 h2 h3 v')) _ _ (hs.call Z' ⟨K,ct,some [bp [o]],tb⟩) pB)
noncomputable def aZ:S:=AX 259
noncomputable def bO:S:=AX 146
noncomputable def ko:aK:=fD 318 (gV 311) lV
noncomputable def mO:aK:=fD 304 (gV 297) lV
theorem sN(xs kws H k)(h:ko xs kws H k):ai (ar [292] xs kws) λL0=>ex g8 aZ ⟨L0,H,64,false⟩ (fin k):=vP ⟨rfl,rfl⟩ xs kws H k h
theorem vY(xs kws H k)(h:mO xs kws H k):ai (ar [292] xs kws) λL0=>ex g8 bO ⟨L0,H,64,false⟩ (fin k):=vP ⟨rfl,rfl⟩ xs kws H k h
end Mine.A
namespace Mine.B
open Mine.A
open Mine.Head
theorem dY{α:Type}(x:α){l:List α}(h:l.length≤4):∃a b c d,l=[a,b,c,d].take l.length:=by
 induction l using List.casesOn with
 |nil=>exact⟨x,x,x,x,rfl⟩
 |cons a l=>
  induction l using List.casesOn with
  |nil=>exact⟨a,x,x,x,rfl⟩
  |cons b l=>
   induction l using List.casesOn with
   |nil=>exact⟨a,b,x,x,rfl⟩
   |cons c l=>
    induction l using List.casesOn with
    |nil=>exact⟨a,b,c,x,rfl⟩
    |cons d l=>
     induction l using List.casesOn with
     |nil=>exact⟨a,b,c,d,rfl⟩
     |cons e l=>exact absurd h (Nat.not_le_of_lt (Nat.succ_lt_succ (Nat.succ_lt_succ (Nat.succ_lt_succ (Nat.succ_lt_succ (Nat.succ_pos _))))))
theorem xR{α:Type}{l:List α}(h:l.isEmpty=true){t:α}(ht:t∈l){p:Prop}:p:=by
 rw [List.isEmpty_iff.mp h] at ht;exact(List.not_mem_nil ht).elim
noncomputable def D5(P:Params)(fa:Nat)(pn:List Nat):S×Bool×Bool×Bool:=(cB cp (fd P fa).scope 60 (a7 (fd P fa)),(fd P fa).scope.isGenerator,(kT cp 60 (a7 (fd P fa))).isEmpty,eP (fd P fa) pn)
noncomputable def dQ(P:Params)(fa:Nat)(pn:List Nat)(x:S):Prop:=
 (D5 P fa pn,λa b c d=>bindArgs (fd P fa) ⟨[a,b,c,d].take pn.length,[]⟩)=((x,false,true,true),λa b c d=>pure ((pn.map nm).zip ([a,b,c,d].take pn.length)))
noncomputable def rx(fd:FuncData)(vs:List Value): {k:Option (Array Value)->Sem (List (PySem.Str×Value)) // bindArgs fd ⟨vs,[]⟩=seqItems? fd.defaults>>=k}:=⟨_,rfl⟩
noncomputable def dV(f:FV):Value:=FV.casesOn (motive_1:=λ_=>Value) f .none (λb=>.bool b) (λ_=>.none) (λ_=>.none) (λ_=>.none) (λ_=>.none) (λ_=>.none)
noncomputable def Ca(f:FV):Bool:=FV.casesOn (motive_1:=λ_=>Bool) f true (λ_=>true) (λ_=>false) (λ_=>false) (λ_=>false) (λ_=>false) (λ_=>false)
theorem Hf{w:World}{gh:Gh}{fs:List FV}(h:fs.all Ca=true):eE (C w).prog (C w).w gh (fs.map dV) (fs.map .c):=by
 induction fs with
 |nil=>exact .nil
 |cons f fs ih=>
  obtain⟨h1,h2⟩:=bg h
  refine .cons ?_ (ih h2)
  induction f using FV.casesOn with
  |non=>exact fA .non
  |bol b=>exact fA (.bol b)
  |_=>exact bU h1
noncomputable def jQ(P:Params)(fa:Nat):Option (Array Value):=az (wS (fd P fa).defaults) λa=>Bool.rec none (ed (yX (d3 P a).data) λp=>p.1) (Nat.blt a 785)
theorem l8{w:World}{fa:Nat}{it:Array Value}(h:jQ w.params fa=some it){s:Shared}(kb:∀a o,(C w).base.get? a=some o->s.heap.get? a=some o){vs:List Value}{bs:List (PySem.Str×Value)}
  (hb:(rx (fd w.params fa) vs).1 (some it)=pure bs):BindsTo s (fd w.params fa) ⟨vs,[]⟩ bs:=by
 obtain⟨a,e,h⟩:=aw h
 have h:(Bool.rec none (ed (yX (d3 w.params a).data) λp=>p.1) (Nat.blt a 785):Option (Array Value))=some it:=h
 cases q:Nat.blt a 785 with
 |false=>rw [q] at h;exact ax h
 |true=>
  rw [q] at h
  obtain⟨p,e1,rfl⟩:=cm h
  exact BindsTo.of_defaults (nT e) (kb _ _ (ck _ (dN q))) (v7 e1) (rx (fd w.params fa) vs).2 hb
theorem HF{w:World}{fa:Nat}{pn:List Nat}(hl:eP (fd w.params fa) pn=true){it:Array Value}(hd:jQ w.params fa=some it)
  (h1:∀vs:List Value,vs.length=pn.length->(rx (fd w.params fa) vs).1 (some it)=pure ((pn.map nm).zip vs)):tr w fa (ar pn):=by
 intro gh s vs xs kws L0 _ kb hv hb
 obtain⟨rfl,hlen,rfl⟩:=ry hb
 exact lY hl hv (by rw [bq];exact l8 hd kb (h1 vs ((jd hv).trans hlen)))
theorem Ay{w:World}{fa:Nat}{pn:List Nat}{ds:List FV}{xs:List V}(hl:eP (fd w.params fa) pn=true)(hv:ds.all Ca=true)(hd:jQ w.params fa=some (ds.map dV).toArray)
  (h1:∀vs:List Value,vs.length=xs.length->(rx (fd w.params fa) vs).1 (some (ds.map dV).toArray)=pure ((pn.map nm).zip (vs++ds.map dV))) {gh:Gh} {s:Shared} {vs:List Value} (kb:∀a o,(C w).base.get? a=some o->s.heap.get? a=some o) (hvs:eE (C w).prog (C w).w gh vs xs):
  ∃bs,BindsTo s (fd w.params fa) (cn (C w) vs []) bs∧(∀x∈bs,(fd w.params fa).scope.names.lookup x.1=some .local)∧∀n v,lk n (pn.zip (xs++ds.map .c))=some v->∃u,bs.reverse.lookup ((C w).nm n)=some u∧RV (C w).prog (C w).w gh u v:=
 lY hl (hvs.app (Hf hv)) (by rw [bq];exact l8 hd kb (h1 vs (jd hvs)))
theorem zd{pn:List Nat}{d:FV}{xs:List V}{kws:List Nat}{L0:List (Nat×V)}(h:hY pn d xs kws=some L0):kws=[]∧(xs.length=pn.length∧L0=pn.zip xs∨xs.length+1=pn.length∧L0=pn.zip (xs++[.c d])):=by
 induction kws using List.casesOn with
 |cons _ _=>exact ax h
 |nil=>
  refine⟨rfl, ?_⟩
  have h:(Bool.rec (Bool.rec none (some (pn.zip (xs++[.c d]))) (Nat.beq (xs.length+1) pn.length)) (some (pn.zip xs)) (Nat.beq xs.length pn.length):Option (List (Nat×V)))=some L0:=h
  cases q:Nat.beq xs.length pn.length with
  |true=>rw [q] at h;exact .inl ⟨Nat.eq_of_beq_eq_true q,(Option.some.inj h).symm⟩
  |false=>
   rw [q] at h
   have h:(Bool.rec none (some (pn.zip (xs++[.c d]))) (Nat.beq (xs.length+1) pn.length):Option (List (Nat×V)))=some L0:=h
   cases q2:Nat.beq (xs.length+1) pn.length with
   |true=>rw [q2] at h;exact .inr ⟨Nat.eq_of_beq_eq_true q2,(Option.some.inj h).symm⟩
   |false=>rw [q2] at h;exact ax h
theorem wm{w:World}{fa:Nat}{pn:List Nat}{dv:FV}(hl:eP (fd w.params fa) pn=true)(hv:Ca dv=true)(hd:jQ w.params fa=some ([dv].map dV).toArray)
  (h1:∀vs:List Value,vs.length=pn.length->(rx (fd w.params fa) vs).1 (some ([dv].map dV).toArray)=pure ((pn.map nm).zip vs))
  (h2:∀vs:List Value,vs.length+1=pn.length->(rx (fd w.params fa) vs).1 (some ([dv].map dV).toArray)=pure ((pn.map nm).zip (vs++[dV dv]))):tr w fa (hY pn dv):=by
 intro gh s vs xs kws L0 _ kb hvs hb
 obtain⟨rfl,⟨e,rfl⟩|⟨e,rfl⟩⟩:=zd hb
 ·exact lY hl hvs (by rw [bq];exact l8 hd kb (h1 vs ((jd hvs).trans e)))
 ·exact Ay hl (ds:=[dv]) (by rw [List.all_cons,hv];rfl) hd (λvs h=>h2 vs ((congrArg (· +1) h).trans e)) kb hvs
section
variable {w:World} {mg mb:PySem.Str->Option Value} {g:G} {d:Nat}
theorem nI(T:TopRead pw loose mg mb (H1 w.params))(Sc:gB (C w) g (K w.params) cp loose mg mb d){fa:Nat}(hfa:iQ.any (Nat.beq fa)=true){pn:List Nat}{x:S}(h:D5 w.params fa pn=(x,false,true,true)){bind:List V->List Nat->Option (List (Nat×V))}(hb:tr w fa bind){spec:A.aK}
  (hspec:∀xs kws H k,spec xs kws H k->ai (bind xs kws) λL0=>ex g x ⟨L0,H,64,false⟩ (fin k)):bH false (C w) fa (d+2) spec:=
 wj T Sc hfa (congrArg Prod.fst h) (congrArg (λp=>p.2.1) h) (λ_ _ _ ht=>xR (congrArg (λp=>p.2.2.1) h) ht) hb hspec
theorem dQ.bnd{fa:Nat}{pn:List Nat}{x:S}(h:dQ w.params fa pn x)(hn:pn.length≤4):tr w fa (ar pn):=
 kI pn (congrArg (λp=>p.1.2.2.2) h) λvs hv=>by
  obtain⟨a,b,c,d,e⟩:=dY Value.none (l:=vs) (by rw [hv];exact hn)
  rw [e,hv]
  exact congrFun (congrFun (congrFun (congrFun (congrArg Prod.snd h) a) b) c) d
theorem aP(T:TopRead pw loose mg mb (H1 w.params))(Sc:gB (C w) g (K w.params) cp loose mg mb d){fa:Nat}{pn:List Nat}{x:S}(h:dQ w.params fa pn x)(hfa:Bool.and (iQ.any (Nat.beq fa)) (Nat.ble pn.length 4)=true){spec:A.aK}
  (hspec:∀xs kws H k,spec xs kws H k->ai (ar pn xs kws) λL0=>ex g x ⟨L0,H,64,false⟩ (fin k)):bH false (C w) fa (d+2) spec:=
 nI T Sc (bg hfa).1 (congrArg Prod.fst h) (h.bnd (bW (bg hfa).2)) hspec
end
theorem lK(P:Params):dQ P 77 [134] eG:=show _=_ by kernel_rfl!
theorem Cn(P:Params):dQ P 63 [292,296] iG:=show _=_ by kernel_rfl!
theorem nx(P:Params):dQ P 112 [292,221] bC:=show _=_ by kernel_rfl!
theorem ny(P:Params):dQ P 56 [292,311] e7:=show _=_ by kernel_rfl!
theorem yy(P:Params):dQ P 98 [292] bR:=show _=_ by kernel_rfl!
theorem yv(P:Params):dQ P 156 [292,119] bQ:=show _=_ by kernel_rfl!
theorem lJ(P:Params):dQ P 105 [292,299] bw:=show _=_ by kernel_rfl!
theorem o7(P:Params):dQ P 119 [292] bI:=show _=_ by kernel_rfl!
theorem Cp(P:Params):dQ P 141 [292,145] aO:=show _=_ by kernel_rfl!
theorem o9(P:Params):dQ P 91 [292,299] bJ:=show _=_ by kernel_rfl!
theorem Cs(P:Params):dQ P 126 [292] b0:=show _=_ by kernel_rfl!
theorem Cq(P:Params):dQ P 297 [292] cl:=show _=_ by kernel_rfl!
theorem vA(P:Params):dQ P 311 [292] ca:=show _=_ by kernel_rfl!
theorem GR(P:Params):dQ P 325 [292] b8:=show _=_ by kernel_rfl!
theorem vz(P:Params):dQ P 332 [292] bN:=show _=_ by kernel_rfl!
theorem yC(P:Params):dQ P 339 [292] bS:=show _=_ by kernel_rfl!
theorem Co(P:Params):dQ P 367 [292] bh:=show _=_ by kernel_rfl!
theorem yz(P:Params):dQ P 374 [292] bn:=show _=_ by kernel_rfl!
theorem yA(P:Params):dQ P 381 [292] bo:=show _=_ by kernel_rfl!
theorem yB(P:Params):dQ P 388 [292] bf:=show _=_ by kernel_rfl!
theorem vB(P:Params):dQ P 395 [292] bk:=show _=_ by kernel_rfl!
theorem vC(P:Params):dQ P 402 [292] bm:=show _=_ by kernel_rfl!
theorem Cm(P:Params):dQ P 409 [292] aU:=show _=_ by kernel_rfl!
theorem yw(P:Params):dQ P 416 [292] bc:=show _=_ by kernel_rfl!
theorem yx(P:Params):dQ P 423 [292] bd:=show _=_ by kernel_rfl!
theorem o8(P:Params):dQ P 430 [292] aY:=show _=_ by kernel_rfl!
theorem jN(P:Params):dQ P 437 [292] aN:=show _=_ by kernel_rfl!
theorem GV(P:Params):dQ P 444 [292] bj:=show _=_ by kernel_rfl!
theorem sH(P:Params):dQ P 451 [292] aX:=show _=_ by kernel_rfl!
theorem yE(P:Params):dQ P 458 [292] aM:=show _=_ by kernel_rfl!
theorem yD(P:Params):dQ P 465 [292] aA:=show _=_ by kernel_rfl!
theorem vG(P:Params):dQ P 472 [292] aF:=show _=_ by kernel_rfl!
theorem vH(P:Params):dQ P 479 [292] aG:=show _=_ by kernel_rfl!
theorem GW(P:Params):dQ P 486 [292] aH:=show _=_ by kernel_rfl!
theorem Cr(P:Params):dQ P 192 [292,190] dg:=show _=_ by kernel_rfl!
theorem GU(P:Params):dQ P 213 [292,242] b9:=show _=_ by kernel_rfl!
theorem GS(P:Params):dQ P 220 [292,242] cP:=show _=_ by kernel_rfl!
theorem sI(P:Params):dQ P 318 [292] aZ:=show _=_ by kernel_rfl!
theorem vI(P:Params):dQ P 304 [292] bO:=show _=_ by kernel_rfl!
theorem fW(P:Params):(D5 P 134 [292,131],jQ P 134)=((bB,false,true,true),some ([FV.non].map dV).toArray):=by kernel_rfl!
theorem lC(P:Params)(a b:Value):(rx (fd P 134) [a,b]).1 (some ([FV.non].map dV).toArray)=pure (([292,131].map nm).zip [a,b]):=by kernel_rfl!
theorem lB(P:Params)(a:Value):(rx (fd P 134) [a]).1 (some ([FV.non].map dV).toArray)=pure (([292,131].map nm).zip ([a]++[dV (.non)])):=by kernel_rfl!
theorem lZ(w:World):tr w 134 (hY [292,131] (.non)):=wm (congrArg (λp=>p.1.2.2.2) (fW w.params)) rfl (congrArg Prod.snd (fW w.params)) (λvs h=>by obtain⟨a,b,c,d,e⟩:=dY Value.none (l:=vs) (by rw [h];decide);rw [h] at e;subst e;exact lC _ a b) λvs h=>by obtain⟨a,b,c,d,e⟩:=dY Value.none (l:=vs) (by rw [Nat.succ.inj h];decide);rw [Nat.succ.inj h] at e;subst e;exact lB _ a
theorem eV(P:Params):(D5 P 149 [292,124,225],jQ P 149)=((bz,false,true,true),some ([FV.bol false].map dV).toArray):=by kernel_rfl!
theorem j5(P:Params)(a b c:Value):(rx (fd P 149) [a,b,c]).1 (some ([FV.bol false].map dV).toArray)=pure (([292,124,225].map nm).zip [a,b,c]):=by kernel_rfl!
theorem j4(P:Params)(a b:Value):(rx (fd P 149) [a,b]).1 (some ([FV.bol false].map dV).toArray)=pure (([292,124,225].map nm).zip ([a,b]++[dV (.bol false)])):=by kernel_rfl!
theorem j9(w:World):tr w 149 (hY [292,124,225] (.bol false)):=wm (congrArg (λp=>p.1.2.2.2) (eV w.params)) rfl (congrArg Prod.snd (eV w.params)) (λvs h=>by obtain⟨a,b,c,d,e⟩:=dY Value.none (l:=vs) (by rw [h];decide);rw [h] at e;subst e;exact j5 _ a b c) λvs h=>by obtain⟨a,b,c,d,e⟩:=dY Value.none (l:=vs) (by rw [Nat.succ.inj h];decide);rw [Nat.succ.inj h] at e;subst e;exact j4 _ a b
theorem gI(P:Params):(D5 P 254 [292,305,232],jQ P 254)=((cq,false,true,true),some ([FV.non].map dV).toArray):=by kernel_rfl!
theorem nr(P:Params)(a b c:Value):(rx (fd P 254) [a,b,c]).1 (some ([FV.non].map dV).toArray)=pure (([292,305,232].map nm).zip [a,b,c]):=by kernel_rfl!
theorem np(P:Params)(a b:Value):(rx (fd P 254) [a,b]).1 (some ([FV.non].map dV).toArray)=pure (([292,305,232].map nm).zip ([a,b]++[dV (.non)])):=by kernel_rfl!
theorem nJ(w:World):tr w 254 (hY [292,305,232] (.non)):=wm (congrArg (λp=>p.1.2.2.2) (gI w.params)) rfl (congrArg Prod.snd (gI w.params)) (λvs h=>by obtain⟨a,b,c,d,e⟩:=dY Value.none (l:=vs) (by rw [h];decide);rw [h] at e;subst e;exact nr _ a b c) λvs h=>by obtain⟨a,b,c,d,e⟩:=dY Value.none (l:=vs) (by rw [Nat.succ.inj h];decide);rw [Nat.succ.inj h] at e;subst e;exact np _ a b
theorem yF(P:Params):((cB cp (fd P 276).scope 60 (a7 (fd P 276)),(fd P 276).scope.isGenerator,eP (fd P 276) [292,97,176]),jQ P 276)=((aJ,false,true),some ([FV.non,.bol false].map dV).toArray):=by kernel_rfl!
theorem Go(P:Params)(v:Value):(rx (fd P 276) [v]).1 (some ([FV.non,.bol false].map dV).toArray)=pure (([292,97,176].map nm).zip ([v]++[FV.non,.bol false].map dV)):=by kernel_rfl!
theorem HG(w:World):tr w 276 wu:=by
 intro gh s vs xs kws L0 _ kb hv hb
 obtain⟨x,rfl,rfl,rfl⟩:=zc hb
 exact Ay (pn:=[292,97,176]) (ds:=[.non,.bol false]) (xs:=[x]) (congrArg (λp=>p.1.2.2) (yF w.params)) rfl (congrArg Prod.snd (yF w.params)) (λvs h=>by
  obtain⟨a,b,c,d,e⟩:=dY Value.none (l:=vs) (by rw [h];exact Nat.succ_le_succ (Nat.zero_le 3))
  rw [h] at e;subst e;exact Go _ a) kb hv
theorem rh(P:Params):(D5 P 171 [268,190,204,183],(jQ P 171).isSome,λa b c d=>(rx (fd P 171) [a,b,c,d]).1 (jQ P 171))=((gp,false,true,true),true,λa b c d=>pure (([268,190,204,183].map nm).zip [a,b,c,d])):=by kernel_rfl!
theorem C5(w:World):tr w 171 (ar [268,190,204,183]):=by
 obtain⟨it,e⟩:=Option.isSome_iff_exists.mp (show(jQ w.params 171).isSome=true from congrArg (λp=>p.2.1) (rh w.params))
 have h:=congrArg (λp=>p.2.2) (rh w.params)
 dsimp only at h e
 rw [e] at h
 refine HF (congrArg (λp=>p.1.2.2.2) (rh w.params)) e λvs hv=> ?_
 obtain⟨a,b,c,d,e⟩:=dY Value.none (l:=vs) (by rw [hv];decide)
 rw [hv] at e;subst e
 exact congrFun (congrFun (congrFun (congrFun h a) b) c) d
end Mine.B
namespace Mine.B
open Mine.A
open Mine.Head
theorem fm{α:Type}{P:α->Prop}{a:α}{l:List α}(h:P a)(k:∀x∈l,P x):∀x∈a::l,P x:=List.forall_mem_cons.mpr ⟨h,k⟩
theorem wf(n:Nat):g0.canon n<64:=by
 show(Option.rec 0 (λa=>a) (lk n lU):Nat)<64
 cases q:lk n lU with
 |none=>decide
 |some v=>
  have:=List.all_eq_true.mp (show(lU.all λp=>Nat.blt p.2 64)=true from by decide) _ (lp q)
  exact dN this
section
variable {w:World} {mg mb:PySem.Str->Option Value}
theorem wg{tab:List (Nat×A.aK)}{d:Nat}(h:∀p∈tab,bH false (C w) p.1 d p.2)(fa:Nat):bH false (C w) fa d (dX tab fa):=by
 unfold dX
 cases q:lk fa tab with
 |none=>intro gh H s A vs xs kws k R r hv rm hsp;exact hsp.elim
 |some sp=>exact h _ (lp q)
theorem eI(T:TopRead pw loose mg mb (H1 w.params)){tab:List (Nat×A.aK)}{d:Nat}(h:∀p∈tab,bH false (C w) p.1 d p.2):gB (C w) (b7 tab) (K w.params) cp loose mg mb d:=by
 have g:=Am w
 refine⟨Ho T,⟨g.own,g.cls,g.catt,g.satt,g.scls,g.con,g.ini,g.fn,g.mn⟩,λn=> ?_,λfa=>wg h fa,λ_ _ _ _ _ h=>h⟩
 show g0.canon n<64
 exact wf n
theorem mC(T:TopRead pw loose mg mb (H1 w.params)):gB (C w) g0 (K w.params) cp loose mg mb 0:=by
 refine⟨Ho T,Am w,wf,λfa=> ?_,λ_ _ _ _ _ h=>h⟩
 intro gh H s A vs xs kws k R r hv rm hsp;exact hsp.elim
theorem p5(T:TopRead pw loose mg mb (H1 w.params)):∀p∈w3,bH false (C w) p.1 2 p.2:=by
 unfold w3
 refine fm (aP T (mC T) (lK _) rfl (lO g0)) ?_
 refine fm (aP T (mC T) (Cn _) rfl CD) ?_
 refine fm (aP T (mC T) (nx _) rfl nB) ?_
 refine fm (aP T (mC T) (ny _) rfl nC) ?_
 refine fm (aP T (mC T) (yy _) rfl yN) ?_
 refine fm (aP T (mC T) (yv _) rfl yK) ?_
 exact λp hp=>nomatch hp
theorem A7(T:TopRead pw loose mg mb (H1 w.params)):gB (C w) g1 (K w.params) cp loose mg mb 2:=eI T (p5 T)
theorem p4(T:TopRead pw loose mg mb (H1 w.params)):∀p∈w0,bH false (C w) p.1 4 p.2:=by
 unfold w0
 refine fm (aP T (A7 T) (lJ _) rfl lN) ?_
 refine fm (aP T (A7 T) (o7 _) rfl pe) ?_
 refine fm (aP T (A7 T) (Cp _) rfl CF) ?_
 exact λp hp=>(p5 T p hp).mono (by decide)
theorem EP(T:TopRead pw loose mg mb (H1 w.params)):gB (C w) g2 (K w.params) cp loose mg mb 4:=eI T (p4 T)
theorem p3(T:TopRead pw loose mg mb (H1 w.params)):∀p∈wZ,bH false (C w) p.1 6 p.2:=by
 unfold wZ
 refine fm (aP T (EP T) (o9 _) rfl pk) ?_
 refine fm (nI T (EP T) rfl (congrArg Prod.fst (fW _)) (lZ w) nA) ?_
 exact λp hp=>(p4 T p hp).mono (by decide)
theorem A6(T:TopRead pw loose mg mb (H1 w.params)):gB (C w) g3 (K w.params) cp loose mg mb 6:=eI T (p3 T)
theorem p0(T:TopRead pw loose mg mb (H1 w.params)):∀p∈cF,bH false (C w) p.1 8 p.2:=by
 unfold cF
 refine fm (aP T (A6 T) (Cs _) rfl CI) ?_
 refine fm (nI T (A6 T) rfl (congrArg Prod.fst (eV _)) (j9 w) lQ) ?_
 refine fm (nI T (A6 T) rfl (congrArg Prod.fst (gI _)) (nJ w) pi) ?_
 exact λp hp=>(p3 T p hp).mono (by decide)
theorem c8(T:TopRead pw loose mg mb (H1 w.params)):gB (C w) g4 (K w.params) cp loose mg mb 8:=eI T (p0 T)
theorem pZ(T:TopRead pw loose mg mb (H1 w.params)):∀p∈wY,bH false (C w) p.1 10 p.2:=by
 unfold wY
 refine fm (nI T (c8 T) rfl (congrArg Prod.fst (rh _)) (C5 w) Hb) ?_
 refine fm (aP T (c8 T) (Cr _) rfl CH) ?_
 exact λp hp=>(p0 T p hp).mono (by decide)
theorem EO(T:TopRead pw loose mg mb (H1 w.params)):gB (C w) g5 (K w.params) cp loose mg mb 10:=eI T (pZ T)
theorem pY(T:TopRead pw loose mg mb (H1 w.params)):∀p∈wX,bH false (C w) p.1 12 p.2:=by
 unfold wX
 refine fm (aP T (EO T) (GU _) rfl G8) ?_
 refine fm (aP T (EO T) (GS _) rfl G7) ?_
 exact λp hp=>(pZ T p hp).mono (by decide)
theorem EN(T:TopRead pw loose mg mb (H1 w.params)):gB (C w) g6 (K w.params) cp loose mg mb 12:=eI T (pY T)
theorem IY(T:TopRead pw loose mg mb (H1 w.params)):gB (C w) g7 (K w.params) cp loose mg mb 12:=by
 have S:=EN T
 refine⟨S.Y,⟨S.YG.own,S.YG.cls,S.YG.catt,S.YG.satt,S.YG.scls,S.YG.con,S.YG.ini,S.YG.fn,S.YG.mn⟩,S.can,S.C,λlb hg v σ k h=> ?_⟩
 have h:(Bool.rec False (ex g6 kh σ k) (Nat.beq lb 252):Prop):=h
 cases q:Nat.beq lb 252 with
 |false=>rw [q] at h;exact h
 |true=>
  have hg:(Nat.beq lb 1534||Nat.beq lb 252)=false:=hg
  rw [q,Bool.or_true] at hg;cases hg
noncomputable def AV(P:Params):Stmt:=(kT cp 60 (a7 (fd P 276))).getD 0 (.Pass default)
noncomputable def fK(P:Params):List Stmt:=match AV P with| .Try b _ _ _ _=>b|_=>[]
noncomputable def Lw(P:Params):List ExceptHandler:=match AV P with| .Try _ h _ _ _=>h|_=>[]
noncomputable def AZ(P:Params):Pos:=match AV P with| .Try _ _ _ _ p=>p|_=>default
theorem AU(P:Params):kT cp 60 (a7 (fd P 276))=[.Try (fK P) ((Lw P).headD default::(Lw P).tail) [] [] (AZ P)]:=by kernel_rfl!
theorem AT(P:Params):(AZ P).line=252:=by kernel_rfl!
theorem En(P:Params):cB cp (fd P 276).scope 50 (fK P)=kh:=by kernel_rfl!
theorem AS(P:Params):(kT cp 50 (fK P)).isEmpty=true:=by kernel_rfl!
theorem Hw(T:TopRead pw loose mg mb (H1 w.params))(f:Fm)(hf:f.cs=(fd w.params 276).scope):∀t∈kT cp 60 (a7 (fd w.params 276)),∀m,SS (C w) g7 f (12+1) (cS cp f.cs m t) t:=by
 intro t ht m
 rw [AU] at ht
 obtain rfl:=List.mem_singleton.mp ht
 intro gh σ s A k Q r rm hev hp
 cases m with
 |zero=>exact hev.elim
 |succ m=>
  have hev:(Bool.rec False (ex g6 kh σ k) (Nat.beq (AZ w.params).line 252):Prop):=hev
  rw [AT] at hev
  have hev:ex g6 kh σ k:=hev
  have hB:=dR (EN T) 50 f (fK w.params) λt ht=>xR (AS w.params) ht
  rw [hf,En] at hB
  refine wpAny_Try_except (wpAny_mono (hB gh σ s A k (λf s₁=>match f with| .next=>wpAny (model (C w).prog (C w).w) A (execs [] _) Q bM s₁|f=>Q f s₁) r rm hev λgh' Z' s' a b x' r' hl hk=> ?_) (λ_ _ h=>h) λ_ _ h=>h.elim)
  have h:=hp gh' Z' s' a b x' r' hl hk
  cases a with
  |next=>exact wpAny_pure h
  |_=>exact h
theorem pX(T:TopRead pw loose mg mb (H1 w.params)):∀p∈rG,bH false (C w) p.1 14 p.2:=by
 unfold rG
 refine fm (wj T (IY T) rfl (congrArg (λp=>p.1.1) (yF w.params)) (congrArg (λp=>p.1.2.1) (yF w.params)) (Hw T) (HG w) KD) ?_
 exact λp hp=>(pY T p hp).mono (by decide)
theorem EM(T:TopRead pw loose mg mb (H1 w.params)):gB (C w) g8 (K w.params) cp loose mg mb 14:=eI T (pX T)
noncomputable def tF:List (Nat×A.aK):=[(297,t5),(311,mJ),(325,zZ),(332,mI),(339,qh),(367,t0),(374,qe),(381,qf),(388,qg),(395,mK),(402,mL),(409,tY),(416,p9),(423,qb),(430,jl),(437,fL),(444,z5),(451,kn),(458,qj),(465,qi),(472,mM),(479,mN),(486,z6),(318,ko),(304,mO)]++rG
noncomputable def g9:G:=b7 tF
theorem wV(T:TopRead pw loose mg mb (H1 w.params)):∀p∈tF,bH false (C w) p.1 16 p.2:=by
 unfold tF
 refine fm ((aP T (c8 T) (Cq _) rfl CG).mono (by decide)) ?_
 refine fm ((aP T (c8 T) (vA _) rfl vQ).mono (by decide)) ?_
 refine fm ((aP T (c8 T) (GR _) rfl G6).mono (by decide)) ?_
 refine fm ((aP T (c8 T) (vz _) rfl vO).mono (by decide)) ?_
 refine fm ((aP T (c8 T) (yC _) rfl yR).mono (by decide)) ?_
 refine fm ((aP T (c8 T) (Co _) rfl CE).mono (by decide)) ?_
 refine fm ((aP T (c8 T) (yz _) rfl yO).mono (by decide)) ?_
 refine fm ((aP T (c8 T) (yA _) rfl yP).mono (by decide)) ?_
 refine fm ((aP T (c8 T) (yB _) rfl yQ).mono (by decide)) ?_
 refine fm ((aP T (c8 T) (vB _) rfl vS).mono (by decide)) ?_
 refine fm ((aP T (c8 T) (vC _) rfl vT).mono (by decide)) ?_
 refine fm ((aP T (c8 T) (Cm _) rfl CB).mono (by decide)) ?_
 refine fm ((aP T (c8 T) (yw _) rfl yL).mono (by decide)) ?_
 refine fm ((aP T (c8 T) (yx _) rfl yM).mono (by decide)) ?_
 refine fm ((aP T (c8 T) (o8 _) rfl ph).mono (by decide)) ?_
 refine fm ((aP T (c8 T) (jN _) rfl jP).mono (by decide)) ?_
 refine fm ((aP T (c8 T) (GV _) rfl G9).mono (by decide)) ?_
 refine fm ((aP T (c8 T) (sH _) rfl sM).mono (by decide)) ?_
 refine fm ((aP T (c8 T) (yE _) rfl yU).mono (by decide)) ?_
 refine fm ((aP T (c8 T) (yD _) rfl yT).mono (by decide)) ?_
 refine fm ((aP T (c8 T) (vG _) rfl vW).mono (by decide)) ?_
 refine fm ((aP T (c8 T) (vH _) rfl vX).mono (by decide)) ?_
 refine fm ((aP T (c8 T) (GW _) rfl Ha).mono (by decide)) ?_
 refine fm ((aP T (EM T) (sI _) rfl sN).mono (by decide)) ?_
 refine fm ((aP T (EM T) (vI _) rfl vY).mono (by decide)) ?_
 exact λp hp=>(pX T p hp).mono (by decide)
theorem tT(T:TopRead pw loose mg mb (H1 w.params)):gB (C w) g9 (K w.params) cp loose mg mb 16:=eI T (wV T)
end
end Mine.B
namespace Mine.B
open Mine.A
open Mine.Head
noncomputable def eL:List (Nat×((Option (List Nat)->List Nat->aD)×(FV->Option (List Nat)->List Nat->Prop))):=[(297,fR,λ_ _ r=>∀c r',r=c::r'->c≠60),(311,dF,c0),(325,kq,c0),(332,dE,c0),(339,f5,c0),(367,oB,c0),(374,ld,wO),(381,lf,iB),(388,lg,c0),(395,jr,wO),(402,js,iB),(409,ij,c0),(416,k9,wO),(423,lc,iB),(430,dG,c0),(437,cf,c0),(444,iM,c0),(451,cy,c0),(458,dq,c0),(465,f6,c0),(472,jt,c0),(479,ju,iB),(486,kr,pE),(318,gV 311,lV),(304,gV 297,lV)]
theorem wW:tF=(eL.map λp=>(p.1,fD p.1 p.2.1 p.2.2))++rG:=rfl
theorem F5{l:List (Nat×((Option (List Nat)->List Nat->aD)×(FV->Option (List Nat)->List Nat->Prop)))}{l2:List (Nat×A.aK)}{st:Nat}{pf:Option (List Nat)->List Nat->aD}{cond:FV->Option (List Nat)->List Nat->Prop}
  (h:lk st l=some (pf,cond)):lk st ((l.map λp=>(p.1,fD p.1 p.2.1 p.2.2))++l2)=some (fD st pf cond):=by
 induction l with
 |nil=>cases h
 |cons p r ih=>
  rw [aj] at h
  rw [List.map_cons,List.cons_append,aj]
  by_cases q:st=p.1
  ·rw [if_pos q] at h
   rw [if_pos q, ←q,Option.some.inj h]
  ·rw [if_neg q] at h
   rw [if_neg q];exact ih h
theorem Hz{st:Nat}{pf:Option (List Nat)->List Nat->aD}{cond:FV->Option (List Nat)->List Nat->Prop}(h:lk st eL=some (pf,cond)):g9.call st=fD st pf cond:=by
 show dX tF st=_
 unfold dX
 rw [wW,F5 h]
inductive eD (ct:FV):Nat->Option (List Nat)->List Nat->List FV->Prop
 |stop {st tb pf cond}:lk st eL=some (pf,cond)->cond ct tb []->(pf tb []).cont=false->(pf tb []).r=[]->(pf tb []).x=[]->eD ct st tb [] []
 |go {st tb r pf cond T}:lk st eL=some (pf,cond)->cond ct tb r->(pf tb r).cont=true->(pf tb r).x++(pf tb r).r=r->eD ct (pf tb r).st (pf tb r).tb (pf tb r).r T->eD ct st tb r ((pf tb r).q++T)
inductive df:Bool->Nat->Nat->Option (List Nat)->List Nat->List FV->Prop
 |stop {z m st tb r pf cond}:lk st eL=some (pf,cond)->(pf tb r).cont=false->df z m st tb r []
 |go {z e m st tb r pf cond out}:lk st eL=some (pf,cond)->(pf tb r).cont=true->(z=true->m=0)->((pf tb r).r=[]->m=0)->df false m (pf tb r).st (pf tb r).tb (pf tb r).r out->df z (e+m) st tb r (List.replicate e iF++((pf tb r).q++out))
noncomputable def B7(P:Params):Stmt:=(a7 (fd P 261)).getD 0 (.Pass default)
noncomputable def Ai(P:Params):Stmt:=(a7 (fd P 261)).getD 1 (.Pass default)
noncomputable def mr(s:Stmt):Expr:=match s with| .While t _ _ _=>t|_=>.Constant .none 0 default
noncomputable def IE(s:Stmt):List Stmt:=match s with| .While _ b _ _=>b|_=>[]
noncomputable def ID(s:Stmt):Pos:=match s with| .While _ _ _ p=>p|_=>default
noncomputable def Gd(P:Params):Stmt:=(IE (Ai P)).getD 0 (.Pass default)
noncomputable def Gc(P:Params):Stmt:=(IE (Ai P)).getD 1 (.Pass default)
noncomputable def th(s:Stmt):Stmt:=(IE s).getD 0 (.Pass default)
noncomputable def zK(s:Stmt):Expr:=match s with| .Expr (.Yield (some e) _) _=>e|_=>.Constant .none 0 default
noncomputable def Lo(s:Stmt):Pos:=match s with| .Expr (.Yield _ p) _=>p|_=>default
noncomputable def Lp(s:Stmt):Pos:=match s with| .Expr _ p=>p|_=>default
noncomputable def tv(s:Stmt):Stmt:=.While (mr s) [.Expr (.Yield (some (zK (th s))) (Lo (th s))) (Lp (th s))] [] (ID s)
theorem Gb(P:Params):a7 (fd P 261)=[B7 P,.While (mr (Ai P)) [tv (Gd P),tv (Gc P)] [] (ID (Ai P))]:=by kernel_rfl!
noncomputable abbrev xT:X:=X.meth (X.loc 292) 302 X.nil []
noncomputable abbrev xE:X:=X.att (X.att (X.loc 292) 305) 168
noncomputable abbrev xQ:X:=X.att (X.loc 292) 313
noncomputable abbrev Ig:X:=X.dct (X.cons (X.k (.str oK)) (X.cons (X.sub (X.glo ap) (X.k (.str [80,97,114,115,101,69,114,114,111,114]))) (X.cons (X.k (.str oM)) (X.cons (X.meth (X.att (X.att (X.loc 292) 305) 168) 1 (X.cons (X.k (.int 0)) X.nil) []) X.nil))))
noncomputable abbrev Ie:X:=X.meth (X.att (X.loc 292) 313) 1 (X.cons (X.k (.int 0)) X.nil) []
theorem J3(P:Params):cS cp (fd P 261).scope 51 (B7 P)=S.asgA (X.loc 292) 313 (X.lst X.nil):=by kernel_rfl!
theorem JW(P:Params):cE cp (fd P 261).scope 50 (mr (Ai P))=xT:=by kernel_rfl!
theorem J1(P:Params):cE cp (fd P 261).scope 50 (mr (Gd P))=xE:=by kernel_rfl!
theorem JX(P:Params):cE cp (fd P 261).scope 50 (mr (Gc P))=xQ:=by kernel_rfl!
theorem Ga(P:Params):cE cp (fd P 261).scope 50 (zK (th (Gd P)))=Ig:=by kernel_rfl!
theorem F9(P:Params):cE cp (fd P 261).scope 50 (zK (th (Gc P)))=Ie:=by kernel_rfl!
theorem J0(P:Params):(fd P 261).scope.isGenerator=true:=by kernel_rfl!
theorem JY(P:Params):eP (fd P 261) [292]=true:=by kernel_rfl!
theorem J2(P:Params)(a:Value):bindArgs (fd P 261) ⟨[a],[]⟩=pure (([292].map nm).zip [a]):=by kernel_rfl!
theorem JZ(P:Params):decide (findIn (K P) (.ref 755) "__iter__"=some (some (.ref 261))∧isFn (K P) (.ref 261)=true)=true:=by kernel_rfl!
theorem F8(P:Params):(Ik cp 51 (B7 P)).isEmpty=true:=by kernel_rfl!
end Mine.B
namespace Mine.A
open Mine.A
open Mine.B
open Mine.Head
theorem Av{α:Type}(n:Nat)(p:Nat×α)(l:List (Nat×α)):iT n (p::l)=if n=p.1 then iT n l else p::iT n l:=by
 show(Bool.rec (p::iT n l) (iT n l) (Nat.beq n p.1):List (Nat×α))=_
 cases e:Nat.beq n p.1 with
 |true=>rw [if_pos (Nat.eq_of_beq_eq_true e)]
 |false=>rw [if_neg (Nat.ne_of_beq_eq_false e)]
theorem B3{m:Nat}(hm:¬m<64):∀H:List (Nat×AO),lo (iT m H)=lo H:=by
 intro H
 induction H with
 |nil=>
  exact rfl
 |cons p H ih=>
  rw [Av,dt]
  split
  ·rename_i e;rw [if_neg (by rw [←e];exact hm)];exact ih
  ·rw [dt,ih]
structure HA (H:List (Nat×AO)) (m ro:Nat) (row:List FV) (σ:Sm) (t:Tm):Prop where
 lo:lo H=Hp σ t
 row:lk ro H=some (.lst row)
 r64:64≤ro
 rm:ro<m
theorem HA.at'{H:List (Nat×AO)}{m ro:Nat}{row:List FV}{σ:Sm}{t:Tm}(h:HA H m ro row σ t){i:Nat}(hi':i<64):lk i H=lk i (Hp σ t):=by
 rw [←h.lo,gw,if_pos hi']
theorem HA.call{H:List (Nat×AO)}{m ro:Nat}{row:List FV}{σ Z':Sm}{t t':Tm}(h:HA H m ro row σ t):HA (Hp Z' t'++hi H) m ro row Z' t':=by
 refine⟨by rw [jF,dh,qR,List.append_nil], ?_,h.r64,h.rm⟩
 have:lk ro (Hp Z' t')=none:=by rw [←dh,gw,if_neg (by have:=h.r64;lia)]
 rw [ip,this,u0,if_neg (by have:=h.r64;lia),h.row];rfl
theorem HA.put{H:List (Nat×AO)}{m ro:Nat}{row:List FV}{σ Z':Sm}{t t':Tm}{x:AO}(h:HA H m ro row σ t){i:Nat}(hi':i<64)(e:Mine.A.put i x (Hp σ t)=Hp Z' t'):HA (Mine.A.put i x H) m ro row Z' t':=
 ⟨by rw [lj hi',h.lo,e],by rw [af,if_neg (by have:=h.r64;lia)];exact h.row,h.r64,h.rm⟩
theorem HA.push{H:List (Nat×AO)}{m ro:Nat}{row:List FV}{σ:Sm}{t:Tm}(h:HA H m ro row σ t)(x:AO):HA ((m,x)::H) (m+1) ro row σ t:=by
 have:=h.r64
 have:=h.rm
 refine⟨by rw [dt,if_neg (show¬m<64 by lia)];exact h.lo, ?_,h.r64,by lia⟩
 rw [aj,if_neg (show¬ro=m by lia)];exact h.row
theorem HA.other{H:List (Nat×AO)}{m ro:Nat}{row:List FV}{σ:Sm}{t:Tm}(h:HA H m ro row σ t){i:Nat}(hi':64≤i)(hne:i≠ro)(x:AO):HA (Mine.A.put i x H) m ro row σ t:=
 ⟨by rw [cV (by lia)];exact h.lo,by rw [af,if_neg (λe=>hne e.symm)];exact h.row,h.r64,h.rm⟩
theorem HA.rowd{H:List (Nat×AO)}{m ro:Nat}{row row':List FV}{σ:Sm}{t:Tm}(h:HA H m ro row σ t):HA (Mine.A.put ro (.lst row') H) m ro row' σ t:=
 ⟨by rw [cV (by have:=h.r64;lia)];exact h.lo,by rw [af,if_pos rfl],h.r64,h.rm⟩
noncomputable abbrev Lg:List (Nat×V):=[(292,.ob 1)]
theorem MH{st:Nat}{pf:Option (List Nat)->List Nat->aD}{cond:FV->Option (List Nat)->List Nat->Prop}(h:lk st eL=some (pf,cond)):g9.fn st=true:=by
 have m:=lp h
 have:(eL.all λp=>iQ.any (Nat.beq p.1))=true:=by rfl
 exact List.all_eq_true.mp this _ m
section
variable {H:List (Nat×AO)} {m ro:Nat} {row:List FV} {σ:Sm} {t:Tm}
theorem ze(h:HA H m ro row σ t):lk 1 H=some (.inst 755 (td t)):=h.at' (by decide)
theorem L8(h:HA H m ro row σ t):lk 2 H=some (.inst 159 (sd σ)):=h.at' (by decide)
theorem K3(h:HA H m ro row σ t):lk 6 H=some (.lst σ.errs):=h.at' (by decide)
theorem K4{st:Nat}{ct:FV}{q:List FV}{tb:Option (List Nat)}(h:HA H m ro row σ ⟨st,ct,some q,tb⟩):lk 5 H=some (.lst q):=h.at' (by decide)
theorem GY{st:Nat}{ct:FV}{tb:Option (List Nat)}{pf:Option (List Nat)->List Nat->aD}{cond:FV->Option (List Nat)->List Nat->Prop}{d r:List Nat}{e n:Nat}{k:Bool->St->Prop}
  (h:HA H m ro row σ ⟨st,ct,some [],tb⟩) (hl:lk st eL=some (pf,cond)) (hc:cond ct tb r) (v:aB σ d r e n)
  (hk:∀Z' e' n',e'+n'=e+n->n'≤n->(σ.off=σ.size->n'=0)->aB Z' (d++(pf tb r).x) (pf tb r).r e' n'->∀H',HA H' m ro row Z' ⟨(pf tb r).st,ct,some (pf tb r).q,(pf tb r).tb⟩->k (pf tb r).cont ⟨Lg,H',m,false⟩):
  dO g9 xT ⟨Lg,H,m,false⟩ (λv s=>ai (av s.H v) λb=>k b s):=by
 have h1:=ze h
 have e1:iY g9 (.ob 1) 302 [] ⟨Lg,H,m,false⟩=some (.own st 1):=by
  show az (lk 1 H) _=_
  rw [h1];rfl
 refine b6 (ad (aa rfl (aa e1 (ay (FR (jH (MH hl) rfl ?_ ?_))))))
 ·show((lo H).all λp=>io p.2)=true
  rw [h.lo];exact Ag _ _
 ·show g9.call st [.ob 1] [] (lo H) _
  rw [Hz hl,h.lo]
  exact⟨σ,ct,tb,d,r,e,n,rfl,rfl,rfl,v,hc,λZ' e' n' a1 a2 a3 a4=>aa rfl (hk Z' e' n' a1 a2 a3 a4 _ h.call)⟩
theorem KA{k:Bool->St->Prop}(h:HA H m ro row σ t)(hk:k (cg σ.errs) ⟨Lg,H,m,false⟩):dO g9 xE ⟨Lg,H,m,false⟩ (λv s=>ai (av s.H v) λb=>k b s):=by
 refine cr (cr (ad (aa rfl (bF (ze h) rfl rfl (bF (L8 h) rfl rfl ?_)))))
 refine aa ?_ hk
 show az (lk 6 H) _=_
 rw [K3 h];rfl
theorem Kz{st:Nat}{ct:FV}{q:List FV}{tb:Option (List Nat)}{k:Bool->St->Prop}(h:HA H m ro row σ ⟨st,ct,some q,tb⟩)(hk:k (cg q) ⟨Lg,H,m,false⟩):dO g9 xQ ⟨Lg,H,m,false⟩ (λv s=>ai (av s.H v) λb=>k b s):=by
 refine cr (ad (aa rfl (bF (ze h) rfl rfl ?_)))
 refine aa ?_ hk
 show az (lk 5 H) _=_
 rw [K4 h];rfl
theorem uI{g:G}{s:St}{F:V->St->Prop}{i:Nat}{l:List FV}{x:FV}(h1:lk i s.H=some (.lst (x::l)))(h:F (.c x) (aR s (put i (.lst l) s.H))):gZ g (.lst i) 1 [.c (.int 0)] [] s F:=by
 exact aa (o:=gj (lk i s.H)) (congrArg gj h1) h
theorem GZ{st:Nat}{ct x:FV}{q:List FV}{tb:Option (List Nat)}{k:V->St->Prop}(h:HA H m ro row σ ⟨st,ct,some (x::q),tb⟩)(hk:∀H',HA H' m ro row σ ⟨st,ct,some q,tb⟩->k (.c x) ⟨Lg,H',m,false⟩):dO g9 Ie ⟨Lg,H,m,false⟩ k:=by
 refine b6 (cr (ad (aa rfl (bF (ze h) rfl rfl (aa (im (K4 h) rfl) (ah (ci (ay (uI (K4 h) ?_)))))))))
 exact hk _ (h.put (by decide) rfl)
theorem G0{x:FV}{es:List FV}{k:V->St->Prop}(h:HA H m ro row {σ with errs:=x::es} t)(hk:∀H',HA H' (m+1) ro row {σ with errs:=es} t->lk m H'=some (.dct [(oK,.c (.int 7)),(oM,.c x)])->k (.ob m) ⟨Lg,H',m+1,false⟩):dO g9 Ig ⟨Lg,H,m,false⟩ k:=by
 refine ut (ah (ci (ah (gv (eg (ci (nZ rfl ?_)))))))
 refine ah (ci (ah ?_))
 refine b6 (cr (cr (ad (aa rfl (bF (ze h) rfl rfl (bF (L8 h) rfl rfl (aa (im (K3 h) rfl) ?_)))))))
 refine ah (ci (ay (uI (K3 h) ?_)))
 refine ay (aa rfl (sb ?_))
 refine hk _ ((h.put (i:=6) (by decide) ?_).push _) ?_
 ·rfl
 ·exact(aj _ _ _).trans (if_pos rfl)
theorem KB{st:Nat}{ct:FV}{K:Fl->St->Prop}(h:HA H m ro row σ ⟨st,ct,none,none⟩)(hk:∀H',HA H' (m+1) ro row σ ⟨st,ct,some [],none⟩->K .nxt ⟨Lg,H',m+1,false⟩):ex g9 (S.asgA (X.loc 292) 313 (X.lst X.nil)) ⟨Lg,H,m,false⟩ K:=by
 have hr:=h.r64
 have hm:=h.rm
 have h5:lk 5 H=none:=h.at' (by decide)
 have hm5:¬5=m:=by lia
 have e1:iT m ((m,AO.lst [])::H)=iT m H:=by rw [Av,if_pos rfl]
 have h1:lk 1 (iT m ((m,AO.lst [])::H)++[(4+1,AO.lst [])])=some (.inst 755 (td ⟨st,ct,none,none⟩)):=by
  rw [ip,e1,jG,if_neg (by lia),ze h];rfl
 show dO g9 (X.lst X.nil) _ (λv s=>dO g9 (X.loc 292) s λo s=>eH g9 o 313 v s λs=>K .nxt s)
 refine gX (ay (aa rfl (bV rfl (sb ?_))))
 refine ad (aa rfl (Ml (c:=4) rfl rfl ?_ ?_ ?_ h1 rfl ?_))
 ·exact Nat.ble_eq_true_of_le (show 64≤m by lia)
 ·exact(aj _ _ _).trans (if_pos rfl)
 ·exact(aj _ _ _).trans ((if_neg hm5).trans h5)
 ·refine hk _ ⟨?_, ?_,h.r64,by lia⟩
  ·show lo (put 1 _ (iT m ((m,AO.lst [])::H)++[(5,AO.lst [])]))=_
   rw [lj (by decide),jF,e1,B3 (by lia),h.lo];rfl
  ·show lk ro (put 1 _ (iT m ((m,AO.lst [])::H)++[(5,AO.lst [])]))=_
   rw [af,if_neg (by lia),ip,e1,jG,if_neg (by lia),h.row];rfl
end
end Mine.A
namespace Mine.A
open Mine.B Mine.Head
structure ke (fs:List Frame):Prop where
 sp:splitAtGen fs=none
 gu:fs.any Frame.guarded=false
 mks:(marksOver fs (none,none)).1=none
 fc:frameCount (fs.map Frame.where_)≤2
 un:unitsOf (fs.map Frame.where_)≤12
theorem ke.nil:ke []:=⟨rfl,rfl,rfl,Nat.zero_le _,Nat.zero_le _⟩
theorem ke.push{fs:List Frame}(h:ke fs){k:Result->Sem Fin}{l:List Value}{c:Code}{p:Pos}(hw:frameCount (fs.map Frame.where_)+c.weight≤2)(hu:unitsOf (fs.map Frame.where_)+c.cUnits≤12):ke (.ret k none false l c p []::fs):=by
 refine⟨?_, ?_, ?_, ?_, ?_⟩
 ·show(splitAtGen fs).map _=none
  rw [h.sp];rfl
 ·show(false||fs.any Frame.guarded)=false
  rw [h.gu];rfl
 ·exact h.mks
 ·show frameCount ((c,p)::fs.map Frame.where_)≤2
  rw [frameCount_cons];lia
 ·show unitsOf ((c,p)::fs.map Frame.where_)≤12
  rw [unitsOf_cons];lia
theorem fM{d:Nat}{A:Around}(rm:bG (d+4) A){c:Code}{fs:List Frame}(h:ke fs)(hw:c.weight≤1)(hu:c.cUnits≤12):bG d (A.in1.over c fs):=by
 have hA:A.in1.handled=none:=rm.hd
 have h1:=h.fc
 have h2:=h.un
 refine⟨?_, ?_, ?_⟩
 ·show(marksOver fs (A.in1.handled,A.in1.handled)).1=none
  rw [hA];exact h.mks
 ·have:=rm.dep
  show A.depth+frameCount (fs.map Frame.where_)+c.weight+d<_
  lia
 ·have:=rm.un
  show A.units+1+unitsOf (fs.map Frame.where_)+c.cUnits+16*d+64<_
  lia
theorem wR{t:Expr}{b o:List Stmt}{env:Env}:(Code.whileLoop t b o env).weight=0∧(Code.whileLoop t b o env).cUnits=0:=⟨rfl,rfl⟩
theorem Kn{b:List Stmt}{env:Env}:(Code.func b env).weight=1∧(Code.func b env).cUnits=3:=⟨rfl,rfl⟩
theorem i8{a:Array GenState}{i:Nat}{q z:GenState}{j:Nat}(h:(a.setIfInBounds i q)[j]? =some z):(i=j∧z=q)∨i≠j∧a[j]? =some z:=by
 rw [Array.getElem?_setIfInBounds] at h
 by_cases e:i=j
 ·rw [if_pos e] at h
  refine .inl ⟨e, ?_⟩
  split at h
  ·cases h;rfl
  ·cases h
 ·rw [if_neg e] at h;exact .inr ⟨e,h⟩
theorem a8.setGen{b:Bool}{L:Addr}{g g':Gh}{s s':Shared}(x:a8 b L g s g' s'){i:Nat}(hi':s.gens[i]? =none){q:GenState}(hq:q.bare=true):a8 b L g s g' (s'.setGen i q):=by
 refine⟨x.le,x.keep,x.fp,x.fF,⟨λj z e=> ?_,λj z e=> ?_⟩,x.os,x.drawn⟩
 ·have hj:i≠j:=λh=>by rw [h,e] at hi';cases hi'
  show(s'.gens.setIfInBounds i q)[j]? =some z
  rw [Array.getElem?_setIfInBounds,if_neg hj];exact x.gens.old j z e
 ·rcases i8 e with ⟨_,rfl⟩|⟨_,e⟩
  ·exact .inr hq
  ·exact x.gens.new j z e
theorem gq(s:Shared)(i:Nat)(p q:GenState):(s.setGen i p).setGen i q=s.setGen i q:=by
 unfold Shared.setGen;dsimp only;rw [Array.setIfInBounds_setIfInBounds]
theorem a8.held{b:Bool}{L:Addr}{g g':Gh}{s s':Shared}(x:a8 b L g s g' s'){i:Nat}(hi':i<s.gens.size){q:GenState}(hq:q.bare=true):a8 b L g (s.setGen i q) g' (s'.setGen i q):=by
 refine⟨x.le,x.keep,x.fp,x.fF,⟨λj z e=> ?_,λj z e=> ?_⟩,x.os,x.drawn⟩
 ·rcases i8 e with ⟨h,rfl⟩|⟨h,e⟩
  ·have:=x.gens.old i _ (Array.getElem?_eq_getElem hi')
   show(s'.gens.setIfInBounds i z)[j]? =some z
   rw [Array.getElem?_setIfInBounds,if_pos h,if_pos]
   rcases Nat.lt_or_ge i s'.gens.size with y|y
   ·exact y
   ·rw [Array.getElem?_eq_none y] at this;cases this
  ·show(s'.gens.setIfInBounds i q)[j]? =some z
   rw [Array.getElem?_setIfInBounds,if_neg h];exact x.gens.old j z e
 ·rcases i8 e with ⟨_,rfl⟩|⟨h,e⟩
  ·exact .inr hq
  ·rcases x.gens.new j z e with k|k
   ·refine .inl ?_
    show(s.gens.setIfInBounds i q)[j]? =some z
    rw [Array.getElem?_setIfInBounds,if_neg h];exact k
   ·exact .inr k
theorem rM{s:Shared}{i:Nat}(h:i<s.gens.size)(q:GenState):(s.setGen i q).gens[i]? =some q:=by
 show(s.gens.setIfInBounds i q)[i]? =some q
 rw [Array.getElem?_setIfInBounds,if_pos rfl,if_pos h]
theorem mH{s:Shared}{i:Nat}(q:GenState):(s.setGen i q).gens.size=s.gens.size:=by
 show(s.gens.setIfInBounds i q).size=_
 simp
structure zJ (c:Cx) (L:Addr) (gh₀:Gh) (s0:Shared) (L₀:List (Nat×V)) (ro C ag gi:Nat):Prop where
 LC:L≠C
 C0:s0.heap.get? C=none
 a0:s0.heap.get? ag=none
 aL:ag≠L
 aC:ag≠C
 g0:s0.gens[gi]? =none
structure GI (c:Cx) (L:Addr) (gh₀:Gh) (s0:Shared) (L₀:List (Nat×V)) (ro C ag gi:Nat) (gh:Gh) (H:List (Nat×AO)) (m:Nat) (LL:List (Nat×V)) (row:List FV) (σ:Sm) (t:Tm) (s:Shared):Prop where
 r:al c gh L ⟨LL,H,m,false⟩ s
 fr:tq c gh C 292 1 s
 E:a8 false L gh₀ s0 gh (s.setGen gi .running)
 ha:HA H m ro row σ t
 lr:lk 267 LL=some (.ob ro)
 ll:∀n,n≠312->lk n LL=lk n L₀
 gen:s.heap.IsGen ag gi
 gnf:¬bZ gh ag
 gsz:gi<s.gens.size
noncomputable def Eb(c:Cx)(L:Addr)(gh₀:Gh)(s0:Shared)(L₀:List (Nat×V))(ro C ag gi:Nat)(row:List FV)(σ:Sm)(t:Tm)(s:Shared):Prop:=∃gh H m LL,GI c L gh₀ s0 L₀ ro C ag gi gh H m LL row σ t s
section
variable {c:Cx} {L:Addr} {gh₀:Gh} {s0:Shared} {L₀:List (Nat×V)} {ro C ag gi:Nat} {gh gh':Gh} {H H':List (Nat×AO)} {m m':Nat} {LL:List (Nat×V)} {row row':List FV} {σ Z':Sm} {t t':Tm} {s s':Shared}
theorem qZ{b:Bool}{X:Addr}{g g':Gh}{s s':Shared}(x:a8 b X g s g' s'){i:Nat}(h:i<s.gens.size):i<s'.gens.size:=by
 have:=x.gens.old i _ (Array.getElem?_eq_getElem h)
 rcases Nat.lt_or_ge i s'.gens.size with z|z
 ·exact z
 ·rw [Array.getElem?_eq_none z] at this;cases this
theorem sC(h:s.heap.IsGen ag gi):∃o,s.heap.get? ag=some o:=let ⟨o,_,_,e,_⟩:=h;⟨o,e⟩
theorem q5{b:Bool}{X:Addr}(x:a8 b X gh s gh' s')(h:s.heap.IsGen ag gi)(hX:ag≠X)(hf:¬bZ gh ag):s'.heap.IsGen ag gi∧¬bZ gh' ag:=by
 obtain⟨o,e⟩:=sC h
 obtain⟨o',nm,qn,ho,r⟩:=h
 refine⟨⟨o',nm,qn,x.keep _ _ ho hX hf,r⟩,λq=> ?_⟩
 rcases x.fp ag q with k|k
 ·exact hf k
 ·rw [e] at k;cases k
theorem GI.step(B:zJ c L gh₀ s0 L₀ ro C ag gi)(g:GI c L gh₀ s0 L₀ ro C ag gi gh H m LL row σ t s)(x:a8 false C gh s gh' s')(r':al c gh' C ⟨Lg,H',m',false⟩ s')(ha:HA H' m' ro row' Z' t'):GI c L gh₀ s0 L₀ ro C ag gi gh' H' m' LL row' Z' t' s':=by
 obtain⟨r1,f1⟩:=g.r.sleep g.fr B.LC x r' rfl
 obtain⟨g1,g2⟩:=q5 x g.gen B.aC g.gnf
 exact⟨r1,f1,a8.over (g.r.setGen _ _) g.E B.C0 (x.held g.gsz rfl),ha,g.lr,g.ll,g1,g2,qZ x g.gsz⟩
theorem GI.setGen(B:zJ c L gh₀ s0 L₀ ro C ag gi)(g:GI c L gh₀ s0 L₀ ro C ag gi gh H m LL row σ t s)(q:GenState):GI c L gh₀ s0 L₀ ro C ag gi gh H m LL row σ t (s.setGen gi q):=
 ⟨g.r.setGen _ _,g.fr.setGen _ _,by rw [gq];exact g.E,g.ha,g.lr,g.ll,g.gen,g.gnf,by rw [mH];exact g.gsz⟩
theorem GI.wake(g:GI c L gh₀ s0 L₀ ro C ag gi gh H m LL row σ t s):al c gh C ⟨Lg,H,m,false⟩ s:=g.r.wake g.fr
end
end Mine.A
namespace Mine.A
open Mine.B Mine.Head
noncomputable def AK(c:Cx)(f:Fm)(A:Around)(tgt:Expr)(body:List Stmt)(v:Value)(s:Shared)(cN:Shared->Prop):Prop:=
 wpAny (model c.prog c.w) A (assign tgt f.env v) (λ_ s₂=>wpAny (model c.prog c.w) A (execs body f.env) (λfl s₃=>match fl with
  | .next| .cont=>cN s₃
  |_=>False) bM s₂) bM s
noncomputable abbrev fK:S:=S.seq (S.ex (X.meth (X.loc 267) 0 (X.cons (X.loc 312) X.nil) [])) S.skip
theorem y8{c:Cx}{K:Frag}{p:CP}{g:G}{loose:List PySem.Str}{mg mb:PySem.Str->Option Value}(Y:Ctx c K p loose mg mb){f:Fm}{d:Nat}{A:Around}(rm:bG d A){nm:PySem.Str}{pos:Pos}{body:List Stmt}(hl:bu f.cs nm=true)(hc:p.code nm=some 312)(hb:SB c g f d fK body)
  {gh:Gh} {LL:List (Nat×V)} {H:List (Nat×AO)} {m ro:Nat} {s:Shared} {v:Value} {y:FV} {row:List FV} {cN:Shared->Prop} (r:al c gh f.L ⟨LL,H,m,false⟩ s) (rf:RF c.prog c.w gh.F v y) (h1:lk 267 LL=some (.ob ro)) (h2:lk ro H=some (.lst row)) (hlen:row.length+1≤16777216)
  (hP:∀gh' s',a8 false f.L gh s gh' s'->al c gh' f.L ⟨put 312 (.c y) LL,put ro (.lst (row++[y])) H,m,false⟩ s'->cN s'):AK c f A (.Name nm pos) body v s cN:=by
 refine jV Y hl hc gh _ s v y _ _ r rf rfl λs1 x1 r1=> ?_
 have hev:ex g fK ⟨put 312 (.c y) LL,H,m,false⟩ (λfl st=>fl=.nxt∧st=⟨put 312 (.c y) LL,put ro (.lst (row++[y])) H,m,false⟩):=by
  refine kU (b6 (ad (aa ((af 267 312 _ _).trans ((if_neg (by decide)).trans h1)) (aa (im h2 rfl) (ah (ad (aa ((af 312 312 _ _).trans (if_pos rfl)) (ay (qN h2 rfl h2 (Nat.ble_eq_true_of_le hlen) ?_)))))))))
  exact bD ⟨rfl,rfl⟩
 refine hb gh _ s1 A _ _ r1 rm hev λgh' Z' s' a b x' r' hl' hk=> ?_
 obtain⟨rfl,rfl⟩:=hk
 obtain rfl:=hl'
 exact hP gh' s' (x1.trans r r1 x') r'
noncomputable def YP(c:Cx)(f:Fm)(A:Around)(tgt:Expr)(body:List Stmt)(ag gi:Nat):Protocol:=λ_ _ v s₁ kap=>
 ∀gs',AK c f A tgt body v (s₁.setGen gi gs') λs''=>s''.gens[gi]? =some gs'∧s''.heap.IsGen ag gi∧s''.heap.NoLimit∧kap (.send .none) (s''.setGen gi .running)
noncomputable def AF(Fin:Shared->Prop):GenEnd:=λ_ _ r s₁=>r=.ok (.ret .none)∧Fin s₁
structure mo (w:World) (mg mb:PySem.Str->Option Value) (f:Fm) (A:Around) (nm:PySem.Str) (body:List Stmt):Prop where
 T:TopRead pw loose mg mb (H1 w.params)
 rm:bG 30 A
 hl:bu f.cs nm=true
 hc:cp.code nm=some 312
 hb:SB (Mine.B.C w) g9 f 17 fK body
section
variable {w:World} {mg mb:PySem.Str->Option Value} {f:Fm} {A:Around} {nm:PySem.Str} {pos:Pos} {body:List Stmt} {gh₀:Gh} {s0:Shared} {L₀:List (Nat×V)} {ro Cg ag gi:Nat} {Fin:Shared->Prop}
 {gh gh':Gh} {H H':List (Nat×AO)} {m m':Nat} {LL:List (Nat×V)} {row row':List FV} {σ Z':Sm} {t t':Tm} {s s':Shared}
theorem ms(N:mo w mg mb f A nm body)(B:zJ (Mine.B.C w) f.L gh₀ s0 L₀ ro Cg ag gi)(g:GI (Mine.B.C w) f.L gh₀ s0 L₀ ro Cg ag gi gh H m LL row σ t s){v:Value}{y:FV}(rf:RF (Mine.B.C w).prog (Mine.B.C w).w gh.F v y)(hlen:row.length≤20000){n:Nat}{sx:Shared}{kap:Resume->Shared->Prop}
  (hn:∀s',Eb (Mine.B.C w) f.L gh₀ s0 L₀ ro Cg ag gi (row++[y]) σ t s'->kap (.send .none) s'):YP (Mine.B.C w) f A (.Name nm pos) body ag gi n sx v s kap:=by
 intro gs'
 have g1:=g.setGen B gs'
 refine y8 (Ho N.T) (N.rm.mono (by decide)) N.hl N.hc N.hb g1.r rf g1.lr g1.ha.row (by lia) λgh' s' x' r'=> ?_
 have hLC:=B.LC
 obtain⟨e1,e2⟩:=q5 x' g1.gen B.aL g1.gnf
 refine⟨x'.gens.old _ _ (rM g.gsz gs'),e1,N.T.nolimit.keeps r'.keepB,hn _ ⟨gh',put ro (.lst (row++[y])) H,m,put 312 (.c y) LL, ?_⟩⟩
 refine GI.setGen B ⟨r',g1.fr.step (λe=>hLC e.symm) x',a8.trans' (g1.r.setGen _ _) g1.E (x'.held g1.gsz rfl),g1.ha.rowd, ?_,λn hn=> ?_,e1,e2,qZ x' g1.gsz⟩ .running
 ·exact(af 267 312 _ _).trans ((if_neg (by decide)).trans g1.lr)
 ·exact(af n 312 _ _).trans ((if_neg hn).trans (g1.ll n hn))
noncomputable abbrev fG(w:World)(Cg:Nat):Fm:=Ck (fd w.params 261) Cg 261 (iR w (a:=261) rfl).kind (iR w (a:=261) rfl).glob (iR w (a:=261) rfl).blt
theorem vf(w:World)(Cg:Nat):interactive (fG w Cg).env=false:=by kernel_rfl!
noncomputable abbrev tE(x:FV):FV:=.dct [(oK,.int 7),(oM,x)]
noncomputable abbrev yS(s:Stmt):Stmt:=.Expr (.Yield (some (zK (th s))) (Lo (th s))) (Lp (th s))
noncomputable abbrev wC(w:World)(Cg:Nat)(s:Stmt):Code:=.whileLoop (mr s) [yS s] [] (fG w Cg).env
theorem mz(N:mo w mg mb f A nm body)(Cg:Nat){x:X}{e:Expr}(h:cE cp (fd w.params 261).scope 50 e=x):SE (Mine.B.C w) g9 (fG w Cg) 17 x e∧ST (Mine.B.C w) g9 (fG w Cg) 17 x e:=by
 have:=(eW (tT N.T) 50).1 (fG w Cg) e
 rw [show cE cp (fG w Cg).cs 50 e=x from h] at this
 exact this
structure Wd (w:World) (Cg:Nat) (sW sE sQ:Stmt):Prop where
 t:ST (Mine.B.C w) g9 (fG w Cg) 17 xT (mr sW)
 e:ST (Mine.B.C w) g9 (fG w Cg) 17 xE (mr sE)
 ey:SE (Mine.B.C w) g9 (fG w Cg) 17 Ig (zK (th sE))
 q:ST (Mine.B.C w) g9 (fG w Cg) 17 xQ (mr sQ)
 qy:SE (Mine.B.C w) g9 (fG w Cg) 17 Ie (zK (th sQ))
noncomputable abbrev Id(w:World)(Cg:Nat)(x:X)(e:Expr):Prop:=SE (Mine.B.C w) g9 (fG w Cg) 17 x e∧ST (Mine.B.C w) g9 (fG w Cg) 17 x e
theorem Ee{Cg:Nat}{sW sE sQ:Stmt}(h1:Id w Cg xT (mr sW))(h2:Id w Cg xE (mr sE))(h3:Id w Cg Ig (zK (th sE)))(h4:Id w Cg xQ (mr sQ))(h5:Id w Cg Ie (zK (th sQ))):Wd w Cg sW sE sQ:=⟨h1.2,h2.2,h3.1,h4.2,h5.1⟩
theorem Ed(N:mo w mg mb f A nm body)(Cg:Nat):Wd w Cg (Ai w.params) (Gd w.params) (Gc w.params):=
 Ee (mz N Cg (JW w.params)) (mz N Cg (J1 w.params)) (mz N Cg (Ga w.params)) (mz N Cg (JX w.params)) (mz N Cg (F9 w.params))
variable {sW sE sQ:Stmt}
theorem EU(N:mo w mg mb f A nm body)(D:Wd w Cg sW sE sQ)(B:zJ (Mine.B.C w) f.L gh₀ s0 L₀ ro Cg ag gi){fs:List Frame}(hf:ke fs){n2:Nat}{t:Tm}:∀(es:List FV) (σ:Sm) (n:Nat) (sx s:Shared) (gh:Gh) (H:List (Nat×AO)) (m:Nat) (LL:List (Nat×V)) (row:List FV),
  GI (Mine.B.C w) f.L gh₀ s0 L₀ ro Cg ag gi gh H m LL row {σ with errs:=es} t s->es.length+n2≤n->row.length+es.length≤20000->
  (∀n' sx s',n2≤n'->Eb (Mine.B.C w) f.L gh₀ s0 L₀ ro Cg ag gi (row++es.map tE) {σ with errs:=[]} t s'->Seg (model (Mine.B.C w).prog (Mine.B.C w).w) A.in1 (AF Fin) (YP (Mine.B.C w) f A (.Name nm pos) body ag gi) n' sx (wC w Cg sE) (.pure (.done .next)) fs s')->
  Seg (model (Mine.B.C w).prog (Mine.B.C w).w) A.in1 (AF Fin) (YP (Mine.B.C w) f A (.Name nm pos) body ag gi) n sx (wC w Cg sE) ((model (Mine.B.C w).prog (Mine.B.C w).w).den (wC w Cg sE)) fs s
 |es,σ,n,sx,s,gh,H,m,LL,row,g,hn,hr,hend=>by
  obtain⟨hw1,hw2⟩:=@wR (mr sE) [yS sE] [] (fG w Cg).env
  have rm:bG 17 (A.in1.over (wC w Cg sE) fs):=fM (N.rm.mono (by decide)) hf (by rw [hw1];decide) (by rw [hw2];decide)
  refine seg_whileLoop (wpAny_mono (D.e gh _ s _ (λb st=>b=cg es∧st=⟨Lg,H,m,false⟩) _ g.wake rm (KA g.ha ⟨rfl,rfl⟩) λgh' Z' s' b x' r' hk=> ?_) (λ_ _ h=>h) λ_ _ h=>h.elim)
  obtain⟨rfl,rfl⟩:=hk
  have g':=g.step B x' r' g.ha
  cases es with
  |nil=>
   rw [if_neg (by decide)]
   refine seg_execs_nil (hend n sx s' (by simpa using hn) ?_)
   rw [List.map_nil,List.append_nil];exact⟨gh',H,m,LL,g'⟩
  |cons x es=>
   rw [if_pos (show cg (x::es)=true from rfl)]
   rw [List.length_cons] at hn hr
   obtain⟨n,rfl⟩:∃k,n=k+1:=⟨n-1,by lia⟩
   refine seg_execs_cons (seg_Expr_Yield hf.sp rfl hf.gu ?_ (iR w (a:=261) rfl).co (vf w Cg))
   refine wpAny_mono (D.ey gh' _ s' _ (λv st=>∃H',v=.ob m∧st=⟨Lg,H',m+1,false⟩∧HA H' (m+1) ro row {σ with errs:=es} t∧lk m H'=some (.dct [(oK,.c (.int 7)),(oM,.c x)])) _ g'.wake rm (G0 (σ:=σ) g'.ha λH' h1 h2=>⟨H',rfl,rfl,h1,h2⟩) λgh2 Z2 s2 v y x2 r2 hv hk=> ?_) (λ_ _ h=>h) λ_ _ h=>h.elim
   obtain⟨H',rfl,rfl,ha,hlk⟩:=hk
   have hfz:frz H' (.ob m)=some (tE x,put m (.frz (tE x)) H'):=by
    show az (lk m H') _=_
    rw [hlk];rfl
   obtain⟨gh3,x3,r3,rf⟩:=eM (σ:=⟨Lg,H',m+1,false⟩) r2 hv hfz
   have hm:=ha.rm
   have h64:=g.ha.r64
   have hlt:=g.ha.rm
   have g3:=g'.step B (a8.trans' r2 x2 x3) r3 (ha.other (i:=m) (by lia) (by lia) _)
   intro kap hkap
   refine ms N B g3 rf (by lia) λs4 ⟨gh4,H4,m4,LL4,g4'⟩=>hkap .none s4 ?_
   refine seg_execs_nil (seg_again rfl ?_)
   refine EU N D B hf (n2:=n2) es σ n s4 s4 gh4 H4 m4 LL4 (row++[tE x]) g4' (by lia) (by rw [List.length_append,List.length_cons,List.length_nil];lia) λn' sx' s' h1 h2=> ?_
   refine hend n' sx' s' h1 ?_
   rw [List.map_cons, ←List.singleton_append, ←List.append_assoc];exact h2
theorem EQ(N:mo w mg mb f A nm body)(D:Wd w Cg sW sE sQ)(B:zJ (Mine.B.C w) f.L gh₀ s0 L₀ ro Cg ag gi){fs:List Frame}(hf:ke fs){n2 st:Nat}{ct:FV}{tb:Option (List Nat)}{σ:Sm}:∀(q:List FV) (n:Nat) (sx s:Shared) (gh:Gh) (H:List (Nat×AO)) (m:Nat) (LL:List (Nat×V)) (row:List FV),
  GI (Mine.B.C w) f.L gh₀ s0 L₀ ro Cg ag gi gh H m LL row σ ⟨st,ct,some q,tb⟩ s->q.length+n2≤n->row.length+q.length≤20000->
  (∀n' sx s',n2≤n'->Eb (Mine.B.C w) f.L gh₀ s0 L₀ ro Cg ag gi (row++q) σ ⟨st,ct,some [],tb⟩ s'->Seg (model (Mine.B.C w).prog (Mine.B.C w).w) A.in1 (AF Fin) (YP (Mine.B.C w) f A (.Name nm pos) body ag gi) n' sx (wC w Cg sQ) (.pure (.done .next)) fs s')->
  Seg (model (Mine.B.C w).prog (Mine.B.C w).w) A.in1 (AF Fin) (YP (Mine.B.C w) f A (.Name nm pos) body ag gi) n sx (wC w Cg sQ) ((model (Mine.B.C w).prog (Mine.B.C w).w).den (wC w Cg sQ)) fs s
 |q,n,sx,s,gh,H,m,LL,row,g,hn,hr,hend=>by
  obtain⟨hw1,hw2⟩:=@wR (mr sQ) [yS sQ] [] (fG w Cg).env
  have rm:bG 17 (A.in1.over (wC w Cg sQ) fs):=fM (N.rm.mono (by decide)) hf (by rw [hw1];decide) (by rw [hw2];decide)
  refine seg_whileLoop (wpAny_mono (D.q gh _ s _ (λb st=>b=cg q∧st=⟨Lg,H,m,false⟩) _ g.wake rm (Kz g.ha ⟨rfl,rfl⟩) λgh' Z' s' b x' r' hk=> ?_) (λ_ _ h=>h) λ_ _ h=>h.elim)
  obtain⟨rfl,rfl⟩:=hk
  have g':=g.step B x' r' g.ha
  cases q with
  |nil=>
   rw [if_neg (by decide)]
   refine seg_execs_nil (hend n sx s' (by simpa using hn) ?_)
   rw [List.append_nil];exact⟨gh',H,m,LL,g'⟩
  |cons x q=>
   rw [if_pos (show cg (x::q)=true from rfl)]
   rw [List.length_cons] at hn hr
   obtain⟨n,rfl⟩:∃k,n=k+1:=⟨n-1,by lia⟩
   refine seg_execs_cons (seg_Expr_Yield hf.sp rfl hf.gu ?_ (iR w (a:=261) rfl).co (vf w Cg))
   refine wpAny_mono (D.qy gh' _ s' _ (λv st'=>∃H',v=.c x∧st'=⟨Lg,H',m,false⟩∧HA H' m ro row σ ⟨st,ct,some q,tb⟩) _ g'.wake rm (GZ g'.ha λH' h1=>⟨H',rfl,rfl,h1⟩) λgh2 Z2 s2 v y x2 r2 hv hk=> ?_) (λ_ _ h=>h) λ_ _ h=>h.elim
   obtain⟨H',rfl,rfl,ha⟩:=hk
   have g3:=g'.step B x2 r2 ha
   intro kap hkap
   refine ms N B g3 hv (by lia) λs4 ⟨gh4,H4,m4,LL4,g4'⟩=>hkap .none s4 ?_
   refine seg_execs_nil (seg_again rfl ?_)
   refine EQ N D B hf (n2:=n2) q n s4 s4 gh4 H4 m4 LL4 (row++[x]) g4' (by lia) (by rw [List.length_append,List.length_cons,List.length_nil];lia) λn' sx' s' h1 h2=> ?_
   refine hend n' sx' s' h1 ?_
   rw [←List.singleton_append, ←List.append_assoc];exact h2
theorem aB.errs{σ:Sm}{d r:List Nat}{e m:Nat}(h:aB σ d r e m):σ.errs=List.replicate e ic:=by obtain⟨p,o,d0,b,h⟩:=h;exact h.errs
theorem m7{l:List Nat}(h:aq l=[]):l=[]:=by
 cases l with
 |nil=>rfl
 |cons c l=>
  have h0:∀(y z:List Nat) (x:Nat) (l:List Nat),z≠[]->ba y z 0 (x::l)≠[]:=λy z x l hz q=>by
   unfold ba at q
   split at q
   ·exact hz (List.append_eq_nil_iff.mp q).1
   ·cases q
  unfold aq at h
  cases q:ba [13,10] [10] 0 (c::l)with
  |nil=>exact absurd q (h0 _ _ _ _ (by decide))
  |cons a b=>rw [q] at h;exact absurd h (h0 _ _ _ _ (by decide))
theorem aB.done{σ:Sm}{d:List Nat}{e m:Nat}(h:aB σ d [] e m):m=0:=by
 obtain⟨p,o,d0,b,h⟩:=h
 have:=m7 (List.append_eq_nil_iff.mp h.rr.symm).2
 rw [h.mm,this];rfl
theorem aB.noerrs{σ:Sm}{d r:List Nat}{e m:Nat}(h:aB σ d r e m):aB {σ with errs:=[]} d r 0 m:=by
 obtain⟨p,o,d0,b,h⟩:=h
 exact⟨p,o,d0,b,h.place,h.pr,h.off,h.size,h.oc,h.buf,h.dd,h.rr,h.pl,h.pc,h.mm,rfl,h.raw,h.cut,by have:=h.em;lia,h.dr⟩
noncomputable abbrev oC(w:World)(Cg:Nat)(sW sE sQ:Stmt):Code:=.whileLoop (mr sW) [tv sE,tv sQ] [] (fG w Cg).env
theorem I0(N:mo w mg mb f A nm body)(D:Wd w Cg sW sE sQ)(B:zJ (Mine.B.C w) f.L gh₀ s0 L₀ ro Cg ag gi){fs:List Frame}(hf:ke fs)(hf1:frameCount (fs.map Frame.where_)≤2){ct:FV}{dA:List Nat}{Good:List FV->Prop}
  (hend:∀n' sx s' row Z' t',Eb (Mine.B.C w) f.L gh₀ s0 L₀ ro Cg ag gi row Z' t' s'->(∃e' n',aB Z' dA [] e' n')->Good row->Seg (model (Mine.B.C w).prog (Mine.B.C w).w) A.in1 (AF Fin) (YP (Mine.B.C w) f A (.Name nm pos) body ag gi) n' sx (oC w Cg sW sE sQ) (.pure (.done .next)) fs s'):
  ∀ {st:Nat} {tb:Option (List Nat)} {r:List Nat} {Tk:List FV},eD ct st tb r Tk->∀(z:Bool) (n:Nat) (sx s:Shared) (gh:Gh) (H:List (Nat×AO)) (m:Nat) (LL:List (Nat×V)) (row:List FV) (σ:Sm) (d:List Nat) (e k:Nat),
   GI (Mine.B.C w) f.L gh₀ s0 L₀ ro Cg ag gi gh H m LL row σ ⟨st,ct,some [],tb⟩ s->aB σ d r e k->(z=true->σ.off=σ.size)->Tk.length+(e+k)≤n->row.length+(Tk.length+(e+k))≤20000->d++r=dA->(∀out,df z (e+k) st tb r out->Good (row++out))->
   Seg (model (Mine.B.C w).prog (Mine.B.C w).w) A.in1 (AF Fin) (YP (Mine.B.C w) f A (.Name nm pos) body ag gi) n sx (oC w Cg sW sE sQ) ((model (Mine.B.C w).prog (Mine.B.C w).w).den (oC w Cg sW sE sQ)) fs s:=by
 intro st tb r Tk hT
 induction hT with
 | @stop st tb pf cond h1 h2 h3 h4 h5=>
  intro z n sx s gh H m LL row σ d e k g v hz hn hr hd hG
  obtain⟨hw1,hw2⟩:=@wR (mr sW) [tv sE,tv sQ] [] (fG w Cg).env
  have rm:bG 17 (A.in1.over (oC w Cg sW sE sQ) fs):=fM (N.rm.mono (by decide)) hf (by rw [hw1];decide) (by rw [hw2];decide)
  refine seg_whileLoop (wpAny_mono (D.t gh _ s _ (λb st'=>b=false∧∃H' Z' t' e' n',st'=⟨Lg,H',m,false⟩∧HA H' m ro row Z' t'∧aB Z' dA [] e' n') _ g.wake rm (GY g.ha h1 h2 v λZ' e' n' a1 a2 a3 v' H' ha=> ?_) λgh' Z' s' b x' r' hk=> ?_) (λ_ _ h=>h) λ_ _ h=>h.elim)
  ·refine⟨h3,H',Z',_,e',n',rfl,ha, ?_⟩
   rw [h4,h5,List.append_nil] at v'
   rw [List.append_nil] at hd
   rw [←hd];exact v'
  ·obtain⟨rfl,H',Z1,t1,e',n',rfl,ha,v'⟩:=hk
   have g':=g.step B x' r' ha
   rw [if_neg (by decide)]
   refine seg_execs_nil (hend n sx s' row Z1 t1 ⟨gh',H',m,LL,g'⟩ ⟨e',n',v'⟩ ?_)
   have:=hG [] (.stop h1 h3)
   rw [List.append_nil] at this;exact this
 | @go st tb r pf cond Tk h1 h2 h3 h4 h5 ih=>
  intro z n sx s gh H m LL row σ d e k g v hz hn hr hd hG
  obtain⟨hw1,hw2⟩:=@wR (mr sW) [tv sE,tv sQ] [] (fG w Cg).env
  have rm:bG 17 (A.in1.over (oC w Cg sW sE sQ) fs):=fM (N.rm.mono (by decide)) hf (by rw [hw1];decide) (by rw [hw2];decide)
  refine seg_whileLoop (wpAny_mono (D.t gh _ s _ (λb st'=>b=true∧∃H' Z' e' n',st'=⟨Lg,H',m,false⟩∧HA H' m ro row Z' ⟨(pf tb r).st,ct,some (pf tb r).q,(pf tb r).tb⟩∧aB Z' (d++(pf tb r).x) (pf tb r).r e' n'∧e'+n'=e+k∧(z=true->n'=0)) _ g.wake rm
   (GY g.ha h1 h2 v λZ' e' n' a1 a2 a3 v' H' ha=>⟨h3,H',Z',e',n',rfl,ha,v',a1,λq=>a3 (hz q)⟩) λgh' Z' s' b x' r' hk=> ?_) (λ_ _ h=>h) λ_ _ h=>h.elim)
  obtain⟨rfl,H',Z1,e',n',rfl,ha,v',hen,hz'⟩:=hk
  have g':=g.step B x' r' ha
  have hZ: {Z1 with errs:=List.replicate e' ic}=Z1:=by rw [←v'.errs]
  rw [←hZ] at g'
  rw [List.length_append] at hn hr
  have hmap:(List.replicate e' ic).map tE=List.replicate e' iF:=by rw [List.map_replicate];rfl
  rw [if_pos (show true=true from rfl)]
  refine seg_execs_cons (seg_While λp=> ?_)
  refine EU N D B (hf.push (by rw [hw1];exact hf1) (by rw [hw2];exact hf.un)) (n2:=(pf tb r).q.length+(Tk.length+n')) (List.replicate e' ic) Z1 n sx s' gh' H' m LL row g' (by rw [List.length_replicate];lia) (by rw [List.length_replicate];lia) λn1 sx1 s1 hn1 ⟨gh1,H1,m1,LL1,g1⟩=> ?_
  refine seg_leaf (.ok .next) ?_
  show Seg _ _ _ _ _ _ _ ((execs [tv sQ] (fG w Cg).env).wrap _ _ _ _) _ _
  refine seg_execs_cons (seg_While λp=> ?_)
  refine EQ N D B (hf.push (by rw [hw1];exact hf1) (by rw [hw2];exact hf.un)) (n2:=Tk.length+n') (pf tb r).q n1 sx1 s1 gh1 H1 m1 LL1 _ g1 hn1 (by rw [List.length_append,List.length_map,List.length_replicate];lia) λn3 sx3 s3 hn3 ⟨gh3,H3,m3,LL3,g3⟩=> ?_
  refine seg_leaf (.ok .next) ?_
  show Seg _ _ _ _ _ _ _ ((execs [] (fG w Cg).env).wrap _ _ _ _) _ _
  refine seg_execs_nil (seg_again rfl ?_)
  refine ih false n3 sx3 s3 gh3 H3 m3 LL3 _ {Z1 with errs:=[]} (d++(pf tb r).x) 0 n' g3 v'.noerrs (λq=>nomatch q) (by lia) ?_ ?_ λout ho=> ?_
  ·rw [List.length_append,List.length_append,List.length_map,List.length_replicate];lia
  ·rw [List.append_assoc,h4];exact hd
  ·rw [Nat.zero_add] at ho
   rw [hmap,List.append_assoc,List.append_assoc]
   refine hG _ ?_
   rw [←hen]
   exact .go h1 h3 hz' (λq=>aB.done (q▸v')) ho
end
end Mine.A
namespace Mine.A
open Mine.B Mine.Head
noncomputable def qQ(v:List V)(s:St)(k:Fl->St->Prop):Prop:=v=[.ob 1]∧∃σ st ct d r e m ro Tk,s.vl=false∧lk 267 s.L=some (.ob ro)∧64≤ro∧lk ro s.H=some (.lst [])∧lo s.H=Hp σ ⟨st,ct,none,none⟩∧aB σ d r e m∧eD ct st none r Tk∧Tk.length+(e+m)≤20000∧
 ∀out s' Z' t' e' m',df (decide (σ.off=σ.size)) (e+m) st none r out->aB Z' (d++r) [] e' m'->s'.vl=false->(∀n,n≠312->lk n s'.L=lk n s.L)->lk ro s'.H=some (.lst out)->lo s'.H=Hp Z' t'->k .nxt s'
noncomputable def gR:G:= {g9 with loop:=λl v s k=>Bool.rec False (qQ v s k) (Nat.beq l 1534)}
section
variable {c:Cx} {gh:Gh} {L:Addr} {σ:St} {s:Shared}
theorem al.grow(r:al c gh L σ s){h':Heap}{tk:Nat}{gs:Array GenState}(ht:0<tk)(hk:∀b o,s.heap.get? b=some o->h'.get? b=some o):al c gh L σ {s with heap:=h',toks:=tk,gens:=gs}:=by
 have r1:=r.turn (fp:=[]) (wr:=[]) ht ⟨λ_ h=>(nomatch h),λ_ h=>(nomatch h)⟩ (λ_ h=>(nomatch h)) (λb o _ e=>hk b o e)
 exact⟨r1.frz,r1.obs,r1.sep,r1.off,r1.nL,r1.loc,r1.new,r1.m64,r1.dom,r1.base,r1.Lb,r1.tk⟩
theorem a8.grow{b:Bool}{g g':Gh}{s0:Shared}(x:a8 b L g s0 g' s){h':Heap}{tk:Nat}{gs:Array GenState}(hk:∀b o,s.heap.get? b=some o->h'.get? b=some o)(hg:GK s0.gens gs):a8 b L g s0 g' {s with heap:=h',toks:=tk,gens:=gs}:=
 ⟨x.le,λy o e h1 h2=>hk _ _ (x.keep y o e h1 h2),x.fp,x.fF,hg,x.os,x.drawn⟩
end
section
variable {w:World} {mg mb:PySem.Str->Option Value} {f:Fm} {A:Around} {nm:PySem.Str} {pos:Pos} {body:List Stmt}
theorem E3{c:Cx}{gh:Gh}{L:Addr}{σ:St}{s:Shared}(r:al c gh L σ s){i:Nat}{o:AO}(h:lk i σ.H=some o):i<σ.m:=by
 obtain⟨a,ft,e,_⟩:=r.obs i o h
 rcases Nat.lt_or_ge i σ.m with z|z
 ·exact z
 ·rw [r.new i z] at e;cases e
theorem I1(N:mo w mg mb f A nm body){gh₀:Gh}{s0:Shared}{L₀:List (Nat×V)}{ro Cg ag gi:Nat}{Fin:Shared->Prop}(B:zJ (Mine.B.C w) f.L gh₀ s0 L₀ ro Cg ag gi){dA d r:List Nat}{Good:List FV->Prop}{st:Nat}{ct:FV}{Tk:List FV}{gh:Gh}{H:List (Nat×AO)}{m e k n:Nat}{LL:List (Nat×V)}{σ:Sm}{z:Bool}{sx s:Shared}
  (hend:∀s' row Z' t',Eb (Mine.B.C w) f.L gh₀ s0 L₀ ro Cg ag gi row Z' t' s'->(∃e' n',aB Z' dA [] e' n')->Good row->Fin s')
  (g:GI (Mine.B.C w) f.L gh₀ s0 L₀ ro Cg ag gi gh H m LL [] σ ⟨st,ct,none,none⟩ s) (hT:eD ct st none r Tk) (v:aB σ d r e k) (hz:z=true->σ.off=σ.size) (hn:Tk.length+(e+k)≤n) (hl:Tk.length+(e+k)≤20000) (hd:d++r=dA) (hG:∀out,df z (e+k) st none r out->Good out):
  Seg (model (Mine.B.C w).prog (Mine.B.C w).w) A.in1 (AF Fin) (YP (Mine.B.C w) f A (.Name nm pos) body ag gi) n sx (.func (a7 (fd w.params 261)) (fG w Cg).env) ((model (Mine.B.C w).prog (Mine.B.C w).w).den (.func (a7 (fd w.params 261)) (fG w Cg).env)) [] s:=by
 obtain⟨hw1,hw2⟩:=@Kn (a7 (fd w.params 261)) (fG w Cg).env
 have rm:bG 17 (A.in1.over (.func (a7 (fd w.params 261)) (fG w Cg).env) []):=fM (N.rm.mono (by decide)) .nil (by rw [hw1];decide) (by rw [hw2];decide)
 refine seg_func ?_
 have hS:SS (Mine.B.C w) g9 (fG w Cg) 17 (S.asgA (X.loc 292) 313 (X.lst X.nil)) (B7 w.params):=by
  have:=tQ (tT N.T) (n:=50) (λf sts h=>dR (tT N.T) 50 f sts h) (fG w Cg) (B7 w.params) (λt ht=>xR (F8 w.params) ht)
  rw [show cS cp (fG w Cg).cs (50+1) (B7 w.params)=_ from J3 w.params] at this
  exact this
 rw [show execs (a7 (fd w.params 261)) (fG w Cg).env=execs [B7 w.params,.While (mr (Ai w.params)) [tv (Gd w.params),tv (Gc w.params)] [] (ID (Ai w.params))] (fG w Cg).env from by rw [Gb]]
 refine seg_execs_cons (seg_wrap (wpAny_mono (hS gh ⟨Lg,H,m,false⟩ s _ (λfl st'=>fl=.nxt∧∃H',st'=⟨Lg,H',m+1,false⟩∧HA H' (m+1) ro [] σ ⟨st,ct,some [],none⟩) _ g.wake rm (KB g.ha λH' h=>⟨rfl,H',rfl,h⟩) λgh' Z' s' a b x' r' hl' hk=> ?_) (λ_ _ h=>h) λ_ _ h=>h.elim))
 obtain⟨rfl,H',rfl,ha⟩:=hk
 obtain rfl:=hl'
 have g':=g.step B x' r' ha
 refine seg_execs_cons (seg_While λp=> ?_)
 refine I0 N (Ed N Cg) B (ke.push .nil (by rw [hw1];decide) (by rw [hw2];decide)) (by show frameCount [(_,p)]≤2;rw [frameCount_cons,hw1];decide) (Good:=Good) (dA:=dA) (λn' sx' s' row Z' t' g1 g2 g3=> ?_) hT z n sx s' gh' H' (m+1) LL [] σ d e k g' v hz hn (by simpa using hl) hd (λout ho=>by rw [List.nil_append];exact hG out ho)
 refine seg_leaf (.ok .next) ?_
 show Seg _ _ _ _ _ _ _ ((execs [] (fG w Cg).env).wrap _ _ _ _) _ _
 refine seg_execs_nil (seg_end (.ok (.ret .none)) ⟨rfl,hend s' row Z' t' g1 g2 g3⟩)
end
end Mine.A
namespace Mine.A
open Mine.B Mine.Head
section
variable {w:World} {mg mb:PySem.Str->Option Value} {f:Fm} {A:Around} {nm:PySem.Str} {pos:Pos} {body:List Stmt}
theorem yf(N:mo w mg mb f A nm body){gh:Gh}{s s2:Shared}{LL:List (Nat×V)}{HH:List (Nat×AO)}{mm ro Cg ag gi:Nat}(r:al (Mine.B.C w) gh f.L ⟨LL,HH,mm,false⟩ s)(B:zJ (Mine.B.C w) f.L gh s LL ro Cg ag gi)
  {Zm:Sm} {st:Nat} {ct:FV} {d r':List Nat} {e m:Nat} {Tk:List FV} (g:GI (Mine.B.C w) f.L gh s LL ro Cg ag gi gh HH mm LL [] Zm ⟨st,ct,none,none⟩ s2)
  (hgs:s2.gens[gi]? =some (.fresh (.func (a7 (fd w.params 261)) (fG w Cg).env))) (hview:aB Zm d r' e m) (hT:eD ct st none r' Tk) (hlen:Tk.length+(e+m)≤20000) {k:Fl->St->Prop} {Q:Flow->Shared->Prop} (hp:gC (Mine.B.C w) f.L gh s k Q)
  (hk:∀out s' Z' t' e' m',df (decide (Zm.off=Zm.size)) (e+m) st none r' out->aB Z' (d++r') [] e' m'->s'.vl=false->(∀n,n≠312->lk n s'.L=lk n LL)->lk ro s'.H=some (.lst out)->lo s'.H=Hp Z' t'->k .nxt s') {Er:Value->Shared->Prop}:
  codeAny (model (Mine.B.C w).prog (Mine.B.C w).w) A (.forLoop (.Name nm pos) (.ref ag) body [] f.env) (λr s'=>match r with| .ok f=>Q f s'| .error e=>Er e s') s2:=by
 have hh:A.handled=none:=N.rm.hd
 have hdep:A.depth<recursionLimit:=by have:=N.rm.dep;omega
 let Fin:Shared->Prop:=λs₁=>∃row Z' t',Eb (Mine.B.C w) f.L gh s LL ro Cg ag gi row Z' t' s₁∧(∃e' n',aB Z' (d++r') [] e' n')∧df (decide (Zm.off=Zm.size)) (e+m) st none r' row
 refine codeAny_forLoop (λn s'=>∃gs,s'.gens[gi]? =some gs∧s'.heap.IsGen ag gi∧s'.heap.NoLimit∧gs.Goes (model (Mine.B.C w).prog (Mine.B.C w).w) A.in1 (AF Fin) (YP (Mine.B.C w) f A (.Name nm pos) body ag gi) n (.send .none) (s'.setGen gi .running)) (λn s' hI=> ?_) (Tk.length+(e+m)) ⟨_,hgs,g.gen,N.T.nolimit.keeps g.r.keepB,rfl, ?_⟩
 ·obtain⟨gs,e1,e2,e3,e4⟩:=hI
  refine wpAny_pyNext_gen (P:=λ_ _ s₁=>Fin s₁) (n:=n) hh e3 hdep e2 e1 e4 (λv s₁ gs' hy=> ?_) λs₁ hF h' hk'=> ?_
  ·refine wpAny_mono (hy gs') (λ_ s3 h3=>wpAny_mono h3 (λfl s4 h4=> ?_) λ_ _ h=>h.elim) λ_ _ h=>h.elim
   cases fl with
   |next=>
    obtain⟨q1,q2,q3,q4⟩:=h4
    cases n with
    |zero=>exact q4.elim
    |succ n=>exact⟨n,Nat.lt_succ_self _,gs',q1,q2,q3,q4⟩
   |cont=>
    obtain⟨q1,q2,q3,q4⟩:=h4
    cases n with
    |zero=>exact q4.elim
    |succ n=>exact⟨n,Nat.lt_succ_self _,gs',q1,q2,q3,q4⟩
   |brk=>exact h4.elim
   |ret v=>exact h4.elim
  ·obtain⟨row,Z',t',⟨gh1,H1,m1,LL1,g1⟩,⟨e',n',v'⟩,ho⟩:=hF
   have g2:=g1.setGen B .finished
   refine wpAny_pure ?_
   have E2:a8 false f.L gh s gh1 (s₁.setGen gi .finished):=by
    have:=g1.E.setGen B.g0 (q:=.finished) rfl
    rw [gq] at this;exact this
   refine hp gh1 ⟨LL1,H1,m1,false⟩ _ .next .nxt (E2.grow hk' E2.gens) (g2.r.grow g2.r.tk hk') rfl ?_
   exact hk row ⟨LL1,H1,m1,false⟩ Z' t' e' n' ho v' rfl g1.ll g1.ha.row g1.ha.lo
 ·have g1:=g.setGen B .running
  exact I1 N B (Good:=λout=>df (decide (Zm.off=Zm.size)) (e+m) st none r' out) (dA:=d++r') (λs' row Z' t' h1 h2 h3=>⟨row,Z',t',h1,h2,h3⟩) g1 hT hview (λq=>of_decide_eq_true q) (Nat.le_refl _) hlen rfl λout ho=>ho
end
end Mine.A
namespace Mine.A
open Mine.B Mine.Head
theorem wi{prog:Program}{w:World}{A:Around}{s:Shared}{R:Result->Shared->Prop}{a:Addr}{args:Args}{o:Obj}{fd:FuncData}{body:List Stmt}{binds:List (PySem.Str×Value)}
  (hroom:A.depth<recursionLimit) (ho:s.heap.get? a=some o) (hd':o.data=.func fd) (hco:fd.scope.isCoroutine=false) (hgen:fd.scope.isGenerator=true) (hbody:fd.body=.stmts body) (hcd:s.heap.CodeRec fd.code fd.qualname)
  (hb:bindArgs fd args=pure binds) (hcell:∀x∈fd.scope.names,x.2≠ .cell) (hloc:∀x∈binds,fd.scope.names.lookup x.1=some .local) (hk:fd.scope.kind=.function)
  (h:∀h',h'.Ns s.heap.objs.size (λx=>binds.reverse.lookup x)->Heap.SameBut s.heap.objs.size (s.heap.push {cls:=.type "frame",data:=.dict #[]}) h'->h'.NoLimit∧R (.ok (.ret (.ref h'.objs.size)))
   {s with gens:=s.gens.push (.fresh (.func body (callEnv fd s.heap.objs.size a))),toks:=s.toks+binds.length+1+1,heap:=h'.push {cls:=.type "generator",data:=.fields #[.int s.gens.size 0,.str fd.name (s.toks+binds.length),.str fd.qualname (s.toks+binds.length+1)]}}):
  codeAny (model prog w) A (.call (.ref a) args) R s:=
 codeAny_call_generator hroom ho hd' hco hgen hbody hcd (wpAny_of_eq hb (wpAny_newFunctionEnv hcell hloc (λh' hns hsb=>h h' hns hsb) hk))
section
variable {w:World} {mg mb:PySem.Str->Option Value} {f:Fm} {nm:PySem.Str} {pos:Pos} {body:List Stmt}
theorem ye(T:TopRead pw loose mg mb (H1 w.params))(hl:bu f.cs nm=true)(hc:cp.code nm=some 312)(hb:SB (Mine.B.C w) g9 f 17 fK body):pP (Mine.B.C w) gR f 30 1534 (.Name nm pos) body:=by
 intro gh σ s A k Q v x r rm hv hlp hp
 have N:mo w mg mb f A nm body:=⟨T,rm,hl,hc,hb⟩
 have hlp:qQ [x] σ k:=hlp
 obtain⟨hx,Zm,st,ct,d,r',e,m,ro,Tk,hvl,h267,h64,hrow,hlo,hview,hT,hlen,hk⟩:=hlp
 cases hx
 obtain⟨LL,HH,mm,vl⟩:=σ
 dsimp only at hvl
 subst hvl
 obtain⟨a,ft,hφ,rfl⟩:=hv
 have ha:HA HH mm ro [] Zm ⟨st,ct,none,none⟩:=⟨hlo,hrow,h64,E3 r hrow⟩
 obtain⟨a',ft',hφ',ho⟩:=r.obs 1 _ (ze ha)
 rw [hφ] at hφ';cases hφ'
 obtain⟨dx,es,nn,hft,hne,i1,i2,i3⟩:=ho
 have I:=lx i1 i2
 have X:(K w.params).In (Mine.B.C w).base:=(Ho T).X
 obtain⟨ml,Nl,hml⟩:=r.loc
 have hi:=of_decide_eq_true (JZ w.params)
 have FO:=iR w (a:=261) rfl
 have kb:=r.keepB
 refine owit_iter (r.fr Nl) X I hi.1 hi.2 (wpAny_call ?_)
 refine wi (body:=a7 (fd w.params 261)) (by have:=rm.dep;lia) (kb _ _ (ck w.params FO.lt)) FO.data FO.co (J0 w.params) FO.body ?_ (J2 w.params (.ref a)) FO.cell ?_ FO.kind (λh' hns hsb=>⟨?_, ?_⟩)
 ·obtain⟨cc,oc,vs',t,e1,e2,e3,e4⟩:=FO.code
  exact⟨cc,oc,vs',t,e1,kb _ _ e2,e3,e4⟩
 ·intro x hx
  obtain rfl:x=(Mine.B.nm 292,.ref a):=List.mem_singleton.mp hx
  exact of_decide_eq_true (List.all_eq_true.mp (bg (JY w.params)).2 292 (.head _))
 ·exact T.nolimit.keeps λb o e=>hsb.extBut b o (Nat.ne_of_lt (Heap.lt_size (kb b o e))) (Heap.get?_push_of_some _ (kb b o e))
 ·have hk1:∀b o,s.heap.get? b=some o->h'.get? b=some o:=λb o e=>hsb.extBut b o (Nat.ne_of_lt (Heap.lt_size e)) (Heap.get?_push_of_some _ e)
  have hC:∃o,h'.get? s.heap.objs.size=some o:=by
   obtain⟨oL,_,_,hL,_⟩:=hns
   exact⟨oL,hL⟩
  have hk2:∀(q:Obj) b o,s.heap.get? b=some o->(h'.push q).get? b=some o:=λq b o e=>Heap.get?_push_of_some q (hk1 b o e)
  have none0:s.heap.get? s.heap.objs.size=none:=aE (Nat.le_refl _)
  have noneA:s.heap.get? h'.objs.size=none:=by
   cases q:s.heap.get? h'.objs.size with
   |none=>rfl
   |some o=>exact absurd (Heap.lt_size (hk1 _ _ q)) (Nat.lt_irrefl _)
  have LtL:f.L<s.heap.objs.size:=by obtain⟨o,e⟩:=r.L_there;exact Heap.lt_size e
  obtain⟨c1,c2,c3⟩:=r.fresh
  have hCA:s.heap.objs.size≠h'.objs.size:=λq=>by obtain⟨o,e⟩:=hC;rw [q] at e;exact absurd (Heap.lt_size e) (Nat.lt_irrefl _)
  have hLA:h'.objs.size≠f.L:=λq=>by obtain⟨o,e⟩:=r.L_there;have h:=Heap.lt_size (hk1 _ _ e);rw [q] at h;exact Nat.lt_irrefl _ h
  have hgi:s.gens[s.gens.size]? =none:=Array.getElem?_eq_none (Nat.le_refl _)
  have hg0:∀(q:GenState),GK s.gens ((s.gens.push q).setIfInBounds s.gens.size .running):=λq=>⟨λi z e=>by
   have hlt:i<s.gens.size:=by
    rcases Nat.lt_or_ge i s.gens.size with y|y
    ·exact y
    ·rw [Array.getElem?_eq_none y] at e;cases e
   rw [Array.getElem?_setIfInBounds,if_neg (show¬s.gens.size=i by lia),Array.getElem?_push_lt hlt, ←e,Array.getElem?_eq_getElem hlt],λi z e=>by
   rcases i8 e with ⟨_,rfl⟩|⟨h,e⟩
   ·exact .inr rfl
   ·refine .inl ?_
    rw [Array.getElem?_push,if_neg (λq=>h q.symm)] at e;exact e⟩
  have B:zJ (Mine.B.C w) f.L gh s LL ro s.heap.objs.size h'.objs.size s.gens.size:=⟨Nat.ne_of_lt LtL,none0,noneA,hLA,λq=>hCA q.symm,hgi⟩
  show OwitIt _ _ _ _ (.ref h'.objs.size) _
  unfold OwitIt
  have hgen:Heap.IsGen (h'.push {cls:=.type "generator",data:=.fields #[.int s.gens.size 0,.str (fd w.params 261).name (s.toks+1),.str (fd w.params 261).qualname (s.toks+1+1)]}) h'.objs.size s.gens.size:=⟨_,_,_,Heap.get?_push_size _ rfl,rfl,rfl,rfl⟩
  refine wpAny_specialOf hgen.typeIs slot_gen_next.lookup ?_
  refine yf N r B ⟨r.grow (Nat.succ_pos _) (hk2 _),⟨⟨_,eh (λo e=>Heap.get?_push_of_some _ e) hns,a,ft,hφ, ?_⟩,c1,c3,Nat.le_trans r.Lb (Nat.le_of_lt LtL)⟩,(a8.refl _ _ _ _).grow (hk2 _) (hg0 _),ha,h267,λ_ _=>rfl,hgen,λhf=> ?_, ?_⟩ ?_ hview hT hlen hp hk
  ·show List.lookup (Mine.B.nm 292) [(Mine.B.nm 292,Value.ref a)]=_
   rw [List.lookup_cons,beq_self_eq_true]
  ·obtain⟨_,_,o,e⟩:=r.off _ hf
   rw [noneA] at e;cases e
  ·show s.gens.size<(s.gens.push _).size
   rw [Array.size_push];exact Nat.lt_succ_self _
  ·show(s.gens.push _)[s.gens.size]? =_
   simp;rfl
end
end Mine.A
namespace Mine.A
open Mine.B Mine.Head
noncomputable def xr:S:=(S.seq (S.ret (X.tup (X.cons (X.loc 267) (X.cons (X.meth (X.att (X.loc 316) 305) 239 X.nil []) X.nil)))) S.skip)
noncomputable def Bi:S:=(S.seq (S.asgN 267 (X.lst X.nil)) (S.seq (S.fr 1534 [312] (X.loc 316) (S.seq (S.ex (X.meth (X.loc 267) 0 (X.cons (X.loc 312) X.nil) [])) S.skip)) xr))
noncomputable def Bj:S:=(S.seq (S.iff (X.loc 296) (S.seq (S.ex (X.meth (X.att (X.loc 316) 305) 261 (X.cons (X.loc 296) X.nil) [])) S.skip) S.skip) Bi)
noncomputable def z9:S:=(S.iff (X.loc 223) (S.seq (S.asgA (X.loc 316) 144 (X.dct (X.cons (X.k (.str [116,121,112,101])) (X.cons (X.sub (X.glo ap) (X.k (.str [83,116,97,114,116,84,97,103]))) (X.cons (X.k (.str [110,97,109,101])) (X.cons (X.k (.str [101,109])) (X.cons (X.k (.str [100,97,116,97])) (X.cons (X.lst X.nil) X.nil)))))))) S.skip) S.skip)
noncomputable def EY:S:=(S.seq z9 Bj)
noncomputable def Aa:S:=(S.iff (X.cmp 0 (X.loc 262) (X.k (.int (0)))) (S.seq (S.asgA (X.loc 316) 302 (X.att (X.loc 316) 238)) S.skip) (S.seq (S.iff (X.cmp 0 (X.loc 262) (X.k (.int (1)))) (S.seq (S.asgA (X.loc 316) 302 (X.att (X.loc 316) 255)) S.skip) (S.seq (S.iff (X.cmp 0 (X.loc 262) (X.k (.int (2)))) (S.seq (S.asgA (X.loc 316) 302 (X.att (X.loc 316) 290)) S.skip) (S.seq (S.iff (X.cmp 0 (X.loc 262) (X.k (.int (3)))) (S.seq (S.asgA (X.loc 316) 302 (X.att (X.loc 316) 259)) S.skip) S.skip) S.skip)) S.skip)) S.skip))
noncomputable def EZ:S:=(S.seq Aa EY)
noncomputable def kg:S:=(S.seq (S.asgN 316 (X.new 755 (X.cons (X.loc 311) X.nil))) EZ)
noncomputable def mA(rd:Nat):Nat:=if rd=0 then 339 else if rd=1 then 325 else if rd=2 then 332 else if rd=3 then 311 else 297
noncomputable def j7(op:Bool):FV:=if op then vM else .non
noncomputable def wG(text:List Nat):Prop:=text.length≤10240∧∀c∈text,gy c=true->c=13
noncomputable def fk(l:List Nat):FV:=.tup [.int (gU l+1),.int (iU l)]
noncomputable abbrev Lr(text:List Nat)(rd:Int)(op:Bool)(sz:Int):List (Nat×V):=[(311,.c (.str text)),(262,.c (.int rd)),(223,.c (.bol op)),(296,.c (.int sz)),(316,.ob 1)]
theorem HO{H:List (Nat×AO)}{σ:Sm}{t:Tm}(h:lo H=Hp σ t){i:Nat}(hi':i<64):lk i H=lk i (Hp σ t):=by
 rw [←h,gw,if_pos hi']
theorem df.weak{z:Bool}{m st:Nat}{tb:Option (List Nat)}{r:List Nat}{out:List FV}(h:df z m st tb r out):df false m st tb r out:=by
 cases h with
 |stop h1 h2=>exact .stop h1 h2
 |go h1 h2 h3 h4 h5=>exact .go h1 h2 (λq=>bU q) h4 h5
theorem yt{g:G}{lb:Nat}{ns:List Nat}{it:X}{b c:S}{s:St}{K:Fl->St->Prop}{v:V}(h1:Ev g it s v)(h2:vd v s=none)(h:g.loop lb [v] s (sq g c K)):ex g (.seq (.fr lb ns it b) c) s K:=by
 refine EW (h1 _ ?_)
 rw [h2];exact h
theorem G3{text:List Nat}{L:List (Nat×V)}{H:List (Nat×AO)}{m ro:Nat}{out:List FV}{σ:Sm}{t:Tm}{e n:Nat}{k:V->List (Nat×AO)->Prop}(h1:lk 316 L=some (.ob 1))(h2:lk 267 L=some (.ob ro))(h3:lk ro H=some (.lst out))(hr:64≤ro)(hlo:lo H=Hp σ t)(v:aB σ text [] e n)
  (hk:k (.c (.tup [.lst out,fk text])) (Hp σ t)):ex gR xr ⟨L,H,m,false⟩ (fin k):=by
 have hb:=v.off_nn
 have hp:=v.posn
 have l1:lk 1 H=some (.inst 755 (td t)):=HO hlo (by decide)
 have l2:lk 2 H=some (.inst 159 (sd σ)):=HO hlo (by decide)
 unfold xr
 refine iI (gr (ah (ad (aa h2 (ah ?_)))))
 refine b6 (cr (ad (aa h1 (bF l1 rfl rfl (aa (a:=.fn 119 (.ob 2)) ?_ (ay (oG ?_)))))))
 ·show iY gR (.ob 2) 239 [] ⟨L,H,m,false⟩=_
  show az (lk 2 H) _=_
  rw [l2];rfl
 ·refine eA σ t rfl rfl hlo ⟨σ,t,rfl,rfl,rfl,⟨hb.1,by lia⟩, ?_⟩
  rw [hp]
  have hrow:lk ro (Hp σ t++hi H)=some (.lst out):=by
   have:lk ro (Hp σ t)=none:=by rw [←dh,gw,if_neg (by lia)]
   rw [ip,this,u0,if_neg (by lia),h3];rfl
  refine ay (aa (a:=([.lst out,fk text],put ro (.frz (.lst out)) (Hp σ t++hi H))) ?_ (bV rfl ?_))
  ·show sF [.ob ro,.c (fk text)] (Hp σ t++hi H)=_
   show az (az (lk ro (Hp σ t++hi H)) _) _=_
   rw [hrow];rfl
  ·refine nv σ t ?_ hk
   show lo (put ro (.frz (.lst out)) (Hp σ t++hi H))=_
   rw [cV (by lia),Mine.A.jF,dh,qR,List.append_nil]
theorem Ar{text r:List Nat}{rd:Int}{op:Bool}{sz:Int}{H:List (Nat×AO)}{m st:Nat}{ct:FV}{σ:Sm}{e n:Nat}{Tk:List FV}{k:V->List (Nat×AO)->Prop}(hlo:lo H=Hp σ ⟨st,ct,none,none⟩)(hm:64≤m)(v:aB σ [] r e n)(hT:eD ct st none r Tk)(hlen:Tk.length+(e+n)≤20000)
  (hk:∀out Z' t',df (decide (σ.off=σ.size)) (e+n) st none r out->k (.c (.tup [.lst out,fk r])) (Hp Z' t')):ex gR Bi ⟨Lr text rd op sz,H,m,false⟩ (fin k):=by
 have l1:lk 1 ((m,AO.lst [])::H)=some (.inst 755 (td ⟨st,ct,none,none⟩)):=(aj _ _ _).trans ((if_neg (show¬1=m by lia)).trans (HO hlo (by decide)))
 unfold Bi
 refine bE (gX (ay (aa rfl (bV rfl (sb ?_)))))
 refine yt (v:=.ob 1) (Ev.loc rfl) ?_ ?_
 ·show az (lk 1 ((m,AO.lst [])::H)) (J4 1 _)=none
  rw [l1];rfl
 ·have key:qQ [.ob 1] ⟨put 267 (.ob m) (Lr text rd op sz),(m,AO.lst [])::H,m+1,false⟩ (sq gR xr (fin k)):=by
   refine⟨rfl,σ,st,ct,[],r,e,n,m,Tk,rfl,rfl,hm,(aj _ _ _).trans (if_pos rfl), ?_,v,hT,hlen,λout s' Z' t' e' n' ho v' hvl hL hrow hlo'=> ?_⟩
   ·show lo ((m,AO.lst [])::H)=_
    rw [dt,if_neg (show¬m<64 by lia)];exact hlo
   ·obtain⟨L',H',m',vl'⟩:=s'
    dsimp only at hvl hL hrow hlo'
    subst hvl
    exact ie (G3 (hL 316 (by decide)) (hL 267 (by decide)) hrow hm hlo' v' (hk out Z' t' ho))
  exact key
theorem G4{text r:List Nat}{rd:Int}{op:Bool}{sz:Nat}{H:List (Nat×AO)}{m st:Nat}{ct:FV}{σ:Sm}{n:Nat}{Tk:List FV}{k:V->List (Nat×AO)->Prop}(hlo:lo H=Hp σ ⟨st,ct,none,none⟩)(hm:64≤m)(v:aB σ [] r 0 n)(ho:σ.off=σ.size)(hsz:sz=0∨2≤sz)(hT:eD ct st none r Tk)(hlen:Tk.length+n≤20000)
  (hk:∀out Z' t',df (decide (sz=0)) n st none r out->k (.c (.tup [.lst out,fk r])) (Hp Z' t')):ex gR Bj ⟨Lr text rd op sz,H,m,false⟩ (fin k):=by
 have l1:lk 1 H=some (.inst 755 (td ⟨st,ct,none,none⟩)):=HO hlo (by decide)
 have l2:lk 2 H=some (.inst 159 (sd σ)):=HO hlo (by decide)
 unfold Bj
 refine dC (ad (aa rfl ?_))
 rcases hsz with rfl|h2
 ·refine aa rfl (fu rfl (bD (ie ?_)))
  refine Ar hlo hm v hT (by lia) λout Z' t' h=>hk out Z' t' ?_
  rw [decide_eq_true ho,Nat.zero_add] at h
  exact h
 ·refine aa rfl (bV ?_ ?_)
  ·show(!decide (((sz:Nat):Int)=0))=true
   rw [decide_eq_false (by lia)];rfl
  obtain⟨hro,y,e',m',hr,he,hm',_,v',_⟩:=jb h2 v
  have hx:σ.chunk.drop σ.off.toNat=[]:=List.drop_eq_nil_of_le (by have:=v.off_nn;lia)
  rw [hx,List.nil_append] at hr
  rw [hx] at v'
  subst hr
  refine kU (b6 (cr (ad (aa rfl (bF l1 rfl rfl (aa (a:=.fn 134 (.ob 2)) ?_ (ah (ad (aa rfl (ay (oG ?_)))))))))))
  ·show iY gR (.ob 2) 261 [] ⟨_,H,m,false⟩=_
   show az (lk 2 H) _=_
   rw [l2];rfl
  ·refine eA σ _ rfl rfl hlo ⟨σ,_,(sz:Int),.inl rfl,rfl,rfl,hro, ?_⟩
   refine bD (ie ?_)
   refine Ar (σ:=mS (sz:Int) σ) (st:=st) (ct:=ct) (by rw [Mine.A.jF,dh,qR,List.append_nil]) hm v' hT (by lia) λout Z' t' h=>hk out Z' t' ?_
   have hd:decide (sz=0)=false:=decide_eq_false (by lia)
   rw [hd]
   have:e'+m'=n:=by lia
   rw [this] at h
   exact df.weak h
theorem E0{text:List Nat}{rd sz:Int}{op:Bool}{st:Nat}{σ:Sm}{K:Fl->St->Prop}(hk:∀H,lo H=Hp σ ⟨st,j7 op,none,none⟩->∀m,64≤m->K .nxt ⟨Lr text rd op sz,H,m,false⟩):ex gR z9 ⟨Lr text rd op sz,Hp σ ⟨st,.non,none,none⟩,64,false⟩ K:=by
 cases op
 ·exact hk _ (dh ..) 64 (by decide)
 ·refine hk _ ?_ 66 (by decide)
  rfl
theorem E1{text:List Nat}{sz:Int}{rd:Nat}{op:Bool}{σ:Sm}{K:Fl->St->Prop}(hrd:rd≤4)(hk:K .nxt ⟨Lr text rd op sz,Hp σ ⟨mA rd,.non,none,none⟩,64,false⟩):ex gR Aa ⟨Lr text rd op sz,Hp σ ⟨297,.non,none,none⟩,64,false⟩ K:=by
 match rd,hrd with
 |0,_=>exact hk
 |1,_=>exact hk
 |2,_=>exact hk
 |3,_=>exact hk
 |4,_=>exact hk
 |n+5,h=>lia
theorem G5{text r:List Nat}{rd:Int}{op:Bool}{sz st:Nat}{σ:Sm}{n:Nat}{Tk:List FV}{k:V->List (Nat×AO)->Prop}(v:aB σ [] r 0 n)(ho:σ.off=σ.size)(hsz:sz=0∨2≤sz)(hT:eD (j7 op) st none r Tk)(hlen:Tk.length+n≤20000)
  (hk:∀out Z' t',df (decide (sz=0)) n st none r out->k (.c (.tup [.lst out,fk r])) (Hp Z' t')):ex gR EY ⟨Lr text rd op sz,Hp σ ⟨st,.non,none,none⟩,64,false⟩ (fin k):=by
 exact jh (E0 λH hlo m hm=>ie (G4 hlo hm v ho hsz hT hlen hk))
noncomputable def qc:aK:=λxs kws H k=>∃text rd op sz Tk,xs=[.c (.str text),.c (.int (rd:Nat)),.c (.bol op),.c (.int (sz:Nat))]∧kws=[]∧H=[]∧wG text∧rd≤4∧(sz=0∨2≤sz)∧eD (j7 op) (mA rd) none (aq text) Tk∧Tk.length+(ao text).length≤20000∧
 ∀out Z' t',df (decide (sz=0)) (ao text).length (mA rd) none (aq text) out->k (.c (.tup [.lst out,fk (aq text)])) (Hp Z' t')
theorem G2(xs kws H k)(h:qc xs kws H k):ai (ar [311,262,223,296] xs kws) λL0=>ex gR kg ⟨L0,H,64,false⟩ (fin k):=by
 obtain⟨text,rd,op,sz,Tk,rfl,rfl,rfl,⟨h1,h2⟩,hrd,hsz,hT,hlen,hk⟩:=h
 refine aa rfl (bE ?_)
 conv=>whnf
 refine⟨text,rfl,rfl,rfl, ?_⟩
 show ex gR EZ ⟨Lr text rd op sz,Hp (HY text) ⟨297,.non,none,none⟩,64,false⟩ (fin k)
 exact jh (E1 hrd (ie (G5 (aB.zero h1 h2) rfl hsz hT hlen hk)))
end Mine.A
namespace Mine.A
open Mine.B Mine.Head
noncomputable def Ir(P:Params):Stmt:=(kT cp 60 (a7 (fd P 767))).getD 0 (.Pass default)
noncomputable def yr(P:Params):Expr:=match Ir P with| .For t _ _ _ _=>t|_=>.Constant .none 0 default
noncomputable def An(P:Params):Expr:=match Ir P with| .For _ i _ _ _=>i|_=>.Constant .none 0 default
noncomputable def q7(P:Params):List Stmt:=match Ir P with| .For _ _ b _ _=>b|_=>[]
noncomputable def It(P:Params):Pos:=match Ir P with| .For _ _ _ _ p=>p|_=>default
noncomputable def jz(e:Expr):PySem.Str:=match e with| .Name x _=>x|_=>⟨#[]⟩
noncomputable def rT(e:Expr):Pos:=match e with| .Name _ p=>p|_=>default
noncomputable def Cu(s:Stmt):Expr:=match s with| .Expr e _=>e|_=>.Constant .none 0 default
noncomputable def Ct(s:Stmt):Pos:=match s with| .Expr _ p=>p|_=>default
theorem Gw(P:Params):kT cp 60 (a7 (fd P 767))=[.For (.Name (jz (yr P)) (rT (yr P))) (.Name (jz (An P)) (rT (An P))) [.Expr (Cu ((q7 P).headD (.Pass default))) (Ct ((q7 P).headD (.Pass default)))] [] (It P)]:=by kernel_rfl!
theorem Gv(P:Params):(It P).line=1534:=by kernel_rfl!
theorem yq(P:Params):cp.code (jz (yr P))=some 312:=by kernel_rfl!
theorem Cj(P:Params):bu (fd P 767).scope (jz (yr P))=true:=by kernel_rfl!
theorem Kl(P:Params):cB cp (fd P 767).scope 50 [.Expr (Cu ((q7 P).headD (.Pass default))) (Ct ((q7 P).headD (.Pass default)))]=fK:=by kernel_rfl!
theorem zX(p:CP)(e:Expr)(q:Pos)(m:Nat):kT p m [.Expr e q]=[]:=by
 induction m using Nat.casesOn with
 |zero=>rfl
 |succ m=>induction m using Nat.casesOn<;>rfl
theorem rc(P:Params):((cB cp (fd P 767).scope 60 (a7 (fd P 767)),(fd P 767).scope.isGenerator,eP (fd P 767) [311,262,223,296]),λa b c d=>bindArgs (fd P 767) ⟨[a,b,c,d],[]⟩)=
 ((kg,false,true),λa b c d=>pure (([311,262,223,296].map nm).zip [a,b,c,d])):=by kernel_rfl!
theorem C4(w:World):tr w 767 (ar [311,262,223,296]):=kI [311,262,223,296] (congrArg (λp=>p.1.2.2) (rc w.params)) λvs h=>by
 obtain⟨a,b,c,d,e⟩:=dY Value.none (l:=vs) (by rw [h];decide)
 rw [h] at e;subst e
 exact congrFun (congrFun (congrFun (congrFun (congrArg Prod.snd (rc w.params)) a) b) c) d
section
variable {w:World} {mg mb:PySem.Str->Option Value}
theorem xk(T:TopRead pw loose mg mb (H1 w.params)):gB (Mine.B.C w) gR (K w.params) cp loose mg mb 29:=by
 have S:=tT T
 refine⟨S.Y,⟨S.YG.own,S.YG.cls,S.YG.catt,S.YG.satt,S.YG.scls,S.YG.con,S.YG.ini,S.YG.fn,S.YG.mn⟩,S.can,λfa=>(S.C fa).mono (by decide),λlb hg v σ k h=> ?_⟩
 have h:(Bool.rec False (qQ v σ k) (Nat.beq lb 1534):Prop):=h
 cases q:Nat.beq lb 1534 with
 |false=>rw [q] at h;exact h
 |true=>
  have hg:(Nat.beq lb 1534||Nat.beq lb 252)=false:=hg
  rw [q,Bool.true_or] at hg;cases hg
theorem Bh(T:TopRead pw loose mg mb (H1 w.params))(f:Fm)(hf:f.cs=(fd w.params 767).scope):∀t∈kT cp 60 (a7 (fd w.params 767)),∀m,SS (Mine.B.C w) gR f (29+1) (cS cp f.cs m t) t:=by
 intro t ht m
 rw [Gw] at ht
 obtain rfl:=List.mem_singleton.mp ht
 cases m with
 |zero=>exact cJ
 |succ m=>
  have hl:bu f.cs (jz (yr w.params))=true:=by rw [hf];exact Cj _
  have hc:=yq w.params
  have e:cS cp f.cs (m+1) (.For (.Name (jz (yr w.params)) (rT (yr w.params))) (.Name (jz (An w.params)) (rT (An w.params))) [.Expr (Cu ((q7 w.params).headD (.Pass default))) (Ct ((q7 w.params).headD (.Pass default)))] [] (It w.params))=
    .fr 1534 [312] (cE cp f.cs m (.Name (jz (An w.params)) (rT (An w.params)))) (cB cp f.cs m [.Expr (Cu ((q7 w.params).headD (.Pass default))) (Ct ((q7 w.params).headD (.Pass default)))]):=by
   rw [←Gv w.params]
   show(if bu f.cs (jz (yr w.params))=true then qA (cp.code (jz (yr w.params))) (λi=>S.fr (It w.params).line [i] (cE cp f.cs m (.Name (jz (An w.params)) (rT (An w.params)))) (cB cp f.cs m [.Expr (Cu ((q7 w.params).headD (.Pass default))) (Ct ((q7 w.params).headD (.Pass default)))]))else .bad)=_
   rw [if_pos hl,hc]
   rfl
  rw [e]
  have hb:SB (Mine.B.C w) g9 f 17 fK [.Expr (Cu ((q7 w.params).headD (.Pass default))) (Ct ((q7 w.params).headD (.Pass default)))]:=by
   have:=dR (tT T) 50 f [.Expr (Cu ((q7 w.params).headD (.Pass default))) (Ct ((q7 w.params).headD (.Pass default)))] (λt ht=>by rw [zX] at ht;cases ht)
   rw [hf,Kl] at this;exact this
  refine AD (xk T).Y rfl hl hc ((eW (xk T) m).1 f _).1 (dR (xk T) m f _ λt ht=>by rw [zX] at ht;cases ht) (ye T hl hc hb)
theorem HC(T:TopRead pw loose mg mb (H1 w.params)):bH false (Mine.B.C w) 767 31 (Iv qc):=pS (wj T (xk T) rfl (congrArg (λp=>p.1.1) (rc w.params)) (congrArg (λp=>p.1.2.1) (rc w.params)) (Bh T) (C4 w) G2)
end
end Mine.A
namespace Mine.A
open Mine.B
theorem qB{g:G}{s:St}{F:V->St->Prop}{n:Nat}{it cd e:X}(h:ev g it s (one λv s=>ai (vd v s) λr=>wL n (ev g cd) (ev g e) r.1 [] (cj r.2 []) λv s'=>F v (cj s' s.L))):ev g (.lcm n it cd e) s (one F):=h
theorem lv{g:G}{n m:Nat}{cd e:X}{H:List (Nat×AO)}{vl:Bool}{k:V->St->Prop}(p:FV->Bool)(f:FV->FV)(l:List FV):∀(acc:List FV) (L:List (Nat×V)),
  (∀x∈l,Ev g cd ⟨[(n,.c x)],H,m,vl⟩ (.c (.bol (p x))))->(∀x∈l,p x=true->Ev g e ⟨[(n,.c x)],H,m,vl⟩ (.c (f x)))->acc.length+l.length≤16777216->
  (∀L',k (.ob m) ⟨L',(m,.lst (acc++(l.filter p).map f))::H,m+1,vl⟩)->wL n (ev g cd) (ev g e) l acc ⟨L,H,m,vl⟩ k:=by
 induction l with
 |nil=>
  intro acc L _ _ _ hk
  have:=hk L
  rw [List.filter_nil,List.map_nil,List.append_nil] at this
  exact this
 |cons x l ih=>
  intro acc L hc he hb hk
  rw [List.length_cons] at hb
  refine hc x (.head _) _ (aa rfl (du (λh=> ?_) λh=> ?_))
  ·have h:p x=true:=h
   refine he x (.head _) h _ (aa rfl ⟨by lia, ?_⟩)
   rw [List.filter_cons_of_pos h,List.map_cons,List.append_cons] at hk
   exact ih (acc++[f x]) _ (λy hy=>hc y (.tail _ hy)) (λy hy=>he y (.tail _ hy)) (by rw [List.length_append,List.length_cons,List.length_nil];lia) hk
  ·rw [List.filter_cons_of_neg (by rw [show p x=false from h];decide)] at hk
   exact ih acc _ (λy hy=>hc y (.tail _ hy)) (λy hy=>he y (.tail _ hy)) (by lia) hk
structure nO (f:FV):Prop where
 ex:∃(i:Int) (s:List Nat),f=j0 i s∧(i=1∨i=2∨i=7)
noncomputable def kind(f:FV):Int:=match f with| .dct ((_,.int i)::_)=>i|_=>0
noncomputable def cb(f:FV):List Nat:=match f with| .dct [_,(_,.str s)]=>s|_=>[]
noncomputable def cx(f:FV):Bool:= !decide (kind f=7)
noncomputable def JE:X:=(X.cmp 1 (X.sub (X.loc 312) (X.k (.str [116,121,112,101]))) (X.sub (X.glo ap) (X.k (.str [80,97,114,115,101,69,114,114,111,114]))))
noncomputable def gO:S:=(S.seq (S.ret (X.lcm 312 (X.loc 267) JE (X.loc 312))) S.skip)
noncomputable def jj:aK:=λxs kws H k=>∃row,xs=[.c (.lst row)]∧kws=[]∧H=[]∧(∀f∈row,nO f)∧row.length≤20000∧k (.c (.lst (row.filter cx))) []
theorem vU(g:G)(xs kws H k)(h:jj xs kws H k):ai (ar [267] xs kws) λL0=>ex g gO ⟨L0,H,64,false⟩ (fin k):=by
 obtain⟨row,rfl,rfl,rfl,ht,hl,hk⟩:=h
 refine aa rfl ?_
 refine iI (qB (ad (aa rfl (aa (a:=(row,_)) rfl ?_))))
 refine lv cx id row [] _ (λx hx F hF=> ?_) (λx hx _ F hF=>hF) (by simp;lia) λL'=> ?_
 ·obtain⟨i,u,rfl,hi⟩:=(ht x hx).ex
  exact hF
 ·rw [List.nil_append,List.map_id]
  exact hk
noncomputable def sm:S:=(S.seq (S.iff (X.or (X.cmp 0 (X.sub (X.loc 312) (X.k (.str [116,121,112,101]))) (X.sub (X.glo ap) (X.k (.str [67,104,97,114,97,99,116,101,114,115])))) (X.cmp 0 (X.sub (X.loc 312) (X.k (.str [116,121,112,101]))) (X.sub (X.glo ap) (X.k (.str [83,112,97,99,101,67,104,97,114,97,99,116,101,114,115]))))) (S.seq (S.iff (X.and (X.loc 187) (X.cmp 0 (X.sub (X.sub (X.loc 187) (X.k (.int (-1)))) (X.k (.int (0)))) (X.k (.str [116,101,120,116])))) (S.seq (S.asgS (X.loc 187) (X.k (.int (-1))) (X.tup (X.cons (X.k (.str [116,101,120,116])) (X.cons (X.bin 0 (X.sub (X.sub (X.loc 187) (X.k (.int (-1)))) (X.k (.int (1)))) (X.sub (X.loc 312) (X.k (.str [100,97,116,97])))) X.nil)))) S.skip) (S.seq (S.ex (X.meth (X.loc 187) 0 (X.cons (X.tup (X.cons (X.k (.str [116,101,120,116])) (X.cons (X.sub (X.loc 312) (X.k (.str [100,97,116,97]))) X.nil))) X.nil) [])) S.skip)) S.skip) (S.seq (S.ex (X.meth (X.loc 187) 0 (X.cons (X.tup (X.cons (X.ife (X.cmp 0 (X.sub (X.loc 312) (X.k (.str [116,121,112,101]))) (X.sub (X.glo ap) (X.k (.str [80,97,114,115,101,69,114,114,111,114])))) (X.k (.str [116,111,108,100])) (X.k (.str [116,97,103]))) (X.cons (X.sub (X.loc 312) (X.k (.str [100,97,116,97]))) X.nil))) X.nil) [])) S.skip)) S.skip)
noncomputable def gP:S:=(S.seq (S.asgN 187 (X.lst X.nil)) (S.seq (S.fr 1541 [312] (X.loc 267) sm) (S.seq (S.ret (X.loc 187)) S.skip)))
noncomputable abbrev JU:List Nat:=[116,101,120,116]
noncomputable abbrev JV:List Nat:=[116,111,108,100]
noncomputable def di(p:Bool×List Nat):FV:=.tup [.str (if p.1 then JU else JV),.str p.2]
noncomputable def dU(acc:List (Bool×List Nat))(f:FV):List (Bool×List Nat):=
 if kind f=7 then acc++[(false,cb f)]else match acc.getLast? with
  |some (true,u)=>acc.dropLast++[(true,u++cb f)]
  |_=>acc++[(true,cb f)]
noncomputable def fJ(l:List (Bool×List Nat)):Nat:=(l.map λp=>p.2.length).sum
theorem qX{α:Type}(l:List α)(x:α):d7 (l++[x]) (-1)=some x:=by
 show(Bool.rec (Bool.rec none (l++[x])[(-1+((l++[x]).length:Int)).toNat]? (decide (0≤ -1+((l++[x]).length:Int)))) (l++[x])[(-1:Int).toNat]? (decide ((0:Int)≤ -1)):Option α)=_
 have hl:(l++[x]).length=l.length+1:=by rw [List.length_append];rfl
 rw [show decide ((0:Int)≤ -1)=false from rfl,show decide (0≤ -1+((l++[x]).length:Int))=true from decide_eq_true (by lia)]
 show(l++[x])[(-1+((l++[x]).length:Int)).toNat]? =_
 rw [show(-1+((l++[x]).length:Int)).toNat=l.length by lia]
 simp
theorem lM(acc:List (Bool×List Nat))(p:Bool×List Nat):acc.map di++[di p]=(acc++[p]).map di:=by rw [List.map_append];rfl
theorem fH(a b:List (Bool×List Nat)):fJ (a++b)=fJ a+fJ b:=by unfold fJ;rw [List.map_append,List.sum_append]
theorem qY(a:List (Bool×List Nat))(p:Bool×List Nat):d7 ((a++[p]).map di) (-1)=some (di p):=by rw [List.map_append];exact qX _ _
theorem uE(a:List (Bool×List Nat))(p:Bool×List Nat):cg ((a++[p]).map di)=true:=by
 rw [List.map_append];cases a<;>rfl
theorem rN(l:List FV)(x f:FV):km (l++[x]) (-1) f=some (l++[f]):=by
 have hl:(l++[x]).length=l.length+1:=by rw [List.length_append];rfl
 show(Bool.rec (Bool.rec none (some ((l++[x]).set (-1+((l++[x]).length:Int)).toNat f)) (decide (0≤ -1+((l++[x]).length:Int)))) (Bool.rec none (some ((l++[x]).set (-1:Int).toNat f)) (decide ((-1:Int)<(l++[x]).length))) (decide ((0:Int)≤ -1)):Option (List FV))=_
 rw [show decide ((0:Int)≤ -1)=false from rfl,show decide (0≤ -1+((l++[x]).length:Int))=true from decide_eq_true (by lia)]
 show some ((l++[x]).set (-1+((l++[x]).length:Int)).toNat f)=_
 rw [show(-1+((l++[x]).length:Int)).toNat=l.length by lia]
 simp
theorem rO(a:List (Bool×List Nat))(p:Bool×List Nat)(f:FV):km ((a++[p]).map di) (-1) f=some (a.map di++[f]):=by rw [List.map_append];exact rN _ _ _
theorem EL{s:St}{k:St->Prop}{n:Nat}{l l':List FV}{j:Int}{f:FV}(h1:lk n s.H=some (.lst l))(h2:km l j f=some l')(hk:k (aR s (put n (.lst l') s.H))):oh (.ob n) (.c (.int j)) (.c f) s k:=by
 exact aa rfl (aa rfl (aa h1 (aa rfl (aa (a:=(f,s.H)) rfl (aa (o:=gj (lk n s.H)) (congrArg gj h1) (aa h2 hk))))))
noncomputable abbrev Lj(row:List FV)(f:FV):List (Nat×V):=[(267,.c (.lst row)),(187,.ob 64),(312,.c f)]
theorem qV{g:G}{row:List FV}{acc:List (Bool×List Nat)}{i:Int}{u:List Nat}{K:Fl->St->Prop}(hi:i=1∨i=2)(hl:acc.length≤100000)(ht:fJ acc+u.length≤1000000)
  (hk:K .nxt ⟨Lj row (j0 i u),[(64,.lst ((dU acc (j0 i u)).map di))],65,false⟩):ex g sm ⟨Lj row (j0 i u),[(64,.lst (acc.map di))],65,false⟩ K:=by
 have hb1:(acc.map di).length+1≤16777216:=by rw [List.length_map];lia
 have hki:kind (j0 i u)≠7:=by
  rcases hi with rfl|rfl
  ·exact(show(1:Int)≠7 by decide)
  ·exact(show(2:Int)≠7 by decide)
 unfold dU at hk
 rw [if_neg hki] at hk
 rcases List.eq_nil_or_concat acc with rfl|⟨a,⟨b,v⟩,rfl⟩
 ·rcases hi with rfl|rfl
  ·exact⟨hb1,hk⟩
  ·exact⟨hb1,hk⟩
 ·rw [List.concat_eq_append] at hk hl ht hb1⊢
  rw [List.getLast?_concat,List.dropLast_concat] at hk
  rw [fH] at ht
  have htv:fJ [(b,v)]=v.length:=by simp [fJ]
  rcases hi with rfl|rfl
  all_goals
   conv=>whnf
   refine bV (uE a (b,v)) ?_
   conv=>whnf
   refine aa (o:=d7 _ (-1)) (qY a (b,v)) ?_
   cases b
   ·rw [←lM] at hk
    exact⟨hb1,hk⟩
   ·rw [←lM] at hk
    conv=>whnf
    refine aa (o:=d7 _ (-1)) (qY a (true,v)) ?_
    conv=>whnf
    refine⟨by show v.length+u.length≤16777216;lia, ?_⟩
    conv=>whnf
    exact EL (s:=⟨Lj row _,[(64,.lst ((a++[(true,v)]).map di))],65,false⟩) (n:=64) (j:= -1) (f:=di (true,v++u)) rfl (rO a (true,v) _) hk
theorem yi{g:G}{row:List FV}{acc:List (Bool×List Nat)}{u:List Nat}{K:Fl->St->Prop}(hl:acc.length≤100000)
  (hk:K .nxt ⟨Lj row (j0 7 u),[(64,.lst ((dU acc (j0 7 u)).map di))],65,false⟩):ex g sm ⟨Lj row (j0 7 u),[(64,.lst (acc.map di))],65,false⟩ K:=by
 have hb1:(acc.map di).length+1≤16777216:=by rw [List.length_map];lia
 have hj:dU acc (j0 7 u)=acc++[(false,u)]:=if_pos rfl
 rw [hj, ←lM] at hk
 exact⟨hb1,hk⟩
noncomputable def eR(row:List FV):List (Bool×List Nat):=row.foldl dU []
noncomputable def fN(l:List FV):Nat:=(l.map λf=>(cb f).length).sum
theorem sn(acc:List (Bool×List Nat))(f:FV):(dU acc f).length≤acc.length+1∧fJ (dU acc f)≤fJ acc+(cb f).length:=by
 unfold dU
 split
 ·rw [fH];simp [fJ]
 ·rcases List.eq_nil_or_concat acc with rfl|⟨a,⟨b,v⟩,rfl⟩
  ·simp [fJ]
  ·rw [List.concat_eq_append,List.getLast?_concat,List.dropLast_concat]
   cases b
   ·show(a++[(false,v)]++[(true,cb f)]).length≤_∧fJ (a++[(false,v)]++[(true,cb f)])≤_
    rw [fH (a++[(false,v)])]
    simp [fJ]
   ·show(a++[(true,v++cb f)]).length≤_∧fJ (a++[(true,v++cb f)])≤_
    rw [fH,fH]
    simp [fJ];lia
theorem yj{g:G}{K:Fl->St->Prop}{row:List FV}(l:List FV):∀(acc:List (Bool×List Nat)) (L:List (Nat×V)),(∀f∈l,nO f)->lk 187 L=some (.ob 64)->(∀f,put 312 (.c f) L=Lj row f)->acc.length+l.length≤90000->fJ acc+fN l≤1000000->
  (∀L',lk 187 L'=some (.ob 64)->K .nxt ⟨L',[(64,.lst ((l.foldl dU acc).map di))],65,false⟩)->dM (ex g sm) (dZ [312]) l ⟨L,[(64,.lst (acc.map di))],65,false⟩ K:=by
 induction l with
 |nil=>exact λacc L _ h1 _ _ _ hk=>lG (hk L h1)
 |cons f l ih=>
  intro acc L ht h1 hp hl hb hk
  rw [show fN (f::l)=(cb f).length+fN l by simp [fN]] at hb
  rw [List.length_cons] at hl
  have hj:=sn acc f
  have next:=ih (dU acc f) (Lj row f) (λx hx=>ht x (.tail _ hx)) rfl (λ_=>rfl) (by lia) (by lia) hk
  have goal:ex g sm ⟨Lj row f,[(64,.lst (acc.map di))],65,false⟩ (fo (ex g sm) (dZ [312]) l K):=by
   obtain⟨i,u,rfl,hi⟩:=(ht f (.head _)).ex
   have hu:cb (j0 i u)=u:=rfl
   rw [hu] at hb
   rcases hi with rfl|rfl|rfl
   ·exact qV (.inl rfl) (by lia) (by lia) next
   ·exact qV (.inr rfl) (by lia) (by lia) next
   ·exact yi (by lia) next
  rw [←hp] at goal
  exact jM goal
noncomputable def jk:aK:=λxs kws H k=>∃row,xs=[.c (.lst row)]∧kws=[]∧H=[]∧(∀f∈row,nO f)∧row.length≤20000∧fN row≤1000000∧k (.c (.lst ((eR row).map di))) []
theorem vV(g:G)(xs kws H k)(h:jk xs kws H k):ai (ar [267] xs kws) λL0=>ex g gP ⟨L0,H,64,false⟩ (fin k):=by
 obtain⟨row,rfl,rfl,rfl,ht,hl,hb,hk⟩:=h
 refine aa rfl ?_
 refine bE (gX (ay (aa rfl (bV rfl (sb (EW (ad (aa rfl ?_))))))))
 exact yj row [] _ ht rfl (λ_=>rfl) (by simp;lia) (by simp [fJ];lia) λL' h1=>ie (iI (ad (aa h1 hk)))
end Mine.A
namespace Mine.A
open Mine.B Mine.Head
theorem vD(P:Params):dQ P 772 [267] gO:=show _=_ by kernel_rfl!
theorem vF(P:Params):dQ P 779 [267] gP:=show _=_ by kernel_rfl!
section
variable {w:World} {mg mb:PySem.Str->Option Value}
theorem wk(T:TopRead pw loose mg mb (H1 w.params)):bH false (Mine.B.C w) 772 2 jj:=aP T (mC T) (vD _) rfl (vU g0)
theorem wl(T:TopRead pw loose mg mb (H1 w.params)):bH false (Mine.B.C w) 779 2 jk:=aP T (mC T) (vF _) rfl (vV g0)
end
end Mine.A
namespace Mine.P
open Mine.A Mine.B
noncomputable def wE(rd c:Nat):List Nat:=if 3≤rd∧c=38 then [38,97,109,112,59]else if rd=4∧c=60 then [38,108,116,59]else [c]
noncomputable def wr(rd:Nat)(M:List Nat):List Nat:=M.flatMap (wE rd)
theorem tx(rd c:Nat):wE rd c=[c]∨((c=38∨c=60)∧∃t,wE rd c=38::t):=by
 unfold wE
 split
 ·rename_i h;exact .inr ⟨.inl h.2,_,rfl⟩
 ·split
  ·rename_i h;exact .inr ⟨.inr h.2,_,rfl⟩
  ·exact .inl rfl
theorem gm{rd c:Nat}(h:c≠38)(h':c≠60):wE rd c=[c]:=by
 rcases tx rd c with e|⟨e|e,_⟩
 ·exact e
 ·exact absurd e h
 ·exact absurd e h'
theorem bK(rd c:Nat)(M:List Nat):wr rd (c::M)=wE rd c++wr rd M:=List.flatMap_cons
theorem gN{rd:Nat}(h:rd≤2)(M:List Nat):wr rd M=M:=by
 induction M with
 |nil=>rfl
 |cons c M ih=>
  rw [bK,ih]
  unfold wE
  rw [if_neg (by lia),if_neg (by lia)];rfl
noncomputable def gf(nt:Nat)(M:List Nat):List (Option Nat):=M.flatMap λc=>if c=0 then [none,some nt]else [some c]
noncomputable def sK(f:FV):List (Option Nat):=if kind f=7 then [none]else(cb f).map some
theorem Aq(nt:Nat)(M:List Nat):gf nt (0::M)=none::some nt::gf nt M:=rfl
theorem e9{nt c:Nat}(h:c≠0)(M:List Nat):gf nt (c::M)=some c::gf nt M:=by
 unfold gf;rw [List.flatMap_cons,if_neg h];rfl
theorem ri{nt:Nat}{p:Nat->Bool}(h:p 0=false)(M:List Nat):gf nt M=(M.takeWhile p).map some++gf nt (M.dropWhile p):=by
 induction M with
 |nil=>rfl
 |cons c M ih=>
  cases q:p c with
  |true=>
   have hc:c≠0:=λe=>by rw [e,h] at q;cases q
   rw [List.takeWhile_cons_of_pos q,List.dropWhile_cons_of_pos q,e9 hc,ih];rfl
  |false=>rw [List.takeWhile_cons_of_neg (by rw [q];decide),List.dropWhile_cons_of_neg (by rw [q];decide)];rfl
structure kM (f:FV):Prop where
 ok:f=iF∨∃i s,f=j0 i s∧(i=1∨i=2)∧s≠[]
theorem nV:kM iF:=⟨.inl rfl⟩
theorem cG{i:Int}{c:Nat}{s:List Nat}(h:i=1∨i=2):kM (j0 i (c::s)):=⟨.inr ⟨i,_,rfl,h,λq=>nomatch q⟩⟩
theorem sJ{i:Int}{s:List Nat}(h:i=1∨i=2):sK (j0 i s)=s.map some:=by
 rcases h with rfl|rfl<;>rfl
theorem bA:∀f∈([]:List FV),kM f:=λf h=>nomatch h
theorem aW{f:FV}(h:kM f):∀g∈[f],kM g:=λg q=>by cases q with|head=>exact h|tail _ q=>cases q
theorem gE{c:Nat}:∀f∈[iF,bp [c]],kM f:=λf h=>by
 cases h with
 |head=>exact nV
 |tail _ h=>exact aW (cG (.inl rfl)) f h
noncomputable def bY(ct:FV)(st:Nat)(tb:Option (List Nat))(r:List Nat)(ev:List (Option Nat)):Prop:=∃Tk,eD ct st tb r Tk∧(∀f∈Tk,kM f)∧Tk.flatMap sK=ev
theorem bY.stop{ct:FV}{st:Nat}{tb:Option (List Nat)}{pf:Option (List Nat)->List Nat->aD}{cond:FV->Option (List Nat)->List Nat->Prop}(hl:lk st eL=some (pf,cond))(hc:cond ct tb []){st':Nat}{tb':Option (List Nat)}(ho:pf tb []=⟨false,st',tb',[],[],[]⟩):bY ct st tb [] []:=
 ⟨[],.stop hl hc (by rw [ho]) (by rw [ho]) (by rw [ho]),bA,rfl⟩
theorem bY.step{ct:FV}{st:Nat}{tb:Option (List Nat)}{r:List Nat}{ev ev':List (Option Nat)}{pf:Option (List Nat)->List Nat->aD}{cond:FV->Option (List Nat)->List Nat->Prop}(hl:lk st eL=some (pf,cond))(hc:cond ct tb r){st':Nat}{tb':Option (List Nat)}{q:List FV}{x r':List Nat}(ho:pf tb r=⟨true,st',tb',q,x,r'⟩)
  (h2:x++r'=r) (hq:∀f∈q,kM f) (hs:bY ct st' tb' r' ev) (he:q.flatMap sK++ev=ev'):bY ct st tb r ev':=by
 obtain⟨T,h,hg,rfl⟩:=hs
 refine⟨q++T, ?_,λf hf=>(List.mem_append.mp hf).elim (hq f) (hg f),by rw [List.flatMap_append];exact he⟩
 have:=eD.go (ct:=ct) (T:=T) hl hc (by rw [ho]) (by rw [ho];exact h2) (by rw [ho];exact h)
 rw [ho] at this;exact this
noncomputable def dl(s c:Nat):Nat:=
 if s=9 then 9 else if c=60 then 1 else if s=1 then(if c=47 then 2 else if c=115∨c=83 then 9 else 0)else if s=2 then(if i4 c=101 then 3 else 0)
 else if s=3 then(if i4 c=109 then 4 else 0)else if s=4 then(if c∈jf then 9 else 0)else 0
noncomputable def rn(s:Nat)(M:List Nat):Nat:=M.foldl dl s
noncomputable def gd(M:List Nat):Bool:=rn 0 M !=9
theorem Bl(M:List Nat):rn 9 M=9:=by
 induction M with
 |nil=>rfl
 |cons c M ih=>exact ih
theorem KF(c:Nat):dl 0 c=if c=60 then 1 else 0:=by
 unfold dl;rfl
theorem Hd{s:Nat}(h:s≠9):dl s 60=1:=by
 unfold dl;rw [if_neg h];rfl
theorem I2:∀(M:List Nat) (s:Nat),rn s M≠9->rn 0 M≠9:=by
 intro M
 induction M with
 |nil=>
  intro _ _
  exact(by decide:(0:Nat)≠9)
 |cons c M ih=>
  intro s h
  have hs:s≠9:=λe=>h (by rw [e];exact Bl _)
  show rn (dl 0 c) M≠9
  have h:rn (dl s c) M≠9:=h
  rw [KF]
  by_cases q:c=60
  ·subst q;rw [Hd hs] at h;exact h
  ·rw [if_neg q];exact ih _ h
theorem vo{M:List Nat}(h:gd M=true):rn 0 M≠9:=by unfold gd at h;exact bne_iff_ne.mp h
theorem Al{M:List Nat}(h:rn 0 M≠9):gd M=true:=by unfold gd;exact bne_iff_ne.mpr h
theorem au{c:Nat}{r:List Nat}(h:gd (c::r)=true):gd r=true:=Al (I2 r (dl 0 c) (show rn (dl 0 c) r≠9 from vo h))
theorem oV:∀(p:List Nat) {r:List Nat},gd (p++r)=true->gd r=true
 | [],_,h=>h
 |_::p,_,h=>oV p (au h)
theorem jK{r r':List Nat}(h:gd r=true)(hs:r'<:+r):gd r'=true:=by
 obtain⟨p,rfl⟩:=hs;exact oV p h
theorem Ch{b M:List Nat}{c:Nat}(h:gd (60::47::(b++c::M))=true)(hb:fS b=[101,109]):c∉jf:=by
 intro hc
 match b,hb with
 | [x,y],hb=>
  have hx:i4 x=101:=by injection hb
  have hy:i4 y=109:=by injection hb with _ h2;injection h2
  have h1:x≠60:=λe=>by rw [e] at hx;revert hx;decide
  have h2:y≠60:=λe=>by rw [e] at hy;revert hy;decide
  have h3:c≠60:=λe=>by rw [e] at hc;revert hc;decide
  have e2:dl 2 x=3:=by unfold dl;rw [if_neg (by decide),if_neg h1,if_neg (by decide),if_pos rfl,if_pos hx]
  have e3:dl 3 y=4:=by unfold dl;rw [if_neg (by decide),if_neg h2,if_neg (by decide),if_neg (by decide),if_pos rfl,if_pos hy]
  have e4:dl 4 c=9:=by unfold dl;rw [if_neg (by decide),if_neg h3,if_neg (by decide),if_neg (by decide),if_neg (by decide),if_pos rfl,if_pos hc]
  refine vo h ?_
  show rn (dl (dl (dl 2 x) y) c) M=9
  rw [e2,e3,e4];exact Bl M
 | [],hb=>exact absurd (congrArg List.length hb) (by simp [fS])
 | [_],hb=>exact absurd (congrArg List.length hb) (by simp [fS])
 |_::_::_::_,hb=>exact absurd (congrArg List.length hb) (by simp [fS])
theorem Gq{M:List Nat}{c:Nat}(h:gd (60::c::M)=true):c≠115∧c≠83:=by
 have k:∀d,(d=115∨d=83)->c≠d:=λd hd e=>by
  subst e
  refine vo h ?_
  show rn (dl 1 c) M=9
  have:dl 1 c=9:=by rcases hd with rfl|rfl<;>rfl
  rw [this];exact Bl M
 exact⟨k 115 (.inl rfl),k 83 (.inr rfl)⟩
theorem f9:∀c∈dP,Nat.blt c 128=true:=by decide
theorem lu{c:Nat}(h:c∈dP):c≠38∧c≠60∧c≠0:=
 (by decide:∀c∈dP,c≠38∧c≠60∧c≠0) c h
section
variable {ct:FV} {rd nt n:Nat}
theorem i7(rd c:Nat)(M:List Nat):∃a t,wr rd (c::M)=a::t∧(a=c∧t=wr rd M∨a=38∧(c=38∨c=60)):=by
 rw [bK]
 rcases tx rd c with e|⟨h,t,e⟩
 ·rw [e];exact⟨c,_,rfl,.inl ⟨rfl,rfl⟩⟩
 ·rw [e];exact⟨38,_,rfl,.inr ⟨rfl,h⟩⟩
theorem xp{B N:Nat}{pf:Option (List Nat)->List Nat->aD}(hct:ct=.non∨ct=vM)(hl:lk N eL=some (pf,iB))(hp:∀b r,pf (some b) r=Ci B N b r)(hB:∀(M:List Nat) (tb:Option (List Nat)),M.length≤n->gd M=true->bY ct B tb (wr rd M) (gf nt M)):
  ∀(M b:List Nat),M.length≤n->gd (60::47::(b++M))=true->(∀c∈b,c∈dP)->b.length+M.length≤20000->bY ct N (some b) (wr rd M) ((60::47::b).map some++gf nt M):=by
 intro M
 induction M with
 |nil=>
  intro b hn hg hb hlen
  have hc:iB ct (some b) []:=⟨b,rfl,by simp at hlen;lia,List.all_eq_true.mpr λc h=>f9 c (hb c h),hct.imp id λe=>⟨e,λ_ c r' q=>nomatch q⟩⟩
  exact bY.step hl hc (hp b []) rfl (aW (cG (.inl rfl))) (hB [] (some b) hn rfl) (by rw [List.flatMap_cons,sJ (.inl rfl)];simp)
 |cons c M ih=>
  intro b hn hg hb hlen
  have hlen':=hlen
  rw [List.length_cons] at hlen hn
  have hc:iB ct (some b) (wr rd (c::M)):=by
   refine⟨b,rfl,by lia,List.all_eq_true.mpr λc h=>f9 c (hb c h),hct.imp id λe=>⟨e,λh c' r' q=> ?_⟩⟩
   have:=Ch hg h
   obtain⟨a,t,e,⟨rfl,_⟩|⟨rfl,_⟩⟩:=i7 rd c M
   ·rw [e] at q;cases q;exact this
   ·rw [e] at q;cases q;decide
  by_cases h:c∈dP
  ·obtain⟨n1,n2,n3⟩:=lu h
   have e:wr rd (c::M)=c::wr rd M:=by rw [bK,gm n1 n2];rfl
   rw [e] at hc⊢
   refine bY.step hl hc ((hp b _).trans (if_pos h)) rfl bA (ih (b++[c]) (by lia) ?_ ?_ (by rw [List.length_append,List.length_cons,List.length_nil];lia)) ?_
   ·rw [List.append_assoc];exact hg
   ·intro x hx
    rcases List.mem_append.mp hx with k|k
    ·exact hb x k
    ·rw [List.mem_singleton.mp k];exact h
   ·rw [e9 n3];simp
  ·obtain⟨a,t,e,ha⟩:=i7 rd c M
   have ha':a∉dP:=by
    rcases ha with ⟨rfl,_⟩|⟨rfl,_⟩
    ·exact h
    ·decide
   have hs:=hB (c::M) (some b) (by rw [List.length_cons];lia) (oV b (au (au hg)))
   rw [e] at hc hs⊢
   exact bY.step hl hc ((hp b _).trans (if_neg ha')) rfl (aW (cG (.inl rfl))) hs (by simp [sJ])
noncomputable def Kk(B N:Nat)(r:List Nat):aD:=match r with
 | []=>⟨true,B,some [],[bp [60,47]],[],[]⟩
 |c::r=>if c∈dP then⟨true,N,some [c],[],[c],r⟩else⟨true,B,some [],[bp [60,47]],[],c::r⟩
theorem i9{B T N:Nat}{pf pf':Option (List Nat)->List Nat->aD}{cond:FV->Option (List Nat)->List Nat->Prop}(hct:ct=.non∨ct=vM)(hl':lk T eL=some (pf',cond))(hc:∀r,cond ct (some []) r)(hp':∀r,pf' (some []) r=Kk B N r)
  (hl:lk N eL=some (pf,iB)) (hp:∀b r,pf (some b) r=Ci B N b r) (hB:∀(M:List Nat) (tb:Option (List Nat)),M.length≤n->gd M=true->bY ct B tb (wr rd M) (gf nt M)) (M:List Nat) (hn:M.length≤n) (hg:gd (60::47::M)=true) (hlen:M.length≤20000):bY ct T (some []) (wr rd M) (some 60::some 47::gf nt M):=by
 cases M with
 |nil=>exact bY.step hl' (hc _) (hp' []) rfl (aW (cG (.inl rfl))) (hB [] (some []) hn rfl) rfl
 |cons c M=>
  rw [List.length_cons] at hn hlen
  by_cases h:c∈dP
  ·obtain⟨n1,n2,n3⟩:=lu h
   have e:wr rd (c::M)=c::wr rd M:=by rw [bK,gm n1 n2];rfl
   rw [e]
   refine bY.step hl' (hc _) ((hp' _).trans (if_pos h)) rfl bA (xp hct hl hp hB M [c] (by lia) hg (λx hx=>by rw [List.mem_singleton.mp hx];exact h) (by rw [List.length_cons,List.length_nil];lia)) ?_
   rw [e9 n3];rfl
  ·obtain⟨a,t,e,ha⟩:=i7 rd c M
   have ha':a∉dP:=by
    rcases ha with ⟨rfl,_⟩|⟨rfl,_⟩
    ·exact h
    ·decide
   have hs:=hB (c::M) (some []) (by rw [List.length_cons];lia) (au (au hg))
   rw [e] at hs⊢
   exact bY.step hl' (hc _) ((hp' _).trans (if_neg ha')) rfl (aW (cG (.inl rfl))) hs rfl
theorem tX{B K T:Nat}{pf:Option (List Nat)->List Nat->aD}(hl:lk K eL=some (pf,c0))(hp:∀tb r,pf tb r=Iq B T tb r)
  (hT:∀M,M.length≤n->gd (60::47::M)=true->M.length≤20000->bY ct T (some []) (wr rd M) (some 60::some 47::gf nt M))
  (hB:∀(M:List Nat) (tb:Option (List Nat)),M.length≤n->gd M=true->bY ct B tb (wr rd M) (gf nt M)) (M:List Nat) (tb:Option (List Nat)) (hn:M.length≤n) (hg:gd (60::M)=true) (hlen:M.length≤20000):bY ct K tb (wr rd M) (some 60::gf nt M):=by
 cases M with
 |nil=>exact bY.step hl trivial (hp tb []) rfl (aW (cG (.inl rfl))) (hB [] tb hn rfl) rfl
 |cons c M=>
  rw [List.length_cons] at hn hlen
  by_cases h:c=47
  ·subst h
   have e:wr rd (47::M)=47::wr rd M:=by rw [bK,gm (by decide) (by decide)];rfl
   rw [e]
   exact bY.step hl trivial ((hp tb _).trans rfl) rfl bA (hT M (by lia) hg (by lia)) rfl
  ·obtain⟨a,t,e,ha⟩:=i7 rd c M
   have ha':a≠47:=by
    rcases ha with ⟨rfl,_⟩|⟨rfl,_⟩
    ·exact h
    ·decide
   have hs:=hB (c::M) tb (by rw [List.length_cons];lia) (au hg)
   rw [e] at hs⊢
   exact bY.step hl trivial ((hp tb _).trans (if_neg ha')) rfl (aW (cG (.inl rfl))) hs rfl
noncomputable abbrev pU(l:List Nat)(op:Bool):Nat->Bool:=λc=>fz (decide (c∈l)) op
theorem tt(p:Nat->Bool)(h1:∀c,p c=true->wE rd c=[c])(h2:∀c,p c=false->∃a t,wE rd c=a::t∧p a=false)(M:List Nat):
  (wr rd M).takeWhile p=M.takeWhile p∧(wr rd M).dropWhile p=wr rd (M.dropWhile p):=by
 induction M with
 |nil=>exact⟨rfl,rfl⟩
 |cons c M ih=>
  rw [bK]
  cases q:p c with
  |true=>
   rw [h1 c q,List.singleton_append,List.takeWhile_cons_of_pos q,List.takeWhile_cons_of_pos q,List.dropWhile_cons_of_pos q,List.dropWhile_cons_of_pos q,ih.1,ih.2]
   exact⟨rfl,rfl⟩
  |false=>
   obtain⟨a,t,e,qa⟩:=h2 c q
   have nq:∀ {x},p x=false->¬p x=true:=λh k=>by rw [h] at k;cases k
   rw [e,List.cons_append,List.takeWhile_cons_of_neg (nq qa),List.takeWhile_cons_of_neg (nq q),List.dropWhile_cons_of_neg (nq qa),List.dropWhile_cons_of_neg (nq q),bK,e]
   exact⟨rfl,rfl⟩
end
end Mine.P
namespace Mine.P
open Mine.A Mine.B
section
variable {ct:FV} {rd nt n:Nat}
theorem eJ{st st0 c i:Nat}{tb:Option (List Nat)}{p:Nat->Bool}{R M:List Nat}{pf:Option (List Nat)->List Nat->aD}{cond:FV->Option (List Nat)->List Nat->Prop}(hp0:p 0=false)(hc0:c≠0)(hi:i=1∨i=2)(hl:lk st0 eL=some (pf,cond))(hc:cond ct tb (c::R))
  (ho:pf tb (c::R)=⟨true,st,tb,[j0 i (c::R.takeWhile p)],c::R.takeWhile p,R.dropWhile p⟩) (e:R.takeWhile p=M.takeWhile p∧R.dropWhile p=wr rd (M.dropWhile p)) (hs:bY ct st tb (wr rd (M.dropWhile p)) (gf nt (M.dropWhile p))):bY ct st0 tb (c::R) (gf nt (c::M)):=by
 refine bY.step hl hc ho ?_ (aW (cG (by lia))) (e.2▸hs) ?_
 ·rw [List.cons_append,List.takeWhile_append_dropWhile]
 ·rw [e9 hc0,ri hp0 M,e.1,List.flatMap_cons,sJ (by lia)];simp
theorem iS(p:Nat->Bool)(M:List Nat):(M.dropWhile p).length≤M.length:=(List.dropWhile_suffix p).length_le
theorem IF{l:List Nat}{c:Nat}(h:pU l false c=true):c∉l:=λk=>by unfold pU at h;rw [decide_eq_true k] at h;cases h
theorem Mm{l:List Nat}{c:Nat}(h:pU l false c=false):c∈l:=Decidable.byContradiction λk=>by unfold pU at h;rw [decide_eq_false k] at h;cases h
theorem Mj{l:List Nat}{c:Nat}(h:pU l true c=true):c∈l:=Decidable.byContradiction λk=>by unfold pU at h;rw [decide_eq_false k] at h;cases h
theorem Kx{l:List Nat}{c:Nat}(h:c∈l):pU l false c=false:=by unfold pU;rw [decide_eq_true h];rfl
theorem IL{l:List Nat}{c:Nat}(h:c∉l):pU l true c=false:=by unfold pU;rw [decide_eq_false h];rfl
theorem mP{l:List Nat}(h:38∈l∧60∈l∨rd≤2)(M:List Nat):(wr rd M).takeWhile (pU l false)=M.takeWhile (pU l false)∧(wr rd M).dropWhile (pU l false)=wr rd (M.dropWhile (pU l false)):=by
 rcases h with ⟨h1,h2⟩|h
 ·refine tt (pU l false) (λc q=>gm (λe=>IF q (e▸h1)) λe=>IF q (e▸h2)) (λc q=> ?_) M
  rcases tx rd c with e|⟨_,t,e⟩
  ·exact⟨c,[],e,q⟩
  ·exact⟨38,t,e,Kx h1⟩
 ·rw [gN h,gN h];exact⟨rfl,rfl⟩
theorem z8(M:List Nat):(wr rd M).takeWhile (pU iW true)=M.takeWhile (pU iW true)∧(wr rd M).dropWhile (pU iW true)=wr rd (M.dropWhile (pU iW true)):=by
 refine tt (pU iW true) (λc q=> ?_) (λc q=> ?_) M
 ·have:=Mj q
  exact(by decide:∀c∈iW,c≠38∧c≠60) c this |> λh=>gm h.1 h.2
 ·rcases tx rd c with e|⟨_,t,e⟩
  ·exact⟨c,[],e,q⟩
  ·exact⟨38,t,e,IL (by decide)⟩
theorem uh(hct:ct=.non∨ct=vM):∀(n:Nat),n≤20000->∀(M:List Nat) (tb:Option (List Nat)),M.length≤n->gd M=true->bY ct 311 tb (wr 3 M) (gf 65533 M)
 |_,_,[],tb,_,_=>bY.stop rfl trivial rfl
 |0,_,c::M,tb,h,_=>nomatch h
 |n+1,hb,c::M,tb,hn,hg=>by
  have ih:=uh hct n (by lia)
  have hn':M.length≤n:=by rw [List.length_cons] at hn;lia
  by_cases h38:c=38
  ·subst h38
   have e:wr 3 (38::M)=38::97::109::112::59::wr 3 M:=rfl
   rw [e]
   exact bY.step (pf:=dF) (cond:=c0) (x:=[38]) rfl trivial rfl rfl bA (bY.step (pf:=gV 311) (cond:=lV) (q:=[bp [38]]) (x:=[97,109,112,59]) (st':=311) (tb':=tb) (r':=wr 3 M) rfl rfl rfl rfl (aW (cG (.inl rfl))) (ih M tb hn' (au hg)) rfl) rfl
  by_cases h60:c=60
  ·subst h60
   have e:wr 3 (60::M)=60::wr 3 M:=rfl
   rw [e]
   refine bY.step (pf:=dF) (cond:=c0) (x:=[60]) rfl trivial rfl rfl bA (tX (K:=367) (pf:=oB) (B:=311) (T:=374) rfl (λtb r=>by cases r<;>rfl) (λM h1 h2 h3=> ?_) ih M tb hn' hg (by lia)) rfl
   exact i9 (pf':=ld) (pf:=lf) (cond:=wO) (B:=311) (T:=374) (N:=381) hct rfl (λr=>⟨[],rfl,by decide⟩) (λr=>by cases r<;>rfl) rfl (λb r=>by cases r<;>rfl) ih M h1 h2 h3
  have e:wr 3 (c::M)=c::wr 3 M:=by rw [bK,gm h38 h60];rfl
  rw [e]
  by_cases h0:c=0
  ·subst h0
   exact bY.step (pf:=dF) (cond:=c0) (x:=[0]) rfl trivial rfl rfl gE (ih M tb hn' (au hg)) rfl
  by_cases hs:c∈iW
  ·exact eJ (i:=2) (p:=pU iW true) (pf:=dF) (cond:=c0) rfl h0 (.inr rfl) rfl trivial ((if_neg h38).trans ((if_neg h60).trans ((if_neg h0).trans (if_pos hs)))) (z8 M) (ih _ tb (Nat.le_trans (iS _ _) hn') (jK (au hg) (List.dropWhile_suffix _)))
  ·exact eJ (i:=1) (p:=pU [38,60,0] false) (pf:=dF) (cond:=c0) rfl h0 (.inl rfl) rfl trivial ((if_neg h38).trans ((if_neg h60).trans ((if_neg h0).trans (if_neg hs)))) (mP (.inl (by decide)) M) (ih _ tb (Nat.le_trans (iS _ _) hn') (jK (au hg) (List.dropWhile_suffix _)))
theorem Mi(M:List Nat):∀c r,wr 4 M=c::r->c≠60:=by
 intro c r h
 cases M with
 |nil=>cases h
 |cons a M=>
  rw [bK] at h
  by_cases h1:a=38
  ·subst h1;cases h;decide
  ·by_cases h2:a=60
   ·subst h2;cases h;decide
   ·rw [gm h1 h2] at h;cases h;exact h2
theorem pu:∀(n:Nat) (M:List Nat) (tb:Option (List Nat)),M.length≤n->bY ct 297 tb (wr 4 M) (gf 0 M)
 |_,[],tb,_=>bY.stop (pf:=fR) (cond:=λ_ _ r=>∀c r',r=c::r'->c≠60) rfl (λ_ _ h=>nomatch h) rfl
 |0,c::M,tb,h=>nomatch h
 |n+1,c::M,tb,hn=>by
  have ih:=pu n
  have hn':M.length≤n:=by rw [List.length_cons] at hn;lia
  have hw:=Mi (c::M)
  by_cases h38:c=38
  ·subst h38
   have e:wr 4 (38::M)=38::([97,109,112,59]++wr 4 M):=rfl
   rw [e] at hw⊢
   exact bY.step (pf:=fR) (cond:=λ_ _ r=>∀c r',r=c::r'->c≠60) (x:=[38]) rfl hw rfl rfl bA (bY.step (pf:=gV 297) (cond:=lV) (q:=[bp [38]]) (x:=[97,109,112,59]) (st':=297) (tb':=tb) (r':=wr 4 M) rfl rfl rfl rfl (aW (cG (.inl rfl))) (ih M tb hn') rfl) rfl
  by_cases h60:c=60
  ·subst h60
   have e:wr 4 (60::M)=38::([108,116,59]++wr 4 M):=rfl
   rw [e] at hw⊢
   exact bY.step (pf:=fR) (cond:=λ_ _ r=>∀c r',r=c::r'->c≠60) (x:=[38]) rfl hw rfl rfl bA (bY.step (pf:=gV 297) (cond:=lV) (q:=[bp [60]]) (x:=[108,116,59]) (st':=297) (tb':=tb) (r':=wr 4 M) rfl rfl rfl rfl (aW (cG (.inl rfl))) (ih M tb hn') rfl) rfl
  have e:wr 4 (c::M)=c::wr 4 M:=by rw [bK,gm h38 h60];rfl
  rw [e] at hw⊢
  by_cases h0:c=0
  ·subst h0
   refine bY.step (pf:=fR) (cond:=λ_ _ r=>∀c r',r=c::r'->c≠60) (q:=[iF,bp [0]]) (x:=[0]) rfl hw rfl rfl (λf h=> ?_) (ih M tb hn') rfl
   cases h with
   |head=>exact nV
   |tail _ h=>exact aW (cG (.inl rfl)) f h
  by_cases hs:c∈iW
  ·exact eJ (i:=2) (p:=pU iW true) (pf:=fR) (cond:=λ_ _ r=>∀c r',r=c::r'->c≠60) rfl h0 (.inr rfl) rfl hw ((if_neg h38).trans ((if_neg h0).trans (if_pos hs))) (z8 M) (ih _ tb (Nat.le_trans (iS _ _) hn'))
  ·exact eJ (i:=1) (p:=pU [38,60,0] false) (pf:=fR) (cond:=λ_ _ r=>∀c r',r=c::r'->c≠60) rfl h0 (.inl rfl) rfl hw ((if_neg h38).trans ((if_neg h0).trans (if_neg hs))) (mP (.inl (by decide)) M) (ih _ tb (Nat.le_trans (iS _ _) hn'))
theorem qm(hct:ct=.non∨ct=vM):∀(n:Nat),n≤20000->∀(M:List Nat) (tb:Option (List Nat)),M.length≤n->gd M=true->bY ct 325 tb (wr 1 M) (gf 65533 M)
 |_,_,[],tb,_,_=>bY.stop (pf:=kq) (cond:=c0) rfl trivial rfl
 |0,_,c::M,tb,h,_=>nomatch h
 |n+1,hb,c::M,tb,hn,hg=>by
  have ih:=qm hct n (by lia)
  have hn':M.length≤n:=by rw [List.length_cons] at hn;lia
  have e:wr 1 (c::M)=c::wr 1 M:=by rw [gN (by decide),gN (by decide)]
  rw [e]
  by_cases h60:c=60
  ·subst h60
   refine bY.step (pf:=kq) (cond:=c0) (x:=[60]) rfl trivial rfl rfl bA (tX (K:=388) (pf:=lg) (B:=325) (T:=395) rfl (λtb r=>by cases r<;>rfl) (λM h1 h2 h3=> ?_) ih M tb hn' hg (by lia)) rfl
   exact i9 (pf':=jr) (pf:=js) (cond:=wO) (B:=325) (T:=395) (N:=402) hct rfl (λr=>⟨[],rfl,by decide⟩) (λr=>by cases r<;>rfl) rfl (λb r=>by cases r<;>rfl) ih M h1 h2 h3
  by_cases h0:c=0
  ·subst h0
   exact bY.step (pf:=kq) (cond:=c0) (x:=[0]) rfl trivial rfl rfl gE (ih M tb hn' (au hg)) rfl
  ·exact eJ (i:=1) (p:=pU [60,0] false) (pf:=kq) (cond:=c0) rfl h0 (.inl rfl) rfl trivial ((if_neg h60).trans (if_neg h0)) (mP (.inr (by decide)) M) (ih _ tb (Nat.le_trans (iS _ _) hn') (jK (au hg) (List.dropWhile_suffix _)))
noncomputable def Q(ct:FV)(n st:Nat):Prop:=∀(M:List Nat) (tb:Option (List Nat)),M.length≤n->gd M=true->bY ct st tb (wr 2 M) (gf 65533 M)
theorem jZ(M:List Nat):wr 2 M=M:=gN (by decide) M
theorem Fd(h1:Q ct n 332)(h2:Q ct n 458):Q ct n 437:=by
 intro M tb hn hg
 cases M with
 |nil=>exact bY.step (pf:=cf) (cond:=c0) rfl trivial rfl rfl bA (h1 [] tb hn hg) rfl
 |cons c M=>
  by_cases h:c=45
  ·subst h
   have:=h2 M tb (by rw [List.length_cons] at hn;lia) (au hg)
   simp only [jZ] at this⊢
   exact bY.step (pf:=cf) (cond:=c0) (q:=[bp [45]]) (x:=[45]) rfl trivial rfl rfl (aW (cG (.inl rfl))) this rfl
  ·have:=h1 (c::M) tb hn hg
   simp only [jZ] at this⊢
   exact bY.step (pf:=cf) (cond:=c0) (q:=[]) (x:=[]) rfl trivial (if_neg h) rfl bA this rfl
theorem Fe(h1:Q ct n 332)(h2:Q ct n 437):Q ct n 430:=by
 intro M tb hn hg
 cases M with
 |nil=>exact bY.step (pf:=dG) (cond:=c0) rfl trivial rfl rfl bA (h1 [] tb hn hg) rfl
 |cons c M=>
  by_cases h:c=45
  ·subst h
   have:=h2 M tb (by rw [List.length_cons] at hn;lia) (au hg)
   simp only [jZ] at this⊢
   exact bY.step (pf:=dG) (cond:=c0) (q:=[bp [45]]) (x:=[45]) rfl trivial rfl rfl (aW (cG (.inl rfl))) this rfl
  ·have:=h1 (c::M) tb hn hg
   simp only [jZ] at this⊢
   exact bY.step (pf:=dG) (cond:=c0) (q:=[]) (x:=[]) rfl trivial (if_neg h) rfl bA this rfl
theorem Ff(hct:ct=.non∨ct=vM)(hb:n≤20000)(h1:Q ct n 332)(h2:Q ct n 430)(M:List Nat)(tb:Option (List Nat))(hn:M.length≤n)(hg:gd (60::M)=true):bY ct 409 tb (wr 2 M) (some 60::gf 65533 M):=by
 cases M with
 |nil=>exact bY.step (pf:=ij) (cond:=c0) rfl trivial rfl rfl (aW (cG (.inl rfl))) (h1 [] tb hn rfl) rfl
 |cons c M=>
  have hn':=hn
  rw [List.length_cons] at hn
  by_cases h:c=47
  ·subst h
   have:=i9 (pf':=k9) (pf:=lc) (cond:=wO) (B:=332) (T:=416) (N:=423) hct rfl (λr=>⟨[],rfl,by decide⟩) (λr=>by cases r<;>rfl) rfl (λb r=>by cases r<;>rfl) h1 M (by lia) hg (by lia)
   simp only [jZ] at this⊢
   exact bY.step (pf:=ij) (cond:=c0) (q:=[]) (x:=[47]) rfl trivial rfl rfl bA this rfl
  by_cases h':c=33
  ·subst h'
   have:=h2 M tb (by lia) (au (au hg))
   simp only [jZ] at this⊢
   exact bY.step (pf:=ij) (cond:=c0) (q:=[bp [60,33]]) (x:=[33]) rfl trivial rfl rfl (aW (cG (.inl rfl))) this rfl
  ·have:=h1 (c::M) tb hn' (au hg)
   simp only [jZ] at this⊢
   exact bY.step (pf:=ij) (cond:=c0) (q:=[bp [60]]) (x:=[]) rfl trivial ((if_neg h).trans (if_neg h')) rfl (aW (cG (.inl rfl))) this rfl
theorem F0{a:Nat}{b:List Nat}(h1:a≠115)(h2:a≠83):fS (a::b)≠[115,99,114,105,112,116]:=by
 intro h
 have h:i4 a=115:=by injection h
 unfold i4 at h
 split at h<;>lia
theorem Fb(h1:Q ct n 444){a:Nat}(ha:a∈dP)(ha1:a≠115)(ha2:a≠83):∀(M b:List Nat),M.length≤n->gd M=true->(∀c∈b,c∈dP)->b.length+M.length<20000->bY ct 486 (some (a::b)) (wr 2 M) (gf 65533 M):=by
 intro M
 induction M with
 |nil=>
  intro b hn hg hb hlen
  refine bY.step (pf:=kr) (cond:=pE) rfl ⟨_,rfl, ?_, ?_,λc r' q=>nomatch q⟩ rfl rfl bA (h1 [] _ hn hg) rfl
  ·rw [List.length_cons];lia
  ·exact List.all_eq_true.mpr λc h=>f9 c (by cases h with|head=>exact ha|tail _ h=>exact hb c h)
 |cons c M ih=>
  intro b hn hg hb hlen
  have hn':=hn
  rw [List.length_cons] at hn hlen
  have hc:pE ct (some (a::b)) (wr 2 (c::M)):=by
   refine⟨_,rfl, ?_, ?_,λ_ _ _ _=>F0 ha1 ha2⟩
   ·rw [List.length_cons];lia
   ·exact List.all_eq_true.mpr λc h=>f9 c (by cases h with|head=>exact ha|tail _ h=>exact hb c h)
  by_cases h:c∈jf
  ·have h0:c≠0:=λe=>by subst e;revert h;decide
   have:=h1 M (some (a::b)) (by lia) (au hg)
   rw [jZ] at hc this⊢
   exact bY.step (pf:=kr) (cond:=pE) (q:=[bp [c]]) (x:=[c]) rfl hc (if_pos h) rfl (aW (cG (.inl rfl))) this (by rw [e9 h0];rfl)
  by_cases h':c∈dP
  ·have:=ih (b++[c]) (by lia) (au hg) (λx hx=>by
    rcases List.mem_append.mp hx with k|k
    ·exact hb x k
    ·rw [List.mem_singleton.mp k];exact h') (by rw [List.length_append,List.length_cons,List.length_nil];lia)
   rw [jZ] at hc this⊢
   exact bY.step (pf:=kr) (cond:=pE) (q:=[bp [c]]) (x:=[c]) rfl hc ((if_neg h).trans (if_pos h')) rfl (aW (cG (.inl rfl))) this (by rw [e9 (lu h').2.2];rfl)
  ·have:=h1 (c::M) (some (a::b)) hn' hg
   rw [jZ] at hc this⊢
   exact bY.step (pf:=kr) (cond:=pE) (q:=[]) (x:=[]) rfl hc ((if_neg h).trans (if_neg h')) rfl bA this rfl
theorem Fc(hct:ct=.non∨ct=vM)(hb:n<20000)(h1:Q ct n 444)(M:List Nat)(tb:Option (List Nat))(hn:M.length≤n)(hg:gd (60::M)=true):bY ct 465 tb (wr 2 M) (some 60::gf 65533 M):=by
 cases M with
 |nil=>exact bY.step (pf:=f6) (cond:=c0) rfl trivial rfl rfl (aW (cG (.inl rfl))) (h1 [] tb hn rfl) rfl
 |cons c M=>
  have hn':=hn
  rw [List.length_cons] at hn
  by_cases h:c=47
  ·subst h
   have:=i9 (pf':=jt) (pf:=ju) (cond:=c0) (B:=444) (T:=472) (N:=479) hct rfl (λr=>trivial) (λr=>by cases r<;>rfl) rfl (λb r=>by cases r<;>rfl) h1 M (by lia) hg (by lia)
   simp only [jZ] at this⊢
   exact bY.step (pf:=f6) (cond:=c0) (q:=[]) (x:=[47]) rfl trivial rfl rfl bA this rfl
  by_cases h':c∈dP
  ·have hs:=Gq hg
   have:=Fb h1 h' hs.1 hs.2 M [] (by lia) (au (au hg)) (λx q=>nomatch q) (by rw [List.length_nil];lia)
   rw [jZ] at this⊢
   exact bY.step (pf:=f6) (cond:=c0) (q:=[bp [60,c]]) (x:=[c]) rfl trivial ((if_neg h).trans (if_pos h')) rfl (aW (cG (.inl rfl))) this (by rw [e9 (lu h').2.2];rfl)
  ·have:=h1 (c::M) tb hn' (au hg)
   simp only [jZ] at this⊢
   exact bY.step (pf:=f6) (cond:=c0) (q:=[bp [60]]) (x:=[]) rfl trivial ((if_neg h).trans (if_neg h')) rfl (aW (cG (.inl rfl))) this rfl
theorem kp{st:Nat}{pf:Option (List Nat)->List Nat->aD}(hl:lk st eL=some (pf,c0))(tb:Option (List Nat))(hp:pf tb []=⟨true,297,tb,[],[],[]⟩):bY ct st tb [] []:=
 bY.step hl trivial hp rfl bA (pu 0 [] tb (Nat.le_refl _)) rfl
theorem Ba(hct:ct=.non∨ct=vM):∀n,n<20000->Q ct n 332∧Q ct n 444∧Q ct n 451∧Q ct n 458:=by
 intro n
 induction n with
 |zero=>
  intro _
  have hM:∀ {M:List Nat},M.length≤0->M=[]:=λ{M} h=>by cases M with|nil=>rfl|cons _ _=>cases h
  refine⟨λM tb h _=> ?_,λM tb h _=> ?_,λM tb h _=> ?_,λM tb h _=> ?_⟩
  ·rw [hM h];exact bY.stop (pf:=dE) (cond:=c0) rfl trivial rfl
  ·rw [hM h];exact kp (pf:=iM) rfl tb rfl
  ·rw [hM h];exact kp (pf:=cy) rfl tb rfl
  ·rw [hM h];exact kp (pf:=dq) rfl tb rfl
 |succ n ih=>
  intro hb
  obtain⟨h1,h2,h3,h4⟩:=ih (by lia)
  have h6:=Fd h1 h4
  have h7:=Fe h1 h6
  have h8:=Ff hct (by lia) h1 h7
  have h9:=Fc hct (by lia) h2
  refine⟨λM tb h hg=> ?_,λM tb h hg=> ?_,λM tb h hg=> ?_,λM tb h hg=> ?_⟩
  ·cases M with
   |nil=>exact bY.stop (pf:=dE) (cond:=c0) rfl trivial rfl
   |cons c M=>
    have hn:M.length≤n:=by rw [List.length_cons] at h;lia
    have e:wr 2 (c::M)=c::wr 2 M:=by rw [jZ,jZ]
    rw [e]
    by_cases h60:c=60
    ·subst h60
     exact bY.step (pf:=dE) (cond:=c0) (q:=[]) (x:=[60]) rfl trivial rfl rfl bA (h8 M tb hn hg) rfl
    by_cases h0:c=0
    ·subst h0
     exact bY.step (pf:=dE) (cond:=c0) (q:=[iF,bp [65533]]) (x:=[0]) rfl trivial rfl rfl gE (h1 M tb hn (au hg)) rfl
    ·exact eJ (i:=1) (p:=pU [60,0] false) (pf:=dE) (cond:=c0) rfl h0 (.inl rfl) rfl trivial ((if_neg h60).trans (if_neg h0)) (mP (.inr (by decide)) M) (h1 _ tb (Nat.le_trans (iS _ _) hn) (jK (au hg) (List.dropWhile_suffix _)))
  ·cases M with
   |nil=>exact kp (pf:=iM) rfl tb rfl
   |cons c M=>
    have hn:M.length≤n:=by rw [List.length_cons] at h;lia
    have e:wr 2 (c::M)=c::wr 2 M:=by rw [jZ,jZ]
    rw [e]
    by_cases h45:c=45
    ·subst h45
     exact bY.step (pf:=iM) (cond:=c0) (q:=[bp [45]]) (x:=[45]) rfl trivial rfl rfl (aW (cG (.inl rfl))) (h3 M tb hn (au hg)) rfl
    by_cases h60:c=60
    ·subst h60
     exact bY.step (pf:=iM) (cond:=c0) (q:=[]) (x:=[60]) rfl trivial rfl rfl bA (h9 M tb hn hg) rfl
    by_cases h0:c=0
    ·subst h0
     exact bY.step (pf:=iM) (cond:=c0) (q:=[iF,bp [65533]]) (x:=[0]) rfl trivial rfl rfl gE (h2 M tb hn (au hg)) rfl
    ·exact eJ (i:=1) (p:=pU [60,45,0] false) (pf:=iM) (cond:=c0) rfl h0 (.inl rfl) rfl trivial ((if_neg h45).trans ((if_neg h60).trans (if_neg h0))) (mP (.inr (by decide)) M) (h2 _ tb (Nat.le_trans (iS _ _) hn) (jK (au hg) (List.dropWhile_suffix _)))
  ·cases M with
   |nil=>exact kp (pf:=cy) rfl tb rfl
   |cons c M=>
    have hn:M.length≤n:=by rw [List.length_cons] at h;lia
    have e:wr 2 (c::M)=c::wr 2 M:=by rw [jZ,jZ]
    rw [e]
    by_cases h45:c=45
    ·subst h45
     exact bY.step (pf:=cy) (cond:=c0) (q:=[bp [45]]) (x:=[45]) rfl trivial rfl rfl (aW (cG (.inl rfl))) (h4 M tb hn (au hg)) rfl
    by_cases h60:c=60
    ·subst h60
     exact bY.step (pf:=cy) (cond:=c0) (q:=[]) (x:=[60]) rfl trivial rfl rfl bA (h9 M tb hn hg) rfl
    by_cases h0:c=0
    ·subst h0
     exact bY.step (pf:=cy) (cond:=c0) (q:=[iF,bp [65533]]) (x:=[0]) rfl trivial rfl rfl gE (h2 M tb hn (au hg)) rfl
    ·exact bY.step (pf:=cy) (cond:=c0) (q:=[bp [c]]) (x:=[c]) rfl trivial ((if_neg h45).trans ((if_neg h60).trans (if_neg h0))) rfl (aW (cG (.inl rfl))) (h2 M tb hn (au hg)) (by rw [e9 h0];rfl)
  ·cases M with
   |nil=>exact kp (pf:=dq) rfl tb rfl
   |cons c M=>
    have hn:M.length≤n:=by rw [List.length_cons] at h;lia
    have e:wr 2 (c::M)=c::wr 2 M:=by rw [jZ,jZ]
    rw [e]
    by_cases h45:c=45
    ·subst h45
     exact bY.step (pf:=dq) (cond:=c0) (q:=[bp [45]]) (x:=[45]) rfl trivial rfl rfl (aW (cG (.inl rfl))) (h4 M tb hn (au hg)) rfl
    by_cases h60:c=60
    ·subst h60
     exact bY.step (pf:=dq) (cond:=c0) (q:=[]) (x:=[60]) rfl trivial rfl rfl bA (h9 M tb hn hg) rfl
    by_cases h62:c=62
    ·subst h62
     exact bY.step (pf:=dq) (cond:=c0) (q:=[bp [62]]) (x:=[62]) rfl trivial rfl rfl (aW (cG (.inl rfl))) (h1 M tb hn (au hg)) rfl
    by_cases h0:c=0
    ·subst h0
     exact bY.step (pf:=dq) (cond:=c0) (q:=[iF,bp [65533]]) (x:=[0]) rfl trivial rfl rfl gE (h2 M tb hn (au hg)) rfl
    ·exact bY.step (pf:=dq) (cond:=c0) (q:=[bp [c]]) (x:=[c]) rfl trivial ((if_neg h45).trans ((if_neg h60).trans ((if_neg h62).trans (if_neg h0)))) rfl (aW (cG (.inl rfl))) (h2 M tb hn (au hg)) (by rw [e9 h0];rfl)
end
end Mine.P
namespace Mine.P
open Mine.A Mine.B
theorem kS(c x:Nat)(r:List Nat):ak c (x::r)=if x=c then []::ak c r else match ak c r with
  |h::t=>(x::h)::t
  | []=>[[x]]:=rfl
theorem dB(c:Nat)(l:List Nat):∃h t,ak c l=h::t:=by
 induction l with
 |nil=>exact⟨[],[],rfl⟩
 |cons x r ih=>
  obtain⟨h,t,e⟩:=ih
  rw [kS,e]
  split
  ·exact⟨_,_,rfl⟩
  ·exact⟨_,_,rfl⟩
theorem fZ{c x:Nat}(hx:x≠c){r h:List Nat}{t:List (List Nat)}(e:ak c r=h::t):ak c (x::r)=(x::h)::t:=by
 rw [kS,if_neg hx,e]
theorem dn{c:Nat}(r:List Nat):ak c (c::r)=[]::ak c r:=by rw [kS,if_pos rfl]
theorem rJ{c:Nat}{p:Nat->Bool}(hp:∀x,p x=true↔x≠c)(M:List Nat):∃t,ak c M=M.takeWhile p::t∧ak c (M.dropWhile p)=[]::t:=by
 induction M with
 |nil=>exact⟨[],rfl,rfl⟩
 |cons x M ih=>
  by_cases h:x=c
  ·have q:¬p x=true:=λk=>(hp x).mp k h
   refine⟨ak c M, ?_, ?_⟩
   ·rw [h,List.takeWhile_cons_of_neg (by rw [←h];exact q),dn]
   ·rw [h,List.dropWhile_cons_of_neg (by rw [←h];exact q),dn]
  ·obtain⟨t,e1,e2⟩:=ih
   have q:=(hp x).mpr h
   refine⟨t, ?_, ?_⟩
   ·rw [fZ h e1,List.takeWhile_cons_of_pos q]
   ·rw [List.dropWhile_cons_of_pos q];exact e2
theorem kj(c:Nat)(l:List Nat):(ak c l).length=l.count c+1∧∃q,(ak c l).getLast?=some q∧(q.length:Int)=l.length-(fB c l+1)∧ -1≤fB c l∧(fB c l= -1->ak c l=[q])∧(0≤fB c l->∃a b t,ak c l=a::b::t):=by
 induction l with
 |nil=>
  have r0:fB c []= -1:=rfl
  rw [r0]
  exact⟨rfl,[],rfl,rfl,by decide,λ_=>rfl,λh=>absurd h (by decide)⟩
 |cons x r ih=>
  obtain⟨h1,q,h2,h3,h4,h5,h6⟩:=ih
  have er:fB c (x::r)=if 0≤fB c r then fB c r+1 else if x=c then 0 else-1:=rfl
  obtain⟨h,t,e⟩:=dB c r
  by_cases hx:x=c
  ·subst hx
   refine⟨by rw [dn,List.length_cons,h1,List.count_cons_self],q, ?_, ?_, ?_, ?_, ?_⟩
   ·rw [dn,e,List.getLast?_cons_cons, ←e];exact h2
   ·rw [er,h3,List.length_cons]
    split
    ·lia
    ·rw [if_pos rfl];lia
   ·rw [er];split
    ·lia
    ·rw [if_pos rfl];lia
   ·intro k
    rw [er] at k
    split at k
    ·lia
    ·rw [if_pos rfl] at k;lia
   ·intro _
    rw [dn,e];exact⟨_,_,_,rfl⟩
  ·have es:=fZ hx e
   have cnt:(x::r).count c=r.count c:=List.count_cons_of_ne hx
   rw [if_neg hx] at er
   rw [es,cnt,er]
   rw [e] at h1 h2 h5 h6
   by_cases hr:0≤fB c r
   ·rw [if_pos hr]
    obtain⟨a,b,t',ht⟩:=h6 hr
    cases ht
    refine⟨h1,q, ?_, ?_,by lia,λk=>by lia,λ_=>⟨_,_,_,rfl⟩⟩
    ·rw [List.getLast?_cons_cons] at h2⊢;exact h2
    ·rw [h3,List.length_cons];lia
   ·rw [if_neg hr]
    have k5:=h5 (by lia)
    cases k5
    refine⟨h1,x::q,rfl, ?_,by lia,λ_=>rfl,λk=>by lia⟩
    rw [List.length_cons,List.length_cons];lia
noncomputable def D2:List (List Nat)->List FV
 | []=>[]
 |p::ps=>(if p=[]then []else [bp p])++ps.flatMap λq=>bp [65533]::if q=[]then []else [bp q]
theorem Fo(t:List (List Nat)){h:List Nat}:D2 ([]::h::t)=bp [65533]::D2 (h::t):=by
 show []++List.flatMap _ (h::t)=_
 rw [List.flatMap_cons];rfl
theorem Bx(x:Nat):pU [0] false x=true↔x≠0:=by
 constructor
 ·intro h e;exact IF h (by rw [e];decide)
 ·intro h
  cases q:pU [0] false x with
  |true=>rfl
  |false=>exact absurd (List.mem_singleton.mp (Mm q)) h
theorem oA{ct:FV}:∀(n:Nat) (M:List Nat) (tb:Option (List Nat)),M.length≤n->∃Tk,eD ct 339 tb M Tk∧(∀f∈Tk,kM f)∧Tk.flatMap sK=gf 65533 M∧Tk.filter cx=D2 (ak 0 M)
 |_,[],tb,_=>⟨[],.stop (pf:=f5) (cond:=c0) rfl trivial rfl rfl rfl,bA,rfl,rfl⟩
 |0,c::M,tb,h=>nomatch h
 |n+1,c::M,tb,hn=>by
  have hn':M.length≤n:=by rw [List.length_cons] at hn;lia
  by_cases h0:c=0
  ·subst h0
   obtain⟨T,h1,h2,h3,h4⟩:=oA (ct:=ct) n M tb hn'
   refine⟨[iF,bp [65533]]++T,eD.go (pf:=f5) (cond:=c0) rfl trivial rfl rfl h1,λf hf=>(List.mem_append.mp hf).elim (gE f) (h2 f), ?_, ?_⟩
   ·rw [List.flatMap_append,h3];rfl
   ·obtain⟨h,t,e⟩:=dB 0 M
    rw [List.filter_append,h4,dn,e,Fo];rfl
  ·obtain⟨T,h1,h2,h3,h4⟩:=oA (ct:=ct) n (M.dropWhile (pU [0] false)) tb (Nat.le_trans (iS _ _) hn')
   have hp:f5 tb (c::M)=⟨true,339,tb,[bp (c::M.takeWhile (pU [0] false))],c::M.takeWhile (pU [0] false),M.dropWhile (pU [0] false)⟩:=if_neg h0
   have hT:=eD.go (ct:=ct) (T:=T) (pf:=f5) (cond:=c0) (tb:=tb) (r:=c::M) (st:=339) rfl trivial (by rw [hp]) (by rw [hp];simp [List.takeWhile_append_dropWhile]) (by rw [hp];exact h1)
   rw [hp] at hT
   refine⟨_,hT,λf hf=>(List.mem_append.mp hf).elim (aW (cG (.inl rfl)) f) (h2 f), ?_, ?_⟩
   ·rw [List.flatMap_append,h3,e9 h0,ri (p:=pU [0] false) rfl M,List.flatMap_cons,sJ (.inl rfl)];simp
   ·obtain⟨t,e1,e2⟩:=rJ Bx M
    rw [List.filter_append,h4,e2,fZ h0 e1]
    rfl
theorem df.inv{z:Bool}{n st:Nat}{tb:Option (List Nat)}{r:List Nat}{out:List FV}(h:df z n st tb r out):(∃pf cond,lk st eL=some (pf,cond)∧(pf tb r).cont=false∧out=[])∨
  ∃e m pf cond out',n=e+m∧lk st eL=some (pf,cond)∧(pf tb r).cont=true∧(z=true->m=0)∧((pf tb r).r=[]->m=0)∧df false m (pf tb r).st (pf tb r).tb (pf tb r).r out'∧out=List.replicate e iF++((pf tb r).q++out'):=by
 cases h with
 |stop h1 h2=>exact .inl ⟨_,_,h1,h2,rfl⟩
 |go h1 h2 h3 h4 h5=>exact .inr ⟨_,_,_,_,_,rfl,h1,h2,h3,h4,h5,rfl⟩
theorem xw(e:Nat):(List.replicate e iF).filter cx=[]:=by
 rw [List.filter_eq_nil_iff];intro f hf;rw [List.eq_of_mem_replicate hf];decide
theorem xJ{ct:FV}{st:Nat}{tb:Option (List Nat)}{r:List Nat}{Tk:List FV}(h:eD ct st tb r Tk):∀(z:Bool) (n:Nat) (out:List FV),df z n st tb r out->(r=[]->n=0)->out.filter cx=Tk.filter cx∧out.length=Tk.length+n∧(∀f∈out,f∈Tk∨f=iF)∧(z=true∨n=0->out=List.replicate n iF++Tk):=by
 induction h with
 |stop hl hc h3 h4 h5=>
  intro z n out ho hn
  rcases df.inv ho with ⟨pf,cond,_,_,rfl⟩|⟨e,m,pf,cond,out',_,hl',hc',_⟩
  ·rw [hn rfl];exact⟨rfl,rfl,λf h=>(nomatch h),λ_=>rfl⟩
  ·rw [hl] at hl';cases hl';rw [h3] at hc';cases hc'
 | @go st tb r pf cond T hl hc h3 h4 _ ih=>
  intro z n out ho hn
  rcases df.inv ho with ⟨pf,cond,hl',h',_⟩|⟨e,m,pf,cond,out',rfl,hl',_,hz,hr,ho',rfl⟩
  ·rw [hl] at hl';cases hl';rw [h3] at h';cases h'
  ·rw [hl] at hl';cases hl'
   obtain⟨a1,a2,a4,a3⟩:=ih false m out' ho' hr
   refine⟨?_, ?_,λf hf=> ?_,λh=> ?_⟩
   ·rw [List.filter_append,xw,List.filter_append,List.filter_append,a1];rfl
   ·rw [List.length_append,List.length_replicate,List.length_append,List.length_append,a2];lia
   ·rcases List.mem_append.mp hf with k|k
    ·exact .inr (List.eq_of_mem_replicate k)
    ·rcases List.mem_append.mp k with k|k
     ·exact .inl (List.mem_append_left _ k)
     ·exact(a4 f k).imp (List.mem_append_right _) id
   ·have hm:m=0:=by
     rcases h with h|h
     ·exact hz h
     ·lia
    subst hm
    rw [a3 (.inr rfl)];rfl
noncomputable abbrev fh:List Nat:=[105,110,118,97,108,105,100,45,99,111,100,101,112,111,105,110,116]
noncomputable def jE(acc:List (Bool×List Nat)):Option Nat->List (Bool×List Nat)
 |none=>acc++[(false,fh)]
 |some c=>match acc.getLast? with
  |some (true,u)=>acc.dropLast++[(true,u++[c])]
  |_=>acc++[(true,[c])]
theorem lw(a:List (Bool×List Nat)):∀(s u:List Nat),(s.map some).foldl jE (a++[(true,u)])=a++[(true,u++s)]:=by
 intro s
 induction s with
 |nil=>
  intro u
  rw [List.append_nil];rfl
 |cons c s ih=>
  intro u
  rw [List.map_cons,List.foldl_cons]
  have:jE (a++[(true,u)]) (some c)=a++[(true,u++[c])]:=by unfold jE;dsimp only;rw [List.getLast?_concat,List.dropLast_concat]
  rw [this,ih (u++[c]),List.append_assoc];rfl
theorem B6(acc:List (Bool×List Nat)){f:FV}(h:kM f):dU acc f=(sK f).foldl jE acc:=by
 rcases h.ok with rfl|⟨i,s,rfl,hi,hs⟩
 ·rfl
 ·rw [sJ hi]
  have hk:kind (j0 i s)≠7:=by
   show i≠7
   lia
  unfold dU
  rw [if_neg hk]
  show(match acc.getLast? with
   |some (true,u)=>acc.dropLast++[(true,u++s)]
   |_=>acc++[(true,s)])=_
  cases s with
  |nil=>exact absurd rfl hs
  |cons c s=>
   rw [List.map_cons,List.foldl_cons]
   rcases List.eq_nil_or_concat acc with rfl|⟨a,⟨b,v⟩,rfl⟩
   ·show [(true,c::s)]=(s.map some).foldl jE ([]++[(true,[c])])
    rw [lw];rfl
   ·rw [List.concat_eq_append]
    unfold jE
    rw [List.getLast?_concat,List.dropLast_concat]
    cases b
    ·exact(lw _ s [c]).symm
    ·dsimp only
     exact((lw _ s (v++[c])).trans (by rw [List.append_assoc];rfl)).symm
theorem F7:∀(row:List FV) (acc:List (Bool×List Nat)),(∀f∈row,kM f)->row.foldl dU acc=(row.flatMap sK).foldl jE acc:=by
 intro row
 induction row with
 |nil=>
  intro _ _
  exact rfl
 |cons f row ih=>
  intro acc h
  rw [List.foldl_cons,List.flatMap_cons,List.foldl_append,B6 acc (h f (.head _))];exact ih _ λg hg=>h g (.tail _ hg)
noncomputable def nE(nt:Nat)(ps:List (List Nat)):List (Bool×List Nat):=ps.flatMap λq=>[(false,fh),(true,nt::q)]
noncomputable def lR(nt:Nat):List (List Nat)->List (Bool×List Nat)
 | []=>[]
 |p::ps=>(if p=[]then []else [(true,p)])++nE nt ps
theorem rk(nt:Nat):∀(M:List Nat) (a:List (Bool×List Nat)) (u:List Nat) {h:List Nat} {t:List (List Nat)},ak 0 M=h::t->(gf nt M).foldl jE (a++[(true,u)])=a++((true,u++h)::nE nt t)
 | [],a,u,h,t,e=>by cases e;rw [List.append_nil];rfl
 |c::M,a,u,h,t,e=>by
  obtain⟨h',t',e'⟩:=dB 0 M
  by_cases h0:c=0
  ·subst h0
   rw [dn,e'] at e
   cases e
   have k:(gf nt (0::M)).foldl jE (a++[(true,u)])=(gf nt M).foldl jE ((a++[(true,u)]++[(false,fh)])++[(true,[nt])]):=by
    rw [Aq,List.foldl_cons,List.foldl_cons]
    have k1:jE (a++[(true,u)]) none=a++[(true,u)]++[(false,fh)]:=rfl
    have k2:jE (a++[(true,u)]++[(false,fh)]) (some nt)=(a++[(true,u)]++[(false,fh)])++[(true,[nt])]:=by unfold jE;dsimp only;rw [List.getLast?_concat]
    rw [k1,k2]
   rw [k,rk nt M _ [nt] e',List.append_nil]
   simp [nE]
  ·rw [fZ h0 e'] at e
   cases e
   rw [e9 h0,List.foldl_cons]
   have:jE (a++[(true,u)]) (some c)=a++[(true,u++[c])]:=by unfold jE;dsimp only;rw [List.getLast?_concat,List.dropLast_concat]
   rw [this,rk nt M a (u++[c]) e',List.append_assoc];rfl
theorem CJ(nt n:Nat)(M:List Nat):(gf nt M).foldl jE (List.replicate n (false,fh))=List.replicate n (false,fh)++lR nt (ak 0 M):=by
 have kk:∀(x:Bool×List Nat->List (Bool×List Nat)) (d:List (Bool×List Nat)) (k:Nat),(match (List.replicate k (false,fh)).getLast? with
  |some (true,u)=>x (true,u)
  |_=>d)=d:=λx d k=>by cases k with
   |zero=>rfl
   |succ k=>rw [List.replicate_succ'];rw [List.getLast?_concat]
 have k1:∀k c,jE (List.replicate k (false,fh)) (some c)=List.replicate k (false,fh)++[(true,[c])]:=λk c=>kk (λp=>(List.replicate k (false,fh)).dropLast++[(true,p.2++[c])]) _ k
 cases M with
 |nil=>exact(List.append_nil _).symm
 |cons c M=>
  obtain⟨h,t,e⟩:=dB 0 M
  by_cases h0:c=0
  ·subst h0
   rw [Aq,List.foldl_cons,List.foldl_cons,show jE (List.replicate n (false,fh)) none=List.replicate (n+1) (false,fh) from(List.replicate_succ').symm,k1,rk nt M _ _ e,dn,e,List.replicate_succ']
   simp [lR,nE]
  ·rw [e9 h0,List.foldl_cons,k1,rk nt M _ _ e,fZ h0 e]
   simp [lR]
theorem si{row:List FV}{nt n:Nat}{M:List Nat}{Tk:List FV}(hr:row=List.replicate n iF++Tk)(hg:∀f∈Tk,kM f)(he:Tk.flatMap sK=gf nt M):eR row=List.replicate n (false,fh)++lR nt (ak 0 M):=by
 subst hr
 unfold eR
 have h1:∀k,(List.replicate k iF).foldl dU []=List.replicate k (false,fh):=λk=>by
  induction k with
  |zero=>rfl
  |succ k ih=>rw [List.replicate_succ',List.foldl_append,ih,List.replicate_succ'];rfl
 rw [List.foldl_append,h1,F7 Tk _ hg,he,CJ]
theorem Cw{f:FV}(h:kM f):1≤(sK f).length∧(cb f).length≤17*(sK f).length:=by
 rcases h.ok with rfl|⟨i,s,rfl,hi,hs⟩
 ·exact⟨by decide,by decide⟩
 ·rw [sJ hi,List.length_map]
  show 1≤s.length∧s.length≤_
  cases s with
  |nil=>exact absurd rfl hs
  |cons c s=>rw [List.length_cons];lia
theorem yG:∀(row:List FV),(∀f∈row,kM f)->row.length≤(row.flatMap sK).length∧fN row≤17*(row.flatMap sK).length:=by
 intro row
 induction row with
 |nil=>
  intro _
  exact⟨by decide,by decide⟩
 |cons f row ih=>
  intro h
  have h1:=Cw (h f (.head _))
  have h2:=ih λg hg=>h g (.tail _ hg)
  have h3:fN (f::row)=(cb f).length+fN row:=by simp [fN]
  rw [List.flatMap_cons,List.length_append,List.length_cons,h3];lia
theorem yH(nt:Nat)(M:List Nat):(gf nt M).length≤2*M.length:=by
 induction M with
 |nil=>exact Nat.le_refl _
 |cons c M ih=>
  unfold gf at ih⊢
  rw [List.flatMap_cons,List.length_append,List.length_cons]
  split
  ·show 2+_≤_;lia
  ·show 1+_≤_;lia
end Mine.P
namespace Mine.P
open Mine.A Mine.B
noncomputable def md:Bool->List Nat->List Nat
 |_,[]=>[]
 |b,c::r=>if c=13 then 10::md true r else if c=10∧b=true then md false r else c::md false r
theorem li{b:Bool}{c:Nat}(h1:c≠13)(h2:c≠10)(r:List Nat):md b (c::r)=c::md false r:=by
 show(if c=13 then _ else if c=10∧b=true then _ else _)=_
 rw [if_neg h1,if_neg λq=>h2 q.1]
theorem m9(b:Bool)(r:List Nat):md b (13::r)=10::md true r:=rfl
theorem xZ(r:List Nat):md true (10::r)=md false r:=rfl
theorem FQ(r:List Nat):md false (10::r)=10::md false r:=rfl
theorem FP{b:Bool}{c:Nat}(h:c≠10)(r:List Nat):md b (c::r)=md false (c::r):=by
 by_cases h1:c=13
 ·subst h1;rfl
 ·rw [li h1 h,li h1 h]
theorem ql(y z:List Nat)(c:Nat)(r:List Nat):ba y z 0 (c::r)=if y.isPrefixOf (c::r)then z++ba y z (y.length-1) r else c::ba y z 0 r:=rfl
theorem ug(c:Nat)(r:List Nat):ba [13] [10] 0 (c::r)=if c=13 then 10::ba [13] [10] 0 r else c::ba [13] [10] 0 r:=by
 rw [ql]
 by_cases h:c=13
 ·subst h;rfl
 ·have:[13].isPrefixOf (c::r)=false:=by
   show((13==c)&&_)=false
   rw [beq_eq_false_iff_ne.mpr λe=>h e.symm];rfl
  rw [this,if_neg h];rfl
theorem kz{c:Nat}(h:c≠13)(r:List Nat):aq (c::r)=c::aq r:=by
 have:[13,10].isPrefixOf (c::r)=false:=by
  show((13==c)&&_)=false
  rw [beq_eq_false_iff_ne.mpr λe=>h e.symm];rfl
 unfold aq
 rw [ql,this,if_neg (by decide),ug,if_neg h]
theorem se(r:List Nat):aq (13::10::r)=10::aq r:=by
 unfold aq
 have:ba [13,10] [10] 0 (13::10::r)=10::ba [13,10] [10] 0 r:=rfl
 rw [this,ug];rfl
theorem xY{c:Nat}(h:c≠10)(r:List Nat):aq (13::c::r)=10::aq (c::r):=by
 have:[13,10].isPrefixOf (13::c::r)=false:=by
  show((13==13)&&((10==c)&&_))=false
  rw [beq_eq_false_iff_ne.mpr λe=>h e.symm];rfl
 unfold aq
 rw [ql,this,if_neg (by decide),ug,if_pos rfl]
theorem f7:∀l,aq l=md false l
 | []=>rfl
 | [c]=>by
  by_cases h:c=13
  ·subst h;rfl
  ·rw [kz h]
   by_cases h2:c=10
   ·subst h2;rfl
   ·rw [li h h2];rfl
 |c::d::r=>by
  by_cases h:c=13
  ·subst h
   by_cases h2:d=10
   ·subst h2;rw [se,m9,xZ,f7 r]
   ·rw [xY h2,m9,FP h2,f7 (d::r)]
  ·rw [kz h,f7 (d::r)]
   by_cases h2:c=10
   ·subst h2;rfl
   ·rw [li h h2]
theorem BQ{s:List Nat}(hs:∀c∈s,c≠13∧c≠10)(X:List Nat):∀ {b:Bool},s≠[]->md b (s++X)=s++md false X:=by
 induction s with
 |nil=>intro b h;exact absurd rfl h
 |cons c s ih=>
  intro b _
  have hc:=hs c (.head _)
  rw [List.cons_append,li hc.1 hc.2]
  cases s with
  |nil=>rfl
  |cons d s=>rw [ih (λx hx=>hs x (.tail _ hx)) (by simp)];rfl
theorem nR(rd c:Nat):wE rd c=[c]∨((c≠13∧c≠10)∧wE rd c≠[]∧∀x∈wE rd c,x∈[38,97,109,112,59,108,116]):=by
 unfold wE
 split
 ·rename_i h
  rw [h.2];exact .inr ⟨by decide,by decide,by decide⟩
 ·split
  ·rename_i h
   rw [h.2];exact .inr ⟨by decide,by decide,by decide⟩
  ·exact .inl rfl
theorem FN(rd:Nat):∀(W:List Nat) (b:Bool),md b (wr rd W)=wr rd (md b W):=by
 intro W
 induction W with
 |nil=>
  intro _
  exact rfl
 |cons c W ih=>
  intro b
  rw [bK]
  rcases nR rd c with e|⟨⟨h1,h2⟩,h3,h4⟩
  ·rw [e]
   by_cases h1:c=13
   ·subst h1
    rw [List.singleton_append,m9,m9,ih,bK,gm (by decide) (by decide)];rfl
   ·by_cases h2:c=10
    ·subst h2
     cases b
     ·rw [List.singleton_append,FQ,FQ,ih,bK,gm (by decide) (by decide)];rfl
     ·rw [List.singleton_append,xZ,xZ,ih]
    ·rw [List.singleton_append,li h1 h2,li h1 h2,ih,bK,e];rfl
  ·rw [BQ (λx hx=>(by decide:∀x∈[38,97,109,112,59,108,116],x≠13∧x≠10) x (h4 x hx)) _ h3,li h1 h2,ih,bK]
theorem xX(rd:Nat)(W:List Nat):aq (wr rd W)=wr rd (aq W):=by rw [f7,f7,FN]
theorem He(s:Nat):dl s 13=dl s 10:=by
 unfold dl
 by_cases h:s=9
 ·rw [if_pos h,if_pos h]
 rw [if_neg h,if_neg h,if_neg (show¬(13:Nat)=60 by decide),if_neg (show¬(10:Nat)=60 by decide)]
 by_cases h:s=1
 ·rw [if_pos h,if_pos h];rfl
 rw [if_neg h,if_neg h]
 by_cases h:s=2
 ·rw [if_pos h,if_pos h];rfl
 rw [if_neg h,if_neg h]
 by_cases h:s=3
 ·rw [if_pos h,if_pos h];rfl
 rw [if_neg h,if_neg h]
 by_cases h:s=4
 ·rw [if_pos h,if_pos h];rfl
 rw [if_neg h,if_neg h]
theorem CM{s:Nat}(h:s=0∨s=9):dl s 10=s:=by rcases h with rfl|rfl<;>rfl
theorem Hc(s:Nat):dl s 10=0∨dl s 10=9:=by
 unfold dl
 split
 ·exact .inr rfl
 rw [if_neg (by decide)]
 split
 ·exact .inl rfl
 split
 ·exact .inl rfl
 split
 ·exact .inl rfl
 split
 ·exact .inr rfl
 ·exact .inl rfl
theorem E4:∀(W:List Nat) (b:Bool) (s:Nat),(b=true->s=0∨s=9)->rn s (md b W)=rn s W:=by
 intro W
 induction W with
 |nil=>
  intro _ _ _
  exact rfl
 |cons c W ih=>
  intro b s h
  by_cases h1:c=13
  ·subst h1
   rw [m9]
   show rn (dl s 10) (md true W)=rn (dl s 13) W
   rw [He]
   exact ih true _ λ_=>Hc s
  ·by_cases h2:c=10
   ·subst h2
    cases b
    ·exact ih false (dl s 10) λq=>nomatch q
    ·rw [xZ]
     show rn s (md false W)=rn (dl s 10) W
     rw [CM (h rfl)]
     exact ih false s λq=>nomatch q
   ·rw [li h1 h2]
    exact ih false (dl s c) λq=>nomatch q
noncomputable def uk:List (List Nat):=[[97],[98,32,99],[60],[60,47],[60,47,112,62],[0],[38],[32],[13,10],[13],[10],[60,47,116,105,116,108,101,62],[60,47,115,116,121,108,101,32],[60,47,101,109,45],[60,47,101,109,109,62],[60,47,101],[60,33,45,45],[45,45,62],[60,112,62],[38,97,109,112,59],[38,35,48],[1],[127],[64976],[65534],[233],[128512],[62],[47],[45],[60,47,115,99,114,105,112,116,62],[9,12]]
theorem Bu:∀p∈uk,∀s∈[0,1,2,3],rn s p∈[0,1,2,3]:=by decide
theorem Bv:∀p∈uk,p.length≤9∧∀c∈p,(pQ (c:Int)=decide (c∈[1,127,64976,65534]))∧(gy c=true->c=13):=by decide+kernel
theorem Bk(s:Nat)(p q:List Nat):rn s (p++q)=rn (rn s p) q:=List.foldl_append
structure Txt (W:List Nat):Prop where
 len:W.length≤45
 gd:gd (aq W)=true
 ch:∀c∈W,(pQ (c:Int)=decide (c∈[1,127,64976,65534]))∧(gy c=true->c=13)
theorem AQ(ps:List (List Nat))(h:∀p∈ps,p∈uk)(hl:ps.length≤5):Txt ps.flatten:=by
 have h1:∀(ps:List (List Nat)),(∀p∈ps,p∈uk)->ps.flatten.length≤9*ps.length∧(∀s∈[0,1,2,3],rn s ps.flatten∈[0,1,2,3])∧∀c∈ps.flatten,(pQ (c:Int)=decide (c∈[1,127,64976,65534]))∧(gy c=true->c=13):=by
  intro ps
  induction ps with
  |nil=>intro _;exact⟨Nat.le_refl _,λs hs=>hs,λc hc=>nomatch hc⟩
  |cons p ps ih=>
   intro h
   obtain⟨a1,a2,a3⟩:=ih λq hq=>h q (.tail _ hq)
   have b:=Bv p (h p (.head _))
   rw [List.flatten_cons]
   refine⟨?_,λs hs=> ?_,λc hc=> ?_⟩
   ·rw [List.length_append,List.length_cons];lia
   ·rw [Bk];exact a2 _ (Bu p (h p (.head _)) s hs)
   ·rcases List.mem_append.mp hc with k|k
    ·exact b.2 c k
    ·exact a3 c k
 obtain⟨a1,a2,a3⟩:=h1 ps h
 refine⟨by lia,Al ?_,a3⟩
 rw [f7,E4 _ false 0 λq=>nomatch q]
 have:=a2 0 (by decide)
 intro e
 rw [e] at this;revert this;decide
section
variable {W:List Nat}
theorem AL{rd c:Nat}(h:c∈wr rd W):c∈W∨c∈[38,97,109,112,59,108,116]:=by
 obtain⟨a,ha,hc⟩:=List.mem_flatMap.mp h
 rcases nR rd a with e|⟨_,_,k⟩
 ·rw [e] at hc;rw [List.mem_singleton.mp hc];exact .inl ha
 ·exact .inr (k c hc)
theorem AM(rd:Nat)(W:List Nat):(wr rd W).length≤5*W.length:=by
 induction W with
 |nil=>exact Nat.le_refl _
 |cons c W ih=>
  have:(wE rd c).length≤5:=by
   unfold wE
   split
   ·exact Nat.le_refl _
   ·split<;>exact Nat.le_of_ble_eq_true rfl
  rw [bK,List.length_append,List.length_cons];lia
theorem Txt.run(h:Txt W)(rd:Nat):wG (wr rd W):=by
 have:=h.len
 refine⟨Nat.le_trans (AM rd W) (by lia),λc hc q=> ?_⟩
 rcases AL hc with k|k
 ·exact(h.ch c k).2 q
 ·exact absurd q ((by decide:∀c∈[38,97,109,112,59,108,116],¬gy c=true) c k)
noncomputable def jY(W:List Nat):Nat:=(W.filter λc=>decide (c∈[1,127,64976,65534])).length
theorem Txt.errs(h:Txt W)(rd:Nat):(ao (wr rd W)).length=jY W:=by
 have key:∀(W:List Nat),(∀c∈W,pQ (c:Int)=decide (c∈[1,127,64976,65534]))->(ao (wr rd W)).length=jY W:=by
  intro W
  induction W with
  |nil=>intro _;rfl
  |cons c W ih=>
   intro hh
   have ih:=ih λx hx=>hh x (.tail _ hx)
   have hc:=hh c (.head _)
   rw [bK,gK,List.length_append,ih]
   unfold jY
   have k:(ao (wE rd c)).length=if decide (c∈[1,127,64976,65534])then 1 else 0:=by
    rcases tx rd c with e|⟨e1,_⟩
    ·rw [e]
     show(ao [c]).length=_
     unfold ao
     rw [List.length_map, ←hc]
     cases q:pQ (c:Int)with
     |true=>rw [List.filter_cons_of_pos (p:=λc:Nat=>pQ (c:Int)) q];rfl
     |false=>rw [List.filter_cons_of_neg (p:=λc:Nat=>pQ (c:Int)) (by rw [q];decide)];rfl
    ·have:∀c,c=38∨c=60->¬c∈[1,127,64976,65534]:=λc h=>by rcases h with rfl|rfl<;>decide
     rw [decide_eq_false (this c e1)]
     have hx:∀x∈wE rd c,pQ (x:Int)=false:=by
      rcases nR rd c with e|⟨_,_,k⟩
      ·rw [e];intro x hx;rw [List.mem_singleton.mp hx,hc,decide_eq_false (this c e1)]
      ·exact λx hx=>(by decide+kernel:∀c∈[38,97,109,112,59,108,116],pQ ((c:Nat):Int)=false) x (k x hx)
     show(ao (wE rd c)).length=0
     unfold ao
     rw [List.length_map,List.filter_eq_nil_iff.mpr λx hm=>by rw [hx x hm];decide];rfl
   rw [k]
   cases q:decide (c∈[1,127,64976,65534])with
   |true=>rw [List.filter_cons_of_pos (by exact q)];simp;lia
   |false=>rw [List.filter_cons_of_neg (by rw [q];decide)];simp
 exact key W λc hc=>(h.ch c hc).1
end
noncomputable def ff(rd:Nat):Nat:=if rd=4 then 0 else 65533
theorem Bb{W:List Nat}(h:Txt W)(rd:Nat)(hrd:rd≤4)(op:Bool):∃Tk,eD (j7 op) (mA rd) none (aq (wr rd W)) Tk∧(∀f∈Tk,kM f)∧Tk.flatMap sK=gf (ff rd) (aq W)∧(rd=0->Tk.filter cx=D2 (ak 0 (aq W))):=by
 have hct:j7 op=.non∨j7 op=vM:=by cases op;exact .inl rfl;exact .inr rfl
 have hl:(aq W).length≤45:=Nat.le_trans (ew W) h.len
 rw [xX]
 match rd,hrd with
 |0,_=>
  rw [gN (by decide)]
  obtain⟨Tk,h1,h2,h3,h4⟩:=oA (ct:=j7 op) 45 (aq W) none hl
  exact⟨Tk,h1,h2,h3,λ_=>h4⟩
 |1,_=>
  obtain⟨Tk,h1,h2,h3⟩:=qm hct 45 (by decide) (aq W) none hl h.gd
  exact⟨Tk,h1,h2,h3,λq=>nomatch q⟩
 |2,_=>
  obtain⟨Tk,h1,h2,h3⟩:=(Ba hct 45 (by decide)).1 (aq W) none hl h.gd
  exact⟨Tk,h1,h2,h3,λq=>nomatch q⟩
 |3,_=>
  obtain⟨Tk,h1,h2,h3⟩:=uh hct 45 (by decide) (aq W) none hl h.gd
  exact⟨Tk,h1,h2,h3,λq=>nomatch q⟩
 |4,_=>
  obtain⟨Tk,h1,h2,h3⟩:=pu (ct:=j7 op) 45 (aq W) none hl
  exact⟨Tk,h1,h2,h3,λq=>nomatch q⟩
end Mine.P
namespace Mine.A
open Mine.B Mine.Head Mine.P
theorem LF.nil{L:List (Nat×V)}:LF [] L:=λ_ _ h=>nomatch h
theorem LF.cons{n:Nat}{v:V}{l L:List (Nat×V)}(h1:lk n L=some v)(h:LF l L):LF ((n,v)::l) L:=λa w e=>by
 rw [aj] at e
 split at e
 ·rename_i q
  rw [q];cases e;exact h1
 ·exact h a w e
theorem Cd{H:List (Nat×AO)}(h:lo H=[]):hi H=H:=by
 induction H with
 |nil=>rfl
 |cons p H ih=>
  rw [dt] at h
  rw [Gj]
  by_cases q:p.1<64
  ·rw [if_pos q] at h;cases h
  ·rw [if_neg q] at h;rw [if_neg q,ih h]
noncomputable def gL:G:=b7 [(767,Iv qc),(772,jj),(779,jk)]
section
variable {s:St} {F:V->St->Prop}
theorem s7(hlo:lo s.H=[])(v:V)(h:F v s):F v (aR s ([]++hi s.H)):=by
 rw [Cd hlo,List.nil_append];exact h
theorem va(hlo:lo s.H=[]){text:List Nat}{rd:Nat}{op:Bool}{sz:Nat}{Tk:List FV}(h1:wG text)(h2:rd≤4)(h3:sz=0∨2≤sz)(h4:eD (j7 op) (mA rd) none (aq text) Tk)(h5:Tk.length+(ao text).length≤20000)
  (hk:∀out,df (decide (sz=0)) (ao text).length (mA rd) none (aq text) out->F (.c (.tup [.lst out,fk (aq text)])) s):cC gL 767 [.c (.str text),.c (.int (rd:Nat)),.c (.bol op),.c (.int (sz:Nat))] [] s F:=by
 refine jH rfl rfl (by rw [hlo];rfl) ?_
 rw [hlo]
 have e:gL.call 767=Iv qc:=rfl
 rw [e]
 exact⟨rfl,text,rd,op,sz,Tk,rfl,rfl,rfl,h1,h2,h3,h4,h5,λout Z' t' ho=>⟨_,rfl,s7 hlo _ (hk out ho)⟩⟩
theorem iq(hlo:lo s.H=[]){row:List FV}(h1:∀f∈row,nO f)(h2:row.length≤20000)(hk:F (.c (.lst (row.filter cx))) s):cC gL 772 [.c (.lst row)] [] s F:=by
 refine jH rfl rfl (by rw [hlo];rfl) ?_
 rw [hlo]
 exact⟨row,rfl,rfl,rfl,h1,h2,s7 hlo _ hk⟩
theorem sh(hlo:lo s.H=[]){row:List FV}(h1:∀f∈row,nO f)(h2:row.length≤20000)(h3:fN row≤1000000)(hk:F (.c (.lst ((eR row).map Mine.A.di))) s):cC gL 779 [.c (.lst row)] [] s F:=by
 refine jH rfl rfl (by rw [hlo];rfl) ?_
 rw [hlo]
 exact⟨row,rfl,rfl,rfl,h1,h2,h3,s7 hlo _ hk⟩
theorem vE{l:List FV}(h:F (.c (.int l.length)) s):D4 0 [.c (.lst l)] s F:=h
theorem je{n:Nat}{l:List FV}{j:Int}{r:FV}(h1:lk n s.H=some (.lst l))(h2:d7 l j=some r)(h:F (.c r) s):oe (.ob n) (.c (.int j)) s F:=
 aa (o:=aC (.c (.int j))) rfl (aa h1 (aa (o:=aI (.int j)) rfl (aa h2 h)))
theorem BR{g:G}{x r:List Nat}{v:V}{l:List FV}(h1:sS s.H [v]=some [.lst l])(h2:dK x l=some r)(h3:Nat.ble (r.length+l.length*x.length+x.length) 16777216=true)(h:F (.c (.str r)) s):gZ g (.str x) 2 [v] [] s F:=
 aa h1 (aa h2 ⟨Nat.le_of_ble_eq_true h3,h⟩)
theorem Bd{g:G}{K:Fl->St->Prop}{n:Nat}{i:Int}{b c:S}(h:(-1000000≤i∧i≤1000000)∧dM (ex g b) (dZ [n]) (kZ 0 i.toNat) s (sq g c K)):ex g (.seq (.frR n (.cons (.k (.int i)) .nil) b) c) s K:=h
theorem Be{g:G}{K:Fl->St->Prop}{i n q:Nat}{b c:S}{v:V}{l:List FV}{H':List (Nat×AO)}(h1:lk q s.L=some v)(h2:oY s.H v=some (.lst l,H'))(h:dM (ex g b) (dZ [i,n]) (BN l) (aR s H') (sq g c K)):ex g (.seq (.frE i n (.loc q) b) c) s K:=by
 have k:ev g (.loc q) s (one λv s=>ai (oY s.H v) λr=>ai (aL r.1) λl=>dM (ex g b) (dZ [i,n]) (BN l) (aR s r.2) (sq g c K)):=ad (aa h1 (aa h2 (aa (o:=aL (.lst l)) rfl h)))
 exact k
end
noncomputable def uu(sc:List Int):List Nat:=if sc.take 5=[]then [1,5,16]else(sc.take 5).map λn=>(Int.fmod n 6400).toNat
theorem qD(sc:List Int):∃a l,uu sc=a::l∧a<6400∧l.length≤4:=by
 unfold uu
 split
 ·exact⟨1,_,rfl,by decide,by decide⟩
 ·cases q:sc.take 5 with
  |nil=>contradiction
  |cons a l=>
   refine⟨_,_,List.map_cons, ?_, ?_⟩
   ·have h1:=Int.fmod_lt_of_pos a (b:=6400) (by decide)
    have h2:=Int.fmod_nonneg_of_pos a (b:=6400) (by decide)
    lia
   ·have:=congrArg List.length q
    rw [List.length_take,List.length_cons] at this
    rw [List.length_map];lia
noncomputable def rV(n:Nat):List Nat:=uk.getD (n % 32) []
theorem xG(n:Nat):rV n∈uk:=by
 have h:n % 32<uk.length:=Nat.mod_lt _ (by decide)
 unfold rV
 rw [List.getD_eq_getElem?_getD,List.getElem?_eq_getElem h]
 exact List.getElem_mem h
noncomputable def IG(sc:List Int):List Nat:=((uu sc).map rV).flatten
theorem Ek(sc:List Int):Txt (IG sc):=by
 refine AQ _ (λp hp=> ?_) ?_
 ·obtain⟨n,_,rfl⟩:=List.mem_map.mp hp;exact xG n
 ·obtain⟨a,l,e,_,hl⟩:=qD sc
  rw [List.length_map,e,List.length_cons];lia
theorem E9(c:Nat)(z:List Nat)(l:List Nat):ba [c] z 0 l=l.flatMap λx=>if x=c then z else [x]:=by
 induction l with
 |nil=>rfl
 |cons x l ih=>
  rw [ql,List.flatMap_cons]
  by_cases h:x=c
  ·subst h
   have:[x].isPrefixOf (x::l)=true:=by show((x==x)&&_)=true;rw [beq_self_eq_true];rfl
   rw [if_pos this,if_pos rfl, ←ih];rfl
  ·have:[c].isPrefixOf (x::l)=false:=by
    show((c==x)&&_)=false
    rw [beq_eq_false_iff_ne.mpr λe=>h e.symm];rfl
   rw [this,if_neg (by decide),if_neg h,ih];rfl
theorem Bp(W:List Nat):ba [38] [38,97,109,112,59] 0 W=wr 3 W:=by
 rw [E9]
 unfold wr
 congr 1
 funext x
 unfold wE
 by_cases h:x=38
 ·rw [if_pos h,if_pos ⟨by decide,h⟩]
 ·rw [if_neg h,if_neg λq=>h q.2,if_neg λq=>absurd q.1 (by decide)]
theorem Bo(W:List Nat):ba [60] [38,108,116,59] 0 (wr 3 W)=wr 4 W:=by
 rw [E9]
 unfold wr
 rw [List.flatMap_assoc]
 congr 1
 funext x
 unfold wE
 by_cases h:x=38
 ·rw [if_pos ⟨by decide,h⟩,if_pos ⟨by decide,h⟩];rfl
 ·rw [if_neg λq=>h q.2,if_neg λq=>absurd q.1 (by decide),if_neg λq=>h q.2]
  by_cases h':x=60
  ·rw [if_pos ⟨rfl,h'⟩,h'];rfl
  ·rw [if_neg λq=>h' q.2]
   show(if x=60 then _ else _)++[]=_
   rw [if_neg h'];rfl
end Mine.A
namespace Mine.A
open Mine.B Mine.Head Mine.P
structure PF (W:List Nat) (rd:Nat) (op:Bool) (Tk:List FV):Prop where
 t:Txt W
 r4:rd≤4
 k:eD (j7 op) (mA rd) none (aq (wr rd W)) Tk
 g:∀f∈Tk,kM f
 e:Tk.flatMap sK=gf (ff rd) (aq W)
 p:rd=0->Tk.filter cx=D2 (ak 0 (aq W))
theorem Fp{W:List Nat}(h:Txt W){rd:Nat}(hrd:rd≤4)(op:Bool):∃Tk,PF W rd op Tk:=by
 obtain⟨Tk,h1,h2,h3,h4⟩:=Bb h rd hrd op
 exact⟨Tk,h,hrd,h1,h2,h3,h4⟩
theorem mx{f:FV}(h:kM f):nO f:=by
 rcases h.ok with rfl|⟨i,s,rfl,hi,_⟩
 ·exact⟨7,_,rfl,.inr (.inr rfl)⟩
 ·exact⟨i,s,rfl,hi.imp id .inl⟩
section
variable {W:List Nat} {rd:Nat} {op:Bool} {Tk:List FV}
theorem PF.len(h:PF W rd op Tk):Tk.length≤90∧fN Tk≤1530∧jY W≤45:=by
 have h1:=yG Tk h.g
 rw [h.e] at h1
 have h2:=yH (ff rd) (aq W)
 have h3:=ew W
 have h4:=h.t.len
 have h5:jY W≤W.length:=List.length_filter_le _ _
 lia
theorem ua(f:FV)(l:List FV):fN (f::l)=(cb f).length+fN l:=by simp [fN]
theorem mQ{f:FV}:∀ {l:List FV},f∈l->(cb f).length≤fN l
 |g::l,h=>by
  rw [ua]
  cases h with
  |head=>lia
  |tail _ h=>have:=mQ h;lia
structure DP (W:List Nat) (rd:Nat) (Tk out:List FV):Prop where
 f:out.filter cx=Tk.filter cx
 n:out.length=Tk.length+jY W
 g:∀f∈out,kM f
 l:out.length≤200
 r:fN out≤400000
theorem t9(h:PF W rd op Tk){z:Bool}{out:List FV}(ho:df z (ao (wr rd W)).length (mA rd) none (aq (wr rd W)) out):DP W rd Tk out∧(z=true->eR out=List.replicate (jY W) (false,fh)++lR (ff rd) (ak 0 (aq W))):=by
 have hl:=h.len
 obtain⟨a1,a2,a3,a4⟩:=xJ h.k z _ out ho λq=>by rw [m7 q];rfl
 rw [h.t.errs] at a2 a4
 have hg:∀f∈out,kM f:=λf hf=>(a3 f hf).elim (h.g f) λe=>e▸nV
 refine⟨⟨a1,a2,hg,by lia, ?_⟩,λq=>si (a4 (.inl q)) h.g h.e⟩
 have hx:∀(l:List FV),(∀f∈l,f∈Tk∨f=iF)->fN l≤1530*l.length:=by
  intro l
  induction l with
  |nil=>intro _;exact Nat.le_refl _
  |cons f l ih=>
   intro hh
   have h1:=ih λg hg=>hh g (.tail _ hg)
   have h2:(cb f).length≤1530:=by
    rcases hh f (.head _)with k|rfl
    ·have:=mQ k;lia
    ·decide
   rw [ua,List.length_cons];lia
 have:=hx out a3
 have:1530*out.length≤1530*200:=Nat.mul_le_mul_left _ (by lia)
 lia
end
section
variable {s:St} {k:Bool->Prop}
theorem IM{a b:List FV}(e:a=b)(hd:dep 12 (.lst a)=true∨CL a=true)(h:k false):cI 1 (.c (.lst a)) (.c (.lst b)) s k:=by
 have h2:(a=b∧(dep 12 (.lst a)=true∨CL a=true))∧k (!true):=⟨⟨e,hd⟩,h⟩
 have h3:ai (fC s.H (.c (.lst a))) λx=>ai (fC s.H (.c (.lst b))) λy=>G1 x y λr=>k (!r):=aa (a:=FV.lst a) rfl (aa (a:=FV.lst b) rfl h2)
 exact h3
theorem zT{a b:List FV}{i:Nat}(hi:lk i s.H=some (.lst b))(e:a=b)(hd:dep 12 (.lst a)=true∨CL a=true)(h:k false):cI 1 (.c (.lst a)) (.ob i) s k:=by
 have h2:(a=b∧(dep 12 (.lst a)=true∨CL a=true))∧k (!true):=⟨⟨e,hd⟩,h⟩
 have h3:fC s.H (.ob i)=some (FV.lst b)->ai (fC s.H (.c (.lst a))) λx=>ai (fC s.H (.ob i)) λy=>G1 x y λr=>k (!r):=λe=>aa (a:=FV.lst a) rfl (aa (a:=FV.lst b) e h2)
 exact h3 (rq hi)
theorem Ap{F:V->St->Prop}{l:List FV}{i:Nat}(hi:lk i s.H=some (.lst l))(h:F (.c (.int l.length)) s):D4 0 [.ob i] s F:=by
 exact aa (o:=o1 [V.ob i]) rfl (aa (rq hi) (aa rfl h))
theorem Ez{a b:List FV}(e:a=b)(hd:dep 12 (.tup a)=true)(h:k false):cI 1 (.c (.tup a)) (.c (.tup b)) s k:=by
 have h2:(a=b∧dep 12 (.tup a)=true)∧k (!true):=⟨⟨e,hd⟩,h⟩
 have h3:ai (fC s.H (.c (.tup a))) λx=>ai (fC s.H (.c (.tup b))) λy=>G1 x y λr=>k (!r):=aa (a:=FV.tup a) rfl (aa (a:=FV.tup b) rfl h2)
 exact h3
end
theorem yW(l:List (Bool×List Nat)):dep 12 (.lst (l.map Mine.A.di))=true:=by
 show(l.map Mine.A.di).all _=true
 rw [List.all_eq_true]
 intro f hf
 obtain⟨p,_,rfl⟩:=List.mem_map.mp hf
 rfl
theorem v0{l:List FV}(h:∀f∈l,nO f):CL l=true:=by
 unfold CL
 rw [List.all_eq_true]
 intro f hf
 obtain⟨i,s,rfl,_⟩:=(h f hf).ex
 rfl
theorem kE{l:List FV}(h:∀f∈l,kM f):∀f∈l.filter cx,nO f:=λf hf=>mx (h f (List.mem_filter.mp hf).1)
noncomputable def na:S:=(S.seq (S.iff (X.cmp 4 (X.loc 218) (X.k (.int (0)))) (S.seq (S.augN 157 0 (X.lst (X.cons (X.tup (X.cons (X.k (.str [116,111,108,100])) (X.cons (X.k (.str [105,110,118,97,108,105,100,45,99,111,100,101,112,111,105,110,116])) X.nil))) (X.cons (X.tup (X.cons (X.k (.str [116,101,120,116])) (X.cons (X.bin 0 (X.loc 217) (X.loc 233)) X.nil))) X.nil)))) (S.seq (S.ex (X.meth (X.loc 236) 0 (X.cons (X.dct (X.cons (X.k (.str [116,121,112,101])) (X.cons (X.sub (X.glo ap) (X.k (.str [67,104,97,114,97,99,116,101,114,115]))) (X.cons (X.k (.str [100,97,116,97])) (X.cons (X.loc 217) X.nil))))) X.nil) [])) S.skip)) (S.seq (S.iff (X.loc 233) (S.seq (S.ex (X.meth (X.loc 157) 0 (X.cons (X.tup (X.cons (X.k (.str [116,101,120,116])) (X.cons (X.loc 233) X.nil))) X.nil) [])) S.skip) S.skip) S.skip)) (S.seq (S.iff (X.loc 233) (S.seq (S.ex (X.meth (X.loc 236) 0 (X.cons (X.dct (X.cons (X.k (.str [116,121,112,101])) (X.cons (X.sub (X.glo ap) (X.k (.str [67,104,97,114,97,99,116,101,114,115]))) (X.cons (X.k (.str [100,97,116,97])) (X.cons (X.loc 233) X.nil))))) X.nil) [])) S.skip) S.skip) S.skip))
noncomputable def uL:S:=(S.seq (S.iff (X.cmp 0 (X.loc 262) (X.loc 127)) (S.seq (S.asgT [(none,95),(none,237)] (X.call 767 (X.cons (X.loc 327) (X.cons (X.loc 262) (X.cons (X.loc 223) (X.cons (X.loc 296) X.nil)))))) (S.seq (S.iff (X.or (X.cmp 1 (X.call 772 (X.cons (X.loc 95) X.nil)) (X.call 772 (X.cons (X.loc 267) X.nil))) (X.or (X.cmp 1 (X.fn 0 (X.cons (X.loc 95) X.nil)) (X.fn 0 (X.cons (X.loc 267) X.nil))) (X.cmp 1 (X.loc 237) (X.loc 160)))) (S.seq (S.ret (X.k (.bol false))) S.skip) S.skip) S.skip)) S.skip) S.skip)
noncomputable def uM:S:=(S.seq (S.iff (X.and (X.cmp 0 (X.loc 262) (X.k (.int (0)))) (X.cmp 1 (X.call 772 (X.cons (X.loc 267) X.nil)) (X.loc 236))) (S.seq (S.ret (X.k (.bol false))) S.skip) S.skip) uL)
noncomputable def uN:S:=(S.seq (S.iff (X.or (X.cmp 1 (X.call 779 (X.cons (X.loc 267) X.nil)) (X.loc 157)) (X.cmp 1 (X.loc 160) (X.tup (X.cons (X.fn 0 (X.cons (X.loc 200) X.nil)) (X.cons (X.fn 0 (X.cons (X.sub (X.loc 200) (X.k (.int (-1)))) X.nil)) X.nil))))) (S.seq (S.ret (X.k (.bol false))) S.skip) S.skip) uM)
noncomputable def uO:S:=(S.seq (S.asgN 200 (X.meth (X.rep (X.rep (X.loc 327) [13,10] [10]) [13] [10]) 6 (X.cons (X.k (.str [10])) X.nil) [])) uN)
noncomputable def qO:S:=(S.seq (S.frE 218 233 (X.loc 234) na) uO)
noncomputable def uP:S:=(S.seq (S.asgN 236 (X.lst X.nil)) qO)
noncomputable def uQ:S:=(S.seq (S.asgN 157 (X.bin 2 (X.lst (X.cons (X.tup (X.cons (X.k (.str [116,111,108,100])) (X.cons (X.k (.str [105,110,118,97,108,105,100,45,99,111,100,101,112,111,105,110,116])) X.nil))) X.nil)) (X.loc 173))) uP)
noncomputable def uR:S:=(S.seq (S.asgN 217 (X.ife (X.cmp 0 (X.loc 262) (X.k (.int (4)))) (X.k (.str [0])) (X.k (.str [65533])))) uQ)
noncomputable def uS:S:=(S.seq (S.asgT [(none,267),(none,160)] (X.call 767 (X.cons (X.loc 327) (X.cons (X.loc 262) (X.cons (X.loc 223) (X.cons (X.k (.int (0))) X.nil)))))) uR)
noncomputable def qP:S:=(S.seq (S.asgN 327 (X.sub (X.lst (X.cons (X.loc 311) (X.cons (X.loc 311) (X.cons (X.loc 311) (X.cons (X.loc 270) (X.cons (X.rep (X.loc 270) [60] [38,108,116,59]) X.nil)))))) (X.loc 262))) uS)
noncomputable def FT:S:=(S.seq (S.ret (X.k (.bol true))) S.skip)
noncomputable def BV:S:=(S.seq (S.frR 262 (X.cons (X.k (.int (5))) X.nil) qP) FT)
noncomputable def BX:S:=(S.seq (S.asgN 234 (X.meth (X.rep (X.rep (X.loc 311) [13,10] [10]) [13] [10]) 6 (X.cons (X.k (.str [0])) X.nil) [])) BV)
noncomputable def FU:S:=(S.seq (S.asgN 173 (X.fn 0 (X.cons (X.lcm 295 (X.loc 311) (X.cmp 8 (X.loc 295) (X.tup (X.cons (X.k (.str [1])) (X.cons (X.k (.str [127])) (X.cons (X.k (.str [64976])) (X.cons (X.k (.str [65534])) X.nil)))))) (X.loc 295)) X.nil))) BX)
noncomputable def x9:S:=(S.seq (S.asgN 270 (X.rep (X.loc 311) [38] [38,97,109,112,59])) FU)
noncomputable def FW:S:=(S.seq (S.asgN 311 (X.meth (X.k (.str [])) 2 (X.cons (X.lcm 213 (X.loc 219) (X.k (.bol true)) (X.sub (X.glo eU) (X.bin 4 (X.loc 213) (X.k (.int (32)))))) X.nil) [])) x9)
noncomputable def FX:S:=(S.seq (S.asgN 127 (X.bin 3 (X.sub (X.loc 219) (X.k (.int (0)))) (X.k (.int (1280))))) FW)
noncomputable def FY:S:=(S.seq (S.asgN 296 (X.bin 0 (X.k (.int (2))) (X.bin 4 (X.bin 3 (X.sub (X.loc 219) (X.k (.int (0)))) (X.k (.int (64)))) (X.k (.int (20)))))) FX)
noncomputable def oH:S:=(S.seq (S.asgN 223 (X.cmp 0 (X.bin 4 (X.bin 3 (X.sub (X.loc 219) (X.k (.int (0)))) (X.k (.int (32)))) (X.k (.int (2)))) (X.k (.int (1))))) FY)
noncomputable def uV:S:=(S.seq (S.asgN 219 (X.or (X.lcm 213 (X.slc (X.loc 272) (X.k .non) (X.k (.int (5)))) (X.k (.bol true)) (X.bin 4 (X.loc 213) (X.k (.int (6400))))) (X.lst (X.cons (X.k (.int (1))) (X.cons (X.k (.int (5))) (X.cons (X.k (.int (16))) X.nil)))))) oH)
section
variable {W:List Nat} {rd sz ch:Nat} {op:Bool} {Tk out:List FV} {L linv:List (Nat×V)} {H:List (Nat×AO)} {m:Nat} {K:Fl->St->Prop} {parts:V}
noncomputable abbrev lI(W:List Nat)(op:Bool)(sz ch:Nat)(parts:V):List (Nat×V):=[(311,.c (.str W)),(270,.c (.str (wr 3 W))),(223,.c (.bol op)),(296,.c (.int (sz:Nat))),(127,.c (.int (ch:Nat))),(173,.c (.int (jY W:Nat))),(234,parts)]
noncomputable abbrev l9(W:List Nat)(rd:Nat)(out:List FV):List (Nat×V):=[(262,.c (.int (rd:Nat))),(327,.c (.str (wr rd W))),(267,.c (.lst out)),(160,.c (fk (aq (wr rd W))))]
theorem LF.skip{l L:List (Nat×V)}(h:LF l L){n:Nat}(v:V)(e:lk n l=none):LF l (Mine.A.put n v L):=λa w q=>by
 rw [af]
 split
 ·rename_i k;rw [k,e] at q;cases q
 ·exact h a w q
theorem fE{b:Bool}{H:List (Nat×AO)}:av H (.c (.bol b))=some b:=rfl
theorem uT(hP:PF W rd op Tk)(hI:LF (lI W op sz ch parts) L)(hL:LF (l9 W rd out) L)(hR:DP W rd Tk out)(hsz:2≤sz)(hlo:lo H=[])(hK:∀L',LF (lI W op sz ch parts) L'->K .nxt ⟨L',H,m,false⟩):ex gL uL ⟨L,H,m,false⟩ K:=by
 unfold uL
 have e262:=hL 262 _ rfl
 have e327:=hL 327 _ rfl
 have e267:=hL 267 _ rfl
 have e160:=hL 160 _ rfl
 have e223:=hI 223 _ rfl
 have e296:=hI 296 _ rfl
 have e127:=hI 127 _ rfl
 have hlen:=hP.len
 refine dC (bL (ad (aa e262 (ad (aa e127 (jX (w5 (aa fE (du (λh=> ?_) λh=> ?_)))))))))
 ·refine t7 (il (ah (ad (aa e327 (ah (ad (aa e262 (ah (ad (aa e223 (ah (ad (aa e296 (ay ?_))))))))))))))
  refine va (s:=⟨L,H,m,false⟩) hlo (hP.t.run rd) hP.r4 (.inr hsz) hP.k (by rw [hP.t.errs];lia) λout2 ho=> ?_
  obtain⟨hR2,_⟩:=t9 hP ho
  refine El rfl (pV (pV (zL ?_)))
  have hI2:=(hI.skip (n:=95) (.c (.lst out2)) rfl).skip (n:=237) (.c (fk (aq (wr rd W)))) rfl
  have f95:lk 95 (Mine.A.put 237 (.c (fk (aq (wr rd W)))) (Mine.A.put 95 (.c (.lst out2)) L))=some (.c (.lst out2)):=by rw [af,if_neg (by decide),af,if_pos rfl]
  have f237:lk 237 (Mine.A.put 237 (.c (fk (aq (wr rd W)))) (Mine.A.put 95 (.c (.lst out2)) L))=some (.c (fk (aq (wr rd W)))):=by rw [af,if_pos rfl]
  have f267:lk 267 (Mine.A.put 237 (.c (fk (aq (wr rd W)))) (Mine.A.put 95 (.c (.lst out2)) L))=some (.c (.lst out)):=by rw [af,if_neg (by decide),af,if_neg (by decide)];exact e267
  have f160:lk 160 (Mine.A.put 237 (.c (fk (aq (wr rd W)))) (Mine.A.put 95 (.c (.lst out2)) L))=some (.c (fk (aq (wr rd W)))):=by rw [af,if_neg (by decide),af,if_neg (by decide)];exact e160
  refine dC (xP (bL (il (ah (ad (aa f95 (ay ?_)))))))
  refine iq (s:=⟨Mine.A.put 237 (.c (fk (aq (wr rd W)))) (Mine.A.put 95 (.c (.lst out2)) L),H,m,false⟩) hlo (λf hf=>mx (hR2.g f hf)) (by have:=hR2.l;lia) ?_
  refine il (ah (ad (aa f267 (ay ?_))))
  refine iq (s:=⟨Mine.A.put 237 (.c (fk (aq (wr rd W)))) (Mine.A.put 95 (.c (.lst out2)) L),H,m,false⟩) hlo (λf hf=>mx (hR.g f hf)) (by have:=hR.l;lia) ?_
  refine jX (IM (by rw [hR.f,hR2.f]) (.inr (v0 (kE hR2.g))) (aa fE (fu rfl ?_)))
  refine xP (bL (ur (ah (ad (aa f95 (ay (vE (ur (ah (ad (aa f267 (ay (vE (jX (IR (aa fE (fu ?_ ?_)))))))))))))))))
  ·rw [decide_eq_true (by rw [hR.n,hR2.n])];rfl
  refine bL (ad (aa f237 (ad (aa f160 (jX (Ez rfl rfl (aa fE (fu rfl ?_))))))))
  exact bD (ie (bD (ie (bD (hK _ hI2)))))
 ·exact bD (ie (bD (hK L hI)))
theorem BU{p:Nat}{pcs':List FV}(hP:PF W rd op Tk)(hI:LF (lI W op sz ch parts) L)(hL:LF ((236,.ob p)::l9 W rd out) L)(hR:DP W rd Tk out)(hsz:2≤sz)(hlo:lo H=[])(hp:lk p H=some (.lst pcs'))(hpc:rd=0->pcs'=Tk.filter cx)(hK:∀L',LF (lI W op sz ch parts) L'->K .nxt ⟨L',H,m,false⟩):ex gL uM ⟨L,H,m,false⟩ K:=by
 unfold uM
 have hL9:LF (l9 W rd out) L:=λn v e=>by
  by_cases q:n=236
  ·subst q;cases e
  ·exact hL n v ((aj _ _ _).trans ((if_neg q).trans e))
 have e262:=hL 262 _ rfl
 have e267:=hL 267 _ rfl
 have e236:=hL 236 _ rfl
 refine dC (qC (bL (ad (aa e262 (ci (jX (w5 (aa fE (du (λh=> ?_) λh=> ?_)))))))))
 ·have h0:rd=0:=by have:=of_decide_eq_true h;lia
  refine bL (il (ah (ad (aa e267 (ay ?_)))))
  refine iq (s:=⟨L,H,m,false⟩) hlo (λf hf=>mx (hR.g f hf)) (by have:=hR.l;lia) ?_
  refine ad (aa e236 (Lq (zT hp (by rw [hpc h0,hR.f]) (.inr (v0 (kE hR.g))) (aa fE (fu rfl ?_)))))
  exact bD (ie (uT hP hI hL9 hR hsz hlo hK))
 ·rw [h]
  refine aa fE (fu rfl ?_)
  exact bD (ie (uT hP hI hL9 hR hsz hlo hK))
theorem BW{d p q:Nat}{due:List (Bool×List Nat)}{pcs':List FV}{lines:List (List Nat)}(hP:PF W rd op Tk)(hI:LF (lI W op sz ch parts) L)(hL:LF ((157,.ob d)::(200,.ob q)::(236,.ob p)::l9 W rd out) L)(hR:DP W rd Tk out)(hsz:2≤sz)(hlo:lo H=[])
  (hp:lk p H=some (.lst pcs')) (hd:lk d H=some (.lst (due.map Mine.A.di))) (hq:lk q H=some (.lst (lines.map .str))) (hdue:eR out=due) (hlines:lines=ak 10 (aq (wr rd W))) (hpc:rd=0->pcs'=Tk.filter cx) (hK:∀L',LF (lI W op sz ch parts) L'->K .nxt ⟨L',H,m,false⟩):ex gL uN ⟨L,H,m,false⟩ K:=by
 unfold uN
 have hL9:LF ((236,.ob p)::l9 W rd out) L:=λn v e=>by
  by_cases q1:n=157
  ·subst q1;cases e
  ·by_cases q2:n=200
   ·subst q2;cases e
   ·exact hL n v ((aj _ _ _).trans ((if_neg q1).trans ((aj _ _ _).trans ((if_neg q2).trans e))))
 have e267:=hL 267 _ rfl
 have e160:=hL 160 _ rfl
 have e157:=hL 157 _ rfl
 have e200:=hL 200 _ rfl
 obtain⟨s1,w,s2,s3,_⟩:=kj 10 (aq (wr rd W))
 rw [←hlines] at s1 s2
 obtain⟨l0,hl0⟩:∃l0,lines=l0++[w]:=by
  rcases List.eq_nil_or_concat lines with q|⟨a,b,q⟩
  ·rw [q] at s2;cases s2
  ·rw [List.concat_eq_append] at q
   rw [q,List.getLast?_concat] at s2
   cases s2
   exact⟨a,q⟩
 have hidx:d7 (lines.map FV.str) (-1)=some (.str w):=by rw [hl0,List.map_append];exact qX _ _
 refine dC (xP (bL (il (ah (ad (aa e267 (ay ?_)))))))
 refine sh (s:=⟨L,H,m,false⟩) hlo (λf hf=>mx (hR.g f hf)) (by have:=hR.l;lia) (by have:=hR.r;lia) ?_
 refine ad (aa e157 (Lq (zT hd (by rw [hdue]) (.inl (yW _)) (aa fE (fu rfl ?_)))))
 refine bL (ad (aa e160 (gr (ah (ur (ah (ad (aa e200 (ay (Ap hq ?_))))))))))
 refine ah (ur (ah (gv (ad (aa e200 (ci (je hq hidx (ay (GT (ay ?_))))))))))
 refine aa (a:=([.int ((lines.map FV.str).length:Nat),.int (w.length:Nat)],H)) rfl (bV rfl (jX (Ez ?_ rfl (aa fE (fu rfl ?_)))))
 ·unfold gU iU
  rw [List.length_map,s1,s3];rfl
 ·exact bD (ie (BU hP hI hL9 hR hsz hlo hp hpc hK))
end
end Mine.A
namespace Mine.A
open Mine.B Mine.Head Mine.P
structure HQ (d p j:Nat) (due pc ps:List FV) (m:Nat) (H:List (Nat×AO)):Prop where
 fd:lk d H=some (.lst due)
 fp:lk p H=some (.lst pc)
 fj:lk j H=some (.frz (.lst ps))
 lo:lo H=[]
 dm:d<m
 pm:p<m
 jm:j<m
 dp:d≠p
 dj:d≠j
 pj:p≠j
 d6:64≤d
 p6:64≤p
 m6:64≤m
section
variable {d p j m:Nat} {due pc ps:List FV} {H:List (Nat×AO)}
theorem HQ.push(h:HQ d p j due pc ps m H)(o:AO):HQ d p j due pc ps (m+1) ((m,o)::H):=by
 have h1:=h.dm
 have h2:=h.pm
 have h3:=h.jm
 have h4:=h.m6
 refine⟨(xV (by lia)).trans h.fd,(xV (by lia)).trans h.fp,(xV (by lia)).trans h.fj, ?_,by lia,by lia,by lia,h.dp,h.dj,h.pj,h.d6,h.p6,by lia⟩
 rw [dt,if_neg (show¬m<64 by lia)];exact h.lo
theorem HQ.putd(h:HQ d p j due pc ps m H)(due':List FV):HQ d p j due' pc ps m (put d (.lst due') H):=by
 have h1:=h.d6
 refine⟨(af _ _ _ _).trans (if_pos rfl),(af _ _ _ _).trans ((if_neg λe=>h.dp e.symm).trans h.fp),(af _ _ _ _).trans ((if_neg λe=>h.dj e.symm).trans h.fj), ?_,h.dm,h.pm,h.jm,h.dp,h.dj,h.pj,h.d6,h.p6,h.m6⟩
 rw [cV (by lia)];exact h.lo
theorem HQ.putp(h:HQ d p j due pc ps m H)(pc':List FV):HQ d p j due pc' ps m (put p (.lst pc') H):=by
 have h1:=h.p6
 refine⟨(af _ _ _ _).trans ((if_neg h.dp).trans h.fd),(af _ _ _ _).trans (if_pos rfl),(af _ _ _ _).trans ((if_neg λe=>h.pj e.symm).trans h.fj), ?_,h.dm,h.pm,h.jm,h.dp,h.dj,h.pj,h.d6,h.p6,h.m6⟩
 rw [cV (by lia)];exact h.lo
end
section
variable {s:St} {F:V->St->Prop} {L:List (Nat×V)} {H:List (Nat×AO)} {m d p j:Nat} {due pc ps:List FV} {K:Fl->St->Prop} {b:S}
theorem J7{i q:Nat}{l r:List FV}(h1:lk i s.H=some (.lst l))(h2:lk q s.H=some (.lst r))(h3:l.length+r.length≤16777216)(h:F (.ob i) (aR s (put i (.lst (l++r)) s.H))):oR 0 (.ob i) (.ob q) s F:=by
 show Option.rec (motive:=λ_=>Prop) (fw 0 (.ob i) (.ob q) s F) (λo=>AO.casesOn (motive:=λ_=>Prop) o (λl=>ai (fC s.H (.ob q)) λy=>ai (aL y) λq=>tm (l.length+q.length) (F (.ob i) (aR s (put i (.lst (l++q)) s.H)))) (λ_=>fw 0 (.ob i) (.ob q) s F) (λ_ _=>fw 0 (.ob i) (.ob q) s F) (λ_=>fw 0 (.ob i) (.ob q) s F)) (lk i s.H)
 rw [h1]
 exact aa (rq h2) (aa (a:=r) rfl ⟨h3,h⟩)
noncomputable def uH(v:Nat):X:=X.dct (X.cons (X.k (.str [116,121,112,101])) (X.cons (X.sub (X.glo ap) (X.k (.str [67,104,97,114,97,99,116,101,114,115]))) (X.cons (X.k (.str [100,97,116,97])) (X.cons (X.loc v) X.nil))))
theorem vN{v:Nat}{u:List Nat}(h236:lk 236 L=some (.ob p))(hv:lk v L=some (.c (.str u)))(hQ:HQ d p j due pc ps m H)(hl:pc.length≤10000)(hk:∀H',HQ d p j due (pc++[bp u]) ps (m+1) H'->ex gL b ⟨L,H',m+1,false⟩ K):
  ex gL (.seq (.ex (X.meth (X.loc 236) 0 (X.cons (uH v) X.nil) [])) b) ⟨L,H,m,false⟩ K:=by
 have hQ':=(hQ.push (.frz (bp u)))
 refine kU (b6 (ad (aa h236 (aa (im hQ.fp rfl) (ah (ut (ah (ci (ah (gv (eg (ci (nZ rfl (ah (ci (ah (ad (aa hv (ay ?_)))))))))))))))))))
 refine aa (a:=[(oK,.c (.int 1)),(oM,.c (.str u))]) rfl (sb (ay ?_))
 refine qN (s:=⟨L,(m,.dct [(oK,.c (.int 1)),(oM,.c (.str u))])::H,m+1,false⟩) (i:=p) (l0:=pc) (l:=pc) ((xV (by have:=hQ.pm;lia)).trans hQ.fp) vu hQ'.fp (Nat.ble_eq_true_of_le (by lia)) ?_
 exact hk _ (hQ'.putp _)
theorem CA{u:List Nat}(h157:lk 157 L=some (.ob d))(hv:lk 233 L=some (.c (.str u)))(hQ:HQ d p j due pc ps m H)(hl:due.length≤10000)(hk:∀H',HQ d p j (due++[Mine.A.di (true,u)]) pc ps m H'->ex gL b ⟨L,H',m,false⟩ K):
  ex gL (.seq (.ex (X.meth (X.loc 157) 0 (X.cons (X.tup (X.cons (X.k (.str [116,101,120,116])) (X.cons (X.loc 233) X.nil))) X.nil) [])) b) ⟨L,H,m,false⟩ K:=by
 refine kU (b6 (ad (aa h157 (aa (im hQ.fd rfl) (ah (gr (ah (ci (ah (ad (aa hv (ay ?_))))))))))))
 refine aa (a:=([.str JU,.str u],H)) rfl (bV rfl (ay ?_))
 refine qN (s:=⟨L,H,m,false⟩) (i:=d) (l0:=due) (l:=due) (f:=Mine.A.di (true,u)) (H':=H) hQ.fd rfl hQ.fd (Nat.ble_eq_true_of_le (by lia)) ?_
 exact hk _ (hQ.putd _)
theorem Cz{nt:Nat}{u:List Nat}(h157:lk 157 L=some (.ob d))(h217:lk 217 L=some (.c (.str [nt])))(hv:lk 233 L=some (.c (.str u)))(hu:u.length≤1000)(hQ:HQ d p j due pc ps m H)(hl:due.length≤10000)
  (hk:∀H',HQ d p j (due++[Mine.A.di (false,fh),Mine.A.di (true,nt::u)]) pc ps (m+1) H'->ex gL b ⟨put 157 (.ob d) L,H',m+1,false⟩ K):
  ex gL (.seq (.augN 157 0 (X.lst (X.cons (X.tup (X.cons (X.k (.str [116,111,108,100])) (X.cons (X.k (.str [105,110,118,97,108,105,100,45,99,111,100,101,112,111,105,110,116])) X.nil))) (X.cons (X.tup (X.cons (X.k (.str [116,101,120,116])) (X.cons (X.bin 0 (X.loc 217) (X.loc 233)) X.nil))) X.nil)))) b) ⟨L,H,m,false⟩ K:=by
 refine Bf (aa h157 (gX (ah (gr (ah (ci (ah (ci (ay ?_)))))))))
 refine aa (a:=([.str JV,.str fh],H)) rfl (bV rfl ?_)
 refine ah (gr (ah (ci (ah (dJ (ad (aa h217 (ad (aa hv (wv (by show 1+u.length≤_;lia) (ay ?_)))))))))))
 refine aa (a:=([.str JU,.str ([nt]++u)],H)) rfl (bV rfl (ay ?_))
 refine aa (a:=([Mine.A.di (false,fh),Mine.A.di (true,nt::u)],H)) rfl (bV rfl (sb ?_))
 have hQ':=hQ.push (.lst [Mine.A.di (false,fh),Mine.A.di (true,nt::u)])
 refine J7 (s:=⟨L,(m,.lst [Mine.A.di (false,fh),Mine.A.di (true,nt::u)])::H,m+1,false⟩) (i:=d) (q:=m) hQ'.fd qH (by show due.length+2≤_;lia) ?_
 exact hk _ (hQ'.putd _)
end
theorem uK:na=S.seq (S.iff (X.cmp 4 (X.loc 218) (X.k (.int 0))) (S.seq (S.augN 157 0 (X.lst (X.cons (X.tup (X.cons (X.k (.str [116,111,108,100])) (X.cons (X.k (.str [105,110,118,97,108,105,100,45,99,111,100,101,112,111,105,110,116])) X.nil))) (X.cons (X.tup (X.cons (X.k (.str [116,101,120,116])) (X.cons (X.bin 0 (X.loc 217) (X.loc 233)) X.nil))) X.nil)))) (S.seq (S.ex (X.meth (X.loc 236) 0 (X.cons (uH 217) X.nil) [])) S.skip))
  (S.seq (S.iff (X.loc 233) (S.seq (S.ex (X.meth (X.loc 157) 0 (X.cons (X.tup (X.cons (X.k (.str [116,101,120,116])) (X.cons (X.loc 233) X.nil))) X.nil) [])) S.skip) S.skip) S.skip)) (S.seq (S.iff (X.loc 233) (S.seq (S.ex (X.meth (X.loc 236) 0 (X.cons (uH 233) X.nil) [])) S.skip) S.skip) S.skip):=rfl
section
variable {L lA:List (Nat×V)} {H:List (Nat×AO)} {m d p j nt:Nat} {due pc ps:List FV} {K:Fl->St->Prop}
structure LE (lA:List (Nat×V)) (d p nt:Nat):Prop where
 a:lk 157 lA=some (.ob d)
 b:lk 236 lA=some (.ob p)
 c:lk 217 lA=some (.c (.str [nt]))
 x:lk 218 lA=none
 y:lk 233 lA=none
theorem LF.put_same{l L:List (Nat×V)}(h:LF l L){n:Nat}{v:V}(e:lk n l=some v):LF l (Mine.A.put n v L):=λa w q=>by
 rw [af]
 split
 ·rename_i k;rw [k,e] at q;exact q
 ·exact h a w q
theorem rj{u:List Nat}(hE:LE lA d p nt)(hA:LF lA L)(hv:lk 233 L=some (.c (.str u)))(hQ:HQ d p j due pc ps m H)(hl:pc.length≤10000)(hk:∀m' H',HQ d p j due (pc++if u=[]then []else [bp u]) ps m' H'->K .nxt ⟨L,H',m',false⟩):
  ex gL (S.seq (S.iff (X.loc 233) (S.seq (S.ex (X.meth (X.loc 236) 0 (X.cons (uH 233) X.nil) [])) S.skip) S.skip) S.skip) ⟨L,H,m,false⟩ K:=by
 cases u with
 |nil=>
  refine dC (ad (aa hv (aa (a:=false) rfl (fu rfl (bD (ie (bD ?_)))))))
  exact hk m H (by rw [if_pos rfl,List.append_nil];exact hQ)
 |cons c u=>
  refine dC (ad (aa hv (aa (a:=true) rfl (bV rfl ?_))))
  refine vN (hA 236 _ hE.b) hv hQ hl λH' hQ'=>bD (ie (bD (hk (m+1) H' ?_)))
  rw [if_neg (by simp)];exact hQ'
noncomputable def dd(nt n:Nat)(ps:List (List Nat)):List FV:=(if n=0 then lR nt ps else nE nt ps).map Mine.A.di
noncomputable def Bt(nt:Nat)(ps:List (List Nat)):List FV:=ps.flatMap λq=>bp [nt]::if q=[]then []else [bp q]
noncomputable def LB(nt:Nat):List (List Nat)->List FV
 | []=>[]
 |p::ps=>(if p=[]then []else [bp p])++Bt nt ps
noncomputable def pp(nt n:Nat)(ps:List (List Nat)):List FV:=if n=0 then LB nt ps else Bt nt ps
theorem yJ(hE:LE lA d p nt):∀(qs:List (List Nat)) (n:Nat) (L:List (Nat×V)) (H:List (Nat×AO)) (m:Nat) (due pc:List FV),LF lA L->HQ d p j due pc ps m H->(∀q∈qs,q.length≤1000)->due.length+2*qs.length≤10000->pc.length+2*qs.length≤10000->
  (∀L' H' m',LF lA L'->HQ d p j (due++dd nt n qs) (pc++pp nt n qs) ps m' H'->K .nxt ⟨L',H',m',false⟩)->dM (ex gL na) (dZ [218,233]) (((qs.map FV.str).zipIdx n).map λp=>.tup [.int p.2,p.1]) ⟨L,H,m,false⟩ K:=by
 intro qs
 induction qs with
 |nil=>
  intro n L H m due pc hA hQ _ _ _ hk
  refine lG (hk L H m hA ?_)
  have e1:dd nt n []=[]:=by unfold dd;split<;>rfl
  have e2:pp nt n []=[]:=by unfold pp;split<;>rfl
  rw [e1,e2,List.append_nil,List.append_nil];exact hQ
 |cons u qs ih=>
  intro n L H m due pc hA hQ hu h1 h2 hk
  rw [List.length_cons] at h1 h2
  rw [List.map_cons,List.zipIdx_cons,List.map_cons]
  have hA2:=(hA.skip (n:=218) (.c (.int n)) hE.x).skip (n:=233) (.c (.str u)) hE.y
  have f233:lk 233 (Mine.A.put 233 (.c (.str u)) (Mine.A.put 218 (.c (.int n)) L))=some (.c (.str u)):=(af _ _ _ _).trans (if_pos rfl)
  have f218:lk 218 (Mine.A.put 233 (.c (.str u)) (Mine.A.put 218 (.c (.int n)) L))=some (.c (.int n)):=(af _ _ _ _).trans ((if_neg (by decide)).trans ((af _ _ _ _).trans (if_pos rfl)))
  have hu1:=hu u (.head _)
  have next:∀(due' pc':List FV),due'=due++dd nt n [u]->pc'=pc++pp nt n [u]->∀L' H' m',LF lA L'->HQ d p j due' pc' ps m' H'->dM (ex gL na) (dZ [218,233]) (((qs.map FV.str).zipIdx (n+1)).map λp=>.tup [.int p.2,p.1]) ⟨L',H',m',false⟩ K:=by
   intro due' pc' e1 e2 L' H' m' hA' hQ'
   have l1:(dd nt n [u]).length≤2:=by
    unfold dd;rw [List.length_map]
    by_cases h0:n=0
    ·rw [if_pos h0]
     by_cases hq:u=[]
     ·rw [hq];exact Nat.zero_le _
     ·show((if u=[]then []else [(true,u)])++nE nt []).length≤2
      rw [if_neg hq];exact(by decide:1≤2)
    ·rw [if_neg h0];exact Nat.le_refl 2
   have l2:(pp nt n [u]).length≤2:=by
    unfold pp
    by_cases hq:u=[]
    ·subst hq
     split
     ·exact Nat.zero_le _
     ·exact(by decide:1≤2)
    ·split
     ·show((if u=[]then []else [bp u])++Bt nt []).length≤2
      rw [if_neg hq];exact(by decide:1≤2)
     ·show(bp [nt]::(if u=[]then []else [bp u])++[]).length≤2
      rw [if_neg hq];exact Nat.le_refl 2
   refine ih (n+1) L' H' m' due' pc' hA' hQ' (λq hq=>hu q (.tail _ hq)) (by rw [e1,List.length_append];lia) (by rw [e2,List.length_append];lia) λL2 H2 m2 hA3 hQ3=>hk L2 H2 m2 hA3 ?_
   have k1:dd nt n (u::qs)=dd nt n [u]++dd nt (n+1) qs:=by
    unfold dd
    rw [if_neg (Nat.succ_ne_zero n), ←List.map_append]
    congr 1
    split
    ·show(if u=[]then []else [(true,u)])++nE nt qs=((if u=[]then []else [(true,u)])++[])++nE nt qs
     rw [List.append_nil]
    ·rfl
   have k2:pp nt n (u::qs)=pp nt n [u]++pp nt (n+1) qs:=by
    unfold pp
    rw [if_neg (Nat.succ_ne_zero n)]
    split
    ·show(if u=[]then []else [bp u])++Bt nt qs=((if u=[]then []else [bp u])++[])++Bt nt qs
     rw [List.append_nil]
    ·show(bp [nt]::if u=[]then []else [bp u])++Bt nt qs=((bp [nt]::if u=[]then []else [bp u])++[])++Bt nt qs
     rw [List.append_nil]
   rw [k1,k2, ←List.append_assoc, ←List.append_assoc, ←e1, ←e2];exact hQ3
  refine jM (aa rfl ?_)
  rw [uK]
  refine dC (bL (ad (aa f218 (ci (jX (IQ (aa fE (du (λh=> ?_) λh=> ?_))))))))
  ·have h0:¬n=0:=by have:=of_decide_eq_true h;lia
   refine Cz (hA2 157 _ hE.a) (hA2 217 _ hE.c) f233 hu1 hQ (by lia) λH1 hQ1=> ?_
   have hA3:=hA2.put_same hE.a
   have f233':lk 233 (Mine.A.put 157 (.ob d) (Mine.A.put 233 (.c (.str u)) (Mine.A.put 218 (.c (.int n)) L)))=some (.c (.str u)):=(af _ _ _ _).trans ((if_neg (by decide)).trans f233)
   refine vN (hA3 236 _ hE.b) (hA3 217 _ hE.c) hQ1 (by lia) λH2 hQ2=>bD (ie ?_)
   refine rj hE hA3 f233' hQ2 (by rw [List.length_append,List.length_cons,List.length_nil];lia) λm3 H3 hQ3=> ?_
   refine next _ _ ?_ ?_ _ H3 m3 hA3 hQ3
   ·unfold dd;rw [if_neg h0];rfl
   ·unfold pp;rw [if_neg h0,List.append_assoc]
    show _=pc++((bp [nt]::if u=[]then []else [bp u])++[])
    rw [List.append_nil];rfl
  ·have h0:n=0:=by have:=of_decide_eq_false h;lia
   have hdd:dd nt n [u]=if u=[]then []else [Mine.A.di (true,u)]:=by
    unfold dd;rw [if_pos h0]
    show((if u=[]then []else [(true,u)])++[]).map Mine.A.di=_
    split<;>rfl
   have hpp:pp nt n [u]=if u=[]then []else [bp u]:=by
    unfold pp;rw [if_pos h0]
    show(if u=[]then []else [bp u])++[]=_
    rw [List.append_nil]
   have o0:∀due' H',due'=due++dd nt n [u]->HQ d p j due' pc ps m H'->ex gL (S.seq (S.iff (X.loc 233) (S.seq (S.ex (X.meth (X.loc 236) 0 (X.cons (uH 233) X.nil) [])) S.skip) S.skip) S.skip) ⟨Mine.A.put 233 (.c (.str u)) (Mine.A.put 218 (.c (.int n)) L),H',m,false⟩ (fo (ex gL na) (dZ [218,233]) (((qs.map FV.str).zipIdx (n+1)).map λp=>.tup [.int p.2,p.1]) K):=by
    intro due' H' e hQ'
    refine rj hE hA2 f233 hQ' (by lia) λm3 H3 hQ3=>next _ _ e (by rw [hpp]) _ H3 m3 hA2 hQ3
   cases u with
   |nil=>
    refine dC (ad (aa f233 (aa (a:=false) rfl (fu rfl (bD (ie (bD (ie ?_))))))))
    exact o0 due H (by rw [hdd,if_pos rfl,List.append_nil]) hQ
   |cons c u=>
    refine dC (ad (aa f233 (aa (a:=true) rfl (bV rfl ?_))))
    refine CA (hA2 157 _ hE.a) f233 hQ (by lia) λH' hQ'=>bD (ie (bD (ie ?_)))
    exact o0 _ H' (by rw [hdd,if_neg (by simp)]) hQ'
end
end Mine.A
namespace Mine.A
open Mine.B Mine.Head Mine.P
structure HJ (j:Nat) (ps:List FV) (m:Nat) (H:List (Nat×AO)):Prop where
 lo:lo H=[]
 v:lk j H=some (.lst ps)∨lk j H=some (.frz (.lst ps))
 j6:64≤j
 jm:j<m
theorem HJ.push{j:Nat}{ps:List FV}{m:Nat}{H:List (Nat×AO)}(h:HJ j ps m H)(o:AO):HJ j ps (m+1) ((m,o)::H):=by
 have h1:=h.j6
 have h2:=h.jm
 refine⟨?_,h.v.imp (xV (by lia)).trans (xV (by lia)).trans,h1,by lia⟩
 rw [dt,if_neg (show¬m<64 by lia)];exact h.lo
theorem uf(n:Nat)(x:FV):(List.replicate n [x]).flatten=List.replicate n x:=by
 induction n with
 |zero=>rfl
 |succ n ih=>rw [List.replicate_succ,List.flatten_cons,ih,List.replicate_succ];rfl
section
variable {s:St} {F:V->St->Prop}
theorem qM{x:List Nat}{c:Nat}{g:G}(h1:x.length+2≤16777216)(h:F (.ob s.m) ⟨s.L,(s.m,.lst ((ak c x).map .str))::s.H,s.m+1,s.vl⟩):gZ g (.str x) 6 [.c (.str [c])] [] s F:=by
 have h':ai (sS s.H [.c (.str [c])]) λfs=>xh 6 x fs s F:=aa (a:=[FV.str [c]]) rfl ⟨h1,h⟩
 exact h'
theorem HL{i:Nat}{x:FV}{n:Nat}(h1:lk i s.H=some (.lst [x]))(hn:n≤1000)(h:F (.ob s.m) ⟨s.L,(s.m,.lst (List.replicate n x))::s.H,s.m+1,s.vl⟩):j8 2 (.ob i) (.c (.int (n:Nat))) s F:=by
 refine aa (rq h1) (aa (a:=FV.int (n:Nat)) rfl ?_)
 have k:((-(2 ^ 63:Int)≤(n:Int)∧(n:Int)<2 ^ 63)∧[x].length*(n:Int).toNat≤16777216)∧fg (.lst (List.replicate (n:Int).toNat [x]).flatten) s F:=by
  refine⟨⟨⟨by lia,by lia⟩, ?_⟩, ?_⟩
  ·show 1*_≤_;lia
  ·rw [Int.toNat_natCast,uf];exact h
 exact k
end
section
variable {W:List Nat} {rd sz ch:Nat} {op:Bool} {L:List (Nat×V)} {H:List (Nat×AO)} {m j:Nat} {K:Fl->St->Prop}
theorem JD(nt:Nat)(ps:List (List Nat)):nt=65533->LB nt ps=D2 ps:=by rintro rfl;cases ps<;>rfl
theorem nj{c:Nat}:∀ {l q:List Nat},q∈ak c l->q.length≤l.length
 | [],q,h=>by
  rw [List.mem_singleton.mp (show q∈[[]] from h)];exact Nat.le_refl _
 |x::l,q,h=>by
  obtain⟨a,t,e⟩:=Mine.P.dB c l
  have ih:∀ {q},q∈ak c l->q.length≤l.length:=nj
  by_cases hx:x=c
  ·subst hx
   rw [dn] at h
   cases h with
   |head=>exact Nat.zero_le _
   |tail _ h=>have:=ih h;rw [List.length_cons];lia
  ·rw [fZ hx e] at h
   cases h with
   |head=>have:=ih (q:=a) (by rw [e];exact .head _);rw [List.length_cons,List.length_cons];lia
   |tail _ h=>have:=ih (q:=q) (by rw [e];exact .tail _ h);rw [List.length_cons];lia
noncomputable abbrev mW(W:List Nat):List FV:=(ak 0 (aq W)).map .str
theorem BY{d p:Nat}{Tk out:List FV}{due:List (Bool×List Nat)}{pcs':List FV}(hP:PF W rd op Tk)(hI:LF (lI W op sz ch (.ob j)) L)(hL:LF ((157,.ob d)::(236,.ob p)::l9 W rd out) L)(hR:DP W rd Tk out)(hsz:2≤sz)
  (hQ:HQ d p j (due.map Mine.A.di) pcs' (mW W) m H) (hdue:eR out=due) (hpc:rd=0->pcs'=Tk.filter cx)
  (hK:∀L' H' m',LF (lI W op sz ch (.ob j)) L'->HJ j (mW W) m' H'->K .nxt ⟨L',H',m',false⟩):ex gL uO ⟨L,H,m,false⟩ K:=by
 unfold uO
 have hw:=(hP.t.run rd).1
 have hl1:=f8 (wr rd W)
 have hl2:=ew (wr rd W)
 have hj64:64≤j:=Nat.le_of_not_lt λh=>by
  have:lk j (lo H)=some (.frz (.lst (mW W))):=by rw [gw,if_pos h];exact hQ.fj
  rw [hQ.lo] at this;cases this
 have hJ:HJ j (mW W) m H:=⟨hQ.lo,.inr hQ.fj,hj64,hQ.jm⟩
 have hQ':=hQ.push (.lst ((ak 10 (aq (wr rd W))).map .str))
 refine bE (b6 (kt (kt (ad (aa (hL 327 _ rfl) ?_)))))
 refine⟨⟨rfl,by lia⟩,⟨⟨rfl,by lia⟩, ?_⟩⟩
 refine aa (a:=M.str (aq (wr rd W))) rfl (ah (ci (ay ?_)))
 refine qM (by lia) ?_
 refine BW (q:=m) (lines:=ak 10 (aq (wr rd W))) hP (hI.skip (n:=200) _ rfl) ?_ hR hsz hQ'.lo hQ'.fp hQ'.fd qH hdue rfl hpc λL' h=>hK L' _ _ h (hJ.push _)
 have:=hL.put 200 (.ob m)
 exact .cons (this 157 _ rfl) (.cons (this 200 _ rfl) (.cons (this 236 _ rfl) (.cons (this 262 _ rfl) (.cons (this 327 _ rfl) (.cons (this 267 _ rfl) (.cons (this 160 _ rfl) .nil))))))
noncomputable abbrev lA(W:List Nat)(op:Bool)(sz ch rd j d p:Nat)(out:List FV):List (Nat×V):=(157,.ob d)::(236,.ob p)::(217,.c (.str [ff rd]))::(l9 W rd out++lI W op sz ch (.ob j))
theorem BZ{d p:Nat}{Tk out:List FV}(hP:PF W rd op Tk)(hL:LF (lA W op sz ch rd j d p out) L)(hR:DP W rd Tk out)(hsz:2≤sz)
  (hd:lk d H=some (.lst (List.replicate (jY W) (Mine.A.di (false,fh))))) (hp:lk p H=some (.lst [])) (hJ:HJ j (mW W) m H) (hdm:d<m) (hpm:p<m) (hjd:j<d) (hdp:d<p)
  (hdue:eR out=List.replicate (jY W) (false,fh)++lR (ff rd) (ak 0 (aq W)))
  (hK:∀L' H' m',LF (lI W op sz ch (.ob j)) L'->HJ j (mW W) m' H'->K .nxt ⟨L',H',m',false⟩):ex gL qO ⟨L,H,m,false⟩ K:=by
 have hj6:=hJ.j6
 have hlen:=hP.len
 have hW:=hP.t.len
 have hml:=ew W
 obtain⟨H',hf,hQ⟩:∃H',oY H (.ob j)=some (.lst (mW W),H')∧HQ d p j (List.replicate (jY W) (Mine.A.di (false,fh))) [] (mW W) m H':=by
  rcases hJ.v with h|h
  ·refine⟨put j (.frz (.lst (mW W))) H, ?_,(af _ _ _ _).trans ((if_neg (by lia)).trans hd),(af _ _ _ _).trans ((if_neg (by lia)).trans hp),(af _ _ _ _).trans (if_pos rfl), ?_,hdm,hpm,hJ.jm,by lia,by lia,by lia,by lia,by lia,by lia⟩
   ·show az (lk j H) _=_
    rw [h];rfl
   ·rw [cV (by lia)];exact hJ.lo
  ·refine⟨H, ?_,hd,hp,h,hJ.lo,hdm,hpm,hJ.jm,by lia,by lia,by lia,by lia,by lia,by lia⟩
   show az (lk j H) _=_
   rw [h];rfl
 unfold qO
 refine Be (hL 234 _ rfl) hf ?_
 have hn:(ak 0 (aq W)).length≤46:=by
  have:=(kj 0 (aq W)).1
  have:=List.count_le_length (a:=0) (l:=aq W)
  lia
 refine yJ (nt:=ff rd) (lA:=lA W op sz ch rd j d p out) (d:=d) (p:=p) (j:=j) (ps:=mW W) ⟨rfl,rfl,rfl,rfl,rfl⟩ (ak 0 (aq W)) 0 L H' m _ [] hL hQ (λq hq=>by have:=nj hq;lia) (by rw [List.length_replicate];lia) (by rw [List.length_nil];lia) λL' H2 m2 hL' hQ'=>ie ?_
 have e:List.replicate (jY W) (Mine.A.di (false,fh))++dd (ff rd) 0 (ak 0 (aq W))=(List.replicate (jY W) (false,fh)++lR (ff rd) (ak 0 (aq W))).map Mine.A.di:=by
  rw [List.map_append,List.map_replicate];rfl
 rw [e] at hQ'
 refine BY hP ?_ ?_ hR hsz hQ' hdue (λh0=> ?_) hK
 ·exact .cons (hL' 311 _ rfl) (.cons (hL' 270 _ rfl) (.cons (hL' 223 _ rfl) (.cons (hL' 296 _ rfl) (.cons (hL' 127 _ rfl) (.cons (hL' 173 _ rfl) (.cons (hL' 234 _ rfl) .nil))))))
 ·exact .cons (hL' 157 _ rfl) (.cons (hL' 236 _ rfl) (.cons (hL' 262 _ rfl) (.cons (hL' 327 _ rfl) (.cons (hL' 267 _ rfl) (.cons (hL' 160 _ rfl) .nil)))))
 ·rw [hP.p h0]
  subst h0
  exact JD _ _ rfl
theorem B0{Tk out:List FV}(hP:PF W rd op Tk)(hI:LF (lI W op sz ch (.ob j)) L)(hL:LF (l9 W rd out) L)(hR:DP W rd Tk out)(hsz:2≤sz)(hJ:HJ j (mW W) m H)
  (hdue:eR out=List.replicate (jY W) (false,fh)++lR (ff rd) (ak 0 (aq W)))
  (hK:∀L' H' m',LF (lI W op sz ch (.ob j)) L'->HJ j (mW W) m' H'->K .nxt ⟨L',H',m',false⟩):ex gL uR ⟨L,H,m,false⟩ K:=by
 have hj:=hJ.jm
 have hj6:=hJ.j6
 have hlen:=hP.len
 have key:ex gL uQ ⟨put 217 (.c (.str [ff rd])) L,H,m,false⟩ K:=by
  unfold uQ
  have hI1:=hI.skip (n:=217) (.c (.str [ff rd])) rfl
  refine bE (dJ (gX (ah (gr (ah (ci (ah (ci (ay ?_)))))))))
  refine aa (a:=([.str JV,.str fh],H)) rfl (bV rfl (ay ?_))
  refine aa (a:=([Mine.A.di (false,fh)],H)) rfl (bV rfl (sb ?_))
  refine ad (aa (hI1 173 _ rfl) ?_)
  refine HL (s:=⟨put 217 (.c (.str [ff rd])) L,(m,.lst [Mine.A.di (false,fh)])::H,m+1,false⟩) qH (by lia) ?_
  show ex gL uP ⟨put 157 (.ob (m+1)) (put 217 (.c (.str [ff rd])) L),(m+1,.lst (List.replicate (jY W) (Mine.A.di (false,fh))))::(m,.lst [Mine.A.di (false,fh)])::H,m+2,false⟩ K
  unfold uP
  refine bE (gX (ay ?_))
  refine aa (a:=([],(m+1,.lst (List.replicate (jY W) (Mine.A.di (false,fh))))::(m,.lst [Mine.A.di (false,fh)])::H)) rfl (bV rfl (sb ?_))
  show ex gL qO ⟨put 236 (.ob (m+2)) (put 157 (.ob (m+1)) (put 217 (.c (.str [ff rd])) L)),(m+2,.lst [])::(m+1,.lst (List.replicate (jY W) (Mine.A.di (false,fh))))::(m,.lst [Mine.A.di (false,fh)])::H,m+3,false⟩ K
  refine BZ (d:=m+1) (p:=m+2) hP ?_ hR hsz ((xV (by lia)).trans qH) qH (((hJ.push _).push _).push _) (by lia) (by lia) (by lia) (by lia) hdue hK
  have hI4:=((hI1.skip (n:=157) (.ob (m+1)) rfl).skip (n:=236) (.ob (m+2)) rfl)
  have hL4:=(((hL.skip (n:=217) (.c (.str [ff rd])) rfl).skip (n:=157) (.ob (m+1)) rfl).skip (n:=236) (.ob (m+2)) rfl)
  refine .cons ?_ (.cons ?_ (.cons ?_ ?_))
  ·exact(af _ _ _ _).trans ((if_neg (by decide)).trans ((af _ _ _ _).trans (if_pos rfl)))
  ·exact(af _ _ _ _).trans (if_pos rfl)
  ·exact(af _ _ _ _).trans ((if_neg (by decide)).trans ((af _ _ _ _).trans ((if_neg (by decide)).trans ((af _ _ _ _).trans (if_pos rfl)))))
  ·exact .cons (hL4 262 _ rfl) (.cons (hL4 327 _ rfl) (.cons (hL4 267 _ rfl) (.cons (hL4 160 _ rfl) hI4)))
 unfold uR
 refine bE (FJ (bL (ad (aa (hL 262 _ rfl) (ci (jX (w5 (aa fE (du (λh=> ?_) λh=> ?_)))))))))
 ·have h4:ff rd=0:=if_pos (by have:=of_decide_eq_true h;lia)
  rw [h4] at key
  exact ci key
 ·have h4:ff rd=65533:=if_neg (by have:=of_decide_eq_false h;lia)
  rw [h4] at key
  exact ci key
theorem B1(hT:Txt W)(hrd:rd≤4)(hsz:2≤sz)(hI:LF (lI W op sz ch (.ob j)) L)(h262:lk 262 L=some (.c (.int (rd:Nat))))(hJ:HJ j (mW W) m H)
  (hK:∀L' H' m',LF (lI W op sz ch (.ob j)) L'->HJ j (mW W) m' H'->K .nxt ⟨L',H',m',false⟩):ex gL qP ⟨L,H,m,false⟩ K:=by
 obtain⟨Tk,hP⟩:=Fp hT hrd op
 have hlen:=hP.len
 have h311:=hI 311 _ rfl
 have h270:=hI 270 _ rfl
 unfold qP
 refine bE (gv (gX (ah (ad (aa h311 (ah (ad (aa h311 (ah (ad (aa h311 (ah (ad (aa h270 (ah (kt (ad (aa h270 ?_))))))))))))))))))
 refine⟨⟨rfl,by have:=(hT.run 3).1;lia⟩,ay ?_⟩
 refine aa (a:=([.str W,.str W,.str W,.str (wr 3 W),.str (ba [60] [38,108,116,59] 0 (wr 3 W))],H)) rfl (bV rfl (sb ?_))
 rw [Bo]
 refine ad (aa h262 ?_)
 have hx:d7 [FV.str W,.str W,.str W,.str (wr 3 W),.str (wr 4 W)] ((rd:Nat):Int)=some (.str (wr rd W)):=by
  match rd,hrd with
  |0,_=>exact congrArg (λx=>some (FV.str x)) (gN (rd:=0) (by decide) W).symm
  |1,_=>exact congrArg (λx=>some (FV.str x)) (gN (rd:=1) (by decide) W).symm
  |2,_=>exact congrArg (λx=>some (FV.str x)) (gN (rd:=2) (by decide) W).symm
  |3,_=>rfl
  |4,_=>rfl
 refine je qH hx ?_
 show ex gL uS ⟨put 327 (.c (.str (wr rd W))) L,(m,.lst [.str W,.str W,.str W,.str (wr 3 W),.str (wr 4 W)])::H,m+1,false⟩ K
 have hJ1:=hJ.push (.lst [.str W,.str W,.str W,.str (wr 3 W),.str (wr 4 W)])
 have hI1:=hI.skip (n:=327) (.c (.str (wr rd W))) rfl
 have f327:lk 327 (put 327 (.c (.str (wr rd W))) L)=some (.c (.str (wr rd W))):=(af _ _ _ _).trans (if_pos rfl)
 have f262:lk 262 (put 327 (.c (.str (wr rd W))) L)=some (.c (.int (rd:Nat))):=(af _ _ _ _).trans ((if_neg (by decide)).trans h262)
 unfold uS
 refine t7 (il (ah (ad (aa f327 (ah (ad (aa f262 (ah (ad (aa (hI1 223 _ rfl) (ah (ci (ay ?_)))))))))))))
 refine va (s:=⟨put 327 (.c (.str (wr rd W))) L,(m,.lst [.str W,.str W,.str W,.str (wr 3 W),.str (wr 4 W)])::H,m+1,false⟩) (sz:=0) hJ1.lo (hT.run rd) hrd (.inl rfl) hP.k (by rw [hT.errs];lia) λout ho=> ?_
 obtain⟨hR,hdue⟩:=t9 hP ho
 refine El rfl (pV (pV (zL ?_)))
 refine B0 (out:=out) hP ((hI1.skip (n:=267) _ rfl).skip (n:=160) _ rfl) ?_ hR hsz hJ1 (hdue rfl) hK
 refine .cons ?_ (.cons ?_ (.cons ?_ (.cons ?_ .nil)))
 ·exact(af _ _ _ _).trans ((if_neg (by decide)).trans ((af _ _ _ _).trans ((if_neg (by decide)).trans f262)))
 ·exact(af _ _ _ _).trans ((if_neg (by decide)).trans ((af _ _ _ _).trans ((if_neg (by decide)).trans f327)))
 ·exact(af _ _ _ _).trans ((if_neg (by decide)).trans ((af _ _ _ _).trans (if_pos rfl)))
 ·exact(af _ _ _ _).trans (if_pos rfl)
theorem u7(hT:Txt W)(hsz:2≤sz):∀(l:List FV) (L:List (Nat×V)) (H:List (Nat×AO)) (m:Nat),(∀x∈l,∃rd:Nat,rd≤4∧x=.int rd)->LF (lI W op sz ch (.ob j)) L->HJ j (mW W) m H->
  (∀L' H' m',LF (lI W op sz ch (.ob j)) L'->HJ j (mW W) m' H'->K .nxt ⟨L',H',m',false⟩)->dM (ex gL qP) (dZ [262]) l ⟨L,H,m,false⟩ K:=by
 intro l
 induction l with
 |nil=>
  intro L H m _ hI hJ hK
  exact lG (hK L H m hI hJ)
 |cons x l ih=>
  intro L H m hx hI hJ hK
  obtain⟨rd,hrd,rfl⟩:=hx _ (.head _)
  refine jM (aa rfl ?_)
  exact B1 hT hrd hsz (hI.skip (n:=262) _ rfl) ((af _ _ _ _).trans (if_pos rfl)) hJ λL' H' m' hI' hJ'=>ih L' H' m' (λy hy=>hx y (.tail _ hy)) hI' hJ' hK
end
end Mine.A
namespace Mine.A
open Mine.B Mine.Head Mine.P
theorem Eo{H:List (Nat×AO)}{i:Nat}{l:List FV}(h:lk i H=some (.lst l)):av H (.ob i)=some (cg l):=by
 show az (lk i H) _=_
 rw [h];rfl
theorem Ah{H:List (Nat×AO)}{L:List (Nat×V)}{m i:Nat}{vl:Bool}{l:List FV}(h:lk i H=some (.lst l)):vd (.ob i) ⟨L,H,m,vl⟩=some (l,⟨L,put i (.frz (.lst l)) H,m,vl⟩):=by
 show az (lk i H) (J4 i _)=_
 rw [h];rfl
noncomputable def iX(n:Nat):FV:=.int (n:Int)
section
variable {s:St} {F:V->St->Prop}
theorem ww{a b:Nat}(hb:Builtin.divisionGoesByPylong (a:Int) (b:Int)=false)(h0:b≠0)(h:F (.c (.int ((a / b:Nat):Int))) s):j8 3 (.c (.int (a:Int))) (.c (.int (b:Int))) s F:=by
 rw [Int.ofNat_fdiv] at h
 have h2:(((b:Int)≠0)∧Builtin.divisionGoesByPylong (a:Int) (b:Int)=false)∧F (.c (.int (Int.fdiv a b))) s:=⟨⟨by lia,hb⟩,h⟩
 exact h2
theorem rz{a:Int}{b:Nat}(hb:Builtin.divisionGoesByPylong a (b:Int)=false)(h0:b≠0)(h:F (.c (.int (Int.fmod a b))) s):j8 4 (.c (.int a)) (.c (.int (b:Int))) s F:=by
 have h2:(((b:Int)≠0)∧Builtin.divisionGoesByPylong a (b:Int)=false)∧F (.c (.int (Int.fmod a b))) s:=⟨⟨by lia,hb⟩,h⟩
 exact h2
end
theorem oy(c:Int)(b:Nat)(hb:b<100000):Builtin.divisionGoesByPylong c (b:Int)=false:=by
 unfold Builtin.divisionGoesByPylong
 dsimp only
 have:decide ((if((b:Int)==0)=true then 0 else(b:Int).natAbs.log2 / 30+1)>300)=false:=by
  apply decide_eq_false
  have h1:(b:Int).natAbs=b:=Int.natAbs_natCast b
  have h2:b.log2<17:=by
   rcases Nat.eq_zero_or_pos b with e|e
   ·rw [e];decide
   ·exact(Nat.log2_lt (by lia)).mpr (Nat.lt_of_lt_of_le hb (by decide))
  rw [h1]
  split<;>lia
 rw [this,Bool.false_and]
theorem vc(ps:List (List Nat)):dK [] (ps.map FV.str)=some ps.flatten:=by
 induction ps with
 |nil=>rfl
 |cons p ps ih=>
  show(Option.rec none (λr=>some (List.rec (motive:=λ_=>List Nat) p (λ_ _ _=>p++[]++r) (ps.map FV.str))) (dK [] (ps.map .str)):Option (List Nat))=_
  rw [ih]
  cases ps with
  |nil=>show some p=some (p++[]);rw [List.append_nil]
  |cons q ps=>show some (p++[]++_)=_;rw [List.append_nil];rfl
noncomputable def nh(f:FV):Bool:=Mine.A.ob (aCh f) λc=>decide (c∈[1,127,64976,65534])
theorem yu(W:List Nat):((W.map λc=>FV.str [c]).filter nh).length=jY W:=by
 unfold jY
 induction W with
 |nil=>rfl
 |cons c W ih=>
  rw [List.map_cons]
  have e:nh (.str [c])=decide (c∈[1,127,64976,65534]):=rfl
  cases q:decide (c∈[1,127,64976,65534])with
  |true=>rw [List.filter_cons_of_pos (by rw [e];exact q),List.filter_cons_of_pos (by exact q),List.length_cons,List.length_cons,ih]
  |false=>rw [List.filter_cons_of_neg (by rw [e,q];decide),List.filter_cons_of_neg (by rw [q];decide),ih]
theorem Gs:eU=.c (.lst (uk.map .str)):=rfl
theorem Cb{α:Type}(l:List α)(n:Nat):d7 l (n:Int)=l[n]? :=by
 unfold d7
 rw [decide_eq_true (show(0:Int)≤n by lia)]
 show l[(n:Int).toNat]? =_
 rw [Int.toNat_natCast]
theorem xH(n:Nat):d7 (uk.map FV.str) (Int.fmod (n:Int) (32:Nat))=some (.str (rV n)):=by
 rw [←Int.ofNat_fmod]
 have h:n % 32<uk.length:=Nat.mod_lt _ (by decide)
 rw [Cb,List.getElem?_map,List.getElem?_eq_getElem h]
 unfold rV
 rw [List.getD_eq_getElem?_getD,List.getElem?_eq_getElem h];rfl
section
variable {sc:List Int} {L:List (Nat×V)} {H:List (Nat×AO)} {m i:Nat} {K:Fl->St->Prop}
theorem x8{W:List Nat}{op:Bool}{sz ch:Nat}(hT:Txt W)(hsz:2≤sz)(hL:LF [(223,.c (.bol op)),(296,.c (.int (sz:Nat))),(127,.c (.int (ch:Nat))),(311,.c (.str W))] L)(hlo:lo H=[])(hm:64≤m)
  (hK:∀L' H' m',lo H'=[]->K (.ret (.c (.bol true))) ⟨L',H',m',false⟩):ex gL x9 ⟨L,H,m,false⟩ K:=by
 have hW:=hT.len
 unfold Mine.A.x9
 refine bE (kt (ad (aa (hL 311 _ rfl) ?_)))
 refine⟨⟨rfl,by lia⟩, ?_⟩
 rw [Bp]
 have hL1:=hL.skip (n:=270) (.c (.str (wr 3 W))) rfl
 unfold FU
 refine bE (ur (ah (qB (ad (aa (hL1 311 _ rfl) ?_)))))
 refine aa (a:=(W.map λx=>.str [x],⟨put 270 (.c (.str (wr 3 W))) L,H,m,false⟩)) rfl ?_
 refine lv nh id (W.map λx=>.str [x]) [] _ (λx hx F hF=> ?_) (λx hx _ F hF=>ad (aa rfl hF)) (by rw [List.length_nil,List.length_map];lia) λL'=> ?_
 ·obtain⟨c,_,rfl⟩:=List.mem_map.mp hx
  refine bL (ad (aa rfl (gr (ah (ci (ah (ci (ah (ci (ah (ci (ay ?_))))))))))))
  refine aa (a:=([.str [1],.str [127],.str [64976],.str [65534]],H)) rfl (bV rfl (jX ?_))
  exact w4 (l:=[.str [1],.str [127],.str [64976],.str [65534]]) rfl hF
 rw [List.nil_append,List.map_id]
 refine ay (Ap qH ?_)
 rw [yu]
 show ex gL BX ⟨put 173 (.c (.int (jY W:Nat))) (put 270 (.c (.str (wr 3 W))) L),(m,.lst ((W.map λx=>.str [x]).filter nh))::H,m+1,false⟩ K
 have hL2:=hL1.skip (n:=173) (.c (.int (jY W:Nat))) rfl
 unfold BX
 have hl1:=f8 W
 have hl2:=ew W
 refine bE (b6 (kt (kt (ad (aa (hL2 311 _ rfl) ?_)))))
 refine⟨⟨rfl,by lia⟩,⟨⟨rfl,by lia⟩, ?_⟩⟩
 refine aa (a:=M.str (aq W)) rfl (ah (ci (ay ?_)))
 refine qM (by lia) ?_
 show ex gL BV ⟨put 234 (.ob (m+1)) (put 173 (.c (.int (jY W:Nat))) (put 270 (.c (.str (wr 3 W))) L)),(m+1,.lst (mW W))::(m,.lst ((W.map λx=>.str [x]).filter nh))::H,m+2,false⟩ K
 unfold BV
 refine Bd ⟨by decide, ?_⟩
 have hL3:=hL2.skip (n:=234) (.ob (m+1)) rfl
 refine u7 (W:=W) (op:=op) (sz:=sz) (ch:=ch) (j:=m+1) hT hsz _ _ _ _ (λx hx=> ?_) ?_ ⟨?_,.inl qH,by lia,by lia⟩ λL' H' m' _ hJ=> ?_
 ·obtain⟨k,hk,rfl⟩:=List.mem_map.mp hx
  have hk:=List.mem_range.mp hk
  exact⟨k,by have:(5:Int).toNat=5:=rfl;lia,by rw [Int.zero_add]⟩
 ·refine .cons (hL3 311 _ rfl) (.cons ?_ (.cons (hL3 223 _ rfl) (.cons (hL3 296 _ rfl) (.cons (hL3 127 _ rfl) (.cons ?_ (.cons ?_ .nil))))))
  ·exact(af _ _ _ _).trans ((if_neg (by decide)).trans ((af _ _ _ _).trans ((if_neg (by decide)).trans ((af _ _ _ _).trans (if_pos rfl)))))
  ·exact(af _ _ _ _).trans ((if_neg (by decide)).trans ((af _ _ _ _).trans (if_pos rfl)))
  ·exact(af _ _ _ _).trans (if_pos rfl)
 ·rw [dt,if_neg (show¬m+1<64 by lia),dt,if_neg (show¬m<64 by lia)];exact hlo
 ·unfold FT
  exact ie (iI (ci (hK L' H' m' hJ.lo)))
theorem uU{ns:List Nat}(hns:∃a l,ns=a::l∧a<6400∧l.length≤4)(hT:Txt (ns.map rV).flatten)(hL:LF [(219,.ob i)] L)(hi:lk i H=some (.lst (ns.map iX)))(hlo:lo H=[])(hi6:64≤i)(him:i<m)
  (hK:∀L' H' m',lo H'=[]->K (.ret (.c (.bol true))) ⟨L',H',m',false⟩):ex gL oH ⟨L,H,m,false⟩ K:=by
 obtain⟨n0,l0,rfl,h0,hl0⟩:=hns
 have h219:=hL 219 _ rfl
 have hx:d7 ((n0::l0).map iX) 0=some (.int (n0:Int)):=rfl
 unfold Mine.A.oH
 refine bE (bL (dJ (dJ (gv (ad (aa h219 (ci (je hi hx (ci (ww (b:=32) (oy _ _ (by decide)) (by decide) (ci (rz (b:=2) (oy _ _ (by decide)) (by decide) (ci (jX (w5 ?_)))))))))))))))
 have e1:decide (Int.fmod ((n0 / 32:Nat):Int) (2:Nat)=1)=decide (n0 / 32 % 2=1):=by
  rw [←Int.ofNat_fmod];exact decide_eq_decide.mpr (by lia)
 have e1':decide (Int.fmod ((n0 / 32:Nat):Int) 2=1)=decide (n0 / 32 % 2=1):=e1
 rw [e1]
 have hL1:=hL.skip (n:=223) (.c (.bol (decide (n0 / 32 % 2=1)))) rfl
 unfold FY
 refine bE (dJ (ci (dJ (dJ (gv (ad (aa (hL1 219 _ rfl) (ci (je hi hx (ci (ww (b:=64) (oy _ _ (by decide)) (by decide) (ci (rz (b:=20) (oy _ _ (by decide)) (by decide) (K2 ?_))))))))))))))
 have e2:2+Int.fmod ((n0 / 64:Nat):Int) (20:Nat)=((2+n0 / 64 % 20:Nat):Int):=by
  rw [←Int.ofNat_fmod];lia
 rw [e2]
 have hL2:=hL1.skip (n:=296) (.c (.int ((2+n0 / 64 % 20:Nat):Int))) rfl
 unfold FX
 refine bE (dJ (gv (ad (aa (hL2 219 _ rfl) (ci (je hi hx (ci (ww (b:=1280) (oy _ _ (by decide)) (by decide) ?_))))))))
 have hL3:=hL2.skip (n:=127) (.c (.int ((n0 / 1280:Nat):Int))) rfl
 unfold FW
 refine bE (b6 (ci ?_))
 refine aa (a:=M.str []) rfl ?_
 refine ah (qB (ad (aa (hL3 219 _ rfl) (aa (Ah hi) ?_))))
 refine lv (λ_=>true) (λf=>Option.rec .non (λn=>.str (rV n.toNat)) (aI f)) ((n0::l0).map iX) [] _ (λx hx F hF=>ci hF) (λx hx _ F hF=> ?_) (by rw [List.length_nil,List.length_map,List.length_cons];lia) λL'=> ?_
 ·obtain⟨n,_,rfl⟩:=List.mem_map.mp hx
  have hF:F (.c (.str (rV n))) ⟨[(213,.c (iX n))],put i (.frz (.lst ((n0::l0).map iX))) H,m,false⟩:=hF
  refine gv (eg (dJ (ad (aa rfl (ci (rz (a:=(n:Int)) (b:=32) (oy _ _ (by decide)) (by decide) ?_))))))
  rw [Gs]
  have h2:ai (d7 (uk.map FV.str) (Int.fmod (n:Int) (32:Nat))) λr=>F (.c r) ⟨[(213,.c (iX n))],put i (.frz (.lst ((n0::l0).map iX))) H,m,false⟩:=aa (xH n) hF
  exact h2
 have ef:(((n0::l0).map iX).filter λ_=>true).map (λf=>Option.rec .non (λn=>FV.str (rV n.toNat)) (aI f))=((n0::l0).map rV).map FV.str:=by
  rw [List.filter_eq_self.mpr λ_ _=>rfl,List.map_map,List.map_map];rfl
 rw [ef,List.nil_append]
 have hlen:=hT.len
 refine ay (BR (Ax qH) (vc _) (Nat.ble_eq_true_of_le ?_) ?_)
 ·rw [List.length_nil,Nat.mul_zero];lia
 have hL4:=hL3.skip (n:=311) (.c (.str ((n0::l0).map rV).flatten)) rfl
 show ex gL x9 ⟨put 311 (.c (.str ((n0::l0).map rV).flatten)) (put 127 (.c (.int ((n0 / 1280:Nat):Int))) (put 296 (.c (.int ((2+n0 / 64 % 20:Nat):Int))) (put 223 (.c (.bol (decide (n0 / 32 % 2=1)))) L))),(m,.lst (((n0::l0).map rV).map .str))::put i (.frz (.lst ((n0::l0).map iX))) H,m+1,false⟩ K
 refine x8 (op:=decide (n0 / 32 % 2=1)) (sz:=2+n0 / 64 % 20) (ch:=n0 / 1280) hT (by lia) ?_ ?_ (by lia) hK
 ·refine .cons ?_ (.cons ?_ (.cons ?_ (.cons ?_ .nil)))
  ·exact(af _ _ _ _).trans ((if_neg (by decide)).trans ((af _ _ _ _).trans ((if_neg (by decide)).trans ((af _ _ _ _).trans ((if_neg (by decide)).trans ((af _ _ _ _).trans (if_pos rfl)))))))
  ·exact(af _ _ _ _).trans ((if_neg (by decide)).trans ((af _ _ _ _).trans ((if_neg (by decide)).trans ((af _ _ _ _).trans (if_pos rfl)))))
  ·exact(af _ _ _ _).trans ((if_neg (by decide)).trans ((af _ _ _ _).trans (if_pos rfl)))
  ·exact(af _ _ _ _).trans (if_pos rfl)
 ·rw [dt,if_neg (show¬m<64 by lia),cV (by lia)];exact hlo
theorem FS(hK:∀L' H' m',lo H'=[]->K (.ret (.c (.bol true))) ⟨L',H',m',false⟩):ex gL uV ⟨[(272,.c (.lst (sc.map .int)))],[],64,false⟩ K:=by
 have hT:=Ek sc
 have hn:=qD sc
 unfold uV
 refine bE (xP (qB (FI (ad (aa rfl (ci (ci ?_)))))))
 have hs:slice (sc.map FV.int) none (some 5)=(sc.take 5).map .int:=by
  show((sc.map FV.int).take (bnd (sc.map FV.int).length ((5:Nat):Int))).drop 0=_
  rw [gc,List.drop_zero, ←List.map_take,List.length_map]
  congr 1
  rw [List.take_eq_take_iff];lia
 have h2:fg (.lst (slice (sc.map FV.int) none (some 5))) ⟨[(272,.c (.lst (sc.map .int)))],[],64,false⟩ (λv s=>ai (vd v s) λr=>wL 213 (ev gL (X.k (.bol true))) (ev gL (X.bin 4 (X.loc 213) (X.k (.int 6400)))) r.1 [] (cj r.2 []) λv s'=>(λa s=>ai (av s.H a) λt=>br t (ex gL oH (cj s (put 219 a s.L)) K) (ev gL (X.lst (X.cons (X.k (.int (1))) (X.cons (X.k (.int (5))) (X.cons (X.k (.int (16))) X.nil)))) s (one λv s=>ex gL oH (cj s (put 219 v s.L)) K))) v (cj s' s.L))->xm (.c (.lst (sc.map .int))) (.c .non) (.c (.int 5)) ⟨[(272,.c (.lst (sc.map .int)))],[],64,false⟩ (λv s=>ai (vd v s) λr=>wL 213 (ev gL (X.k (.bol true))) (ev gL (X.bin 4 (X.loc 213) (X.k (.int 6400)))) r.1 [] (cj r.2 []) λv s'=>(λa s=>ai (av s.H a) λt=>br t (ex gL oH (cj s (put 219 a s.L)) K) (ev gL (X.lst (X.cons (X.k (.int (1))) (X.cons (X.k (.int (5))) (X.cons (X.k (.int (16))) X.nil)))) s (one λv s=>ex gL oH (cj s (put 219 v s.L)) K))) v (cj s' s.L)):=λh=>h
 refine h2 (sb ?_)
 rw [hs]
 refine aa (Ah qH) ?_
 refine lv (λ_=>true) (λf=>Option.rec .non (λn=>iX (Int.fmod n 6400).toNat) (aI f)) ((sc.take 5).map .int) [] _ (λx hx F hF=>ci hF) (λx hx _ F hF=> ?_) (by rw [List.length_nil,List.length_map,List.length_take];lia) λL'=> ?_
 ·obtain⟨n,_,rfl⟩:=List.mem_map.mp hx
  refine dJ (ad (aa rfl (ci (rz (a:=n) (b:=6400) (oy _ _ (by decide)) (by decide) ?_))))
  have e:((Int.fmod n 6400).toNat:Int)=Int.fmod n (6400:Nat):=Int.toNat_of_nonneg (Int.fmod_nonneg_of_pos n (by decide))
  rw [←e];exact hF
 have ef:(((sc.take 5).map FV.int).filter λ_=>true).map (λf=>Option.rec .non (λn=>iX (Int.fmod n 6400).toNat) (aI f))=((sc.take 5).map λn=>(Int.fmod n 6400).toNat).map iX:=by
  rw [List.filter_eq_self.mpr λ_ _=>rfl,List.map_map,List.map_map];rfl
 rw [ef,List.nil_append]
 refine aa (Eo qH) (du (λh=> ?_) λh=> ?_)
 ·have hne:sc.take 5≠[]:=λq=>by rw [q] at h;cases h
  have en:uu sc=(sc.take 5).map λn=>(Int.fmod n 6400).toNat:=if_neg hne
  rw [←en]
  unfold IG at hT
  refine uU (i:=65) (m:=66) hn hT ?_ qH ?_ (by decide) (by decide) hK
  ·exact .cons rfl .nil
  ·rfl
 ·have hne:sc.take 5=[]:=by
   cases q:sc.take 5 with
   |nil=>rfl
   |cons a l=>rw [q] at h;cases h
  have en:uu sc=[1,5,16]:=if_pos hne
  rw [hne]
  unfold IG at hT
  rw [en] at hT hn
  refine gX (ah (ci (ah (ci (ah (ci (ay ?_)))))))
  refine aa (a:=([.int 1,.int 5,.int 16],_)) rfl (bV rfl (sb ?_))
  refine uU (i:=66) (m:=67) (ns:=[1,5,16]) hn hT ?_ qH ?_ (by decide) (by decide) hK
  ·exact .cons rfl .nil
  ·rfl
end
end Mine.A
namespace Mine.A
open Mine.B Mine.Head Mine.P
section
variable {c:Cx} {g:G} {loose:List PySem.Str} {mg mb:PySem.Str->Option Value} {d:Nat}
theorem y9(T:TopRead c.prog loose mg mb c.base){fa:Addr}{o:Obj}{fd:FuncData}{body:List Stmt}{x:S}{kws:List Nat}{L0:List (Nat×V)}
  (hk:fd.scope.kind=.function) (hg:fd.globals=mainGlobals) (hb:fd.builtins=builtinsNs) (hco:fd.scope.isCoroutine=false) (hgen:fd.scope.isGenerator=false)
  (ho:c.base.get? fa=some o) (hdata:o.data=.func fd) (hbody:fd.body=.stmts body) (hcd:c.base.CodeRec fd.code fd.qualname) (hcell:∀x∈fd.scope.names,x.2≠ .cell)
  {gh:Gh} {H:List (Nat×AO)} {s:Shared} {A:Around} {vs:List Value} {k:V->List (Nat×AO)->Prop} {R:Result->Shared->Prop}
  (r:i5 c gh H {s with toks:=1}) (rm:bG (d+1) A)
  (hbind:∃bs,BindsTo s fd (cn c vs kws) bs∧(∀x∈bs,fd.scope.names.lookup x.1=some .local)∧∀n v,lk n L0=some v->∃u,bs.reverse.lookup (c.nm n)=some u∧RV c.prog c.w gh u v) (hne:∃n v,lk n L0=some v)
  (hS:∀L gh σ s A k Q,al c gh L σ s->bG d A->ex g x σ k->(∀gh' Z' s' a y,a8 false L gh s gh' s'->al c gh' L Z' s'->RL c.prog c.w gh' a y->k y Z'->Q a s')->wpAny (model c.prog c.w) A (execs body (callEnv fd L fa)) Q bM s)
  (hex:ex g x ⟨L0,H,64,false⟩ (fin k))
  (hp:∀gh' s' v y H',tf false gh s gh' s'->i5 c gh' H' s'->RV c.prog c.w gh' v y->k y H'->R (.ok (.ret v)) s'):codeAny (model c.prog c.w) A (.call (.ref fa) (cn c vs kws)) R s:=by
 have kb:∀a o,c.base.get? a=some o->s.heap.get? a=some o:=λa o e=>r.frz a o (r.base a o e)
 obtain⟨bs,hB,hloc,hlk⟩:=hbind
 have hbs:0<bs.length:=by
  obtain⟨n,v,e⟩:=hne
  obtain⟨u,e2,_⟩:=hlk n v e
  cases bs with
  |nil=>cases e2
  |cons _ _=>exact Nat.succ_pos _
 refine codeAny_call_def (body:=body) (by have:=rm.dep;lia) (kb _ _ ho) hdata (T.nolimit.keeps kb) ?_ hbody hB hcell hloc (λh₀ hn hx=> ?_) hco hgen hk
 ·obtain⟨cc,oc,vs',t,e1,e2,e3,e4⟩:=hcd
  exact⟨cc,oc,vs',t,e1,kb _ _ e2,e3,e4⟩
 ·have r0:=r.enter (L0:=L0) (tk:=s.toks+bs.length) (by lia) hn hx hlk
  refine wpAny_mono (hS _ gh _ _ _ (fin k) _ r0 ⟨rm.hd,by have:=rm.dep;show A.depth+1+d<_;lia,by have:=rm.un;show A.units+3+16*d+64<_;lia⟩ hex λgh' Z' s' a y x' r' hl hk=> ?_) (λ_ _ h=>h) λ_ _ h=>h.elim
  obtain⟨p,e1,hk⟩:=ab hk
  obtain⟨hb2,hk⟩:=sX hk
  ·rw [Bool.and_eq_true] at hb2
   obtain⟨gh2,x2,r2,hv2⟩:=qu r' (wH hl) e1
   obtain⟨x3,r3⟩:=r.leave hx (x'.trans r0 r' x2) r2 hb2.2
   have x3:tf false gh s gh2.low s':=by rw [Bool.or_false] at x3;exact⟨x3.le,x3.keep,x3.fp,x3.fF,x3.gens,x3.os,x3.drawn⟩
   exact hp _ s' _ p.1 _ x3 r3 (jW hv2 hb2.1) hk
end
theorem re(P:Params):dQ P 784 [272] uV:=show _=_ by kernel_rfl!
theorem Cc(P:Params):cB cp (fd P 784).scope 60 (a7 (fd P 784))=uV:=congrArg (λp=>p.1.1) (re P)
section
variable {w:World} {mg mb:PySem.Str->Option Value}
theorem IX(T:TopRead pw loose mg mb (H1 w.params)):gB (Mine.B.C w) gL (K w.params) cp loose mg mb 31:=eI T λp hp=>by
 cases hp with
 |head=>exact HC T
 |tail _ hp=>cases hp with
  |head=>exact(wk T).mono (by decide)
  |tail _ hp=>cases hp with
   |head=>exact(wl T).mono (by decide)
   |tail _ hp=>cases hp
theorem B4(T:TopRead pw loose mg mb (H1 w.params)){s:Shared}{v:Value}{sc:List Int}{A:Around}(rm:bG 33 A)(hb:∀a o,(H1 w.params).get? a=some o->s.heap.get? a=some o)(hv:RF pw w s.heap.get? v (.lst (sc.map .int))){R:Result->Shared->Prop}
  (hp:∀s',(∀a o,s.heap.get? a=some o->s'.heap.get? a=some o)->s'.os=s.os->GK s.gens s'.gens->R (.ok (.ret (.bool true))) s'):codeAny (model pw w) A (.call (.ref 784) ⟨[v],[]⟩) R s:=by
 have F:=iR w (a:=784) rfl
 have hbig:785≤s.heap.objs.size:=Heap.lt_size (hb _ _ (ck w.params (a:=784) (by decide)))
 let gh:Gh:=⟨s.heap.get?,λ_=>none⟩
 have r:i5 (Mine.B.C w) gh [] {s with toks:=1}:=⟨λ_ _ e=>e,λ_ _ e=>(nomatch e),λ_ _ _ _ _ _ e=>(nomatch e),λx ⟨_,_,_,e,_⟩=>(nomatch e),λ_ _ e=>(nomatch e),hb,by rw [show(Mine.B.C w).base.objs.size=785 from kK _];exact hbig,Nat.one_pos⟩
 have hvs:eE (Mine.B.C w).prog (Mine.B.C w).w gh [v] [.c (.lst (sc.map .int))]:=.cons hv .nil
 have hbind:=(re w.params).bnd (by decide) gh s [v] [.c (.lst (sc.map .int))] [] [(272,.c (.lst (sc.map .int)))] (λ_ _ e=>e) hb hvs rfl
 rw [←bq (c:=Mine.B.C w) [v]]
 refine y9 (c:=Mine.B.C w) (g:=gL) (d:=32) (x:=uV) (fa:=784) (kws:=[]) (k:=λv _=>v=.c (.bol true)) T F.kind F.glob F.blt F.co (congrArg (λp=>p.1.2.1) (re w.params)) (ck w.params F.lt) F.data F.body F.code F.cell r rm hbind ⟨272,_,rfl⟩ (λL gh σ s A k Q r rm hev hp=> ?_)
  (FS λL' H' m' hlo=> ?_) λgh' s' u y H' x' r' hu hk=> ?_
 ·have:=dR (IX T) 60 (Ck (fd w.params 784) L 784 F.kind F.glob F.blt) (a7 (fd w.params 784)) λt ht=>xR (congrArg (λp=>p.1.2.2.1) (re w.params)) ht
  refine this gh σ s A k Q r rm ?_ λgh' Z' s' a b x' r' hl hk=>hp gh' Z' s' a b x' r' hl hk
  show ex gL (cB cp (fd w.params 784).scope 60 (a7 (fd w.params 784))) σ k
  rw [Cc];exact hev
 ·unfold fin
  refine aa (a:=(.c (.bol true),H')) rfl (bV ?_ rfl)
  rw [hlo];rfl
 ·subst hk
  cases hu with
  |bol b=>exact hp s' (λa o e=>x'.keep a o e λ⟨_,_,_,q,_⟩=>nomatch q) x'.os x'.gens
end
end Mine.A
namespace Mine.A
open Mine.B Mine.Head Mine.P
theorem sv{R:WRecords}{xs:List WData}(h:WShape.hasItems R xs .int=true):∃sc:List Int,xs=sc.map .int:=by
 induction xs with
 |nil=>exact⟨[],rfl⟩
 |cons x xs ih=>
  obtain⟨h1,h2⟩:=bg (show Bool.and (WShape.has R x .int) (WShape.hasItems R xs .int)=true by simpa [WShape.hasItems] using h)
  obtain⟨i,rfl⟩:=hasW_int h1
  obtain⟨sc,rfl⟩:=ih h2
  exact⟨i::sc,rfl⟩
theorem rD{P:Params}{h:Heap}{prog:Program}{w:World}{sc:List Int}:∀ {vs:List Value},WellAll P h vs (sc.map .int)->bv prog w h.get? vs (sc.map FV.int):=by
 induction sc with
 |nil=>intro vs x;cases x;exact .nil
 |cons i sc ih=>
  intro vs x
  cases x with
  |cons a b=>cases a with
   |int i t=>exact .cons (.int i t) (ih b)
theorem lh{h h':Heap}{a:Addr}{m:PySem.Str->Option Value}(k:∀b o,h.get? b=some o->h'.get? b=some o)(N:h'.Ns a m)(e:∃o,h.get? a=some o):h.Ns a m:=by
 obtain⟨o',es,ep,ho,hd,r⟩:=N
 obtain⟨o,e⟩:=e
 have:o'=o:=by have:=k _ _ e;rw [ho] at this;cases this;rfl
 subst this
 exact⟨o',es,ep,e,hd,r⟩
noncomputable def xU(P:Params):Bool:=(gg (d3 P 3)).all λe=>Mine.A.ob (nS e.key) λp=>startupNames.contains p.1||Mine.Head.loose.contains p.1||p.1==("law":PySem.Str)
theorem uF(P:Params):xU P=true:=by kernel_rfl!
theorem yg:(((recsOf pw).map (·.name)).contains ("law":PySem.Str))=true:=by kernel_rfl!
theorem sw{x y:PySem.Str}{t:Tok}(h:(Value.str y t).isStr x=true):y=x:=by
 have h:(y==x)=true:=h
 exact beq_iff_eq.mp h
theorem tA{w:World}{s0:Shared}{mg mb:PySem.Str->Option Value}{h:Heap}(G:Ground Mine.Head.q Mine.Head.loose dD.row.toRowW.records (λ_ _=>True) w s0 mg mb h)(Y:Mine.Head.YP w h):TopRead pw Mine.Head.loose mg mb (H1 w.params):=by
 have T:=topRead_of G.T
 have hg:=lh Y T.g ⟨_,ck w.params (a:=3) (by decide)⟩
 refine⟨hg,lh Y T.b ⟨_,ck w.params (by decide)⟩, ?_,T.builtins,λx h1 h2 h3 _ _=> ?_⟩
 ·obtain⟨mc,N,e⟩:=T.nolimit
  exact⟨mc,lh Y N ⟨_,ck w.params (by decide)⟩,e⟩
 ·rw [LG hg x]
  unfold nsFind findBy
  cases q:(gg (d3 w.params 3)).toArray.find? λe=>e.key.isStr x with
  |none=>rfl
  |some e=>
   exfalso
   have hm:e∈gg (d3 w.params 3):=by
    have:=Array.mem_of_find?_eq_some q
    simpa using this
   have hk:e.key.isStr x=true:=by simpa using Array.find?_some q
   have ho:=List.all_eq_true.mp (uF w.params) e hm
   obtain⟨⟨y,t⟩,e1,ho⟩:=fe ho
   ·rw [kN e1] at hk
    obtain rfl:=sw hk
    have ho:(startupNames.contains y||Mine.Head.loose.contains y||y==("law":PySem.Str))=true:=ho
    simp only [Bool.or_eq_true] at ho
    rcases ho with (ho|ho)|ho
    ·exact h1 (by simpa using ho)
    ·exact h2 (by simpa using ho)
    ·have:y=("law":PySem.Str):=beq_iff_eq.mp ho
     subst this
     exact h3 (by simpa using yg)
theorem xF{xs:List WData}{X:WTm}(h:WTm.holds [] (.and (.not (.lt (.lit (.int 63)) (.len (.arg 0)))) X) {args:=[.list xs]}=true):xs.length≤63:=by
 rcases Nat.lt_or_ge 63 xs.length with k|k
 ·exfalso
  have e:WTm.value [] (.not (.lt (.lit (.int 63)) (.len (.arg 0)))) {args:=[.list xs]}=some (.bool false):=by
   have:decide ((63:Int)<(xs.length:Int))=true:=decide_eq_true (by lia)
   have e2:Num.less? (WData.int 63) (WData.int xs.length)=some true:=by
    show some (decide ((63:Int)<(xs.length:Int)))=_
    rw [this]
   simp [WTm.value,less?,e2]
  unfold WTm.holds at h
  rw [WTm.value,e] at h
  cases h
 ·exact k
theorem yh{w:World}{mg mb:PySem.Str->Option Value}(T:TopRead pw Mine.Head.loose mg mb (H1 w.params)){a:Addr}(h:mg u8.name=some (.ref a)):a=784:=by
 obtain⟨_,u,e,r⟩:=(Ho T).glb u8.name (.st 784) (by kernel_rfl!)
 rw [h] at e;cases e
 have r:Value.ref a=.ref 784:=r
 cases r;rfl
theorem walk:WalkO Mine.Head.q Mine.Head.loose (λ_ _=>True) Mine.Head.YP dD.row.toRowW u8 [] λf vs=>PySem.call f vs:=by
 intro w s0 s₁ mg mb G Y a o pm cd doc dV kV ho hod hcd hdf hmg hgens args vals as hpre hlay hrd hwell hsys
 have T:=tA G Y
 obtain rfl:=yh T hmg
 obtain⟨hsh,hlen⟩:=pre_splitW hpre
 obtain⟨d,r,rfl,hd,hr⟩:=hasAllW_cons hsh
 obtain rfl:=hasAllW_nil hr
 obtain⟨xs,rfl,hi⟩:=hasW_list hd
 obtain⟨sc,rfl⟩:=sv hi
 cases hwell with
 |cons hv hn=>
  cases hn
  cases hv with
  |list hget hall=>
   rename_i la lvs
   have hb:sc.length≤16777216:=by
    obtain⟨X,hX⟩:∃X,dD.row.toRowW.pre=.and (.not (.lt (.lit (.int 63)) (.len (.arg 0)))) X:=⟨_,rfl⟩
    rw [hX] at hlen
    have:=xF hlen
    rw [List.length_map] at this;lia
   have hrf:RF pw w s₁.heap.get? (.ref la) (.lst (sc.map .int)):=.lst hget ⟨0,rfl⟩ (rD hall) (by rw [List.length_map];exact hb)
   refine wpAny_call (B4 T ⟨rfl,by decide+kernel,by decide+kernel⟩ Y hrf λs' hk hos hg=> ?_)
   refine⟨.inl ⟨.bool true,.bool true,[],rfl,λcls=>rfl,.bool true, ?_,λ_=>⟨List.nodup_nil,λ_ h=>nomatch h⟩⟩,.of_keep hk,hos, ?_⟩
   ·show(WShape.has [] (.bool true) .bool&&WTm.holds [] (.eq .res (.lit (.bool true))) {args:=[.list (sc.map .int)],res:=some (.bool true),after:=[.list (sc.map .int)]})=true
    simp [WShape.has,WShape.arms,WTm.holds,WTm.value,same]
   ·intro y hy
    obtain⟨i,hi,rfl⟩:=Array.mem_iff_getElem.mp hy
    rcases hg.new i _ (Array.getElem?_eq_getElem hi)with k|k
    ·rw [hgens] at k;simp at k
    ·exact k
theorem holds:dD.Holds:=Mine.Head.head walk
end Mine.A
theorem PySem.Challenge.cw_te0042_01_holds : PySem.Challenge.rw_te0042_01.Holds := by
  exact Mine.A.holds
