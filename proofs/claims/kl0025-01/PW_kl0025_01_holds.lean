import PyProof.Rows.All
import KE.KPar
import KE.KPairComp
import KE.KOwnIter
import OpenK.XGo
import KE.KWhile
import KE.KLam
import KE.KLcPair
import KE.KStopIter
import KE.KSortTup
import Flt.WordCanon
import Flt.Calls2
import KE.KSetIn
import OpenK.ZHead
import Lean
import PySem.Challenge.RW_kl0025_01
open PySem PySem.W PySem.W.X PyProof.Rows PySem.Spec PySem.Calls
set_option Elab.async false
set_option maxRecDepth 100000
set_option maxHeartbeats 0
set_option linter.all false
set_option exponentiation.threshold 4000
namespace Mine
abbrev J':=@wpAny_bind
abbrev K':=@Heap.get?_push_of_some
abbrev OA{α:Type _}{a b:α}{l:List α}:a∈b::l->a=b∨a∈l:=List.mem_cons.mp
abbrev OB:=@Nat.le_trans
abbrev OC:=@Heap.get?_push_size
abbrev OD:=@wpAny_pure
abbrev OE:=@List.mem_map_of_mem
abbrev OF{α β:Type _}{b:β}{f:α->β}{l:List α}:b∈l.map f->∃a,a∈l/\f a=b:=List.mem_map.mp
abbrev OG{α:Type _}{a:α}{s t:List α}:a∈s++t->a∈s∨a∈t:=List.mem_append.mp
abbrev OH:=@Nat.le_of_ble_eq_true
abbrev OI:=@Nat.ne_of_lt
abbrev OJ:=@List.mem_append_left
abbrev OK:=@Eq.symm
abbrev OL:=@Heap.get?_none_of_le
abbrev OM:=@Nat.le_refl
abbrev ON:=@Heap.lt_size
abbrev OO:=@hideAll_get
abbrev OP:=@List.mem_append_right
abbrev OQ:=@Nat.lt_irrefl
abbrev OR:=@wpAny_storeName_local
abbrev OS:=@Ne.symm
abbrev OT:=@wpAny_execs_cons
abbrev OU:=@Nat.mul_le_mul_right
abbrev OV:=@Nat.lt_of_le_of_lt
abbrev OW:=@of_hideAll
abbrev OX:=@Obj.data_mapFields
abbrev OY:=@Nat.lt_succ_self
abbrev OZ:=@Heap.get?_update_other
abbrev Oi:=@wpAny_truthy_bool
abbrev Oj:=@wpAny_mono
abbrev Ol:=@wpAny_holding
abbrev Om:=@Nat.lt_trans
abbrev Oo:=@hideAll_none
abbrev Oq:=@Heap.get?_update_self
abbrev Ot:=@wpAny_Assign_Name
abbrev Ou:=@Nat.lt_of_lt_of_le
abbrev Ov:=@wpAny_field
abbrev Ow:=@Around.frames_deeper
abbrev Ox:=@Nat.lt_succ_of_lt
abbrev Oy:=@Nat.ne_of_gt
abbrev Oz:=@Nat.le_of_mul_le_mul_left
abbrev O0{α:Type _}{a b:α}:a∈[b]->a=b:=List.mem_singleton.mp
abbrev O1:=@wpAny_pyIter_list
abbrev O3:=@wpAny_Return_some
abbrev O5:=@wpAny_newObj_type
abbrev O6:=@List.getElem?_eq_getElem
abbrev O7:=@wpAny_isTrue_Compare1
abbrev O8:=@Nat.two_pow_pos
abbrev O9:=@codeAny_builtin
abbrev PA:=@Option.some.inj
abbrev PB:=@wpAny_seqItems
abbrev PC:=@spliced_cons
abbrev PD:=@wpAny_execs_nil
abbrev PE:=@Nat.not_lt_zero
abbrev PF:=@Nat.zero_le
abbrev PG:=@Nat.le_of_lt
abbrev PH:=@evalArgs_plain
abbrev PI:=@wpAny_rule
abbrev PJ:=@wpAny_with_toks
abbrev PM:=@Nat.mul_le_mul_left
abbrev PN:=@wpAny_Constant_bool
variable{A1 A2 A3 A4 A5 A6 A7 A8 A9 α β:Type}{P a0 a1 a10 a11 a12 a2 a3 a4 a5 a6 a7 a8 a9:Prop}{x0 x1 x2 x3 x4 x5 x6 x7:α}{C C':Cf}{B D' W W' c' d d' i j k1 k2 n n0 nw tk oL:Nat}{I I0 N S T a c k kk mid my:Int}{cenv env:Env}{fo frs:Frs}{name qual ws x₂:Str}{o oT oe ox:Obj}{p p' p1 p2 p3 p4 p5 p6 p7 p8 p9 pos pos' px Bz py ba cF gz pF qJ sJ vG vH:Pos}{t t' t0 gv tn tn' u:Tok}{F:Frag}{H₀ base g gB br h h' f5 h0 hb h₀ h₁ h₂:Heap}{J L TI TO ax cn da dg dk dr gb gr i1 it kf l p0 tp:Addr}{b₁ b₂ fb ht hv:Bool}{e elt bB bR i0 iter r test:Expr}{acc fk cg ck ct cv dV FR f kV pm se tg told v vi:Value}{scope:Scope}{w:World}{A:Around}{hi jh y z:UInt64}{s s' s₀ aB:Shared}{prog:Program}{as js ks l' xs ys zs:List Int}{envs:List Env}{loose nms:List Str}{M M' cs cs' cso fs KG wr:List Addr}{cxx cxy cyy rk FT:Nat->Int}{elts es ifs:List Expr}{orelse rest:List Stmt}{params:Arguments}{poss:Nat->Nat}{tks us:Nat->Tok}{od:Option Obj}{ps:Nat->Addr}{vs:List Value}{x xo:Option Str}{an:Option Addr}{items its:Array Value}{hd:Option Value}{bs:List (List Stmt)}{fr:Option (List Env)}{kl:Addr->Option Obj}{news:List (Addr×Obj)}{F₁ F₂:Nat->Value->Prop}{binds kw:List (Str×Value)}{gd:Option (List Code)}{m m' mg:Str->Option Value}{P₁ P₂ P₃ R':Value->Heap->Prop}{sl:Array (Option Value)}{E Q:Value->Shared->Prop}{R:Result->Shared->Prop}{PL:List Value->Heap->Prop}{G:Array GenState->Array GenState->Prop}
def cH:Lean.Syntax:=call_M_of_MD._auto_3
noncomputable abbrev bp(s:PySem.Shared)(h:PySem.Heap)(t:Nat):PySem.Shared:={s with heap:=h,toks:=t}
theorem ex1{A0:Type}{p:A0->Prop}(h:∃a,p a)(f:∀a,p a->P):P:=h.elim f
theorem aR{A0:Type}{p:A0->Prop}(h:∃x0,p x0)(f:∀x0,p x0->P):P:=h.elim λa h=>f a h
theorem oM{A0:Type}{p:A0->A1->Prop}(h:∃x0 x1,p x0 x1)(f:∀x0 x1,p x0 x1->P):P:=h.elim λa h=>aR h (f a)
theorem ez{A0:Type}{p:A0->A1->A2->Prop}(h:∃x0 x1 x2,p x0 x1 x2)(f:∀x0 x1 x2,p x0 x1 x2->P):P:=h.elim λa h=>oM h (f a)
theorem nU{A0:Type}{p:A0->A1->A2->A3->Prop}(h:∃x0 x1 x2 x3,p x0 x1 x2 x3)(f:∀x0 x1 x2 x3,p x0 x1 x2 x3->P):P:=h.elim λa h=>ez h (f a)
theorem qK{A0:Type}{p:A0->A1->A2->A3->A4->Prop}(h:∃x0 x1 x2 x3 x4,p x0 x1 x2 x3 x4)(f:∀x0 x1 x2 x3 x4,p x0 x1 x2 x3 x4->P):P:=h.elim λa h=>nU h (f a)
theorem jE6{A0:Type}{p:A0->A1->A2->A3->A4->A5->Prop}(h:∃x0 x1 x2 x3 x4 x5,p x0 x1 x2 x3 x4 x5)(f:∀x0 x1 x2 x3 x4 x5,p x0 x1 x2 x3 x4 x5->P):P:=h.elim λa h=>qK h (f a)
theorem BA{A0:Type}{p:A0->A1->A2->A3->A4->A5->A6->Prop}(h:∃x0 x1 x2 x3 x4 x5 x6,p x0 x1 x2 x3 x4 x5 x6)(f:∀x0 x1 x2 x3 x4 x5 x6,p x0 x1 x2 x3 x4 x5 x6->P):P:=h.elim λa h=>jE6 h (f a)
theorem jE8{A0:Type}{p:A0->A1->A2->A3->A4->A5->A6->A7->Prop}(h:∃x0 x1 x2 x3 x4 x5 x6 x7,p x0 x1 x2 x3 x4 x5 x6 x7)(f:∀x0 x1 x2 x3 x4 x5 x6 x7,p x0 x1 x2 x3 x4 x5 x6 x7->P):P:=h.elim λa h=>BA h (f a)
theorem CK{A0:Type}{p:A0->A1->A2->A3->A4->A5->A6->A7->A8->Prop}(h:∃x0 x1 x2 x3 x4 x5 x6 x7 x8,p x0 x1 x2 x3 x4 x5 x6 x7 x8)(f:∀x0 x1 x2 x3 x4 x5 x6 x7 x8,p x0 x1 x2 x3 x4 x5 x6 x7 x8->P):P:=h.elim λa h=>jE8 h (f a)
theorem CM{A0:Type}{p:A0->A1->A2->A3->A4->A5->A6->A7->A8->A9->Prop}(h:∃x0 x1 x2 x3 x4 x5 x6 x7 x8 x9,p x0 x1 x2 x3 x4 x5 x6 x7 x8 x9)(f:∀x0 x1 x2 x3 x4 x5 x6 x7 x8 x9,p x0 x1 x2 x3 x4 x5 x6 x7 x8 x9->P):P:=h.elim λa h=>CK h (f a)
theorem KW{A0 A10:Type}{p:A0->A1->A2->A3->A4->A5->A6->A7->A8->A9->A10->Prop}(h:∃x0 x1 x2 x3 x4 x5 x6 x7 x8 x9 x10,p x0 x1 x2 x3 x4 x5 x6 x7 x8 x9 x10)(f:∀x0 x1 x2 x3 x4 x5 x6 x7 x8 x9 x10,p x0 x1 x2 x3 x4 x5 x6 x7 x8 x9 x10->P):P:=h.elim λa h=>CM h (f a)
theorem cA(h:a0/\a1)(f:a0->a1->P):P:=f h.1 h.2
theorem du(h:a0/\a1/\a2)(f:a0->a1->a2->P):P:=cA h.2 (f h.1)
theorem eP(h:a0/\a1/\a2/\a3)(f:a0->a1->a2->a3->P):P:=du h.2 (f h.1)
theorem nV(h:a0/\a1/\a2/\a3/\a4)(f:a0->a1->a2->a3->a4->P):P:=eP h.2 (f h.1)
theorem BC(h:a0/\a1/\a2/\a3/\a4/\a5)(f:a0->a1->a2->a3->a4->a5->P):P:=nV h.2 (f h.1)
theorem FV(h:a0/\a1/\a2/\a3/\a4/\a5/\a6)(f:a0->a1->a2->a3->a4->a5->a6->P):P:=BC h.2 (f h.1)
theorem qL(h:a0/\a1/\a2/\a3/\a4/\a5/\a6/\a7)(f:a0->a1->a2->a3->a4->a5->a6->a7->P):P:=FV h.2 (f h.1)
theorem jA9(h:a0/\a1/\a2/\a3/\a4/\a5/\a6/\a7/\a8)(f:a0->a1->a2->a3->a4->a5->a6->a7->a8->P):P:=qL h.2 (f h.1)
theorem vI(h:a0/\a1/\a2/\a3/\a4/\a5/\a6/\a7/\a8/\a9)(f:a0->a1->a2->a3->a4->a5->a6->a7->a8->a9->P):P:=jA9 h.2 (f h.1)
theorem GK(h:a0/\a1/\a2/\a3/\a4/\a5/\a6/\a7/\a8/\a9/\a10)(f:a0->a1->a2->a3->a4->a5->a6->a7->a8->a9->a10->P):P:=vI h.2 (f h.1)
theorem vJ(h:a0/\a1/\a2/\a3/\a4/\a5/\a6/\a7/\a8/\a9/\a10/\a11)(f:a0->a1->a2->a3->a4->a5->a6->a7->a8->a9->a10->a11->P):P:=GK h.2 (f h.1)
theorem KY(h:a0/\a1/\a2/\a3/\a4/\a5/\a6/\a7/\a8/\a9/\a10/\a11/\a12)(f:a0->a1->a2->a3->a4->a5->a6->a7->a8->a9->a10->a11->a12->P):P:=vJ h.2 (f h.1)
theorem KZ{a13:Prop}(h:a0/\a1/\a2/\a3/\a4/\a5/\a6/\a7/\a8/\a9/\a10/\a11/\a12/\a13)(f:a0->a1->a2->a3->a4->a5->a6->a7->a8->a9->a10->a11->a12->a13->P):P:=KY h.2 (f h.1)
theorem ar{A0:Type}{p0 p1:A0->Prop}(h:∃x0,p0 x0/\p1 x0)(f:∀x0,p0 x0->p1 x0->P):P:=aR h λx0 h=>cA h (f x0)
theorem bl{A0:Type}{p0 p1 p2:A0->Prop}(h:∃x0,p0 x0/\p1 x0/\p2 x0)(f:∀x0,p0 x0->p1 x0->p2 x0->P):P:=aR h λx0 h=>du h (f x0)
theorem jB{A0:Type}{p0 p1 p2 p3:A0->Prop}(h:∃x0,p0 x0/\p1 x0/\p2 x0/\p3 x0)(f:∀x0,p0 x0->p1 x0->p2 x0->p3 x0->P):P:=aR h λx0 h=>eP h (f x0)
theorem aN{A0:Type}{p0 p1:A0->A1->Prop}(h:∃x0 x1,p0 x0 x1/\p1 x0 x1)(f:∀x0 x1,p0 x0 x1->p1 x0 x1->P):P:=oM h λx0 x1 h=>cA h (f x0 x1)
theorem aG{A0:Type}{p0 p1 p2:A0->A1->Prop}(h:∃x0 x1,p0 x0 x1/\p1 x0 x1/\p2 x0 x1)(f:∀x0 x1,p0 x0 x1->p1 x0 x1->p2 x0 x1->P):P:=oM h λx0 x1 h=>du h (f x0 x1)
theorem aV{A0:Type}{p0 p1:A0->A1->A2->Prop}(h:∃x0 x1 x2,p0 x0 x1 x2/\p1 x0 x1 x2)(f:∀x0 x1 x2,p0 x0 x1 x2->p1 x0 x1 x2->P):P:=ez h λx0 x1 x2 h=>cA h (f x0 x1 x2)
theorem bf{A0:Type}{p0 p1 p2:A0->A1->A2->Prop}(h:∃x0 x1 x2,p0 x0 x1 x2/\p1 x0 x1 x2/\p2 x0 x1 x2)(f:∀x0 x1 x2,p0 x0 x1 x2->p1 x0 x1 x2->p2 x0 x1 x2->P):P:=ez h λx0 x1 x2 h=>du h (f x0 x1 x2)
theorem dj{A0:Type}{p0 p1 p2 p3:A0->A1->A2->Prop}(h:∃x0 x1 x2,p0 x0 x1 x2/\p1 x0 x1 x2/\p2 x0 x1 x2/\p3 x0 x1 x2)(f:∀x0 x1 x2,p0 x0 x1 x2->p1 x0 x1 x2->p2 x0 x1 x2->p3 x0 x1 x2->P):P:=ez h λx0 x1 x2 h=>eP h (f x0 x1 x2)
theorem gQ{A0:Type}{p0 p1:A0->A1->A2->A3->Prop}(h:∃x0 x1 x2 x3,p0 x0 x1 x2 x3/\p1 x0 x1 x2 x3)(f:∀x0 x1 x2 x3,p0 x0 x1 x2 x3->p1 x0 x1 x2 x3->P):P:=nU h λx0 x1 x2 x3 h=>cA h (f x0 x1 x2 x3)
theorem hO{A0:Type}{p0 p1 p2 p3:A0->A1->A2->A3->Prop}(h:∃x0 x1 x2 x3,p0 x0 x1 x2 x3/\p1 x0 x1 x2 x3/\p2 x0 x1 x2 x3/\p3 x0 x1 x2 x3)(f:∀x0 x1 x2 x3,p0 x0 x1 x2 x3->p1 x0 x1 x2 x3->p2 x0 x1 x2 x3->p3 x0 x1 x2 x3->P):P:=nU h λx0 x1 x2 x3 h=>eP h (f x0 x1 x2 x3)
@[elab_as_elim] theorem mL1{P:α->Prop}{b:α}(h:b∈[x0])(h0:P x0):P b:=O0 h▸h0
@[elab_as_elim] theorem mL2{P:α->Prop}{b:α}(h:b∈[x0,x1])(h0:P x0)(h1:P x1):P b:=(OA h).elim (λe=>e▸h0) λh=>mL1 h h1
@[elab_as_elim] theorem BD{P:α->Prop}{b:α}(h:b∈[x0,x1,x2])(h0:P x0)(h1:P x1)(h2:P x2):P b:=(OA h).elim (λe=>e▸h0) λh=>mL2 h h1 h2
@[elab_as_elim] theorem GL{P:α->Prop}{b:α}(h:b∈[x0,x1,x2,x3])(h0:P x0)(h1:P x1)(h2:P x2)(h3:P x3):P b:=(OA h).elim (λe=>e▸h0) λh=>BD h h1 h2 h3
@[elab_as_elim] theorem KI{P:α->Prop}{b:α}(h:b∈[x0,x1,x2,x3,x4])(h0:P x0)(h1:P x1)(h2:P x2)(h3:P x3)(h4:P x4):P b:=(OA h).elim (λe=>e▸h0) λh=>GL h h1 h2 h3 h4
@[elab_as_elim] theorem mL6{P:α->Prop}{b:α}(h:b∈[x0,x1,x2,x3,x4,x5])(h0:P x0)(h1:P x1)(h2:P x2)(h3:P x3)(h4:P x4)(h5:P x5):P b:=(OA h).elim (λe=>e▸h0) λh=>KI h h1 h2 h3 h4 h5
@[elab_as_elim] theorem KJ{P:α->Prop}{b:α}(h:b∈[x0,x1,x2,x3,x4,x5,x6])(h0:P x0)(h1:P x1)(h2:P x2)(h3:P x3)(h4:P x4)(h5:P x5)(h6:P x6):P b:=(OA h).elim (λe=>e▸h0) λh=>mL6 h h1 h2 h3 h4 h5 h6
@[elab_as_elim] theorem mL8{P:α->Prop}{b:α}(h:b∈[x0,x1,x2,x3,x4,x5,x6,x7])(h0:P x0)(h1:P x1)(h2:P x2)(h3:P x3)(h4:P x4)(h5:P x5)(h6:P x6)(h7:P x7):P b:=(OA h).elim (λe=>e▸h0) λh=>KJ h h1 h2 h3 h4 h5 h6 h7
@[elab_as_elim] theorem GN{x8:α}{P:α->Prop}{b:α}(h:b∈[x0,x1,x2,x3,x4,x5,x6,x7,x8])(h0:P x0)(h1:P x1)(h2:P x2)(h3:P x3)(h4:P x4)(h5:P x5)(h6:P x6)(h7:P x7)(h8:P x8):P b:=(OA h).elim (λe=>e▸h0) λh=>mL8 h h1 h2 h3 h4 h5 h6 h7 h8
theorem wk{x c:Nat}(h:x+c<=d)(e:(Nat.ble c' c&&Nat.ble d d')=true):x+c'<=d':=
 have q:=(Bool.and_eq_true _ _).mp e
 OB (OB (Nat.add_le_add_left (OH q.1) x) h) (OH q.2)
theorem wk0{x c:Nat}(h:x+c<=d)(e:Nat.ble d d'=true):x<=d':=OB (OB (Nat.le_add_right x c) h) (OH e)
theorem wl0{x:Nat}(h:x<=d)(e:Nat.ble d d'=true):x<=d':=OB h (OH e)
theorem wl1{x:Nat}(h:x<=d)(e:Nat.blt d d'=true):x<d':=OV h (OH e)
theorem wl2{x:Nat}(h:x<d)(e:Nat.ble d d'=true):x<d':=Ou h (OH e)
theorem wg0{x:Nat}(h:d<=x)(e:Nat.ble d' d=true):d'<=x:=OB (OH e) h
theorem wg1{x:Nat}(h:d<=x)(e:Nat.blt d' d=true):d'<x:=Ou (OH e) h
theorem CN{A N:Nat}(h:a.natAbs<=A)(e:Nat.blt A N=true):a.natAbs<N:=OV h (OH e)
theorem nbE{A N:Nat}(h:a.natAbs<=A)(e:Nat.ble A N=true):a.natAbs<=N:=OB h (OH e)
theorem zV{b:Int}{A:Nat}(h:a.natAbs<=A)(g:b.natAbs<=B):(a+b).natAbs<=A+B:=OB (Int.natAbs_add_le a b) (Nat.add_le_add h g)
theorem nbS{b:Int}{A:Nat}(h:a.natAbs<=A)(g:b.natAbs<=B):(a-b).natAbs<=A+B:=OB (Int.natAbs_sub_le a b) (Nat.add_le_add h g)
theorem zJ{b:Int}{A:Nat}(h:a.natAbs<=A)(g:b.natAbs<=B):(a*b).natAbs<=A*B:=(Int.natAbs_mul a b).symm▸Nat.mul_le_mul h g
theorem nbN{A:Nat}(h:a.natAbs<=A):(-a).natAbs<=A:=(Int.natAbs_neg a).symm▸h
theorem wW:(OfNat.ofNat n:Int).natAbs<=n:=OM _
theorem KL{A:Nat}(h:n<=A):(n:Int).natAbs<=A:=h
theorem sbL(h:i<n):n+1-(i+1)<n+1-i:=Nat.sub_lt_sub_left (Ox h) (OY i)
theorem K0{k:Nat}(e:k=n+1-i)(h:i<n):n+1-(i+1)<k:=e▸sbL h
theorem sbE{k:Nat}(h:n-i=k+1):n-(i+1)=k:=(Nat.sub_add_eq n i 1).trans (by rw[h];rfl)
theorem K1{a k:Nat}(h:n-(a+i)=k+1):n-(a+(i+1))=k:=sbE (i:=a+i) h
theorem K2{a c:Nat}(h:0<c)(g:a+c<=n):n+1-(a+c)<n+1-a:=Nat.sub_lt_sub_left (Nat.lt_succ_of_le (OB (Nat.le_add_right a c) g)) (Nat.lt_add_of_pos_right h)
theorem K3{a c:Nat}(h:j<a+c)(g:0<c):j-a<c:=(Nat.lt_or_ge j a).elim (λq=>(Nat.sub_eq_zero_of_le (PG q)).symm▸g) (λq=>Nat.sub_lt_left_of_lt_add q h)
theorem sbB{a:Nat}(h:¬j<a):a+(j-a)=j:=Nat.add_sub_of_le (Nat.le_of_not_lt h)
theorem sbR(h:i<n):n-1-i<n:=OV (Nat.sub_le _ i) (Nat.sub_lt (OV (PF i) h) Nat.one_pos)
theorem K4(h:i<n):n-1-j<n:=OV (Nat.sub_le _ j) (Nat.sub_lt (OV (PF i) h) Nat.one_pos)
theorem nbD{b:Int}{A:Nat}(h:(a-b).natAbs<=A)(g:b.natAbs<=B):a.natAbs<=A+B:=Int.sub_add_cancel a b▸zV h g
theorem KN{x:Int}{A:Nat}(h0: -(A:Int)<=x)(h1:x<=A):x.natAbs<=A:=by omega
theorem nbB{b a:Nat}(hb:b<=n)(ha:a<=n):((b:Int)-a).natAbs<=n:=KN (Int.le_trans (Int.neg_le_neg (Int.ofNat_le.mpr ha)) (by rw[Int.sub_eq_add_neg];exact Int.le_add_of_nonneg_left (Int.natCast_nonneg b))) (Int.le_trans (Int.sub_le_self _ (Int.natCast_nonneg a)) (Int.ofNat_le.mpr hb))
theorem fits63{v:Int}(h:v.natAbs<=2^62): -2^63<=v/\v<=2^63-1:=by omega
theorem sbI(hi:i<n)(hj:j<n)(e:n-1-i=n-1-j):i=j:=by rw[<-Nat.sub_sub_self (Nat.le_sub_one_of_lt hi),e,Nat.sub_sub_self (Nat.le_sub_one_of_lt hj)]
theorem sbS(hi:i<n):n-1-(n-1-i)=i:=Nat.sub_sub_self (Nat.le_sub_one_of_lt hi)
local macro_rules | `(tactic|omega)=>`(tactic|first
 | ((with_reducible first|refine' CN ?h ?e|refine' nbE ?h ?e);(case h=>with_reducible repeat' first|exact wW|assumption|exact PG (by assumption)|apply zJ|apply zV|apply nbS|apply nbN|apply KL);(case e=>exact rfl))
 | ((with_reducible first|apply sbL|apply sbE|apply K1|apply K0|apply K2|apply K3|apply sbB|apply sbR|apply K4)<;>assumption)
 |lia)
noncomputable def qd(k:Nat):Nat->List Nat:=Nat.rec (motive:=λ_=>Nat->List Nat) (λ_=>[]) (λ_ ih n=>cond (Nat.beq n 0) [] (Nat.mod n 128::ih (Nat.div n 128))) k
noncomputable def q(n:Nat):PySem.Str:=PySem.Str.mk (Array.mk (qd 200 n))
noncomputable abbrev vb(x:String):Value:=.builtin x
noncomputable abbrev vt(x:String):Value:=.type x
noncomputable abbrev vq(n t:Nat):Value:=.str (q n) t
noncomputable abbrev dc(l:List PySem.DictEntry)(n:Nat):PySem.Data:=.dict (List.toArray l) n
noncomputable abbrev so(x:String):Str:=Str.ofString x
noncomputable abbrev cl(n:String)(b m:List Value)(a:Nat)(d:Bool)(s:List Str):PySem.Data:=.cls (PySem.ClassData.mk (so n) b m a (so n) d s [] false none false)
noncomputable abbrev dq(b:List PySem.Stmt){s:Str}{k p q r}(_:b = .Expr (.Constant (.str s) k p) q::r):Str:=s
noncomputable abbrev ve(P:PySem.Params)(n t:Nat)(v:Value):PySem.DictEntry:=⟨PySem.PyData.keyHash P (q n),.str (q n) t,v⟩
noncomputable abbrev cj(x:String)(t:Nat):Value:=.str (Str.ofString x) t
noncomputable abbrev i6(x:Int)(t:Nat):Value:=.int x t
noncomputable abbrev vr(a:Nat):Value:=.ref a
noncomputable abbrev ob(x:String)(d:PySem.Data):PySem.Obj:=PySem.Obj.mk (Value.type x) none d (List.toArray [])
noncomputable abbrev tu(l:List Value):PySem.Obj:=ob "tuple" (PySem.Data.seq (List.toArray l) 0)
noncomputable abbrev cd(n q:String)(a b c:Nat)(d e f g h:Int)(i j:Nat)(k l m:Value)(p:Int)(s:Nat):PySem.Obj:=ob "code" (PySem.Data.fields (List.toArray [.str (Str.ofString n) a,.str (Str.ofString q) b,.str (Str.ofString "/claim/cut.py") c,.int d 0,.int e 0,.int f 0,.int g 0,.int h 0,.ref i,.bool .true,.int 386 0,.ref j,.none,k,l,m,.int p 0,.int d 0,.str (Str.ofString "/claim/cut.py") s]))
noncomputable abbrev sq(l:List Value)(n:Nat):PySem.Data:=PySem.Data.seq (List.toArray l) n
noncomputable abbrev fl(l:List Value):PySem.Data:=PySem.Data.fields (List.toArray l)
noncomputable abbrev md(x:String)(t a:Nat)(i:Int):PySem.Obj:=ob "member_descriptor" (fl [cj x t,vr a,vb "proto.slot",vb "proto.slot#set",i6 i 0])
noncomputable abbrev fn(n q:String)(p:PySem.Arguments)(b:List PySem.Stmt)(s:PySem.Scope)(x y z m:Value)(r:Nat):PySem.Data:=PySem.Data.func (PySem.FuncData.mk (Str.ofString n) (Str.ofString q) p (PySem.FuncBody.stmts b) s 3 [] x y z m none (Value.ref r) Value.none 0)
noncomputable def top(i:Nat):PySem.Stmt:=PySem.Challenge.pw_kl0025_01.main.body.getD i (PySem.Stmt.Pass default)
noncomputable def fw(i j:Nat):PySem.Stmt:=match top i with| .ClassDef _ _ _ b _ _ _ _ _ _ _=>b.getD j (PySem.Stmt.Pass default)|s=>s
noncomputable abbrev cI(a:α){x:α}(_:a=x:=by conv=>lhs;whnf):α:=x
noncomputable abbrev fq(t:PySem.Stmt){n d e f g h i}{a:PySem.Arguments}{b:List PySem.Stmt}{s:PySem.Scope}(_:t = .FunctionDef n a b d e f s g h i):=(a,b,s)
noncomputable abbrev F71:=fq (fw 3 1) rfl
noncomputable abbrev P71:=cI F71.1
noncomputable abbrev B71:=cI F71.2.1
noncomputable abbrev S71:=cI F71.2.2
noncomputable abbrev CO:=fq (top 7) rfl
noncomputable abbrev K5:=cI CO.1
noncomputable abbrev K6:=cI CO.2.1
noncomputable abbrev K7:=cI CO.2.2
noncomputable abbrev CP:=fq (top 8) rfl
noncomputable abbrev K8:=cI CP.1
noncomputable abbrev zW:=cI CP.2.1
noncomputable abbrev f6:=cI CP.2.2
noncomputable abbrev CQ:=fq (top 9) rfl
noncomputable abbrev K9:=cI CQ.1
noncomputable abbrev GO:=cI CQ.2.1
noncomputable abbrev La:=cI CQ.2.2
noncomputable abbrev CR:=fq (fw 10 1) rfl
noncomputable abbrev Lb:=cI CR.1
noncomputable abbrev GP:=cI CR.2.1
noncomputable abbrev GQ:=cI CR.2.2
noncomputable abbrev CS:=fq (fw 10 2) rfl
noncomputable abbrev Lc:=cI CS.1
noncomputable abbrev GR:=cI CS.2.1
noncomputable abbrev GU:=cI CS.2.2
noncomputable abbrev CT:=fq (fw 10 3) rfl
noncomputable abbrev Ld:=cI CT.1
noncomputable abbrev w5:=cI CT.2.1
noncomputable abbrev l9:=cI CT.2.2
noncomputable abbrev CU:=fq (fw 10 4) rfl
noncomputable abbrev Le:=cI CU.1
noncomputable abbrev CV:=cI CU.2.1
noncomputable abbrev w6:=cI CU.2.2
noncomputable abbrev CW:=fq (fw 11 1) rfl
noncomputable abbrev Lg:=cI CW.1
noncomputable abbrev CX:=cI CW.2.1
noncomputable abbrev CY:=cI CW.2.2
noncomputable abbrev CZ:=fq (fw 11 2) rfl
noncomputable abbrev Lh:=cI CZ.1
noncomputable abbrev GV:=cI CZ.2.1
noncomputable abbrev GW:=cI CZ.2.2
noncomputable abbrev C0:=fq (fw 11 3) rfl
noncomputable abbrev Li:=cI C0.1
noncomputable abbrev w7:=cI C0.2.1
noncomputable abbrev oh:=cI C0.2.2
noncomputable abbrev C4:=fq (top 12) rfl
noncomputable abbrev Lj:=cI C4.1
noncomputable abbrev C5:=cI C4.2.1
noncomputable abbrev C6:=cI C4.2.2
noncomputable abbrev C7:=fq (fw 13 1) rfl
noncomputable abbrev Lk:=cI C7.1
noncomputable abbrev GX:=cI C7.2.1
noncomputable abbrev GY:=cI C7.2.2
noncomputable abbrev C8:=fq (fw 13 2) rfl
noncomputable abbrev Ll:=cI C8.1
noncomputable abbrev GZ:=cI C8.2.1
noncomputable abbrev G0:=cI C8.2.2
noncomputable abbrev C9:=fq (fw 13 3) rfl
noncomputable abbrev Lm:=cI C9.1
noncomputable abbrev Hh:=cI C9.2.1
noncomputable abbrev Hj:=cI C9.2.2
noncomputable abbrev Dc:=fq (fw 15 2) rfl
noncomputable abbrev Ln:=cI Dc.1
noncomputable abbrev Dd:=cI Dc.2.1
noncomputable abbrev Hm:=cI Dc.2.2
noncomputable abbrev De:=fq (fw 15 3) rfl
noncomputable abbrev Lo:=cI De.1
noncomputable abbrev w8:=cI De.2.1
noncomputable abbrev zX:=cI De.2.2
noncomputable abbrev Df:=fq (top 17) rfl
noncomputable abbrev Lp:=cI Df.1
noncomputable abbrev zY:=cI Df.2.1
noncomputable abbrev Hp:=cI Df.2.2
noncomputable abbrev Dg:=fq (top 18) rfl
noncomputable abbrev Lq:=cI Dg.1
noncomputable abbrev Hq:=cI Dg.2.1
noncomputable abbrev Lr:=cI Dg.2.2
noncomputable abbrev Dh:=fq (top 19) rfl
noncomputable abbrev Ls:=cI Dh.1
noncomputable abbrev Hv:=cI Dh.2.1
noncomputable abbrev w9:=cI Dh.2.2
noncomputable abbrev Di:=fq (top 20) rfl
noncomputable abbrev Lu:=cI Di.1
noncomputable abbrev Hw:=cI Di.2.1
noncomputable abbrev Lv:=cI Di.2.2
noncomputable abbrev Dj:=fq (top 21) rfl
noncomputable abbrev Lw:=cI Dj.1
noncomputable abbrev xa:=cI Dj.2.1
noncomputable abbrev Hx:=cI Dj.2.2
noncomputable abbrev Dk:=fq (fw 22 4) rfl
noncomputable abbrev Lx:=cI Dk.1
noncomputable abbrev Dm:=cI Dk.2.1
noncomputable abbrev Hy:=cI Dk.2.2
noncomputable abbrev Dn:=fq (top 23) rfl
noncomputable abbrev Ly:=cI Dn.1
noncomputable abbrev HA:=cI Dn.2.1
noncomputable abbrev Lz:=cI Dn.2.2
noncomputable abbrev Dq:=fq (top 25) rfl
noncomputable abbrev LA:=cI Dq.1
noncomputable abbrev LB:=cI Dq.2.1
noncomputable abbrev LC:=cI Dq.2.2
noncomputable abbrev Dr:=fq (top 26) rfl
noncomputable abbrev LD:=cI Dr.1
noncomputable abbrev LG:=cI Dr.2.1
noncomputable abbrev LH:=cI Dr.2.2
noncomputable abbrev Ds:=fq (top 27) rfl
noncomputable abbrev LJ:=cI Ds.1
noncomputable abbrev LK:=cI Ds.2.1
noncomputable abbrev LL:=cI Ds.2.2
noncomputable abbrev Dt:=fq (top 28) rfl
noncomputable abbrev LM:=cI Dt.1
noncomputable abbrev LN:=cI Dt.2.1
noncomputable abbrev LO:=cI Dt.2.2
noncomputable abbrev Du:=fq (top 29) rfl
noncomputable abbrev LP:=cI Du.1
noncomputable abbrev LQ:=cI Du.2.1
noncomputable abbrev Dv:=cI Du.2.2
noncomputable abbrev Dw:=fq (top 30) rfl
noncomputable abbrev LR:=cI Dw.1
noncomputable abbrev LS:=cI Dw.2.1
noncomputable abbrev HB:=cI Dw.2.2
noncomputable abbrev Dx:=fq (top 31) rfl
noncomputable abbrev LU:=cI Dx.1
noncomputable abbrev LV:=cI Dx.2.1
noncomputable abbrev HC:=cI Dx.2.2
noncomputable abbrev Dy:=fq (top 32) rfl
noncomputable abbrev LW:=cI Dy.1
noncomputable abbrev LX:=cI Dy.2.1
noncomputable abbrev HD:=cI Dy.2.2
noncomputable abbrev Dz:=fq (top 33) rfl
noncomputable abbrev LY:=cI Dz.1
noncomputable abbrev LZ:=cI Dz.2.1
noncomputable abbrev HE:=cI Dz.2.2
noncomputable abbrev DA:=fq (top 34) rfl
noncomputable abbrev L0:=cI DA.1
noncomputable abbrev L1:=cI DA.2.1
noncomputable abbrev HF:=cI DA.2.2
noncomputable def K:PySem.Params->Frag:=λP=>
 (nat_lit 0,(ob "dict" (dc [ve P 0xbf7f2edc3bafdf 1 (vq 0xe7bb4f4d9a7ae2 160),ve P 421105403244511 2 (vb "builtins.__doc__:str#opaque"),ve P 0x17efe5cf875e3c3c2fdf 3 (vb "builtins.__package__:str#opaque"),ve P 0x2fdfe597261dfb2fdf 4 (vb "builtins.__loader__:shared#opaque"),ve P 0xbf7f1e5e1cefdf 5 (vb "builtins.__spec__#opaque"),ve P 0x17eff3e787663bf93669eb8afdf 6 (vb "__build_class__"),ve P 0x2fdfe9cb7f0dba6fdf 7 (vb "__import__"),ve P 1896801 8 (vb "abs"),ve P 1783393 9 (vb "all"),ve P 1996641 10 (vb "any"),ve P 28407560673 11 (vb "ascii"),ve P 1815778 12 (vb "bin"),ve P 0x3a6ed3bf86bc397962 13 (vb "breakpoint"),ve P 0xcbb3161d9b30e3 14 (vb "callable"),ve P 1881187 15 (vb "chr"),ve P 447941971769315 16 (vb "compile"),ve P 505394375635684 17 (vb "delattr"),ve P 1881316 18 (vb "dir"),ve P 3466000708836 19 (vb "divmod"),ve P 228096869 20 (vb "eval"),ve P 209288293 21 (vb "exec"),ve P 4011998361574 22 (vb "format"),ve P 505394375766759 23 (vb "getattr"),ve P 509512446113383 24 (vb "globals"),ve P 505394375749864 25 (vb "hasattr"),ve P 220000488 26 (vb "hash"),ve P 1979112 27 (vb "hex"),ve P 12905 28 (vb "id"),ve P 31385728873 29 (vb "input"),ve P 0x32e3dd87a73dda79e9 30 (vb "isinstance"),ve P 0x39f3c3b31e2ebcf9e9 31 (vb "issubclass"),ve P 240745065 32 (vb "iter"),ve P 30815368417 33 (vb "aiter"),ve P 1815276 34 (vb "len"),ve P 3980566001644 35 (vb "locals"),ve P 1978605 36 (vb "max"),ve P 1815789 37 (vb "min"),ve P 245248750 38 (vb "next"),ve P 31391840097 39 (vb "anext"),ve P 1913327 40 (vb "oct"),ve P 1653103 41 (vb "ord"),ve P 1964016 42 (vb "pow"),ve P 31370934640 43 (vb "print"),ve P 240923378 44 (vb "repr"),ve P 27076163570 45 (vb "round"),ve P 505394375766771 46 (vb "setattr"),ve P 3463330969587 47 (vb "sorted"),ve P 1800947 48 (vb "sum"),ve P 243052790 49 (vb "vars"),ve P 213628878 50 .none,ve P 0xe7a79f0d3b3645 51 Value.ellipsis,ve P 0x3265e9bb2edcbb386d93d37ce 52 Value.notImplemented,ve P 27354935494 53 (.bool false),ve P 213743956 54 (.bool true),ve P 228325346 55 (vt "bool"),ve P 0x3be5d3dbcf2dfb72ed 56 (vt "memoryview"),ve P 0x79c3cb961cbd3ce2 57 (vt "bytearray"),ve P 31083805922 58 (vt "bytes"),ve P 0x1937e8e9976f3e787663 59 (vt "classmethod"),ve P 531265142618083 60 (vt "complex"),ve P 244905188 61 (vt "dict"),ve P 0x65e987965dbd7765 62 (vt "enumerate"),ve P 3944367207654 63 (vt "filter"),ve P 31343769190 64 (vt "float"),ve P 0x74cbcf765f5bf966 65 (vt "frozenset"),ve P 0xf3d3965e1bf970 66 (vt "property"),ve P 1914729 67 (vt "int"),ve P 245167340 68 (vt "list"),ve P 1847533 69 (vt "map"),ve P 4012518322543 70 (vt "object"),ve P 27329802482 71 (vt "range"),ve P 0xc9979f2cbdb2f2 72 (vt "reversed"),ve P 1913587 73 (vt "set"),ve P 27321333363 74 (vt "slice"),ve P 0xc9bf474cbb71e9e987a73 75 (vt "staticmethod"),ve P 1882739 76 (vt "str"),ve P 30815304435 77 (vt "super"),ve P 27340323572 78 (vt "tuple"),ve P 213662964 79 (vt "type"),ve P 1848570 80 (vt "zip"),ve P 0x5fbf9fae2cb92fdf 81 (.bool true),ve P 0x6edfa7a70cb8fc45cbcf0c2 82 (vt "BaseException"),ve P 0x3875dfca3eedfa7a70cb8fc45cbcf0c2 83 (vt "BaseExceptionGroup"),ve P 0x6edfa7a70cb8fc45 84 (vt "Exception"),ve P 0x74d3e22f2dfd30f2cbbb2c7 85 (vt "GeneratorExit"),ve P 0x74e1d7972cbd3749c9cb0efc5e72cb 86 (vt "KeyboardInterrupt"),ve P 0x3a69f1176e5e9cfcd3 87 (vt "SystemExit"),ve P 0x1cb7f2e5171e9e9976e8e9a7941 88 (vt "ArithmeticError"),ve P 0x396fe5ca2eedfa7a72cbcf9c1 89 (vt "AssertionError"),ve P 0x396fe5ca2e5e9d7169e5d3a41 90 (vt "AttributeError"),ve P 0x1cb7f2e517965cd9bac2 91 (vt "BufferError"),ve P 0xe5bf9728b1a7c5 92 (vt "EOFError"),ve P 0x1cb7f2e517a72dfc36c9 93 (vt "ImportError"),ve P 0x1cb7f2e517875d7bf7cc 94 (vt "LookupError"),ve P 0x1cb7f2e517cf2dfb72cd 95 (vt "MemoryError"),ve P 0x72dfcb945cbb70ce 96 (vt "NameError"),ve P 505222075083215 97 (vt "OSError"),ve P 0x396fe5ca2e5c7bb2f2cb9b2d2 98 (vt "ReferenceError"),ve P 0xe5bf9728b976e9e9bbad2 99 (vt "RuntimeError"),ve P 0x376fd3d30f2cbd24e3dde79c1e1bfa53 100 (vt "StopAsyncIteration"),ve P 0x6edfa7a61e597a49e1bfa53 101 (vt "StopIteration"),ve P 0x1cb7f2e517c61e9bbcd3 102 (vt "SyntaxError"),ve P 0x1cb7f2e5176e5e9cfcd3 103 (vt "SystemError"),ve P 0x72dfcb945cbc3cd4 104 (vt "TypeError"),ve P 0x396fe5ca2e5ebb30d6 105 (vt "ValueError"),ve P 456806780154071 106 (vt "Warning"),ve P 0x396fe5ca2f4dda77d0cfbb4f4c3bf646 107 (vt "FloatingPointError"),ve P 0x72dfcb945efbf666e597b4f 108 (vt "OverflowError"),ve P 0x72dfcb945ddbf4f3d3db4c4dfcb2da 109 (vt "ZeroDivisionError"),ve P 0xcfbb4eee586bf3cbd3cc2 110 (vt "BytesWarning"),ve P 0x33eed3bb961afbb7e9e9871e5e5c32c4 111 (vt "DeprecationWarning"),ve P 0x19f769ddcb0d7cfbb4e4df8f745 112 (vt "EncodingWarning"),ve P 0x67dda7772c35f2f2ebd3ac6 113 (vt "FutureWarning"),ve P 0x67dda7772c35fa72dfc36c9 114 (vt "ImportWarning"),ve P 0x67dda7772c35f76fd3d30e3cbcb865899f769c9bb2d0 115 (vt "PendingDeprecationWarning"),ve P 0x19f769ddcb0d7cb8f975dfcf2d2 116 (vt "ResourceWarning"),ve P 0x33eed3bb961af976e9e9bbad2 117 (vt "RuntimeWarning"),ve P 0x67dda7772c35fc61e9bbcd3 118 (vt "SyntaxWarning"),ve P 0x33eed3bb961af9726fc7a7755 119 (vt "UnicodeWarning"),ve P 0x19f769ddcb0d7e5979d5 120 (vt "UserWarning"),ve P 0x1cb7f2e5167c9cfbb4ebc7bf642 121 (vt "BlockingIOError"),ve P 0x72dfcb945e7cf2e3dfca864d9a7443 122 (vt "ChildProcessError"),ve P 0x1cb7f2e51776fd3d31e5ddbb7c3 123 (vt "ConnectionError"),ve P 0x1cb7f2e5179f4e7a7c45cbb34c6 124 (vt "FileExistsError"),ve P 0x72dfcb945c9bbaef8dd37cecbb34c6 125 (vt "FileNotFoundError"),ve P 0xe5bf9728b932f4e1d7972cbd3749 126 (vt "InterruptedError"),ve P 0x72dfcb945f3cb7f4c79796989079c9 127 (vt "IsADirectoryError"),ve P 0x396fe5ca2f9e5bfa63cbcb4c483d37ce 128 (vt "NotADirectoryError"),ve P 0x1cb7f2e51776fd3cf9e9dbcb2d0 129 (vt "PermissionError"),ve P 0x396fe5ca2f0ebaf7ef99cf9e5c7bf950 130 (vt "ProcessLookupError"),ve P 0xe5bf9728bd3aefcbb74d4 131 (vt "TimeoutError"),ve P 0xe5bf9728bbb7e9e987a6ecb93749 132 (vt "IndentationError"),ve P 0x72dfcb945e9d786e9397a65d9c36efc7ba4df 133 (vt "_IncompleteInputError"),ve P 0x396fe5ca2f8cb93749 134 (vt "IndexError"),ve P 0xe5bf9728be72cb 135 (vt "KeyError"),ve P 0x1cb7f2e51726eebbe374df3b2eceb937cd 136 (vt "ModuleNotFoundError"),ve P 0x1cb7f2e517265e9bb2edcbb386d93d37ce 137 (vt "NotImplementedError"),ve P 0x1cb7f2e51776fd3d30fad3b30eed31b76fd1d3cd0 138 (vt "PythonFinalizationError"),ve P 0x396fe5ca2eedfa79f2eb8f2d2 139 (vt "RecursionError"),ve P 0x72dfcb945d9871ef9993775df8b755 140 (vt "UnboundLocalError"),ve P 0xe5bf9728b9726fc7a7755 141 (vt "UnicodeError"),ve P 0x1cb7f2e5172f0d343765d7bf942 142 (vt "BrokenPipeError"),ve P 0x396fe5ca2e4cbd396fc50776fd3d31e5ddbb7c3 143 (vt "ConnectionAbortedError"),ve P 0x396fe5ca2e4cbcfae6cb4b76fd3d31e5ddbb7c3 144 (vt "ConnectionRefusedError"),ve P 0xe5bf9728bd32f3cb4b76fd3d31e5ddbb7c3 145 (vt "ConnectionResetError"),ve P 0xe5bf9728b8b0d4 146 (vt "TabError"),ve P 0x396fe5ca2e5c9bf1e5899726fc7a7755 147 (vt "UnicodeDecodeError"),ve P 0x396fe5ca2e5c9bf1ee8b9726fc7a7755 148 (vt "UnicodeEncodeError"),ve P 0x72dfcb945cbd30ece7bb0f2a99726fc7a7755 149 (vt "UnicodeTranslateError"),ve P 0x3875dfca3eedfa7a70cb8fc45 150 (vt "ExceptionGroup"),ve P 0xe5bf9728bd3765dbbb7f2d3db745 151 (vt "OSError"),ve P 505222075082697 152 (vt "OSError"),ve P 232355951 153 (vb "open"),ve P 245005041 154 (vb "builtins.quit#opaque"),ve P 245005413 155 (vb "builtins.exit#opaque"),ve P 0x74d19f4f2f3c37e3 156 (vb "builtins.copyright#opaque"),ve P 509789475535203 157 (vb "builtins.credits#opaque"),ve P 448183808881900 158 (vb "builtins.license#opaque"),ve P 236663528 159 (vb "builtins.help#opaque")] 159)))::
 (nat_lit 1,(ob "dict" (dc [ve P 0xe7bb4f4d9a7ae2 162 (vr 4),ve P 0xbf7f769c3b6fdf 163 (vr 5),ve P 220016877 288 (vr 13)] 3)))::
 (nat_lit 2,(PySem.Obj.mk .none none (dc [ve P 0x3474c3b5764cb930efd8bba72dfc36e9 189 (.bool true),ve P 0x39e3d3cf0c2e597261df32faed987772cbd3c65bf8b4ece9cb7f0dba6feecbeb7f2cd7d773e787663 194 (vr 16),ve P 0x3a72dfc36e95d932e8c7d30f7 210 (vr 20),ve P 0x1cb2e4c3be665d9a632ed987772cbd3c65bf8b4ece9cb7f0dba6feecbeb7f2cd7d773e787663 211 (vr 22),ve P 0xe597261df332ecd31b76fd3cf765e9e22aed987772cbd3c65bf8b4ece9cb7f0dba6feecbeb7f2cd7d773e787663 232 (vr 27),ve P 0x31e5e14f2eceb937cd5d8b4ece9cb7f0dba6feecbeb7f2cd7d773e787663 260 (vr 33),ve P 0xd18f7f0cab7265d7bf7e25dcf2eceb937ed5dcfcf3 289 (i6 3 0),ve P 0x3474c3b5764d38762de597a61d8bba72dfc36e9 365 (.bool true),ve P 0x1e7961e58b4ec5d932e8c7d30f7 367 (vr 38),ve P 0x1cfa63cbab16f5be7961e58b4ec5d932e8c7d30f7 0 (vq 13 0)] 10) (List.toArray [])))::
 (nat_lit 3,(ob "dict" (dc [ve P 0xbf7f2edc3bafdf 165 (vq 0x31617dab260c366bbfdf0ec 986),ve P 421105403244511 166 .none,ve P 0x17efe5cf875e3c3c2fdf 167 .none,ve P 0x2fdfe597261dfb2fdf 168 (vb "__main__.__loader__#opaque"),ve P 0xbf7f1e5e1cefdf 169 .none,ve P 0x17eff3ddbf4f4c3d37eedd86fdf 170 (vr 6),ve P 0xbf7f9eed3d3669eb8afdf 171 (vr 4),ve P 0xbf7f2ecd39afdf 173 (vq 0x79e0bba75c6bf6e9c3b31af 172),ve P 0x2fdfc997463c38efdf 174 .none,ve P 230521318 373 (vb "math.fsum"),ve P 0xcbd34eed39b9e9 376 (vb "math.isfinite"),ve P 27612838377 379 (vb "math.isinf"),ve P 245151987 382 (vb "math.sqrt"),ve P 443649420393203 385 (vb "math.sumprod"),ve P 29219126239 398 (vr 49),ve P 0xe597a74cb9f2ece1d7a5f 457 (vr 88),ve P 0x1cb7f2e5179e3d3d39e9e987a53 475 (vr 102),ve P 0x8b6a4d3b1066df 479 (i6 9223372036854775807 478),ve P 513981353358559 487 (vr 112),ve P 29219453023 494 (vr 119),ve P 27342174687 502 (vr 126),ve P 535561194174823 593 (vr 167),ve P 0xe597875dfcb3df 647 (vr 212),ve P 0x193769d77fa6eebbf1df 655 (vr 224),ve P 31371130851 720 (vr 265),ve P 0x3965e9d32e7db97a69 784 (vr 310),ve P 28954884447 814 (vr 321),ve P 29732992742 828 (vr 329),ve P 0x64dfcb874e5c79df 840 (vr 336),ve P 0x32e3dd874f2c3db7e3 853 (vr 343),ve P 0x1bb7e9e987665e5cb7e3 862 (vr 349),ve P 0xddbf4f3e797967cb4b961cbbb4cc 977 (vr 417),ve P 0x6edfa79f3cbcb3e5e57f961cbbb4ec 985 (vr 426),ve P 0x39f2d38785fef8765f 993 (vr 431),ve P 0x1cf26ec3d39dfef8765f 999 (vr 436),ve P 0xc9979f5cd9795fef8765f 1008 (vr 443),ve P 0x1cfa61dfb335fef8765f 1014 (vr 448),ve P 0x39ebdd8795fef8765f 1020 (vr 453),ve P 0x65dda765fef8765f 1037 (vr 460),ve P 0x1932e5e59f0dfef8765f 1043 (vr 465),ve P 0xc997467d397bdfef8765f 1049 (vr 470),ve P 0x6cc39725fef8765f 1059 (vr 477),ve P 1962220 1065 (vr 482)] 43)))::
 (nat_lit 4,(PySem.Obj.mk (vt "module") (some 0) .plain (List.toArray [])))::
 (nat_lit 5,(PySem.Obj.mk (vt "module") (some 3) .plain (List.toArray [])))::
 (nat_lit 6,(ob "dict" (dc [] 0)))::
 (nat_lit 7,(ob "tuple" (sq [] 0)))::
 (nat_lit 8,(PySem.Obj.mk .none none (fl []) (List.toArray [])))::
 (nat_lit 9,(ob "code" (fl [(cj "<module>" 176),(cj "<module>" 177),(cj "/claim/cut.py" 178),(i6 1 0),(i6 0 0),(i6 0 0),(i6 0 0),(i6 0 0),(vr 7),(.bool false),(i6 175 0),(vr 8),.none,.none,.none,.none,(i6 179 0),(i6 1 0),(cj "/claim/cut.py" 180)])))::
 (nat_lit 10,(PySem.Obj.mk (vt "frame") none .plain (List.toArray [(some (vr 9)),(some (vr 3)),(some (vr 3)),none,(some (cj "__main__" 164)),none,(some (vr 0))])))::
 (nat_lit 11,(ob "tuple" (sq [(cj "fsum" 182),(cj "isfinite" 183),(cj "isinf" 184),(cj "sqrt" 185),(cj "sumprod" 186)] 0)))::
 (nat_lit 12,(ob "dict" (dc [ve P 0xbf7f2edc3bafdf 291 (vq 220016877 290),ve P 421105403244511 292 (vb "off-the-table:math.__doc__:shared#opaque"),ve P 0x17efe5cf875e3c3c2fdf 294 (vq 0 293),ve P 0x2fdfe597261dfb2fdf 295 (vb "off-the-table:math.__loader__:shared#opaque"),ve P 0xbf7f1e5e1cefdf 296 (vb "off-the-table:math.__spec__:shared#opaque"),ve P 243003873 297 (vb "off-the-table:math.acos:shared#opaque"),ve P 28160291297 298 (vb "off-the-table:math.acosh:shared#opaque"),ve P 232421857 299 (vb "off-the-table:math.asin:shared#opaque"),ve P 28149709281 300 (vb "off-the-table:math.asinh:shared#opaque"),ve P 232290913 301 (vb "off-the-table:math.atan:shared#opaque"),ve P 13654063713 302 (vb "off-the-table:math.atan2:shared#opaque"),ve P 28149578337 303 (vb "off-the-table:math.atanh:shared#opaque"),ve P 245150051 304 (vb "off-the-table:math.cbrt:shared#opaque"),ve P 228225763 305 (vb "math.ceil"),ve P 0xdd9f4f3f3c37e3 306 (vb "math.copysign"),ve P 1898467 307 (vb "off-the-table:math.cos:shared#opaque"),ve P 220002275 308 (vb "off-the-table:math.cosh:shared#opaque"),ve P 509273035109092 309 (vb "math.degrees"),ve P 245167332 310 (vb "math.dist"),ve P 1685861 311 (vb "off-the-table:math.erf:shared#opaque"),ve P 209303909 312 (vb "off-the-table:math.erfc:shared#opaque"),ve P 1850469 313 (vb "off-the-table:math.exp:shared#opaque"),ve P 106708069 314 (vb "off-the-table:math.exp2:shared#opaque"),ve P 13383777381 315 (vb "off-the-table:math.expm1:shared#opaque"),ve P 242790630 316 (vb "math.fabs"),ve P 0x6cc3a796fe98f0e6 317 (vb "math.factorial"),ve P 30836258406 318 (vb "math.floor"),ve P 1603302 319 (vb "math.fma"),ve P 211547878 320 (vb "math.fmod"),ve P 30318098790 321 (vb "math.frexp"),ve P 230521318 322 (vb "math.fsum"),ve P 26268627175 323 (vb "off-the-table:math.gamma:shared#opaque"),ve P 1651175 324 (vb "math.gcd"),ve P 31373147368 325 (vb "math.hypot"),ve P 448184091998697 326 (vb "math.isclose"),ve P 0xcbd34eed39b9e9 327 (vb "math.isfinite"),ve P 27612838377 328 (vb "math.isinf"),ve P 29733140969 329 (vb "math.isnan"),ve P 31379454441 330 (vb "math.isqrt"),ve P 1798636 331 (vb "math.lcm"),ve P 30318097004 332 (vb "math.ldexp"),ve P 3362384278508 333 (vb "off-the-table:math.lgamma:shared#opaque"),ve P 1701868 334 (vb "off-the-table:math.log:shared#opaque"),ve P 30169233388 335 (vb "off-the-table:math.log1p:shared#opaque"),ve P 12989364204 336 (vb "off-the-table:math.log10:shared#opaque"),ve P 106559468 337 (vb "off-the-table:math.log2:shared#opaque"),ve P 215562221 338 (vb "math.modf"),ve P 1964016 339 (vb "off-the-table:math.pow:shared#opaque"),ve P 509581180088562 340 (vb "math.radians"),ve P 0x72cb93769c3b72f2 341 (vb "math.remainder"),ve P 1815795 342 (vb "off-the-table:math.sin:shared#opaque"),ve P 219919603 343 (vb "off-the-table:math.sinh:shared#opaque"),ve P 245151987 344 (vb "math.sqrt"),ve P 1814772 345 (vb "off-the-table:math.tan:shared#opaque"),ve P 219918580 346 (vb "off-the-table:math.tanh:shared#opaque"),ve P 443649420393203 347 (vb "math.sumprod"),ve P 26807728500 348 (vb "math.trunc"),ve P 211548528 349 (vb "math.prod"),ve P 230470384 350 (vb "math.perm"),ve P 207321059 351 (vb "math.comb"),ve P 0x72cbd3361e9e32ee 352 (vb "math.nextafter"),ve P 1848949 353 (vb "math.ulp"),ve P 0xbf7f2ecd39afdf 354 (vq 0x1bf9aeebbb3adf1d7769d8b5a36bed9c785acd8b35bbb7e8e9e78635da3a61dabf261dfb3779c8b7169d8bd9b15ccf76fd1d3cf05f8b4ec5ed58ae66c57335acf76fd1d3cf05adb8686fdf76ed1ddbec6d89b7261b1be3d5b7834f3af8b66b998eaeebf2f2dfd39aff1a772f 190),ve P 13552 356 (Value.float 4614256656552045848 355),ve P 101 358 (Value.float 4613303445314885481 357),ve P 1929460 360 (Value.float 4618760256179416344 359),ve P 1685353 362 (Value.float 9218868437227405312 361),ve P 1814766 364 (Value.float 9221120237041090560 363)] 68)))::
 (nat_lit 13,(PySem.Obj.mk (vt "module") (some 12) .plain (List.toArray [])))::
 (nat_lit 14,(ob "dict" (dc [ve P 213610734 192 (vq 220016877 191),ve P 220016880 193 (vq 0x1bf9aeebbb3adf1d7769d8b5a36bed9c785acd8b35bbb7e8e9e78635da3a61dabf261dfb3779c8b7169d8bd9b15ccf76fd1d3cf05f8b4ec5ed58ae66c57335acf76fd1d3cf05adb8686fdf76ed1ddbec6d89b7261b1be3d5b7834f3af8b66b998eaeebf2f2dfd39aff1a772f 190)] 2)))::
 (nat_lit 15,(ob "dict" (dc [ve P 0x2fdfcbb3ae4dfb6fdf 197 (vq 0x3661ddcb2f4f196fe2d3b3a72dfc36e9bfbb2fadfcb35f 195),ve P 0x17efefdd97769d9d39f2d39afdf 198 (i6 1001 196),ve P 421105403244511 199 (vb "_frozen_importlib_external._LoaderBasics.__doc__:str#opaque"),ve P 0x32e7c3af1e1e17f9e9 200 (vb "_frozen_importlib_external._LoaderBasics.is_package#opaque"),ve P 0x65d9d726fdb7f2f4c397963 201 (vb "_frozen_importlib_external._LoaderBasics.create_module#opaque"),ve P 0x197675c9bf6dfc797c65 202 (vb "_frozen_importlib_external._LoaderBasics.exec_module#opaque"),ve P 0x197675c9bf6dfc9877ec 203 (vb "_frozen_importlib_external._LoaderBasics.load_module#opaque"),ve P 0x5fbfcf2f4eb8b4f2e9d30dfc7a7a61e9cefdf 204 (vr 17),ve P 0xbf7fa63d392fdf 206 (vr 18),ve P 0x17efe6cbcb5e1cbdefdf 208 (vr 19)] 10)))::
 (nat_lit 64,(ob "tuple" (sq [.none] 0)))::
 (nat_lit 70,(cd "__get__" "_tuplegetter.__get__" 422 423 424 12 3 0 0 3 65 66 (vr 67) (vr 68) (vr 69) 428 429))::
 (nat_lit 71,(ob "function" (fn "__get__" "_tuplegetter.__get__" P71 B71 S71 (vr 64) .none .none (cj "cpy313.statistics" 399) 70)))::
 (nat_lit 86,(ob "tuple" (sq [(cj "__doc__" 448),(cj "index" 449)] 0)))::
 (nat_lit 87,(ob "dict" (dc [ve P 0x2fdfcbb3ae4dfb6fdf 408 (vq 0x73c7a7a73d3d30f4e6b99b167e7863 399),ve P 0x17efefdd97769d9d39f2d39afdf 412 (i6 6 411),ve P 0xbf7fa69dda6fdf 421 (vr 63),ve P 421109945724895 430 (vr 71),ve P 421109945921503 439 (vr 78),ve P 0x2fdfcbd32eccb92fdf 447 (vr 85),ve P 0x5fbfcf2f4eb8b4f2e9d30dfc7a7a61e9cefdf 450 (vr 86),ve P 0xbf7fa63d392fdf 452 (vr 89),ve P 0x17efe6cbcb5e1cbdefdf 454 (vr 90),ve P 421105403244511 455 .none] 4)))::
 (nat_lit 88,(PySem.Obj.mk (vt "type") none (cl "_tuplegetter" [(vt "object")] [(vr 88),(vt "object")] 87 true []) (List.toArray [none,none,(some (cj "_tuplegetter" 401)),(some (cj "_tuplegetter" 409)),(some (vb "object.__new__")),(some (.bool true))])))::
 (nat_lit 89,(ob "getset_descriptor" (fl [(cj "__dict__" 451),(vr 88),(vb "function.__dict__"),(vb "function.__dict__#set")])))::
 (nat_lit 90,(ob "getset_descriptor" (fl [(cj "__weakref__" 453),(vr 88),(vb "ExceptionGroup.__weakref__"),.none])))::
 (nat_lit 93,(ob "tuple" (sq [(vt "ValueError")] 0)))::
 (nat_lit 100,(ob "tuple" (sq [] 0)))::
 (nat_lit 101,(ob "dict" (dc [ve P 0x2fdfcbb3ae4dfb6fdf 465 (vq 0x73c7a7a73d3d30f4e6b99b167e7863 399),ve P 0x17efefdd97769d9d39f2d39afdf 469 (i6 24 468),ve P 0x5fbfcf2f4eb8b4f2e9d30dfc7a7a61e9cefdf 470 (vr 100),ve P 0x17efe6cbcb5e1cbdefdf 472 (vr 103),ve P 421105403244511 473 .none] 3)))::
 (nat_lit 102,(PySem.Obj.mk (vt "type") none (cl "StatisticsError" [(vt "ValueError")] [(vr 102),(vt "ValueError"),(vt "Exception"),(vt "BaseException"),(vt "object")] 101 true []) (List.toArray [(some (vr 93)),none,(some (cj "StatisticsError" 458)),(some (cj "StatisticsError" 466)),(some (vb "ValueError.__new__")),(some (.bool true))])))::
 (nat_lit 103,(ob "getset_descriptor" (fl [(cj "__weakref__" 471),(vr 102),(vb "ExceptionGroup.__weakref__"),.none])))::
 (nat_lit 111,(cd "_is_int" "_is_int" 480 481 482 28 1 0 0 3 106 107 (vr 108) (vr 109) (vr 110) 485 486))::
 (nat_lit 112,(ob "function" (fn "_is_int" "_is_int" K5 K6 K7 .none .none .none (cj "itertools" 476) 111)))::
 (nat_lit 118,(cd "_pull" "_pull" 488 489 490 31 1 0 0 3 113 114 (vr 115) (vr 116) (vr 117) 492 493))::
 (nat_lit 119,(ob "function" (fn "_pull" "_pull" K8 zW f6 .none .none .none (cj "itertools" 476) 118)))::
 (nat_lit 125,(cd "_same" "_same" 495 496 497 36 2 0 0 3 120 121 (vr 122) (vr 123) (vr 124) 500 501))::
 (nat_lit 126,(ob "function" (fn "_same" "_same" K9 GO La .none .none .none (cj "itertools" 476) 125)))::
 (nat_lit 134,(ob "tuple" (sq [(cj "_keyfunc" 515),(cj "_it" 516),(cj "_has_tgtkey" 517),(cj "_tgtkey" 518),(cj "_has_currkey" 519),(cj "_currkey" 520),(cj "_has_currvalue" 521),(cj "_currvalue" 522),(cj "_currgrouper" 523),(cj "_serial" 524)] 0)))::
 (nat_lit 135,(ob "tuple" (sq [.none] 0)))::
 (nat_lit 141,(cd "__init__" "groupby.__init__" 526 527 528 45 3 0 0 3 136 137 (vr 138) (vr 139) (vr 140) 532 533))::
 (nat_lit 142,(ob "function" (fn "__init__" "groupby.__init__" Lb GP GQ (vr 135) .none .none (cj "itertools" 476) 141)))::
 (nat_lit 148,(cd "__iter__" "groupby.__iter__" 535 536 537 57 1 0 0 3 143 144 (vr 145) (vr 146) (vr 147) 539 540))::
 (nat_lit 149,(ob "function" (fn "__iter__" "groupby.__iter__" Lc GR GU .none .none .none (cj "itertools" 476) 148)))::
 (nat_lit 155,(cd "_step" "groupby._step" 542 543 544 60 1 0 0 3 150 151 (vr 152) (vr 153) (vr 154) 549 550))::
 (nat_lit 156,(ob "function" (fn "_step" "groupby._step" Ld w5 l9 .none .none .none (cj "itertools" 476) 155)))::
 (nat_lit 162,(cd "__next__" "groupby.__next__" 552 553 554 73 1 0 0 3 157 158 (vr 159) (vr 160) (vr 161) 557 558))::
 (nat_lit 163,(ob "function" (fn "__next__" "groupby.__next__" Le CV w6 .none .none .none (cj "itertools" 476) 162)))::
 (nat_lit 164,(ob "tuple" (sq [(cj "_currgrouper" 560),(cj "_currkey" 561),(cj "_currvalue" 562),(cj "_has_currkey" 563),(cj "_has_currvalue" 564),(cj "_has_tgtkey" 565),(cj "_it" 566),(cj "_keyfunc" 567),(cj "_serial" 568),(cj "_tgtkey" 569)] 0)))::
 (nat_lit 166,(ob "dict" (dc [ve P 0x2fdfcbb3ae4dfb6fdf 510 (vq 0x73d9bf7f4e597a69 476),ve P 0x17efefdd97769d9d39f2d39afdf 514 (i6 42 513),ve P 0x5fbfcfa6fd9cefdf 525 (vr 134),ve P 0xbf7fa69dda6fdf 534 (vr 142),ve P 0xbf7f965e9a6fdf 541 (vr 149),ve P 30278498783 551 (vr 156),ve P 0xbf7fa78cbbafdf 559 (vr 163),ve P 0x5fbfcf2f4eb8b4f2e9d30dfc7a7a61e9cefdf 570 (vr 164),ve P 0xe597875dfcb3f2e5d71df 572 (vr 168),ve P 0xf3975f2e5d71df 574 (vr 169),ve P 0x32f5d987b72e5d71df 576 (vr 170),ve P 0xf3975f2e5d71dfe78745f 578 (vr 171),ve P 0x32f5d987b72e5d71dfe78745f 580 (vr 172),ve P 0x1e72ebe99fa5fe78745f 582 (vr 173),ve P 1914079 584 (vr 174),ve P 0xc7bbae6f3975df 586 (vr 175),ve P 478350344288735 588 (vr 176),ve P 535662928984671 590 (vr 177),ve P 421105403244511 591 .none] 12)))::
 (nat_lit 167,(PySem.Obj.mk (vt "type") none (cl "groupby" [(vt "object")] [(vr 167),(vt "object")] 166 false [(so "_currgrouper"),(so "_currkey"),(so "_currvalue"),(so "_has_currkey"),(so "_has_currvalue"),(so "_has_tgtkey"),(so "_it"),(so "_keyfunc"),(so "_serial"),(so "_tgtkey")]) (List.toArray [none,none,(some (cj "groupby" 503)),(some (cj "groupby" 511)),(some (vb "object.__new__")),(some (.bool false))])))::
 (nat_lit 168,(md "_currgrouper" 571 167 9))::
 (nat_lit 169,(md "_currkey" 573 167 8))::
 (nat_lit 170,(md "_currvalue" 575 167 7))::
 (nat_lit 171,(md "_has_currkey" 577 167 6))::
 (nat_lit 172,(md "_has_currvalue" 579 167 5))::
 (nat_lit 173,(md "_has_tgtkey" 581 167 4))::
 (nat_lit 174,(md "_it" 583 167 3))::
 (nat_lit 175,(md "_keyfunc" 585 167 2))::
 (nat_lit 176,(md "_serial" 587 167 1))::
 (nat_lit 177,(md "_tgtkey" 589 167 0))::
 (nat_lit 187,(ob "tuple" (sq [(cj "_parent" 606),(cj "_tgtkey" 607),(cj "_number" 608)] 0)))::
 (nat_lit 193,(cd "__init__" "_grouper.__init__" 610 611 612 89 3 3 0 3 188 189 (vr 190) (vr 191) (vr 192) 616 617))::
 (nat_lit 194,(ob "function" (fn "__init__" "_grouper.__init__" Lg CX CY .none .none .none (cj "itertools" 476) 193)))::
 (nat_lit 200,(cd "__iter__" "_grouper.__iter__" 619 620 621 98 1 0 0 3 195 196 (vr 197) (vr 198) (vr 199) 623 624))::
 (nat_lit 201,(ob "function" (fn "__iter__" "_grouper.__iter__" Lh GV GW .none .none .none (cj "itertools" 476) 200)))::
 (nat_lit 207,(cd "__next__" "_grouper.__next__" 626 627 628 101 1 0 0 3 202 203 (vr 204) (vr 205) (vr 206) 632 633))::
 (nat_lit 208,(ob "function" (fn "__next__" "_grouper.__next__" Li w7 oh .none .none .none (cj "itertools" 476) 207)))::
 (nat_lit 209,(ob "tuple" (sq [(cj "_number" 635),(cj "_parent" 636),(cj "_tgtkey" 637)] 0)))::
 (nat_lit 211,(ob "dict" (dc [ve P 0x2fdfcbb3ae4dfb6fdf 601 (vq 0x73d9bf7f4e597a69 476),ve P 0x17efefdd97769d9d39f2d39afdf 605 (i6 86 604),ve P 0x5fbfcfa6fd9cefdf 609 (vr 187),ve P 0xbf7fa69dda6fdf 618 (vr 194),ve P 0xbf7f965e9a6fdf 625 (vr 201),ve P 0xbf7fa78cbbafdf 634 (vr 208),ve P 0x5fbfcf2f4eb8b4f2e9d30dfc7a7a61e9cefdf 638 (vr 209),ve P 504874173036383 640 (vr 213),ve P 513980319168607 642 (vr 214),ve P 535662928984671 644 (vr 215),ve P 421105403244511 645 .none] 5)))::
 (nat_lit 212,(PySem.Obj.mk (vt "type") none (cl "_grouper" [(vt "object")] [(vr 212),(vt "object")] 211 false [(so "_number"),(so "_parent"),(so "_tgtkey")]) (List.toArray [none,none,(some (cj "_grouper" 594)),(some (cj "_grouper" 602)),(some (vb "object.__new__")),(some (.bool false))])))::
 (nat_lit 213,(md "_number" 639 212 2))::
 (nat_lit 214,(md "_parent" 641 212 1))::
 (nat_lit 215,(md "_tgtkey" 643 212 0))::
 (nat_lit 223,(cd "_count_kind" "_count_kind" 648 649 650 115 1 0 0 3 218 219 (vr 220) (vr 221) (vr 222) 653 654))::
 (nat_lit 224,(ob "function" (fn "_count_kind" "_count_kind" Lj C5 C6 .none .none .none (cj "itertools" 476) 223)))::
 (nat_lit 232,(ob "tuple" (sq [(cj "_fast" 668),(cj "_cnt" 669),(cj "_step" 670)] 0)))::
 (nat_lit 233,(ob "tuple" (sq [(i6 0 672),(i6 1 673)] 0)))::
 (nat_lit 239,(cd "__init__" "count.__init__" 674 675 676 127 3 0 0 3 234 235 (vr 236) (vr 237) (vr 238) 683 684))::
 (nat_lit 240,(ob "function" (fn "__init__" "count.__init__" Lk GX GY (vr 233) .none .none (cj "itertools" 476) 239)))::
 (nat_lit 246,(cd "__iter__" "count.__iter__" 686 687 688 139 1 0 0 3 241 242 (vr 243) (vr 244) (vr 245) 690 691))::
 (nat_lit 247,(ob "function" (fn "__iter__" "count.__iter__" Ll GZ G0 .none .none .none (cj "itertools" 476) 246)))::
 (nat_lit 253,(cd "__next__" "count.__next__" 693 694 695 142 1 0 0 3 248 249 (vr 250) (vr 251) (vr 252) 698 699))::
 (nat_lit 254,(ob "function" (fn "__next__" "count.__next__" Lm Hh Hj .none .none .none (cj "itertools" 476) 253)))::
 (nat_lit 262,(ob "tuple" (sq [(cj "_cnt" 708),(cj "_fast" 709),(cj "_step" 710)] 0)))::
 (nat_lit 264,(ob "dict" (dc [ve P 0x2fdfcbb3ae4dfb6fdf 663 (vq 0x73d9bf7f4e597a69 476),ve P 0x17efefdd97769d9d39f2d39afdf 667 (i6 124 666),ve P 0x5fbfcfa6fd9cefdf 671 (vr 232),ve P 0xbf7fa69dda6fdf 685 (vr 240),ve P 0xbf7f965e9a6fdf 692 (vr 247),ve P 0xbf7fa78cbbafdf 700 (vr 254),ve P 0xbf7f970cbcafdf 707 (vr 261),ve P 0x5fbfcf2f4eb8b4f2e9d30dfc7a7a61e9cefdf 711 (vr 262),ve P 245084639 713 (vr 266),ve P 31381287775 715 (vr 267),ve P 30278498783 717 (vr 268),ve P 421105403244511 718 .none] 5)))::
 (nat_lit 265,(PySem.Obj.mk (vt "type") none (cl "count" [(vt "object")] [(vr 265),(vt "object")] 264 false [(so "_cnt"),(so "_fast"),(so "_step")]) (List.toArray [none,none,(some (cj "count" 656)),(some (cj "count" 664)),(some (vb "object.__new__")),(some (.bool false))])))::
 (nat_lit 266,(md "_cnt" 712 265 2))::
 (nat_lit 267,(md "_fast" 714 265 1))::
 (nat_lit 268,(md "_step" 716 265 0))::
 (nat_lit 278,(ob "tuple" (sq [(cj "_items" 738)] 0)))::
 (nat_lit 284,(cd "__init__" "itemgetter.__init__" 740 741 742 158 2 2 0 7 279 280 (vr 281) (vr 282) (vr 283) 746 747))::
 (nat_lit 285,(ob "function" (fn "__init__" "itemgetter.__init__" Ln Dd Hm .none .none (.str (dq Dd rfl) 748) (cj "operator" 721) 284)))::
 (nat_lit 291,(cd "__call__" "itemgetter.__call__" 750 751 752 162 2 2 0 3 286 287 (vr 288) (vr 289) (vr 290) 758 759))::
 (nat_lit 292,(ob "function" (fn "__call__" "itemgetter.__call__" Lo w8 zX .none .none (.str (dq w8 rfl) 760) (cj "operator" 721) 291)))::
 (nat_lit 307,(ob "tuple" (sq [(cj "_items" 779)] 0)))::
 (nat_lit 309,(ob "dict" (dc [ve P 0x2fdfcbb3ae4dfb6fdf 730 (vq 0xe5bfa61e59786f 721),ve P 0x17efefdd97769d9d39f2d39afdf 734 (i6 152 733),ve P 421105403244511 736 (vq 0x14dd676f9205975adbe48165d656f92841cf772ebd32f240a7928ce8366cc38d065d1d102c52cd02c6a8163251cb2f4e9973edcbd34a07a833a0e597a66822975d656f920e7bb975e99792053c946641b3661c6832e8e88162964a3965e9d32e7db97a6940f506641cb2f4cd0452ec9bb0f2cbc37a0e7d34a0dbbf96640a79a8db97a6941bb2f6d39d065d1d1073cba31f4cb99074c3a3a20e98f2eac5bd065d98b0ecd9871a0c283772ebd32d2 735),ve P 0x5fbfcfa6fd9cefdf 739 (vr 278),ve P 0xbf7fa69dda6fdf 749 (vr 285),ve P 0xbf7f66cc38efdf 761 (vr 292),ve P 0xbf7f970cbcafdf 770 (vr 299),ve P 0x2fdfcb8fae4cbcafdf 778 (vr 306),ve P 0x5fbfcf2f4eb8b4f2e9d30dfc7a7a61e9cefdf 780 (vr 307),ve P 3980843103455 782 (vr 311)] 2)))::
 (nat_lit 310,(PySem.Obj.mk (vt "type") none (cl "itemgetter" [(vt "object")] [(vr 310),(vt "object")] 309 false [(so "_items")]) (List.toArray [none,none,(some (cj "itemgetter" 723)),(some (cj "itemgetter" 731)),(some (vb "object.__new__")),(some (.bool false))])))::
 (nat_lit 311,(md "_items" 781 310 0))::
 (nat_lit 314,(ob "dict" (dc [ve P 1995499 789 .none,ve P 448184882934514 790 (.bool false),ve P 242840820 791 (vq 447768029657953 787),ve P 31379192435 792 (i6 1 788)] 4)))::
 (nat_lit 320,(cd "_rank" "_rank" 793 794 795 185 1 1 4 3 315 316 (vr 317) (vr 318) (vr 319) 811 812))::
 (nat_lit 321,(ob "function" (fn "_rank" "_rank" Lp zY Hp .none (vr 314) (.str (dq zY rfl) 813) (cj "cpy313.statistics" 785) 320)))::
 (nat_lit 322,(ob "tuple" (sq [.none] 0)))::
 (nat_lit 328,(cd "fmean" "fmean" 815 816 817 231 2 0 0 3 323 324 (vr 325) (vr 326) (vr 327) 825 826))::
 (nat_lit 329,(ob "function" (fn "fmean" "fmean" Lq Hq Lr (vr 322) .none (.str (dq Hq rfl) 827) (cj "cpy313.statistics" 785) 328)))::
 (nat_lit 335,(cd "_sqrtprod" "_sqrtprod" 829 830 831 265 2 0 0 3 330 331 (vr 332) (vr 333) (vr 334) 837 838))::
 (nat_lit 336,(ob "function" (fn "_sqrtprod" "_sqrtprod" Ls Hv w9 .none .none (.str (dq Hv rfl) 839) (cj "cpy313.statistics" 785) 335)))::
 (nat_lit 342,(cd "covariance" "covariance" 841 842 843 280 2 2 0 3 337 338 (vr 339) (vr 340) (vr 341) 850 851))::
 (nat_lit 343,(ob "function" (fn "covariance" "covariance" Lu Hw Lv .none .none (.str (dq Hw rfl) 852) (cj "cpy313.statistics" 785) 342)))::
 (nat_lit 344,(ob "dict" (dc [ve P 3465990189805 855 (vq 3943262041324 854)] 1)))::
 (nat_lit 348,(cd "correlation" "correlation" 856 857 858 306 2 2 1 3 345 346 .none .none (vr 347) 859 860))::
 (nat_lit 349,(ob "function" (fn "correlation" "correlation" Lw xa Hx .none (vr 344) (.str (dq xa rfl) 861) (cj "cpy313.statistics" 785) 348)))::
 (nat_lit 350,(ob "tuple" (sq [(vt "tuple")] 0)))::
 (nat_lit 353,(ob "cell" (PySem.Data.cell (some (vr 417)))))::
 (nat_lit 358,(ob "tuple" (sq [] 0)))::
 (nat_lit 359,(ob "tuple" (sq [(cj "slope" 879),(cj "intercept" 880)] 0)))::
 (nat_lit 360,(ob "dict" (dc [] 0)))::
 (nat_lit 366,(cd "__new__" "LinearRegression.__new__" 883 884 885 358 3 0 0 3 361 362 (vr 363) (vr 364) (vr 365) 889 890))::
 (nat_lit 367,(ob "function" (fn "__new__" "LinearRegression.__new__" Lx Dm Hy .none .none (.str (dq Dm rfl) 891) (cj "cpy313.statistics" 785) 366)))::
 (nat_lit 375,(ob "dict" (dc [ve P 0x2fdfcbb3ae4dfb6fdf 903 (vq 0x73c7a7a73d3d30f4e6b99b167e7863 785),ve P 0xbf7f2edc3bafdf 906 (vq 27337979615 905),ve P 0xbf7f2edc3bb661ebc6fdf 909 (vq 0x32ebc3b6faeddbf4f3e797967cb4b961cbbb4cc 908),ve P 421105403244511 911 (vq 0x32ecc587965e9a5072de832e3dd97af1cbcd06141b77f2cc83a63cbab16f41bb7e9e7cf2f2cf96972c3977699883be5dc830a0cbaf0cd 901),ve P 0x17eff3ddbf4f4c3d37eedd86fdf 913 (vr 377)] 5)))::
 (nat_lit 376,(PySem.Obj.mk (vt "classmethod") (some 375) (fl [(vr 374),(.bool false)]) (List.toArray [])))::
 (nat_lit 377,(ob "dict" (dc [] 0)))::
 (nat_lit 378,(ob "tuple" (sq [(vr 353)] 0)))::
 (nat_lit 407,(ob "tuple" (sq [(cj "slope" 950),(cj "intercept" 951)] 0)))::
 (nat_lit 408,(ob "dict" (dc [ve P 32425719657 959 (i6 0 953),ve P 421105403244511 961 (vq 0x6083965c5b7aee4193665d399072df99073c3a7641 954)] 2)))::
 (nat_lit 409,(PySem.Obj.mk (vr 88) (some 408) .plain (List.toArray [])))::
 (nat_lit 411,(ob "dict" (dc [ve P 32425719657 969 (i6 1 963),ve P 421105403244511 971 (vq 0x6283965c5b7aee4193665d399072df99073c3a7641 964)] 2)))::
 (nat_lit 412,(PySem.Obj.mk (vr 88) (some 411) .plain (List.toArray [])))::
 (nat_lit 414,(ob "tuple" (sq [] 0)))::
 (nat_lit 416,(ob "dict" (dc [ve P 0x2fdfcbb3ae4dfb6fdf 870 (vq 0x73c7a7a73d3d30f4e6b99b167e7863 785),ve P 0x17efefdd97769d9d39f2d39afdf 874 (i6 352 873),ve P 421105403244511 876 (vq 0x14f4e1971f2cbd376940b32f0dfb39a8ddbf4f3e797967cb4b961cbbb4cc 875),ve P 0x5fbfcfa6fd9cefdf 878 (vr 358),ve P 509240527188831 881 (vr 359),ve P 0x1cfa6ceb87365c97f26ccba735f 882 (vr 360),ve P 421110751145951 892 (vr 418),ve P 27337979615 914 (vr 376),ve P 0xcb8f0ece19795f 925 (vr 385),ve P 0x17efe5c787670cbcafdf 926 (vr 385),ve P 0xbf7f970cbcafdf 934 (vr 392),ve P 513603406721247 941 (vr 399),ve P 0x2fdfe79f961ef97774cb9efdf 949 (vr 406),ve P 0x2fdfe79f961bfa31f4c3b6fdf 952 (vr 407),ve P 27348694643 962 (vr 409),ve P 0x74e1971f2cbd3769 972 (vr 412),ve P 0x5fbfcf2f4eb8b4f2e9d30dfc7a7a61e9cefdf 973 (vr 414)] 2)))::
 (nat_lit 417,(PySem.Obj.mk (vt "type") none (cl "LinearRegression" [(vt "tuple")] [(vr 417),(vt "tuple"),(vt "object")] 416 false []) (List.toArray [(some (vr 350)),none,(some (cj "LinearRegression" 863)),(some (cj "LinearRegression" 871)),(some .none),(some (.bool false))])))::
 (nat_lit 418,(ob "staticmethod" (fl [(vr 367)])))::
 (nat_lit 421,(ob "dict" (dc [ve P 0xd98776fd3d396fe1bf970 978 (.bool false)] 1)))::
 (nat_lit 425,(cd "linear_regression" "linear_regression" 979 980 981 394 2 2 1 3 422 423 .none .none (vr 424) 982 983))::
 (nat_lit 426,(ob "function" (fn "linear_regression" "linear_regression" Ly HA Lz .none (vr 421) (.str (dq HA rfl) 984) (cj "cpy313.statistics" 785) 425)))::
 (nat_lit 430,(cd "_law_pairs" "_law_pairs" 988 989 990 451 2 0 0 3 427 428 .none .none (vr 429) 991 992))::
 (nat_lit 431,(ob "function" (fn "_law_pairs" "_law_pairs" LA LB LC .none .none .none (cj "law_kl0025_01" 986) 430)))::
 (nat_lit 435,(cd "_law_stands" "_law_stands" 994 995 996 453 1 0 0 3 432 433 .none .none (vr 434) 997 998))::
 (nat_lit 436,(ob "function" (fn "_law_stands" "_law_stands" LD LG LH .none .none .none (cj "law_kl0025_01" 986) 435)))::
 (nat_lit 442,(cd "_law_refused" "_law_refused" 1000 1001 1002 455 2 0 0 3 437 438 (vr 439) (vr 440) (vr 441) 1006 1007))::
 (nat_lit 443,(ob "function" (fn "_law_refused" "_law_refused" LJ LK LL .none .none .none (cj "law_kl0025_01" 986) 442)))::
 (nat_lit 447,(cd "_law_floats" "_law_floats" 1009 1010 1011 461 2 0 0 3 444 445 .none .none (vr 446) 1012 1013))::
 (nat_lit 448,(ob "function" (fn "_law_floats" "_law_floats" LM LN LO .none .none .none (cj "law_kl0025_01" 986) 447)))::
 (nat_lit 452,(cd "_law_ranks" "_law_ranks" 1015 1016 1017 463 2 0 0 3 449 450 .none .none (vr 451) 1018 1019))::
 (nat_lit 453,(ob "function" (fn "_law_ranks" "_law_ranks" LP LQ Dv .none .none .none (cj "law_kl0025_01" 986) 452)))::
 (nat_lit 459,(cd "_law_line" "_law_line" 1021 1022 1023 466 3 0 0 3 454 455 (vr 456) (vr 457) (vr 458) 1035 1036))::
 (nat_lit 460,(ob "function" (fn "_law_line" "_law_line" LR LS HB .none .none .none (cj "law_kl0025_01" 986) 459)))::
 (nat_lit 464,(cd "_law_agreed" "_law_agreed" 1038 1039 1040 480 3 0 0 3 461 462 .none .none (vr 463) 1041 1042))::
 (nat_lit 465,(ob "function" (fn "_law_agreed" "_law_agreed" LU LV HC .none .none .none (cj "law_kl0025_01" 986) 464)))::
 (nat_lit 469,(cd "_law_weighed" "_law_weighed" 1044 1045 1046 492 4 0 0 3 466 467 .none .none (vr 468) 1047 1048))::
 (nat_lit 470,(ob "function" (fn "_law_weighed" "_law_weighed" LW LX HD .none .none .none (cj "law_kl0025_01" 986) 469)))::
 (nat_lit 476,(cd "_law_deal" "_law_deal" 1050 1051 1052 496 1 0 0 3 471 472 (vr 473) (vr 474) (vr 475) 1057 1058))::
 (nat_lit 477,(ob "function" (fn "_law_deal" "_law_deal" LY LZ HE .none .none .none (cj "law_kl0025_01" 986) 476)))::
 (nat_lit 481,(cd "law" "law" 1060 1061 1062 502 1 0 0 3 478 479 .none .none (vr 480) 1063 1064))::
 (nat_lit 482,(ob "function" (fn "law" "law" L0 L1 HF .none .none .none (cj "law_kl0025_01" 986) 481)))::[]
noncomputable def TT:List (Addr×Str):=[(338,Str.ofString "covariance.<locals>.<genexpr>"),(423,Str.ofString "linear_regression.<locals>.<genexpr>"),(455,Str.ofString "_law_line.<locals>.<lambda>"),
 (462,Str.ofString "_law_agreed.<locals>.<lambda>"),(467,Str.ofString "_law_weighed.<locals>.<lambda>")]
noncomputable abbrev gA:List Addr:=TT.map (·.1)
theorem xb{p q:Program}{Xt:Shared->Bool}{Yf:Shared->α}{Ya:World->α}{N:Nat}{g0:Bool}{H₀:Params->Heap}{gs₀:Array GenState}{d₀:Drawn}{k₀:Nat}{m₀:Nat}{ann:Option Value}(open_:∀w:World,(fencedOpening treeTable p w N).map (λs=>(s.heap,s.gens,s.drawn,s.toks))=some (H₀ w.params,gs₀,d₀,k₀))(size:∀w:World,((H₀ w.params).isNs mainGlobals&&gs₀.size==0,(H₀ w.params).objs.size,(H₀ w.params).nsMap mainGlobals "__annotations__")=(true,m₀,ann))(run:∀(w:World)(os:OsState),(topRun treeTable p w m₀ ann N ⟨H₀ w.params,gs₀,d₀,k₀,os⟩ (topStub p)).map (λs=>(staticsOk (importedModules p.main.body) (H₀ w.params) s.heap&&namesBound p s.heap&&gensDone s&&laidKept (H₀ w.params) s.heap,openSeen q loose (importedModules p.main.body) Xt g0 s,Yf s))=some (true,openGood q loose,Ya w)):
  LeftO p q loose Xt Yf Ya N g0:=λw=>by
 obtain⟨⟨h,gs,d,k,os⟩,e,e'⟩:=Option.map_eq_some_iff.mp (open_ w);obtain⟨rfl,rfl,rfl,rfl⟩:h=H₀ w.params/\gs=gs₀/\d=d₀/\k=k₀:=by simpa using e'
 obtain⟨z1,z2,z3⟩:_/\_/\_:=by simpa only[Prod.mk.injEq] using size w
 obtain⟨aB,r,er⟩:=Option.map_eq_some_iff.mp (run w os);obtain⟨l1,l2,l3⟩:_/\_/\_:=by simpa only[Prod.mk.injEq] using er
 have t:topFrom treeTable p w N ⟨H₀ w.params,gs,d,k,os⟩=some aB:=by unfold topFrom;dsimp only;rw[z1,z2,z3,r];show (match staticsOk (importedModules p.main.body) (H₀ w.params) aB.heap&&namesBound p aB.heap&&gensDone aB&&laidKept (H₀ w.params) aB.heap with|true=>_|false=>_)=_;rw[l1]
 unfold openEnds;rw[e];show (topFrom treeTable p w N _).map _=_;rw[t];exact congrArg some (Prod.ext l2 l3)
noncomputable def sL(P:Params)(a:Nat):Obj:=match (K P).lookup a with|some o=>o|none=>{cls:=.none,data:=.plain}
noncomputable def H0(P:Params):Heap:={objs:=Array.mk [
 sL P 0,
 sL P 1,
 sL P 2,
 (ob "dict" (dc [ve P 0xbf7f2edc3bafdf 165 (vq 0xbf7f769c3b6fdf 164),ve P 421105403244511 166 .none,ve P 0x17efe5cf875e3c3c2fdf 167 .none,ve P 0x2fdfe597261dfb2fdf 168 (vb "__main__.__loader__#opaque"),ve P 0xbf7f1e5e1cefdf 169 .none,ve P 0x17eff3ddbf4f4c3d37eedd86fdf 170 (vr 6),ve P 0xbf7f9eed3d3669eb8afdf 171 (vr 4),ve P 0xbf7f2ecd39afdf 173 (vq 0x79e0bba75c6bf6e9c3b31af 172),ve P 0x2fdfc997463c38efdf 174 .none,ve P 230521318 373 (vb "math.fsum"),ve P 0xcbd34eed39b9e9 376 (vb "math.isfinite"),ve P 27612838377 379 (vb "math.isinf"),ve P 245151987 382 (vb "math.sqrt"),ve P 443649420393203 385 (vb "math.sumprod")] 14)),
 sL P 4,
 sL P 5,
 sL P 6,
 sL P 7,
 sL P 8,
 sL P 9,
 sL P 10,
 sL P 11,
 sL P 12,
 sL P 13,
 sL P 14,
 sL P 15,
 (ob "type" (PySem.Data.cls (PySem.ClassData.mk (so "_LoaderBasics") [(vt "object")] [(vr 16),(vt "object")] 15 (so "_LoaderBasics") Bool.true [] [(vr 27)] Bool.false none Bool.false))),
 (ob "tuple" (sq [] 0)),
 (ob "getset_descriptor" (fl [(cj "__dict__" 205),(vr 16),(vb "function.__dict__"),(vb "function.__dict__#set")])),
 (ob "getset_descriptor" (fl [(cj "__weakref__" 207),(vr 16),(vb "ExceptionGroup.__weakref__"),.none])),
 (PySem.Obj.mk .none none (sq [(i6 15 0),(Value.str (Str.mk (List.toArray [6,197,10,95,95,109,111,100,117,108,101,95,95,6,195,26,95,102,114,111,122,101,110,95,105,109,112,111,114,116,108,105,98,95,101,120,116,101,114,110,97,108,6,198,15,95,95,102,105,114,115,116,108,105,110,101,110,111,95,95,4,196,0,1001,6,199,7,95,95,100,111,99,95,95,9,59,95,102,114,111,122,101,110,95,105,109,112,111,114,116,108,105,98,95,101,120,116,101,114,110,97,108,46,95,76,111,97,100,101,114,66,97,115,105,99,115,46,95,95,100,111,99,95,95,58,115,116,114,35,111,112,97,113,117,101,6,200,10,105,115,95,112,97,99,107,97,103,101,9,58,95,102,114,111,122,101,110,95,105,109,112,111,114,116,108,105,98,95,101,120,116,101,114,110,97,108,46,95,76,111,97,100,101,114,66,97,115,105,99,115,46,105,115,95,112,97,99,107,97,103,101,35,111,112,97,113,117,101,6,201,13,99,114,101,97,116,101,95,109,111,100,117,108,101,9,61,95,102,114,111,122,101,110,95,105,109,112,111,114,116,108,105,98,95,101,120,116,101,114,110,97,108,46,95,76,111,97,100,101,114,66,97,115,105,99,115,46,99,114,101,97,116,101,95,109,111,100,117,108,101,35,111,112,97,113,117,101,6,202,11,101,120,101,99,95,109,111,100,117,108,101,9,59,95,102,114,111,122,101,110,95,105,109,112,111,114,116,108,105,98,95,101,120,116,101,114,110,97,108,46,95,76,111,97,100,101,114,66,97,115,105,99,115,46,101,120,101,99,95,109,111,100,117,108,101,35,111,112,97,113,117,101,6,203,11,108,111,97,100,95,109,111,100,117,108,101,9,59,95,102,114,111,122,101,110,95,105,109,112,111,114,116,108,105,98,95,101,120,116,101,114,110,97,108,46,95,76,111,97,100,101,114,66,97,115,105,99,115,46,108,111,97,100,95,109,111,100,117,108,101,35,111,112,97,113,117,101,6,204,21,95,95,115,116,97,116,105,99,95,97,116,116,114,105,98,117,116,101,115,95,95,4,0,0,17,6,206,8,95,95,100,105,99,116,95,95,4,0,0,18,6,208,11,95,95,119,101,97,107,114,101,102,95,95,4,0,0,19])) 0),(.bool true),(.bool true),(cj "" 209),(i6 21 0),(Value.str (Str.mk (List.toArray [6,216,10,95,95,109,111,100,117,108,101,95,95,6,212,26,95,102,114,111,122,101,110,95,105,109,112,111,114,116,108,105,98,95,101,120,116,101,114,110,97,108,6,217,15,95,95,102,105,114,115,116,108,105,110,101,110,111,95,95,4,213,0,1176,6,218,7,95,95,100,111,99,95,95,9,56,95,102,114,111,122,101,110,95,105,109,112,111,114,116,108,105,98,95,101,120,116,101,114,110,97,108,46,70,105,108,101,76,111,97,100,101,114,46,95,95,100,111,99,95,95,58,115,116,114,35,111,112,97,113,117,101,6,219,8,95,95,105,110,105,116,95,95,9,53,95,102,114,111,122,101,110,95,105,109,112,111,114,116,108,105,98,95,101,120,116,101,114,110,97,108,46,70,105,108,101,76,111,97,100,101,114,46,95,95,105,110,105,116,95,95,35,111,112,97,113,117,101,6,220,6,95,95,101,113,95,95,9,51,95,102,114,111,122,101,110,95,105,109,112,111,114,116,108,105,98,95,101,120,116,101,114,110,97,108,46,70,105,108,101,76,111,97,100,101,114,46,95,95,101,113,95,95,35,111,112,97,113,117,101,6,221,8,95,95,104,97,115,104,95,95,9,53,95,102,114,111,122,101,110,95,105,109,112,111,114,116,108,105,98,95,101,120,116,101,114,110,97,108,46,70,105,108,101,76,111,97,100,101,114,46,95,95,104,97,115,104,95,95,35,111,112,97,113,117,101,6,222,11,108,111,97,100,95,109,111,100,117,108,101,9,56,95,102,114,111,122,101,110,95,105,109,112,111,114,116,108,105,98,95,101,120,116,101,114,110,97,108,46,70,105,108,101,76,111,97,100,101,114,46,108,111,97,100,95,109,111,100,117,108,101,35,111,112,97,113,117,101,6,223,12,103,101,116,95,102,105,108,101,110,97,109,101,9,57,95,102,114,111,122,101,110,95,105,109,112,111,114,116,108,105,98,95,101,120,116,101,114,110,97,108,46,70,105,108,101,76,111,97,100,101,114,46,103,101,116,95,102,105,108,101,110,97,109,101,35,111,112,97,113,117,101,6,224,8,103,101,116,95,100,97,116,97,9,53,95,102,114,111,122,101,110,95,105,109,112,111,114,116,108,105,98,95,101,120,116,101,114,110,97,108,46,70,105,108,101,76,111,97,100,101,114,46,103,101,116,95,100,97,116,97,35,111,112,97,113,117,101,6,225,19,103,101,116,95,114,101,115,111,117,114,99,101,95,114,101,97,100,101,114,9,64,95,102,114,111,122,101,110,95,105,109,112,111,114,116,108,105,98,95,101,120,116,101,114,110,97,108,46,70,105,108,101,76,111,97,100,101,114,46,103,101,116,95,114,101,115,111,117,114,99,101,95,114,101,97,100,101,114,35,111,112,97,113,117,101,6,226,21,95,95,115,116,97,116,105,99,95,97,116,116,114,105,98,117,116,101,115,95,95,4,0,0,23,6,228,8,95,95,100,105,99,116,95,95,4,0,0,24,6,230,11,95,95,119,101,97,107,114,101,102,95,95,4,0,0,25])) 0),(.bool true),(.bool true),(cj "" 231),(i6 26 0),(Value.str (Str.mk (List.toArray [6,237,10,95,95,109,111,100,117,108,101,95,95,6,233,26,95,102,114,111,122,101,110,95,105,109,112,111,114,116,108,105,98,95,101,120,116,101,114,110,97,108,6,238,15,95,95,102,105,114,115,116,108,105,110,101,110,111,95,95,4,234,0,1296,6,239,7,95,95,100,111,99,95,95,9,65,95,102,114,111,122,101,110,95,105,109,112,111,114,116,108,105,98,95,101,120,116,101,114,110,97,108,46,69,120,116,101,110,115,105,111,110,70,105,108,101,76,111,97,100,101,114,46,95,95,100,111,99,95,95,58,115,116,114,35,111,112,97,113,117,101,6,240,8,95,95,105,110,105,116,95,95,9,62,95,102,114,111,122,101,110,95,105,109,112,111,114,116,108,105,98,95,101,120,116,101,114,110,97,108,46,69,120,116,101,110,115,105,111,110,70,105,108,101,76,111,97,100,101,114,46,95,95,105,110,105,116,95,95,35,111,112,97,113,117,101,6,241,6,95,95,101,113,95,95,9,60,95,102,114,111,122,101,110,95,105,109,112,111,114,116,108,105,98,95,101,120,116,101,114,110,97,108,46,69,120,116,101,110,115,105,111,110,70,105,108,101,76,111,97,100,101,114,46,95,95,101,113,95,95,35,111,112,97,113,117,101,6,242,8,95,95,104,97,115,104,95,95,9,62,95,102,114,111,122,101,110,95,105,109,112,111,114,116,108,105,98,95,101,120,116,101,114,110,97,108,46,69,120,116,101,110,115,105,111,110,70,105,108,101,76,111,97,100,101,114,46,95,95,104,97,115,104,95,95,35,111,112,97,113,117,101,6,243,13,99,114,101,97,116,101,95,109,111,100,117,108,101,9,67,95,102,114,111,122,101,110,95,105,109,112,111,114,116,108,105,98,95,101,120,116,101,114,110,97,108,46,69,120,116,101,110,115,105,111,110,70,105,108,101,76,111,97,100,101,114,46,99,114,101,97,116,101,95,109,111,100,117,108,101,35,111,112,97,113,117,101,6,244,11,101,120,101,99,95,109,111,100,117,108,101,9,65,95,102,114,111,122,101,110,95,105,109,112,111,114,116,108,105,98,95,101,120,116,101,114,110,97,108,46,69,120,116,101,110,115,105,111,110,70,105,108,101,76,111,97,100,101,114,46,101,120,101,99,95,109,111,100,117,108,101,35,111,112,97,113,117,101,6,245,10,105,115,95,112,97,99,107,97,103,101,9,64,95,102,114,111,122,101,110,95,105,109,112,111,114,116,108,105,98,95,101,120,116,101,114,110,97,108,46,69,120,116,101,110,115,105,111,110,70,105,108,101,76,111,97,100,101,114,46,105,115,95,112,97,99,107,97,103,101,35,111,112,97,113,117,101,6,246,8,103,101,116,95,99,111,100,101,9,62,95,102,114,111,122,101,110,95,105,109,112,111,114,116,108,105,98,95,101,120,116,101,114,110,97,108,46,69,120,116,101,110,115,105,111,110,70,105,108,101,76,111,97,100,101,114,46,103,101,116,95,99,111,100,101,35,111,112,97,113,117,101,6,247,10,103,101,116,95,115,111,117,114,99,101,9,64,95,102,114,111,122,101,110,95,105,109,112,111,114,116,108,105,98,95,101,120,116,101,114,110,97,108,46,69,120,116,101,110,115,105,111,110,70,105,108,101,76,111,97,100,101,114,46,103,101,116,95,115,111,117,114,99,101,35,111,112,97,113,117,101,6,248,12,103,101,116,95,102,105,108,101,110,97,109,101,9,66,95,102,114,111,122,101,110,95,105,109,112,111,114,116,108,105,98,95,101,120,116,101,114,110,97,108,46,69,120,116,101,110,115,105,111,110,70,105,108,101,76,111,97,100,101,114,46,103,101,116,95,102,105,108,101,110,97,109,101,35,111,112,97,113,117,101,6,249,21,95,95,115,116,97,116,105,99,95,97,116,116,114,105,98,117,116,101,115,95,95,4,0,0,28])) 0),(.bool true),(.bool true),(cj "" 250),(i6 32 0),(Value.str (Str.mk (List.toArray [6,271,10,95,95,109,111,100,117,108,101,95,95,6,261,17,95,102,114,111,122,101,110,95,105,109,112,111,114,116,108,105,98,6,272,15,95,95,102,105,114,115,116,108,105,110,101,110,111,95,95,4,262,0,562,6,273,7,95,95,100,111,99,95,95,9,47,95,102,114,111,122,101,110,95,105,109,112,111,114,116,108,105,98,46,77,111,100,117,108,101,83,112,101,99,46,95,95,100,111,99,95,95,58,115,116,114,35,111,112,97,113,117,101,6,274,8,95,95,105,110,105,116,95,95,9,44,95,102,114,111,122,101,110,95,105,109,112,111,114,116,108,105,98,46,77,111,100,117,108,101,83,112,101,99,46,95,95,105,110,105,116,95,95,35,111,112,97,113,117,101,6,275,8,95,95,114,101,112,114,95,95,9,44,95,102,114,111,122,101,110,95,105,109,112,111,114,116,108,105,98,46,77,111,100,117,108,101,83,112,101,99,46,95,95,114,101,112,114,95,95,35,111,112,97,113,117,101,6,276,6,95,95,101,113,95,95,9,42,95,102,114,111,122,101,110,95,105,109,112,111,114,116,108,105,98,46,77,111,100,117,108,101,83,112,101,99,46,95,95,101,113,95,95,35,111,112,97,113,117,101,6,277,6,99,97,99,104,101,100,9,42,95,102,114,111,122,101,110,95,105,109,112,111,114,116,108,105,98,46,77,111,100,117,108,101,83,112,101,99,46,99,97,99,104,101,100,35,111,112,97,113,117,101,6,278,6,112,97,114,101,110,116,9,42,95,102,114,111,122,101,110,95,105,109,112,111,114,116,108,105,98,46,77,111,100,117,108,101,83,112,101,99,46,112,97,114,101,110,116,35,111,112,97,113,117,101,6,279,12,104,97,115,95,108,111,99,97,116,105,111,110,9,48,95,102,114,111,122,101,110,95,105,109,112,111,114,116,108,105,98,46,77,111,100,117,108,101,83,112,101,99,46,104,97,115,95,108,111,99,97,116,105,111,110,35,111,112,97,113,117,101,6,280,21,95,95,115,116,97,116,105,99,95,97,116,116,114,105,98,117,116,101,115,95,95,4,0,0,34,6,282,8,95,95,100,105,99,116,95,95,4,0,0,35,6,284,11,95,95,119,101,97,107,114,101,102,95,95,4,0,0,36,6,285,8,95,95,104,97,115,104,95,95,0])) 0),(.bool true),(.bool true),(cj "" 286)] 3) (List.toArray [])),
 (ob "dict" (dc [ve P 0x2fdfcbb3ae4dfb6fdf 216 (vq 0x3661ddcb2f4f196fe2d3b3a72dfc36e9bfbb2fadfcb35f 212),ve P 0x17efefdd97769d9d39f2d39afdf 217 (i6 1176 213),ve P 421105403244511 218 (vb "_frozen_importlib_external.FileLoader.__doc__:str#opaque"),ve P 0xbf7fa69dda6fdf 219 (vb "_frozen_importlib_external.FileLoader.__init__#opaque"),ve P 3289915158495 220 (vb "_frozen_importlib_external.FileLoader.__eq__#opaque"),ve P 0xbf7f473c3a2fdf 221 (vb "_frozen_importlib_external.FileLoader.__hash__#opaque"),ve P 0x197675c9bf6dfc9877ec 222 (vb "_frozen_importlib_external.FileLoader.load_module#opaque"),ve P 0xcbb70eecbb34e6bfd32e7 223 (vb "_frozen_importlib_external.FileLoader.get_filename#opaque"),ve P 0xc3d30e4bfd32e7 224 (vb "_frozen_importlib_external.FileLoader.get_data#opaque"),ve P 0x1cb2e4c39795fcb8f975dfcf2f2bfd32e7 225 (vb "_frozen_importlib_external.FileLoader.get_resource_reader#opaque"),ve P 0x5fbfcf2f4eb8b4f2e9d30dfc7a7a61e9cefdf 226 (vr 23),ve P 0xbf7fa63d392fdf 228 (vr 24),ve P 0x17efe6cbcb5e1cbdefdf 230 (vr 25)] 13)),
 (ob "type" (PySem.Data.cls (PySem.ClassData.mk (so "FileLoader") [(vt "object")] [(vr 22),(vt "object")] 21 (so "FileLoader") Bool.true [] [(vr 27)] Bool.false none Bool.false))),
 (ob "tuple" (sq [(cj "name" 214),(cj "path" 215)] 0)),
 (ob "getset_descriptor" (fl [(cj "__dict__" 227),(vr 22),(vb "function.__dict__"),(vb "function.__dict__#set")])),
 (ob "getset_descriptor" (fl [(cj "__weakref__" 229),(vr 22),(vb "ExceptionGroup.__weakref__"),.none])),
 (ob "dict" (dc [ve P 0x2fdfcbb3ae4dfb6fdf 237 (vq 0x3661ddcb2f4f196fe2d3b3a72dfc36e9bfbb2fadfcb35f 233),ve P 0x17efefdd97769d9d39f2d39afdf 238 (i6 1296 234),ve P 421105403244511 239 (vb "_frozen_importlib_external.ExtensionFileLoader.__doc__:str#opaque"),ve P 0xbf7fa69dda6fdf 240 (vb "_frozen_importlib_external.ExtensionFileLoader.__init__#opaque"),ve P 3289915158495 241 (vb "_frozen_importlib_external.ExtensionFileLoader.__eq__#opaque"),ve P 0xbf7f473c3a2fdf 242 (vb "_frozen_importlib_external.ExtensionFileLoader.__hash__#opaque"),ve P 0x65d9d726fdb7f2f4c397963 243 (vb "_frozen_importlib_external.ExtensionFileLoader.create_module#opaque"),ve P 0x197675c9bf6dfc797c65 244 (vb "_frozen_importlib_external.ExtensionFileLoader.exec_module#opaque"),ve P 0x32e7c3af1e1e17f9e9 245 (vb "_frozen_importlib_external.ExtensionFileLoader.is_package#opaque"),ve P 0xcb937e3bfd32e7 246 (vb "_frozen_importlib_external.ExtensionFileLoader.get_code#opaque"),ve P 0x32e3e5d77f3bfd32e7 247 (vb "_frozen_importlib_external.ExtensionFileLoader.get_source#opaque"),ve P 0xcbb70eecbb34e6bfd32e7 248 (vb "_frozen_importlib_external.ExtensionFileLoader.get_filename#opaque"),ve P 0x5fbfcf2f4eb8b4f2e9d30dfc7a7a61e9cefdf 249 (vr 28)] 13)),
 (ob "type" (cl "ExtensionFileLoader" [(vr 22),(vr 16)] [(vr 27),(vr 22),(vr 16),(vt "object")] 26 true [])),
 (ob "tuple" (sq [(cj "name" 235),(cj "path" 236)] 0)),
 (PySem.Obj.mk (vr 27) (some 14) .plain (List.toArray [])),
 (ob "list" (sq [] 0)),
 (ob "dict" (dc [ve P 213610734 252 (vq 220016877 251),ve P 3944333473772 253 (vr 29),⟨(PySem.PyData.keyHash P (q 3807974685039)),(vq 3807974685039 254),(vq 0x1bf9aeebbb3adf1d7769d8b5a36bed9c785acd8b35bbb7e8e9e78635da3a61dabf261dfb3779c8b7169d8bd9b15ccf76fd1d3cf05f8b4ec5ed58ae66c57335acf76fd1d3cf05adb8686fdf76ed1ddbec6d89b7261b1be3d5b7834f3af8b66b998eaeebf2f2dfd39aff1a772f 190)⟩,ve P 0xcbd30f4e77f965c9877ec 255 .none,ve P 0x39eedfa7a61c7bf65fd18f961cbcefe5d9d726fdb8baf3 256 .none,ve P 0x73cbb3ae4dfb7175e77f265f5a7661d3d34eed3bbadf 257 (vr 30),ve P 0x72e9d30e5d9a735fe9979df 258 (.bool true),ve P 443303111193055 259 .none,ve P 0x67dda7d69d9874f4d3bb4df 287 (.bool false)] 9)),
 (ob "dict" (dc [ve P 0x2fdfcbb3ae4dfb6fdf 271 (vq 0x62d3b3a72dfc36e9bfbb2fadfcb35f 261),ve P 0x17efefdd97769d9d39f2d39afdf 272 (i6 562 262),ve P 421105403244511 273 (vb "_frozen_importlib.ModuleSpec.__doc__:str#opaque"),ve P 0xbf7fa69dda6fdf 274 (vb "_frozen_importlib.ModuleSpec.__init__#opaque"),ve P 0xbf7f970cbcafdf 275 (vb "_frozen_importlib.ModuleSpec.__repr__#opaque"),ve P 3289915158495 276 (vb "_frozen_importlib.ModuleSpec.__eq__#opaque"),ve P 3463305556195 277 (vb "_frozen_importlib.ModuleSpec.cached#opaque"),ve P 4015471243504 278 (vb "_frozen_importlib.ModuleSpec.parent#opaque"),ve P 0xddbf4f4c38f7ecbfcf0e8 279 (vb "_frozen_importlib.ModuleSpec.has_location#opaque"),ve P 0x5fbfcf2f4eb8b4f2e9d30dfc7a7a61e9cefdf 280 (vr 34),ve P 0xbf7fa63d392fdf 282 (vr 35),ve P 0x17efe6cbcb5e1cbdefdf 284 (vr 36),ve P 0xbf7f473c3a2fdf 285 .none] 13)),
 (ob "type" (cl "ModuleSpec" [(vt "object")] [(vr 33),(vt "object")] 32 true [])),
 (ob "tuple" (sq [(cj "_cached" 263),(cj "_set_fileattr" 264),(cj "_uninitialized_submodules" 265),(cj "loader" 266),(cj "loader_state" 267),(cj "name" 268),(cj "origin" 269),(cj "submodule_search_locations" 270)] 0)),
 (ob "getset_descriptor" (fl [(cj "__dict__" 281),(vr 33),(vb "function.__dict__"),(vb "function.__dict__#set")])),
 (ob "getset_descriptor" (fl [(cj "__weakref__" 283),(vr 33),(vb "ExceptionGroup.__weakref__"),.none])),
 (PySem.Obj.mk (vr 33) (some 31) .plain (List.toArray [])),
 (PySem.Obj.mk .none none (PySem.Data.seq (List.toArray [(i6 12 0),(Value.str (Str.mk (List.toArray [6,291,8,95,95,110,97,109,101,95,95,6,290,4,109,97,116,104,6,292,7,95,95,100,111,99,95,95,9,23,109,97,116,104,46,95,95,100,111,99,95,95,58,115,116,114,35,111,112,97,113,117,101,6,294,11,95,95,112,97,99,107,97,103,101,95,95,6,293,0,6,295,10,95,95,108,111,97,100,101,114,95,95,4,0,0,29,6,296,8,95,95,115,112,101,99,95,95,4,0,0,37,6,297,4,97,99,111,115,9,9,109,97,116,104,46,97,99,111,115,6,298,5,97,99,111,115,104,9,10,109,97,116,104,46,97,99,111,115,104,6,299,4,97,115,105,110,9,9,109,97,116,104,46,97,115,105,110,6,300,5,97,115,105,110,104,9,10,109,97,116,104,46,97,115,105,110,104,6,301,4,97,116,97,110,9,9,109,97,116,104,46,97,116,97,110,6,302,5,97,116,97,110,50,9,10,109,97,116,104,46,97,116,97,110,50,6,303,5,97,116,97,110,104,9,10,109,97,116,104,46,97,116,97,110,104,6,304,4,99,98,114,116,9,9,109,97,116,104,46,99,98,114,116,6,305,4,99,101,105,108,9,9,109,97,116,104,46,99,101,105,108,6,306,8,99,111,112,121,115,105,103,110,9,13,109,97,116,104,46,99,111,112,121,115,105,103,110,6,307,3,99,111,115,9,8,109,97,116,104,46,99,111,115,6,308,4,99,111,115,104,9,9,109,97,116,104,46,99,111,115,104,6,309,7,100,101,103,114,101,101,115,9,12,109,97,116,104,46,100,101,103,114,101,101,115,6,310,4,100,105,115,116,9,9,109,97,116,104,46,100,105,115,116,6,311,3,101,114,102,9,8,109,97,116,104,46,101,114,102,6,312,4,101,114,102,99,9,9,109,97,116,104,46,101,114,102,99,6,313,3,101,120,112,9,8,109,97,116,104,46,101,120,112,6,314,4,101,120,112,50,9,9,109,97,116,104,46,101,120,112,50,6,315,5,101,120,112,109,49,9,10,109,97,116,104,46,101,120,112,109,49,6,316,4,102,97,98,115,9,9,109,97,116,104,46,102,97,98,115,6,317,9,102,97,99,116,111,114,105,97,108,9,14,109,97,116,104,46,102,97,99,116,111,114,105,97,108,6,318,5,102,108,111,111,114,9,10,109,97,116,104,46,102,108,111,111,114,6,319,3,102,109,97,9,8,109,97,116,104,46,102,109,97,6,320,4,102,109,111,100,9,9,109,97,116,104,46,102,109,111,100,6,321,5,102,114,101,120,112,9,10,109,97,116,104,46,102,114,101,120,112,6,322,4,102,115,117,109,9,9,109,97,116,104,46,102,115,117,109,6,323,5,103,97,109,109,97,9,10,109,97,116,104,46,103,97,109,109,97,6,324,3,103,99,100,9,8,109,97,116,104,46,103,99,100,6,325,5,104,121,112,111,116,9,10,109,97,116,104,46,104,121,112,111,116,6,326,7,105,115,99,108,111,115,101,9,12,109,97,116,104,46,105,115,99,108,111,115,101,6,327,8,105,115,102,105,110,105,116,101,9,13,109,97,116,104,46,105,115,102,105,110,105,116,101,6,328,5,105,115,105,110,102,9,10,109,97,116,104,46,105,115,105,110,102,6,329,5,105,115,110,97,110,9,10,109,97,116,104,46,105,115,110,97,110,6,330,5,105,115,113,114,116,9,10,109,97,116,104,46,105,115,113,114,116,6,331,3,108,99,109,9,8,109,97,116,104,46,108,99,109,6,332,5,108,100,101,120,112,9,10,109,97,116,104,46,108,100,101,120,112,6,333,6,108,103,97,109,109,97,9,11,109,97,116,104,46,108,103,97,109,109,97,6,334,3,108,111,103,9,8,109,97,116,104,46,108,111,103,6,335,5,108,111,103,49,112,9,10,109,97,116,104,46,108,111,103,49,112,6,336,5,108,111,103,49,48,9,10,109,97,116,104,46,108,111,103,49,48,6,337,4,108,111,103,50,9,9,109,97,116,104,46,108,111,103,50,6,338,4,109,111,100,102,9,9,109,97,116,104,46,109,111,100,102,6,339,3,112,111,119,9,8,109,97,116,104,46,112,111,119,6,340,7,114,97,100,105,97,110,115,9,12,109,97,116,104,46,114,97,100,105,97,110,115,6,341,9,114,101,109,97,105,110,100,101,114,9,14,109,97,116,104,46,114,101,109,97,105,110,100,101,114,6,342,3,115,105,110,9,8,109,97,116,104,46,115,105,110,6,343,4,115,105,110,104,9,9,109,97,116,104,46,115,105,110,104,6,344,4,115,113,114,116,9,9,109,97,116,104,46,115,113,114,116,6,345,3,116,97,110,9,8,109,97,116,104,46,116,97,110,6,346,4,116,97,110,104,9,9,109,97,116,104,46,116,97,110,104,6,347,7,115,117,109,112,114,111,100,9,12,109,97,116,104,46,115,117,109,112,114,111,100,6,348,5,116,114,117,110,99,9,10,109,97,116,104,46,116,114,117,110,99,6,349,4,112,114,111,100,9,9,109,97,116,104,46,112,114,111,100,6,350,4,112,101,114,109,9,9,109,97,116,104,46,112,101,114,109,6,351,4,99,111,109,98,9,9,109,97,116,104,46,99,111,109,98,6,352,9,110,101,120,116,97,102,116,101,114,9,14,109,97,116,104,46,110,101,120,116,97,102,116,101,114,6,353,3,117,108,112,9,8,109,97,116,104,46,117,108,112,6,354,8,95,95,102,105,108,101,95,95,6,190,123,47,110,105,120,47,115,116,111,114,101,47,119,106,49,102,53,54,113,107,121,52,112,109,106,99,55,108,48,114,54,98,54,108,55,119,104,110,110,119,55,104,112,54,45,112,121,116,104,111,110,51,45,51,46,49,51,46,49,53,47,108,105,98,47,112,121,116,104,111,110,51,46,49,51,47,108,105,98,45,100,121,110,108,111,97,100,47,109,97,116,104,46,99,112,121,116,104,111,110,45,51,49,51,45,120,56,54,95,54,52,45,108,105,110,117,120,45,103,110,117,46,115,111,6,356,2,112,105,5,355,4614256656552045848,6,358,1,101,5,357,4613303445314885481,6,360,3,116,97,117,5,359,4618760256179416344,6,362,3,105,110,102,5,361,9218868437227405312,6,364,3,110,97,110,5,363,9221120237041090560])) 0),(.bool true),(.bool false),(cj "math" 366)]) 0) (List.toArray []))]}
theorem HG(w:World):(fencedOpening treeTable PySem.Challenge.pw_kl0025_01 w 7340).map (λs=>(s.heap,s.gens,s.drawn,s.toks))=some (H0 w.params,Array.mk [],{},386):=by unfold fencedOpening;rw[PySem.W.Fast.te10274390034422433532,PySem.W.Fast.te1435165496053646825,PySem.W.Fast.te14289696077712309145,PySem.W.Fast.te14364793385576792824];kernel_rfl
noncomputable abbrev vw:Program:={PySem.Challenge.pw_kl0025_01 with main:={PySem.Challenge.pw_kl0025_01.main with body:=[top 0,top 1,top 3,top 4,top 6,top 7,top 8,top 9,top 10,top 11,top 12,top 13,top 15,top 19,top 20,top 22,top 25,top 26,top 27,top 28,top 29,top 30,top 31,top 32,top 33,top 34]}}
noncomputable abbrev lo:List Str:=[Str.ofString "_tuplegetter",Str.ofString "groupby",Str.ofString "_grouper",Str.ofString "count",Str.ofString "itemgetter",Str.ofString "_rank",Str.ofString "fmean",Str.ofString "correlation",Str.ofString "LinearRegression",Str.ofString "linear_regression"]
noncomputable def KH(P:Params):Frag:=K P++gA.map λa=>(a,tabObj #[])
noncomputable abbrev aK:List Addr:=[0,1,2,3,4,5,6,7,8,9,10,11,12,13,14,15,64,70,71,86,87,88,89,90,93,100,101,102,103,111,112,118,119,125,126,134,135,141,142,148,149,155,156,162,163,164,166,167,168,169,170,171,172,173,174,175,176,177,187,193,194,200,201,207,208,209,211,212,213,214,215,223,224,232,233,239,240,246,247,253,254,262,264,265,266,267,268,278,284,285,291,292,307,309,310,311,314,320,321,322,328,329,335,336,342,343,344,348,349,350,353,358,359,360,366,367,375,376,377,378,407,408,409,411,412,414,416,417,418,421,425,426,430,431,435,436,442,443,447,448,452,453,459,460,464,465,469,470,476,477,481,482]
noncomputable abbrev aH:List Addr:=aK++gA
theorem HH(P:Params):aH=(KH P).map (·.1):=by kernel_rfl
noncomputable abbrev tR(w:World)(os:OsState):Option Shared:=topRun treeTable PySem.Challenge.pw_kl0025_01 w 39 (some (.ref 6)) 7340 ⟨H0 w.params,Array.mk [],{},386,os⟩ (topStub PySem.Challenge.pw_kl0025_01)
noncomputable abbrev XtM(s:Shared):Bool:=xlAt vw [] s&&recOk (RowW.records (OpenRow.toRowW PySem.Challenge.rw_kl0025_01.row)) s
noncomputable abbrev oS(s:Shared):=openSeen vw lo (importedModules PySem.Challenge.pw_kl0025_01.main.body) XtM true s
theorem L2(w:World)(os:OsState):(tR w os).map (λs=>obsZ aH s)=some (valZ KH 483 1066 w):=by unfold tR;rw[PySem.W.Fast.te14082659384304107361,PySem.W.Fast.te14364793385576792824];kernel_rfl
theorem L3(w:World)(os:OsState):(tR w os).map (λs=>(staticsOk (importedModules PySem.Challenge.pw_kl0025_01.main.body) (H0 w.params) s.heap&&namesBound PySem.Challenge.pw_kl0025_01 s.heap&&gensDone s&&laidKept (H0 w.params) s.heap,(oS s).2.1))=some ((true,bltViewBooted)):=by unfold tR oS;rw[PySem.W.Fast.te14082659384304107361,PySem.W.Fast.te14364793385576792824,PySem.W.Fast.te4187177175401517315,PySem.W.Fast.te5923862056798008813];kernel_rfl
theorem L4(w:World)(os:OsState):(tR w os).map (λs=>(oS s).1)=some (expectedOf vw):=by unfold tR oS;rw[PySem.W.Fast.te14082659384304107361,PySem.W.Fast.te14364793385576792824,PySem.W.Fast.te4187177175401517315,PySem.W.Fast.te5923862056798008813];kernel_rfl
theorem L5(w:World)(os:OsState):(tR w os).map (λs=>(oS s).2.2.1)=some (true):=by unfold tR oS;rw[PySem.W.Fast.te14082659384304107361,PySem.W.Fast.te14364793385576792824,PySem.W.Fast.te4187177175401517315,PySem.W.Fast.te5923862056798008813];kernel_rfl
theorem L6(w:World)(os:OsState):(tR w os).map (λs=>(oS s).2.2.2)=some ((true,pinGoodD (drecsOf vw),plainGoodE vw (looseW vw lo),plainGoodD vw lo,wideGood vw,clsGoodW vw lo)):=by unfold tR oS;rw[PySem.W.Fast.te14082659384304107361,PySem.W.Fast.te14364793385576792824,PySem.W.Fast.te4187177175401517315,PySem.W.Fast.te5923862056798008813];kernel_rfl
noncomputable abbrev Ar(dp un:Nat)(gd:Option (List Code))(fs:List Env):Around:={handled:=none,depth:=dp,frames:=some fs,guards:=gd,units:=un}
section
variable{fs:List Env}
 {body:List Stmt}{doc:Value}{fo:Obj}{f:Addr}{args:Args}
theorem kX(DB:s.heap.NoLimit)(ho:s.heap.get? f=some fo)(hd:fo.data = .func (fnX name qual params body scope [] dV kV doc pm an fk ct))(qC:s.heap.CodeRec fk qual)(eH:A.depth<recursionLimit)(f7:BindsTo s (fnX name qual params body scope [] dV kV doc pm an fk ct) args binds)(DC:∀y∈binds,scope.names.lookup y.1=some .local)(h:∀h₁,Fr s.heap s.heap.objs.size h₁ (λy=>binds.reverse.lookup y)->
   wpAny (model prog w) (A.deeper (envX qual scope s.heap.objs.size f fk [])) (execs body (envX qual scope s.heap.objs.size f fk []))
    (λfl s'=>R (.ok (.ret (match fl with| .ret v=>v|_=>.none))) s')
    (λe s'=>wpAny (model prog w) (A.deeper (envX qual scope s.heap.objs.size f fk [])) (leaving (envX qual scope s.heap.objs.size f fk []) e) (λ_ eA=>R (.error e) eA) (λe' eA=>R (.error e') eA) s')
    (bp s h₁ (s.toks+binds.length)))(aQ:∀x∈scope.names,x.2≠.cell)(qD:autoParam (scope.isCoroutine=false) cH)(iW:autoParam (scope.isGenerator=false) cH)(hk:autoParam (scope.kind = .function) cH):
  codeAny (model prog w) A (.call (.ref f) args) R s:=
 codeAny_call_def (fd:=fnX name qual params body scope [] dV kV doc pm an fk ct) (body:=body) (binds:=binds) eH ho hd DB qC rfl f7 aQ DC
  (λh₁ sM el=>h h₁ ⟨sM,el,OM _⟩) qD iW hk
theorem kY(DB:s.heap.NoLimit)(ho:s.heap.get? f=some fo)(hd:fo.data = .func (fnX name qual params body scope [] dV kV doc pm an fk ct))(qC:s.heap.CodeRec fk qual)(eH:A.depth<recursionLimit)(f7:BindsTo s (fnX name qual params body scope [] dV kV doc pm an fk ct) args binds)(bK:∀n,∀x∈binds,scope.names.lookup x.1=some .local∨(scope.names.lookup x.1=some .cell/\((cellsFrom n scope.names []).lookup x.1).isSome=true))(DE:((cellsFrom 0 scope.names []).map (·.1)).Nodup)(h:∀h₁ tk cells,Fr s.heap s.heap.objs.size h₁ (bindL (envOfC qual scope s.heap.objs.size f fk).kindOf binds λ_=>none)->News s.heap s.heap.objs.size h₁ cells->
   CellsAre (bindC (envOfC qual scope s.heap.objs.size f fk).kindOf binds λ_=>none) (cellsFrom (s.heap.objs.size+1) scope.names []) cells->
   wpAny (model prog w) (A.deeper (envOfC qual scope s.heap.objs.size f fk)) (execs body (envOfC qual scope s.heap.objs.size f fk))
    (λfl s'=>R (.ok (.ret (match fl with| .ret v=>v|_=>.none))) s')
    (λe s'=>wpAny (model prog w) (A.deeper (envOfC qual scope s.heap.objs.size f fk)) (leaving (envOfC qual scope s.heap.objs.size f fk) e) (λ_ eA=>R (.error e) eA) (λe' eA=>R (.error e') eA) s')
    (bp s h₁ tk))(qD:autoParam (scope.isCoroutine=false) cH)(iW:autoParam (scope.isGenerator=false) cH)(hk:autoParam (scope.kind = .function) cH):codeAny (model prog w) A (.call (.ref f) args) R s:=by
 refine codeAny_call_function eH ho hd qD iW rfl qC (f7 _ _ _ _ ?_);refine wpAny_newFunctionEnv_cells hk (bK _) λHI he s' x=>?_;subst he;refine⟨DB.keeps x.toInCall.keep,codeAny_func ?_⟩;refine aN x.done λh₁ tk j1 _=>?_;subst j1;refine ar (Cl.news (h₀:=s.heap) (OM _) λn c hm=>⟨x.cell n c (lookup_of_mem_nodup (cellsFrom_names scope.names 0 (s.heap.objs.size+1) [] [] rfl▸DE) hm),x.above n c hm⟩) λcells NC Y=>?_;exact h h₁ tk cells ⟨x.toInCall.ns,x.toInCall.keep,OM _⟩ NC Y
end
theorem rebase{fs:List Env}(B:Below A base fs h):Below A (hideAll h (fs.filterMap (·.frame))) fs h:=by
 refine⟨B.stack,λb o e=>OW _ e,?_⟩;have key:∀(l:List Env),(∀b∈l.filterMap (·.frame),b∈fs.filterMap (·.frame))->h.FunFrames base l->h.FunFrames (hideAll h (fs.filterMap (·.frame))) l:=by
  intro l;induction l with
  |nil=>intro _ x;exact x
  |cons env r ih=>
   intro hs x;refine du x λh1 j1 h3=>oM j1 λL o j2=>eP j2 λhf hb ho hn=>?_;clear x j1 j2;have hL:L∈(env::r).filterMap (·.frame):=List.mem_filterMap.mpr ⟨env,.head _,hf⟩;refine⟨h1,⟨L,o,hf,Oo _ (hs L hL),ho,hn⟩,ih (λb hb=>hs b ?_) h3⟩;refine ar (List.mem_filterMap.mp hb) λHI FW HJ=>?_;exact List.mem_filterMap.mpr ⟨HI,.tail _ FW,HJ⟩
 exact key fs (λ_ h=>h) B.frames
noncomputable abbrev pw:Program:=PySem.Challenge.pw_kl0025_01
structure Gl(w:World)(h:Heap):Prop where
 K:(Mine.K w.params).In h
 top:∃mg mb,h.Ns mainGlobals mg/\h.Ns builtinsNs mb/\∀x:Str,x≠"__name__"->mb x=bootBuiltins x
 bmain:∃mg bm ob,h.Ns mainGlobals mg/\mg "__builtins__"=some (.ref bm)/\bm≠builtinsNs/\bm≠mainGlobals/\h.get? bm=some ob/\ob.cls = .type "module"/\ob.dict=some builtinsNs/\ob.data = .plain
 nolimit:h.NoLimit
 digits:∃mc,h.Ns cStatics mc/\mc "sys.int_max_str_digits"=none
noncomputable abbrev upd(m:Str->Option Value)(y:Str)(v:Value):Str->Option Value:=λz=>if z=y then some v else m z
theorem ak(h:Heap):h.StaysIn h:=λ_ _ e=>e
theorem ai{a b c:Heap}(x:a.StaysIn b)(y:b.StaysIn c):a.StaysIn c:=λ_ _ e=>y _ _ (x _ _ e)
theorem Gl.mono(G:Gl w h)(k:h.StaysIn h'):Gl w h':=
 ⟨G.K.keeps k,(by refine aG G.top λmg mb a b c=>⟨mg,mb,a.keeps k,b.keeps k,c⟩),(by refine ez G.bmain λmg bm ob j1=>BC j1 λa b c d e r=>⟨mg,bm,ob,a.keeps k,b,c,d,k _ _ e,r⟩),G.nolimit.keeps k,(by refine ar G.digits λmc a b=>⟨mc,a.keeps k,b⟩)⟩
def Ev(w:World)(A:Around)(h:Heap)(env:Env)(e:Expr)(P:Value->Heap->Prop):Prop:=
 ∀(s:Shared)(Q E:Value->Shared->Prop),h.StaysIn s.heap->
  (∀v h' tk,s.heap.StaysIn h'->P v h'->Q v (bp s h' tk))->wpAny (model pw w) A (eval e env) Q E s
def de(w:World)(A:Around)(h:Heap)(env:Env)(e:Expr)(b:Bool):Prop:=
 ∀(s:Shared)(whole:Sem Value)(Q:Bool->Shared->Prop)(E:Value->Shared->Prop),h.StaysIn s.heap->
  (∀h' tk,s.heap.StaysIn h'->Q b (bp s h' tk))->wpAny (model pw w) A (PySem.isTrue e env whole) Q E s
abbrev eI(w:World)(A:Around)(h:Heap)(env:Env)(e:Expr)(k:Int):Prop:=Ev w A h env e λv _=>∃t,v = .int k t
abbrev om(w:World)(A:Around)(h:Heap)(env:Env)(e:Expr)(v:Value):Prop:=Ev w A h env e λu _=>u=v
abbrev EvF(w:World)(A:Around)(h:Heap)(env:Env)(e:Expr)(F:UInt64->Prop):Prop:=Ev w A h env e λv _=>∃b t,v = .float b t/\F b
section
variable{l:Expr}{P P':Value->Heap->Prop}{x:Str}
theorem Ev.up(k:h.StaysIn h')(H:Ev w A h env e P):Ev w A h' env e P:=λs Q E hs hq=>H s Q E (ai k hs) hq
theorem Ev.mono(H:Ev w A h env e P)(hP:∀v h',h.StaysIn h'->P v h'->P' v h'):Ev w A h env e P':=
 λs Q E hs hq=>H s Q E hs λv h' tk k p=>hq v h' tk k (hP v h' (ai hs k) p)
theorem Ev.ao(hn:h.Ns env.locals m)(hv:autoParam (m x=some v) cH)(hk:autoParam (env.scope.kind = .function) cH)(hl:autoParam (env.kindOf x=some .local) cH)(hb:autoParam ((x==("__debug__":Str))=false) glB_def._auto_7):om w A h env (.Name x pos) v:=
 λs Q _E hs hq=>wpAny_Name (wpAny_loadName_local hk hl (hn.keeps hs) hv (hq v s.heap s.toks (ak _) rfl)) hb
theorem aq{c:Addr}{v:Option Value}(k:h.StaysIn h')(x:h.IsCell c v):h'.IsCell c v:=(by refine ar x λo ho hd=>⟨o,k _ _ ho,hd⟩)
theorem Ev.bj{c:Addr}(hn:h.IsCell c (some v))(hk:autoParam (env.scope.kind = .function) cH)(hl:autoParam (env.kindOf x=some .cell) cH)(hc:autoParam (env.cells.lookup x=some c) cH)(hb:autoParam ((x==("__debug__":Str))=false) glB_def._auto_7):om w A h env (.Name x pos) v:=
 λs Q _E hs hq=>wpAny_Name (wpAny_loadName_cell hk hl hc (aq hs hn) (hq v s.heap s.toks (ak _) rfl)) hb
theorem Ev.d7{c:Addr}(hn:h.IsCell c (some v))(hk:autoParam (env.scope.kind = .function) cH)(hl:autoParam (env.kindOf x=some .free) cH)(hc:autoParam (env.cells.lookup x=some c) cH)(hb:autoParam ((x==("__debug__":Str))=false) glB_def._auto_7)(eJ:autoParam ((x==("__classdict__":Str))=false) glB_def._auto_7):om w A h env (.Name x pos) v:=
 λs Q _E hs hq=>wpAny_Name (wpAny_loadName_free hk hl hc (aq hs hn) (hq v s.heap s.toks (ak _) rfl) eJ) hb
theorem Ev.aD(G:Gl w h)(e:nsIn (K w.params) mainGlobals x=some (some v))(hk:autoParam (env.scope.kind = .function) cH)(hl:autoParam (env.kindOf x=some .globalImplicit) cH)(hg:autoParam (env.globals=mainGlobals) cH)(hb:autoParam ((x==("__debug__":Str))=false) glB_def._auto_7):om w A h env (.Name x pos) v:=
 λs Q _E hs hq=>by refine aG G.top λmg mb a b c=>?_;exact Name_function_global hk hl (loadGlobal_global (hg▸a.keeps hs) (mg_of G.K a e) (hq v s.heap s.toks (ak _) rfl)) hb
theorem Ev.aE(G:Gl w h)(e:nsIn (K w.params) mainGlobals x=some none)(hv:bootBuiltins x=some v)(hk:autoParam (env.scope.kind = .function) cH)(hl:autoParam (env.kindOf x=some .globalImplicit) cH)(hg:autoParam (env.globals=mainGlobals) cH)(FX:autoParam (env.builtins=builtinsNs) cH)(hn:autoParam (x≠"__name__") glB_def._auto_7)(hb:autoParam ((x==("__debug__":Str))=false) glB_def._auto_7):om w A h env (.Name x pos) v:=
 λs Q _E hs hq=>by refine aG G.top λmg mb a b c=>?_;exact Name_function_global hk hl (loadGlobal_builtin (hg▸a.keeps hs) (mg_none_of G.K a e) (FX▸b.keeps hs) ((c x hn).trans hv) (hq v s.heap s.toks (ak _) rfl)) hb
theorem Ev.int{i:Int}{k:Nat}:eI w A h env (.Constant (.int i) k pos) i:=
 λs Q _E _hs hq=>wpAny_Constant_int (hq _ s.heap (s.toks+1) (ak _) ⟨_,rfl⟩)
theorem Ev.cS(H:om w A h env e (.int k t)):eI w A h env e k:=H.mono λ_ _ _ p=>⟨t,p⟩
theorem Ev.bin{op:Operator}{P₁:Value->Prop}{P₂:Value->Prop}(Hl:Ev w A h env l λv _=>P₁ v)(Hr:Ev w A h env r λv _=>P₂ v)(zZ:∀a b (s:Shared)(Q E:Value->Shared->Prop),P₁ a->P₂ b->h.StaysIn s.heap->(∀v h' tk,s.heap.StaysIn h'->P v h'->Q v (bp s h' tk))->wpAny (model pw w) A (binaryOp op a b) Q E s):
  Ev w A h env (.BinOp l op r pos) P:=λs Q E hs hq=>
 wpAny_BinOp (Hl s _ _ hs λa h₁ bg PO ba=>Hr _ _ _ (ai hs PO) λb h₂ bZ PQ cF=>
  zZ a b _ _ _ ba cF (ai hs (ai PO PQ)) λv h₃ cW PS gz=>hq v h₃ cW (ai PO (ai PQ PS)) gz)
theorem Ev.add{b:Int}(Hl:eI w A h env l a)(Hr:eI w A h env r b):eI w A h env (.BinOp l .Add r pos) (a+b):=
 Ev.bin Hl Hr (by rintro _ _ s Q E ⟨t,rfl⟩ ⟨u,rfl⟩ _ hq;exact add_int (hq _ s.heap _ (ak _) ⟨_,rfl⟩))
theorem Ev.sub{b:Int}(Hl:eI w A h env l a)(Hr:eI w A h env r b):eI w A h env (.BinOp l .Sub r pos) (a-b):=
 Ev.bin Hl Hr (by rintro _ _ s Q E ⟨t,rfl⟩ ⟨u,rfl⟩ _ hq;exact sub_int (hq _ s.heap _ (ak _) ⟨_,rfl⟩))
theorem Ev.mul{b:Int}(Hl:eI w A h env l a)(Hr:eI w A h env r b)(hm:IntMulOk a b):eI w A h env (.BinOp l .Mult r pos) (a*b):=
 Ev.bin Hl Hr (by rintro _ _ s Q E ⟨t,rfl⟩ ⟨u,rfl⟩ _ hq;exact mul_int (hq _ s.heap _ (ak _) ⟨_,rfl⟩) hm)
theorem Ev.fmod{b:Int}(Hl:eI w A h env l a)(Hr:eI w A h env r b)(hm:b≠0):eI w A h env (.BinOp l .Mod r pos) (a.fmod b):=
 Ev.bin Hl Hr (by rintro _ _ s Q E ⟨t,rfl⟩ ⟨u,rfl⟩ _ hq;exact mod_int hm (hq _ s.heap _ (ak _) ⟨_,rfl⟩))
theorem Ev.fdiv{b:Int}(Hl:eI w A h env l a)(Hr:eI w A h env r b)(hm:b≠0)(hd:Builtin.divisionGoesByPylong a b=false):eI w A h env (.BinOp l .FloorDiv r pos) (a.fdiv b):=
 Ev.bin Hl Hr (by rintro _ _ s Q E ⟨t,rfl⟩ ⟨u,rfl⟩ _ hq;exact floordiv_int hm (hq _ s.heap _ (ak _) ⟨_,rfl⟩) (.inl hd))
end
def cU(P:α->Heap->Prop):Prop:=∀v h h',h.StaysIn h'->P v h->P v h'
def kZ(w:World)(A:Around)(h:Heap)(env:Env)(pos:Pos)(es:List Expr)(P:List Value->Heap->Prop):Prop:=
 ∀(s:Shared)(Q:List Value->Shared->Prop)(E:Value->Shared->Prop),h.StaysIn s.heap->
  (∀vs h' tk,s.heap.StaysIn h'->P vs h'->Q vs (bp s h' tk))->wpAny (model pw w) A (spliced (backTo pos (starEach es env))) Q E s
def Cl(w:World)(A:Around)(h:Heap)(f:Value)(vs:List Value)(kw:List (Str×Value))(R:Value->Heap->Prop):Prop:=
 ∀(s:Shared)(Q E:Value->Shared->Prop),h.StaysIn s.heap->
  (∀v h' tk,s.heap.StaysIn h'->R v h'->Q v (bp s h' tk))->wpAny (model pw w) A (call f vs kw) Q E s
def Kp(w:World)(h:Heap)(f:Value):Prop:=∃k,(k=Keeper.frame∨k=Keeper.machine∨k=Keeper.boundFrame)/\Looks (model pw w) h (keeperOf f) k
section
variable{x:Str}{R:Value->Heap->Prop}{P:Value->Heap->Prop}
theorem Cl.up(k:h.StaysIn h')(H:Cl w A h f vs kw R):Cl w A h' f vs kw R:=λs Q E hs hq=>H s Q E (ai k hs) hq
theorem Cl.mono(H:Cl w A h f vs kw R)(hR:∀v h',h.StaysIn h'->R v h'->R' v h'):Cl w A h f vs kw R':=
 λs Q E hs hq=>H s Q E hs λv h' tk k r=>hq v h' tk k (hR v h' (ai hs k) r)
theorem kZ.nil:kZ w A h env pos [] (λvs _=>vs=[]):=λs Q E hs hq=>spliced_nil (hq [] s.heap s.toks (ak _) rfl)
theorem kZ.cons(He:Ev w A h env e P₁)(fm:cU P₁)(Hr:kZ w A h env pos es PL)(bE:autoParam (starEach (e::es) env=(false,eval e env)::starEach es env) cH):
  kZ w A h env pos (e::es) (λvs h'=>∃v r,vs=v::r/\P₁ v h'/\PL r h'):=λs Q E hs hq=>by
 rw[bE];show wpAny _ _ (spliced ((false,eval e env)::backTo pos (starEach es env))) _ _ _;refine PC (He s _ _ hs λv h₁ bg PO ba=>Hr _ _ _ (ai hs PO) λvs h₂ bZ PQ cF=>?_);exact hq _ h₂ bZ (ai PO PQ) ⟨v,vs,rfl,fm _ _ _ PQ ba,cF⟩
theorem kZ.one(He:Ev w A h env e P₁)(fm:cU P₁)(bE:autoParam (starEach [e] env=[(false,eval e env)]) cH):kZ w A h env pos [e] (λvs h'=>∃v,vs=[v]/\P₁ v h'):=
 λs Q E hs hq=>kZ.cons (pos:=pos) He fm kZ.nil bE s Q E hs λvs h' tk k p=>hq vs h' tk k (by refine aG p λv r e1 e2 e3=>⟨v,by rw[e1,e3],e2⟩)
theorem kZ.mono{PL':List Value->Heap->Prop}(H:kZ w A h env pos es PL)(hP:∀v h',h.StaysIn h'->PL v h'->PL' v h'):kZ w A h env pos es PL':=
 λs Q E hs hq=>H s Q E hs λv h' tk k p=>hq v h' tk k (hP v h' (ai hs k) p)
theorem Kp.builtin{id:String}:Kp w h (.builtin id):=⟨.machine,.inr (.inl rfl),Looks.of_pure rfl⟩
theorem Kp.type{T:String}:Kp w h (.type T):=⟨.machine,.inr (.inl rfl),Looks.of_pure rfl⟩
theorem Kp.K(G:Gl w h)(hk:keepIn (Mine.K w.params) f=true):Kp w h f:=keeps_K hk h G.K
theorem Kp.up(k:h.StaysIn h')(H:Kp w h f):Kp w h' f:=(by refine ar H λq a b=>⟨q,a,b.keeps k⟩)
theorem Ev.fA(Hf:Ev w A h env e (λu _=>u=f))(kp:Kp w h f)(Ha:kZ w A h env pos es PL)(ji:(backTo pos (starEach es env)).any (·.1)=false)(hc:∀vs h₁,h.StaysIn h₁->PL vs h₁->Cl w A h₁ f vs [] R)(jC:eval (.Call e es [] pos) env=(do let g <-eval e env;callWith pos g [] (backTo pos (starEach es env)) (backToKw pos (keywordEach [] env))))(xc:∀{Q:Args->Shared->Prop}{E:Value->Shared->Prop}{s:Shared},wpAny (model pw w) A (spliced (backTo pos (starEach es env))) (λvs s'=>Q ⟨vs,[]⟩ s') E s->wpAny (model pw w) A (evalArgs f true (backTo pos (starEach es env)) []) Q E s):
  Ev w A h env (.Call e es [] pos) R:=λs Q E hs hq=>by
 rw[jC];refine J' (Hf s _ _ hs λv h₁ bg PO bB=>?_);subst bB;refine callWith_of (P:=λh'=>h.StaysIn h') (by rw[ji];rfl) (λh' k=>(kp.up k)) (xc (Ha _ _ _ (ai hs PO) λvs h₂ bZ PQ cF=>⟨ai hs (ai PO PQ),?_⟩));exact hc vs h₂ (ai hs (ai PO PQ)) cF _ _ _ (ak _) λv h₃ cW PS gz=>hq v h₃ cW (ai PO (ai PQ PS)) gz
theorem Ev.bz{a:Expr}(Hf:Ev w A h env (.Name x p) (λu _=>u=f))(kp:Kp w h f)(Ha:Ev w A h env a P₁)(fm:cU P₁)(hc:∀v h₁,h.StaysIn h₁->P₁ v h₁->Cl w A h₁ f [v] [] R)(bE:autoParam (starEach [a] env=[(false,eval a env)]) cH):
  Ev w A h env (.Call (.Name x p) [a] [] pos) R:=
 Ev.fA Hf kp (kZ.one Ha fm bE) (by rw[bE];rfl) (λvs h₁ k q=>by refine ar q ?_;clear q;intro v j1 q;subst j1;exact hc v h₁ k q) rfl (λh=>by rw[bE] at h ⊢;exact PH h)
theorem Ev.call2{a b:Expr}(Hf:Ev w A h env (.Name x p) (λu _=>u=f))(kp:Kp w h f)(Ha:Ev w A h env a P₁)(fm:cU P₁)(Hb:Ev w A h env b P₂)(jD:cU P₂)(hc:∀v u h₁,h.StaysIn h₁->P₁ v h₁->P₂ u h₁->Cl w A h₁ f [v,u] [] R)(bE:autoParam (starEach [a,b] env=[(false,eval a env),(false,eval b env)]) cH)(cQ:autoParam (starEach [b] env=[(false,eval b env)]) cH):
  Ev w A h env (.Call (.Name x p) [a,b] [] pos) R:=
 Ev.fA Hf kp (kZ.cons Ha fm (kZ.one Hb jD cQ) (by rw[bE,cQ])) (by rw[bE];rfl) (λvs h₁ k q=>by refine aG q ?_;clear q;intro v _ j1 q j2;refine ar j2 λu j3 q'=>?_;clear j2;subst j3;subst j1;exact hc v u h₁ k q q') rfl (λh=>by rw[bE] at h ⊢;exact PH h)
theorem Ev.uv{a b c:Expr}(Hf:Ev w A h env (.Name x p) (λu _=>u=f))(kp:Kp w h f)(Ha:Ev w A h env a P₁)(fm:cU P₁)(Hb:Ev w A h env b P₂)(jD:cU P₂)(Hc:Ev w A h env c P₃)(qM:cU P₃)(hc:∀v u z h₁,h.StaysIn h₁->P₁ v h₁->P₂ u h₁->P₃ z h₁->Cl w A h₁ f [v,u,z] [] R)(bE:autoParam (starEach [a,b,c] env=[(false,eval a env),(false,eval b env),(false,eval c env)]) cH)(cQ:autoParam (starEach [b,c] env=[(false,eval b env),(false,eval c env)]) cH)(fB:autoParam (starEach [c] env=[(false,eval c env)]) cH):
  Ev w A h env (.Call (.Name x p) [a,b,c] [] pos) R:=
 Ev.fA Hf kp (kZ.cons Ha fm (kZ.cons Hb jD (kZ.one Hc qM fB) (by rw[cQ,fB])) (by rw[bE,cQ])) (by rw[bE];rfl) (λvs h₁ k q=>by refine aG q ?_;clear q;intro v _ j1 q j2;refine aG j2 λu _ j3 q' j4=>ar j4 λz j5 HK=>?_;clear j2 j4;subst j5;subst j3;subst j1;exact hc v u z h₁ k q q' HK) rfl (λh=>by rw[bE] at h ⊢;exact PH h)
theorem aA{P:Value->Prop}:cU (λv (_:Heap)=>P v):=λ_ _ _ _ p=>p
theorem isList_stays(k:h.StaysIn h')(x:h.IsList l its):h'.IsList l its:=(by refine ar x λo ho r=>⟨o,k _ _ ho,r⟩)
def LI(ns:List Int)(v:Value)(h:Heap):Prop:=∃l vs,v = .ref l/\h.IsList l vs.toArray/\IntsAre vs ns
theorem LI.ref{ns:List Int}{a:Addr}(x:LI ns (.ref a) h):∃vs:List Value,h.IsList a vs.toArray/\IntsAre vs ns:=by
 refine aN x λl vs e b=>?_;clear x;injection e with e
 exact⟨vs,e▸b⟩
theorem LI.av{ns:List Int}:cU (LI ns):=λv h h' k=>λbV=>by refine aG bV λl vs e a b=>⟨l,vs,e,isList_stays k a,b⟩
theorem Ev.item{a i:Expr}{ns:List Int}{y:Int}(Ha:Ev w A h env a (LI ns))(Hi:eI w A h env i k)(h0:0<=k)(cN:k<2^63)(hy:ns[k.toNat]?=some y)(hs:∀l t,subscripted i false (.ref l) (.int k t)=operate [.ref l,.int k t] (getItem (.ref l) (.int k t)):=by intros;with_unfolding_all rfl):eI w A h env (.Subscript a i pos) y:=λs Q E wX hq=>by
 refine Subscript_ (Ha s _ _ wX λv h₁ bg PO PV=>Hi _ _ _ (ai wX PO) λu h₂ bZ PQ Pf=>?_);refine aG PV λl vs j3 hl hi=>?_;clear PV;subst j3;refine aR Pf λt j2=>?_;clear Pf;subst j2;obtain⟨v,t',hv⟩:∃v t',vs[k.toNat]?=some v/\v = .int y t':=by have hlen:=hi.length;rcases List.getElem?_eq_some_iff.mp hy with⟨hb,_⟩;refine aN (IntsAre.at hi k.toNat (vs[k.toNat]'(by omega)) (by simp)) λk' t' e1 e2=>?_;rw[hy] at e2;cases e2;exact⟨_,t',by simp,e1⟩
 refine cA hv ?_;clear hv;intro hv j1;subst j1;have BE:=isList_stays PQ hl;exact tail_any BE.typeIs slot_list_getitem.lookup (wpAny_getItem_list BE h0 cN (by simpa using hv) (hq _ h₂ bZ (ai PO PQ) ⟨t',rfl⟩)) (hs l t)
end
section
variable{l:Expr}{x:Str}{R:Value->Heap->Prop}{P:Value->Heap->Prop}
theorem de.lt{b:Int}(Hl:eI w A h env l a)(Hr:eI w A h env r b)(hb:autoParam (behindInMarks .Lt r=false) cH):de w A h env (.Compare l [.Lt] [r] pos) (decide (a<b)):=λs wh Q E hs hq=>
 O7 (Hl s _ _ hs λu h₁ bg PO ba=>Hr _ _ _ (ai hs PO) λv h₂ bZ PQ cF=>by refine aR ba λt j2=>?_;clear ba;subst j2;refine aR cF λt' j1=>?_;clear cF;subst j1;exact lt_int (Oi (hq h₂ bZ (ai PO PQ)))) hb
theorem de.gt{b:Int}(Hl:eI w A h env l a)(Hr:eI w A h env r b)(hb:autoParam (behindInMarks .Gt r=false) cH):de w A h env (.Compare l [.Gt] [r] pos) (decide (b<a)):=λs wh Q E hs hq=>
 O7 (Hl s _ _ hs λu h₁ bg PO ba=>Hr _ _ _ (ai hs PO) λv h₂ bZ PQ cF=>by refine aR ba λt j2=>?_;clear ba;subst j2;refine aR cF λt' j1=>?_;clear cF;subst j1;exact gt_int (Oi (hq h₂ bZ (ai PO PQ)))) hb
theorem de.eq{b:Int}(Hl:eI w A h env l a)(Hr:eI w A h env r b)(hb:autoParam (behindInMarks .Eq r=false) cH):de w A h env (.Compare l [.Eq] [r] pos) (a==b):=λs wh Q E hs hq=>
 O7 (Hl s _ _ hs λu h₁ bg PO ba=>Hr _ _ _ (ai hs PO) λv h₂ bZ PQ cF=>by refine aR ba λt j2=>?_;clear ba;subst j2;refine aR cF λt' j1=>?_;clear cF;subst j1;exact eq_int (Oi (hq h₂ bZ (ai PO PQ)))) hb
theorem Ev.comp{cl:List (Str×Addr)}(Φ:List Value->Prop)(pz:Value->Bool)(F:Value->Value->Prop)(cP:closureFor scope env=pure cl)(aQ:∀y∈scope.names,y.2≠.cell)(bK:scope.kind = .function)(cV:∀y∈scope.names,y.2 = .local->scope.names.lookup y.1=some .local)(hx:scope.names.lookup x=some .local)(hh:A.handled=none)(hit:Ev w A h env iter (λv h'=>∃ax items,v = .ref ax/\h'.IsList ax items.toArray/\Φ items))(hsz:∀items,Φ items->items.length<=sizeLine)(sN:∀items,Φ items->∀v∈items,∀C m h',h.StaysIn h'->h'.Ns C m->m x=some v->(ifs=[]/\pz v=true)∨∃c,ifs=[c]/\de w A h' (compEnvC scope cl C env) c (pz v))(dm:∀items,Φ items->∀v∈items,pz v=true->∀C m h',h.StaysIn h'->h'.Ns C m->m x=some v->Ev w A h' (compEnvC scope cl C env) elt (λy _=>F v y))(hs:∀x,foldedSetIterable iter env x=pure x:=by intro _;rfl):
  Ev w A h env (.ListComp elt [⟨.Name x px,iter,ifs,0⟩] scope pos) (λv h'=>∃D ys items,v = .ref D/\h'.IsList D ys.toArray/\Φ items/\Paired F (items.filter pz) ys):=λs Q E dI hq=>by
 refine wpAny_ListComp_free pz F cP aQ bK cV hx (hit s _ _ dI λv h₁ bg PO PV=>?_) hs;refine aG PV λax items j7 hl hΦ=>?_;clear PV;subst j7;refine O1 hl ?_;have cN:ax<h₁.objs.size:=by refine ar hl λ_ e _=>ON e
 have up:∀b o,h₁.get? b=some o->(h₁.push {cls:=.type "list_iterator",data:=.fields #[.ref ax,.int 0 0]}).get? b=some o:=λb o e=>K' _ e;refine⟨h₁.objs.size,[h₁.objs.size,ax],[h₁.objs.size],items.toArray.size,_,_,rfl,Walks.list hh h₁.objs.size ax (OI cN) items.toArray,by rw[List.size_toArray];exact hsz _ hΦ,⟨⟨_,OC _ rfl,rfl,rfl⟩,isList_stays up hl⟩,?_,?_,?_⟩
 ·intro b hb
  show b<(h₁.push _).objs.size;rw[Heap.size_push];rcases OA hb with j6|hb<;>(first|(replace j6:=OK j6;subst j6)|skip)
  ·exact OY _
  ·rw[List.mem_singleton.mp hb];exact Ox cN
 ·have ext:∀g:Heap,(∀b o,b∉[h₁.objs.size]->(h₁.push {cls:=.type "list_iterator",data:=.fields #[.ref ax,.int 0 0]}).get? b=some o->g.get? b=some o)->h.StaysIn g:=λg k b o e=>by
   have bB:h₁.get? b=some o:=PO _ _ (dI _ _ e);exact k b o (by simp only[List.mem_singleton];exact OI (ON bB)) (up _ _ bB)
  refine⟨?_,?_⟩
  ·intro C i v cq pG E' _ hP hn hm hk _
   have bX:v∈items:=List.mem_of_getElem? (by simpa using hP);rcases sN items hΦ v bX C pG cq.heap (ext _ hk) hn hm with j2|j3<;>(first|(refine cA j2 λj4 hp=>?_;clear j2;subst j4)| (refine ar j3 λc j5 H=>?_;clear j3;subst j5))
   ·exact wpAny_tests_nil ⟨hp.symm,cq.heap,cq.toks,rfl,ak _⟩
   ·exact wpAny_tests_one (H cq _ _ _ (ak _) λh' tk k=>⟨rfl,h',tk,rfl,k⟩)
  ·intro C i v cq pG E' _ hP hp hn hm hk _
   have bX:v∈items:=List.mem_of_getElem? (by simpa using hP);exact dm items hΦ v bX hp C pG cq.heap (ext _ hk) hn hm cq _ _ (ak _) λy h' tk k hF=>⟨hF,h',tk,rfl,k⟩
 ·intro D h' tk ys vs hD nX zK hlen hP hF hk
  have e:vs=items:=by
   apply List.ext_getElem?;intro i;rw[List.size_toArray] at hlen;cases q:vs[i]? with
   |none=>rw[List.getElem?_eq_none_iff] at q;rw[List.getElem?_eq_none (by omega)]
   |some v=>have:=hP i v q;simpa using this.symm
  subst e;refine hq (.ref D) h' tk (λb o eb=>?_) ⟨D,ys.toList,_,rfl,by simpa using nX,hΦ,hF⟩;have bB:h₁.get? b=some o:=PO _ _ eb;exact hk b o (by simp only[List.mem_singleton];exact OI (ON bB)) (up _ _ bB)
theorem dF{ns:List Int}(hi:IntsAre vs ns)(hv:v∈vs):∃k t,v = .int k t/\k∈ns:=by
 induction hi with
 |nil=>cases hv
 |cons k t r ih=>
  rcases OA hv with j1|hv<;>(first|(replace j1:=OK j1;subst j1)|skip)
  ·exact⟨k,t,rfl,.head _⟩
  ·refine aN (ih hv) λk' t' e m=>⟨k',t',e,.tail _ m⟩
noncomputable def hU:Value->Int
 | .int k _=>k
 |_=>0
theorem qN{ns:List Int}(hi:IntsAre vs ns)(q:Int->Bool):IntsAre (vs.filter λv=>q (hU v)) (ns.filter q):=by
 induction hi with
 |nil=>exact .nil
 |cons k t r ih=>
  simp only[List.filter_cons];show IntsAre (if q k=true then _ else _) _;split
  ·exact .cons k t ih
  ·exact ih
theorem lg{ys:List Value}{ns:List Int}(g:Int->Int)(hi:IntsAre vs ns)(hp:Paired (λv y=>∃t,y = .int (g (hU v)) t) vs ys):IntsAre ys (ns.map g):=by
 induction hi generalizing ys with
 |nil=>cases hp;exact .nil
 |cons k t r ih=>
  cases hp with
  |cons h1 h2=>refine aR h1 λt' j1=>?_;clear h1;subst j1;exact .cons _ t' (ih h2)
theorem Ev.mf{cl:List (Str×Addr)}{ns:List Int}(q:Int->Bool)(g:Int->Int)(hit:Ev w A h env iter (LI ns))(hsz:ns.length<=sizeLine)(hh:A.handled=none)(sN:∀k∈ns,∀C t m h',h.StaysIn h'->h'.Ns C m->m x=some (.int k t)->(ifs=[]/\q k=true)∨∃c,ifs=[c]/\de w A h' (compEnvC scope cl C env) c (q k))(dm:∀k∈ns,q k=true->∀C t m h',h.StaysIn h'->h'.Ns C m->m x=some (.int k t)->eI w A h' (compEnvC scope cl C env) elt (g k))(cP:closureFor scope env=pure cl)(aQ:∀y∈scope.names,y.2≠.cell)(bK:scope.kind = .function)(cV:∀y∈scope.names,y.2 = .local->scope.names.lookup y.1=some .local)(hx:scope.names.lookup x=some .local)(hs:∀x,foldedSetIterable iter env x=pure x:=by intro _;rfl):
  Ev w A h env (.ListComp elt [⟨.Name x px,iter,ifs,0⟩] scope pos) (LI ((ns.filter q).map g)):= 
 (Ev.comp (λvs=>IntsAre vs ns) (λv=>q (hU v)) (λv y=>∃t,y = .int (g (hU v)) t) cP aQ bK cV hx hh (hit.mono λv h' _ bV=>by refine aG bV λl vs e a b=>⟨l,vs,e,a,b⟩) (λvs hi=>by rw[hi.length];exact hsz)
  (λvs hi v hv C m h' k hn hm=>by refine aN (dF hi hv) λi t j2 bX=>?_;subst j2;exact sN i bX C t m h' k hn hm)
  (λvs hi v hv hp C m h' k hn hm=>by
   refine aN (dF hi hv) λi t j1 bX=>?_;subst j1;exact dm i bX hp C t m h' k hn hm) hs).mono (by
   rintro v h' _ ⟨D,ys,vs,rfl,hl,hi,hp⟩
   exact⟨D,ys,rfl,hl,lg g (qN hi q) hp⟩)
end
theorem mh(hl:h.IsList l its)(hn:its.size=n)(hz:n<=16384):Cl w A h (.builtin "len") [.ref l] [] (λv _=>∃t,v = .int n t):=λs Q E hs hq=>by subst hn;exact len_list (isList_stays hs hl) (by omega) (hq _ s.heap _ (ak _) ⟨_,rfl⟩)
theorem dC{ns:List Int}(hl:LI ns v h)(hz:ns.length<=16384):Cl w A h (.builtin "len") [v] [] (λv _=>∃t,v = .int ns.length t):=by refine aG hl λl vs j1 a b=>?_;clear hl;subst j1;exact mh a (by simpa using b.length) hz
theorem km{ns:List Int}(hh:A.handled=none)(hl:LI ns v h):Cl w A h (.builtin "sum") [v] [] (λv _=>∃t,v = .int ns.sum t):=by
 refine aG hl λl vs j1 a b=>?_;clear hl;subst j1;intro s Q E hs hq;have ha:=isList_stays hs a;refine aR b.allInts.items λxs DG=>?_;have e:ns.sum=preSum (numAt xs) xs.size:=by
  rw[<-b.numsOf];have:vs=(intItems xs).toList:=by rw[<-DG]
  rw[this,nums_intItems,preSum_eq,List.take_of_length_le (by simp)]
 rw[DG] at ha;exact sum_intListG hh ha λh' tk t' k=>hq _ h' tk k ⟨t',by rw[e]⟩
structure Fm(g:Heap)(L:Addr)(m:Str->Option Value)(cs:List Addr)(h:Heap):Prop where
 keep:g.StaysIn h
 off:g.get? L=none
 ns:h.Ns L m
 cells:∀c∈cs,g.get? c=none/\h.IsCell c none
noncomputable def oN:Flow->Value
 | .ret v=>v
 |_=>.none
def Bd(w:World)(A:Around)(env:Env)(g:Heap)(m:Str->Option Value)(cs:List Addr)(body:List Stmt)(R:Value->Heap->Prop):Prop:=
 ∀(s:Shared)(Q E:Value->Shared->Prop),Fm g env.locals m cs s.heap->(∀v h' tk,g.StaysIn h'->R v h'->Q v (bp s h' tk))->
  wpAny (model pw w) A (execs body env) (λfl s'=>Q (oN fl) s') E s
def Hid(P:Value->Heap->Prop)(g:Heap)(L:Addr)(cs:List Addr):Prop:=∀v (h:Heap) m,Fm g L m cs h->P v h->P v (hideAll h (L::cs))
theorem KO{P:Value->Prop}:Hid (λv _=>P v) g L cs:=λ_ _ _ _ p=>p
theorem Fm.z0(F:Fm g L m cs h)(hl:h.IsList l its):l∉L::cs:=λhm=>by
 refine bl hl λo ho _ j2=>aR j2 λn hd=>?_;clear hl j2;rcases OA hm with j1|hm<;>(first|(replace j1:=OK j1;subst j1)|skip)
 ·refine bf F.ns λo' es ep aW bL _=>?_
  rw[ho] at aW;cases aW;rw[hd] at bL;cases bL
 ·refine ar ((F.cells l hm).2) λo' aW bL=>?_
  rw[ho] at aW;cases aW;rw[hd] at bL;cases bL
theorem Fm.xd(F:Fm g L m cs h)(hl:h.IsList l its):(hideAll h (L::cs)).IsList l its:=
 (by refine ar (hl) λo ho r=>⟨o,OO _ ho (F.z0 hl),r⟩)
theorem L7{ns:List Int}:Hid (LI ns) g L cs:=λv h m F bV=>by refine aG bV λl vs e a b=>⟨l,vs,e,F.xd a,b⟩
theorem Fm.hide(F:Fm g L m cs h):g.StaysIn (hideAll h (L::cs)):=λb o e=>OO _ (F.keep b o e) λhm=>by
 rcases OA hm with j1|hm<;>(first|(replace j1:=OK j1;subst j1)|skip)
 ·rw[F.off] at e;cases e
 ·rw[(F.cells b hm).1] at e;cases e
theorem Fm.step(F:Fm g L m cs h)(k:h.StaysIn h'):Fm g L m cs h':=
 ⟨ai F.keep k,F.off,F.ns.keeps k,λc hc=>⟨(F.cells c hc).1,aq k (F.cells c hc).2⟩⟩
theorem Fm.up(F:Fm g L m cs h):Fm (hideAll h (L::cs)) L m cs h:=
 ⟨λ_ _ e=>OW _ e,Oo _ (.head _),F.ns,λc hc=>⟨Oo _ (.tail _ hc),(F.cells c hc).2⟩⟩
theorem zL(l:List Addr)(k:h.StaysIn h'):(hideAll h l).StaysIn h':=λ_ _ e=>k _ _ (OW _ e)
section
variable{x:Str}{R:Value->Heap->Prop}{P:Value->Heap->Prop}
theorem Bd.ret(He:∀h,Fm g env.locals m cs h->Ev w A h env e P)(hR:∀v h',g.StaysIn h'->P v h'->R v h'):Bd w A env g m cs (.Return (some e) pos::rest) R:=λs Q E F hq=>
 OT (O3 (He s.heap F s _ _ (ak _) λv h' tk k q=>hq v h' tk (ai F.keep k) (hR v h' (ai F.keep k) q)))
theorem Bd.assign(He:∀h,Fm g env.locals m cs h->Ev w A h env e P)(hH:Hid P g env.locals cs)(hk:∀v g',g.StaysIn g'->P v g'->Bd w A env g' (λy=>if y=x then some v else m y) cs rest R)(hl:env.kindOf x=some .local)(hp:autoParam ((env.scope.kind == .class||(env.scope.kind == .module&&env.locals !=env.globals))=false) cH)(kn:autoParam (swapsWith e (some (.Name x p)) pos.line env=pure false) cH):Bd w A env g m cs (.Assign [.Name x p] e pos::rest) R:=λs Q E F hq=>by
 refine OT (Ot (He s.heap F s _ _ (ak _) λv h₁ bg PO PV=>?_) kn);have F₁:=F.step PO;refine OR hl F₁.ns (λh₂ cD aJ=>?_) hp;have F₂:Fm (hideAll h₁ (env.locals::cs)) env.locals (λy=>if y=x then some v else m y) cs h₂:=by refine⟨λb o eb=>aJ.extBut b o (λq=>by subst q;rw[hideAll_none _ (.head _)] at eb;cases eb) (OW _ eb),Oo _ (.head _),cD,λc hc=>⟨Oo _ (.tail _ hc),?_⟩⟩;refine ar ((F₁.cells c hc).2) λo ho hd=>?_;refine⟨o,aJ.extBut c o (λq=>?_) ho,hd⟩;refine bf F₁.ns λo' es ep aW bL _=>?_;rw[<-q,ho] at aW;cases aW;rw[hd] at bL;cases bL
 exact hk v _ F₁.hide (hH v h₁ _ F₁ PV) _ _ _ F₂ λv h' tk k r=>hq v h' tk (ai F₁.hide k) r
end
section
variable{R:Value->Heap->Prop}{body:List Stmt}{doc:Value}{fo:Obj}{f:Addr}
theorem gR{cm:Str->Option Value}:∀{cs:List (Str×Addr)}{cells:List (Addr×Obj)},CellsAre cm cs cells->News h₀ L h cells->∀n c,(n,c)∈cs->h.IsCell c (cm n)/\h₀.get? c=none/\c≠L:=by
 intro cs cells Y;induction Y with
 |nil=>intro _ n c hm;cases hm
 |cons hd r ih=>
  intro N n c hm;rcases OA hm with e|hm
  ·cases e
   have:=N _ (List.mem_cons_self ..);exact⟨⟨_,this.1,hd⟩,this.2.2,this.2.1⟩
  ·exact ih (λp hp=>N p (.tail _ hp)) n c hm
theorem Cl.def(G:Gl w h)(ho:(Mine.K w.params).lookup f=some fo)(hd:fo.data = .func (fnX name qual params body scope [] dV kV doc pm an fk ct))(qC:codeIn (Mine.K w.params) fk qual=true)(eH:A.depth<recursionLimit)(f7:∀s:Shared,h.StaysIn s.heap->BindsTo s (fnX name qual params body scope [] dV kV doc pm an fk ct) ⟨vs,kw⟩ binds)(bK:(binds.all λy=>scope.names.lookup y.1==some .local||scope.names.lookup y.1==some .cell)=true)(DE:((cellsFrom 0 scope.names []).map (·.1)).Nodup)(hB:∀L g,h.StaysIn g->g.get? L=none->
   (∀n c v,(n,c)∈cellsFrom (L+1) scope.names []->bindC (envOfC qual scope L f fk).kindOf binds (λ_=>none) n=some v->g.IsCell c (some v))->
   Bd w (A.deeper (envOfC qual scope L f fk)) (envOfC qual scope L f fk) g (bindL (envOfC qual scope L f fk).kindOf binds λ_=>none)
    (((cellsFrom (L+1) scope.names []).filter λp=>(bindC (envOfC qual scope L f fk).kindOf binds (λ_=>none) p.1).isNone).map (·.2)) body R)(qD:autoParam (scope.isCoroutine=false) cH)(iW:autoParam (scope.isGenerator=false) cH)(hk:autoParam (scope.kind = .function) cH):
  Cl w A h (.ref f) vs kw R:=λs Q E hs hq=>by
 have G':=G.mono hs;refine wpAny_call (kY G'.nolimit (G'.K _ _ ho) hd (codeRec_of G'.K qC) eH (f7 s hs) (kindsX bK) DE (λh₁ tk cells F N Y=>?_) qD iW hk);have look:=gR Y N;generalize hcm:(bindC (envOfC qual scope s.heap.objs.size f fk).kindOf binds λ_=>none)=cm at look Y;generalize zM:((cellsFrom (s.heap.objs.size+1) scope.names []).filter λp=>(cm p.1).isNone).map (·.2)=un;have hL:s.heap.get? s.heap.objs.size=none:=OL (OM _);have qO:∀c∈un,h₁.IsCell c none/\s.heap.get? c=none:=λc hc=>by subst zM;refine ar (OF hc) λj4 hm j5=>?_;subst j5;rcases j4 with⟨n,c'⟩;refine cA (List.mem_filter.mp hm) λhm hn=>?_;have:=look n c' hm;rw[Option.isNone_iff_eq_none.mp hn] at this;exact⟨this.1,this.2.1⟩
 have st:s.heap.StaysIn (hideAll h₁ (s.heap.objs.size::un)):=λb o e=>OO _ (F.keep b o e) λhm=>by
  rcases OA hm with j3|hm<;>(first|(replace j3:=OK j3;subst j3)|skip)
  ·rw[hL] at e;cases e
  ·rw[(qO b hm).2] at e;cases e
 have B:=hB s.heap.objs.size (hideAll h₁ (s.heap.objs.size::un)) (ai hs st) (Oo _ (.head _)) (λn c v hm hv=>?_)
 ·rw[hcm,zM] at B
  refine Oj (B (bp s h₁ tk) Q _ ⟨λ_ _ e=>OW _ e,Oo _ (.head _),F.ns,λc hc=>⟨Oo _ (.tail _ hc),(qO c hc).1⟩⟩
   λv h' gv k r=>hq v h' gv (ai st k) r) (λfl s' x=>?_) λe s' x=>x
  cases fl<;>exact x
 ·rw[hcm] at hv
  have:=look n c hm;rw[hv] at this;refine du this λj2 hf i7=>ar j2 λo aW bL=>?_;clear this j2;refine⟨o,OO _ aW λiI=>?_,bL⟩;rcases OA iI with j1|iI<;>(first|(replace j1:=OK j1;subst j1)|skip)
  ·exact i7 rfl
  ·refine ar ((qO c iI).1) λo' et eK=>?_
   rw[aW] at et;cases et;rw[bL] at eK;cases eK
end
section
variable{l:Expr}{x:Str}
theorem lh{target:Expr}{it:Value}(Φ:Nat->Shared->Prop)(turn:∀(T:Option Value->Shared->Prop)(En:Value->Shared->Prop) k s,(∀aB,R (.ok .next) aB->T none aB)->
   (∀v aB,(∀B:Shared->Prop,(∀m s',Φ m s'->m<k->B s')->wpAny (model prog w) A (assign target env v) (λ_ bN=>wpAny (model prog w) A (eval elt env) (λx cq=>wpAny (model prog w) A (call (.builtin "list.append") [acc,x]) (λ_ jE=>B jE) En cq) En bN) En aB)->T (some v) aB)->Φ k s->wpAny (model prog w) A (pyNext it) T En s)(n:Nat)(h:Φ n s)(ht:∀v,letOwnedTupleGo target it v=pure ():=by intro _;rfl):codeAny (model prog w) A (.compLoop (.ListComp elt [⟨target,iter,[],0⟩] scope pos) 0 it acc env) R s:=by
 refine codeAny_compLoop_list Φ (λn s hI=>?_) n h ht;exact turn _ _ n s (λ_ h=>h) (λv aB h=>h (λjE=>∃m,m<n/\Φ m jE) λm s' hi hm=>⟨m,hm,hi⟩) hI
theorem Ev.HL{cl:List (Str×Addr)}(Φ:List Value->Prop)(F:Value->Value->Prop)(cP:closureFor scope env=pure cl)(bK:scope.kind = .function)(cV:∀y∈scope.names,y.2 = .local->scope.names.lookup y.1=some .local)(hxr:(relabel scope env).names.lookup x=some .cell)(hh:A.handled=none)(sO:newFunctionEnv scope env.globals cl [] env.qual none .none (some env)=(alloc {cls:=.type "dict",data:=.dict #[]} >>= λL=>alloc {cls:=.type "cell",data:=.cell none} >>= λc=>
   pure {scope:=scope,locals:=L,globals:=env.globals,cells:=(x,c)::cl,qual:=env.qual,func:=none,code:=env.code,frame:=env.frame,builtins:=env.builtins}))(hit:Ev w A h env iter (λv h'=>∃ax items,v = .ref ax/\h'.IsList ax items.toArray/\Φ items))(hsz:∀items,Φ items->items.length<=sizeLine)(dm:∀items,Φ items->∀v∈items,∀C c h',h.StaysIn h'->h'.IsCell c (some v)->Ev w A h' (compEnvC scope ((x,c)::cl) C env) elt (λy _=>F v y))(hs:∀x,foldedSetIterable iter env x=pure x:=by intro _;rfl):
  Ev w A h env (.ListComp elt [⟨.Name x px,iter,[],0⟩] scope pos) (λv h'=>∃D ys items,v = .ref D/\h'.IsList D ys.toArray/\Φ items/\Paired F items ys):=λs Q E dI hq=>by
 rw[eval_ListComp];refine wpAny_comprehension_free (use:=none) rfl hs cP bK cV (hit s _ _ dI λv h₁ bg PO PV=>?_);refine aG PV λax items j6 hl hΦ=>?_;clear PV;subst j6;refine O1 hl ?_;have cN:ax<h₁.objs.size:=by refine ar hl λ_ e _=>ON e
 refine O5 ?_;rw[sO];refine J' (wpAny_alloc (J' (wpAny_alloc (OD ?_))));dsimp only;generalize hH1:h₁.push {cls:=.type "list_iterator",data:=.fields #[.ref ax,.int 0 0]}=H1;have n1:H1.objs.size=h₁.objs.size+1:=by rw[<-hH1,Heap.size_push]
 have u1:h₁.StaysIn H1:=λb o e=>hH1▸K' _ e;have hI:H1.get? h₁.objs.size=some {cls:=.type "list_iterator",data:=.fields #[.ref ax,.int 0 0]}:=hH1▸OC _ rfl;generalize hH2:H1.push {cls:=.type "list",dict:=none,data:=.seq ([]:List Value).toArray}=H2;have n2:H2.objs.size=h₁.objs.size+2:=by rw[<-hH2,Heap.size_push,n1]
 have u2:H1.StaysIn H2:=λb o e=>hH2▸K' _ e;have hD:H2.get? H1.objs.size=some {cls:=.type "list",dict:=none,data:=.seq ([]:List Value).toArray}:=hH2▸OC _ rfl;generalize hH3:H2.push {cls:=.type "dict",data:=.dict #[]}=H3;have n3:H3.objs.size=h₁.objs.size+3:=by rw[<-hH3,Heap.size_push,n2]
 have u3:H2.StaysIn H3:=λb o e=>hH3▸K' _ e;have hC:H3.Ns H2.objs.size (λ_=>none):=hH3▸Heap.Ns.new H2 (.type "dict");generalize hH4:H3.push {cls:=.type "cell",data:=.cell none}=H4;have u4:H3.StaysIn H4:=λb o e=>hH4▸K' _ e;have hc:H4.IsCell H3.objs.size none:=⟨_,hH4▸OC _ rfl,rfl⟩;have up:h₁.StaysIn H4:=ai u1 (ai u2 (ai u3 u4));have hI4:H4.IsListIter h₁.objs.size ax 0:=⟨_,u4 _ _ (u3 _ _ (u2 _ _ hI)),rfl,rfl⟩;have hD4:H4.PlainList H1.objs.size #[]:=⟨_,u4 _ _ (u3 _ _ hD)⟩;have hC4:H4.Ns H2.objs.size (λ_=>none):=hC.keeps u4;rw[n1] at hD4 ⊢;rw[n2] at hC4 ⊢;rw[n3] at hc ⊢;clear hH1 hH2 hH3 hH4 u1 u2 u3 u4 hI hD hC n1 n2 n3 H1 H2 H3;generalize hN:h₁.objs.size=N at *;have old:∀b o,h₁.get? b=some o->b<N:=λb o e=>hN▸ON e;have BF:∀i j:Nat,i≠j->@Ne Nat (N+i) (N+j):=λi j h=>by omega
 have nb:∀(b:Nat)(o:Obj)(j:Nat),h₁.get? b=some o->@Ne Nat b (N+j):=λb o j e=>by have:@LT.lt Nat _ b N:=old b o e;omega
 have nl:∀(b:Nat)(o:Obj),h₁.get? b=some o->b∉[N]:=λb o e=>by simp only[List.mem_singleton];exact nb b o 0 e
 have i7:∀j:Nat,(N+(j+1):Nat)∉[N]:=λj=>by simp only[List.mem_singleton];exact BF (j+1) 0 (by omega)
 have nax:∀j:Nat,@Ne Nat ax (N+j):=λj=>by have:@LT.lt Nat _ ax N:=cN;omega
 have W:=Walks.list (prog:=pw) (w:=w) hh N ax (OI cN) items.toArray;have loop:∀oL:Nat,codeAny (model pw w) A (.compLoop (.ListComp elt [⟨.Name x px,iter,[],0⟩] scope pos) 0 (.ref N) (.ref (N+1)) (compEnvC scope ((x,N+3)::cl) (N+2) env))
   (compPost (model pw w) A E none Q (.ref (N+1)) (N+2)) (bp s H4 oL):=λoL=>by
  refine lh
   (λk s'=>∃h' tk i ys DH,s'=(bp s h' tk)/\i<=items.length/\k=items.length+1-i/\(h'.IsListIter N ax i/\h'.IsList ax items.toArray)/\h'.PlainList (N+1) ys/\ys.size=i/\
    h'.Ns (N+2) (λ_=>none)/\h'.IsCell (N+3) DH/\Paired F (items.take i) ys.toList/\h₁.StaysIn h') ?_ (items.length+1)
   ⟨H4,oL,0,#[],none,rfl,PF _,rfl,⟨hI4,isList_stays up hl⟩,hD4,rfl,hC4,hc,by simpa using Paired.nil,up⟩
  intro T En k s' hd hg hI;refine qK hI λH tk i ys DH j3=>vI j3 λj4 hi j5 gC gY BG sM aQ hF hk=>?_;clear hI j3;subst j4;subst j5;by_cases z7:i<items.length
  ·refine W.item i _ _ _ (by simpa using z7) gC λv h₂ bZ xe eQ hZ=>hg _ _ λB hB=>?_
   have bX:v∈items:=List.mem_of_getElem? (by simpa using xe);have xf:h₂.IsCell (N+3) DH:=(by refine ar aQ λo ho hd=>⟨o,hZ _ _ (i7 2) ho,hd⟩);refine wpAny_assign_Name (wpAny_storeName_cell bK hxr (by show List.lookup x ((x,N+3)::cl)=some (N+3);simp) xf λh₃ xg dP=>?_);have PS:h₁.StaysIn h₃:=λb o e=>dP.extBut b o (nb b o 3 e) (hZ b o (nl b o e) (hk b o e));refine dm items hΦ v bX (N+2) (N+3) h₃ (ai (ai dI PO) PS) xg _ _ _ (ak _) λy h₄ f9 PT hFy=>?_;have pH:h₄.PlainList (N+1) ys:=gY.at λo e=>PT _ _ (dP.extBut _ _ (BF 1 3 (by decide)) (hZ _ _ (i7 0) e));refine wpAny_list_append_plain (hsz:=by have:=hsz items hΦ;omega) pH λh₅ qP fC=>?_;refine hB (items.length+1-(i+1)) _ ⟨h₅,f9,i+1,ys.push y,some v,rfl,z7,rfl,?_,qP,by rw[Array.size_push,BG],?_,?_,?_,?_⟩ (by omega)
   ·refine W.frame _ _ _ eQ λb hb o e=>fC.extBut b o ?_ (PT _ _ (dP.extBut b o ?_ e))
    ·rcases OA hb with j2|hb<;>(first|(replace j2:=OK j2;subst j2)|skip)
     ·exact BF 0 1 (by decide)
     ·rw[List.mem_singleton.mp hb];exact nax 1
    ·rcases OA hb with j1|hb<;>(first|(replace j1:=OK j1;subst j1)|skip)
     ·exact BF 0 3 (by decide)
     ·rw[List.mem_singleton.mp hb];exact nax 3
   ·exact sM.at' λo e=>fC.extBut _ _ (BF 2 1 (by decide)) (PT _ _ (dP.extBut _ _ (BF 2 3 (by decide)) (hZ _ _ (i7 1) e)))
   ·refine ar xg λo ho hd=>?_;clear xg
    exact⟨o,fC.extBut _ _ (BF 3 1 (by decide)) (PT _ _ ho),hd⟩
   ·rw[List.take_add_one,show items[i]?=some v by simpa using xe]
    simpa using Paired.snoc hF hFy
   ·exact λb o e=>fC.extBut b o (nb b o 1 e) (PT _ _ (PS b o e))
  ·obtain rfl:i=items.length:=by omega
   refine W.done _ _ _ (by simpa using gC) λh₂ bZ hZ=>hd _ ?_;refine⟨_,sM.at' λo e=>hZ _ _ (i7 1) e,λf5 mj=>?_⟩;refine hq (.ref (N+1)) f5 bZ (λb o e=>?_) ⟨N+1,ys.toList,items,rfl,?_,hΦ,by simpa using hF⟩
   ·have bB:=PO _ _ e
    exact mj.extBut b o (nb b o 2 bB) (hZ b o (nl b o bB) (hk b o bB))
   ·have:=(gY.at (h':=f5) λo e=>mj.extBut _ _ (BF 1 2 (by decide)) (hZ _ _ (i7 0) e)).isList
    simpa using this
 exact codeAny_compStart_list (loop _) (W.self 0 _ _ _ ⟨hI4,isList_stays up hl⟩ (loop _))
end
example:K=K/\PySem.Challenge.rw_kl0025_01=PySem.Challenge.rw_kl0025_01:=by k_fill;exact⟨rfl,rfl⟩
noncomputable def bT(ns:List Int):List Int:=ns.map λu=>((ns.filter λv=>decide (v<u)).length:Int)-((ns.filter λv=>decide (u<v)).length:Int)
theorem cR:bootBuiltins (Str.ofString "len")=some (.builtin "len"):=by decide+kernel
theorem fD{ns:List Int}:LI ns v h->∃ax items,v = .ref ax/\h.IsList ax items.toArray/\IntsAre items ns:=λbV=>by refine aG bV λl vs e a b=>⟨l,vs,e,a,b⟩
theorem iJ{a:Addr}{ns:List Int}(G:Gl w h)(hl:LI ns (.ref a) h)(hn:ns.length<=64)(hh:A.handled=none)(hd:A.depth+3<recursionLimit):
  Cl w A h (.ref 436) [.ref a] [] (LI (bT ns)):=by
 refine Cl.def (binds:=[(Str.ofString "a",.ref a)]) G (by k_is) rfl (by k_is) (by omega) (λs _=>.of_eq rfl) rfl (by decide) (λL g hg hL hc=>?_);have ca:=hc (Str.ofString "a") (L+1) (.ref a) (by simp[cellsFrom]) rfl;have Gg:=G.mono hg;have la:LI ns (.ref a) g:=LI.av _ _ _ hg hl;refine Bd.ret (P:=LI (bT ns)) (λh F=>?_) (λv h' _ p=>p);have Gh:=Gg.mono F.keep;have lah:=LI.av _ _ _ F.keep la;have FY:=aq F.keep ca;have hsz:ns.length<=sizeLine:=by rw[sizeLine_eq];omega
 refine Ev.mono (Ev.HL (x:=Str.ofString "u") (cl:=[(Str.ofString "a",L+1)]) (λvs=>IntsAre vs ns)
  (λv y=>∃t,y = .int (((ns.filter λz=>decide (z<hU v)).length:Int)-((ns.filter λz=>decide (hU v<z)).length:Int)) t)
  (by rfl) (by rfl) (by decide) (by rfl) hh (by rfl)
  (Ev.mono (Ev.bj (v:=.ref a) (c:=L+1) FY) (λv h' k e=>e▸fD (LI.av _ _ _ k lah))) (λvs hi=>by rw[hi.length];exact hsz) (λvs hi v hv C c h₁ PO BH=>?_))
  (λv h' _ q=>by refine dj q λD ys vs e nX hi hp=>⟨D,ys,e,nX,lg _ hi hp⟩)
 refine aN (dF hi hv) λu t j1 hu=>?_;subst j1;have mq:=Gh.mono PO;have BI:=LI.av _ _ _ PO lah;have BJ:=aq PO FY;refine Ev.sub ?_ ?_
 ·refine Ev.bz (Ev.aE mq (by k_is) cR) Kp.builtin
   (Ev.mf (x:=Str.ofString "v") (cl:=[(Str.ofString "u",c)]) (λz=>decide (z<u)) (λz=>z) (Ev.mono (Ev.bj (v:=.ref a) (c:=L+1) BJ) (λv h' k e=>e▸LI.av _ _ _ k BI)) hsz hh
    (λz hz C' t' m h' k hn hm=>.inr ⟨_,rfl,de.lt (Ev.cS (Ev.ao hn hm)) (Ev.cS (Ev.bj (c:=c) (aq k BH)))⟩)
    (λz hz hp C' t' m h' k hn hm=>Ev.cS (Ev.ao hn hm))
    (by rfl) (by decide) (by rfl) (by decide) (by rfl)) LI.av (λv h' k q=>?_)
  refine Cl.mono (dC q ?_) ?_
  ·rw[List.length_map];exact OB (List.length_filter_le _ _) (by omega)
  ·rintro v h' _ ⟨t,rfl⟩;exact⟨t,by rw[List.length_map];rfl⟩
 ·refine Ev.bz (Ev.aE mq (by k_is) cR) Kp.builtin
   (Ev.mf (x:=Str.ofString "v") (cl:=[(Str.ofString "u",c)]) (λz=>decide (u<z)) (λz=>z) (Ev.mono (Ev.bj (v:=.ref a) (c:=L+1) BJ) (λv h' k e=>e▸LI.av _ _ _ k BI)) hsz hh
    (λz hz C' t' m h' k hn hm=>.inr ⟨_,rfl,de.gt (Ev.cS (Ev.ao hn hm)) (Ev.cS (Ev.bj (c:=c) (aq k BH)))⟩)
    (λz hz hp C' t' m h' k hn hm=>Ev.cS (Ev.ao hn hm))
    (by rfl) (by decide) (by rfl) (by decide) (by rfl)) LI.av (λv h' k q=>?_)
  refine Cl.mono (dC q ?_) ?_
  ·rw[List.length_map];exact OB (List.length_filter_le _ _) (by omega)
  ·rintro v h' _ ⟨t,rfl⟩;exact⟨t,by rw[List.length_map];rfl⟩
section
open PySem PySem.Float64
def Fl(x:UInt64)(k:Int):Prop:=(∃a m e,decode x = .fin a m e)/\val x=k*2^1070
theorem HM{s t:Nat}(h:V s=V t):s=t:=by
 rcases Nat.lt_trichotomy s t with q|q|q
 ·have:=V_lt q;omega
 ·exact q
 ·have:=V_lt q;omega
theorem HN{t:Nat}(h:t<infMag):V t<=(2^53-1)*2^2045:=by
 have:V t<=V (infMag-1):=V_mono (by omega);have e:infMag-1=2045*2^52+(2^53-1):=by decide
 rw[e,V_at (by decide) (by left;decide)] at this;exact this
theorem mu{r:UInt64}{neg:Bool}{D t₀:Nat}(H:Right r neg W D)(hD:0<D)(hW:W=D*V t₀)(ht:t₀<infMag):r=pack neg t₀:=by
 refine jB H λt j1 _ HO hn=>?_;clear H;subst j1;have cN:t<infMag:=by
  rcases Nat.lt_or_ge t infMag with q|q
  ·exact q
  ·exfalso
   have e:t=infMag:=by omega
   have h1:=HO.mp e;rw[hW] at h1;have h2:=HN ht;have h3:D*(2*V t₀)<=D*(2*((2^53-1)*2^2045)):=PM _ (PM _ h2);have h4:D*((2^54-1)*2^2045)<=D*(2*((2^53-1)*2^2045)):=OB h1 (OB (Nat.le_of_eq (by ac_rfl)) h3);have h5:=Oz h4 hD;have h6:2*((2^53-1)*2^2045)=(2^54-2)*2^2045:=by rw[<-Nat.mul_assoc]
   rw[h6] at h5;have h7:=Nat.le_of_mul_le_mul_right h5 (O8 2045);omega
 have h1:=(hn cN t₀).1;rw[hW] at h1;have h0:dist (D*V t₀) (D*V t₀)=0:=by unfold dist;rw[Nat.sub_self]
 rw[h0] at h1;have:D*V t=D*V t₀:=by have z:=Nat.eq_zero_of_add_eq_zero (Nat.le_zero.mp h1);exact Nat.le_antisymm (Nat.le_of_sub_eq_zero z.2) (Nat.le_of_sub_eq_zero z.1)
 rw[HM (Nat.eq_of_mul_eq_mul_left hD this)]
theorem rep(h:n<2^53):∃t,t<infMag/\V t=n*2^1070:=by
 by_cases h0:n=0
 ·exact⟨0,by decide,by rw[h0,V_zero,Nat.zero_mul]⟩
 ·have hl:n.log2<53:=(Nat.log2_lt h0).mpr h
  have h1:=Nat.log2_self_le h0;have h2:n<2^(n.log2+1):=Nat.lt_log2_self;generalize n.log2=l at *;have e1:n*2^(52-l)<2^53:=by
   have:=Nat.mul_lt_mul_of_pos_right h2 (O8 (52-l));rw[<-Nat.pow_add] at this;have e:l+1+(52-l)=53:=by omega
   rwa [e] at this
  have e2:2^52<=n*2^(52-l):=by
   have:=OU (2^(52-l)) h1;rw[<-Nat.pow_add] at this;have e:l+(52-l)=52:=by omega
   rwa [e] at this
  refine⟨(1018+l)*2^52+n*2^(52-l),?_,?_⟩
  ·have:infMag=2047*2^52:=rfl
   omega
  ·rw[V_at (Nat.le_of_lt e1) (.inl e2),Nat.mul_assoc,<-Nat.pow_add]
   have e:52-l+(1018+l)=1070:=by omega
   rw[e]
theorem natCast_pow(n:Nat):((2^n:Nat):Int)=(2:Int)^n:=by simp
theorem xh(n:Nat):(0:Int)<2^n:=by rw[<-natCast_pow];exact Int.ofNat_lt.mpr (O8 n)
theorem cu:(0:Int)<2^1070:=xh 1070
theorem pI{neg:Bool}{t:Nat}(ht:t<infMag)(hV:V t=n*2^1070):Fl (pack neg t) (sgn neg n):=by refine aN (decode_pack neg ht) λm e hd _=>?_;refine⟨⟨_,_,_,hd⟩,?_⟩;rw[val_pack neg ht,hV,sgn_mul,natCast_pow]
theorem dQ{r:UInt64}{neg:Bool}{D:Nat}(H:Right r neg W D)(hD:0<D)(hW:W=D*(n*2^1070))(hn:n<2^53):Fl r (sgn neg n):=by refine ar (rep hn) λt ht hV=>?_;rw[mu H hD (by rw[hW,hV]) ht];exact pI ht hV
theorem uw(k:Int):sgn (decide (k<0)) k.natAbs=k:=by
 unfold sgn;by_cases h:k<0
 ·rw[decide_eq_true h,if_pos rfl];omega
 ·rw[decide_eq_false h,if_neg Bool.false_ne_true];omega
theorem gD(b:Bool):Fl (zero b) 0:=by have:=pI (neg:=b) (t:=0) (n:=0) (by decide) (by rw[V_zero,Nat.zero_mul]);unfold sgn at this;cases b<;>exact this
theorem sP:decide (k*2^1070<0)=decide (k<0):=by
 apply decide_eq_decide.mpr;constructor
 ·intro h
  by_cases q:k<0
  ·exact q
  ·have:=Int.mul_nonneg (show 0<=k by omega) (Int.le_of_lt cu)
   omega
 ·exact λh=>Int.mul_neg_of_neg_of_pos h cu
theorem jj(h:k≠0):k*2^1070≠0:=Int.mul_ne_zero h (Int.ne_of_gt cu)
theorem bU(k:Int):(k*2^1070).natAbs=k.natAbs*2^1070:=by rw[Int.natAbs_mul,<-natCast_pow,Int.natAbs_natCast]
theorem Fl.add{x:UInt64}{b:Int}(hx:Fl x a)(hy:Fl y b)(h:(a+b).natAbs<2^53):Fl (add x y) (a+b):=by
 refine cA hx λj2 vx=>ez j2 λ_ _ _ dx=>?_;clear hx j2;refine cA hy λj1 vy=>ez j1 λ_ _ _ dy=>?_;clear hy j1;have R:=add_right dx dy;rw[vx,vy,<-Int.add_mul] at R;by_cases h0:a+b=0
 ·rw[R.1 (by rw[h0,Int.zero_mul]),h0];exact gD _
 ·have:=dQ (R.2 (jj h0)) (by decide) (by rw[Nat.one_mul,bU]) h
  rwa [sP,uw] at this
theorem Fl.nG{x:UInt64}(hx:Fl x a):Fl (neg x) (-a):=by refine cA hx λj1 vx=>ez j1 λ_ _ _ dx=>?_;clear hx j1;exact⟨⟨_,_,_,neg_decode dx⟩,by rw[neg_val dx,vx,Int.neg_mul]⟩
theorem Fl.sub{x:UInt64}{b:Int}(hx:Fl x a)(hy:Fl y b)(h:(a-b).natAbs<2^53):Fl (sub x y) (a-b):=by have:=hx.add hy.nG (by rwa [<-Int.sub_eq_add_neg]);rw[<-Int.sub_eq_add_neg] at this;unfold Float64.sub;exact this
theorem lV:(2:Nat)^1074=16*2^1070:=by rw[show (1074:Nat)=4+1070 from rfl,Nat.pow_add]
theorem jF:(2:Int)^1074=16*2^1070:=by rw[show (1074:Nat)=4+1070 from rfl,Int.pow_add];rfl
theorem Fl.ofInt{n:Int}(h:n.natAbs<2^49):Fl (ofInt n) (16*n):=by have:=dQ (ofInt_right n) (by decide) (n:=16*n.natAbs) (by rw[Nat.one_mul,Nat.mul_comm 16,Nat.mul_assoc,lV]) (by omega);have e:(16*n.natAbs:Nat)=(16*n).natAbs:=(Int.natAbs_mul 16 n).symm;rw[e] at this;have e2:decide (n<0)=decide (16*n<0):=decide_eq_decide.mpr (by omega);rwa [e2,uw] at this
theorem Fl.finite{x:UInt64}(hx:Fl x a):isFinite x=true:=by refine cA hx λj1 _=>ez j1 λ_ _ _ dx=>?_;clear hx j1;unfold isFinite;rw[dx]
theorem Fl.DJ{x:UInt64}(hx:Fl x a):Float64.isNaN x=false:=by refine cA hx λj1 _=>ez j1 λ_ _ _ dx=>?_;clear hx j1;unfold Float64.isNaN;rw[dx]
theorem Fl.xi{x:UInt64}(hx:Fl x a):isInf x=false:=by refine cA hx λj1 _=>ez j1 λ_ _ _ dx=>?_;clear hx j1;unfold isInf;rw[dx]
theorem Fl.isZero{x:UInt64}(hx:Fl x a):Float64.isZero x=decide (a=0):=by
 refine cA hx λj1 vx=>ez j1 λs m e dx=>?_;clear hx j1;rw[val_eq dx] at vx;have hz:Float64.isZero x=decide (m=0):=by unfold Float64.isZero;rw[dx];cases m<;>rfl
 rw[hz];apply decide_eq_decide.mpr;constructor
 ·rintro rfl
  rw[Nat.zero_mul] at vx;have:sgn s 0=0:=by unfold sgn;cases s<;>rfl
  rw[this] at vx;rcases Int.mul_eq_zero.mp vx.symm with h|h
  ·exact h
  ·exact absurd h (Int.ne_of_gt cu)
 ·rintro rfl
  rw[Int.zero_mul] at vx;have:(sgn s (m*2^(e+1074).toNat)).natAbs=0:=by rw[vx];rfl
  rw[sgn_natAbs] at this;rcases Nat.mul_eq_zero.mp this with h|h
  ·exact h
  ·exact absurd h (Oy (O8 _))
theorem Fl.signs{x:UInt64}{s s':Bool}{m m':Nat}{e e':Int}(dx:decode x = .fin s m e)(dy:decode y = .fin s' m' e'):
  sgn (s !=s') ((val x).natAbs*(val y).natAbs)=val x*val y:=by
 rw[val_natAbs dx,val_natAbs dy,val_eq dx,val_eq dy];generalize m*2^(e+1074).toNat=p;generalize m'*2^(e'+1074).toNat=q;unfold sgn;cases s<;>cases s'<;>simp[Int.mul_neg,Int.neg_mul]
theorem i8{s:Bool}{K:Nat}(hK:0<K)(h:sgn s (n*K)=c*K):sgn s n=c:=by rw[sgn_mul] at h;exact Int.eq_of_mul_eq_mul_right (by omega) h
theorem Fl.mul{x:UInt64}{b:Int}(hx:Fl x a)(hy:Fl y b)(hc:a*b=c*16)(h:c.natAbs<2^53):Fl (mul x y) c:=by
 refine cA hx λj2 vx=>ez j2 λs m e dx=>?_;clear hx j2;refine cA hy λj1 vy=>ez j1 λs' m' e' dy=>?_;clear hy j1;have sg:=Fl.signs dx dy;have key:(val x).natAbs*(val y).natAbs=2^1074*(c.natAbs*2^1070):=by
  rw[vx,vy,bU,bU];have e1:a.natAbs*b.natAbs=c.natAbs*16:=by rw[<-Int.natAbs_mul,hc,Int.natAbs_mul];rfl
  have e2:=lV;rw[e2];generalize (2:Nat)^1070=K
  calc a.natAbs*K*(b.natAbs*K)=a.natAbs*b.natAbs*K*K:=by ac_rfl
   _=c.natAbs*16*K*K:=by rw[e1]
   _=16*K*(c.natAbs*K):=by ac_rfl
 have R:=dQ (mul_right dx dy) (O8 _) key h;have:sgn (s !=s') c.natAbs=c:=by
  refine i8 (K:=2^1074*2^1070) (Nat.mul_pos (O8 _) (O8 _)) ?_;have e3:c.natAbs*(2^1074*2^1070)=(val x).natAbs*(val y).natAbs:=by rw[key];ac_rfl
  rw[e3,sg,vx,vy,Int.natCast_mul,natCast_pow,natCast_pow];have e4:=jF;rw[e4];generalize (2:Int)^1070=K
  calc a*K*(b*K)=a*b*(K*K):=by ac_rfl
   _=c*16*(K*K):=by rw[hc]
   _=c*(16*K*K):=by ac_rfl
 rwa [this] at R
theorem Fl.div{x:UInt64}{b:Int}(hx:Fl x a)(hy:Fl y b)(hb:b≠0)(hc:16*a=c*b)(h:c.natAbs<2^53):Fl (div x y) c:=by
 refine cA hx λj2 vx=>ez j2 λs m e dx=>?_;clear hx j2;refine cA hy λj1 vy=>ez j1 λs' m' e' dy=>?_;clear hy j1;have iI:m'≠0:=by
  rintro rfl
  rw[val_eq dy,Nat.zero_mul] at vy;have:sgn s' 0=0:=by unfold sgn;cases s'<;>rfl
  rw[this] at vy;exact jj hb vy.symm
 have e2:=lV;have e1:16*a.natAbs=c.natAbs*b.natAbs:=by
  have:(16*a).natAbs=(c*b).natAbs:=by rw[hc]
  rw[Int.natAbs_mul,Int.natAbs_mul] at this;exact this
 have key:(val x).natAbs*2^1074=(val y).natAbs*(c.natAbs*2^1070):=by
  rw[vx,vy,bU,bU,e2];generalize (2:Nat)^1070=K
  calc a.natAbs*K*(16*K)=16*a.natAbs*(K*K):=by ac_rfl
   _=c.natAbs*b.natAbs*(K*K):=by rw[e1]
   _=b.natAbs*K*(c.natAbs*K):=by ac_rfl
 have hy0:0<(val y).natAbs:=by rw[vy,bU];exact Nat.mul_pos (Int.natAbs_pos.mpr hb) (O8 _)
 have R:=dQ (div_right dx dy iI) hy0 key h;have sg:=Fl.signs dx dy;have:sgn (s !=s') c.natAbs=c:=by
  have DK:0<(val y).natAbs*(val y).natAbs:=Nat.mul_pos hy0 hy0;refine i8 (K:=2^1070*((val y).natAbs*(val y).natAbs)) (Nat.mul_pos (O8 _) DK) ?_;have e3:c.natAbs*(2^1070*((val y).natAbs*(val y).natAbs))=(val x).natAbs*(val y).natAbs*2^1074:=by
   calc c.natAbs*(2^1070*((val y).natAbs*(val y).natAbs))=(val y).natAbs*(c.natAbs*2^1070)*(val y).natAbs:=by ac_rfl
    _=(val x).natAbs*2^1074*(val y).natAbs:=by rw[key]
    _=_:=by ac_rfl
  rw[e3,sgn_mul,sg,Int.natCast_mul,Int.natCast_mul];have e5:(((val y).natAbs:Nat):Int)*((val y).natAbs:Nat)=val y*val y:=Int.natAbs_mul_self;rw[e5,natCast_pow,natCast_pow,vx,vy];have e4:=jF;rw[e4];generalize (2:Int)^1070=K
  calc a*K*(b*K)*(16*K)=16*a*b*(K*K*K):=by ac_rfl
   _=c*b*b*(K*K*K):=by rw[hc]
   _=c*(K*(b*K*(b*K))):=by ac_rfl
 rwa [this] at R
theorem Fl.cmp{x:UInt64}{b:Int}(hx:Fl x a)(hy:Fl y b):cmp x y=some (compare a b):=by
 refine cA hx λj2 vx=>ez j2 λs m e dx=>?_;clear hx j2;refine cA hy λj1 vy=>ez j1 λs' m' e' dy=>?_;clear hy j1;rw[cmp_right dx dy,vx,vy];congr 1
 rcases Int.lt_trichotomy a b with h|h|h
 ·rw[Int.compare_eq_lt.mpr h,Int.compare_eq_lt.mpr (Int.mul_lt_mul_of_pos_right h cu)]
 ·subst h;simp
 ·rw[Int.compare_eq_gt.mpr h,Int.compare_eq_gt.mpr (Int.mul_lt_mul_of_pos_right h cu)]
theorem Fl.cmpInt{x:UInt64}(hx:Fl x a)(i:Int):cmpInt x i=some (compare a (16*i)):=by
 refine cA hx λj1 vx=>ez j1 λs m e dx=>?_;clear hx j1;rw[cmpInt_right dx,vx];have e4:i*(2:Int)^1074=16*i*2^1070:=by rw[jF,Int.mul_comm 16 i,Int.mul_assoc]
 rw[e4];generalize 16*i=b;congr 1
 rcases Int.lt_trichotomy a b with h|h|h
 ·rw[Int.compare_eq_lt.mpr h,Int.compare_eq_lt.mpr (Int.mul_lt_mul_of_pos_right h cu)]
 ·subst h;simp
 ·rw[Int.compare_eq_gt.mpr h,Int.compare_eq_gt.mpr (Int.mul_lt_mul_of_pos_right h cu)]
end
section
open PySem PySem.Float64
theorem mw{b:Int}(h: -a<=b):0<=b+a:=by have:=Int.add_le_add_right h a;rwa [Int.add_left_neg] at this
theorem tn2{e f M:Int}(he: -1074<=e)(hf: -1074<=f)(h1:M<=e+f)(h2: -2148<=M):(e+f-M).toNat+(M+2148).toNat=(e+1074).toNat+(f+1074).toNat:=by rw[<-Int.toNat_add (Int.sub_nonneg_of_le h1) (mw h2),<-Int.toNat_add (mw he) (mw hf),<-Int.add_assoc,Int.sub_add_cancel];exact congrArg _ (by ac_rfl)
theorem tn3{g M:Int}(he: -1074<=g)(h1:M<=g)(h2: -2148<=M):(g-M).toNat+(M+2148).toNat=(g+1074).toNat+1074:=by rw[<-Int.toNat_add (Int.sub_nonneg_of_le h1) (mw h2),<-Int.add_assoc,Int.sub_add_cancel];exact (congrArg Int.toNat (Int.add_assoc g 1074 1074).symm).trans (Int.toNat_add (mw he) (by decide))
theorem Fl.L8{x:UInt64}{b:Int}(hx:Fl x a)(hy:Fl y b)(hz:Fl z c)(h:a*b+16*c=0):Fl (fma x y z) 0:=by
 refine cA hx λj3 vx=>ez j3 λs m e dx=>?_;clear hx j3;refine cA hy λj2 vy=>ez j2 λs' k f dy=>?_;clear hy j2;refine cA hz λj1 vz=>ez j1 λeA n g dz=>?_;clear hz j1;have he:=decode_ge dx;have hf:=decode_ge dy;have hg:=decode_ge dz;have key:(sgn (s !=s') (m*k*2^(e+f-min (e+f) g).toNat)+sgn eA (n*2^(g-min (e+f) g).toNat))*((2^(min (e+f) g+2148).toNat:Nat):Int)=val x*val y+val z*2^1074:=by
  rw[Int.add_mul,<-sgn_mul,<-sgn_mul,Nat.mul_assoc,Nat.mul_assoc n,<-Nat.pow_add,<-Nat.pow_add];have M3: -2148<=min (e+f) g:=Int.le_min.mpr ⟨Int.add_le_add he hf,Int.le_trans (by decide) hg⟩;have e1:=tn2 he hf (Int.min_le_left (e+f) g) M3;have e2:=tn3 hg (Int.min_le_right (e+f) g) M3;rw[e1,e2,Nat.pow_add,Nat.pow_add];have e3:=Fl.signs dx dy;rw[val_natAbs dx,val_natAbs dy] at e3;have e4:m*k*(2^(e+1074).toNat*2^(f+1074).toNat)=m*2^(e+1074).toNat*(k*2^(f+1074).toNat):=by ac_rfl
  rw[e4,e3,val_eq dz,<-Nat.mul_assoc,sgn_mul eA (n*2^(g+1074).toNat),natCast_pow]
 have h0:val x*val y+val z*2^1074=0:=by
  rw[vx,vy,vz,jF];generalize (2:Int)^1070=K
  calc a*K*(b*K)+c*K*(16*K)=(a*b+16*c)*(K*K):=by rw[Int.add_mul];congr 1<;>ac_rfl
   _=0:=by rw[h,Int.zero_mul]
 rw[h0] at key;have hp:sgn (s !=s') (m*k*2^(e+f-min (e+f) g).toNat)+sgn eA (n*2^(g-min (e+f) g).toNat)=0:=by
  rcases Int.mul_eq_zero.mp key with q|q
  ·exact q
  ·exact absurd q (Int.ne_of_gt (Int.ofNat_lt.mpr (O8 _)))
 have HP:∃bb,fma x y z=zero bb:=by refine⟨if m*k==0&&n==0 then (s !=s')&&eA else false,?_⟩;unfold fma;rw[dx,dy,dz];show (if (sgn (s !=s') (m*k*2^(e+f-min (e+f) g).toNat)+sgn eA (n*2^(g-min (e+f) g).toNat)==0)=true then _ else _)=_;rw[hp];rfl
 refine aR HP λbb hb=>?_;clear HP;rw[hb];exact gD bb
theorem gE{x:UInt64}{s:Bool}{m:Nat}{e:Int}(dx:decode x = .fin s m e)(h:0<val x):s=false:=by
 rw[val_eq dx] at h;unfold sgn at h;cases s
 ·rfl
 ·simp only[if_true] at h;omega
theorem jG{x:UInt64}{s:Bool}{m:Nat}{e:Int}(dx:decode x = .fin s m e)(h:val x<0):s=true:=by
 rw[val_eq dx] at h;unfold sgn at h;cases s
 ·simp only[Bool.false_eq_true,if_false] at h;omega
 ·rfl
theorem Fl.sqrt{x:UInt64}{c:Nat}(hx:Fl x k)(hc:(c:Int)*c=16*k)(h:c<2^53):Fl (sqrt x) c:=by
 refine cA hx λj1 vx=>ez j1 λs m e dx=>?_;clear hx j1;by_cases h0:c=0
 ·subst h0
  have hk:k=0:=by simp at hc;omega
  subst hk;have hm:m=0:=by
   have hz:=Fl.isZero (x:=x) (a:=0) ⟨⟨s,m,e,dx⟩,vx⟩;unfold Float64.isZero at hz;rw[dx] at hz;cases m with
   |zero=>rfl
   |succ m=>simp at hz
  have:Float64.sqrt x=x:=by unfold Float64.sqrt;rw[dx,hm];rfl
  rw[this];exact⟨⟨s,m,e,dx⟩,vx⟩
 ·have hcp:0<(c:Int)*c:=Int.mul_pos (by omega) (by omega)
  have hk:0<k:=by omega
  have hv:0<val x:=by rw[vx];exact Int.mul_pos hk cu
  have hs:=gE dx hv;subst hs;have hm:m≠0:=by
   rintro rfl
   rw[val_eq dx] at hv;simp[sgn] at hv
  refine jB (sqrt_right dx hm) λt ht cN hup hdn=>?_;refine ar (rep h) λt₀ HQ hV=>?_;have hW:(val x).natAbs*2^1074=V t₀*V t₀:=by
   rw[hV,vx,bU,lV];have e1:k.natAbs*16=c*c:=by
    have:((k.natAbs*16:Nat):Int)=((c*c:Nat):Int):=by rw[Int.natCast_mul,Int.natCast_mul];omega
    exact Int.ofNat_inj.mp this
   generalize (2:Nat)^1070=K
   calc k.natAbs*K*(16*K)=k.natAbs*16*(K*K):=by ac_rfl
    _=c*c*(K*K):=by rw[e1]
    _=_:=by ac_rfl
  have:t=t₀:=by
   rcases Nat.lt_trichotomy t t₀ with q|q|q
   ·exfalso
    have h1:=hup t₀ q;rw[hW] at h1;have h2:=V_lt q;have h3:(V t+V t₀)*(V t+V t₀)<(2*V t₀)*(2*V t₀):=Nat.mul_self_lt_mul_self (by omega);have h4:(2*V t₀)*(2*V t₀)=4*(V t₀*V t₀):=by rw[show (4:Nat)=2*2 from rfl];ac_rfl
    omega
   ·exact q
   ·exfalso
    have h1:=hdn t₀ q;rw[hW] at h1;have h2:=V_lt q;have h3:(2*V t₀)*(2*V t₀)<(V t+V t₀)*(V t+V t₀):=Nat.mul_self_lt_mul_self (by omega);have h4:(2*V t₀)*(2*V t₀)=4*(V t₀*V t₀):=by rw[show (4:Nat)=2*2 from rfl];ac_rfl
    omega
  rw[ht,this];have:=pI (neg:=false) HQ hV;simpa [sgn] using this
theorem sQ{D:Nat}(hD:0<D)(BK:0<D')(hW:W*D'=W'*D)(X:Nat):D*X<=2*W<->D'*X<=2*W':=by
 constructor
 ·intro h
  have h1:=PM D' h;have h2:D'*(2*W)=2*W'*D:=by rw[Nat.mul_assoc 2,<-hW];ac_rfl
  rw[h2] at h1;refine Nat.le_of_mul_le_mul_right (c:=D) ?_ hD
  calc D'*X*D=D'*(D*X):=by ac_rfl
   _<=2*W'*D:=h1
 ·intro h
  have h1:=PM D h;have h2:D*(2*W')=2*W*D':=by rw[Nat.mul_assoc 2 W,hW];ac_rfl
  rw[h2] at h1;refine Nat.le_of_mul_le_mul_right (c:=D') ?_ BK
  calc D*X*D'=D*(D'*X):=by ac_rfl
   _<=2*W*D':=h1
theorem DM(m a b:Nat):dist (m*a) (m*b)=m*dist a b:=dist_mul m a b
theorem z8{y z:Nat}(h:W<=y)(h2:y<z):dist W y<dist W z:=by unfold dist;rw[Nat.sub_eq_zero_of_le h,Nat.sub_eq_zero_of_le (Nat.le_trans h (Nat.le_of_lt h2)),Nat.zero_add,Nat.zero_add];exact Nat.sub_lt_sub_right h h2
theorem z9{x y:Nat}(h:y<=W)(h2:x<y):dist W y<dist W x:=by unfold dist;rw[Nat.sub_eq_zero_of_le h,Nat.sub_eq_zero_of_le (Nat.le_trans (Nat.le_of_lt h2) h),Nat.add_zero,Nat.add_zero];exact Nat.sub_lt_sub_left (Ou h2 h) h2
theorem qQ{x y z:Nat}(h1:x<y)(h2:y<z)(e:dist W x=dist W z)(l:dist W x<=dist W y):False:=by
 rcases Nat.le_total W y with h|h
 ·exact absurd (OV l (z8 h h2)) (by rw[e];exact OQ _)
 ·exact absurd (OV l (z9 h h1)) (OQ _)
theorem jH{r r':UInt64}{neg:Bool}{D:Nat}(H:Right r neg W D)(H':Right r' neg W' D')(hD:0<D)(BK:0<D')(hW:W*D'=W'*D):r=r':=by
 refine jB H λt j2 hle HO hn=>?_;clear H;subst j2;refine jB H' λt' j1 L9 Ma fe=>?_;clear H';subst j1;have ov:t=infMag<->t'=infMag:=by rw[HO,Ma];exact sQ hD BK hW _
 by_cases hi:t=infMag
 ·rw[hi,ov.mp hi]
 ·have eM:t'≠infMag:=λq=>hi (ov.mpr q)
  have hl:t<infMag:=Nat.lt_of_le_of_ne hle hi;have nX:t'<infMag:=Nat.lt_of_le_of_ne L9 eM;have sc:∀u,D'*dist W (D*V u)=D*dist W' (D'*V u):=λu=>by
   rw[<-dist_mul,<-dist_mul];congr 1
   ·rw[Nat.mul_comm,hW,Nat.mul_comm]
   ·ac_rfl
  rcases Nat.lt_trichotomy t t' with q|q|q
  ·exfalso
   have i7:=V_lt q;have a1:=(hn hl t').1;have a2:=(fe nX t).1;have b1:=PM D' a1;rw[sc,sc] at b1;have b2:dist W' (D'*V t)<=dist W' (D'*V t'):=Oz b1 hD;have HR:dist W' (D'*V t')=dist W' (D'*V t):=Nat.le_antisymm a2 b2;have p':=(fe nX t).2 (by omega) HR;have eqm:D'*dist W (D*V t)=D'*dist W (D*V t'):=by rw[sc,sc,HR]
   have eq:=Nat.eq_of_mul_eq_mul_left BK eqm;have p:=(hn hl t').2 (by omega) eq;have hb:t+1<t':=by omega
   have h1:=V_lt (OY t);have h2:=V_lt hb;have a3:=(hn hl (t+1)).1;have m1:D*V t<D*V (t+1):=Nat.mul_lt_mul_of_pos_left h1 hD;have m2:D*V (t+1)<D*V t':=Nat.mul_lt_mul_of_pos_left h2 hD;exact qQ m1 m2 eq a3
  ·rw[q]
  ·exfalso
   have i7:=V_lt q;have a1:=(hn hl t').1;have a2:=(fe nX t).1;have b1:=PM D' a1;rw[sc,sc] at b1;have b2:dist W' (D'*V t)<=dist W' (D'*V t'):=Oz b1 hD;have HR:dist W' (D'*V t')=dist W' (D'*V t):=Nat.le_antisymm a2 b2;have p':=(fe nX t).2 (by omega) HR;have eqm:D'*dist W (D*V t)=D'*dist W (D*V t'):=by rw[sc,sc,HR]
   have eq:=Nat.eq_of_mul_eq_mul_left BK eqm;have p:=(hn hl t').2 (by omega) eq;have hb:t'+1<t:=by omega
   have h1:=V_lt (OY t');have h2:=V_lt hb;have a3:=(hn hl (t'+1)).1;have m1:D*V t'<D*V (t'+1):=Nat.mul_lt_mul_of_pos_left h1 hD;have m2:D*V (t'+1)<D*V t:=Nat.mul_lt_mul_of_pos_left h2 hD;exact qQ m1 m2 eq.symm (OB (Nat.le_of_eq eq.symm) a3)
noncomputable def jy(p q:Int):UInt64:=ofFrac (decide (p<0) !=decide (q<0)) p.natAbs q.natAbs
theorem gc{p q:Int}(hq:q≠0):Right (jy p q) (decide (p<0) !=decide (q<0)) (p.natAbs*2^1074) q.natAbs:=
 ofFrac_right (by omega) rfl (by omega)
theorem vK{p q:Nat}(X Y Z:Nat)(h5:¬X<=2*(Z*Y))(hq:0<q)(hp:p<Z):¬q*X<=2*(p*Y):=by intro h1;have h2:1*X<=q*X:=OU _ hq;have h3:p*Y<=Z*Y:=OU _ (PG hp);omega
theorem xj{p q:Nat}(hq:0<q)(hp:p<2^53):¬q*((2^54-1)*2^2045)<=2*(p*2^1074):=
 vK _ _ _ (by decide+kernel) hq hp
theorem lW{p q:Int}(hq:q≠0)(hp:p.natAbs<2^53):(∃a m e,decode (jy p q) = .fin a m e):=by
 refine jB (gc hq (p:=p)) λt ht hle HO _=>?_;have cN:t<infMag:=by
  rcases Nat.lt_or_ge t infMag with h|h
  ·exact h
  ·exfalso
   have e:t=infMag:=by omega
   have h1:=HO.mp e;exact xj (by omega) hp h1
 rw[ht];refine aN (decode_pack (decide (p<0) !=decide (q<0)) cN) λm e hd _=>?_;exact⟨_,_,_,hd⟩
theorem oO{p q p' q':Int}(hq:q≠0)(hq':q'≠0)(h:p*q'=p'*q)(hs:(decide (p<0) !=decide (q<0))=(decide (p'<0) !=decide (q'<0))):jy p q=jy p' q':=by
 have R:=gc hq (p:=p);have R':=gc hq' (p:=p');rw[hs] at R;refine jH R R' (by omega) (by omega) ?_;have:p.natAbs*q'.natAbs=p'.natAbs*q.natAbs:=by rw[<-Int.natAbs_mul,h,Int.natAbs_mul]
 calc p.natAbs*2^1074*q'.natAbs=p.natAbs*q'.natAbs*2^1074:=by ac_rfl
  _=p'.natAbs*q.natAbs*2^1074:=by rw[this]
  _=p'.natAbs*2^1074*q.natAbs:=by ac_rfl
theorem pJ{x:UInt64}(h:∃a m e,decode x = .fin a m e):cmp x x=some .eq:=by refine ez h λa m e d=>?_;clear h;rw[cmp_right d d];simp
theorem Fl.lZ{x:UInt64}{b:Int}(hx:Fl x a)(hy:Fl y b)(hb:b≠0)(ha:a≠0):Float64.div x y=jy a b:=by
 refine cA hx λj2 vx=>ez j2 λs m e dx=>?_;clear hx j2;refine cA hy λj1 vy=>ez j1 λs' m' e' dy=>?_;clear hy j1;have iI:m'≠0:=by
  rintro rfl
  rw[val_eq dy,Nat.zero_mul] at vy;have:sgn s' 0=0:=by unfold sgn;cases s'<;>rfl
  rw[this] at vy;exact jj hb vy.symm
 have sx:s=decide (a<0):=by
  by_cases h:a<0
  ·rw[decide_eq_true h];exact jG dx (by rw[vx];exact Int.mul_neg_of_neg_of_pos h cu)
  ·rw[decide_eq_false h];exact gE dx (by rw[vx];exact Int.mul_pos (by omega) cu)
 have sy:s'=decide (b<0):=by
  by_cases h:b<0
  ·rw[decide_eq_true h];exact jG dy (by rw[vy];exact Int.mul_neg_of_neg_of_pos h cu)
  ·rw[decide_eq_false h];exact gE dy (by rw[vy];exact Int.mul_pos (by omega) cu)
 have R:=div_right dx dy iI;have R':=gc hb (p:=a);rw[sx,sy] at R;refine jH R R' ?_ (by omega) ?_
 ·rw[vy,bU];exact Nat.mul_pos (by omega) (O8 _)
 ·rw[vx,vy,bU,bU]
  ac_rfl
theorem Fl.gG{x:UInt64}{b:Int}(hx:Fl x 0)(hy:Fl y b)(hb:b≠0):Fl (Float64.div x y) 0:=hx.div hy hb (by rw[Int.zero_mul];rfl) (by decide)
theorem xk{q:Int}(hq:q≠0):Fl (jy 0 q) 0:=by
 have:=dQ (gc hq (p:=0)) (by omega) (n:=0) (by simp) (by decide);have e:∀b,sgn b 0=0:=λb=>by unfold sgn;cases b<;>rfl
 rw[show ((0:Nat))=0 from rfl,e] at this;exact this
theorem qR{x:UInt64}{b p q:Int}(hx:Fl x a)(hy:Fl y b)(hb:0<b)(hq:0<q)(h:a*q=p*b)(hp:p.natAbs<2^53):
  Float64.cmp (Float64.div x y) (jy p q)=some .eq:=by
 by_cases h0:a=0
 ·subst h0
  have hp0:p=0:=by
   rw[Int.zero_mul] at h;rcases Int.mul_eq_zero.mp h.symm with h|h
   ·exact h
   ·omega
  subst hp0;rw[Fl.cmp (hx.gG hy (by omega)) (xk (by omega))];rfl
 ·rw[hx.lZ hy (by omega) h0,oO (p':=p) (q':=q) (by omega) (by omega) h ?_]
  ·exact pJ (lW (by omega) hp)
  ·have e1:decide (b<0)=false:=decide_eq_false (by omega)
   have e2:decide (q<0)=false:=decide_eq_false (by omega);rw[e1,e2];have e3:decide (a<0)=decide (p<0):=by
    apply decide_eq_decide.mpr;constructor
    ·intro ha
     have:a*q<0:=Int.mul_neg_of_neg_of_pos ha hq;by_cases hp':p<0
     ·exact hp'
     ·have:=Int.mul_nonneg (show 0<=p by omega) (show 0<=b by omega);omega
    ·intro hp'
     have:p*b<0:=Int.mul_neg_of_neg_of_pos hp' hb;by_cases ha:a<0
     ·exact ha
     ·have:=Int.mul_nonneg (show 0<=a by omega) (show 0<=q by omega);omega
   rw[e3]
end
section
open PySem Float64
abbrev ux(x:UInt64):Prop:=∃a m e,decode x = .fin a m e
theorem Fl.fin{x:UInt64}(h:Fl x a):ux x:=h.1
theorem pK{x:UInt64}(hx:ux x)(hz:Fl z 0):Fl (mul x z) 0:=by
 refine ez hx λs m e dx=>?_;clear hx;refine cA hz λj1 vz=>ez j1 λs' m' e' dz=>?_;clear hz j1;have key:(val x).natAbs*(val z).natAbs=2^1074*(0*2^1070):=by rw[vz];simp
 have R:=dQ (mul_right dx dz) (O8 _) key (by decide);have:∀b,sgn b 0=0:=λb=>by unfold sgn;cases b<;>rfl
 rw[this] at R;exact R
def dt(S T:Int)(b:UInt64):Prop:=ux b/\∀p q:Int,0<q->S*q=p*T->p.natAbs<2^53->Float64.cmp b (jy p q)=some .eq
theorem ko{x:UInt64}(hx:Fl x (16*S))(hy:Fl y (16*T))(hT:0<T)(hS:(16*S).natAbs<2^53):dt S T (Float64.div x y):=by
 refine⟨?_,λp q hq h hp=>qR hx hy (by omega) hq (by rw[Int.mul_assoc,h,Int.mul_left_comm]) hp⟩;by_cases h0:S=0
 ·subst h0
  exact (Fl.gG hx hy (by omega)).1
 ·rw[hx.lZ hy (by omega) (by omega)]
  exact lW (by omega) hS
end
def FlS(ps:List UInt64)(s:Int):Prop:=(ps=[]/\s=0)∨∃p,ps=[p]/\Fl p s
theorem pL{ps:List UInt64}{s:Int}{x:UInt64}(H:FlS ps s)(hx:Fl x a)(h1:s.natAbs<2^51)(h2:a.natAbs<2^51):
  ∃top,Float64.fsumAdd ps x=([],top)/\Fl top (s+a):=by
 rcases H with j2|j3<;>(first|(refine cA j2 λj4 j5=>?_;clear j2;subst j4;subst j5)| (refine ar j3 λp j6 hp=>?_;clear j3;subst j6))
 ·exact⟨x,rfl,by rwa [Int.zero_add]⟩
 ·have core:∀(u v:UInt64)(c d:Int),Fl u c->Fl v d->c+d=s+a->c.natAbs<2^51->d.natAbs<2^51->
    ∃top,(let hi:=Float64.add u v;let lo:=Float64.sub v (Float64.sub hi u);let (rest,top):=Float64.fsumAdd [] hi;(if Float64.isZero lo then rest else lo::rest,top))=([],top)/\Fl top (s+a):=by
   intro u v c d hu hv he hc hd;have FZ:=hu.add hv (by omega);have BL:=hv.sub (FZ.sub hu (by omega)) (by omega);have hz:Float64.isZero (Float64.sub v (Float64.sub (Float64.add u v) u))=true:=by rw[BL.isZero];exact decide_eq_true (by omega)
   refine⟨Float64.add u v,?_,by rw[<-he];exact FZ⟩;show (if Float64.isZero (Float64.sub v (Float64.sub (Float64.add u v) u))=true then [] else _,Float64.add u v)=_;rw[if_pos hz]
  unfold Float64.fsumAdd;by_cases cN:Float64.lt (Float64.abs x) (Float64.abs p)=true
  ·rw[if_pos cN]
   exact core p x s a hp hx rfl h1 h2
  ·rw[if_neg cN]
   exact core x p a s hx hp (Int.add_comm _ _) h2 h1
theorem vL{top:UInt64}{s:Int}(h:Fl top s):FlS (if Float64.isZero top=true then [] else []++[top]) s:=by
 rw[h.isZero];by_cases h0:s=0
 ·rw[if_pos (decide_eq_true h0)];exact .inl ⟨rfl,h0⟩
 ·rw[if_neg (by rw[decide_eq_false h0];exact Bool.false_ne_true)];exact .inr ⟨top,rfl,h⟩
theorem xl{ps:List UInt64}{s:Int}(H:FlS ps s):Fl (Float64.fsumEnd ps) s:=by
 rcases H with j2|j3<;>(first|(refine cA j2 λj4 j5=>?_;clear j2;subst j4;subst j5)| (refine ar j3 λp j6 hp=>?_;clear j3;subst j6))
 ·exact gD false
 ·exact hp
theorem vM:builtinKind "math.fsum"=none:=by decide+kernel
theorem sR:plainId "math.fsum"=true:=by decide+kernel
theorem dJ:plainId "math.fsum.loop"=true:=by decide+kernel
theorem sS:entryFor table "math.fsum"=some Builtin.«math.fsum»:=entryFor_of_fast (by kernel_rfl)
theorem gS:entryFor table "math.fsum.loop"=some Builtin.«math.fsum.loop»:=entryFor_of_fast (by kernel_rfl)
theorem vN(a:Value):argsOk "math.fsum" ⟨[a],[]⟩:=by unfold argsOk;kernel_rfl
theorem Aa{n:Int}(h:n.natAbs<2^49):¬PySem.Flt.Over n:=λq=>by
 have h1:¬(2^1024-2^970:Nat)<=2^49:=by decide+kernel
 exact h1 (OB q (PG h))
noncomputable def iK(xs:List UInt64):Obj:={cls:=.type "tuple",data:=.seq (xs.map λx=>rawInt x.toNat).toArray}
theorem iL{M:Model}{T:Addr}{xs:List UInt64}{Q:List UInt64->Shared->Prop}(hT:s.heap.get? T=some (iK xs))(h:Q xs s):
  wpAny M A (seqItems? (.ref T) >>= λo=>(pure ((o.getD #[]).toList.map λv=>match v with| .int i _=>i.toNat.toUInt64|_=>0):Sem (List UInt64))) Q E s:=by
 refine J' (PB hT rfl (OD ?_));have e:(((some (xs.map λx=>rawInt x.toNat).toArray).getD #[]).toList.map λv=>match v with| .int i _=>i.toNat.toUInt64|_=>0)=xs:=by
  simp only[Option.getD_some,List.map_map];conv=>rhs;rw[<-List.map_id xs]
  apply List.map_congr_left;intro x _;show (Int.toNat (x.toNat:Int)).toUInt64=x;simp
 rw[e];exact h
theorem gf{M:Model}{xs:List UInt64}(hz:xs.length<=100)(h:∀h',s.heap.StaysIn h'->h'.get? s.heap.objs.size=some (iK xs)->Q (.ref s.heap.objs.size) (bp s h' s.toks)):
  wpAny M A (newTuple (xs.map λx=>rawInt x.toNat)) Q E s:=
 O5 (h _ (λ_ _ e=>K' _ e) (OC _ rfl)) (by show (List.toArray (xs.map _)).size<=sizeLine;rw[List.size_toArray,List.length_map,sizeLine_eq];omega)
theorem vO{I:Addr}{ns:List Int}(hh:A.handled=none)(i7:ax≠I)(hi:IntsAre vs ns)(hb:∀k∈ns,k.natAbs<=2^40)(hlen:ns.length<=64){S:Addr}:
  ∀(k i:Nat)(s:Shared)(T:Addr)(ps:List UInt64)(sm:Int),ns.length-i=k->i<=ns.length->FlS ps (16*sm)->sm=(ns.take i).sum->sm.natAbs<=i*2^40->
   (s.heap.IsListIter I ax i/\s.heap.IsList ax vs.toArray)->s.heap.get? T=some (iK ps)->s.heap.get? S=some (iK [Float64.zero false,Float64.zero false])->S≠I->
   (∀b t h' tk,Fl b (16*ns.sum)->(∀c o,c≠I->s.heap.get? c=some o->h'.get? c=some o)->R (.ok (.ret (.float b t))) (bp s h' tk))->
   codeAny (model pw w) A (.builtin "math.fsum.loop" ⟨[.ref I,.ref T,.ref S],[]⟩) R s:=by
 intro k;have W:=Walks.list (prog:=pw) (w:=w) (A:=A.in1) hh I ax i7 vs.toArray;have hvl:vs.length=ns.length:=hi.length;have hz0:Float64.isZero (Float64.zero false)=true:=by rw[(gD false).isZero];rfl
 induction k with
 |zero=>
  intro i s T ps sm hk qE DN Ab wY dI hT hS DO hR;have e:i=ns.length:=by omega
  subst e;rw[List.take_length] at Ab;refine O9 gS ?_;rw[Around.under_plainId dJ _];unfold Builtin.«math.fsum.loop»;refine J' (iL hT (J' (iL hS ?_)));refine J' (W.done s _ _ (by rw[List.size_toArray,hvl];exact dI) λh' tk iX=>?_);dsimp only;rw[if_neg (by rw[hz0];decide)];exact λ_ _ _=>hR _ _ h' _ (by rw[<-Ab];exact xl DN) λc o hc eo=>iX c o (by simpa using hc) eo
 |succ k ih=>
  intro i s T ps sm hk qE DN Ab wY dI hT hS DO hR;have cN:i<ns.length:=by omega
  refine O9 gS ?_;rw[Around.under_plainId dJ _];unfold Builtin.«math.fsum.loop»;refine J' (iL hT (J' (iL hS ?_)));refine J' (W.item i s _ _ (by rw[List.size_toArray,hvl];exact cN) dI λv h₁ bg hP gH el=>?_);refine aN (IntsAre.at hi i v (by simpa using hP)) λn t j6 hn=>?_;subst j6;have bX:n∈ns:=List.mem_of_getElem? hn;have hnb:=hb n bX;have hib:i*2^40<=64*2^40:=OU _ (by omega);have hsc:=OB wY hib;dsimp only;refine J' (Ol (PySem.Flt.realArg_int hh (λc=>absurd c (Aa (by omega))) λ_=>?_));refine ar (pL DN (Fl.ofInt (n:=n) (by omega)) (CN (zJ wW hsc) rfl) (by omega)) λtop he HS=>?_;rw[he];dsimp only;rw[if_pos HS.finite];have hnx:=vL HS;generalize (if Float64.isZero top=true then [] else []++[top])=xm at hnx ⊢;have HT:xm.length<=100:=by (rcases hnx with j2|j3<;>(first|(refine cA j2 λj4 _=>?_;clear j2;subst j4)| (refine ar j3 λ_ j5 _=>?_;clear j3;subst j5)))<;>simp
  refine J' (gf HT λh₂ PQ qS=>?_);have nw:∀c o,s.heap.get? c=some o->c≠I->h₂.get? c=some o:=λc o eo hc=>PQ _ _ (el c o (by simpa using hc) eo);refine OD ⟨plainId_quiet dJ _,ih (i+1) _ _ xm (sm+n) (by omega) cN ?_ ?_ ?_ ⟨?_,?_⟩ qS (nw _ _ hS DO) DO ?_⟩
  ·rw[show 16*(sm+n)=16*sm+16*n by omega];exact hnx
  ·rw[List.take_add_one,hn,Ab];simp
  ·have:(sm+n).natAbs<=sm.natAbs+n.natAbs:=Int.natAbs_add_le _ _
   rw[Nat.add_mul];omega
  ·refine ar gH.1 λo ho r=>⟨o,PQ _ _ ho,r⟩
  ·exact isList_stays PQ gH.2
  ·exact λb t h' tk eJ iX=>hR b t h' tk eJ λc o hc eo=>iX c o hc (nw c o eo hc)
theorem fE{ns:List Int}(hh:A.handled=none)(hl:LI ns v h)(hb:∀k∈ns,k.natAbs<=2^40)(hlen:ns.length<=64):
  Cl w A h (.builtin "math.fsum") [v] [] (λv _=>∃b t,v = .float b t/\Fl b (16*ns.sum)):=by
 refine aG hl λl vs j1 a hi=>?_;clear hl;subst j1;intro s Q E hs hq;have ha:=isList_stays hs a;refine call_function_tree vM sR sS (vN _) ?_;unfold Builtin.«math.fsum»;refine J' (OD (J' (O1 ha ?_)));have cN:l<s.heap.objs.size:=by refine ar ha λ_ e _=>ON e
 generalize hI:s.heap.objs.size=I at *;generalize hH:s.heap.push {cls:=.type "list_iterator",data:=.fields #[.ref l,.int 0 0]}=H;have hit:H.IsListIter I l 0:=⟨_,hI▸hH▸OC _ rfl,rfl,rfl⟩;have up:s.heap.StaysIn H:=λb o e=>hH▸K' _ e;refine J' (gf (xs:=[]) (by decide) λh₁ PO hT=>?_);refine J' (gf (xs:=[Float64.zero false,Float64.zero false]) (by decide) λh₂ PQ hS=>?_);refine OD ⟨plainId_quiet dJ _,vO hh (OI cN) hi hb hlen ns.length 0 _ _ [] 0 (by omega) (PF _) (.inl ⟨rfl,rfl⟩) (by simp) (by simp) ⟨?_,?_⟩ (PQ _ _ hT) hS ?_ ?_⟩
 ·refine ar hit λo ho r=>⟨o,PQ _ _ (PO _ _ ho),r⟩
 ·exact isList_stays PQ (isList_stays PO (isList_stays up ha))
 ·have:h₁.get? I≠none:=by refine ar hit λo ho _=>?_;clear hit;rw[PO _ _ ho];simp
  intro q;exact this (q▸OL (OM _))
 ·exact λb t h' tk eJ iX=>hq _ h' tk (λc o e=>iX c o (by have:=ON e;rw[hI] at this;exact OI this) (PQ _ _ (PO _ _ (up _ _ e)))) ⟨b,t,rfl,eJ⟩
section
open Builtin.Math
theorem jI{x:UInt64}{b:Int}(hx:Fl x a)(hy:Fl y b)(h1:a.natAbs<2^50)(h2:b.natAbs<2^50):Fl (dlSum x y).1 (a+b)/\Fl (dlSum x y).2 0:=by
 have hs:=hx.add hy (by omega);have hz:=hs.sub hx (by omega);have h3:=hx.sub (hs.sub hz (by omega)) (by omega);have h4:=hy.sub hz (by omega);have h5:=h3.add h4 (by omega);refine⟨hs,?_⟩;have e:a-(a+b-(a+b-a))+(b-(a+b-a))=0:=by omega
 rw[e] at h5;exact h5
theorem xn{x:UInt64}{b:Int}(hx:Fl x a)(hy:Fl y b)(hc:a*b=c*16)(h:c.natAbs<2^53):Fl (dlMul x y).1 c/\Fl (dlMul x y).2 0:=by have hz:=hx.mul hy hc h;exact⟨hz,hx.L8 hy hz.nG (by omega)⟩
theorem xp{x lo:UInt64}{b s:Int}(hx:Fl x a)(hy:Fl y b)(hc:a*b=c*16)(h:c.natAbs<2^49)(hh:Fl hi s)(hs:s.natAbs<2^49)(hl:Fl lo 0)(ht:Fl jh 0):
  Fl (tlFma x y (hi,lo,jh)).1 (s+c)/\Fl (tlFma x y (hi,lo,jh)).2.1 0/\Fl (tlFma x y (hi,lo,jh)).2.2 0:=by
 have pr:=xn hx hy hc (by omega);have sm:=jI hh pr.1 (by omega) (by omega);have r1:=jI hl pr.2 (by decide) (by decide);have r2:=jI r1.1 sm.2 (by decide) (by decide);exact⟨sm.1,r2.1,((ht.add r1.2 (by decide)).add r2.2 (by decide))⟩
theorem pM{lo:UInt64}{s:Int}(hh:Fl hi s)(hs:s.natAbs<2^49)(hl:Fl lo 0)(ht:Fl jh 0):Fl (tlToFloat (hi,lo,jh)) s:=by
 have last:=jI hl hh (by decide) (by omega);have:=(ht.add last.2 (by decide)).add last.1 (by omega);have e:(0+0+(0+s):Int)=s:=by omega
 rw[e] at this;exact this
end
structure W2(w:World)(A:Around)(I J:Addr)(wr:List Addr)(G:Array GenState->Array GenState->Prop)(n:Nat)(P Q:Nat->Value->Prop)(St:Nat->Shared->Prop):Prop where
 grefl:∀a,G a a
 gtrans:∀a b c,G a b->G b c->G a c
 frame:∀i (s:Shared) h' tk,St i s->s.toks<=tk->s.heap.StaysIn h'->St i (bp s h' tk)
 item:∀i (s:Shared)(K:Option Value->Option Value->Shared->Prop)(E:Value->Shared->Prop),i<n->St i s->(∀v u s',P i v->Q i u->St (i+1) s'->Moved wr G s s'->K (some v) (some u) s')->
  wpAny (model pw w) A (pyNext (.ref I)) (λp aB=>wpAny (model pw w) A (pyNext (.ref J)) (λq bN=>K p q bN) E aB) E s
 done:∀(s:Shared)(K:Option Value->Option Value->Shared->Prop)(E:Value->Shared->Prop),St n s->(∀s',Moved wr G s s'->K none none s')->
  wpAny (model pw w) A (pyNext (.ref I)) (λp aB=>wpAny (model pw w) A (pyNext (.ref J)) (λq bN=>K p q bN) E aB) E s
theorem bO(f:Nat->Int)(n B:Nat)(hb:∀i,i<n->(f i).natAbs<=B):(preSum f n).natAbs<=n*B:=by
 induction n with
 |zero=>simp[preSum]
 |succ n ih=>
  have h1:=ih λi hi=>hb i (by omega);have h2:=hb n (by omega);have h3:=Int.natAbs_add_le (preSum f n) (f n);show (preSum f n+f n).natAbs<=_;rw[Nat.add_mul];omega
theorem d8{a b c:Nat->Int}(hc:∀i,i<n->a i*b i=c i*16/\(c i).natAbs<=2^40)(hn:n<=64):(∀i,i<n->a i*b i=c i*16/\(c i).natAbs<2^49)/\∀i,i<=n->(preSum c i).natAbs<2^49:=
 ⟨λi hi=>⟨(hc i hi).1,by have:=(hc i hi).2;omega⟩,λi hi=>by have:=bO c i (2^40) λj hj=>(hc j (by omega)).2;have h2:i*2^40<=64*2^40:=OU _ (by omega);omega⟩
theorem jJ:builtinKind "math.sumprod"=none:=by decide+kernel
theorem i9:plainId "math.sumprod"=true:=by decide+kernel
theorem bM:plainId "math.sumprod.loop"=true:=by decide+kernel
theorem ja:entryFor table "math.sumprod"=some Builtin.«math.sumprod»:=entryFor_of_fast (by kernel_rfl)
theorem cZ:entryFor table "math.sumprod.loop"=some Builtin.«math.sumprod.loop»:=entryFor_of_fast (by kernel_rfl)
theorem jK(a b:Value):argsOk "math.sumprod" ⟨[a,b],[]⟩:=by unfold argsOk;kernel_rfl
theorem cX{M:Model}{c:Prop}[Decidable c]{a b:Sem α}{Q:α->Shared->Prop}(h:¬c)(x:wpAny M A b Q E s):wpAny M A (if c then a else b) Q E s:=by rw[if_neg h];exact x
theorem c9{M:Model}{c:Prop}[Decidable c]{a b:Sem α}{Q:α->Shared->Prop}(h:c)(x:wpAny M A a Q E s):wpAny M A (if c then a else b) Q E s:=by rw[if_pos h];exact x
theorem eN(x:UInt64):((x.toNat:Int).toNat).toUInt64=x:=by simp
section
variable{I:Addr}{P Q:Nat->Value->Prop}{St:Nat->Shared->Prop}
theorem mz(W:W2 w A.in1 I J wr G n P Q St)(a b c:Nat->Int)(hP:∀i v,P i v->∃x t,v = .float x t/\Fl x (a i))(hQ:∀i v,Q i v->∃x t,v = .float x t/\Fl x (b i))(hc:∀i,i<n->a i*b i=c i*16/\(c i).natAbs<2^49)(hn0:0<n)(hn:∀i,i<=n->(preSum c i).natAbs<2^49):
  ∀(k i:Nat)(s:Shared)(T:Addr)(hi lo jh:UInt64)(io fu:Bool)(t t':Tok),n-i=k->i<=n->St i s->s.heap.get? T=some (iK [hi,lo,jh])->Fl hi (preSum c i)->Fl lo 0->Fl jh 0->fu=decide (0<i)->
   (∀s' x t,Moved wr G s s'->Fl x (preSum c n)->R (.ok (.ret (.float x t))) s')->
   codeAny (model pw w) A (.builtin "math.sumprod.loop" ⟨[.ref I,.ref J,.int 0 t,.bool io,.int 0 t',.bool false,.bool true,.ref T,.bool fu],[]⟩) R s:=by
 intro k;induction k with
 |zero=>
  intro i s T hi lo jh io fu t t' hk qE dI hT FZ BL hti hfu hR;have e:i=n:=by omega
  subst e;refine O9 cZ ?_;rw[Around.under_plainId bM _];unfold Builtin.«math.sumprod.loop»;refine J' (PB hT rfl ?_);refine J' (Oj (W.done s _ _ dI λs' hm=>?_) (λp aB x=>J' (Ol x)) (λ_ _ x=>x));refine cX (by decide) ?_;have fin:∀(t:Tok),wpAny (model pw w) A.in1 (do
    rule "math.sumprod.leaves-floats"
    if fu=true then
     let v <-mkFloat (Builtin.Math.tlToFloat (((hi.toNat:Int).toNat).toUInt64,((lo.toNat:Int).toNat).toUInt64,((jh.toNat:Int).toNat).toUInt64))
     let total <-holding [Value.int 0 t] (binaryOp Operator.Add (.int 0 t) v)
     (ret total:Sem Fin)
    else ret (.int 0 t)) (λfin s'=>match fin with
   |Fin.done f=>R (Except.ok f) s'
   |Fin.again c'=>c'.quiet=true/\codeAny (model pw w) A c' R s') (λe s'=>R (Except.error e) s') s':=λt=>by
   rw[eN,eN,eN];refine J' (PI ?_);refine c9 (by rw[hfu];simpa using hn0) ?_;refine J' (wpAny_mkFloat (J' (Ol (PyProof.Rows.add_if_fits (O8 1023) ?_))));have e:=pM FZ (hn i (OM _)) BL hti;have:=(Fl.ofInt (n:=0) (by decide)).add e (by have:=hn i (OM _);omega);rw[show 16*0+preSum c i=preSum c i by omega] at this;refine OD (hR _ _ _ (hm.then_heap (s':=s') (h':=s'.heap) (OB (Nat.le_succ _) (Nat.le_succ _)) λb o _ e=>e) this)
  cases io
  ·refine cX (by decide) ?_
   exact fin t
  ·refine c9 rfl ?_
   refine J' (PI ?_);refine cX (by decide) ?_;exact fin t
 |succ k ih=>
  intro i s T hi lo jh io fu t t' hk qE dI hT FZ BL hti hfu hR;have cN:i<n:=by omega
  refine O9 cZ ?_;rw[Around.under_plainId bM _];unfold Builtin.«math.sumprod.loop»;refine J' (PB hT rfl ?_);refine J' (Oj (W.item i s _ _ cN dI λv u s' hv hu gC hm=>?_) (λp aB x=>J' (Ol x)) (λ_ _ x=>x));refine cX (by simp) ?_;refine aN (hP i v hv) λx tx j2 hx=>?_;subst j2;refine aN (hQ i u hu) λy ty j1 hy=>?_;subst j1;have xq:=hc i cN;have hb1:=hn i (by omega);refine du (xp hx hy xq.1 xq.2 FZ hb1 BL hti) λn1 n2 n3=>?_;have fin:∀(t:Tok),wpAny (model pw w) A.in1 (
    let next:=Builtin.Math.tlFma x y (((hi.toNat:Int).toNat).toUInt64,((lo.toNat:Int).toNat).toUInt64,((jh.toNat:Int).toNat).toUInt64)
    if Float64.isFinite next.1 then do
      let Mb <-newTuple [rawInt next.1.toNat,rawInt next.2.1.toNat,rawInt next.2.2.toNat]
      (again (.builtin "math.sumprod.loop" ⟨[.ref I,.ref J,.int 0 t,.bool false,rawInt 0,.bool false,.bool true,Mb,.bool true],[]⟩):Sem Fin)
     else
    (do
    rule "math.sumprod.leaves-floats"
    if fu=true then
     let v <-mkFloat (Builtin.Math.tlToFloat (((hi.toNat:Int).toNat).toUInt64,((lo.toNat:Int).toNat).toUInt64,((jh.toNat:Int).toNat).toUInt64))
     let total <-holding [Value.int 0 t,.float x tx,.float y ty] (binaryOp Operator.Add (.int 0 t) v)
     let term <-holding [total,.float x tx,.float y ty] (binaryOp Operator.Mult (.float x tx) (.float y ty))
     let total <-holding [total,term,.float x tx,.float y ty] (binaryOp Operator.Add total term)
     again (.builtin "math.sumprod.loop" ⟨[.ref I,.ref J,total,.bool false,rawInt 0,.bool false,.bool false,.ref T,.bool false],[]⟩)
    else 
     let term <-holding [Value.int 0 t,.float x tx,.float y ty] (binaryOp Operator.Mult (.float x tx) (.float y ty))
     let total <-holding [Value.int 0 t,term,.float x tx,.float y ty] (binaryOp Operator.Add (Value.int 0 t) term)
     again (.builtin "math.sumprod.loop" ⟨[.ref I,.ref J,total,.bool false,rawInt 0,.bool false,.bool false,.ref T,.bool false],[]⟩))) (λfin s'=>match fin with
   |Fin.done f=>R (Except.ok f) s'
   |Fin.again c'=>c'.quiet=true/\codeAny (model pw w) A c' R s') (λe s'=>R (Except.error e) s') s':=λt=>by
   rw[eN,eN,eN];dsimp only;generalize Builtin.Math.tlFma x y (hi,lo,jh)=nx at n1 n2 n3;rcases nx with⟨a1,a2,a3⟩;refine c9 n1.finite ?_;refine J' (gf (xs:=[a1,a2,a3]) (by simp) λh₁ PO jL=>?_);refine OD ⟨plainId_quiet bM _,ih (i+1) _ _ a1 a2 a3 false true _ _ (by omega) cN (W.frame _ _ _ _ gC (OM _) PO) jL ?_ n2 n3 (by simp) ?_⟩
   ·exact n1
   ·exact λeA z tz iI hz=>hR eA z tz ((hm.then_heap (h':=h₁) (tk:=s'.toks) (OM _) λb o _ e=>PO _ _ e).trans W.gtrans iI) hz
  cases io
  ·refine cX (by decide) ?_
   exact fin t
  ·refine c9 rfl ?_
   refine J' (PI ?_);refine cX (by decide) ?_;exact fin t
theorem mA(W:W2 w A.in1 I J wr G n P Q St)(a b:Nat->Int)(hP:∀i v,P i v->∃t,v = .int (a i) t)(hQ:∀i v,Q i v->∃t,v = .int (b i) t)(hc:∀i,i<n->(a i).natAbs<=2^50/\(b i).natAbs<=2^50/\(a i*b i).natAbs<=2^55)(hn:n<=64):
  ∀(k i:Nat)(s:Shared)(T:Addr)(iu:Bool)(t t':Tok)(sm:Int),n-i=k->i<=n->St i s->s.heap.get? T=some (iK [Float64.zero false,Float64.zero false,Float64.zero false])->sm=preSum (λi=>a i*b i) i->sm.natAbs<=i*2^55->(iu=false->sm=0)->T∉wr->
   (∀s' t,Moved wr G s s'->R (.ok (.ret (.int (preSum (λi=>a i*b i) n) t))) s')->
   codeAny (model pw w) A (.builtin "math.sumprod.loop" ⟨[.ref I,.ref J,.int 0 t,.bool true,.int sm t',.bool iu,.bool true,.ref T,.bool false],[]⟩) R s:=by
 intro k;induction k with
 |zero=>
  intro i s T iu t t' sm hk qE dI hT Ab wY hiu hTw hR;have e:i=n:=by omega
  subst e;refine O9 cZ ?_;rw[Around.under_plainId bM _];unfold Builtin.«math.sumprod.loop»;refine J' (PB hT rfl ?_);refine J' (Oj (W.done s _ _ dI λs' hm=>?_) (λp aB x=>J' (Ol x)) (λ_ _ x=>x));refine cX (by decide) ?_;refine c9 rfl ?_;refine J' (PI ?_);cases iu
  ·refine cX (by decide) ?_
   refine c9 rfl ?_;refine J' (PI ?_);refine cX (by decide) ?_;have:=hR s' t hm;rw[<-Ab,hiu rfl] at this;exact OD this
  ·refine c9 rfl ?_
   refine J' (wpAny_mkInt (J' (Ol (PyProof.Rows.add_int ?_))));refine c9 rfl ?_;refine J' (PI ?_);refine cX (by decide) ?_;have:=hR _ (s'.toks+1) (hm.then_heap (s':=s') (h':=s'.heap) (tk:=s'.toks+1+1) (OB (Nat.le_succ _) (Nat.le_succ _)) λb o _ e=>e);rw[<-Ab,<-Int.zero_add sm] at this;exact OD this
 |succ k ih=>
  intro i s T iu t t' sm hk qE dI hT Ab wY hiu hTw hR;have cN:i<n:=by omega
  refine O9 cZ ?_;rw[Around.under_plainId bM _];unfold Builtin.«math.sumprod.loop»;refine J' (PB hT rfl ?_);refine J' (Oj (W.item i s _ _ cN dI λv u s' hv hu gC hm=>?_) (λp aB x=>J' (Ol x)) (λ_ _ x=>x));refine cX (by simp) ?_;refine aR (hP i v hv) λtx j2=>?_;subst j2;refine aR (hQ i u hu) λty j1=>?_;subst j1;have xq:=hc i cN;have hb1:i*2^55<=64*2^55:=OU _ (by omega);have Mc:=Int.natAbs_add_le sm (a i*b i);refine c9 rfl ?_;generalize nY:a i*b i=ab at *;refine c9 ?_ ?_
  ·have hm:Builtin.Math.maxSsize=2^63-1:=rfl
   rw[nY,hm];simp only[Bool.and_eq_true,decide_eq_true_eq];exact⟨⟨⟨fits63 (OB xq.1 (by decide)),fits63 (OB xq.2.1 (by decide))⟩,fits63 (OB xq.2.2 (by decide))⟩,fits63 (OB Mc (OB (Nat.add_le_add (OB wY hb1) xq.2.2) (by decide)))⟩
  ·refine OD ⟨plainId_quiet bM _,ih (i+1) _ _ true _ _ _ (by omega) cN gC (hm.heap _ _ (hTw) hT) ?_ ?_ (λh=>by cases h) hTw ?_⟩
   ·show _=preSum _ i+a i*b i
    rw[nY,Ab]
   ·rw[nY,Nat.add_mul];omega
   ·exact λeA tz iI=>hR eA tz (hm.trans W.gtrans iI)
end
section
variable{I:Addr}{HU HV xr xt:List Addr}{mq DP:Array GenState->Array GenState->Prop}{P Q:Nat->Value->Prop}{uy uz:Nat->Shared->Prop}
theorem W2.of(qT:WalksS pw w A I HU xr mq n P uy)(xu:WalksS pw w A J HV xt DP n Q uz)(gr:∀a,G a a)(gt:∀a b c,G a b->G b c->G a c)(g1:∀a b,mq a b->G a b)(g2:∀a b,DP a b->G a b)(c1:∀i s s',uy i s->Moved xt DP s s'->uy i s')(c2:∀i s s',uz i s->Moved xr mq s s'->uz i s'):W2 w A I J (xr++xt) G n P Q (λi s=>uy i s/\uz i s) where
 grefl:=gr
 gtrans:=gt
 frame:=λi s h' tk st ht k=>⟨qT.frame i s h' tk st.1 ht λb _ o e=>k b o e,xu.frame i s h' tk st.2 ht λb _ o e=>k b o e⟩
 item:=λi s K E hi st hK=>qT.item i s _ _ hi st.1 λv aB hv Pl PZ=>xu.item i aB _ _ hi (c2 i _ _ st.2 PZ) λu bN hu Pm PR=>
  hK v u bN hv hu ⟨c1 _ _ _ Pl PR,Pm⟩ ⟨λb o hb e=>PR.heap b o (λh=>hb (OP _ h)) (PZ.heap b o (λh=>hb (OJ _ h)) e),gt _ _ _ (g1 _ _ PZ.gens) (g2 _ _ PR.gens),PR.drawn.trans PZ.drawn,PR.os.trans PZ.os,OB PZ.toks PR.toks⟩
 done:=λs K E st hK=>qT.done s _ _ st.1 λaB PZ=>xu.done aB _ _ (c2 _ _ _ st.2 PZ) λbN PR=>
  hK bN ⟨λb o hb e=>PR.heap b o (λh=>hb (OP _ h)) (PZ.heap b o (λh=>hb (OJ _ h)) e),gt _ _ _ (g1 _ _ PZ.gens) (g2 _ _ PR.gens),PR.drawn.trans PZ.drawn,PR.os.trans PZ.os,OB PZ.toks PR.toks⟩
end
section
variable{p q:Value}
theorem iM(hit:wpAny (model pw w) A.in1 (pyIter p) (λit aB=>wpAny (model pw w) A.in1 (pyIter q) (λjt bN=>∃I J wr G n P Q' St,∃a b c:Nat->Int,it = .ref I/\jt = .ref J/\W2 w A.in1 I J wr G n P Q' St/\
   (∀i v,P i v->∃x t,v = .float x t/\Fl x (a i))/\(∀i v,Q' i v->∃x t,v = .float x t/\Fl x (b i))/\(∀i,i<n->a i*b i=c i*16/\(c i).natAbs<2^49)/\0<n/\(∀i,i<=n->(preSum c i).natAbs<2^49)/\St 0 bN/\
   (∀s' x t,Moved wr G bN s'->Fl x (preSum c n)->Q (.float x t) s')) E aB) E s):wpAny (model pw w) A (call (.builtin "math.sumprod") [p,q] []) Q E s:=by
 refine call_function_tree jJ i9 ja (jK _ _) ?_;unfold Builtin.«math.sumprod»;refine J' (OD (J' (Oj hit (λit aB x=>J' (Ol (Oj x (λjt bN x=>?_) λ_ _ x=>x))) λ_ _ x=>x)));refine KW x λI J wr G n P Q' St a b c j1=>vI j1 λj2 j3 W hP hQ hc hn0 hn st hR=>?_;clear x j1;subst j2;subst j3;refine J' (wpAny_mkInt ?_);refine J' (gf (xs:=[Float64.zero false,Float64.zero false,Float64.zero false]) (by simp) λh₁ PO hT=>?_);refine OD ⟨plainId_quiet bM _,?_⟩;refine mz W a b c hP hQ hc hn0 hn n 0 _ _ _ _ _ true false _ _ (by omega) (PF _) (W.frame 0 bN h₁ (bN.toks+1) st (Nat.le_succ _) PO) hT (gD false) (gD false) (gD false) (by simp) ?_;intro s' x t hm hx;exact hR s' x t ⟨λb o hb e=>hm.heap b o hb (PO _ _ e),hm.gens,hm.drawn,hm.os,OB (Nat.le_succ _) hm.toks⟩ hx
theorem vP(hit:wpAny (model pw w) A.in1 (pyIter p) (λit aB=>wpAny (model pw w) A.in1 (pyIter q) (λjt bN=>∃I J wr G n P Q' St,∃a b:Nat->Int,it = .ref I/\jt = .ref J/\W2 w A.in1 I J wr G n P Q' St/\
   (∀i v,P i v->∃t,v = .int (a i) t)/\(∀i v,Q' i v->∃t,v = .int (b i) t)/\(∀i,i<n->(a i).natAbs<=2^50/\(b i).natAbs<=2^50/\(a i*b i).natAbs<=2^55)/\n<=64/\St 0 bN/\(∀b∈wr,b<bN.heap.objs.size)/\
   (∀s' t,Moved wr G bN s'->Q (.int (preSum (λi=>a i*b i) n) t) s')) E aB) E s):wpAny (model pw w) A (call (.builtin "math.sumprod") [p,q] []) Q E s:=by
 refine call_function_tree jJ i9 ja (jK _ _) ?_;unfold Builtin.«math.sumprod»;refine J' (OD (J' (Oj hit (λit aB x=>J' (Ol (Oj x (λjt bN x=>?_) λ_ _ x=>x))) λ_ _ x=>x)));refine CM x λI J wr G n P Q' St a b j1=>vI j1 λj2 j3 W hP hQ hc hn st hw hR=>?_;clear x j1;subst j2;subst j3;refine J' (wpAny_mkInt ?_);refine J' (gf (xs:=[Float64.zero false,Float64.zero false,Float64.zero false]) (by simp) λh₁ PO hT=>?_);refine OD ⟨plainId_quiet bM _,?_⟩;refine mA W a b hP hQ hc hn n 0 _ _ false _ _ 0 (by omega) (PF _) (W.frame 0 bN h₁ (bN.toks+1) st (Nat.le_succ _) PO) hT (by simp[preSum]) (by simp) (λ_=>rfl) (λh=>OQ _ (hw _ h)) ?_;intro s' t hm;exact hR s' t ⟨λb o hb e=>hm.heap b o hb (PO _ _ e),hm.gens,hm.drawn,hm.os,OB (Nat.le_succ _) hm.toks⟩
end
def dD(vs:List Value)(ks:List Int):Prop:=Paired (λk v=>∃x t,v = .float x t/\Fl x k) ks vs
def LF(ks:List Int)(v:Value)(h:Heap):Prop:=∃l vs,v = .ref l/\h.IsList l vs.toArray/\dD vs ks
theorem LF.ref{a:Addr}(x:LF ks (.ref a) h):∃vs:List Value,h.IsList a vs.toArray/\dD vs ks:=by
 refine aN x λl vs e b=>?_;clear x;injection e with e
 exact⟨vs,e▸b⟩
theorem LF.av:cU (LF ks):=λv h h' k=>λbV=>by refine aG bV λl vs e a b=>⟨l,vs,e,isList_stays k a,b⟩
theorem aZ{F:α->β->Prop}{as:List α}{bs:List β}(h:Paired F as bs):bs.length=as.length:=by
 induction h with
 |nil=>rfl
 |cons _ _ ih=>simp[ih]
theorem vQ{F:α->β->Prop}{as:List α}{bs:List β}(h:Paired F as bs):∀{i:Nat}{b:β},bs[i]?=some b->∃a,as[i]?=some a/\F a b:=by
 induction h with
 |nil=>intro i b e;simp at e
 |cons h0 _ ih=>
  intro i b e;cases i with
  |zero=>simp at e;subst e;exact⟨_,rfl,h0⟩
  |succ i=>simp at e;simpa using ih e
noncomputable def aO(ks:List Int)(i:Nat):Int:=ks[i]?.getD 0
theorem dD.at(h:dD vs ks)(e:vs[i]?=some v):∃x t,v = .float x t/\Fl x (aO ks i):=by refine ar (vQ h e) λk hk r=>?_;rw[aO,hk];exact r
theorem jM(h:IntsAre vs ks)(e:vs[i]?=some v):∃t,v = .int (aO ks i) t:=by refine aN (IntsAre.at h i v e) λk t e1 e2=>?_;rw[aO,e2];exact⟨t,e1⟩
theorem oP{m:Addr}{xs ys:List Value}(hh:A.handled=none)(hl:s.heap.IsList l xs.toArray)(hm:s.heap.IsList m ys.toArray)(hn:ys.length=xs.length){K:Value->Value->Shared->Prop}(hK:∀I J h',W2 w A I J [I,J] (λa b=>b=a) xs.length (λi v=>xs[i]?=some v) (λi v=>ys[i]?=some v)
    (λi s=>(s.heap.IsListIter I l i/\s.heap.IsList l xs.toArray)/\(s.heap.IsListIter J m i/\s.heap.IsList m ys.toArray))->
   (h'.IsListIter I l 0/\h'.IsList l xs.toArray)/\(h'.IsListIter J m 0/\h'.IsList m ys.toArray)->s.heap.StaysIn h'->(∀b o,s.heap.get? b=some o->b∉[I,J])->(∀b∈[I,J],b<h'.objs.size)->K (.ref I) (.ref J) (bp s h' s.toks)):
  wpAny (model pw w) A (pyIter (.ref l)) (λit aB=>wpAny (model pw w) A (pyIter (.ref m)) (λjt bN=>K it jt bN) E aB) E s:=by
 refine O1 hl ?_;have cN:l<s.heap.objs.size:=by refine ar hl λ_ e _=>ON e
 have DQ:m<s.heap.objs.size:=by refine ar hm λ_ e _=>ON e
 have old:∀b o,s.heap.get? b=some o->b<s.heap.objs.size:=λb o e=>ON e;generalize hI:s.heap.objs.size=I at *;generalize hH:s.heap.push {cls:=.type "list_iterator",data:=.fields #[.ref l,.int 0 0]}=H;have hit:H.IsListIter I l 0:=⟨_,hI▸hH▸OC _ rfl,rfl,rfl⟩;have up:s.heap.StaysIn H:=λb o e=>hH▸K' _ e;have nH:H.objs.size=I+1:=by rw[<-hH,Heap.size_push,hI]
 refine O1 (isList_stays up hm) ?_;dsimp only;generalize hJ:H.objs.size=J at *;generalize DS:H.push {cls:=.type "list_iterator",data:=.fields #[.ref m,.int 0 0]}=H';have hjt:H'.IsListIter J m 0:=⟨_,hJ▸DS▸OC _ rfl,rfl,rfl⟩;have Ac:H.StaysIn H':=λb o e=>DS▸K' _ e;have nH':H'.objs.size=J+1:=by rw[<-DS,Heap.size_push,hJ]
 have hlI:l≠I:=OI cN;have hmI:m≠I:=OI DQ;have hlJ:l≠J:=by intro q;rw[q,nH] at cN;exact Nat.not_succ_lt_self cN
 have hmJ:m≠J:=by intro q;rw[q,nH] at DQ;exact Nat.not_succ_lt_self DQ
 have HW:I≠J:=by rw[nH];exact OI (OY _)
 have qT:=Walks.list (prog:=pw) (w:=w) hh I l hlI xs.toArray;have xu:=Walks.list (prog:=pw) (w:=w) hh J m hmJ ys.toArray;have bB:xs.toArray.size=xs.length:=List.size_toArray;have bR:ys.toArray.size=xs.length:=by rw[List.size_toArray,hn]
 have qU:=qT.toS;have qV:=xu.toS;rw[bB] at qU;rw[bR] at qV;refine hK I J H' ?_ ⟨⟨by refine ar hit λo ho r=>⟨o,Ac _ _ ho,r⟩,isList_stays Ac (isList_stays up hl)⟩,hjt,isList_stays Ac (isList_stays up hm)⟩ (ai up Ac) (λb o e hb=>?_) (λb hb=>?_)
 ·have:=W2.of (G:=λa b=>b=a) qU qV (λ_=>rfl) (λ_ _ _ h1 h2=>h2.trans h1) (λ_ _ h=>h) (λ_ _ h=>h)
   (λi s s' st mv=>⟨by refine ar st.1 λo ho r=>⟨o,mv.heap _ _ (by simpa using HW) ho,r⟩,by refine ar st.2 λo ho r=>⟨o,mv.heap _ _ (by simpa using hlJ) ho,r⟩⟩)
   (λi s s' st mv=>⟨by refine ar st.1 λo ho r=>⟨o,mv.heap _ _ (by simpa using HW.symm) ho,r⟩,by refine ar st.2 λo ho r=>⟨o,mv.heap _ _ (by simpa using hmI) ho,r⟩⟩)
  simp only[List.getElem?_toArray] at this;exact this
 ·have h1:@LT.lt Nat _ b I:=old b o e
  rcases OA hb with j2|hb<;>(first|(replace j2:=OK j2;subst j2)|skip)
  ·exact OQ _ h1
  ·rw[List.mem_singleton.mp hb,nH] at h1;exact Nat.not_succ_lt_self h1
 ·rw[nH']
  rcases OA hb with j1|hb<;>(first|(replace j1:=OK j1;subst j1)|skip)
  ·rw[nH];exact Ox (OY _)
  ·rw[List.mem_singleton.mp hb];exact OY _
theorem mB(m:Moved wr (λa b=>b=a) s s'):s'=(bp s s'.heap s'.toks):=by rcases s' with⟨h,g,d,t,o⟩;rcases s with⟨h0,g0,d0,t0,o0⟩;have h1:=m.gens;have h2:=m.drawn;have h3:=m.os;dsimp only at h1 h2 h3;subst h1;subst h2;subst h3;rfl
theorem gI{u:Value}(c:Nat->Int)(hh:A.handled=none)(hl:LF ks v h)(hm:LF js u h)(hn:js.length=ks.length)(h0:0<ks.length)(hlen:ks.length<=64)(hc:∀i,i<ks.length->aO ks i*aO js i=c i*16/\(c i).natAbs<=2^40):
  Cl w A h (.builtin "math.sumprod") [v,u] [] (λv _=>∃b t,v = .float b t/\Fl b (preSum c ks.length)):=by
 refine aG hl λl xs j2 a hx=>?_;clear hl;subst j2;refine aG hm λm ys j1 b hy=>?_;clear hm;subst j1;intro s Q E hs hq;have lx:xs.length=ks.length:=aZ hx;have ly:ys.length=js.length:=aZ hy;refine iM (oP (A:=A.in1) hh (isList_stays hs a) (isList_stays hs b) (by omega) λI J h' W st k sO hw=>?_);rw[lx] at W;refine⟨I,J,_,_,ks.length,_,_,_,aO ks,aO js,c,rfl,rfl,W,λi v e=>hx.at e,λi v e=>hy.at e,(d8 hc hlen).1,h0,(d8 hc hlen).2,st,λs' x t mv fx=>?_⟩;rw[mB mv];exact hq _ _ _ (λb o e=>mv.heap b o (sO b o e) (k _ _ e)) ⟨x,t,rfl,fx⟩
theorem jk{u:Value}(hh:A.handled=none)(hl:LI ks v h)(hm:LI js u h)(hn:js.length=ks.length)(hlen:ks.length<=64)(hc:∀i,i<ks.length->(aO ks i).natAbs<=2^50/\(aO js i).natAbs<=2^50/\(aO ks i*aO js i).natAbs<=2^55):
  Cl w A h (.builtin "math.sumprod") [v,u] [] (λv _=>∃t,v = .int (preSum (λi=>aO ks i*aO js i) ks.length) t):=by
 refine aG hl λl xs j2 a hx=>?_;clear hl;subst j2;refine aG hm λm ys j1 b hy=>?_;clear hm;subst j1;intro s Q E hs hq;have lx:xs.length=ks.length:=hx.length;have ly:ys.length=js.length:=hy.length;refine vP (oP (A:=A.in1) hh (isList_stays hs a) (isList_stays hs b) (by omega) λI J h' W st k sO hw=>?_);rw[lx] at W;refine⟨I,J,_,_,ks.length,_,_,_,aO ks,aO js,rfl,rfl,W,λi v e=>jM hx e,λi v e=>jM hy e,hc,hlen,st,hw,λs' t mv=>?_⟩;rw[mB mv];exact hq _ _ _ (λb o e=>mv.heap b o (sO b o e) (k _ _ e)) ⟨t,rfl⟩
noncomputable abbrev Frs:=List (Env×(Str->Option Value))
noncomputable abbrev aS(frs:Frs):List Addr:=frs.map (·.1.locals)
def cJ(h:Heap):Prop:=∀q∈TT,∃ps,h.get? q.1=some (tabObj ps)/\TriplesOk ps.toList/\∀pos cv,codeAmong pos ps.toList=some cv->h.CodeRec cv q.2
def ia(h:Heap)(a:Addr):Prop:=∀q∈TT,∀ps,h.get? q.1=some (tabObj ps)->∀pos cv,codeAmong pos ps.toList=some cv->cv≠.ref a
theorem cJ.tab(T:cJ h){P:Addr}(hP:P∈gA):∃ps,h.get? P=some (tabObj ps):=by refine ar (OF hP) λq hq j1=>?_;subst j1;refine ar (T q hq) λps e _=>?_;exact⟨ps,e⟩
theorem cJ.ns(T:cJ h)(hn:h.Ns L m):L∉gA:=λhm=>by refine aR (T.tab hm) λps e=>?_;refine bf hn λo es ep ho hd r=>?_;clear hn;rw[ho] at e;cases e;cases hd
theorem cJ.cell(T:cJ h){c:Addr}{v:Option Value}(hn:h.IsCell c v):c∉gA:=λhm=>by refine aR (T.tab hm) λps e=>?_;refine ar hn λo ho hd=>?_;clear hn;rw[ho] at e;cases e;cases hd
theorem cJ.keeps(T:cJ h)(k:h.StaysIn h'):cJ h':=λq hq=>(by refine bl (T q hq) λps e a b=>⟨ps,k _ _ e,a,λpos cv f=>(b pos cv f).keeps k⟩)
theorem cJ.put(T:cJ h)(hs:∀b o,b≠L->h.get? b=some o->h'.get? b=some o)(hL:∀o vs,h.get? L=some o->o.data≠.fields vs):cJ h':=λq hq=>by refine bl (T q hq) λps e a b=>?_;refine⟨ps,hs _ _ (λr=>hL _ ps (r▸e) rfl) e,a,λpos cv f=>?_⟩;refine hO (b pos cv f) λc o vs t r1 r2 r3 r4=>?_;exact⟨c,o,vs,t,r1,hs _ _ (λr=>hL _ vs (r▸r2) r3) r2,r3,r4⟩
structure eB(ex fs:List Addr)(h h':Heap):Prop where
 off:∀b o,b∉ex->b∉fs->b∉gA->h.get? b=some o->h'.get? b=some o
 on:∀b o,b∉ex->b∈fs->b∉gA->h.get? b=some o->∃sl,h'.get? b=some {o with slots:=sl}
 tb:∀b o,b∈gA->h.get? b=some o->∃o',h'.get? b=some o'
theorem eB.refl{ex:List Addr}:eB ex fs h h:=⟨λ_ _ _ _ _ e=>e,λ_ o _ _ _ e=>⟨o.slots,e⟩,λ_ o _ e=>⟨o,e⟩⟩
theorem eB.trans{ex:List Addr}(x:eB ex fs h h')(y:eB ex fs h' f5):eB ex fs h f5:=
 ⟨λb o p q t e=>y.off b o p q t (x.off b o p q t e),λb o p q t e=>(by refine aR (x.on b o p q t e) λ_ bB=>(by refine aR (y.on b _ p q t bB) λsl bR=>⟨sl,bR⟩)),λb o t e=>(by refine aR (x.tb b o t e) λ_ bB=>y.tb b _ t bB)⟩
theorem eB.of_stays{ex:List Addr}(k:h.StaysIn h'):eB ex fs h h':=⟨λb o _ _ _ e=>k b o e,λb o _ _ _ e=>⟨o.slots,k b o e⟩,λb o _ e=>⟨o,k b o e⟩⟩
theorem eB.wide{ex vR:List Addr}(x:eB ex fs h h')(h1:∀b,b∈ex->b∈vR)(h2:∀b,b∉vR->(b∈fs<->b∈KG)):eB vR KG h h':=
 ⟨λb o p q t e=>x.off b o (λm=>p (h1 b m)) (λm=>q ((h2 b p).mp m)) t e,λb o p q t e=>x.on b o (λm=>p (h1 b m)) ((h2 b p).mpr q) t e,x.tb⟩
theorem eB.some(x:eB [] fs h h'){b:Addr}(ht:b∉gA)(e:h.get? b=some o):∃sl,h'.get? b = .some {o with slots:=sl}:=by
 by_cases hb:b∈fs
 ·exact x.on b o (by simp) hb ht e
 ·exact⟨o.slots,x.off b o (by simp) hb ht e⟩
theorem eB.ns(x:eB [] fs h h')(ht:L∉gA)(hn:h.Ns L m):h'.Ns L m:=by refine bf hn λo es ep ho hd r=>?_;clear hn;refine aR (x.some ht ho) λsl hs=>?_;exact⟨_,es,ep,hs,hd,r⟩
theorem eB.cell(x:eB [] fs h h'){c:Addr}{v:Option Value}(ht:c∉gA)(hn:h.IsCell c v):h'.IsCell c v:=by refine ar hn λo ho hd=>?_;clear hn;refine aR (x.some ht ho) λsl hs=>?_;exact⟨_,hs,hd⟩
structure On(frs:Frs)(cs:List Addr)(hb h:Heap):Prop where
 stays:hb.StaysIn h
 frames:∀p∈frs,p.1.scope.kind≠.module/\p.1.frame=some p.1.locals/\hb.get? p.1.locals=none/\h.Ns p.1.locals p.2
 cells:∀c∈cs,hb.get? c=none/\h.IsCell c none
 tabs:cJ h
 dT:∀P∈gA,hb.get? P=none
theorem On.jb(O:On frs cs hb h)(x:eB [] (aS frs) h h')(T:cJ h'):On frs cs hb h':=by
 refine⟨λb o e=>x.off b o (by simp) (λhm=>?_) (λhm=>?_) (O.stays b o e),λp hp=>?_,λc hc=>?_,T,O.dT⟩
 ·refine ar (OF hm) λp hp j1=>?_;subst j1
  rw[(O.frames p hp).2.2.1] at e;cases e
 ·rw[O.dT b hm] at e;cases e
 ·refine eP (O.frames p hp) λa b c d=>?_
  exact⟨a,b,c,x.ns (O.tabs.ns d) d⟩
 ·exact⟨(O.cells c hc).1,x.cell (O.tabs.cell (O.cells c hc).2) (O.cells c hc).2⟩
theorem On.keep(O:On frs cs hb h)(k:h.StaysIn h'):On frs cs hb h':=O.jb (.of_stays k) (O.tabs.keeps k)
theorem On.sub{sT:Frs}(O:On frs cs hb h)(h1:∀p∈sT,p∈frs)(h2:∀c∈cs',c∈cs):On sT cs' hb h:=
 ⟨O.stays,λp hp=>O.frames p (h1 p hp),λc hc=>O.cells c (h2 c hc),O.tabs,O.dT⟩
noncomputable abbrev fv(frs:Frs)(cs:List Addr):List Addr:=aS frs++cs++gA
theorem On.gw(O:On frs cs hb h){b:Addr}(hm:b∈fv frs cs):hb.get? b=none:=by
 rcases OG hm with hm|hm
 ·rcases OG hm with hm|hm
  ·refine ar (OF hm) λp hp j1=>?_;subst j1;exact (O.frames p hp).2.2.1
  ·exact (O.cells b hm).1
 ·exact O.dT b hm
abbrev qW(h:Heap)(b:Addr):Prop:=(∃m,h.Ns b m)∨h.IsCell b none∨∃ps,h.get? b=some (tabObj ps)
theorem On.fv(O:On frs cs hb h){b:Addr}(hm:b∈fv frs cs):qW h b:=by
 rcases OG hm with hm|hm
 ·rcases OG hm with hm|hm
  ·refine ar (OF hm) λp hp j1=>?_;subst j1;exact .inl ⟨_,(O.frames p hp).2.2.2⟩
  ·exact .inr (.inl (O.cells b hm).2)
 ·exact .inr (.inr (O.tabs.tab hm))
theorem On.top(O:On frs cs hb h):On frs cs (hideAll h (Mine.fv frs cs)) h:=
 ⟨λ_ _ e=>OW _ e,λp hp=>⟨(O.frames p hp).1,(O.frames p hp).2.1,Oo _ (OJ _ (OJ _ (OE hp))),(O.frames p hp).2.2.2⟩,
  λc hc=>⟨Oo _ (OJ _ (OP _ hc)),(O.cells c hc).2⟩,O.tabs,λP hP=>Oo _ (OP _ hP)⟩
theorem On.wide(O:On frs cs hb h):hb.StaysIn (hideAll h (Mine.fv frs cs)):=λb o e=>OO _ (O.stays b o e) λhm=>by rw[O.gw hm] at e;cases e
structure Go(ex fs:List Addr)(s s':Shared):Prop where
 bP:eB ex fs s.heap s'.heap
 gens:(∀y∈s.gens,y.bare=true)->∀y∈s'.gens,y.bare=true
 drawn:s'.drawn=s.drawn
 os:s'.os=s.os
theorem Go.refl{ex:List Addr}:Go ex fs s s:=⟨.refl,λh=>h,rfl,rfl⟩
theorem Go.trans{ex:List Addr}{eA:Shared}(x:Go ex fs s s')(y:Go ex fs s' eA):Go ex fs s eA:=⟨x.bP.trans y.bP,λh=>y.gens (x.gens h),y.drawn.trans x.drawn,y.os.trans x.os⟩
theorem Go.of{ex:List Addr}(k:s.heap.StaysIn h'):Go ex fs s (bp s h' tk):=⟨.of_stays k,λh=>h,rfl,rfl⟩
def pN(L:Option Addr)(ws:Str)(a:Addr)(h₀ h:Heap):Prop:=
 h₀.get? a=none/\cJ h/\ia h a/\∃o vs tp t ot,h.get? a=some o/\o.cls = .ref 102/\o.data = .fields vs/\vs[0]?=some (.ref tp)/\h.get? tp=some ot/\ot.cls = .type "tuple"/\ot.data = .seq #[.str ws t]/\
  (vs[1]?=some .none∨∃T oT ts,vs[1]?=some (.ref T)/\h₀.get? T=none/\T≠a/\h.get? T=some oT/\oT.data = .fields ts/\(ts[3]?=some .none∨∃l,L=some l/\ts[3]?=some (rawInt l))/\ia h T/\T∉gA)
abbrev Err:Str->Addr->Heap->Heap->Prop:=pN none
theorem pN.weak{L:Option Addr}{a:Addr}(X:Err ws a h₀ h):pN L ws a h₀ h:=by
 refine eP X λe zN DT j7=>qK j7 λo vs tp t ot j8=>qL j8 λh1 h2 h3 h4 h5 h6 h7 h8=>?_;clear X j7 j8;refine⟨e,zN,DT,o,vs,tp,t,ot,h1,h2,h3,h4,h5,h6,h7,?_⟩;rcases h8 with h8|j2<;>(first|(refine ez j2 λT oT ts j3=>FV j3 λa1 a2 a3 a4 a5 j4 r=>?_;clear j2 j3;rcases j4 with a6|j6<;>(first|(refine ar j6 λl q _=>?_;clear j6)|skip))|skip)
 ·exact .inl h8
 ·exact .inr ⟨T,oT,ts,a1,a2,a3,a4,a5,.inl a6,r⟩
 ·cases q
def dR(h h':Heap):Prop:=∀b o,h.get? b=some o->∃o',h'.get? b=some o'
theorem dR.none(x:dR h h'){b:Addr}(e:h'.get? b=none):h.get? b=none:=by
 cases q:h.get? b with
 |none=>rfl
 |some o=>refine aR (x b o q) λo' e'=>?_;rw[e] at e';cases e'
theorem pN.back{L:Option Addr}{a:Addr}(k:dR h₀ h₁)(X:pN L ws a h₁ h):pN L ws a h₀ h:=by
 refine eP X λe zN DT j3=>qK j3 λo vs tp t ot j4=>qL j4 λh1 h2 h3 h4 h5 h6 h7 h8=>?_;clear X j3 j4;refine⟨k.none e,zN,DT,o,vs,tp,t,ot,h1,h2,h3,h4,h5,h6,h7,?_⟩;rcases h8 with h8|j2<;>(first|(refine bf j2 λT oT ts a1 a2 r=>?_;clear j2)|skip)
 ·exact .inl h8
 ·exact .inr ⟨T,oT,ts,a1,k.none a2,r⟩
theorem eB.cE(x:eB [] fs h h'):dR h h':=λb o e=>by
 by_cases hb:b∈gA
 ·exact x.tb b o hb e
 ·refine aR (x.some hb e) λ_ h=>⟨_,h⟩
def Gm(w:World)(A:Around)(frs:Frs)(cs:List Addr)(h:Heap)(t:Sem α)(P:α->Heap->Prop)(x:Option Str):Prop:=
 ∀(s:Shared)(hb:Heap)(Q:α->Shared->Prop)(E:Value->Shared->Prop),h.StaysIn hb->On frs cs hb s.heap->
  (∀v s' eJ,hb.StaysIn eJ->On frs cs eJ s'.heap->Go [] (aS frs) s s'->P v eJ->Q v s')->
  (∀ws a s',x=some ws->Go [] (aS frs) s s'->Err ws a s.heap s'.heap->E (.ref a) s')->wpAny (model pw w) A t Q E s
def cT(P:α->Heap->Prop):Prop:=∀v h l,(∀b∈l,qW h b)->P v h->P v (hideAll h l)
theorem aj{P:α->Prop}:cT (λv (_:Heap)=>P v):=λ_ _ _ _ p=>p
theorem xw{l:List Addr}(hl:∀b∈l,qW h b){x:Addr}(hx:h.IsList x its):x∉l:=λhm=>by
 refine bl hx λo ho _ j6=>aR j6 λn hd=>?_;clear hx j6;rcases hl x hm with j2|j3|j4<;>(first|(refine nU j2 λm o' es ep j5=>du j5 λaW bL _=>?_;clear j2 j5)| (refine ar j3 λo' aW bL=>?_;clear j3)| (refine aR j4 λps aW=>?_;clear j4))
 ·rw[ho] at aW;cases aW;rw[hd] at bL;cases bL
 ·rw[ho] at aW;cases aW;rw[hd] at bL;cases bL
 ·rw[ho] at aW;cases aW;cases hd
theorem cK{l:List Addr}(hl:∀b∈l,qW h b){x:Addr}(hx:h.IsList x its):(hideAll h l).IsList x its:=
 (by refine ar (hx) λo ho r=>⟨o,OO _ ho (xw hl hx),r⟩)
theorem c5{ns:List Int}:cT (LI ns):=λv h l hl bV=>by refine aG bV λx vs e a b=>⟨x,vs,e,cK hl a,b⟩
theorem DU{ns:List Int}:cT (LF ns):=λv h l hl bV=>by refine aG bV λx vs e a b=>⟨x,vs,e,cK hl a,b⟩
theorem cT.and{P Q:α->Heap->Prop}(p:cT P)(q:cT Q):cT (λv h=>P v h/\Q v h):=λv h l hl bV=>by refine cA bV λa b=>⟨p v h l hl a,q v h l hl b⟩
section
variable{t:Sem α}{P P':α->Heap->Prop}{R:β->Heap->Prop}
theorem Gm.up(k:h.StaysIn h')(H:Gm w A frs cs h t P x):Gm w A frs cs h' t P x:=λs hb Q E hs=>H s hb Q E (ai k hs)
theorem Gm.mono(H:Gm w A frs cs h t P x)(hP:∀v h',h.StaysIn h'->P v h'->P' v h'):Gm w A frs cs h t P' x:=
 λs hb Q E hs O hq he=>H s hb Q E hs O (λv s' eJ k O' g p=>hq v s' eJ k O' g (hP v eJ (ai hs k) p)) he
theorem Gm.bind{k:α->Sem β}(H:Gm w A frs cs h t P x)(K:∀v h',h.StaysIn h'->P v h'->Gm w A frs cs h' (k v) R x):Gm w A frs cs h (t >>= k) R x:=
 λs hb Q E hs O hq he=>J' (H s hb _ _ hs O (λv s' eJ k O' g p=>K v eJ (ai hs k) p s' eJ _ _ (ak _) O'
  (λu eA Md k' HX g' r=>hq u eA Md (ai k k') HX (g.trans g') r) (λws a eA e g' X=>he ws a eA e (g.trans g') (X.back g.bP.cE))) he)
def lj(frs:Frs)(h:Heap):Prop:=∀p∈frs,h.Ns p.1.locals p.2
theorem Gm.of(H:∀h',h.StaysIn h'->lj frs h'->∀(s:Shared)(Q:α->Shared->Prop)(E:Value->Shared->Prop),h'.StaysIn s.heap->
   (∀v f5 tk,s.heap.StaysIn f5->P v f5->Q v (bp s f5 tk))->wpAny (model pw w) A t Q E s)(hP:cT P):Gm w A frs cs h t P x:=
 λs hb Q E hs O hq he=>H s.heap (ai hs O.stays) (λp hp=>(O.frames p hp).2.2.2) s Q E (ak _) λv f5 tk k p=>by have O':=O.keep k;exact hq v _ _ O'.wide O'.top (.of k) (hP v _ _ (λb hb=>O'.fv hb) p)
end
noncomputable abbrev aF(w:World)(A:Around)(frs:Frs)(cs:List Addr)(h:Heap)(env:Env)(e:Expr):=Gm w A frs cs h (eval e env)
noncomputable abbrev df(w:World)(A:Around)(frs:Frs)(cs:List Addr)(h:Heap)(f:Value)(vs:List Value)(kw:List (Str×Value)):=Gm w A frs cs h (call f vs kw)
section
variable{P:Value->Heap->Prop}
theorem aF.of(H:∀h',h.StaysIn h'->lj frs h'->Ev w A h' env e P)(hP:cT P):aF w A frs cs h env e P x:=Gm.of H hP
theorem df.of(H:∀h',h.StaysIn h'->Cl w A h' f vs kw P)(hP:cT P):df w A frs cs h f vs kw P x:=Gm.of (λh' k _=>H h' k) hP
end
theorem ll{a:Addr}{Q:Unit->Shared->Prop}(xx:A.frames=some (((env,m)::frs).map (·.1)))(hF:∀p∈(env,m)::frs,p.1.scope.kind≠.module/\p.1.frame=some p.1.locals/\s.heap.Ns p.1.locals p.2)(X:pN (some env.locals) ws a h₀ s.heap)(hl:dR h₀ s.heap)(hQ:∀h',Err ws a h₀ h'->(∀b o dG,h₀.get? b=some dG->s.heap.get? b=some o->(b∉aS ((env,m)::frs)->h'.get? b=some o)/\(b∈aS ((env,m)::frs)->∃sl,h'.get? b=some {o with slots:=sl}))->Q () (bp s h' s.toks)):
  wpAny (model pw w) A (leaving env (.ref a)) Q E s:=by
 refine eP X λea hT zO iY=>qK iY λo vs tp t ot jc=>qL jc λh1 h2 h3 h4 h5 h6 h7 h8=>?_;clear X iY jc;have xy:∀(b:Addr)(ob:Obj)(us:Array Value),s.heap.get? b=some ob->ob.data = .fields us->b∉aS ((env,m)::frs):=λb ob us e d hm=>by refine ar (OF hm) λp hp eR=>?_;subst eR;refine bf ((hF p hp).2.2) λo' es ep aW bL _=>?_;rw[e] at aW;cases aW;rw[d] at bL;cases bL
 have HY:a∉gA:=λhm=>by refine aR (hT.tab hm) λps e=>?_;rw[h1] at e;cases e;cases h2
 have xA:∀(base:Heap)(l:Frs),(∀p∈l,p∈(env,m)::frs)->(∀p∈l,base.get? p.1.locals=none)->s.heap.FunFrames base (l.map (·.1)):=by
  intro base l;induction l with
  |nil=>intro _ _;trivial
  |cons p l ih=>
   intro h1 h2;refine du (hF p (h1 p (.head _))) λq1 q2 ib=>bf ib λo' es ep aW bL _=>?_;clear ib;exact⟨q1,⟨_,o',q2,h2 p (.head _),aW,λvs q=>by rw[bL] at q;cases q⟩,ih (λp hp=>h1 p (.tail _ hp)) (λp hp=>h2 p (.tail _ hp))⟩
 have fin:∀(base:Heap)(gw:List Addr),base=hideAll s.heap (gw++aS ((env,m)::frs))->(∀b∈gw,h₀.get? b=none/\b∉gA/\ia s.heap b)->∀h',Heap.LeftW base (((env,m)::frs).map (·.1)) a o.cls (.ref tp) s.heap h'->Q () (bp s h' s.toks):=by
  intro base gw mC vS h' hL;refine eP hL λk1 k2 j8 k4=>qK j8 λoe us T oT ts j9=>jA9 j9 λg1 eS g4 g5 g6 g7 g8 g9 g10=>cA eS λg2 g3=>?_;clear hL j8 j9 eS;have strict:∀b ob,s.heap.get? b=some ob->b∉gw->b∉aS ((env,m)::frs)->h'.get? b=some ob:=λb ob e n1 n2=>by refine k1 b ob ?_;rw[mC];exact OO _ e λhm=>(OG hm).elim n1 n2
  have HZ:∀q∈TT,∀ps,s.heap.get? q.1=some (tabObj ps)->h'.get? q.1=some (tabObj ps):=λq hq ps e=>
   strict _ _ e (λhm=>(vS _ hm).2.1 (OE hq)) (xy _ _ ps e rfl)
  have H5:cJ h':=λq hq=>by refine bl (hT q hq) λps e a1 b1=>?_;refine⟨ps,HZ q hq ps e,a1,λpos cv f=>?_⟩;refine hO (b1 pos cv f) λc oc vc tc r1 r2 r3 r4=>?_;exact⟨c,oc,vc,tc,r1,strict c oc r2 (λhm=>(vS c hm).2.2 q hq ps e pos cv f r1) (xy c oc vc r2 r3),r3,r4⟩
  have same:∀q∈TT,∀ps,h'.get? q.1=some (tabObj ps)->s.heap.get? q.1=some (tabObj ps):=λq hq ps e=>by refine ar (hT q hq) λxm e' _=>?_;have:=HZ q hq xm e';rw[e] at this;rw[e',this]
  have DV:T∉gA/\h₀.get? T=none/\ia h' T:=by
   cases q:s.heap.get? T with
   |none=> 
    refine⟨λhm=>?_,hl.none q,λr hr ps e pos cv f q'=>?_⟩
    ·refine aR (hT.tab hm) λps e=>?_
     rw[q] at e;cases e
    ·refine bl (hT r hr) λxm e' _ b1=>?_
     have:=same r hr ps e;rw[e'] at this;cases this;refine hO (b1 pos _ f) λc oc vc tc r1 r2 r3 r4=>?_;rw[q'] at r1;cases r1;rw[q] at r2;cases r2
   |some ob=>
    have:T∈gw++aS ((env,m)::frs):=by
     by_cases hm:T∈gw++aS ((env,m)::frs)
     ·exact hm
     ·rw[mC,hideAll_get _ q hm] at g6;cases g6
    rcases OG this with hm|hm
    ·exact⟨(vS T hm).2.1,(vS T hm).1,λr hr ps e=>(vS T hm).2.2 r hr ps (same r hr ps e)⟩
    ·refine ar (OF hm) λp hp e=>?_
     refine bf ((hF p hp).2.2) λo' es ep aW bL _=>?_;rw[e] at aW;refine aR (k4 T o' aW (λus q=>by rw[bL] at q;cases q)) λBM wX=>?_;rw[g8] at wX;cases wX;dsimp only at g9;rw[bL] at g9;cases g9
  refine hQ h' ⟨ea,H5,λr hr ps e=>zO r hr ps (same r hr ps e),oe,us,tp,t,?_⟩ (λb o' dG e0 eb=>⟨λhb=>?_,λhb=>?_⟩)
  ·refine aR (k4 tp ot h5 (λus q=>by rw[h7] at q;cases q)) λsl hs=>?_
   exact⟨_,g1,g2.trans h2,g4,g3,hs,h6,h7,.inr ⟨T,oT,ts,g5,DV.2.1,g7,g8,g9,.inl g10,DV.2.2,DV.1⟩⟩
  ·exact strict b o' eb (λhm=>by rw[(vS b hm).1] at e0;cases e0) hb
  ·refine ar (OF hb) λp hp e=>?_
   refine bf ((hF p hp).2.2) λo'' es ep aW bL _=>?_;rw[e] at aW;rw[eb] at aW;cases aW;exact k4 b o' eb (λus q=>by rw[bL] at q;cases q)
 rcases h8 with h8|j3<;>(first|(refine ez j3 λT oT ts j4=>qL j4 λa1 a2 a3 a4 a5 j5 a7 a8=>?_;clear j3 j4;rcases j5 with a6|j7<;>(first|(refine ar j7 λl a6' a6=>?_;clear j7)|skip))|skip)
 ·refine wpAny_leaving_firstW (base:=hideAll s.heap ([a]++aS ((env,m)::frs))) xx (xA _ _ (λp hp=>hp) λp hp=>Oo _ (OP _ (OE hp))) (hF _ (.head _)).2.1 h1 (λ_ _ e=>OW _ e) (Oo _ (by simp)) h3 h8 h4
   (fin _ [a] rfl (λb hb=>by rw[List.mem_singleton.mp hb];exact⟨ea,HY,zO⟩))
 ·refine wpAny_leaving_nextW (base:=hideAll s.heap ([a,T]++aS ((env,m)::frs))) xx (xA _ _ (λp hp=>hp) λp hp=>Oo _ (OP _ (OE hp))) (hF _ (.head _)).2.1
   ⟨o,vs,T,oT,ts,h1,⟨rfl,h4⟩,h3,a1,Oo _ (by simp),a3,a4,a5,a6⟩ (λ_ _ e=>OW _ e) (Oo _ (by simp))
   (fin _ [a,T] rfl (λb hb=>by
    rcases OA hb with j1|hb<;>(first|(replace j1:=OK j1;subst j1)|skip)
    ·exact⟨ea,HY,zO⟩
    ·rw[List.mem_singleton.mp hb];exact⟨a2,a8,a7⟩))
 ·cases a6'
  have hfm:env.frame=some env.locals:=(hF _ (.head _)).2.1;unfold leaving noteFrame;simp only[hfm];refine J' (J' (Ov h1 h3 a1 ?_));rw[if_pos (show (Value.ref T !=Value.none)=true from by simp)];refine J' (Ov a4 a5 a6 ?_);rw[if_pos (show (rawInt env.locals==rawInt env.locals)=true from by simp)];refine OD ?_;unfold setFlight;refine J' (Ov h1 h3 a1 ?_);rw[if_pos (show (Value.ref T !=Value.none)=true from by simp)];have hsz:3<ts.size:=(Array.getElem?_eq_some_iff.mp a6).1;refine wpAny_setField a4 a5 hsz ?_;have other:∀b,b≠T->(s.heap.update T (Obj.mapFields (·.setIfInBounds 3 ((none:Option Addr).elim Value.none λf=>rawInt f)))).get? b=s.heap.get? b:=λb hb=>OZ _ _ (OS hb);have self:=Oq (Obj.mapFields (·.setIfInBounds 3 ((none:Option Addr).elim Value.none λf=>rawInt f))) a4 (Obj.isFreed_of_fields (OX a5 _));generalize hH:s.heap.update T (Obj.mapFields (·.setIfInBounds 3 ((none:Option Addr).elim Value.none λf=>rawInt f)))=H at other self ⊢;have BN:∀q∈TT,q.1≠T:=λq hq e=>a8 (e▸OE hq);have same:∀q∈TT,∀ps,H.get? q.1=some (tabObj ps)->s.heap.get? q.1=some (tabObj ps):=λq hq ps e=>by rw[other _ (BN q hq)] at e;exact e
  refine hQ H ⟨ea,λq hq=>?_,λq hq ps e=>zO q hq ps (same q hq ps e),o,vs,tp,t,ot,(other a (OS a3)).trans h1,h2,h3,h4,(other tp λz=>?_).trans h5,h6,h7,
   .inr ⟨T,_,_,a1,a2,a3,self,OX a5 _,.inl (by simp[hsz]),λq hq ps e=>a7 q hq ps (same q hq ps e),a8⟩⟩ (λb o' dG e0 eb=>?_)
  ·refine bl (hT q hq) λps e b1 b2=>?_
   refine⟨ps,(other _ (BN q hq)).trans e,b1,λpos cv f=>?_⟩;refine hO (b2 pos cv f) λc oc vc tc r1 r2 r3 r4=>?_;exact⟨c,oc,vc,tc,r1,(other c λz=>a7 q hq ps e pos cv f (z▸r1)).trans r2,r3,r4⟩
  ·rw[z,a4] at h5;cases h5;rw[a5] at h7;cases h7
  ·have:=(other b λz=>by rw[z,a2] at e0;cases e0).trans eb
   exact⟨λ_=>this,λ_=>⟨o'.slots,this⟩⟩
noncomputable def Run(w:World)(A:Around)(env:Env):List (List Stmt)->(Flow->Shared->Prop)->(Value->Shared->Prop)->Shared->Prop
 | [],Q,_,s=>Q .next s
 |b::bs,Q,E,s=>wpAny (model pw w) A (execs b env) (λfl s'=>match fl with| .next=>Run w A env bs Q E s'|f=>Q f s') E s
section
variable{Q:Flow->Shared->Prop}{st:Stmt}
theorem Run.cons(h:wpAny (model pw w) A (exec st env) (λfl s'=>match fl with| .next=>Run w A env (rest::bs) Q E s'|f=>Q f s') E s):Run w A env ((st::rest)::bs) Q E s:=by refine OT (Oj h (λfl s' x=>?_) λ_ _ x=>x);cases fl<;>exact x
theorem Run.nil(h:Run w A env bs Q E s):Run w A env ([]::bs) Q E s:=PD h
theorem Run.one{b:List Stmt}(h:Run w A env [b] Q E s):wpAny (model pw w) A (execs b env) Q E s:=
 Oj h (λfl s' x=>by cases fl<;>exact x) λ_ _ x=>x
end
structure Own(env:Env)(fo:Frs)(cs cso ex:List Addr):Prop where
 L:env.locals∈ex
 Lf:env.locals∉aS fo
 c:∀c∈cs,c∈ex/\c∉cso
def xB(n:Nat)(w:World)(A:Around)(frs:Frs)(cs:List Addr)(h:Heap)(t:Sem α)(P:α->Heap->Prop)(x:Option Str):Prop:=
 ∀(s:Shared)(hb:Heap)(Q:α->Shared->Prop)(E:Value->Shared->Prop),n<=s.toks->h.StaysIn hb->On frs cs hb s.heap->
  (∀v s' eJ,hb.StaysIn eJ->On frs cs eJ s'.heap->Go [] (aS frs) s s'->P v eJ->Q v s')->
  (∀ws a s',x=some ws->Go [] (aS frs) s s'->Err ws a s.heap s'.heap->E (.ref a) s')->wpAny (model pw w) A t Q E s
theorem Gm.toT{t:Sem α}{P:α->Heap->Prop}(H:Gm w A frs cs h t P x):xB n w A frs cs h t P x:=λs hb Q E _=>H s hb Q E
theorem xB.of{t:Sem α}{P:α->Heap->Prop}(H:∀h',h.StaysIn h'->lj frs h'->∀(s:Shared)(Q:α->Shared->Prop)(E:Value->Shared->Prop),n<=s.toks->h'.StaysIn s.heap->
   (∀v f5 tk,s.heap.StaysIn f5->P v f5->Q v (bp s f5 tk))->wpAny (model pw w) A t Q E s)(hP:cT P):xB n w A frs cs h t P x:=
 λs hb Q E tz hs O hq he=>H s.heap (ai hs O.stays) (λp hp=>(O.frames p hp).2.2.2) s Q E tz (ak _) λv f5 tk k p=>by have O':=O.keep k;exact hq v _ _ O'.wide O'.top (.of k) (hP v _ _ (λb hb=>O'.fv hb) p)
noncomputable abbrev fU(n:Nat)(w:World)(A:Around)(frs:Frs)(cs:List Addr)(h:Heap)(env:Env)(e:Expr):=xB n w A frs cs h (eval e env)
def aP(n:Nat)(w:World)(A:Around)(env:Env)(fo:Frs)(cs cso ex:List Addr)(g:Heap)(m:Str->Option Value)(body:List (List Stmt))(R:Value->Heap->Prop)(x:Option Str):Prop:=
 ∀(s:Shared)(gb:Heap)(Q:Value->Shared->Prop)(E:Value->Shared->Prop),Own env fo cs cso ex->n<=s.toks->g.StaysIn gb->On ((env,m)::fo) (cs++cso) gb s.heap->
  (∀v s' g',gb.StaysIn g'->On fo cso g' s'.heap->Go ex (aS fo) s s'->R v g'->Q v s')->
  (∀ws a s' m',x=some ws->Go ex (aS fo) s s'->s'.heap.Ns env.locals m'->pN (some env.locals) ws a s.heap s'.heap->E (.ref a) s')->
  Run w A env body (λfl s'=>Q (oN fl) s') E s
theorem Go.body{ex:List Addr}(hL:env.locals∈ex)(g:Go [] (aS ((env,m)::fo)) s s'):Go ex (aS fo) s s':=
 ⟨g.bP.wide (λ_ h=>by cases h) (λb hb=>by
  constructor
  ·intro h
   rcases OA h with j1|h<;>(first|(replace j1:=OK j1;subst j1)|skip)
   ·exact absurd hL hb
   ·exact h
  ·exact λh=>.tail _ h),g.gens,g.drawn,g.os⟩
theorem On.inner(O:On ((env,m)::fo) (cs++cso) hb h):On fo cso hb h:=O.sub (λp hp=>.tail _ hp) (λc hc=>OP _ hc)
section
variable{ex:List Addr}{y:Str}{body:List Stmt}{R:Value->Heap->Prop}{P:Value->Heap->Prop}{b:Bool}
theorem aP.hold(H:let m':=m;aP n w A env fo cs cso ex g m' bs R x):aP n w A env fo cs cso ex g m bs R x:=H
theorem aP.oQ(H:let e:=env;let a:=A.deeper e;let r:=R;let m':=m;aP n w a e fo cs cso ex g m' bs r x):aP n w (A.deeper env) env fo cs cso ex g m bs R x:=H
theorem aP.up{g':Heap}(k:g.StaysIn g')(H:aP n w A env fo cs cso ex g m bs R x):aP n w A env fo cs cso ex g' m bs R x:=λs gb Q E W tz hs=>H s gb Q E W tz (ai k hs)
theorem aP.H6(He:fU n w A ((env,m)::fo) (cs++cso) g env e P x)(hR:∀v h',g.StaysIn h'->P v h'->R v h'):aP n w A env fo cs cso ex g m ((.Return (some e) pos::rest)::bs) R x:=λs gb Q E W tz hs O hq he=>
 Run.cons (O3 (He s gb _ _ tz hs O (λv s' eJ k O' go p=>hq v s' eJ k O'.inner (go.body W.L) (hR v eJ (ai hs k) p))
  (λws a s' ex go X=>he ws a s' m ex (go.body W.L) (go.bP.ns (O.tabs.ns (O.frames _ (.head _)).2.2.2) (O.frames _ (.head _)).2.2.2) X.weak)))
theorem aP.ret(He:aF w A ((env,m)::fo) (cs++cso) g env e P x)(hR:∀v h',g.StaysIn h'->P v h'->R v h'):aP n w A env fo cs cso ex g m ((.Return (some e) pos::rest)::bs) R x:=aP.H6 He.toT hR
theorem aP.lift(H:aP 0 w A env fo cs cso ex g m bs R x):aP n w A env fo cs cso ex g m bs R x:=λs gb Q E W tz=>H s gb Q E W (PF _)
theorem aP.nil(H:aP n w A env fo cs cso ex g m bs R x):aP n w A env fo cs cso ex g m ([]::bs) R x:=λs gb Q E W tz hs O hq he=>Run.nil (H s gb Q E W tz hs O hq he)
theorem aP.done(hR:∀h',g.StaysIn h'->R .none h'):aP n w A env fo cs cso ex g m [] R x:=λs gb Q E W tz hs O hq he=>hq _ _ _ (ak _) O.inner .refl (hR _ hs)
theorem aP.jN(He:fU n w A ((env,m)::fo) (cs++cso) g env e P x)(hk:∀v g',g.StaysIn g'->P v g'->aP 1 w A env fo cs cso ex g' (upd m y v) (rest::bs) R x)(hl:env.kindOf y=some .local)(hp:autoParam ((env.scope.kind == .class||(env.scope.kind == .module&&env.locals !=env.globals))=false) cH)(kn:autoParam (swapsWith e (some (.Name y p)) pos.line env=pure false) cH):aP n w A env fo cs cso ex g m ((.Assign [.Name y p] e pos::rest)::bs) R x:=λs gb Q E W tz hs O hq he=>by
 refine Run.cons (Ot (He s gb _ _ tz hs O (λv aB bJ PO aM PW ba=>?_) (λws a s' ex go X=>he ws a s' m ex (go.body W.L) (go.bP.ns (O.tabs.ns (O.frames _ (.head _)).2.2.2) (O.frames _ (.head _)).2.2.2) X.weak)) kn);refine OR hl (aM.frames _ (.head _)).2.2.2 (λh₂ cD aJ=>?_) hp;have cC:On ((env,upd m y v)::fo) (cs++cso) bJ h₂:=by
  refine⟨λb o e=>aJ.extBut b o (λq=>?_) (aM.stays b o e),λq hq=>?_,λc hc=>⟨(aM.cells c hc).1,?_⟩,aM.tabs.put (λb o n e=>aJ.extBut b o n e) (λo vs e d=>?_),aM.dT⟩
  ·rw[q,(aM.frames _ (.head _)).2.2.1] at e;cases e
  ·rcases OA hq with j1|hq<;>(first|(replace j1:=OK j1;subst j1)|skip)
   ·refine eP (aM.frames _ (.head _)) λa b c d=>?_
    exact⟨a,b,c,cD⟩
   ·refine eP (aM.frames q (.tail _ hq)) λa b c d=>?_
    refine aV d λo es ep ho r=>?_;clear d;exact⟨a,b,c,o,es,ep,aJ.extBut _ _ (λe=>W.Lf (e▸OE hq)) ho,r⟩
  ·refine ar ((aM.cells c hc).2) λo ho hd=>?_
   refine⟨o,aJ.extBut c o (λq=>?_) ho,hd⟩;refine bf ((aM.frames _ (.head _)).2.2.2) λo' es ep aW bL _=>?_;dsimp only at aW;rw[<-q,ho] at aW;cases aW;rw[hd] at bL;cases bL
  ·refine bf ((aM.frames _ (.head _)).2.2.2) λo' es ep aW bL _=>?_
   dsimp only at aW;rw[e] at aW;cases aW;rw[d] at bL;cases bL
 have PY:Go ex (aS fo) s (bp aB h₂ (aB.toks+1)):=(PW.body W.L).trans ⟨⟨λb o hb _ _ e=>aJ.extBut b o (λq=>hb (q▸W.L)) e,λb o hb _ _ e=>⟨o.slots,aJ.extBut b o (λq=>hb (q▸W.L)) e⟩,
  λb o ht e=>⟨o,aJ.extBut b o (λq=>aM.tabs.ns (aM.frames _ (.head _)).2.2.2 (q▸ht)) e⟩⟩,λh=>h,rfl,rfl⟩
 refine hk v bJ (ai hs PO) ba _ bJ Q E W (Nat.le_add_left 1 _) (ak _) cC (λv s' g' k O' go r=>hq v s' g' (ai PO k) O' (PY.trans go) r) (λws a s' m' ex go n X=>he ws a s' m' ex (PY.trans go) n (X.back ?_));intro b o e;refine aR (PW.bP.cE b o e) λo' xC=>?_;by_cases q:b=env.locals
 ·refine aV cD λo' _ _ aW _=>?_;clear cD
  exact⟨o',q▸aW⟩
 ·exact⟨_,aJ.extBut b _ q xC⟩
theorem aP.assign(He:aF w A ((env,m)::fo) (cs++cso) g env e P x)(hk:∀v g',g.StaysIn g'->P v g'->aP 1 w A env fo cs cso ex g' (upd m y v) (rest::bs) R x)(hl:env.kindOf y=some .local)(hp:autoParam ((env.scope.kind == .class||(env.scope.kind == .module&&env.locals !=env.globals))=false) cH)(kn:autoParam (swapsWith e (some (.Name y p)) pos.line env=pure false) cH):aP n w A env fo cs cso ex g m ((.Assign [.Name y p] e pos::rest)::bs) R x:=aP.jN He.toT hk hl hp kn
theorem aP.dU{c:Addr}(He:aF w A ((env,m)::fo) (cs++cso) g env e P x)(fm:cU P)(hk:∀v g',g.StaysIn g'->P v g'->g'.IsCell c (some v)->aP n w A env fo cs' cso ex g' m (rest::bs) R x)(bK:env.scope.kind = .function)(hl:env.kindOf y=some .cell)(hc:env.cells.lookup y=some c)(hm:c∈cs)(gJ:∀b∈cs',b∈cs/\b≠c)(kn:autoParam (swapsWith e (some (.Name y p)) pos.line env=pure false) cH):aP n w A env fo cs cso ex g m ((.Assign [.Name y p] e pos::rest)::bs) R x:=λs gb Q E W tz hs O hq he=>by
 refine Run.cons (PJ tz (Ot (He s gb _ _ hs O (λv aB bJ PO aM PW ba=>?_) (λws a s' ex go X _=>he ws a s' m ex (go.body W.L) (go.bP.ns (O.tabs.ns (O.frames _ (.head _)).2.2.2) (O.frames _ (.head _)).2.2.2) X.weak)) kn));refine wpAny_storeName_cell bK hl hc (aM.cells c (OJ _ hm)).2 (λh₂ fF aJ jO=>?_);have ne:∀{L:Addr}{n:Str->Option Value},aB.heap.Ns L n->L≠c:=λhn q=>by refine ar ((aM.cells c (OJ _ hm)).2) λo ho hd=>?_;refine bf hn λo' es ep aW bL _=>?_;clear hn;rw[q,ho] at aW;cases aW;rw[hd] at bL;cases bL
 have kc:bJ.StaysIn h₂:=λb o e=>aJ.extBut b o (λq=>by rw[q,(aM.cells c (List.mem_append_left _ hm)).1] at e;cases e) (aM.stays b o e);have cC:On ((env,m)::fo) (cs'++cso) bJ h₂:=by
  refine⟨kc,λq hq=>?_,λd hd=>?_,aM.tabs.put (λb o n e=>aJ.extBut b o n e) (λo vs e d=>?_),aM.dT⟩
  ·refine eP (aM.frames q hq) λa b d n=>?_
   have:=ne n;refine aV n λo es ep ho r=>?_;clear n;exact⟨a,b,d,o,es,ep,aJ.extBut _ _ this ho,r⟩
  ·have:d∈cs++cso/\d≠c:=by
    rcases OG hd with hd|hd
    ·exact⟨OJ _ (gJ d hd).1,(gJ d hd).2⟩
    ·exact⟨OP _ hd,λq=>(W.c c hm).2 (q▸hd)⟩
   refine cA (aM.cells d this.1) λn j2=>ar j2 λo ho bL=>?_;clear j2;exact⟨n,o,aJ.extBut _ _ this.2 ho,bL⟩
  ·refine ar ((aM.cells c (OJ _ hm)).2) λo' aW bL=>?_
   rw[e] at aW;cases aW;rw[d] at bL;cases bL
 have W':Own env fo cs' cso ex:=⟨W.L,W.Lf,λb hb=>W.c b (gJ b hb).1⟩;have aQ:(hideAll h₂ (fv ((env,m)::fo) (cs'++cso))).IsCell c (some v):=by
  refine ar fF λo ho hd=>?_;clear fF;refine⟨o,OO _ ho λbX=>?_,hd⟩;rcases OG bX with bX|bX
  ·rcases OG bX with bX|bX
   ·refine ar (OF bX) λq hq j1=>?_;subst j1
    exact ne (aM.frames q hq).2.2.2 rfl
   ·rcases OG bX with bX|bX
    ·exact (gJ c bX).2 rfl
    ·exact (W.c c hm).2 bX
  ·exact aM.tabs.cell (aM.cells c (OJ _ hm)).2 bX
 have PY:Go ex (aS fo) s (bp aB h₂ aB.toks):=(PW.body W.L).trans ⟨⟨λb o hb _ _ e=>aJ.extBut b o (λq=>hb (q▸(W.c c hm).1)) e,λb o hb _ _ e=>⟨o.slots,aJ.extBut b o (λq=>hb (q▸(W.c c hm).1)) e⟩,
  λb o ht e=>⟨o,aJ.extBut b o (λq=>aM.tabs.cell (aM.cells c (OJ _ hm)).2 (q▸ht)) e⟩⟩,λh=>h,rfl,rfl⟩
 refine hk v _ (ai hs (ai PO cC.wide)) (fm _ _ _ cC.wide ba) aQ _ _ Q E W' jO (ak _) cC.top (λv s' g' k O' go r=>hq v s' g' (ai PO (ai cC.wide k)) O' (PY.trans go) r) (λws a s' m' ex go n X=>he ws a s' m' ex (PY.trans go) n (X.back ?_));intro b o e;refine aR (PW.bP.cE b o e) λo' xC=>?_;by_cases q:b=c
 ·refine ar fF λo' aW _=>?_;clear fF
  exact⟨o',q▸aW⟩
 ·exact⟨_,aJ.extBut b _ q xC⟩
theorem aP.ite(Ht:Gm w A ((env,m)::fo) (cs++cso) g (isTrue test env (eval test env)) (λc _=>c=b) x)(hk:∀g',g.StaysIn g'->aP n w A env fo cs cso ex g' m ((if b then body else orelse)::rest::bs) R x):aP n w A env fo cs cso ex g m ((.If test body orelse pos::rest)::bs) R x:=λs gb Q E W tz hs O hq he=>by
 refine Run.cons (wpAny_If (PJ tz (Ht s gb _ _ hs O (λc aB bJ PO aM PW ba jO=>?_) (λws a s' ex go X _=>he ws a s' m ex (go.body W.L) (go.bP.ns (O.tabs.ns (O.frames _ (.head _)).2.2.2) (O.frames _ (.head _)).2.2.2) X.weak))));subst ba;have:=hk bJ (ai hs PO) _ bJ Q E W jO (ak _) aM (λv s' g' k O' go r=>hq v s' g' (ai PO k) O' ((PW.body W.L).trans go) r) (λws a s' m' ex go n X=>he ws a s' m' ex ((PW.body W.L).trans go) n (X.back PW.bP.cE));cases c<;>exact this
end
section
variable{R:Value->Heap->Prop}{body:List Stmt}{doc:Value}{fo:Obj}{f:Addr}
theorem df.def(G:Gl w h)(hA:A.frames=some (frs.map (·.1)))(ho:(Mine.K w.params).lookup f=some fo)(hd:fo.data = .func (fnX name qual params body scope [] dV kV doc pm an fk ct))(qC:codeIn (Mine.K w.params) fk qual=true)(eH:A.depth<recursionLimit)(f7:∀s:Shared,h.StaysIn s.heap->BindsTo s (fnX name qual params body scope [] dV kV doc pm an fk ct) ⟨vs,kw⟩ binds)(bK:(binds.all λy=>scope.names.lookup y.1==some .local||scope.names.lookup y.1==some .cell)=true)(DE:((cellsFrom 0 scope.names []).map (·.1)).Nodup)(hB:∀L g,h.StaysIn g->
   (∀n c v,(n,c)∈cellsFrom (L+1) scope.names []->bindC (envOfC qual scope L f fk).kindOf binds (λ_=>none) n=some v->g.IsCell c (some v))->
   aP 0 w (A.deeper (envOfC qual scope L f fk)) (envOfC qual scope L f fk) frs
    (((cellsFrom (L+1) scope.names []).filter λp=>(bindC (envOfC qual scope L f fk).kindOf binds (λ_=>none) p.1).isNone).map (·.2)) cso
    (L::(cellsFrom (L+1) scope.names []).map (·.2)) g (bindL (envOfC qual scope L f fk).kindOf binds λ_=>none) [body] R x)(qD:autoParam (scope.isCoroutine=false) cH)(iW:autoParam (scope.isGenerator=false) cH)(hk:autoParam (scope.kind = .function) cH):
  df w A frs cso h (.ref f) vs kw R x:=λs hb Q E hs O hq he=>by
 have G':=G.mono (ai hs O.stays);refine wpAny_call (kY G'.nolimit (G'.K _ _ ho) hd (codeRec_of G'.K qC) eH (f7 s (ai hs O.stays)) (kindsX bK) DE (λh₁ tk cells F N Y=>?_) qD iW hk);have look:=gR Y N;have hL:s.heap.get? s.heap.objs.size=none:=OL (OM _);have hB:=hB s.heap.objs.size;generalize hcm:(bindC (envOfC qual scope s.heap.objs.size f fk).kindOf binds λ_=>none)=cm at look Y hB;generalize zM:((cellsFrom (s.heap.objs.size+1) scope.names []).filter λp=>(cm p.1).isNone).map (·.2)=un at hB;generalize hex:s.heap.objs.size::(cellsFrom (s.heap.objs.size+1) scope.names []).map (·.2)=ex at hB;generalize jl:(bindL (envOfC qual scope s.heap.objs.size f fk).kindOf binds λ_=>none)=bm at F hB;have BO:∀b∈ex,s.heap.get? b=none:=λb hb=>by
  subst hex;rcases OA hb with jc|hb<;>(first|(replace jc:=OK jc;subst jc)|skip)
  ·exact hL
  ·refine ar (OF hb) λeR hm iY=>?_;subst iY;rcases eR with⟨n,c⟩
   exact (look n c hm).2.1
 have qO:∀c∈un,h₁.IsCell c none/\s.heap.get? c=none/\c∈ex:=λc hc=>by subst zM;refine ar (OF hc) λeS hm ib=>?_;subst ib;rcases eS with⟨n,c'⟩;refine cA (List.mem_filter.mp hm) λhm hn=>?_;have:=look n c' hm;rw[Option.isNone_iff_eq_none.mp hn] at this;exact⟨this.1,this.2.1,hex▸List.mem_cons_of_mem _ (OE hm)⟩
 have W:Own (envOfC qual scope s.heap.objs.size f fk) frs un cso ex:=by
  refine⟨hex▸.head _,λhm=>?_,λc hc=>⟨(qO c hc).2.2,λhm=>?_⟩⟩
  ·refine ar (OF hm) λp hp e=>?_
   refine aV ((O.frames p hp).2.2.2) λo _ _ ho _=>?_;rw[e] at ho;have:s.heap.get? s.heap.objs.size=some o:=ho;rw[hL] at this;cases this
  ·refine ar ((O.cells c hm).2) λo ho _=>?_
   rw[(qO c hc).2.1] at ho;cases ho
 have aM:On ((envOfC qual scope s.heap.objs.size f fk,bm)::frs) (un++cso) hb h₁:=by
  have new:∀b,s.heap.get? b=none->hb.get? b=none:=λb e=>by
   cases q:hb.get? b with
   |none=>rfl
   |some o=>rw[O.stays b o q] at e;cases e
  refine⟨ai O.stays F.keep,λp hp=>?_,λc hc=>?_,O.tabs.keeps F.keep,O.dT⟩
  ·rcases OA hp with j9|hp<;>(first|(replace j9:=OK j9;subst j9)|skip)
   ·exact⟨by show scope.kind≠_;rw[hk];decide,rfl,new _ hL,F.ns⟩
   ·refine eP (O.frames p hp) λa b c d=>?_
    exact⟨a,b,c,d.keeps F.keep⟩
  ·rcases OG hc with hc|hc
   ·exact⟨new c (qO c hc).2.1,(qO c hc).1⟩
   ·exact⟨(O.cells c hc).1,aq F.keep (O.cells c hc).2⟩
 have B:=hB _ (ai hs aM.wide) (λn c v hm hv=>?_)
 ·have qX:∀s',Go ex (aS frs) (bp s h₁ tk) s'->Go [] (aS frs) s s':=λs' g=>
   ⟨⟨λb o _ hb ht e=>g.bP.off b o (λhm=>by rw[BO b hm] at e;cases e) hb ht (F.keep b o e),λb o _ hb ht e=>g.bP.on b o (λhm=>by rw[BO b hm] at e;cases e) hb ht (F.keep b o e),λb o ht e=>g.bP.tb b o ht (F.keep b o e)⟩,g.gens,g.drawn,g.os⟩
  refine Oj (Run.one (B (bp s h₁ tk) _ Q _ W (PF _) (ak _) aM.top (λv s' g' k O' go r=>?_) (λws a s' m' hx go hn X=>?_))) (λfl s' x=>?_) λ_ _ x=>x
  ·exact hq v s' g' (ai aM.wide k) O' (qX s' go) r
  ·have go':=qX s' go
   have O':On frs cso hb s'.heap:=O.jb go'.bP X.2.1;refine ll (h₀:=s.heap) (frs:=frs) (m:=m') (a:=a) (ws:=ws) (by show A.frames.map _=_;rw[hA];rfl) (λp hp=>?_) (X.back λb o e=>⟨o,F.keep b o e⟩) go'.bP.cE (λf5 X' iX=>?_)
   ·rcases OA hp with j8|hp<;>(first|(replace j8:=OK j8;subst j8)|skip)
    ·exact⟨by show scope.kind≠_;rw[hk];decide,rfl,hn⟩
    ·refine eP (O'.frames p hp) λa b c d=>?_
     exact⟨a,b,d⟩
   ·refine he ws a _ hx ⟨⟨λb o _ hb ht e=>?_,λb o _ hb ht e=>?_,λb o ht e=>(by refine aR (X'.2.1.tab ht) λps e'=>⟨_,e'⟩)⟩,go'.gens,go'.drawn,go'.os⟩ X'
    ·refine (iX b o o e (go'.bP.off b o (by simp) hb ht e)).1 λhm=>?_
     rcases OA hm with j7|hm<;>(first|(replace j7:=OK j7;subst j7)|skip)
     ·have:s.heap.get? s.heap.objs.size=some o:=e
      rw[hL] at this;cases this
     ·exact hb hm
    ·refine aR (go'.bP.on b o (by simp) hb ht e) λsl wX=>?_
     refine aR ((iX b _ o e wX).2 (.tail _ hb)) λBM h2=>?_;exact⟨BM,h2⟩
  ·cases fl<;>exact x
 ·have:=look n c hm
  rw[hv] at this;refine du this λj6 hf i7=>ar j6 λo aW bL=>?_;clear this j6;refine⟨o,OO _ aW λiI=>?_,bL⟩;rcases aM.fv iI with j2|j3|j4<;>(first|(refine nU j2 λn o' es ep j5=>du j5 λet eK _=>?_;clear j2 j5)| (refine ar j3 λo' et eK=>?_;clear j3)| (refine aR j4 λps et=>?_;clear j4))
  ·rw[aW] at et;cases et;rw[bL] at eK;cases eK
  ·rw[aW] at et;cases et;rw[bL] at eK;cases eK
  ·rw[aW] at et;cases et;cases bL
end
section
variable{l a b c:Expr}{y:Str}{P R:Value->Heap->Prop}{PK:List Value->Heap->Prop}
theorem cw.nil:Gm w A frs cs h (spliced (backTo pos (starEach [] env))) (λvs _=>vs=[]) x:=
 Gm.of (λh' k _ s Q E hs hq=>spliced_nil (hq [] s.heap s.toks (ak _) rfl)) aj
theorem cw.cons(He:aF w A frs cs h env e P₁ x)(fm:cU P₁)(Hr:Gm w A frs cs h (spliced (backTo pos (starEach es env))) PL x)(bE:autoParam (starEach (e::es) env=(false,eval e env)::starEach es env) cH):
  Gm w A frs cs h (spliced (backTo pos (starEach (e::es) env))) (λvs h'=>∃v r,vs=v::r/\P₁ v h'/\PL r h') x:=λs hb Q E hs O hq he=>by
 rw[bE];show wpAny _ _ (spliced ((false,eval e env)::backTo pos (starEach es env))) _ _ _;refine PC (He s hb _ _ hs O (λv aB h₁ PO aM bJ ba=>Hr aB h₁ _ _ (ai hs PO) aM (λvs bN h₂ PQ cC eC cF=>?_) (λws a s' e g X=>he ws a s' e (bJ.trans g) (X.back bJ.bP.cE))) he);exact hq _ bN h₂ (ai PO PQ) cC (bJ.trans eC) ⟨v,vs,rfl,fm _ _ _ PQ ba,cF⟩
theorem cw.one(He:aF w A frs cs h env e P₁ x)(fm:cU P₁)(bE:autoParam (starEach [e] env=[(false,eval e env)]) cH):
  Gm w A frs cs h (spliced (backTo pos (starEach [e] env))) (λvs h'=>∃v,vs=[v]/\P₁ v h') x:=
 Gm.mono (cw.cons (pos:=pos) He fm cw.nil bE) λvs h' _ p=>by refine aG p λv r e1 e2 e3=>⟨v,by rw[e1,e3],e2⟩
theorem aF.fA(Hf:aF w A frs cs h env e (λu _=>u=f) x)(kp:Kp w h f)(Ha:Gm w A frs cs h (spliced (backTo pos (starEach es env))) PL x)(ji:(backTo pos (starEach es env)).any (·.1)=false)(hc:∀vs h₁,h.StaysIn h₁->PL vs h₁->df w A frs cs h₁ f vs [] R x)(jC:eval (.Call e es [] pos) env=(do let g <-eval e env;callWith pos g [] (backTo pos (starEach es env)) (backToKw pos (keywordEach [] env))))(xc:∀{Q:Args->Shared->Prop}{E:Value->Shared->Prop}{s:Shared},wpAny (model pw w) A (spliced (backTo pos (starEach es env))) (λvs s'=>Q ⟨vs,[]⟩ s') E s->wpAny (model pw w) A (evalArgs f true (backTo pos (starEach es env)) []) Q E s):
  aF w A frs cs h env (.Call e es [] pos) R x:=λs hb Q E hs O hq he=>by
 rw[jC];refine J' (Hf s hb _ _ hs O (λv aB h₁ PO aM bJ bB=>?_) he);subst bB;refine callWith_of (P:=λh'=>h.StaysIn h') (by rw[ji];rfl) (λh' k=>(kp.up k)) (xc (Ha aB h₁ _ _ (ai hs PO) aM (λvs bN h₂ PQ cC eC cF=>⟨ai hs (ai PO (ai PQ cC.stays)),?_⟩) (λws a s' e g X=>he ws a s' e (bJ.trans g) (X.back bJ.bP.cE))));have g:=bJ.trans eC;exact hc vs h₂ (ai hs (ai PO PQ)) cF bN h₂ Q E (ak _) cC (λv cq h₃ PS ic mD gz=>hq v cq h₃ (ai PO (ai PQ PS)) ic (g.trans mD) gz) (λws a s' e g' X=>he ws a s' e (g.trans g') (X.back g.bP.cE))
theorem aF.xD(Hf:aF w A frs cs h env (.Name y p) (λu _=>u=f) x)(kp:Kp w h f)(hc:∀h₁,h.StaysIn h₁->df w A frs cs h₁ f [] [] R x):aF w A frs cs h env (.Call (.Name y p) [] [] pos) R x:=
 aF.fA Hf kp cw.nil rfl (λvs h₁ k e=>e▸hc h₁ k) rfl (λh=>by show wpAny _ _ (evalArgs f true [] []) _ _ _;have h':wpAny _ _ (spliced []) _ _ _:=h;unfold evalArgs;show wpAny _ _ (spliced [] >>= _) _ _ _;refine J' (Oj h' (λvs s x=>?_) λ_ _ x=>x);refine Ol ?_;exact J' (OD (J' (OD (OD x)))))
theorem aF.bz(Hf:aF w A frs cs h env (.Name y p) (λu _=>u=f) x)(kp:Kp w h f)(Ha:aF w A frs cs h env a P₁ x)(fm:cU P₁)(hc:∀v h₁,h.StaysIn h₁->P₁ v h₁->df w A frs cs h₁ f [v] [] R x)(bE:autoParam (starEach [a] env=[(false,eval a env)]) cH):
  aF w A frs cs h env (.Call (.Name y p) [a] [] pos) R x:=
 aF.fA Hf kp (cw.one Ha fm bE) (by rw[bE];rfl) (λvs h₁ k q=>by refine ar q ?_;clear q;intro v j1 q;subst j1;exact hc v h₁ k q) rfl (λh=>by rw[bE] at h ⊢;exact PH h)
theorem aF.call2(Hf:aF w A frs cs h env (.Name y p) (λu _=>u=f) x)(kp:Kp w h f)(Ha:aF w A frs cs h env a P₁ x)(fm:cU P₁)(Hb:aF w A frs cs h env b P₂ x)(jD:cU P₂)(hc:∀v u h₁,h.StaysIn h₁->P₁ v h₁->P₂ u h₁->df w A frs cs h₁ f [v,u] [] R x)(bE:autoParam (starEach [a,b] env=[(false,eval a env),(false,eval b env)]) cH)(cQ:autoParam (starEach [b] env=[(false,eval b env)]) cH):
  aF w A frs cs h env (.Call (.Name y p) [a,b] [] pos) R x:=
 aF.fA Hf kp (cw.cons Ha fm (cw.one Hb jD cQ) (by rw[bE,cQ])) (by rw[bE];rfl) (λvs h₁ k q=>by refine aG q ?_;clear q;intro v _ j1 q j2;refine ar j2 λu j3 q'=>?_;clear j2;subst j3;subst j1;exact hc v u h₁ k q q') rfl (λh=>by rw[bE] at h ⊢;exact PH h)
theorem aF.uv(Hf:aF w A frs cs h env (.Name y p) (λu _=>u=f) x)(kp:Kp w h f)(Ha:aF w A frs cs h env a P₁ x)(fm:cU P₁)(Hb:aF w A frs cs h env b P₂ x)(jD:cU P₂)(Hc:aF w A frs cs h env c P₃ x)(qM:cU P₃)(hc:∀v u z h₁,h.StaysIn h₁->P₁ v h₁->P₂ u h₁->P₃ z h₁->df w A frs cs h₁ f [v,u,z] [] R x)(bE:autoParam (starEach [a,b,c] env=[(false,eval a env),(false,eval b env),(false,eval c env)]) cH)(cQ:autoParam (starEach [b,c] env=[(false,eval b env),(false,eval c env)]) cH)(fB:autoParam (starEach [c] env=[(false,eval c env)]) cH):
  aF w A frs cs h env (.Call (.Name y p) [a,b,c] [] pos) R x:=
 aF.fA Hf kp (cw.cons Ha fm (cw.cons Hb jD (cw.one Hc qM fB) (by rw[cQ,fB])) (by rw[bE,cQ])) (by rw[bE];rfl) (λvs h₁ k q=>by refine aG q ?_;clear q;intro v _ j1 q j2;refine aG j2 λu _ j3 q' j4=>ar j4 λz j5 HK=>?_;clear j2 j4;subst j5;subst j3;subst j1;exact hc v u z h₁ k q q' HK) rfl (λh=>by rw[bE] at h ⊢;exact PH h)
noncomputable abbrev di(w:World)(A:Around)(frs:Frs)(cs:List Addr)(h:Heap)(env:Env)(pos:Pos)(qY:List Keyword):=Gm w A frs cs h (evalAll ((backToKw pos (keywordEach qY env)).map (·.2)))
theorem di.nil:di w A frs cs h env pos [] (λvs _=>vs=[]) x:=Gm.of (λh' k _ s Q E hs hq=>kwAll_nil (hq [] s.heap s.toks (ak _) rfl)) aj
theorem di.cons{n:Str}{rest:List Keyword}(He:aF w A frs cs h env e P₁ x)(fm:cU P₁)(Hr:di w A frs cs h env pos rest PK x):
  di w A frs cs h env pos (⟨some n,e,p⟩::rest) (λvs h'=>∃v r,vs=v::r/\P₁ v h'/\PK r h') x:=λs hb Q E hs O hq he=>
 kwAll_cons (He s hb _ _ hs O (λv aB h₁ PO aM bJ ba=>Hr aB h₁ _ _ (ai hs PO) aM (λvs bN h₂ PQ cC eC cF=>hq _ bN h₂ (ai PO PQ) cC (bJ.trans eC) ⟨v,vs,rfl,fm _ _ _ PQ ba,cF⟩)
  (λws a s' e g X=>he ws a s' e (bJ.trans g) (X.back bJ.bP.cE))) he)
theorem aF.eu{qY:List Keyword}(Hf:aF w A frs cs h env e (λu _=>u=f) x)(kp:Kp w h f)(Ha:Gm w A frs cs h (spliced (backTo pos (starEach (a::es) env))) PL x)(Hk:∀h₁,h.StaysIn h₁->di w A frs cs h₁ env pos qY PK x)(fm:∀vs h₁ h₂,h₁.StaysIn h₂->PL vs h₁->PL vs h₂)(hc:∀vs ks h₁,h.StaysIn h₁->PL vs h₁->PK ks h₁->df w A frs cs h₁ f vs (nms.zip ks) R x)(hn:autoParam ((backToKw pos (keywordEach qY env)).filterMap (·.1)=nms) cH)(ji:autoParam (((backTo pos (starEach (a::es) env)).any (·.1)||(backToKw pos (keywordEach qY env)).any (·.1.isNone))=false) cH)(xE:autoParam ((backToKw pos (keywordEach qY env)).all (·.1.isSome)=true) cH)(bE:autoParam (starEach (a::es) env=(false,eval a env)::starEach es env) cH)(jC:autoParam (eval (.Call e (a::es) qY pos) env=(do let g <-eval e env;callWith pos g [] (backTo pos (starEach (a::es) env)) (backToKw pos (keywordEach qY env)))) cH):
  aF w A frs cs h env (.Call e (a::es) qY pos) R x:=λs hb Q E hs O hq he=>by
 rw[jC];refine J' (Hf s hb _ _ hs O (λv aB h₁ PO aM bJ bB=>?_) he);subst bB;refine callWith_of (P:=λh'=>h.StaysIn h') ji (λh' k=>(kp.up k)) (evalArgs_kw2 xE (Ha aB h₁ _ _ (ai hs PO) aM (λvs bN h₂ PQ cC eC cF=>?_) (λws a s' e g X=>he ws a s' e (bJ.trans g) (X.back bJ.bP.cE))) bE);have g:=bJ.trans eC;refine Hk h₂ (ai hs (ai PO PQ)) bN h₂ _ _ (ak _) cC (λks cq h₃ PS ic mD gz=>⟨ai hs (ai PO (ai PQ (ai PS ic.stays))),?_⟩) (λws a s' e g' X=>he ws a s' e (g.trans g') (X.back g.bP.cE));have g':=g.trans mD;rw[hn];exact hc vs ks h₃ (ai hs (ai PO (ai PQ PS))) (fm _ _ _ PS cF) gz cq h₃ Q E (ak _) ic (λv jE h₄ PT pO xF pF=>hq v jE h₄ (ai PO (ai PQ (ai PS PT))) pO (g'.trans xF) pF) (λws a s' e g'' X=>he ws a s' e (g'.trans g'') (X.back g'.bP.cE))
theorem aF.xG{qY:List Keyword}(Hf:aF w A frs cs h env e (λu _=>u=f) x)(kp:Kp w h f)(Hk:∀h₁,h.StaysIn h₁->di w A frs cs h₁ env pos qY PK x)(hc:∀ks h₁,h.StaysIn h₁->PK ks h₁->df w A frs cs h₁ f [] (nms.zip ks) R x)(hn:autoParam ((backToKw pos (keywordEach qY env)).filterMap (·.1)=nms) cH)(ji:autoParam (((backTo pos (starEach [] env)).any (·.1)||(backToKw pos (keywordEach qY env)).any (·.1.isNone))=false) cH)(xE:autoParam ((backToKw pos (keywordEach qY env)).all (·.1.isSome)=true) cH)(jC:autoParam (eval (.Call e [] qY pos) env=(do let g <-eval e env;callWith pos g [] (backTo pos (starEach [] env)) (backToKw pos (keywordEach qY env)))) cH):
  aF w A frs cs h env (.Call e [] qY pos) R x:=λs hb Q E hs O hq he=>by
 rw[jC];refine J' (Hf s hb _ _ hs O (λv aB h₁ PO aM bJ bB=>?_) he);subst bB;refine callWith_of (P:=λh'=>h.StaysIn h') ji (λh' k=>(kp.up k)) (evalArgs_kw2_nil xE ?_);refine Hk h₁ (ai hs PO) aB h₁ _ _ (ak _) aM (λks cq h₃ PS ic mD gz=>⟨ai hs (ai PO (ai PS ic.stays)),?_⟩) (λws a s' e g' X=>he ws a s' e (bJ.trans g') (X.back bJ.bP.cE));have g':=bJ.trans mD;rw[hn];exact hc ks h₃ (ai hs (ai PO PS)) gz cq h₃ Q E (ak _) ic (λv jE h₄ PT pO xF pF=>hq v jE h₄ (ai PO (ai PS PT)) pO (g'.trans xF) pF) (λws a s' e g'' X=>he ws a s' e (g'.trans g'') (X.back g'.bP.cE))
theorem aF.list(Ha:Gm w A frs cs h (spliced (backTo pos (starEach es env))) PL x)(fm:∀vs h₁ h₂,h₁.StaysIn h₂->PL vs h₁->PL vs h₂)(hz:∀vs h,PL vs h->vs.length<=100):
  aF w A frs cs h env (.List es pos) (λv h'=>∃D vs,v = .ref D/\h'.IsList D vs.toArray/\PL vs h') x:=λs hb Q E hs O hq he=>
 wpAny_List (Ha s hb _ _ hs O (λvs aB h₁ PO aM bJ ba=>⟨by rw[sizeLine_eq];exact OB (hz _ _ ba) (by decide),by have k:aB.heap.StaysIn (aB.heap.push {cls:=.type "list",data:=.seq vs.toArray}):=λb o e=>K' _ e;have cC:=aM.keep k;refine hq _ (bp aB (aB.heap.push {cls:=.type "list",data:=.seq vs.toArray}) aB.toks) _ (ai PO cC.wide) cC.top (bJ.trans ⟨.of_stays k,λh=>h,rfl,rfl⟩) ⟨aB.heap.objs.size,vs,rfl,?_,fm _ _ _ cC.wide ba⟩;exact cK (λb hb=>cC.fv hb) ⟨_,OC _ rfl,rfl,_,rfl⟩⟩) he)
theorem aF.bin{op:Operator}(Hl:aF w A frs cs h env l P₁ x)(fm:cU P₁)(Hr:aF w A frs cs h env r P₂ x)(zZ:∀u v h₁,h.StaysIn h₁->P₁ u h₁->P₂ v h₁->Gm w A frs cs h₁ (binaryOp op u v) R x):aF w A frs cs h env (.BinOp l op r pos) R x:=λs hb Q E hs O hq he=>
 wpAny_BinOp (Hl s hb _ _ hs O (λu aB h₁ PO aM bJ ba=>Hr aB h₁ _ _ (ai hs PO) aM (λv bN h₂ PQ cC eC cF=>
  zZ u v h₂ (ai hs (ai PO PQ)) (fm _ _ _ PQ ba) cF bN h₂ Q E (ak _) cC (λv cq h₃ PS ic mD gz=>hq v cq h₃ (ai PO (ai PQ PS)) ic ((bJ.trans eC).trans mD) gz)
   (λws a s' e g X=>he ws a s' e ((bJ.trans eC).trans g) (X.back (bJ.trans eC).bP.cE)))
  (λws a s' e g X=>he ws a s' e (bJ.trans g) (X.back bJ.bP.cE))) he)
theorem fU.bin{op:Operator}(Hl:aF w A frs cs h env l P₁ x)(fm:cU P₁)(Hr:aF w A frs cs h env r P₂ x)(zZ:∀u v h₁,h.StaysIn h₁->P₁ u h₁->P₂ v h₁->xB n w A frs cs h₁ (binaryOp op u v) R x):fU n w A frs cs h env (.BinOp l op r pos) R x:=λs hb Q E tz hs O hq he=>
 wpAny_BinOp (PJ tz (Hl s hb _ _ hs O (λu aB h₁ PO aM bJ ba H7=>PJ H7 (Hr aB h₁ _ _ (ai hs PO) aM (λv bN h₂ PQ cC eC cF jO=>
  zZ u v h₂ (ai hs (ai PO PQ)) (fm _ _ _ PQ ba) cF bN h₂ Q E jO (ak _) cC (λv cq h₃ PS ic mD gz=>hq v cq h₃ (ai PO (ai PQ PS)) ic ((bJ.trans eC).trans mD) gz)
   (λws a s' e g X=>he ws a s' e ((bJ.trans eC).trans g) (X.back (bJ.trans eC).bP.cE)))
  (λws a s' e g X _=>he ws a s' e (bJ.trans g) (X.back bJ.bP.cE)))) (λws a s' e g X _=>he ws a s' e g X)))
abbrev iN(b:Bool):Value->Heap->Prop:=λv _=>v = .bool b
theorem aF.and{rest:List Expr}(mE:aF w A frs cs h env e (iN b₁) x)(iZ:∀h₁,h.StaysIn h₁->b₁=true->aF w A frs cs h₁ env (.BoolOp .And (bR::rest) pos) (iN b₂) x):
  aF w A frs cs h env (.BoolOp .And (e::bR::rest) pos) (iN (b₁&&b₂)) x:=λs hb Q E hs O hq he=>
 BoolOp_and (mE s hb _ _ hs O (λv aB h₁ PO aM bJ ba=>by
  subst ba;refine Oi ?_;cases b₁ with
  |false=>exact hq _ aB h₁ PO aM bJ rfl
  |true=>exact iZ h₁ (ai hs PO) rfl aB h₁ Q E (ak _) aM (λv bN h₂ PQ cC eC cF=>hq v bN h₂ (ai PO PQ) cC (bJ.trans eC) (by rw[Bool.true_and];exact cF)) (λws a s' e g X=>he ws a s' e (bJ.trans g) (X.back bJ.bP.cE))) he)
theorem aF.and1(mE:aF w A frs cs h env e (iN b₁) x):aF w A frs cs h env (.BoolOp .And [e] pos) (iN b₁) x:=λs hb Q E hs O hq he=>BoolOp_one (mE s hb Q E hs O hq he)
noncomputable abbrev TG(w:World)(A:Around)(frs:Frs)(cs:List Addr)(h:Heap)(env:Env)(e:Expr)(b:Bool)(x:Option Str):=Gm w A frs cs h (isTrue e env (eval e env)) (λc _=>c=b) x
theorem TG.of{b:Bool}(H:∀h',h.StaysIn h'->lj frs h'->de w A h' env e b):TG w A frs cs h env e b x:=
 Gm.of (λh' k N s Q E hs hq=>H h' k N s (eval e env) Q E hs λf5 tk k=>hq b f5 tk k rfl) aj
theorem TG.not{b:Bool}(H:TG w A frs cs h env e b x):TG w A frs cs h env (.UnaryOp .Not e pos) (!b) x:=λs hb Q E hs O hq he=>
 isTrue_not (H s hb _ _ hs O (λv aB h₁ PO aM bJ ba=>hq _ aB h₁ PO aM bJ (by rw[ba])) he)
theorem TG.val{b:Bool}(H:aF w A frs cs h env e (iN b) x)(FW:∀whole,isTrue e env whole=(do let v <-whole;standAt e.pos;holding [v] (truthy v)):=by intro _;rfl):TG w A frs cs h env e b x:=λs hb Q E hs O hq he=>
 wpAny_isTrue_value (H s hb _ _ hs O (λv aB h₁ PO aM bJ ba=>by subst ba;exact Oi (hq _ aB h₁ PO aM bJ rfl)) he) (FW _)
end
theorem oo{b:Int}{c:Value}:∀(l:List Value),TriplesOk l->codeAmong pos (l++[rawInt a,rawInt b,c])=some cv->codeAmong pos l=some cv∨cv=c:=by
 intro l h e
 fun_induction TriplesOk l with
 |case1=>
  simp only[List.nil_append,rawInt,codeAmong] at e;split at e
  ·exact .inr (PA e).symm
  ·cases e
 |case2 a' t b' u x rest ih=>
  simp only[List.cons_append,codeAmong] at e ⊢;split at e
  ·rename_i hc;rw[if_pos hc];exact .inl e
  ·rename_i hc;rw[if_neg hc];exact ih h e
 |case3 l h1 h2=>exact h.elim
theorem jd{ps:Array Value}(h:TriplesOk ps.toList){q:Str}:ps[1]?≠some (.str q t):=λe=>by
 rw[<-Array.getElem?_toList] at e;revert e;generalize ps.toList=l at h
 fun_induction TriplesOk l with
 |case1=>simp
 |case2 a' t b' u x rest ih=>simp
 |case3 l h1 h2=>exact h.elim
theorem DW:∀q∈TT,∀r∈TT,q.1=r.1->q.2=r.2:=by decide
theorem cJ.grow{P c':Addr}{q:Str}{ps:Array Value}{b:Int}(T:cJ h)(hP:(P,q)∈TT)(hp:h.get? P=some (tabObj ps))(hx:Heap.ExtBut P h h')(hn:h'.get? P=some (tabObj (ps++#[rawInt a,rawInt b,.ref c'])))(hc:h'.CodeRec (.ref c') q):cJ h':=λr hr=>by
 refine bl (T r hr) λxm e t k=>?_;have tp:TriplesOk ps.toList:=by refine bl (T _ hP) λNG bR Me _=>?_;dsimp only at bR;rw[hp] at bR;cases bR;exact Me
 have xH:∀cv n,h.CodeRec cv n->h'.CodeRec cv n:=λcv n y=>by refine hO y λc o vs t e1 e2 e3 e4=>?_;clear y;exact⟨c,o,vs,t,e1,hx _ _ (λz=>by rw[z,hp] at e2;cases e2;cases e3;exact jd tp e4) e2,e3,e4⟩
 by_cases z:r.1=P
 ·rw[z,hp] at e;cases e
  have hq:r.2=q:=DW r hr _ hP z;refine⟨_,z▸hn,by rw[Array.toList_append];exact TriplesOk_snoc _ _ _ _ tp,λpos cv f=>?_⟩;rw[Array.toList_append] at f;rcases oo _ tp f with f|j1<;>(first|(replace j1:=OK j1;subst j1)|skip)
  ·exact xH _ _ (k pos cv f)
  ·rw[hq];exact hc
 ·exact⟨xm,hx _ _ z e,t,λpos cv f=>xH _ _ (k pos cv f)⟩
section
variable{c P:Addr}{q:Str}
theorem xI(hc:env.code = .ref c)(C:CodeHd s.heap c P)(T:cJ s.heap)(hP:(P,q)∈TT)(h:∀cv h' tk,Heap.ExtBut P s.heap h'->s.heap.objs.size<=h'.objs.size->cJ h'->Q cv (bp s h' tk)):wpAny (model pw w) A (genexprCode env pos q scope) Q E s:=by
 refine bl (T _ hP) λps e t k=>?_;cases f:codeAmong pos ps.toList with
 |some cv=>exact wpAny_genexprCode_hit hc (C.code e t) f (h cv s.heap s.toks (λ_ _ _ e=>e) (OM _) T)
 |none=>exact wpAny_genexprCodeX hc (C.code e t) (C.tab e) f λc' h' tk hx H9 cN _ Ad htb _=>h _ h' tk hx (OB H9 (PG cN)) (T.grow hP e hx htb.2 Ad)
end
theorem xJ{a:Addr}{g:Nat}{C:Addr}{fp:List Addr}{pz:Nat->Bool}{F:Nat->Value->Prop}(st:GenAt pw w A a g C fp wr pz n F j s)(hk:∀b∈a::C::fp,∀o,s.heap.get? b=some o->s'.heap.get? b=some o)(hcs:cStatics∈fp)(hg:s'.gens[g]?=s.gens[g]?):GenAt pw w A a g C fp wr pz n F j s':=by
 refine du st λj1 j2 j3=>ar j3 λgs hgs wZ=>aV j1 λo nm qn ho r=>ar j2 λmc sM hnn=>?_;clear st j3 j1 j2;exact⟨⟨o,nm,qn,hk a (.head _) o ho,r⟩,⟨mc,sM.at' λo e=>hk cStatics (.tail _ (.tail _ hcs)) o e,hnn⟩,gs,hg▸hgs,λeA hal=>wZ eA λb hb o e=>hal b hb o (hk b (.tail _ hb) o e)⟩
theorem qZ(n j:Nat):(passing (λ_=>true) n 0)[j]?=(List.range n)[j]?:=by unfold passing;rw[List.filter_eq_self.mpr (by simp),List.drop_zero]
theorem ra(n:Nat):(passing (λ_=>true) n 0).length=n:=by unfold passing;rw[List.filter_eq_self.mpr (by simp),List.drop_zero,List.length_range]
def mF(h:Heap)(b:Addr):Prop:=∀o vs q t,h.get? b=some o->o.data = .fields vs->vs[1]?≠some (.str q t)
def je(w:World)(A:Around)(hb h₀:Heap)(z:Nat)(s:Shared)(a:Addr)(n:Nat)(F:Nat->Value->Prop):Prop:=
 ∃g C I,∃fp:List Addr,∃St:Nat->Shared->Prop,WalksS pw w A.in1 a (a::C::fp) [C,I] (GenOnlyQ g) n F St/\St 0 s/\
  (∀j t t',St j t->(∀b∈a::C::fp,∀o,t.heap.get? b=some o->t'.heap.get? b=some o)->t'.gens[g]?=t.gens[g]?->St j t')/\
  h₀.get? a=none/\h₀.get? C=none/\h₀.get? I=none/\(∀b∈[a,C,I],∃o,s.heap.get? b=some o)/\mF s.heap C/\mF s.heap I/\(∀b∈fp,b=I∨∃o,hb.get? b=some o)/\z<=g/\g<s.gens.size
section
variable{c P:Addr}{x:Str}{cl:List (Str×Addr)}{kl:List Addr}
theorem xK(F:Value->Value->Prop)(hh:A.handled=none)(G:Gl w hb)(O:On frs cs hb s.heap)(lp:env.code = .ref c)(C:CodeHd hb c P)(hP:(P,env.qual++"<genexpr>")∈TT)(eH:A.depth<recursionLimit)(hit:∀h',hb.StaysIn h'->lj frs h'->om w A h' env iter (.ref l))(hl:hb.IsList l vs.toArray)(hkl:∀b∈kl,∃o,hb.get? b=some o)(dm:∀v∈vs,∀(A':Around) C code h' m,A'.handled=none->(∀b∈kl,∀o,hb.get? b=some o->h'.get? b=some o)->h'.Ns C m->m x=some v->Ev w A' h' (genEnv scope cl C code builtinsNs env) elt (λy _=>F v y))(hQ:∀a s' eJ,hb.StaysIn eJ->On frs cs eJ s'.heap->Go [] (aS frs) s s'->(∀b o,b≠P->s.heap.get? b=some o->s'.heap.get? b=some o)->(∀k,k<s.gens.size->s'.gens[k]?=s.gens[k]?)->s.gens.size<=s'.gens.size->
   je w A hb s.heap s.gens.size s' a vs.length (λi y=>∃v,vs[i]?=some v/\F v y)->Q (.ref a) s')(qD:scope.isCoroutine=false)(cP:closureFor scope env=pure cl)(aQ:∀y∈scope.names,y.2≠.cell)(h0:scope.names.lookup (".0":Str)=some NameKind.local)(hx:scope.names.lookup x=some .local)(bK:scope.kind = .function)(hgl:env.globals=mainGlobals)(hs:∀x,genFold iter env x=pure x):
  wpAny (model pw w) A (eval (.GeneratorExp elt [⟨.Name x px,iter,[],0⟩] scope pos) env) Q E s:=by
 refine wpAny_GeneratorExp_make qD cP aQ h0 bK eH (hit s.heap O.stays (λp hp=>(O.frames p hp).2.2.2) s _ _ (ak _) λv h₁ bg PO bB=>?_) hs;subst bB;have aM:=O.keep PO;have xM:=isList_stays aM.stays hl;refine O1 xM ⟨?_,?_⟩
 ·exact (G.nolimit.keeps aM.stays).keeps λb o e=>K' _ e
 generalize hI:h₁.objs.size=I at *;generalize hH:h₁.push {cls:=.type "list_iterator",data:=.fields #[.ref l,.int 0 0]}=H;have upH:h₁.StaysIn H:=λb o e=>hH▸K' _ e;have Ae:H.IsListIter I l 0:=⟨_,hI▸hH▸OC _ rfl,rfl,rfl⟩;have cC:=aM.keep upH;have nH:H.objs.size=I+1:=by rw[<-hH,Heap.size_push,hI]
 dsimp only;refine xI lp (C.keeps cC.stays) cC.tabs hP λcv h₃ cW uA DX Mf=>?_;have hPb:hb.get? P=none:=O.dT P (OE (f:=(·.1)) hP);have PS:hb.StaysIn h₃:=λb o e=>uA b o (λz=>by rw[z,hPb] at e;cases e) (cC.stays b o e);refine ez G.bmain λmg bm ob eS=>qL eS λb1 b2 b3 b4 b5 b6 b7 b8=>?_;clear eS;refine wpAny_builtinsFor (by rw[hgl];exact b1.keeps PS) b2 b3 (PS _ _ b5) b6 b7 b8 ?_;intro h₄ gh eV;dsimp only at gh eV ⊢;generalize hC:h₃.objs.size=Ca at *;have DY:h₄.objs.size=Ca+1:=by rw[eV.1,Heap.size_push,hC]
 have gT:h₃.StaysIn h₄:=λb o e=>eV.extBut b o (λz=>by rw[z,<-hC,Heap.get?_none_of_le (Nat.le_refl _)] at e;cases e) (K' _ e);generalize ha:h₄.objs.size=a at *;generalize hs5:h₄.push {cls:=.type "generator",data:=.fields #[.int s.gens.size 0,.str "<genexpr>" (cW+1),.str (env.qual++"<genexpr>") (cW+1+1)]}=h₅;have jP:h₄.StaysIn h₅:=λb o e=>hs5▸K' _ e;have iW:h₅.IsGen a s.gens.size:=⟨_,_,_,hs5▸ha▸OC _ rfl,rfl,rfl,rfl⟩;have PU:∀b o,b≠P->s.heap.get? b=some o->h₅.get? b=some o:=λb o ne e=>jP _ _ (gT _ _ (uA b o ne (upH _ _ (PO _ _ e))));have BP:hb.StaysIn h₅:=λb o e=>jP _ _ (gT _ _ (PS b o e));have Ia:cJ h₅:=(Mf.keeps gT).keeps jP;have hPt:∃ps,s.heap.get? P=some (tabObj ps):=O.tabs.tab (OE (f:=(·.1)) hP);have bP:eB [] (aS frs) s.heap h₅:=⟨λb o _ _ ht e=>PU b o (λz=>ht (z▸OE (f:=(·.1)) hP)) e,λb o _ _ ht e=>⟨o.slots,PU b o (λz=>ht (z▸OE (f:=(·.1)) hP)) e⟩,
  λb o ht e=>(by refine aR (Ia.tab ht) λps e'=>⟨_,e'⟩)⟩
 have xN:=O.jb bP Ia;have vT:s.heap.get? I=none:=by
  cases z:s.heap.get? I with
  |none=>rfl
  |some o=>have:=ON (PO _ _ z);rw[hI] at this;exact absurd this (OQ _)
 have Af:@LT.lt Nat _ I Ca:=by have:@LE.le Nat _ H.objs.size Ca:=DX;rw[nH] at this;exact this
 have BQ:∀b o,s.heap.get? b=some o->@LT.lt Nat _ b I:=λb o e=>by have:=ON (PO _ _ e);rw[hI] at this;exact this
 have DZ:s.heap.get? Ca=none:=by
  cases z:s.heap.get? Ca with
  |none=>rfl
  |some o=>exact absurd (Om (BQ _ _ z) Af) (OQ _)
 have Ib:s.heap.get? a=none:=by
  cases z:s.heap.get? a with
  |none=>rfl
  |some o=>have h1:=Om (BQ _ _ z) Af;rw[DY] at h1;exact absurd (Nat.lt_of_succ_lt h1) (OQ _)
 have D0:∃o,hb.get? cStatics=some o:=by refine ar G.nolimit λmc j9 _=>aV j9 λo _ _ ho _=>⟨o,ho⟩
 have hlb:∃o,hb.get? l=some o:=by refine ar hl λo ho _=>⟨o,ho⟩
 have F1:∀b,(∃o,hb.get? b=some o)->∃o,s.heap.get? b=some o:=λb bV=>by refine aR bV λo e=>⟨o,O.stays _ _ e⟩
 have eD:∀b d,(∃o,s.heap.get? b=some o)->s.heap.get? d=none->b≠d:=λb d bV hd z=>by refine aR bV λo e=>by rw[z,hd] at e;cases e
 let fp:List Addr:=cStatics::I::l::kl
 have D4:∀b∈fp,b=I∨∃o,hb.get? b=some o:=λb jl=>by
  rcases OA jl with j8|jl<;>(first|(replace j8:=OK j8;subst j8)|skip)
  ·exact .inr D0
  ·rcases OA jl with j7|jl<;>(first|(replace j7:=OK j7;subst j7)|skip)
   ·exact .inl rfl
   ·rcases OA jl with j6|jl<;>(first|(replace j6:=OK j6;subst j6)|skip)
    ·exact .inr hlb
    ·exact .inr (hkl b jl)
 have aI:a≠I:=λz=>by rw[DY] at z;have z':@Eq Nat (Ca+1) I:=z;omega
 have CI:Ca≠I:=λz=>by have z':@Eq Nat Ca I:=z;rw[z'] at Af;exact OQ _ Af
 have aC:a≠Ca:=λz=>by rw[DY] at z;exact Nat.succ_ne_self _ z
 have CnF:Ca∉fp:=λhm=>by
  rcases D4 _ hm with z|z
  ·exact CI z
  ·exact eD _ _ (F1 _ z) DZ rfl
 have anF:a∉fp:=λhm=>by
  rcases D4 _ hm with z|z
  ·exact aI z
  ·exact eD _ _ (F1 _ z) Ib rfl
 have csI:cStatics≠I:=eD _ _ (F1 _ D0) vT;have csC:cStatics≠Ca:=eD _ _ (F1 _ D0) DZ;have lI:l≠I:=eD _ _ (F1 _ hlb) vT;have Mg:∀A':Around,A'.handled=none->Walks pw w A' I fp [I] vs.length (λi v=>vs[i]?=some v) (λi h=>h.IsListIter I l i/\h.IsList l vs.toArray):=λA' uB=>by
  have:=(Walks.list (prog:=pw) (w:=w) uB I l lI vs.toArray).mono_fp (fp':=fp) (λb jl=>by
   rcases OA jl with j5|jl<;>(first|(replace j5:=OK j5;subst j5)|skip)
   ·exact .tail _ (.head _)
   ·rw[List.mem_singleton.mp jl];exact .tail _ (.tail _ (.head _)))
  simpa using this
 have W:=WalksS.genexpQ (prog:=pw) (w:=w) (A:=A.in4) hh a s.gens.size Ca fp [I] (λ_=>true) vs.length (λi y=>∃v,vs[i]?=some v/\F v y) aC anF (λb jl=>by rw[List.mem_singleton.mp jl];exact .tail _ (.head _)) eH (.head _) csC (by simpa using csI);have st0:GenAt pw w A.in4 a s.gens.size Ca fp [I] (λ_=>true) vs.length (λi y=>∃v,vs[i]?=some v/\F v y) 0
   {s with heap:=h₅,gens:=s.gens.push (GenState.fresh (Code.compStart (elt.GeneratorExp [⟨.Name x px,iter,[],0⟩] scope pos) 0 (.ref I) Value.none (genEnv scope cl Ca cv builtinsNs env))),toks:=cW+1+1+1}:=by
  refine GenAt.fresh (A:=A.in4) (cenv:=genEnv scope cl Ca cv builtinsNs env) (m:=λy=>if y=".0" then some (.ref I) else none) hh Mg (λ_=>true) _ hx (by simp[genEnv,bK]) qD CnF ?_ iW (Array.getElem?_push_size ..) ?_ (gh.keeps jP) ((G.nolimit.keeps PS).keeps (ai gT jP))
  ·refine⟨λA' E' i v bN PR uB hv hn hm hk=>?_,λA' E' i v bN PR uB hv _ hn hm hk=>?_⟩
   ·simp only[List.forIn_nil]
    exact OD ⟨rfl,bN.heap,bN.toks,rfl,λ_ _ e=>e⟩
   ·refine dm v (List.mem_of_getElem? hv) A' Ca cv bN.heap PR uB (λb jl o e=>hk b (.tail _ (.tail _ (.tail _ jl))) (λz=>?_) o (BP b o e)) hn hm bN _ _ (ak _) λy h' tk k f=>⟨⟨v,hv,f⟩,h',tk,rfl,k⟩
    exact eD _ _ (F1 b ⟨o,e⟩) vT (O0 z)
  ·have Ic:h₃.IsListIter I l 0:=by
    refine ar Ae λo ho r=>?_;clear Ae;exact⟨o,uA _ _ (λz=>eD P I ((by refine aR hPt λps e=>⟨_,e⟩)) vT z.symm) ho,r⟩
   refine ar Ic λo ho r=>?_;clear Ic;exact⟨⟨o,jP _ _ (gT _ _ ho),r⟩,isList_stays BP hl⟩
 have Ag:h₅.IsListIter I l 0:=by refine ar Ae λo ho r=>?_;clear Ae;exact⟨o,jP _ _ (gT _ _ (uA _ _ (λz=>eD P I ((by refine aR hPt λps e=>⟨_,e⟩)) vT z.symm) ho)),r⟩
 refine hQ a _ _ xN.wide xN.top ⟨bP,λhy y hm=>?_,rfl,rfl⟩ PU (λk hk=>by show (s.gens.push _)[k]?=_;rw[Array.getElem?_push_lt hk,Array.getElem?_eq_getElem hk]) (by show _<=(s.gens.push _).size;rw[Array.size_push];exact Nat.le_succ _) ⟨s.gens.size,Ca,I,fp,_,?_,st0,λj t t' st hk hg=>xJ st hk (.head _) hg,Ib,DZ,vT,λb jl=>?_,?_,?_,D4,OM _,?_⟩
 ·rcases Array.mem_push.mp hm with hm|j4<;>(first|(replace j4:=OK j4;subst j4)|skip)
  ·exact hy y hm
  ·rfl
 ·have W':=WalksS.in4_1 W
  rw[ra] at W';exact {W' with item:=λi s Q E hi st hQ=>W'.item i s Q E hi st λv s' hp=>hQ v s' (by
   refine ar hp λi' eM j3=>ar j3 λv' hv' f=>?_;clear hp j3;rw[qZ] at eM;have:i'=i:=by rcases List.getElem?_eq_some_iff.mp eM with⟨h1,h2⟩;rw[List.getElem_range] at h2;exact h2.symm
   subst this;exact⟨v',hv',f⟩)}
 ·rcases OA jl with j2|jl<;>(first|(replace j2:=OK j2;subst j2)|skip)
  ·refine aV iW λo _ _ ho _=>⟨o,ho⟩
  ·rcases OA jl with j1|jl<;>(first|(replace j1:=OK j1;subst j1)|skip)
   ·refine aV gh λo _ _ ho _=>⟨o,jP _ _ ho⟩
   ·rw[List.mem_singleton.mp jl]
    refine ar Ag λo ho r=>?_;clear Ag;exact⟨o,ho⟩
 ·refine bf gh λo' es ep aW bL _=>?_;clear gh
  intro o vs q t e d;rw[jP _ _ aW] at e;cases e;rw[d] at bL;cases bL
 ·refine bl Ag λo' aW _ bL=>?_;clear Ag
  intro o vs q t e d;rw[aW] at e;cases e;rw[d] at bL;cases bL;simp
 ·show s.gens.size<(s.gens.push _).size
  rw[Array.size_push];exact OY _
end
def eW(h₀:Heap)(s s':Shared):Prop:=
 (∃wr:List Addr,(∀b∈wr,h₀.get? b=none/\mF s.heap b)/\∀b o,b∉wr->s.heap.get? b=some o->s'.heap.get? b=some o)/\((∀y∈s.gens,y.bare=true)->∀y∈s'.gens,y.bare=true)/\s'.drawn=s.drawn/\s'.os=s.os
def GB(a b:Array GenState):Prop:=(∀y∈a,y.bare=true)->∀y∈b,y.bare=true
theorem mG{g k:Nat}{a b:Array GenState}(x:GenOnlyQ g a b)(h:k≠g):b[k]?=a[k]?:=by
 rcases x with j1|j2<;>(first|(refine cA j2 λj3 _=>cA j3 λ_ ho=>?_;clear j2 j3)| (replace j1:=OK j1;subst j1))
 ·rfl
 ·exact ho k h
section
variable{a b P:Addr}{z:Nat}{F:Nat->Value->Prop}
theorem Ah(ka kb:Nat->Int)(cc:Nat->Int)(hh:A.handled=none)(Ai:je w A hb h₀ z aB a n F₁)(pP:je w A hb aB.heap aB.gens.size s b n F₂)(hk:∀b o,b≠P->aB.heap.get? b=some o->s.heap.get? b=some o)(hg:∀k,k<aB.gens.size->s.gens[k]?=aB.gens[k]?)(hPb:hb.get? P=none)(hP0:∃o,h₀.get? P=some o)(Ie:hb.StaysIn h₀)(mH:hb.StaysIn aB.heap)(h01:dR h₀ aB.heap)(xO:∀i v,F₁ i v->∃x t,v = .float x t/\Fl x (ka i))(rd:∀i v,F₂ i v->∃x t,v = .float x t/\Fl x (kb i))(hc:∀i,i<n->ka i*kb i=cc i*16/\(cc i).natAbs<=2^40)(h0:0<n)(hn:n<=64)(hQ:∀s' x t,eW h₀ s s'->Fl x (preSum cc n)->Q (.float x t) s'):wpAny (model pw w) A (call (.builtin "math.sumprod") [.ref a,.ref b] []) Q E s:=by
 refine qK Ai λg C I fp St eR=>vJ eR λW st mv na nC nI ex rC rI Ig hz cN=>?_;clear Ai eR;refine qK pP λg' C' I' fp' St' ib=>vJ ib λW' sU mv' na' F3 F4 vR rC' rI' D5 xP z7=>?_;clear pP ib;have eD:∀{h:Heap}{b d:Addr},(∃o,h.get? b=some o)->h.get? d=none->b≠d:=λbV hd q=>by refine aR bV λo e=>by rw[q,hd] at e;cases e
 have ex1:∀d∈a::C::fp,∃o,aB.heap.get? d=some o:=λd hd=>by
  rcases OA hd with eS|hd<;>(first|(replace eS:=OK eS;subst eS)|skip)
  ·exact ex _ (.head _)
  ·rcases OA hd with j9|hd<;>(first|(replace j9:=OK j9;subst j9)|skip)
   ·exact ex _ (.tail _ (.head _))
   ·rcases Ig d hd with j7|j8<;>(first|(refine aR j8 λo e=>?_;clear j8)| (replace j7:=OK j7;subst j7))
    ·exact ex _ (.tail _ (.tail _ (.head _)))
    ·exact⟨o,mH _ _ e⟩
 have Ih:∀d∈a::C::fp,d≠P:=λd hd q=>by
  subst q;rcases OA hd with e|hd
  ·exact eD hP0 na e
  ·rcases OA hd with e|hd
   ·exact eD hP0 nC e
   ·rcases Ig d hd with e|j6<;>(first|(refine aR j6 λo e=>?_;clear j6)|skip)
    ·exact eD hP0 nI e
    ·rw[hPb] at e;cases e
 have st2:St 0 s:=mv 0 aB s st (λd hd o e=>hk d o (Ih d hd) e) (hg g cN);have gg:g≠g':=OI (Ou cN xP);have d2:∀d∈a::C::fp,d∉[C',I']:=λd hd hm=>by
  rcases OA hm with e|hm
  ·exact eD (ex1 d hd) F3 e
  ·exact eD (ex1 d hd) F4 (O0 hm)
 have exC:∃o,aB.heap.get? C=some o:=ex _ (.tail _ (.head _));have exI:∃o,aB.heap.get? I=some o:=ex _ (.tail _ (.tail _ (.head _)));have d1:∀d∈b::C'::fp',d∉[C,I]:=λd hd hm=>by
  have key:∀e,(∃o,aB.heap.get? e=some o)->h₀.get? e=none->d≠e:=λe he h0e q=>by
   subst q;rcases OA hd with q|hd
   ·exact eD he na' q
   ·rcases OA hd with q|hd
    ·exact eD he F3 q
    ·rcases D5 d hd with q|j4<;>(first|(refine aR j4 λo q=>?_;clear j4)|skip)
     ·exact eD he F4 q
     ·rw[Ie _ _ q] at h0e;cases h0e
  rcases OA hm with e|hm
  ·exact key C exC nC e
  ·exact key I exI nI (O0 hm)
 have W2':=W2.of (G:=GB) W W' (λ_ h=>h) (λ_ _ _ x y h=>y (x h)) (λ_ _ x h=>x.bare h) (λ_ _ x h=>x.bare h)
  (λi t t' ht m=>mv i t t' ht (λd hd o e=>m.heap d o (d2 d hd) e) (mG m.gens gg))
  (λi t t' ht m=>mv' i t t' ht (λd hd o e=>m.heap d o (d1 d hd) e) (mG m.gens gg.symm))
 refine iM (W.self 0 s _ _ st2 (W'.self 0 s _ _ sU ⟨a,b,_,_,n,_,_,_,ka,kb,cc,rfl,rfl,W2',xO,rd,(d8 hc hn).1,h0,(d8 hc hn).2,⟨st2,sU⟩,λs' x t m fx=>hQ s' x t ⟨⟨_,λd hd=>?_,m.heap⟩,m.gens,m.drawn,m.os⟩ fx⟩));have kept:∀d,(∃o,aB.heap.get? d=some o)->d≠P->mF aB.heap d->mF s.heap d:=λd bV i7 r o vs q t e dd=>by refine aR bV λD6 bB=>?_;clear bV;rw[hk d D6 i7 bB] at e;cases e;exact r _ vs q t bB dd
 rcases OG hd with hm|hm
 ·rcases OA hm with j2|hm<;>(first|(replace j2:=OK j2;subst j2)|skip)
  ·exact⟨nC,kept _ exC (Ih _ (.tail _ (.head _))) rC⟩
  ·rw[List.mem_singleton.mp hm]
   exact⟨nI,kept _ exI (λq=>eD hP0 nI q.symm) rI⟩
 ·rcases OA hm with j1|hm<;>(first|(replace j1:=OK j1;subst j1)|skip)
  ·exact⟨h01.none F3,rC'⟩
  ·rw[List.mem_singleton.mp hm];exact⟨h01.none F4,rI'⟩
theorem Aj(kb:Nat->Int)(cc:Nat->Int)(hh:A.handled=none)(hl:LF ks (.ref l) hb)(pP:je w A hb h₀ z s b ks.length F₂)(Ie:hb.StaysIn h₀)(mH:hb.StaysIn s.heap)(rd:∀i v,F₂ i v->∃x t,v = .float x t/\Fl x (kb i))(hc:∀i,i<ks.length->aO ks i*kb i=cc i*16/\(cc i).natAbs<=2^40)(h0:0<ks.length)(hn:ks.length<=64)(h0s:dR h₀ s.heap)(hQ:∀s' x t,eW h₀ s s'->Fl x (preSum cc ks.length)->Q (.float x t) s'):wpAny (model pw w) A (call (.builtin "math.sumprod") [.ref l,.ref b] []) Q E s:=by
 refine ar (LF.ref hl) λxs BR hx=>?_;refine qK pP λg' C' I' fp' St' j6=>vJ j6 λW' sU mv' na' F3 F4 vR rC' rI' D5 xP z7=>?_;clear pP j6;have eD:∀{h:Heap}{b d:Addr},(∃o,h.get? b=some o)->h.get? d=none->b≠d:=λbV hd q=>by refine aR bV λo e=>by rw[q,hd] at e;cases e
 have ex1:∀d∈b::C'::fp',∃o,s.heap.get? d=some o:=λd hd=>by
  rcases OA hd with j5|hd<;>(first|(replace j5:=OK j5;subst j5)|skip)
  ·exact vR _ (.head _)
  ·rcases OA hd with j4|hd<;>(first|(replace j4:=OK j4;subst j4)|skip)
   ·exact vR _ (.tail _ (.head _))
   ·rcases D5 d hd with j2|j3<;>(first|(refine aR j3 λo e=>?_;clear j3)| (replace j2:=OK j2;subst j2))
    ·exact vR _ (.tail _ (.tail _ (.head _)))
    ·exact⟨o,mH _ _ e⟩
 have lx:xs.length=ks.length:=aZ hx;have F5:=isList_stays mH BR;have llt:l<s.heap.objs.size:=by refine ar F5 λ_ e _=>ON e
 have lb:∃o,hb.get? l=some o:=by refine ar BR λo e _=>⟨o,e⟩
 refine iM (O1 F5 ?_);have old:∀d o,s.heap.get? d=some o->d≠s.heap.objs.size:=λd o e=>OI (ON e);generalize hI:s.heap.objs.size=I at *;generalize hH:s.heap.push {cls:=.type "list_iterator",data:=.fields #[.ref l,.int 0 0]}=H;have hit:H.IsListIter I l 0:=⟨_,hI▸hH▸OC _ rfl,rfl,rfl⟩;have up:s.heap.StaysIn H:=λb o e=>hH▸K' _ e;have st2:St' 0 (bp s H s.toks):=mv' 0 s _ sU (λd _ o e=>up d o e) rfl;have lI:l≠I:=OI llt;have qT:=(Walks.list (prog:=pw) (w:=w) (A:=A.in1) hh I l lI xs.toArray).toS;rw[show xs.toArray.size=ks.length by simpa using lx] at qT;have W2':=W2.of (G:=GB) qT W' (λ_ h=>h) (λ_ _ _ x y h=>y (x h)) (λ_ _ x h=>by rw[x];exact h) (λ_ _ x h=>x.bare h)
  (λi t t' ht m=>⟨by
    refine ar ht.1 λo ho r=>?_;refine⟨o,m.heap _ _ (λhm=>?_) ho,r⟩;rcases OA hm with q|hm
    ·refine aR (ex1 C' (.tail _ (.head _))) λo' e=>old _ _ e q.symm
    ·refine aR (vR I' (.tail _ (.tail _ (.head _)))) λo' e=>old _ _ e (O0 hm).symm,by
    refine ar ht.2 λo ho r=>?_;refine⟨o,m.heap _ _ (λhm=>?_) ho,r⟩;refine aR lb λo' e'=>?_;clear lb;rcases OA hm with q|hm
    ·exact eD ⟨_,Ie _ _ e'⟩ F3 q
    ·exact eD ⟨_,Ie _ _ e'⟩ F4 (O0 hm)⟩)
  (λi t t' ht m=>mv' i t t' ht (λd hd o e=>m.heap d o (λhm=>by refine aR (ex1 d hd) λo' e'=>?_;exact old _ _ e' (O0 hm)) e) (by rw[m.gens]))
 refine W'.self 0 _ _ _ st2 ⟨I,b,_,_,ks.length,_,_,_,aO ks,kb,cc,rfl,rfl,W2',λi v e=>hx.at (by simpa using e),rd,(d8 hc hn).1,h0,(d8 hc hn).2,⟨⟨hit,isList_stays up F5⟩,st2⟩,λs' x t m fx=>hQ s' x t ⟨⟨_,λd hd=>?_,λd o hm e=>m.heap d o hm (up _ _ e)⟩,m.gens,m.drawn,m.os⟩ fx⟩;rcases OG hd with hm|hm
 ·rw[List.mem_singleton.mp hm]
  have BS:s.heap.get? I=none:=hI▸OL (OM _);exact⟨h0s.none BS,λo vs q t e=>by rw[BS] at e;cases e⟩
 ·rcases OA hm with j1|hm<;>(first|(replace j1:=OK j1;subst j1)|skip)
  ·exact⟨F3,rC'⟩
  ·rw[List.mem_singleton.mp hm];exact⟨F4,rI'⟩
theorem eW.go(Ii:On frs cs hb s₀.heap)(g:Go [] (aS frs) s₀ s)(T:cJ s.heap)(X:eW s₀.heap s s'):On frs cs hb s'.heap/\Go [] (aS frs) s₀ s':=by
 refine eP X λj1 gb hd ho=>ar j1 λwr hw hk=>?_;clear X j1;have off:∀b,(∃o,s₀.heap.get? b=some o)->b∉wr:=λb bV hm=>by refine aR bV λo e=>by rw[(hw b hm).1] at e;cases e
 have T':cJ s'.heap:=λq hq=>by refine bl (T q hq) λps e a k=>?_;refine ar (Ii.tabs q hq) λNH dE _=>?_;refine⟨ps,hk _ _ (off _ ⟨_,dE⟩) e,a,λpos cv f=>?_⟩;refine hO (k pos cv f) λc o vs t r1 r2 r3 r4=>?_;exact⟨c,o,vs,t,r1,hk _ _ (λhm=>(hw c hm).2 o vs _ t r2 r3 r4) r2,r3,r4⟩
 have S:eB [] (aS frs) s₀.heap s'.heap:=⟨λb o h1 h2 h3 e=>hk _ _ (off b ⟨o,e⟩) (g.bP.off b o h1 h2 h3 e),λb o h1 h2 h3 e=>(by refine aR (g.bP.on b o h1 h2 h3 e) λsl e'=>⟨sl,hk _ _ (off b ⟨o,e⟩) e'⟩),
  λb o h1 e=>(by refine aR (T'.tab h1) λps e'=>⟨_,e'⟩)⟩
 exact⟨Ii.jb S T',⟨S,λh=>gb (g.gens h),hd.trans g.drawn,ho.trans g.os⟩⟩
def uC(w:World)(A:Around)(frs:Frs)(cs:List Addr)(hb:Heap)(env:Env)(e:Expr)(P:Addr)(n:Nat)(F:Nat->Value->Prop):Prop:=
 ∀(s:Shared)(Q E:Value->Shared->Prop),On frs cs hb s.heap->
  (∀a s',On frs cs hb s'.heap->Go [] (aS frs) s s'->(∀b o,b≠P->s.heap.get? b=some o->s'.heap.get? b=some o)->(∀k,k<s.gens.size->s'.gens[k]?=s.gens[k]?)->s.gens.size<=s'.gens.size->
   je w A hb s.heap s.gens.size s' a n F->Q (.ref a) s')->wpAny (model pw w) A (eval e env) Q E s
theorem aF.sV{f:Expr}(ka kb:Nat->Int)(cc:Nat->Int)(hh:A.handled=none)(Hf:aF w A frs cs h env f (λu _=>u = .builtin "math.sumprod") x)(hP:P∈gA)(mE:∀hb,h.StaysIn hb->uC w A frs cs hb env bB P n F₁)(iZ:∀hb,h.StaysIn hb->uC w A frs cs hb env bR P n F₂)(xO:∀i v,F₁ i v->∃x t,v = .float x t/\Fl x (ka i))(rd:∀i v,F₂ i v->∃x t,v = .float x t/\Fl x (kb i))(hc:∀i,i<n->ka i*kb i=cc i*16/\(cc i).natAbs<=2^40)(h0:0<n)(hn:n<=64)(bE:autoParam (starEach [bB,bR] env=[(false,eval bB env),(false,eval bR env)]) cH)(jC:autoParam (eval (.Call f [bB,bR] [] pos) env=(do let g <-eval f env;callWith pos g [] (backTo pos (starEach [bB,bR] env)) (backToKw pos (keywordEach [] env)))) cH):
  aF w A frs cs h env (.Call f [bB,bR] [] pos) (λv _=>∃b t,v = .float b t/\Fl b (preSum cc n)) x:=λs hb Q E hs O hq he=>by
 rw[jC];refine J' (Hf s hb _ _ hs O (λv aB h₁ PO aM bJ bB=>?_) he);subst bB;rw[bE];refine callWith_of (P:=λh'=>h.StaysIn h') rfl (λh' k=>Kp.builtin) (PH ?_);show wpAny _ _ (spliced [(false,eval bB env),(false,eval bR env)]) _ _ _;refine PC (mE h₁ (ai hs PO) aB _ _ aM λa bN cC eC NI NJ NK Ai=>?_);refine PC (iZ h₁ (ai hs PO) bN _ _ cC λb cq ic mD Ij Ik NL pP=>?_);refine spliced_nil ⟨ai (ai hs PO) ic.stays,?_⟩;refine Ah (P:=P) ka kb cc hh Ai pP Ij Ik (aM.dT P hP) ((by refine aR (aM.tabs.tab hP) λps e=>⟨_,e⟩)) aM.stays cC.stays eC.bP.cE xO rd hc h0 hn λs' x t qe fx=>?_;refine cA (qe.go aM (eC.trans mD) ic.tabs) λpO xF=>?_;exact hq _ s' h₁ PO pO (bJ.trans xF) ⟨x,t,rfl,fx⟩
end
abbrev iO(k:Int):Value->Heap->Prop:=λv _=>∃t,v = .int k t
abbrev dB(k:Int):Value->Heap->Prop:=λv _=>∃b t,v = .float b t/\Fl b k
abbrev ff(u:Value):Value->Heap->Prop:=λv _=>v=u
section
variable{l:Expr}
theorem mI{n:Int}(h:n.natAbs<2^49):n.natAbs<2^1023:=Ou h (Nat.pow_le_pow_right (by decide) (by decide))
theorem dW{n:Int}(h:n.natAbs<2^49):¬Float64.isInf (Float64.ofInt n)=true:=by rw[(Fl.ofInt h).xi];decide
theorem D7{x:UInt64}{n:Int}(hx:Fl x a)(hn:n≠0)(hb:n.natAbs<2^49)(hc:a=c*n)(kq:c.natAbs<2^53)(hq:∀b,Fl b c->Q (.float b s.toks) (bp s s.heap (s.toks+1))):wpAny (model pw w) A (binaryOp .Div (.float x t) (.int n u)) Q E s:=
 AutoFloatOps.truediv_fi_2 (dW hb) (by rw[(Fl.ofInt hb).isZero];simp;omega) (hq _ (hx.div (Fl.ofInt hb) (by omega) (by rw[hc,Int.mul_comm 16 (c*n),Int.mul_assoc,Int.mul_comm n 16]) kq))
theorem Ev.lq{n:Int}(Hl:Ev w A h env l (dB a))(Hr:eI w A h env r n)(hn:n≠0)(hb:n.natAbs<2^49)(hc:a=c*n)(kq:c.natAbs<2^53):Ev w A h env (.BinOp l .Div r pos) (dB c):=
 Ev.bin Hl Hr (by rintro _ _ s Q E ⟨b,t,rfl,hx⟩ ⟨u,rfl⟩ _ hq;exact D7 hx hn hb hc kq λb hb=>hq _ s.heap _ (ak _) ⟨b,_,rfl,hb⟩)
theorem Ev.oR{n:Int}(Hl:eI w A h env l n)(Hr:Ev w A h env r (dB a))(hb:n.natAbs<2^49)(kq:(16*n-a).natAbs<2^53):Ev w A h env (.BinOp l .Sub r pos) (dB (16*n-a)):=
 Ev.bin Hl Hr (by rintro _ _ s Q E ⟨u,rfl⟩ ⟨b,t,rfl,hx⟩ _ hq;exact PyProof.Rows.sub_if_fits (mI hb) (hq _ s.heap _ (ak _) ⟨_,_,rfl,(Fl.ofInt hb).sub hx kq⟩))
theorem de.ne{b:Int}(Hl:eI w A h env l a)(Hr:eI w A h env r b)(hb:autoParam (behindInMarks .NotEq r=false) cH):de w A h env (.Compare l [.NotEq] [r] pos) (a !=b):=λs wh Q E hs hq=>
 O7 (Hl s _ _ hs λu h₁ bg PO ba=>Hr _ _ _ (ai hs PO) λv h₂ bZ PQ cF=>by refine aR ba λt j2=>?_;clear ba;subst j2;refine aR cF λt' j1=>?_;clear cF;subst j1;exact ne_int (Oi (hq h₂ bZ (ai PO PQ)))) hb
theorem de.cast{b c:Bool}(H:de w A h env e b)(hc:b=c):de w A h env e c:=hc▸H
end
section
variable{ex:List Addr}{body:List Stmt}{R:Value->Heap->Prop}{c:Str}{k:Nat}
theorem aP.doc(hk:aP 1 w A env fo cs cso ex g m (rest::bs) R x)(hi:autoParam (interactive env=false) cH):aP n w A env fo cs cso ex g m ((.Expr (.Constant (.str c) k p) p'::rest)::bs) R x:=λs gb Q E W tz hs O hq he=>by refine Run.cons (wpAny_Expr (wpAny_Constant_str ?_) hi rfl);have O':On ((env,m)::fo) (cs++cso) gb ((bp s s.heap (s.toks+1)):Shared).heap:=O;exact hk _ gb Q E W (Nat.le_add_left 1 _) hs O' (λv s' g' k O' go r=>hq v s' g' k O' ⟨go.bP,go.gens,go.drawn,go.os⟩ r) (λws a s' m' ex go n X=>he ws a s' m' ex ⟨go.bP,go.gens,go.drawn,go.os⟩ n X)
theorem aP.skip(Ht:TG w A ((env,m)::fo) (cs++cso) g env test false x)(hk:∀g',g.StaysIn g'->aP n w A env fo cs cso ex g' m (rest::bs) R x):aP n w A env fo cs cso ex g m ((.If test body [] pos::rest)::bs) R x:=
 aP.ite (b:=false) Ht λg' k=>aP.nil (hk g' k)
theorem aP.enter(Ht:TG w A ((env,m)::fo) (cs++cso) g env test true x)(hk:∀g',g.StaysIn g'->aP n w A env fo cs cso ex g' m (body::rest::bs) R x):aP n w A env fo cs cso ex g m ((.If test body orelse pos::rest)::bs) R x:=
 aP.ite (b:=true) Ht λg' k=>hk g' k
theorem aP.other(Ht:TG w A ((env,m)::fo) (cs++cso) g env test false x)(hk:∀g',g.StaysIn g'->aP n w A env fo cs cso ex g' m (orelse::rest::bs) R x):aP n w A env fo cs cso ex g m ((.If test body orelse pos::rest)::bs) R x:=
 aP.ite (b:=false) Ht λg' k=>hk g' k
end
theorem aF.gen{c P:Addr}{x:Str}{cl:List (Str×Addr)}{kl:List Addr}(F:Value->Value->Prop)(hh:A.handled=none)(G:Gl w hb)(lp:env.code = .ref c)(C:CodeHd hb c P)(hP:(P,env.qual++"<genexpr>")∈TT)(eH:A.depth<recursionLimit)(hit:∀h',hb.StaysIn h'->lj frs h'->om w A h' env iter (.ref l))(hl:hb.IsList l vs.toArray)(hkl:∀b∈kl,∃o,hb.get? b=some o)(dm:∀v∈vs,∀(A':Around) C code h' m,A'.handled=none->(∀b∈kl,∀o,hb.get? b=some o->h'.get? b=some o)->h'.Ns C m->m x=some v->Ev w A' h' (genEnv scope cl C code builtinsNs env) elt (λy _=>F v y))(qD:scope.isCoroutine=false)(cP:closureFor scope env=pure cl)(aQ:∀y∈scope.names,y.2≠.cell)(h0:scope.names.lookup (".0":Str)=some NameKind.local)(hx:scope.names.lookup x=some .local)(bK:scope.kind = .function)(hgl:env.globals=mainGlobals)(hs:∀x,genFold iter env x=pure x):
  uC w A frs cs hb env (.GeneratorExp elt [⟨.Name x px,iter,[],0⟩] scope pos) P vs.length (λi y=>∃v,vs[i]?=some v/\F v y):=λs Q E O hQ=>
 xK F hh G O lp C hP eH hit hl hkl dm (λa s' eJ _ O' g k kg ks X=>hQ a s' (O.jb g.bP O'.tabs) g k kg ks X) qD cP aQ h0 hx bK hgl hs
theorem gm{K:Frag}{c P:Addr}{n q:String}{a b:Nat}{d e f g j:Int}{k l m:Value}{p:Int}{s:Nat}(X:K.In h)(hk:K.lookup c=some (cd n q a b c' d e f g j i P k l m p s))(i7:Nat.beq c P=false):CodeHd h c P:=
 ⟨_,_,_,_,_,_,_,_,_,X _ _ hk,rfl,rfl,rfl,rfl,rfl,rfl,rfl,rfl,Nat.ne_of_beq_eq_false i7⟩
theorem cO(k:Int)(f:Nat->Int)(n:Nat):preSum (λi=>k*f i) n=k*preSum f n:=by
 induction n with
 |zero=>show (0:Int)=k*0;rw[Int.mul_zero]
 |succ n ih=>show preSum _ n+k*f n=k*(preSum f n+f n);rw[ih,Int.mul_add]
theorem On.store{PR:Str->Option Value}{ex:List Addr}(W:Own env fo cs cso ex)(O:On ((env,m)::fo) (cs++cso) g h)(cD:h₂.Ns env.locals PR)(aJ:Heap.SameBut env.locals h h₂):
  On ((env,PR)::fo) (cs++cso) g h₂:=by
 refine⟨λb o e=>aJ.extBut b o (λq=>?_) (O.stays b o e),λq hq=>?_,λc hc=>⟨(O.cells c hc).1,?_⟩,O.tabs.put (λb o n e=>aJ.extBut b o n e) (λo vs e d=>?_),O.dT⟩
 ·rw[q,(O.frames _ (.head _)).2.2.1] at e;cases e
 ·rcases OA hq with j1|hq<;>(first|(replace j1:=OK j1;subst j1)|skip)
  ·refine eP (O.frames _ (.head _)) λa b c d=>?_
   exact⟨a,b,c,cD⟩
  ·refine eP (O.frames q (.tail _ hq)) λa b c d=>?_
   refine aV d λo es ep ho r=>?_;clear d;exact⟨a,b,c,o,es,ep,aJ.extBut _ _ (λe=>W.Lf (e▸OE hq)) ho,r⟩
 ·refine ar ((O.cells c hc).2) λo ho hd=>?_
  refine⟨o,aJ.extBut c o (λq=>?_) ho,hd⟩;refine bf ((O.frames _ (.head _)).2.2.2) λo' es ep aW bL _=>?_;dsimp only at aW;rw[<-q,ho] at aW;cases aW;rw[hd] at bL;cases bL
 ·refine bf ((O.frames _ (.head _)).2.2.2) λo' es ep aW bL _=>?_
  dsimp only at aW;rw[e] at aW;cases aW;rw[d] at bL;cases bL
theorem je.move{z:Nat}{a:Addr}{F:Nat->Value->Prop}(X:je w A hb h₀ z s a n F)(Ie:hb.StaysIn h₀)(mH:hb.StaysIn s.heap)(hk:∀b o,b≠L->s.heap.get? b=some o->s'.heap.get? b=some o)(D8:hb.get? L=none)(hL:∃o,h₀.get? L=some o)(hg:s'.gens=s.gens):je w A hb h₀ z s' a n F:=by
 refine qK X λg C I fp St j5=>vJ j5 λW st mv na nC nI ex rC rI Ig hz cN=>?_;clear X j5;have eD:∀{h:Heap}{b d:Addr},(∃o,h.get? b=some o)->h.get? d=none->b≠d:=λbV hd q=>by refine aR bV λo e=>by rw[q,hd] at e;cases e
 have aL:a≠L:=λq=>eD hL na q.symm;have CL:C≠L:=λq=>eD hL nC q.symm;have IL:I≠L:=λq=>eD hL nI q.symm;have rf:∀d∈a::C::fp,d≠L:=λd hd q=>by
  rcases OA hd with e|hd
  ·exact aL (e▸q)
  ·rcases OA hd with e|hd
   ·exact CL (e▸q)
   ·rcases Ig d hd with e|j4<;>(first|(refine aR j4 λo e=>?_;clear j4)|skip)
    ·exact IL (e▸q)
    ·rw[q,D8] at e;cases e
 have kept:∀d,d≠L->(∃o,s.heap.get? d=some o)->mF s.heap d->mF s'.heap d:=λd i7 bV r o vs q t e dd=>by refine aR bV λD6 bB=>?_;clear bV;rw[hk d D6 i7 bB] at e;cases e;exact r _ vs q t bB dd
 refine⟨g,C,I,fp,St,W,mv 0 s s' st (λd hd o e=>hk d o (rf d hd) e) (by rw[hg]),mv,na,nC,nI,λb jl=>?_,kept C CL (ex C (by simp)) rC,kept I IL (ex I (by simp)) rI,Ig,hz,by rw[hg];exact cN⟩;refine aR (ex b jl) λo e=>?_;refine⟨o,hk b o ?_ e⟩;rcases OA jl with j2|jl<;>(first|(replace j2:=OK j2;subst j2)|skip)
 ·exact aL
 ·rcases OA jl with j1|jl<;>(first|(replace j1:=OK j1;subst j1)|skip)
  ·exact CL
  ·rw[List.mem_singleton.mp jl];exact IL
theorem eW.on(O:On frs cs hb s.heap)(hx:∀b,(b∈fv frs cs∨∃o,hb.get? b=some o)->∃o,h₀.get? b=some o)(X:eW h₀ s s'):On frs cs hb s'.heap:=by
 refine cA X λj3 _=>ar j3 λwr hw hk=>?_;clear X j3;have off:∀b,(b∈fv frs cs∨∃o,hb.get? b=some o)->b∉wr:=λb hb hm=>by refine aR (hx b hb) λo e=>?_;rw[(hw b hm).1] at e;cases e
 refine⟨λb o e=>hk b o (off b (.inr ⟨o,e⟩)) (O.stays b o e),λp hp=>?_,λc hc=>?_,λq hq=>?_,O.dT⟩
 ·refine eP (O.frames p hp) λa b c j2=>aV j2 λo es ep ho r=>?_;clear j2
  exact⟨a,b,c,o,es,ep,hk _ _ (off _ (.inl (OJ _ (OJ _ (OE hp))))) ho,r⟩
 ·refine cA (O.cells c hc) λa j1=>ar j1 λo ho hd=>?_;clear j1
  exact⟨a,o,hk _ _ (off _ (.inl (OJ _ (OP _ hc)))) ho,hd⟩
 ·refine bl (O.tabs q hq) λps e a k=>?_
  refine⟨ps,hk _ _ (off _ (.inl (OP _ (OE hq)))) e,a,λpos cv f=>?_⟩;refine hO (k pos cv f) λc o vs t r1 r2 r3 r4=>?_;exact⟨c,o,vs,t,r1,hk _ _ (λhm=>(hw c hm).2 o vs _ t r2 r3 r4) r2,r3,r4⟩
section
variable{ex:List Addr}{gen:Expr}{p0:Pos}{k0:Nat}{R:Value->Heap->Prop}{xv yv sv sp:Str}{P:Addr}{F:Nat->Value->Prop}
theorem aP.D9(kb:Nat->Int)(cc:Nat->Int)(hh:A.handled=none)(hP:P∈gA)(Hg:∀hb,g.StaysIn hb->uC w A ((env,m)::fo) (cs++cso) hb env gen P ks.length F)(hl:LF ks (.ref l) g)(Hsp:∀h',g.StaysIn h'->om w A h' env (.Name sp p2) (.builtin "math.sumprod"))(hkx:env.kindOf xv=some .local)(hky:env.kindOf yv=some .local)(Ak:env.kindOf sv=some .local)(hfk:env.scope.kind = .function)(hmx:m xv=some (.ref l))(BU:xv≠yv)(hF:∀i v,F i v->∃x t,v = .float x t/\Fl x (kb i))(hc:∀i,i<ks.length->aO ks i*kb i=cc i*16/\(cc i).natAbs<=2^40)(h0:0<ks.length)(hn:ks.length<=64)(hk:∀a v g',g.StaysIn g'->dB (preSum cc ks.length) v g'->aP 1 w A env fo cs cso ex g' (upd (upd m yv (.ref a)) sv v) (rest::bs) R x)(hp:(env.scope.kind == .class||(env.scope.kind == .module&&env.locals !=env.globals))=false)(kn:swapsWith gen (some (.Name yv p0)) p1.line env=pure false)(Mh:swapsWith (.BinOp (.Call (.Name sp p2) [.Name xv p3,.Name yv p4] [] p5) .Add (.Constant (.float 0) k0 p6) p7) (some (.Name sv p8)) p9.line env=pure false)(hb1:(xv==("__debug__":Str))=false)(hb2:(yv==("__debug__":Str))=false):
  aP n w A env fo cs cso ex g m ([.Assign [.Name yv p0] gen p1]::((.Assign [.Name sv p8] (.BinOp (.Call (.Name sp p2) [.Name xv p3,.Name yv p4] [] p5) .Add (.Constant (.float 0) k0 p6) p7) p9)::rest)::bs) R x:=λs gb Q E W tz hs O hq he=>by
 refine Run.cons (Ot (Hg gb hs s _ _ O λa aB aM PW kP kg ksz X=>?_) kn);refine OR hky (aM.frames _ (.head _)).2.2.2 (λh₂ cD aJ=>?_) hp;have cC:=aM.store W cD aJ;have hLb:gb.get? env.locals=none:=(O.frames _ (.head _)).2.2.1;have hL0:∃o,s.heap.get? env.locals=some o:=(by refine aV ((O.frames _ (.head _)).2.2.2) λo _ _ ho _=>⟨o,ho⟩);have pP:je w A gb s.heap s.gens.size (bp aB h₂ (aB.toks+1)) a ks.length F:=X.move O.stays aM.stays (λb o hb e=>aJ.extBut b o hb e) hLb hL0 rfl;refine Run.nil (Run.cons (Ot (wpAny_BinOp ?_) Mh));refine wpAny_Call_ofName (Hsp h₂ (ai hs cC.stays) _ _ _ (ak _) λv h₃ cW PS pQ=>?_);subst pQ;refine callWith_of (P:=λh'=>h₃.StaysIn h') rfl (λh' k=>Kp.builtin) (PH ?_);have xQ:=cD.keeps PS;refine PC (Ev.ao (v:=.ref l) xQ (by rw[if_neg BU];exact hmx) hfk hkx hb1 _ _ _ (ak _) λv h₄ f9 PT mJ=>?_);subst mJ;refine PC (Ev.ao (v:=.ref a) (xQ.keeps PT) (by simp) hfk hky hb2 _ _ _ (ak _) λv h₅ oU PU sW=>?_);subst sW;refine spliced_nil ⟨ai PT PU,?_⟩;have k25:h₂.StaysIn h₅:=ai PS (ai PT PU);have xN:=cC.keep k25;have Mi:je w A gb s.heap s.gens.size (bp aB h₅ oU) a ks.length F:=pP.move (L:=env.locals) O.stays cC.stays (λb o _ e=>k25 b o e) hLb hL0 rfl;have rg:dR s.heap h₅:=λb o e=>by
  refine aR (PW.bP.cE b o e) λo' e'=>?_;by_cases hb:b=env.locals
  ·refine aV cD λo' _ _ aW _=>?_;clear cD
   exact⟨o',hb▸k25 _ _ aW⟩
  ·exact⟨_,k25 _ _ (aJ.extBut b _ hb e')⟩
 refine Aj (hb:=gb) (h₀:=s.heap) kb cc hh (LF.av _ _ _ hs hl) Mi O.stays xN.stays hF hc h0 hn rg λs' z t qe fx=>?_;have Il:=eW.on xN (λb hb=>by
  rcases hb with hb|j7<;>(first|(refine aR j7 λo e=>?_;clear j7)|skip)
  ·(rcases O.fv (b:=b) hb with j3|j4|j5<;>(first|(refine gQ j3 λn o _ _ ho _=>?_;clear j3)| (refine ar j4 λo ho _=>?_;clear j4)| (refine aR j5 λps ho=>?_;clear j5)))<;>exact⟨_,ho⟩
  ·exact⟨o,O.stays _ _ e⟩) qe
 refine AutoFloatOps.wpAny_Constant_float ?_;refine PyProof.Rows.add_float ?_;have f0:Fl 0 0:=by
  have h:=Fl.ofInt (n:=0) (by decide);have e:Float64.ofInt 0=0:=by decide+kernel
  rw[e] at h;exact h
 have N3:=bO cc ks.length (2^40) λi hi=>(hc i hi).2;have hb64:ks.length*2^40<=64*2^40:=OU _ hn;have fsum:=fx.add f0 (by rw[Int.add_zero];omega);rw[Int.add_zero] at fsum;refine OR Ak (Il.frames _ (.head _)).2.2.2 (λh₇ xR fG=>?_) hp;have Im:=Il.store W xR fG;refine eP qe λj1 gbb hdd hoo=>ar j1 λwr hw hkk=>?_;clear qe j1;have step:∀b o,(∃o',s.heap.get? b=some o')->b≠env.locals->aB.heap.get? b=some o->h₇.get? b=some o:=λb o hb0 hb e=>
  fG.extBut b o hb (hkk b o (λhm=>by refine aR hb0 λo' e'=>?_;clear hb0;rw[(hw b hm).1] at e';cases e') (k25 _ _ (aJ.extBut b o hb e)))
 have go:Go ex (aS fo) s (bp s' h₇ (s'.toks+1+1+1)):=by
  refine⟨⟨λb o h1 h2 h3 e=>?_,λb o h1 h2 h3 e=>?_,λb o h1 e=>(by refine aR (Im.tabs.tab h1) λps e'=>⟨_,e'⟩)⟩,λhy=>gbb (PW.gens hy),hdd.trans PW.drawn,hoo.trans PW.os⟩
  ·have hb:b≠env.locals:=λq=>h1 (q▸W.L)
   refine step b o ⟨o,e⟩ hb (PW.bP.off b o (by simp) (λhm=>?_) h3 e);rcases OA hm with q|hm
   ·exact hb q
   ·exact h2 hm
  ·have hb:b≠env.locals:=λq=>h1 (q▸W.L)
   refine aR (PW.bP.on b o (by simp) (.tail _ h2) h3 e) λsl e'=>?_;exact⟨sl,step b _ ⟨o,e⟩ hb e'⟩
 refine hk a _ gb hs ⟨_,_,rfl,fsum⟩ (bp s' h₇ (s'.toks+1+1+1)) gb Q E W (Nat.le_add_left 1 _) (ak _) Im (λv eA g' k O' go' r=>hq v eA g' k O' (go.trans go') r) (λws b eA m' ex go' n X=>he ws b eA m' ex (go.trans go') n (X.back λd o e=>?_));refine aR (rg d o e) λo' e'=>?_;by_cases hd:d=env.locals
 ·refine aV xR λo' _ _ aW _=>?_;clear xR
  exact⟨o',hd▸aW⟩
 ·exact⟨o',fG.extBut d o' hd (hkk d o' (λhm=>by rw[(hw d hm).1] at e;cases e) e')⟩
end
abbrev aU(frs:Frs)(h:Heap):Prop:=∀p∈frs,p.1.scope.kind≠.module/\p.1.frame=some p.1.locals/\h.Ns p.1.locals p.2
theorem aU.xA(F:aU frs h):h.FunFrames (hideAll h (aS frs)) (frs.map (·.1)):=by
 have:∀(base:Heap)(l:Frs),(∀p∈l,p∈frs)->(∀p∈l,base.get? p.1.locals=none)->h.FunFrames base (l.map (·.1)):=by
  intro base l;induction l with
  |nil=>intro _ _;trivial
  |cons p l ih=>
   intro h1 h2;refine du (F p (h1 p (.head _))) λq1 q2 j1=>bf j1 λo' es ep aW bL _=>?_;clear j1;exact⟨q1,⟨_,o',q2,h2 p (.head _),aW,λvs q=>by rw[bL] at q;cases q⟩,ih (λp hp=>h1 p (.tail _ hp)) (λp hp=>h2 p (.tail _ hp))⟩
 exact this _ frs (λp hp=>hp) λp hp=>Oo _ (OE hp)
theorem aU.addrs(F:aU frs h):(frs.map (·.1)).filterMap (·.frame)=aS frs:=by
 induction frs with
 |nil=>rfl
 |cons p l ih=>
  show List.filterMap _ (p.1::l.map (·.1))=p.1.locals::aS l;rw[List.filterMap_cons,(F p (.head _)).2.1,ih λq hq=>F q (.tail _ hq)]
theorem aU.jQ(F:aU frs h){b:Addr}{vs:Array Value}(e:h.get? b=some o)(d:o.data = .fields vs):b∉Mine.aS frs:=λhm=>by refine ar (OF hm) λp hp j1=>?_;subst j1;refine bf ((F p hp).2.2) λo' es ep aW bL _=>?_;rw[e] at aW;cases aW;rw[d] at bL;cases bL
structure BV(fs:List Addr)(L a:Addr)(oe:Obj)(vs:Array Value)(T':Addr)(h h':Heap):Prop where
 off:∀b o,b≠a->vs[1]?≠some (.ref b)->b∉fs->h.get? b=some o->h'.get? b=some o
 on:∀b o,b≠a->vs[1]?≠some (.ref b)->b∈fs->h.get? b=some o->∃sl,h'.get? b=some {o with slots:=sl}
 new:h.get? T'=none
 exc:h'.get? a=some (oe.mapFields (·.setIfInBounds 1 (.ref T')))
 tb:∃ts,h'.get? T'=some {cls:=.type "traceback",dict:=none,data:=.fields ts}/\ts[3]?=some (rawInt L)/\ts[1]?=some (.ref L)
 old:∀T oT,vs[1]?=some (.ref T)->h.get? T=some oT->h'.get? T=some (oT.mapFields (·.setIfInBounds 3 .none))
section
variable{M:Model}{a:Addr}{vs:Array Value}
theorem oV{head:Value}{Al:Bool}{Q:Unit->Shared->Prop}(xx:A.frames=some (((env,m)::frs).map (·.1)))(F:aU ((env,m)::frs) s.heap)(he:s.heap.get? a=some oe)(hd:oe.data = .fields vs)(hsz:1<vs.size)(h:∀h' T',(∀b o,b≠a->b∉Mine.aS ((env,m)::frs)->s.heap.get? b=some o->h'.get? b=some o)->(∀b o,b≠a->s.heap.get? b=some o->∃sl,h'.get? b=some {o with slots:=sl})->s.heap.get? T'=none->
   h'.get? a=some (oe.mapFields (·.setIfInBounds 1 (.ref T')))->(∃ts,h'.get? T'=some {cls:=.type "traceback",dict:=none,data:=.fields ts}/\ts[3]?=some (rawInt env.locals)/\ts[1]?=some (.ref env.locals))->Q () (bp s h' s.toks)):
  wpAny M A (do let x <-frameOf env;let pl <-entryPlaceOf env.locals Al;let b <-EntryCells.newEntry head x .none (rawInt env.locals) .none pl;setField (.ref a) 1 b) Q E s:=by
 refine J' (wpAny_frameOf_fun xx F.xA (F _ (.head _)).2.1 λh₁ ie=>?_);have ku:=ie;rw[show (env::List.map (λx=>x.fst) frs)=((env,m)::frs).map (·.1) from rfl,F.addrs] at ku;refine J' (wpAny_entryPlaceOf λpl zK=>?_);unfold EntryCells.newEntry newFields;refine J' (O5 ?_ (zK.sizeOk5 _ _ _ _ _));have rh:h₁.get? a=some oe:=(ku.2.1 a (F.jQ he hd)).trans he;generalize hob:({cls:=.type "traceback",dict:=none,data:=.fields ([head,.ref env.locals,.none,rawInt env.locals,.none]++(if pl.isEmpty then List.replicate 6 Value.none else pl)).toArray}:Obj)=ob;have BW:=K' (h:=h₁) ob rh;have nT:s.heap.get? h₁.objs.size=none:=OL (by rw[ku.1];exact OM _);have lt:∀b o,s.heap.get? b=some o->b≠h₁.objs.size:=λb o e=>by rw[ku.1];exact OI (ON e)
 refine wpAny_setField BW hd hsz (h _ h₁.objs.size (λb o hb uD e=>?_) (λb o hb e=>?_) nT (Oq _ BW (Obj.isFreed_of_fields (OX hd _))) ⟨([head,.ref env.locals,.none,rawInt env.locals,.none]++(if pl.isEmpty then List.replicate 6 Value.none else pl)).toArray,?_,?_,?_⟩)
 ·rw[Heap.get?_update_other _ _ (Ne.symm hb)]
  exact K' _ ((ku.2.1 b uD).trans e)
 ·refine aR (ku.2.2 b o e) λsl e'=>?_
  rw[Heap.get?_update_other _ _ (Ne.symm hb)];exact⟨sl,K' _ e'⟩
 ·rw[Heap.get?_update_other _ _ (lt a oe he),<-hob]
  exact OC _ rfl
 ·(rcases zK with j5|j6<;>(first|(refine jE6 j6 λ_ _ _ _ _ _ j7=>cA j7 λ_ j8=>?_;clear j6 j7;subst j8)| (replace j5:=OK j5;subst j5)))<;>simp
 ·(rcases zK with j1|j2<;>(first|(refine jE6 j2 λ_ _ _ _ _ _ j3=>cA j3 λ_ j4=>?_;clear j2 j3;subst j4)| (replace j1:=OK j1;subst j1)))<;>simp
theorem ig{Q:Unit->Shared->Prop}(xx:A.frames=some (((env,m)::frs).map (·.1)))(F:aU ((env,m)::frs) s.heap)(he:s.heap.get? a=some oe)(hd:oe.data = .fields vs)(h1:vs[1]?=some .none∨∃T oT ts,vs[1]?=some (.ref T)/\T≠a/\s.heap.get? T=some oT/\oT.data = .fields ts/\ts[3]?=some .none)(h:∀h' T',BV (Mine.aS ((env,m)::frs)) env.locals a oe vs T' s.heap h'->Q () (bp s h' s.toks)):wpAny M A (noteFrame (.ref a) env) Q E s:=by
 unfold noteFrame;have hfm:env.frame=some env.locals:=(F _ (.head _)).2.1;simp only[hfm];rcases h1 with h1|j3<;>(first|(refine ez j3 λT oT ts j4=>nV j4 λh1 zO hT BX h3=>?_;clear j3 j4)|skip)
 ·refine J' (Ov he hd h1 ?_)
  rw[if_neg (by decide)];refine oV xx F he hd (Array.getElem?_eq_some_iff.mp h1).1 λh' T' o1 o2 o3 o4 o5=>h h' T' ⟨λb o hb _ hf e=>o1 b o hb hf e,λb o hb _ _ e=>o2 b o hb e,o3,o4,o5,λT oT e=>by rw[h1] at e;cases e⟩
 ·refine J' (Ov he hd h1 ?_)
  rw[if_pos (show (Value.ref T !=Value.none)=true from by simp)];refine J' (Ov hT BX h3 ?_);rw[if_neg (show ¬((Value.none==rawInt env.locals)=true) from by simp[rawInt])];refine J' (wpAny_setField hT BX (Array.getElem?_eq_some_iff.mp h3).1 ?_);have other:∀b,b≠T->(s.heap.update T (Obj.mapFields (·.setIfInBounds 3 Value.none))).get? b=s.heap.get? b:=λb hb=>OZ _ _ (OS hb);have self:=Oq (h:=s.heap) (a:=T) (Obj.mapFields (·.setIfInBounds 3 Value.none)) hT (Obj.isFreed_of_fields (OX BX _));have F':aU ((env,m)::frs) (s.heap.update T (Obj.mapFields (·.setIfInBounds 3 Value.none))):=λp hp=>by refine du (F p hp) λq1 q2 j1=>bf j1 λo' es ep aW bL r=>?_;clear j1;refine⟨q1,q2,o',es,ep,(other _ λz=>?_).trans aW,bL,r⟩;rw[z,hT] at aW;cases aW;rw[BX] at bL;cases bL
  refine oV xx F' ((other a (OS zO)).trans he) hd (Array.getElem?_eq_some_iff.mp h1).1 λh' T' o1 o2 o3 o4 o5=>h h' T' ⟨λb o hb hbT hf e=>o1 b o hb hf ((other b λz=>hbT (z▸h1)).trans e),λb o hb hbT _ e=>o2 b o hb ((other b λz=>hbT (z▸h1)).trans e),?_,o4,o5,λoq NM e e'=>?_⟩
  ·by_cases z:T'=T
   ·rw[z,self] at o3;cases o3
   ·rw[<-other T' z];exact o3
  ·rw[h1] at e;cases e
   rw[hT] at e';cases e';exact o1 T _ zO (F'.jQ self (OX BX _)) self
theorem c6{fl:Option Addr}{T:Addr}{ts:Array Value}{Q:Unit->Shared->Prop}(he:s.heap.get? a=some oe)(hd:oe.data = .fields vs)(h1:vs[1]?=some (.ref T))(hT:s.heap.get? T=some oT)(BX:oT.data = .fields ts)(h3:3<ts.size)(h:∀h',(∀b,b≠T->h'.get? b=s.heap.get? b)->h'.get? T=some (oT.mapFields (·.setIfInBounds 3 (fl.elim .none λf=>rawInt f)))->Q () (bp s h' s.toks)):wpAny M A (setFlight (.ref a) fl) Q E s:=by
 unfold setFlight;refine J' (Ov he hd h1 ?_);rw[if_pos (show (Value.ref T !=Value.none)=true from by simp)];exact wpAny_setField hT BX h3 (h _ (λb hb=>OZ _ _ (OS hb)) (Oq _ hT (Obj.isFreed_of_fields (OX BX _))))
theorem BY{fl:Option Addr}{Q:Unit->Shared->Prop}(he:s.heap.get? a=some oe)(hd:oe.data = .fields vs)(h1:vs[1]?=some .none)(h:Q () s):wpAny M A (setFlight (.ref a) fl) Q E s:=by unfold setFlight;refine J' (Ov he hd h1 ?_);rw[if_neg (by decide)];exact OD h
end
def dS(fs:List Addr)(h₀ h h':Heap):Prop:=∀b dG,h₀.get? b=some dG->∀o,h.get? b=some o->(b∉fs->h'.get? b=some o)/\(b∈fs->∃sl,h'.get? b=some {o with slots:=sl})
theorem dS.trans(x:dS fs h₀ h h')(y:dS fs h₀ h' f5):dS fs h₀ h f5:=λb dG dE o e=>
 ⟨λhb=>(y b dG dE o ((x b dG dE o e).1 hb)).1 hb,λhb=>(by refine aR ((x b dG dE o e).2 hb) λ_ bB=>(by refine aR ((y b dG dE _ bB).2 hb) λsl bR=>⟨sl,bR⟩))⟩
theorem dS.stays(k:h.StaysIn h'):dS fs h₀ h h':=λb dG dE o e=>⟨λ_=>k b o e,λ_=>⟨o.slots,k b o e⟩⟩
theorem dS.but{x:Addr}(hx:h₀.get? x=none)(k:∀b,b≠x->h'.get? b=h.get? b):dS fs h₀ h h':=λb dG dE o e=>by have:h'.get? b=some o:=(k b λz=>by rw[z,hx] at dE;cases dE).trans e;exact⟨λ_=>this,λ_=>⟨o.slots,this⟩⟩
theorem dS.rj{a T':Addr}{vs:Array Value}(N:BV fs L a oe vs T' h h')(ha:h₀.get? a=none)(hT:∀T,vs[1]?=some (.ref T)->h₀.get? T=none):dS fs h₀ h h':=λb dG dE o e=>by
 have h1:b≠a:=λz=>by rw[z,ha] at dE;cases dE
 have h2:vs[1]?≠some (.ref b):=λz=>by rw[hT b z] at dE;cases dE
 exact⟨λhb=>N.off b o h1 h2 hb e,λhb=>N.on b o h1 h2 hb e⟩
theorem dS.fR(x:dS (aS frs) h₀ h h')(fV:aU frs h₀)(F:aU frs h):aU frs h':=λp hp=>by refine du (F p hp) λq1 q2 j2=>bf j2 λo es ep ho hd r=>?_;clear j2;refine du (fV p hp) λ_ _ j1=>aV j1 λdG _ _ Io _=>?_;clear j1;refine aR ((x _ dG Io o ho).2 (OE hp)) λsl hs=>?_;exact⟨q1,q2,_,es,ep,hs,hd,r⟩
theorem dS.tabs(x:dS (aS frs) h₀ h₀ h)(fV:aU frs h₀)(T:cJ h₀):cJ h/\∀b,h₀.get? b=none->ia h b/\b∉gA:=by
 have tab:∀q∈TT,∀ps,h₀.get? q.1=some (tabObj ps)->h.get? q.1=some (tabObj ps):=λq hq ps e=>(x _ _ e _ e).1 (fV.jQ e rfl);have codes:∀cv n,h₀.CodeRec cv n->h.CodeRec cv n:=λcv n bV=>by refine hO bV λc o vs t e1 e2 e3 e4=>⟨c,o,vs,t,e1,(x _ _ e2 _ e2).1 (fV.jQ e2 e3),e3,e4⟩
 refine⟨λq hq=>?_,λb hb=>⟨λq hq ps e pos cv f z=>?_,λhm=>?_⟩⟩
 ·refine bl (T q hq) λps e a k=>?_
  exact⟨ps,tab q hq ps e,a,λpos cv f=>codes _ _ (k pos cv f)⟩
 ·refine bl (T q hq) λxm e' a k=>?_
  have:=tab q hq xm e';rw[e] at this;cases this;refine nU (k pos cv f) λc o vs t j1=>du j1 λr1 r2 _=>?_;clear j1;rw[z] at r1;cases r1;rw[hb] at r2;cases r2
 ·refine aR (T.tab hm) λps e=>?_
  rw[hb] at e;cases e
theorem dS.go(x:dS (aS frs) s.heap s.heap h)(fV:aU frs s.heap)(T:cJ s.heap):Go [] (aS frs) s (bp s h tk):=
 ⟨⟨λb o _ hb _ e=>(x b o e o e).1 hb,λb o _ hb _ e=>(x b o e o e).2 hb,λb o ht e=>(by refine aR ((x.tabs fV T).1.tab ht) λps e'=>⟨_,e'⟩)⟩,λh=>h,rfl,rfl⟩
theorem ou:plainId "proto.unchain"=true:=by decide+kernel
theorem ow:entryFor table "proto.unchain"=some Builtin.«proto.unchain»:=entryFor_of_fast (by kernel_rfl)
theorem oy{a e:Addr}{oa:Obj}{vs us:Array Value}{Q:α->Shared->Prop}(hh:A.handled=some (.ref e))(i7:a≠e)(he:s.heap.get? e=some oe)(hd:oe.data = .fields vs)(h2:vs[2]?=some .none)(ha:s.heap.get? a=some oa)(hda:oa.data = .fields us)(hu:2<us.size)(h:E (.ref a) (bp s (s.heap.update a (Obj.mapFields (·.setIfInBounds 2 (.ref e)))) s.toks)):wpAny (model pw w) A (raiseNew (.ref a):Sem α) Q E s:=by
 unfold raiseNew;refine J' (wpAny_handled ?_);rw[hh];dsimp only;rw[if_pos (by simp;exact λz=>i7 z.symm)];refine J' (Ol (wpAny_runValue (O9 ow ?_)));rw[Around.under_plainId ou _];unfold Builtin.«proto.unchain»;refine J' (Ov he hd h2 ?_);rw[if_pos (by decide)];refine OD ?_;refine J' (wpAny_setField (i:=2) (x:=.ref e) ha hda hu ?_);exact wpAny_throw h
theorem k_stat(w:World):∃(q:Str)(dd:Option Addr)(k0 k1 k2 k3 k5:Option Value),(K w.params).lookup 102 =
  some (excClassObj (Str.ofString "StatisticsError") q 102 101 [.type "ValueError"] [.type "ValueError",.type "Exception",.type "BaseException",.type "object"] true [] [] false none dd k0 k1 k2 k3 k5 "ValueError.__new__"):=
 ⟨_,_,_,_,_,_,_,rfl⟩
section
variable{M:Model}
variable{nm q:Str}{C N:Addr}{bs bm:List Value}{hdct:Bool}{sn:List Str}{sub:List Value}{ab:Bool}{col:Option Bool}{dd:Option Addr}{k0 k1 k2 k3 k5:Option Value}{newId:String}
theorem oA{x:Sem Value}{Q:Flow->Shared->Prop}(mC:bm.contains (.type "BaseException")=true)(h:wpAny M A x (λv aB=>∃e t,v = .ref e/\aB.heap.get? C=some (excClassObj nm q C N bs bm hdct sn sub ab col dd k0 k1 k2 k3 k5 newId)/\
   aB.heap.get? e=some {cls:=.ref C,data:=.fields #[.ref t,.none,.none,.none,.bool false,.none]}/\wpAny M A (raiseNew (.ref e):Sem Flow) Q E aB) E s):
  wpAny M A (raiseStmt env (some x) none) Q E s:=by
 have hcB:(Value.ref C::bm).contains (.type "BaseException")=true:=by rw[List.contains_cons,mC,Bool.or_true]
 unfold raiseStmt;refine J' (Oj h (λv aB h₁=>?_) λ_ _ x=>x);refine oM h₁ λe t j1=>eP j1 λj2 hC he hE=>?_;clear h₁ j1;subst j2;rcases aB with⟨hp,g,d,tk,os⟩;repeat (first|with_reducible refine wpAny_loadPart_at he ?_|with_reducible refine wpAny_loadPart_at hC ?_| (with_reducible refine wpAny_isSubtype_exc hC ?_;rw[hcB])|wp_step)
 exact hE
end
noncomputable def nsOk(K:Frag)(N:Addr):Bool:=match K.lookup N with
 |some ⟨_,_,.dict es _,_⟩=>es.toList.all λe=>match e.key with| .str _ _=>true|_=>false
 |_=>false
theorem uE{K:Frag}{N:Addr}(X:K.In h)(e:nsOk K N=true):∃m,h.Ns N m:=by
 unfold nsOk at e;split at e
 ·rename_i c d es ep sl q
  refine⟨nsFind es,_,es,ep,X _ _ q,rfl,λen he=>?_,λ_=>rfl⟩;have:=List.all_eq_true.mp e en (by simpa using he);split at this
  ·rename_i n t hk;exact⟨n,t,hk⟩
  ·cases this
 ·cases e
theorem BZ(p:Params):nsOk (K p) 101=true:=by kernel_rfl
section
variable{x:Str}{np Mj:Pos}{k:Nat}{Q:Flow->Shared->Prop}
theorem mK(G:Gl w s.heap)(Hn:om w A s.heap env (.Name x np) (.ref 102))(h:∀h' tk a tp t,s.heap.StaysIn h'->s.heap.get? a=none->h'.get? a=some {cls:=.ref 102,data:=.fields #[.ref tp,.none,.none,.none,.bool false,.none]}->s.heap.get? tp=none->h'.get? tp=some {cls:=.type "tuple",data:=.seq #[.str ws t]}->
   wpAny (model pw w) A (raiseNew (.ref a):Sem Flow) Q E (bp s h' tk)):
  wpAny (model pw w) A (exec (.Raise (some (.Call (.Name x np) [.Constant (.str ws) k p3] [] Mj)) none pos) env) Q E s:=by
 refine BA (k_stat w) λq dd k0 k1 k2 k3 k5 hk=>?_;have sM:nsIn (K w.params) 101 (Str.ofString "__init__")=some none:=by k_is
 rw[arm_exec_Raise];refine J' (wpAny_standAt (oA (nm:=Str.ofString "StatisticsError") (C:=102) (q:=q) (N:=101) (bs:=[.type "ValueError"]) (hdct:=true) (sn:=[]) (sub:=[]) (ab:=false) (col:=none) (newId:="ValueError.__new__") (dd:=dd) (k0:=k0) (k1:=k1) (k2:=k2) (k3:=k3) (k5:=k5) PySem.F.excBase_ValueError.hasBase
  (J' (Oj (wpAny_Call_ofName (Hn s _ _ (ak _) λv h₁ bg PO bB=>?_)) (λv cq h₃=>J' (wpAny_standAt (OD h₃))) λ_ _ x=>x))))
 subst bB;have mq:=G.mono PO;refine callWith_of (P:=λh'=>h₁.StaysIn h') rfl (λh' k=>Kp.K (mq.mono k) (by k_is)) (PH ?_);refine PC (wpAny_Constant_str (k:=k) (pos:=p3) (spliced_nil ⟨ak _,?_⟩));have hC:=mq.K _ _ hk;refine aR (uE mq.K (BZ _)) λmN hN=>?_;refine wpAny_call_exc_sub PySem.F.excBase_ValueError hC hN (ns_none_of mq.K hN sM) (λh' a hm=>?_);refine bl hm.there λtp t1 t2 t3=>?_;exact⟨a,tp,rfl,hm.keeps _ _ hC,t1,h h' _ a tp _ (ai PO hm.keeps) ((show dR s.heap h₁ from λb o e=>⟨o,PO b o e⟩).none hm.new) t1 ((show dR s.heap h₁ from λb o e=>⟨o,PO b o e⟩).none t2) t3⟩
end
theorem vU:isSubtype (.type "ZeroDivisionError") (.type "BaseException")=pure true:=by rw[isSubtype_type];kernel_rfl
theorem pR:isSubtype (.type ((Manifest.find? "ZeroDivisionError").elim "type" λx=>x.metatype)) (.type "tuple")=pure false:=by rw[isSubtype_type];kernel_rfl
theorem Am:isSubtype (.type "ZeroDivisionError") (.type "ZeroDivisionError")=pure true:=by rw[isSubtype_type];kernel_rfl
section
variable{ex:List Addr}{body:List Stmt}{R:Value->Heap->Prop}{ze se:Str}{k:Nat}
theorem aP.pS(xx:A.frames=some (env::fo.map (·.1)))(hh:A.handled=none)(G:Gl w g)(Hz:∀(s:Shared)(hb:Heap)(Q:Flow->Shared->Prop)(E:Value->Shared->Prop),g.StaysIn hb->On ((env,m)::fo) (cs++cso) hb s.heap->
   (∀(aB:Shared)(h':Heap)(tk:Nat)(e':Addr),Go [] (aS ((env,m)::fo)) s aB->On ((env,m)::fo) (cs++cso) hb aB.heap->Heap.NewExc aB.heap h' e' "ZeroDivisionError"->E (.ref e') (bp aB h' tk))->wpAny (model pw w) A (execs body env) Q E s)(Hn:∀A' h',g.StaysIn h'->om w A' h' env (.Name ze p1) (.type "ZeroDivisionError"))(Hs:∀A' h',g.StaysIn h'->om w A' h' env (.Name se p2) (.ref 102)):
  aP n w A env fo cs cso ex g m ((.Try body [.ExceptHandler (some (.Name ze p1)) none [.Raise (some (.Call (.Name se p2) [.Constant (.str ws) k p3] [] p4)) none p5] p6] orelse [] pos::rest)::bs) R (some ws):=λs gb Q E W tz hs O hq he=>by
 refine Run.cons (wpAny_Try_except (Hz s gb _ _ hs O λaB h₁ tk e go aM N=>?_));have hL:env.frame=some env.locals:=(aM.frames _ (.head _)).2.1;have fV:aU ((env,m)::fo) aB.heap:=λp hp=>(by refine eP (aM.frames p hp) λa b _ d=>⟨a,b,d⟩);have An:A.frames=some (((env,m)::fo).map (·.1)):=xx;have NO:g.StaysIn aB.heap:=ai hs aM.stays;have gn:∀{h:Heap},dS (aS ((env,m)::fo)) aB.heap aB.heap h->gb.StaysIn h:=λb x o e=>(b x o (aM.stays x o e) o (aM.stays x o e)).1 λhm=>by refine ar (OF hm) λp hp j1=>?_;subst j1;rw[(aM.frames p hp).2.2.1] at e;cases e
 refine aG N.there λob t0 he1 hc1 hd1=>?_;have Ao:dS (aS ((env,m)::fo)) aB.heap aB.heap h₁:=.stays N.keeps;refine ig An (Ao.fR fV fV) he1 hd1 (.inl rfl) λh₂ dX ik=>?_;have ip:aB.heap.get? dX=none:=(show dR aB.heap h₁ from λb o e=>⟨o,N.keeps b o e⟩).none ik.new;have Ea:=Ao.trans (.rj ik N.new (λT e=>by cases e));refine bl ik.tb λts jL t3 _=>?_;have hd2:=OX hd1 (·.setIfInBounds 1 (Value.ref dX));have l3:3<ts.size:=(Array.getElem?_eq_some_iff.mp t3).1;refine c6 (T:=dX) ik.exc hd2 rfl jL rfl l3 λh₃ PS xS=>?_;have mM:=Ea.trans (.but ip PS);have eT:e≠dX:=λz=>by have:=ik.new;rw[<-z,he1] at this;cases this
 have he3:=(PS e eT).trans ik.exc;refine wpAny_handleBy_builtin vU pR Am (Hn _ _ (ai hs (gn mM)) _ _ _ (ak _) λv h₄ f9 PT mJ=>⟨mJ,⟨_,PT _ _ he3,(Obj.cls_mapFields _ _).trans hc1⟩,?_⟩);rw[if_pos rfl];have rl:=mM.trans (.stays PT);have hd3:=OX (o:={cls:=.type "traceback",dict:=none,data:=.fields ts}) rfl (·.setIfInBounds 3 ((none:Option Addr).elim Value.none λf=>rawInt f));refine c6 (T:=dX) (PT _ _ he3) hd2 rfl (PT _ _ xS) hd3 (by simpa using l3) λh₅ PU rm=>?_;have kC:=rl.trans (.but ip PU);have he5:=(PU e eT).trans (PT _ _ he3);refine OT (mK (s:=(bp aB h₅ f9)) (G.mono (ai hs (gn kC))) (Hs _ _ (ai hs (gn kC))) λh₆ iq a tp t kx na ha ntp F7=>?_);have rn:=kC.trans (.stays kx);have rg:dR aB.heap h₅:=λb o e=>by
  by_cases hb:b∈aS ((env,m)::fo)
  ·refine aR ((kC b o e o e).2 hb) λsl h=>⟨_,h⟩
  ·exact⟨_,(kC b o e o e).1 hb⟩
 have uF:aB.heap.get? a=none:=rg.none na;have Mk:aB.heap.get? tp=none:=rg.none ntp;have ae:a≠e:=λz=>by rw[z,he5] at na;cases na
 refine oy (e:=e) rfl ae (kx _ _ he5) hd2 rfl ha rfl (by simp) ?_;have kA:∀b,b≠a->(h₆.update a (Obj.mapFields (·.setIfInBounds 2 (.ref e)))).get? b=h₆.get? b:=λb hb=>OZ _ _ (OS hb);have sA:=Oq (h:=h₆) (a:=a) (Obj.mapFields (·.setIfInBounds 2 (.ref e))) ha rfl;generalize hH:h₆.update a (Obj.mapFields (·.setIfInBounds 2 (.ref e)))=h₇ at kA sA ⊢;have jm:=rn.trans (.but uF kA);have dA:=OX (o:={cls:=.ref 102,data:=.fields #[.ref tp,.none,.none,.none,.bool false,.none]}) rfl (·.setIfInBounds 2 (.ref e));show wpAny (model pw w) (A.mark (some (.ref e))) (noteFrame (.ref a) env) (λ_ eA=>cameBackBy (model pw w) A env E (.ref a) eA) (cameBackBy (model pw w) A env E) _;have Ip:tp≠a:=λz=>by rw[z,ha] at F7;cases F7
 refine ig (A:=A.mark (some (.ref e))) An (jm.fR fV fV) sA dA (.inl rfl) λh₈ oq pU=>?_;have Iq:dR aB.heap h₇:=λb o e=>by
  by_cases hb:b∈aS ((env,m)::fo)
  ·refine aR ((jm b o e o e).2 hb) λsl h=>⟨_,h⟩
  ·exact⟨_,(jm b o e o e).1 hb⟩
 have uG:aB.heap.get? oq=none:=Iq.none pU.new;have mO:=jm.trans (.rj pU uF (λT e=>by cases e));refine bl pU.tb λts' qS t3' _=>?_;have l3':3<ts'.size:=(Array.getElem?_eq_some_iff.mp t3').1;have dA8:=OX dA (·.setIfInBounds 1 (Value.ref oq));unfold cameBackBy;refine J' (Ov pU.exc dA8 (i:=1) (x:=.ref oq) rfl ?_);rw[if_neg (by simp)];rw[hL];refine c6 (T:=oq) pU.exc dA8 rfl qS rfl l3' λPg Pa Ir=>?_;have xT:=mO.trans (.but uG Pa);refine cA (xT.tabs fV aM.tabs) λTO fr=>?_;have B0:a≠oq:=λz=>by have:=pU.new;rw[<-z,sA] at this;cases this
 have Eb:tp≠oq:=λz=>by have:=pU.new;rw[<-z,kA tp Ip,F7] at this;cases this
 have It:h₇.get? tp=some {cls:=.type "tuple",data:=.seq #[.str ws t]}:=(kA tp Ip).trans F7;have Ml:=jm.fR fV fV;have Mm:Pg.get? tp=some {cls:=.type "tuple",data:=.seq #[.str ws t]}:=(Pa tp Eb).trans (pU.off tp _ Ip (by simp[Array.getElem?_setIfInBounds]) (λhm=>by refine ar (OF hm) λp hp z=>?_;refine bf ((Ml p hp).2.2) λo' es ep aW bL _=>?_;rw[z,It] at aW;cases aW;cases bL) It)
 have goB:=go.trans (xT.go (tk:=iq) fV aM.tabs);refine he ws a _ m rfl (goB.body W.L) (xT.fR fV fV _ (.head _)).2.2 (pN.back go.bP.cE ⟨uF,TO,(fr a uF).1,_,_,tp,t,_,(Pa a B0).trans pU.exc,?_,dA8,rfl,Mm,rfl,rfl,.inr ⟨oq,_,_,rfl,uG,OS B0,Ir,OX rfl _,.inr ⟨env.locals,rfl,?_⟩,(fr oq uG).1,(fr oq uG).2⟩⟩)
 ·rw[Obj.cls_mapFields,Obj.cls_mapFields]
 ·rw[Array.getElem?_setIfInBounds_self_of_lt l3'];rfl
end
theorem Ec{K:Frag}{N:Addr}{n:Str}(X:K.In h)(G:h.Ns N mg)(e:nsIn K N n=some (some v)):mg n=some v:=by
 refine dj G λo es ep ho hd _ hf=>?_;clear G;unfold nsIn at e;split at e
 ·rename_i c d es' n' sl q
  have:=X _ _ q;rw[ho] at this;cases this;cases hd;split at e
  ·rename_i en he
   cases e;rw[<-hf];unfold nsFind findBy;rw[<-Array.find?_toList,he];rfl
  ·split at e<;>cases e
 ·cases e
inductive Fills(m:Str->Option Value)(d:Addr):Sem (List (Str×Value))->List (Str×Value)->Prop
 |done {b}:Fills m d (pure b) b
 |get {name:Str}{v:Value}{k:Option Value->Sem (List (Str×Value))}{b} (hv:m name=some v) (r:Fills m d (k (some v)) b):Fills m d (nsGet d name >>= k) b
theorem Iu{fd:FuncData}{args:Args}{d:Addr}(hn:h.Ns d m)(F:Fills m d (bindArgs fd args) binds)(s:Shared)(hs:h.StaysIn s.heap):BindsTo s fd args binds:=λM A E Q hq=>by
 have fe:=hn.keeps hs;generalize bindArgs fd args=t at F ⊢;induction F with
 |done=>exact OD hq
 |get hv r ih=>exact J' (wpAny_nsGet fe (by rw[hv];exact ih hq))
theorem NP(p:Params):nsOk (K p) 421=true:=by kernel_rfl
theorem NQ(p:Params):nsOk (K p) 344=true:=by kernel_rfl
theorem NR(p:Params):nsOk (K p) 314=true:=by kernel_rfl
def oB(ws:Str)(t:Tok)(e:Addr)(h:Heap):Prop:=∃o vs tp,h.get? e=some o/\o.cls = .ref 102/\o.data = .fields vs/\vs[0]?=some (.ref tp)/\h.TupAt tp [.str ws t]
theorem vV:builtinKind "BaseException.__str__"=some .slot:=by decide+kernel
theorem sX:splitId "BaseException.__str__"=some ("BaseException","__str__"):=by decide+kernel
section
open Builtin Builtin.Str Builtin.BaseException Builtin.Exceptions
variable{e:Addr}
theorem pV{Q:Value×List Value->Shared->Prop}(x:oB ws t e s.heap)(hq:∀tp,Q (.ref tp,[.str ws t]) s):wpAny (model pw w) A (bexcArgs (.ref e)) Q E s:=by refine ez x λo vs tp j1=>nV j1 λho _ hd h0 j2=>aG j2 λot k hto _ htd=>?_;clear x j1 j2;unfold bexcArgs;refine J' (Ov ho hd h0 (J' (PB hto htd ?_)));exact OD (hq tp)
theorem xU{Q:Fin->Shared->Prop}(x:oB ws t e s.heap)(hq:Q (.done (.ret (.str ws t))) s):wpAny (model pw w) A (Builtin.«BaseException.__str__» ⟨[.ref e],[]⟩) Q E s:=by
 unfold Builtin.«BaseException.__str__»;repeat (first|with_reducible refine pV x λtp=>?_|wp_step)
 exact hq
theorem Ed{g:Array GenState}{d:Drawn}{os:OsState}(G:Gl w h){Q:Unit->Shared->Prop}(ho:h.get? e=some o)(hc:o.cls = .ref 102)(hq:Q () ⟨h,g,d,tk,os⟩):wpAny (model pw w) A (checkBuiltinCall "BaseException.__str__" ⟨[.ref e],[]⟩) Q E ⟨h,g,d,tk,os⟩:=by refine BA (k_stat w) λq dd k0 k1 k2 k3 k5 hk=>?_;have hC:=G.K _ _ hk;have:=@wpAny_check_slot_inst A E h g d tk os (Str.ofString "StatisticsError") q 102 101 e [.type "ValueError"] [.type "ValueError",.type "Exception",.type "BaseException",.type "object"] true [] [] false none dd k0 k1 k2 k3 k5 "ValueError.__new__" (model pw w) "BaseException.__str__" "BaseException" "__str__" o [] Q vV sX;have h1:argsOk "BaseException.__str__" ⟨[.ref e],[]⟩:=PySem.F.args_bexc_str (.ref e);have h2:([.type "ValueError",.type "Exception",.type "BaseException",.type "object"]:List Value).contains (.type "BaseException")=true:=PySem.F.excBase_ValueError.hasBase;have t1:=this h1;have t2:=t1 h2;have t3:=t2 ho hc hC;exact t3 hq
theorem mP(G:Gl w s.heap){Q:Unit->Shared->Prop}(x:oB ws t e s.heap)(hq:Q () s):wpAny (model pw w) A (checkBuiltinCall "BaseException.__str__" ⟨[.ref e],[]⟩) Q E s:=by refine bf x λo vs tp ho hc r=>?_;clear x;exact Ed (h:=s.heap) (g:=s.gens) (d:=s.drawn) (tk:=s.toks) (os:=s.os) G ho hc hq
theorem oC(G:Gl w s.heap)(x:oB ws t e s.heap)(hq:Q (.str ws t) s):wpAny (model pw w) A (call (.builtin "BaseException.__str__") [.ref e]) Q E s:=by refine wpAny_call (codeAny_call_builtin PySem.F.excStr_ValueError.str.plain PySem.F.entry_bexc_str ?_);exact mP G x (xU x hq)
theorem lJ(G:Gl w s.heap){Q:Option Value->Shared->Prop}(x:oB ws t e s.heap)(hq:Q (some (.str ws t)) s):wpAny (model pw w) A (callSpecial? (.ref e) "__str__") Q E s:=by
 refine BA (k_stat w) λq dd k0 k1 k2 k3 k5 hk=>?_;have hC:=G.K _ _ hk;refine bf (id x) λo vs tp ho hc r=>?_;refine aR (uE G.K (BZ _)) λmN hN=>?_;have sM:nsIn (K w.params) 101 (Str.ofString "__str__")=some none:=by k_is
 simp only[callSpecial?];refine J' (wpAny_specialOf_inst (h:=s.heap) (g:=s.gens) (d:=s.drawn) (t:=s.toks) (os:=s.os) (B:="ValueError") (bm:=[.type "ValueError",.type "Exception",.type "BaseException",.type "object"]) (mN:=mN) ho hc hC hN (ns_none_of G.K hN sM) PySem.F.excBase_ValueError.mroIs PySem.F.excStr_ValueError.str.lookup ?_);simp only[PySem.F.excStr_ValueError.str.bind];exact Ol (J' (OD (J' (Oj (oC G x hq) (λv s' h'=>OD h') λ_ _ h'=>h'))))
theorem vW(G:Gl w s.heap)(hu:A.units<cLine)(x:oB ws t e s.heap)(hq:Q (.str ws t) s):wpAny (model pw w) A (Builtin.Str.strOf (.ref e)) Q E s:=by
 unfold Builtin.Str.strOf;repeat (first|with_reducible refine wpAny_cRoomFor hu ?_|with_reducible refine lJ G x ?_|wp_step)
 exact hq
theorem Ap(G:Gl w s.heap)(hu:A.units+2<cLine)(x:oB ws t e s.heap)(h:Q (.str ws t) s):wpAny (model pw w) A (call (.type "str") [.ref e]) Q E s:=
 callType_newIn F.called_str (by decide) (F.typeCall_str_1 _) (F.newCall_str_1 _) (λobj=>F.args_object_init_2 obj _) F.entry_str_new
  (S:=λA' R s'=>A'.units+1<cLine/\Gl w s'.heap/\oB ws t e s'.heap/\R (.ok (.ret (.str ws t))) s')
  (MeetsIn.of_wp λA' R s' hq=>by rw[str_new_tree];refine J' (OD ?_);refine J' (wpAny_of_eq isSubtype_str_str ?_);exact J' (vW (A:=A'.in1) hq.2.1 hq.1 hq.2.2.1 (OD ⟨_,rfl,hq.2.2.2⟩)))
  ⟨(show A.units+1+1<cLine from hu),G,x,typeIs_str _ _ _,h⟩
end
theorem Ee:bootBuiltins (Str.ofString "str")=some (.type "str"):=by decide+kernel
section
variable{e:Addr}
theorem vZ(G:Gl w s.heap)(ho:s.heap.get? e=some o)(hc:o.cls = .ref 102){Q:Bool->Shared->Prop}(hq:Q true s):wpAny (model pw w) A (excMatches (.ref e) (.ref 102)) Q E s:=by refine BA (k_stat w) λq dd k0 k1 k2 k3 k5 hk=>?_;have hC:=G.K _ _ hk;have:=@wpAny_excMatches_sub_self (model pw w) A E (Str.ofString "StatisticsError") q 102 101 [.type "ValueError"] [.type "ValueError",.type "Exception",.type "BaseException",.type "object"] true [] [] false none dd k0 k1 k2 k3 k5 "ValueError.__new__" s.heap s.gens s.drawn s.toks s.os e o Q;exact this hC ho hc PySem.F.excBase_ValueError.hasBase hq
end
theorem dS.finish{ex:List Addr}{gb:Heap}{gw:List Addr}(W:Own env fo cs cso ex)(O:On ((env,m)::fo) (cs++cso) gb s.heap)(go:Go [] (aS ((env,m)::fo)) s aB)(T:cJ aB.heap)(hh:∀b∈gw,b=env.locals∨(s.heap.get? b=none/\ia aB.heap b))(hd:∀b∈gw,b∉gA)(hF:∀p∈fo,p.1.locals∉gw)(B:dS (aS fo) (hideAll aB.heap gw) (hideAll aB.heap gw) h'):On fo cso gb h'/\Go ex (aS fo) s (bp aB h' tk):=by
 have aM:=O.jb go.bP T;have F₁:aU ((env,m)::fo) aB.heap:=λp hp=>(by refine eP (aM.frames p hp) λa b _ d=>⟨a,b,d⟩);have get:∀b o,aB.heap.get? b=some o->b∉gw->(hideAll aB.heap gw).get? b=some o:=λb o e hb=>OO _ e hb;have pW:∀b o,s.heap.get? b=some o->b≠env.locals->b∉gw:=λb o e hb hm=>by
  rcases hh b hm with z|j8<;>(first|(refine cA j8 λz _=>?_;clear j8)|skip)
  ·exact hb z
  ·rw[e] at z;cases z
 have fV:aU fo (hideAll aB.heap gw):=λp hp=>by refine du (F₁ p (.tail _ hp)) λq1 q2 j6=>aV j6 λo es ep ho r=>?_;clear j6;exact⟨q1,q2,o,es,ep,get _ _ ho (hF p hp),r⟩
 have gZ:cJ (hideAll aB.heap gw):=λq hq=>by
  refine bl (T q hq) λps e a k=>?_;refine⟨ps,get _ _ e (λhm=>hd _ hm (OE hq)),a,λpos cv f=>?_⟩;refine hO (k pos cv f) λc o vs t r1 r2 r3 r4=>?_;refine⟨c,o,vs,t,r1,get _ _ r2 (λhm=>?_),r3,r4⟩;rcases hh c hm with z|j5<;>(first|(refine cA j5 λ_ z=>?_;clear j5)|skip)
  ·refine bf ((F₁ _ (.head _)).2.2) λo' es ep aW bL _=>?_
   dsimp only at aW;rw[<-z,r2] at aW;cases aW;rw[r3] at bL;cases bL
  ·exact z q hq ps e pos cv f r1
 refine cA (B.tabs fV gZ) λT' _=>?_;have hL:∀b,b≠env.locals->(b∈aS ((env,m)::fo)<->b∈aS fo):=λb hb=>by
  constructor
  ·intro h
   rcases OA h with z|h
   ·exact absurd z hb
   ·exact h
  ·exact λh=>.tail _ h
 have S:eB ex (aS fo) s.heap h':=by
  refine⟨λb o h1 h2 h3 e=>?_,λb o h1 h2 h3 e=>?_,λb o h1 e=>(by refine aR (T'.tab h1) λps e'=>⟨_,e'⟩)⟩
  ·have hb:b≠env.locals:=λz=>h1 (z▸W.L)
   have bB:=go.bP.off b o (by simp) (λhm=>h2 ((hL b hb).mp hm)) h3 e;have bR:=get _ _ bB (pW b o e hb);exact (B b o bR o bR).1 h2
  ·have hb:b≠env.locals:=λz=>h1 (z▸W.L)
   refine aR (go.bP.on b o (by simp) ((hL b hb).mpr h2) h3 e) λsl bB=>?_;have bR:=get _ _ bB (pW b o e hb);refine aR ((B b _ bR _ bR).2 h2) λBM pQ=>?_;exact⟨BM,pQ⟩
 refine⟨⟨λb o e=>?_,λp hp=>?_,λc hc=>?_,T',O.dT⟩,S,go.gens,go.drawn,go.os⟩
 ·have hb:b≠env.locals:=λz=>by rw[z,(O.frames _ (.head _)).2.2.1] at e;cases e
  have hf:b∉aS fo:=λhm=>by refine ar (OF hm) λp hp j3=>?_;subst j3;rw[(O.frames p (.tail _ hp)).2.2.1] at e;cases e
  have bR:=get _ _ (aM.stays b o e) (pW b o (O.stays b o e) hb);exact (B b o bR o bR).1 hf
 ·refine eP (O.frames p (.tail _ hp)) λq1 q2 q3 q4=>?_
  exact⟨q1,q2,q3,(B.fR fV fV p hp).2.2⟩
 ·refine cA (aM.cells c (OP _ hc)) λn j2=>ar j2 λo ho bL=>?_;clear j2
  refine cA (O.cells c (OP _ hc)) λ_ j1=>ar j1 λoS hoS _=>?_;clear j1;have hb:c≠env.locals:=λz=>by refine bf ((F₁ _ (.head _)).2.2) λo' es ep aW eK _=>?_;dsimp only at aW;rw[<-z,ho] at aW;cases aW;rw[bL] at eK;cases eK
  have hf:c∉aS fo:=λhm=>by refine ar (OF hm) λp hp z=>?_;refine bf ((F₁ p (.tail _ hp)).2.2) λo' es ep aW eK _=>?_;rw[z,ho] at aW;cases aW;rw[bL] at eK;cases eK
  have bR:=get _ _ ho (pW c oS hoS hb);exact⟨n,o,(B c o bR o bR).1 hf,bL⟩
theorem dS.wide(x:dS fs h₀ h h')(k:∀b,(∃o,h₀.get? b=some o)->(b∈fs<->b∈KG)):dS KG h₀ h h':=λb dG dE o e=>
 ⟨λhb=>(x b dG dE o e).1 λhm=>hb ((k b ⟨dG,dE⟩).mp hm),λhb=>(x b dG dE o e).2 ((k b ⟨dG,dE⟩).mpr hb)⟩
section
variable{ex:List Addr}{R:Value->Heap->Prop}{se er st wo:Str}{tw:Tok}{ce:Expr}
theorem aP.catch(xx:A.frames=some (env::fo.map (·.1)))(hh:A.handled=none)(hu:A.units+2<cLine)(G:Gl w g)(Hc:aF w A ((env,m)::fo) (cs++cso) g env ce (λ_ _=>False) (some ws))(Hs:∀A' h',g.StaysIn h'->om w A' h' env (.Name se p1) (.ref 102))(Hst:∀A' h' m',g.StaysIn h'->h'.Ns env.locals m'->om w A' h' env (.Name st p2) (.type "str"))(hR:∀h',R (.bool true) h')(hk:env.scope.kind = .function)(hle:env.kindOf er=some .local)(hlw:env.kindOf wo=some .local)(hmw:m wo=some (.str ws tw))(i7:wo≠er)(hp:(env.scope.kind == .class||(env.scope.kind == .module&&env.locals !=env.globals))=false)(hi:interactive env=false)(kn:swapsWith ce none p8.line env=pure false)(hb1:(er==("__debug__":Str))=false)(hb2:(wo==("__debug__":Str))=false):
  aP n w A env fo cs cso ex g m ((.Try [.Expr ce p8] [.ExceptHandler (some (.Name se p1)) (some er) [.Return (some (.Compare (.Call (.Name st p2) [.Name er p3] [] p4) [.Eq] [.Name wo p5] p6)) p7] p9] orelse [] pos::rest)::bs) R x:=λs gb Q E W tz hs O hq he=>by
 refine Run.cons (wpAny_Try_except (OT (wpAny_Expr (Hc s gb _ _ hs O (λv s' eJ _ _ _ f=>f.elim) (λws' a aB ex go X=>?_)) hi kn)));cases ex;refine eP X λea T zO Iv=>qK Iv λo vs tp t ot Iw=>qL Iw λh1 h2 h3 h4 h5 h6 h7 h8=>?_;clear X Iv Iw;have aM:=O.jb go.bP T;have hL:env.frame=some env.locals:=(aM.frames _ (.head _)).2.1;have F₁:aU ((env,m)::fo) aB.heap:=λp hp=>(by refine eP (aM.frames p hp) λa b _ d=>⟨a,b,d⟩);have An:A.frames=some (((env,m)::fo).map (·.1)):=xx;have h8':vs[1]?=some .none∨∃T oT ts,vs[1]?=some (.ref T)/\T≠a/\aB.heap.get? T=some oT/\oT.data = .fields ts/\ts[3]?=some .none:=by
  rcases h8 with h8|Ef<;>(first|(refine ez Ef λT oT ts zP=>FV zP λa1 a2 a3 a4 a5 F8 _=>?_;clear Ef zP;rcases F8 with a6|Iy<;>(first|(refine ar Iy λl q _=>?_;clear Iy)|skip))|skip)
  ·exact .inl h8
  ·exact .inr ⟨T,oT,ts,a1,a3,a4,a5,a6⟩
  ·cases q
 obtain⟨gw,bX,xV,Iz⟩:∃gw:List Addr,(a∈gw/\(∀T,vs[1]?=some (.ref T)->T∈gw)/\env.locals∈gw)/\(∀b∈gw,b=env.locals∨(s.heap.get? b=none/\ia aB.heap b))/\∀b∈gw,b∉gA:=by
  have aT:a∉gA:=λhm=>by refine aR (T.tab hm) λps e=>?_;rw[h1] at e;cases e;cases h2
  have lT:env.locals∉gA:=T.ns (F₁ _ (.head _)).2.2;rcases h8 with h8|w0<;>(first|(refine ez w0 λT' oT ts sF=>qL sF λa1 a2 a3 a4 a5 _ a7 a8=>?_;clear w0 sF)|skip)
  ·refine⟨[a,env.locals],⟨by simp,λT e=>(by rw[h8] at e;cases e),by simp⟩,λb hb=>?_,λb hb=>?_⟩
   ·rcases OA hb with sY|hb<;>(first|(replace sY:=OK sY;subst sY)|skip)
    ·exact .inr ⟨ea,zO⟩
    ·exact .inl (O0 hb)
   ·rcases OA hb with Aq|hb<;>(first|(replace Aq:=OK Aq;subst Aq)|skip)
    ·exact aT
    ·rw[List.mem_singleton.mp hb];exact lT
  ·refine⟨[a,T',env.locals],⟨by simp,λT e=>(by rw[a1] at e;cases e;simp),by simp⟩,λb hb=>?_,λb hb=>?_⟩
   ·rcases OA hb with pX|hb<;>(first|(replace pX:=OK pX;subst pX)|skip)
    ·exact .inr ⟨ea,zO⟩
    ·rcases OA hb with ro|hb<;>(first|(replace ro:=OK ro;subst ro)|skip)
     ·exact .inr ⟨a2,a7⟩
     ·exact .inl (O0 hb)
   ·rcases OA hb with pY|hb<;>(first|(replace pY:=OK pY;subst pY)|skip)
    ·exact aT
    ·rcases OA hb with uH|hb<;>(first|(replace uH:=OK uH;subst uH)|skip)
     ·exact a8
     ·rw[List.mem_singleton.mp hb];exact lT
 refine du bX λma mT mL=>?_;clear bX;have hF:∀p∈fo,p.1.locals∉gw:=λp hp hm=>by
  rcases xV _ hm with z|jc<;>(first|(refine cA jc λz _=>?_;clear jc)|skip)
  ·exact W.Lf (z▸OE hp)
  ·refine aV ((O.frames p (.tail _ hp)).2.2.2) λo' _ _ aW _=>?_
   rw[z] at aW;cases aW
 have get:∀b o,aB.heap.get? b=some o->b∉gw->(hideAll aB.heap gw).get? b=some o:=λb o e hb=>OO _ e hb;have rp:∀b,b∈gw->(hideAll aB.heap gw).get? b=none:=λb hb=>Oo _ hb;have IA:∀b,aB.heap.get? b=none->(hideAll aB.heap gw).get? b=none:=λb e=>by
  cases q:(hideAll aB.heap gw).get? b with
  |none=>rfl
  |some o=>rw[of_hideAll _ q] at e;cases e
 have IB:∀b,(∃o,(hideAll aB.heap gw).get? b=some o)->(b∈aS ((env,m)::fo)<->b∈aS fo):=λb bV=>by
  refine aR bV λo e=>?_;clear bV;have hb:b≠env.locals:=λz=>by rw[z,rp _ mL] at e;cases e
  constructor
  ·intro h
   rcases OA h with z|h
   ·exact absurd z hb
   ·exact h
  ·exact λh=>.tail _ h
 have Mn:∀b o,gb.get? b=some o->(hideAll aB.heap gw).get? b=some o/\b∉aS fo:=λb o e=>by
  refine⟨get _ _ (aM.stays b o e) λhm=>?_,λhm=>?_⟩
  ·rcases xV _ hm with z|eR<;>(first|(refine cA eR λz _=>?_;clear eR)|skip)
   ·rw[z,(O.frames _ (.head _)).2.2.1] at e;cases e
   ·rw[O.stays b o e] at z;cases z
  ·refine ar (OF hm) λp hp eS=>?_;subst eS
   rw[(O.frames p (.tail _ hp)).2.2.1] at e;cases e
 have gn:∀{h:Heap},dS (aS fo) (hideAll aB.heap gw) (hideAll aB.heap gw) h->g.StaysIn h:=λB b o e=>by refine cA (Mn b o (hs b o e)) λdE hf=>?_;exact (B b o dE o dE).1 hf
 have Ao:dS (aS fo) (hideAll aB.heap gw) (hideAll aB.heap gw) aB.heap:=.stays λb o e=>OW _ e;refine ig An F₁ h1 h3 h8' λh₂ dX ik=>?_;have Ea:=Ao.trans ((dS.rj ik (rp a ma) (λT e=>rp T (mT T e))).wide IB);have ip:=IA dX ik.new;refine bl ik.tb λts jL t3 _=>?_;have l3:3<ts.size:=(Array.getElem?_eq_some_iff.mp t3).1;have hd2:=OX h3 (·.setIfInBounds 1 (Value.ref dX));have sz1:1<vs.size:=by (rcases h8' with z|j9<;>(first|(refine aV j9 λ_ _ _ z _=>?_;clear j9)|skip))<;>exact (Array.getElem?_eq_some_iff.mp z).1
 have v1:(vs.setIfInBounds 1 (Value.ref dX))[1]?=some (.ref dX):=by rw[Array.getElem?_setIfInBounds_self_of_lt sz1]
 have v0:(vs.setIfInBounds 1 (Value.ref dX))[0]?=some (.ref tp):=by rw[Array.getElem?_setIfInBounds_ne (by decide)];exact h4
 refine c6 (T:=dX) ik.exc hd2 v1 jL rfl l3 λh₃ PS xS=>?_;have mM:=Ea.trans (.but ip PS);have B1:a≠dX:=λz=>by have:=ik.new;rw[<-z,h1] at this;cases this
 have ha3:=(PS a B1).trans ik.exc;have hd3:=OX (o:={cls:=.type "traceback",dict:=none,data:=.fields ts}) rfl (·.setIfInBounds 3 ((none:Option Addr).elim Value.none λf=>rawInt f));have hc2:(Obj.mapFields (·.setIfInBounds 1 (Value.ref dX)) o).cls = .ref 102:=(Obj.cls_mapFields _ _).trans h2;have Ip:tp≠a:=λz=>by rw[z,h1] at h5;cases h5;rw[h3] at h7;cases h7
 have tpF:tp∉aS ((env,m)::fo):=λhm=>by refine ar (OF hm) λp hp z=>?_;refine bf ((F₁ p hp).2.2) λo' es ep aW bL _=>?_;rw[z,h5] at aW;cases aW;rw[h7] at bL;cases bL
 have tpv:vs[1]?≠some (.ref tp):=λz=>by
  rcases h8' with q|j6<;>(first|(refine ez j6 λT' oT ts' j7=>nV j7 λa1 a3 a4 a5 _=>?_;clear j6 j7)|skip)
  ·rw[q] at z;cases z
  ·rw[a1] at z;cases z;rw[a4] at h5;cases h5;rw[a5] at h7;cases h7
 have xW:tp≠dX:=λz=>by have:=ik.new;rw[<-z,h5] at this;cases this
 have Mp:h₃.get? tp=some ot:=(PS tp xW).trans (ik.off tp ot Ip tpv tpF h5);have Lns:h₂.Ns env.locals m:=by
  refine aV ((F₁ _ (.head _)).2.2) λo' es ep aW r=>?_;refine aR (ik.on env.locals o' (λz=>by dsimp only at aW;rw[z,h1] at aW;cases aW;rw[h3] at r;cases r.1) (λz=>by
   rcases h8' with q|j3<;>(first|(refine ez j3 λT' oT ts' j4=>nV j4 λa1 a3 a4 a5 _=>?_;clear j3 j4)|skip)
   ·rw[q] at z;cases z
   ·rw[a1] at z;cases z;dsimp only at aW;rw[a4] at aW;cases aW;rw[a5] at r;cases r.1) (.head _) aW) λsl xC=>?_
  exact⟨_,es,ep,xC,r⟩
 have B2:env.locals≠dX:=λz=>by refine aV ((F₁ _ (.head _)).2.2) λo' es ep aW _=>?_;dsimp only at aW;have:=ik.new;rw[<-z,aW] at this;cases this
 have Mq:h₃.Ns env.locals m:=Lns.at' λo e=>(PS _ B2).trans e;refine wpAny_handleBy_cons (codeAny_handlers_test (Hs _ _ (gn mM) _ _ _ (ak _) λv h₄ f9 PT mJ=>?_)) (by intro q;cases q);subst mJ;have rl:=mM.trans (.stays PT);refine vZ (s:=(bp aB h₄ f9)) (G.mono (gn rl)) (PT _ _ ha3) hc2 (codeAny_handlers_suite_as ?_);refine c6 (T:=dX) (PT _ _ ha3) hd2 v1 (PT _ _ xS) hd3 (by simpa using l3) λh₅ PU rm=>?_;have kC:=rl.trans (.but ip PU);have ha5:=(PU a B1).trans (PT _ _ ha3);have Eg:h₅.Ns env.locals m:=(Mq.keeps PT).at' λo e=>(PU _ B2).trans e;refine OR hle Eg (λh₆ uI xX=>?_) hp;have rn:=kC.trans (.but (x:=env.locals) (rp _ mL) λb hb=>by have:=xX.2 b hb;exact this)
 have aL:a≠env.locals:=λz=>by refine bf Eg λo' es ep aW bL _=>?_;clear Eg;rw[<-z,ha5] at aW;cases aW;rw[hd2] at bL;cases bL
 have ha6:=(xX.2 a aL).trans ha5;have tpL:tp≠env.locals:=λz=>tpF (z▸.head _);have Mr:h₆.get? tp=some ot:=(xX.2 tp tpL).trans ((PU tp xW).trans (PT _ _ Mp));have says:oB ws t a h₆:=⟨_,_,tp,ha6,hc2,hd2,v0,ot,_,Mr,h6,h7⟩;have hg6:=gn rn;refine OT (O3 (wpAny_Compare1 ?_ rfl));refine wpAny_Call_ofName (Hst _ h₆ _ hg6 uI _ _ _ (ak _) λv h₇ NS Pb Ms=>?_);subst Ms;refine callWith_of (P:=λh'=>h₇.StaysIn h') rfl (λh' k=>Kp.type) (PH ?_);refine PC (Ev.ao (v:=.ref a) (m:=λz=>if z=er then some (.ref a) else m z) (uI.keeps Pb) (by simp) hk hle hb1 _ _ _ (ak _) λv h₈ B3 Pc Mt=>?_);subst Mt;refine spliced_nil ⟨Pc,?_⟩;have kS:h₆.StaysIn h₈:=ai Pb Pc;have IC:oB ws t a h₈:=by refine ez says λo' vs' tp' j1=>nV j1 λq1 q2 q3 q4 q5=>?_;clear says j1;exact⟨o',vs',tp',kS _ _ q1,q2,q3,q4,q5.keeps kS⟩
 refine Ap (A:=A.mark (some (.ref a))) (s:=(bp aB h₈ B3)) (G.mono (ai hg6 kS)) hu IC ?_;refine Ev.ao (v:=.str ws tw) (m:=λz=>if z=er then some (.ref a) else m z) (uI.keeps kS) (by rw[if_neg i7];exact hmw) hk hlw hb2 _ _ _ (ak _) λv Pg ID Pa Mu=>?_;subst Mu;refine PyProof.Rows.eq_str ?_;have rq:(ws==ws)=true:=by simp
 rw[rq];have xT:=rn.trans (.stays (ai kS Pa));refine wpAny_nameGoes hle (uI.keeps (ai kS Pa)) hp λKP KQ IE xY=>?_;have As:=xT.trans (.but (x:=env.locals) (rp _ mL) λb hb=>xY.2 b hb);refine cA (As.finish (ex:=ex) (tk:=ID+1) W O go T xV Iz hF) λO' go'=>?_;exact hq (.bool true) _ gb (ak _) O' go' (hR _)
end
theorem cL(k:h.StaysIn h')(x:h.IsTuple l its):h'.IsTuple l its:=(by refine ar x λo ho r=>⟨o,k _ _ ho,r⟩)
def TF(ks:List Int)(v:Value)(h:Heap):Prop:=∃l vs,v = .ref l/\h.IsTuple l vs.toArray/\dD vs ks
theorem TF.av:cU (TF ks):=λv h h' k=>λbV=>by refine aG bV λl vs e a b=>⟨l,vs,e,cL k a,b⟩
theorem sZ{m:Addr}{xs ys:List Value}(hh:A.handled=none)(hl:s.heap.IsTuple l xs.toArray)(hm:s.heap.IsTuple m ys.toArray)(hn:ys.length=xs.length){K:Value->Value->Shared->Prop}(hK:∀I J h',W2 w A I J [I,J] (λa b=>b=a) xs.length (λi v=>xs[i]?=some v) (λi v=>ys[i]?=some v)
    (λi s=>(s.heap.IsTupleIter I l i/\s.heap.IsTuple l xs.toArray)/\(s.heap.IsTupleIter J m i/\s.heap.IsTuple m ys.toArray))->
   (h'.IsTupleIter I l 0/\h'.IsTuple l xs.toArray)/\(h'.IsTupleIter J m 0/\h'.IsTuple m ys.toArray)->s.heap.StaysIn h'->(∀b o,s.heap.get? b=some o->b∉[I,J])->(∀b∈[I,J],b<h'.objs.size)->K (.ref I) (.ref J) (bp s h' s.toks)):
  wpAny (model pw w) A (pyIter (.ref l)) (λit aB=>wpAny (model pw w) A (pyIter (.ref m)) (λjt bN=>K it jt bN) E aB) E s:=by
 refine wpAny_pyIter_tuple hl ?_;have cN:l<s.heap.objs.size:=by refine ar hl λ_ e _=>ON e
 have DQ:m<s.heap.objs.size:=by refine ar hm λ_ e _=>ON e
 have old:∀b o,s.heap.get? b=some o->b<s.heap.objs.size:=λb o e=>ON e;generalize hI:s.heap.objs.size=I at *;generalize hH:s.heap.push {cls:=.type "tuple_iterator",data:=.fields #[.ref l,.int 0 0]}=H;have hit:H.IsTupleIter I l 0:=⟨_,hI▸hH▸OC _ rfl,rfl,rfl⟩;have up:s.heap.StaysIn H:=λb o e=>hH▸K' _ e;have nH:H.objs.size=I+1:=by rw[<-hH,Heap.size_push,hI]
 refine wpAny_pyIter_tuple (cL up hm) ?_;dsimp only;generalize hJ:H.objs.size=J at *;generalize DS:H.push {cls:=.type "tuple_iterator",data:=.fields #[.ref m,.int 0 0]}=H';have hjt:H'.IsTupleIter J m 0:=⟨_,hJ▸DS▸OC _ rfl,rfl,rfl⟩;have Ac:H.StaysIn H':=λb o e=>DS▸K' _ e;have nH':H'.objs.size=J+1:=by rw[<-DS,Heap.size_push,hJ]
 have hlI:l≠I:=OI cN;have hmI:m≠I:=OI DQ;have hlJ:l≠J:=by intro q;rw[q,nH] at cN;exact Nat.not_succ_lt_self cN
 have hmJ:m≠J:=by intro q;rw[q,nH] at DQ;exact Nat.not_succ_lt_self DQ
 have HW:I≠J:=by rw[nH];exact OI (OY _)
 have qU:=(Walks.tuple (prog:=pw) (w:=w) hh I l hlI xs.toArray).toS;have qV:=(Walks.tuple (prog:=pw) (w:=w) hh J m hmJ ys.toArray).toS;rw[show xs.toArray.size=xs.length from List.size_toArray] at qU;rw[show ys.toArray.size=xs.length by rw[List.size_toArray,hn]] at qV;refine hK I J H' ?_ ⟨⟨by refine ar hit λo ho r=>⟨o,Ac _ _ ho,r⟩,cL Ac (cL up hl)⟩,hjt,cL Ac (cL up hm)⟩ (ai up Ac) (λb o e hb=>?_) (λb hb=>?_)
 ·have:=W2.of (G:=λa b=>b=a) qU qV (λ_=>rfl) (λ_ _ _ h1 h2=>h2.trans h1) (λ_ _ h=>h) (λ_ _ h=>h)
   (λi s s' st mv=>⟨by refine ar st.1 λo ho r=>⟨o,mv.heap _ _ (by simpa using HW) ho,r⟩,by refine ar st.2 λo ho r=>⟨o,mv.heap _ _ (by simpa using hlJ) ho,r⟩⟩)
   (λi s s' st mv=>⟨by refine ar st.1 λo ho r=>⟨o,mv.heap _ _ (by simpa using HW.symm) ho,r⟩,by refine ar st.2 λo ho r=>⟨o,mv.heap _ _ (by simpa using hmI) ho,r⟩⟩)
  simp only[List.getElem?_toArray] at this;exact this
 ·have h1:@LT.lt Nat _ b I:=old b o e
  rcases OA hb with j2|hb<;>(first|(replace j2:=OK j2;subst j2)|skip)
  ·exact OQ _ h1
  ·rw[List.mem_singleton.mp hb,nH] at h1;exact Nat.not_succ_lt_self h1
 ·rw[nH']
  rcases OA hb with j1|hb<;>(first|(replace j1:=OK j1;subst j1)|skip)
  ·rw[nH];exact Ox (OY _)
  ·rw[List.mem_singleton.mp hb];exact OY _
theorem s8{u:Value}(c:Nat->Int)(hh:A.handled=none)(hl:TF ks v h)(hm:TF js u h)(hn:js.length=ks.length)(h0:0<ks.length)(hc:∀i,i<ks.length->aO ks i*aO js i=c i*16/\(c i).natAbs<2^49)(hs:∀i,i<=ks.length->(preSum c i).natAbs<2^49):
  Cl w A h (.builtin "math.sumprod") [v,u] [] (λv _=>∃b t,v = .float b t/\Fl b (preSum c ks.length)):=by
 refine aG hl λl xs j2 a hx=>?_;clear hl;subst j2;refine aG hm λm ys j1 b hy=>?_;clear hm;subst j1;intro s Q E wX hq;have lx:xs.length=ks.length:=aZ hx;have ly:ys.length=js.length:=aZ hy;refine iM (sZ (A:=A.in1) hh (cL wX a) (cL wX b) (by omega) λI J h' W st k sO hw=>?_);rw[lx] at W;refine⟨I,J,_,_,ks.length,_,_,_,aO ks,aO js,c,rfl,rfl,W,λi v e=>hx.at e,λi v e=>hy.at e,hc,h0,hs,st,λs' x t mv fx=>?_⟩;rw[mB mv];exact hq _ _ _ (λb o e=>mv.heap b o (sO b o e) (k _ _ e)) ⟨x,t,rfl,fx⟩
section
variable{l:Expr}{x:Str}
theorem Ev.IF{b:Int}(Hl:Ev w A h env l (dB a))(Hr:Ev w A h env r (dB b))(hb:(a+b).natAbs<2^53):Ev w A h env (.BinOp l .Add r pos) (dB (a+b)):=
 Ev.bin Hl Hr (by rintro _ _ s Q E ⟨x,t,rfl,hx⟩ ⟨y,u,rfl,hy⟩ _ hq;exact PyProof.Rows.add_float (hq _ s.heap _ (ak _) ⟨_,_,rfl,hx.add hy hb⟩))
theorem Ev.NT{b:Int}(Hl:Ev w A h env l (dB a))(Hr:Ev w A h env r (dB b))(hb:(a-b).natAbs<2^53):Ev w A h env (.BinOp l .Sub r pos) (dB (a-b)):=
 Ev.bin Hl Hr (by rintro _ _ s Q E ⟨x,t,rfl,hx⟩ ⟨y,u,rfl,hy⟩ _ hq;exact PyProof.Rows.sub_float (hq _ s.heap _ (ak _) ⟨_,_,rfl,hx.sub hy hb⟩))
theorem Ev.B4{b:Int}(Hl:Ev w A h env l (dB a))(Hr:Ev w A h env r (dB b))(hc:a*b=c*16)(hb:c.natAbs<2^53):Ev w A h env (.BinOp l .Mult r pos) (dB c):=
 Ev.bin Hl Hr (by rintro _ _ s Q E ⟨x,t,rfl,hx⟩ ⟨y,u,rfl,hy⟩ _ hq;exact PyProof.Rows.mul_float (hq _ s.heap _ (ak _) ⟨_,_,rfl,hx.mul hy hc hb⟩))
theorem Ev.IG{b:Int}(Hl:Ev w A h env l (dB a))(Hr:Ev w A h env r (dB b))(hb:b≠0)(hc:16*a=c*b)(kq:c.natAbs<2^53):Ev w A h env (.BinOp l .Div r pos) (dB c):=
 Ev.bin Hl Hr (by rintro _ _ s Q E ⟨x,t,rfl,hx⟩ ⟨y,u,rfl,hy⟩ _ hq;exact AutoFloatOps.truediv_1 (by rw[hy.isZero];simpa using hb) (hq _ s.heap _ (ak _) ⟨_,_,rfl,hx.div hy hb hc kq⟩))
theorem Ev.Mw(Hl:Ev w A h env l (dB a)):Ev w A h env (.UnaryOp .USub l pos) (dB (-a)):=λs Q E hs hq=>
 PyProof.Rows.UnaryOp_ (Hl s _ _ hs λv h₁ bg PO ba=>by refine aN ba λx t j1 hx=>?_;clear ba;subst j1;exact PyProof.Rows.neg_float (hq _ h₁ _ PO ⟨_,_,rfl,hx.nG⟩))
theorem Ev.Mx(Hl:eI w A h env l a):eI w A h env (.UnaryOp .USub l pos) (-a):=λs Q E hs hq=>
 PyProof.Rows.UnaryOp_ (Hl s _ _ hs λv h₁ bg PO ba=>by refine aR ba λt j1=>?_;clear ba;subst j1;exact neg_int (hq _ h₁ _ PO ⟨_,rfl⟩))
theorem Ev.w1{b:UInt64}{k:Nat}(hb:Fl b a):Ev w A h env (.Constant (.float b) k pos) (dB a):=λs Q E hs hq=>
 AutoFloatOps.wpAny_Constant_float (hq _ s.heap _ (ak _) ⟨_,_,rfl,hb⟩)
theorem de.w1{b:Bool}(H:Ev w A h env e (dB a))(hb:b=decide (a≠0))(he:∀whole,isTrue e env whole=(do let v <-whole;standAt e.pos;holding [v] (truthy v)))(s:Shared)(Q:Bool->Shared->Prop)(E:Value->Shared->Prop)(hs:h.StaysIn s.heap)(hq:∀h' tk,s.heap.StaysIn h'->Q b (bp s h' tk)):wpAny (model pw w) A (PySem.isTrue e env (eval e env)) Q E s:=by
 refine wpAny_isTrue_value (H s _ _ hs λv h₁ bg PO ba=>?_) (he _);refine aN ba λx t j1 hx=>?_;clear ba;subst j1;refine truthy_float ?_;rw[hx.isZero];have:(!decide (a=0))=b:=by rw[hb];simp
 rw[this];exact hq h₁ _ PO
theorem Au{c:Nat}(hh:A.handled=none)(hv:dB k v h)(hc:(c:Int)*c=16*k)(hb:c<2^53):Cl w A h (.builtin "math.sqrt") [v] [] (dB c):=λs Q E hs hq=>by refine aN hv λx t j1 hx=>?_;clear hv;subst j1;have hsq:=hx.sqrt hc hb;exact PySem.Flt.call_sqrt_float hh (λc=>by rw[hsq.DJ] at c;simp at c) λ_=>hq _ s.heap _ (ak _) ⟨_,_,rfl,hsq⟩
theorem rt(hv:dB k v h):Cl w A h (.builtin "math.isfinite") [v] [] (iN true):=λs Q E hs hq=>by refine aN hv λx t j1 hx=>?_;clear hv;subst j1;exact PySem.Flt.call_isfinite_float (hq _ s.heap s.toks (ak _) (by rw[hx.finite]))
theorem Ev.pairF{b:Int}(Hl:Ev w A h env l (dB a))(Hr:Ev w A h env r (dB b)){k:Nat}(bE:autoParam (starEach [l,r] env=(false,eval l env)::starEach [r] env) cH)(cQ:autoParam (starEach [r] env=(false,eval r env)::starEach [] env) cH):
  Ev w A h env (.Tuple [l,r] k pos) (TF [a,b]):=λs Q E hs hq=>by
 refine wpAny_Tuple ?_;rw[bE];show wpAny _ _ (spliced ((false,eval l env)::backTo pos (starEach [r] env))) _ _ _;refine PC (Hl s _ _ hs λv h₁ bg PO ba=>?_);rw[cQ];show wpAny _ _ (spliced ((false,eval r env)::backTo pos (starEach [] env))) _ _ _;refine PC (Hr _ _ _ (ai hs PO) λu h₂ bZ PQ cF=>spliced_nil ⟨by rw[sizeLine_eq];simp,?_⟩);refine aN ba λx t j2 hx=>?_;clear ba;subst j2;refine aN cF λy u j1 hy=>?_;clear cF;subst j1;refine hq _ (h₂.push _) bZ (ai PO (ai PQ λb o e=>K' _ e)) ⟨h₂.objs.size,[.float x t,.float y u],rfl,⟨_,OC _ rfl,rfl,_,rfl⟩,.cons ⟨x,t,rfl,hx⟩ (.cons ⟨y,u,rfl,hy⟩ .nil)⟩
end
noncomputable abbrev sn(x:String):Str:=Str.ofString x
noncomputable abbrev lr:Value:=.builtin "math.fsum"
noncomputable def bD(xs ys:List Int)(mx my:Int):Int:=preSum (λi=>(aO xs i-mx)*(aO ys i-my)) xs.length
theorem dK{ns:List Int}(hb:∀k∈ns,k.natAbs<=2^40)(hl:ns.length<=64):ns.sum.natAbs<=ns.length*2^40:=by
 clear hl;induction ns with
 |nil=>simp
 |cons a r ih=>
  have h1:=hb a (.head _);have h2:=ih (λk hk=>hb k (.tail _ hk));rw[List.sum_cons,List.length_cons,Nat.add_mul];exact OB (zV h1 h2) (Nat.le_of_eq (by rw[Nat.one_mul,Nat.add_comm]))
theorem s9{p:Params}(X:(K p).In h):CodeHd h 342 338:=gm X rfl rfl
section
variable{a b:Addr}{mx:Int}
theorem xZ(G:Gl w h)(hA:A.frames=some (frs.map (·.1)))(lx:LI xs (.ref a) h)(ly:LI ys (.ref b) h)(hn:ys.length=xs.length)(h2:2<=xs.length)(h64:xs.length<=64)(hh:A.handled=none)(hd:A.depth+8<recursionLimit)(bx:∀k∈xs,k.natAbs<=2^40)(bY:∀k∈ys,k.natAbs<=2^40)(sx:xs.sum=mx*xs.length)(sy:ys.sum=my*xs.length)(bd:∀i,i<xs.length->((aO xs i-mx)*(aO ys i-my)).natAbs<=2^36)(hc:bD xs ys mx my=c*(xs.length-1)):
  df w A frs cs h (.ref 343) [.ref a,.ref b] [] (dB (16*c)) x:=by
 have bmx:mx.natAbs<=2^40:=by have:=dK bx h64;rw[sx,Int.natAbs_mul] at this;have h3:((xs.length:Int)).natAbs=xs.length:=Int.natAbs_natCast _;rw[h3,Nat.mul_comm] at this;exact Oz this (by omega)
 have bmy:my.natAbs<=2^40:=by have:=dK bY (by omega);rw[sy,Int.natAbs_mul] at this;have h3:((xs.length:Int)).natAbs=xs.length:=Int.natAbs_natCast _;rw[h3,Nat.mul_comm,hn] at this;exact Oz this (by omega)
 have bc:(16*c).natAbs<2^53:=by
  have h1:(bD xs ys mx my).natAbs<=xs.length*2^36:=bO _ _ _ bd;have h3:c.natAbs*((xs.length:Int)-1).natAbs<=xs.length*2^36:=by rw[<-Int.natAbs_mul,<-hc];exact h1
  have h4:c.natAbs*1<=c.natAbs*((xs.length:Int)-1).natAbs:=PM _ (by omega);have h5:xs.length*2^36<=64*2^36:=OU _ h64;exact CN (zJ wW (OB (Nat.le_of_eq (Nat.mul_one _).symm) (OB h4 (OB h3 h5)))) rfl
 refine df.def (binds:=[(sn "x",.ref a),(sn "y",.ref b)]) G hA (by k_is) rfl (by k_is) (by omega) (λs _=>.of_eq rfl) rfl (by decide) (λL g hg aQ=>?_);clear aQ;show aP _ _ _ _ _ [L+2,L+1] _ [L,L+2,L+1] _ (upd (upd (λ_=>none) (sn "x") (.ref a)) (sn "y") (.ref b)) _ _ _;refine aP.oQ ?_;intro ee aa rr m;refine aP.doc ?_;have lK:=LI.av _ _ _ hg lx;have l0:=LI.av _ _ _ hg ly;have Gg:=G.mono hg;clear lx ly G;refine aP.assign (P:=iO xs.length) (aF.of (λh' k N=>Ev.bz (Ev.aE (Gg.mono k) (by k_is) cR) Kp.builtin
  (Ev.mono (Ev.ao (v:=.ref a) (N _ (.head _))) (λv h1 k1 e=>e▸LI.av _ _ _ (ai k k1) lK)) LI.av (λv h1 k1 q=>dC q (by omega))) aj) (λv g1 k1 hv=>?_) (by rfl)
 refine aR hv λt eR=>?_;clear hv;subst eR;refine aP.hold ?_;intro m;refine aP.skip (TG.of (λh' k N=>de.cast (de.ne (Ev.bz (Ev.aE (Gg.mono (ai k1 k)) (by k_is) cR) Kp.builtin
  (Ev.mono (Ev.ao (v:=.ref b) (N _ (.head _))) (λv h1 k2 e=>e▸LI.av _ _ _ (ai (ai k1 k) k2) l0)) LI.av (λv h1 k1 q=>dC q (by omega)))
  (Ev.cS (Ev.ao (N _ (.head _))))) (by rw[hn];simp))) (λg2 k2=>?_)
 refine aP.skip (TG.of (λh' k N=>de.cast (de.lt (Ev.cS (Ev.ao (N _ (.head _)))) Ev.int) (by simp;omega))) (λg3 k3=>?_);have k03:=ai k1 (ai k2 k3);have G3:=Gg.mono k03;have v9:=LI.av _ _ _ k03 lK;have zQ:=LI.av _ _ _ k03 l0;clear lK l0 Gg k1 k2 k3 k03 hg g1 g2;refine aP.dU (c:=L+1) (cs':=[L+2]) (P:=dB (16*mx)) (aF.of (λh' k N=>Ev.lq (a:=16*xs.sum) (n:=xs.length)
  (Ev.bz (Ev.aD (v:=lr) (G3.mono k) (by k_is)) Kp.builtin
   (Ev.mono (Ev.ao (v:=.ref a) (N _ (.head _))) (λv h1 k2 e=>e▸LI.av _ _ _ (ai k k2) v9)) LI.av (λv h1 k1 q=>fE hh q bx h64))
  (Ev.cS (Ev.ao (N _ (.head _)))) (by omega) (by omega) (by rw[sx,Int.mul_assoc]) (by omega)) aj) aA (λv g4 k4 hv B5=>?_) (by rfl) (by rfl) (by rfl) (by simp) (by simp)
 refine aN hv λvx tx ib fx=>?_;clear hv;subst ib;refine aP.dU (c:=L+2) (cs':=[]) (P:=dB (16*my)) (aF.of (λh' k N=>Ev.lq (a:=16*ys.sum) (n:=xs.length)
  (Ev.bz (Ev.aD (v:=lr) ((G3.mono k4).mono k) (by k_is)) Kp.builtin
   (Ev.mono (Ev.ao (v:=.ref b) (N _ (.head _))) (λv h1 k2 e=>e▸LI.av _ _ _ (ai (ai k4 k) k2) zQ)) LI.av (λv h1 k1 q=>fE hh q bY (by omega)))
  (Ev.cS (Ev.ao (N _ (.head _)))) (by omega) (by omega) (by rw[sy,Int.mul_assoc]) (by omega)) aj) aA (λv g5 k5 hv Eh=>?_) (by rfl) (by rfl) (by rfl) (by simp) (by simp)
 refine aN hv λvy ty eS fy=>?_;clear hv;subst eS;have wa:=aq k5 B5;have G5:=G3.mono (ai k4 k5);have wb:=LI.av _ _ _ (ai k4 k5) v9;have w2:=LI.av _ _ _ (ai k4 k5) zQ;clear B5 G3 v9 zQ k4 k5 g3 g4;refine ar (LI.ref wb) λvxs ixs ivx=>?_;refine ar (LI.ref w2) λIH iys B6=>?_;have My:=ivx.length;have Ei:=B6.length;refine aP.assign (P:=dB (16*bD xs ys mx my)) (Gm.mono (aF.sV (P:=338) (n:=xs.length) (F₁:=λi y=>∃v,vxs[i]?=some v/\∃z t,y = .float z t/\Fl z (16*(hU v-mx))) (F₂:=λi y=>∃v,IH[i]?=some v/\∃z t,y = .float z t/\Fl z (16*(hU v-my)))
  (λi=>16*(aO xs i-mx)) (λi=>16*(aO ys i-my)) (λi=>16*((aO xs i-mx)*(aO ys i-my))) hh
  (aF.of (λh' k N=>Ev.aD (G5.mono k) (by k_is)) aj) (by decide)
  (λhb k=>?_) (λhb k=>?_) (λi v hF=>?_) (λi v hF=>?_) (λi hi=>?_) (by omega) h64) (λv h' _ hv=>?_)) (λv g6 k6 hv=>?_) (by rfl)
 ·rw[<-My]
  refine aF.gen (cl:=[(sn "xbar",L+1)]) (kl:=[L+1]) (c:=342) (l:=a) (vs:=vxs) (λv y=>∃z t,y = .float z t/\Fl z (16*(hU v-mx))) hh (G5.mono k) (by rfl) (s9 (G5.mono k).K) (by show (338,sn "covariance.<locals>.<genexpr>")∈TT;decide) (by show A.depth+1<_;omega)
   (λh' k N=>Ev.ao (N _ (.head _))) (isList_stays k ixs) (λd hd=>by rw[List.mem_singleton.mp hd];refine ar (aq k wa) λo ho _=>⟨o,ho⟩) (λv hv A' C code h' m uB hk hn hm=>?_)
   (by rfl) (by rfl) (by decide) (by rfl) (by rfl) (by rfl) (by rfl) (by intro _;rfl)
  refine aN (dF ivx hv) λu tu j9 hu=>?_;subst j9;have bu:=bx u hu;have aQ:h'.IsCell (L+1) (some (.float vx tx)):=by refine ar (aq k wa) λo ho r=>⟨o,hk _ (.head _) _ ho,r⟩
  refine Ev.mono (Ev.oR (n:=u) (a:=16*mx) (Ev.cS (Ev.ao hn hm)) (Ev.mono (Ev.d7 (c:=L+1) aQ) (λv h' _ e=>⟨vx,tx,e,fx⟩)) (by omega) (by omega)) (λv h' _ hv=>?_);refine aN hv λz t e fz=>?_;clear hv;exact⟨z,t,e,by show Fl z (16*(u-mx));rw[Int.mul_sub];exact fz⟩
 ·rw[<-hn,<-Ei]
  refine aF.gen (cl:=[(sn "ybar",L+2)]) (kl:=[L+2]) (c:=342) (l:=b) (vs:=IH) (λv y=>∃z t,y = .float z t/\Fl z (16*(hU v-my))) hh (G5.mono k) (by rfl) (s9 (G5.mono k).K) (by show (338,sn "covariance.<locals>.<genexpr>")∈TT;decide) (by show A.depth+1<_;omega)
   (λh' k N=>Ev.ao (N _ (.head _))) (isList_stays k iys) (λd hd=>by rw[List.mem_singleton.mp hd];refine ar (aq k Eh) λo ho _=>⟨o,ho⟩) (λv hv A' C code h' m uB hk hn hm=>?_)
   (by rfl) (by rfl) (by decide) (by rfl) (by rfl) (by rfl) (by rfl) (by intro _;rfl)
  refine aN (dF B6 hv) λu tu j8 hu=>?_;subst j8;have bu:=bY u hu;have aQ:h'.IsCell (L+2) (some (.float vy ty)):=by refine ar (aq k Eh) λo ho r=>⟨o,hk _ (.head _) _ ho,r⟩
  refine Ev.mono (Ev.oR (n:=u) (a:=16*my) (Ev.cS (Ev.ao hn hm)) (Ev.mono (Ev.d7 (c:=L+2) aQ) (λv h' _ e=>⟨vy,ty,e,fy⟩)) (by omega) (by omega)) (λv h' _ hv=>?_);refine aN hv λz t e fz=>?_;clear hv;exact⟨z,t,e,by show Fl z (16*(u-my));rw[Int.mul_sub];exact fz⟩
 ·refine ar hF λv' e j6=>aN j6 λz t j7 fz=>?_;clear hF j6;subst j7
  refine aR (jM ivx e) λtt j5=>?_;subst j5;exact⟨z,t,rfl,fz⟩
 ·refine ar hF λv' e j3=>aN j3 λz t j4 fz=>?_;clear hF j3;subst j4
  refine aR (jM B6 e) λtt j2=>?_;subst j2;exact⟨z,t,rfl,fz⟩
 ·have:=bd i hi
  refine⟨?_,by omega⟩;rw[Int.mul_assoc,Int.mul_left_comm (aO xs i-mx) 16,Int.mul_comm _ 16]
 ·refine aN hv λz t e fz=>?_;clear hv
  rw[cO] at fz;exact⟨z,t,e,fz⟩
 refine aN hv λvs ts j1 fs=>?_;clear hv;subst j1;refine aP.hold ?_;intro m;refine aP.ret (P:=dB (16*c)) (aF.of (λh' k N=>Ev.lq (a:=16*bD xs ys mx my) (n:=(xs.length:Int)-1) (Ev.mono (Ev.ao (v:=.float vs ts) (N _ (.head _))) (λv _ _ e=>⟨vs,ts,e,fs⟩))
  (Ev.sub (Ev.cS (Ev.ao (N _ (.head _)))) Ev.int) (by omega) (by omega) (by rw[hc,Int.mul_assoc]) bc) aj) (λv h' _ p=>p)
end
section
variable{f:Addr}
theorem te(G:Gl w h)(hA:A.frames=some (frs.map (·.1)))(hh:A.handled=none)(hd:A.depth+8<recursionLimit)(hu:A.units+12<cLine)(kpf:Kp w h (.ref f))(Hf:∀A' sT cs' h',A'.frames=some ((sT:Frs).map (·.1))->A'.handled=none->A'.depth=A.depth+1->A'.units<=A.units+4->h.StaysIn h'->df w A' sT cs' h' (.ref f) [] [] (λ_ _=>False) (some ws)):
  df w A frs cs h (.ref 443) [.ref f,.str ws t] [] (iN true) x:=by
 refine df.def (binds:=[(sn "call",.ref f),(sn "words",.str ws t)]) G hA (by k_is) rfl (by k_is) (by omega) (λs _=>.of_eq rfl) rfl (by decide) (λL g hg aQ=>?_);clear aQ;have Gg:=G.mono hg;refine aP.catch (tw:=t) (ws:=ws) (by show A.frames.map _=_;rw[hA];rfl) hh (by show A.units+3+2<cLine;omega) Gg ?_ (λA' h' k=>Ev.aD (Gg.mono k) (by k_is)) (λA' h' m' k hn=>Ev.aE (Gg.mono k) (by k_is) Ee)
  (λh'=>rfl) (by rfl) (by rfl) (by rfl) (by rfl) (by decide) (by rfl) (by rfl) (by rfl) (by decide) (by decide)
 refine aF.xD (aF.of (λh' k N=>Ev.ao (v:=.ref f) (N _ (.head _))) aj) (kpf.up hg) (λh₁ k=>?_);exact Hf _ _ _ h₁ (by show A.frames.map _=_;rw[hA];rfl) hh rfl (by show A.units+3<=A.units+4;omega) (ai hg k)
end
section
variable{b:Bool}
theorem TG.w1(H:∀h',h.StaysIn h'->lj frs h'->Ev w A h' env e (dB a))(hb:b=decide (a≠0))(he:∀whole,isTrue e env whole=(do let v <-whole;standAt e.pos;holding [v] (truthy v)):=by intro _;rfl):TG w A frs cs h env e b x:=
 Gm.of (λh' k N s Q E hs hq=>de.w1 (H h' k N) hb he s (λc s'=>Q c s') E hs λf5 tk k=>hq b f5 tk k rfl) aj
theorem TG.and2{l:Expr}(Hl:TG w A frs cs h env l b₁ x)(Hr:∀h₁,h.StaysIn h₁->TG w A frs cs h₁ env r b₂ x):TG w A frs cs h env (.BoolOp .And [l,r] pos) (b₁&&b₂) x:=λs hb Q E hs O hq he=>
 isTrue_and (Hl s hb _ _ hs O (λc aB h₁ PO aM bJ ba=>by
  subst ba;cases c with
  |false=>exact hq false aB h₁ PO aM bJ rfl
  |true=>
   exact isTrue_and (Hr h₁ (ai hs PO) aB h₁ _ _ (ak _) aM (λPj bN h₂ PQ cC eC cF=>by
    subst cF;have:=hq Pj bN h₂ (ai PO PQ) cC (bJ.trans eC) (by simp);cases Pj with
    |false=>exact this
    |true=>exact isTrue_and_nil this) (λws a s' e g X=>he ws a s' e (bJ.trans g) (X.back bJ.bP.cE)))) he)
theorem TG.cast{b c:Bool}(H:TG w A frs cs h env e b x)(hc:b=c):TG w A frs cs h env e c x:=hc▸H
end
theorem Ej:Fl 4611686018427387904 32:=by
 have h:=Fl.ofInt (n:=2) (by decide);have e:Float64.ofInt 2=4611686018427387904:=by decide+kernel
 rw[e] at h;exact h
section
variable{vx vy:Value}{b:Int}{c:Nat}
theorem ru(G:Gl w h)(hA:A.frames=some (frs.map (·.1)))(hh:A.handled=none)(hd:A.depth+8<recursionLimit)(hx:dB a vx h)(hy:dB b vy h)(hk:a*b=k*16)(hc:(c:Int)*c=16*k)(Ek:k.natAbs<2^49)(kq:c<2^48):
  df w A frs cs h (.ref 336) [vx,vy] [] (dB c) x:=by
 refine aN hx λbx tx j7 fx=>?_;clear hx;subst j7;refine aN hy λby' ty j6 fy=>?_;clear hy;subst j6;refine df.def (binds:=[(sn "x",.float bx tx),(sn "y",.float by' ty)]) G hA (by k_is) rfl (by k_is) (by omega) (λs _=>.of_eq rfl) rfl (by decide) (λL g hg aQ=>?_);clear aQ;refine aP.oQ ?_;intro ee aa rr m;refine aP.doc ?_;have Gg:=G.mono hg;have nx:∀{A' h' m' pos},h'.Ns L m'->m' (sn "x")=some (.float bx tx)->Ev w A' h' (envOfC (sn "_sqrtprod") w9 L 336 (.ref 335)) (.Name (sn "x") pos) (dB a):=λhn hm=>Ev.mono (Ev.ao hn hm) λv h _ e=>⟨bx,tx,e,fx⟩;have ny:∀{A' h' m' pos},h'.Ns L m'->m' (sn "y")=some (.float by' ty)->Ev w A' h' (envOfC (sn "_sqrtprod") w9 L 336 (.ref 335)) (.Name (sn "y") pos) (dB b):=λhn hm=>Ev.mono (Ev.ao hn hm) λv h _ e=>⟨by',ty,e,fy⟩;refine aP.assign (P:=dB c) (aF.of (λh' k' N=>Ev.bz (Ev.aD (v:=.builtin "math.sqrt") (Gg.mono k') (by k_is)) Kp.builtin
  (Ev.B4 (c:=k) (nx (N _ (.head _)) (by rfl)) (ny (N _ (.head _)) (by rfl)) hk (by omega)) aA (λv h1 k1 q=>Au hh q hc (by omega))) aj) (λv g1 k1 hv=>?_) (by rfl)
 refine aN hv λbh th j5 fh=>?_;clear hv;subst j5;refine aP.hold ?_;intro m;have nh:∀{A' h' m' pos},h'.Ns L m'->m' (sn "h")=some (.float bh th)->Ev w A' h' (envOfC (sn "_sqrtprod") w9 L 336 (.ref 335)) (.Name (sn "h") pos) (dB c):=λhn hm=>Ev.mono (Ev.ao hn hm) λv h _ e=>⟨bh,th,e,fh⟩;have G1:=Gg.mono k1;refine aP.skip (TG.not (b:=true) (TG.val (aF.of (λh' k' N=>Ev.bz (Ev.aD (v:=.builtin "math.isfinite") (G1.mono k') (by k_is)) Kp.builtin
  (nh (N _ (.head _)) (by rfl)) aA (λv h1 k1 q=>rt q)) aj))) (λg2 k2=>?_)
 by_cases hc0:c=0
 ·subst hc0
  have nY:a=0∨b=0:=by
   have h1:k=0:=by
    have:(16:Int)*k=0:=by rw[<-hc];rfl
    omega
   rw[h1,Int.zero_mul] at hk;exact Int.mul_eq_zero.mp hk
  refine aP.enter (TG.cast (TG.not (b:=false) (TG.w1 (a:=(0:Nat)) (λh' k' N=>nh (N _ (.head _)) (by rfl)) (by simp))) rfl) (λg3 k3=>?_);refine aP.skip (TG.cast (TG.and2 (b₁:=decide (a≠0)) (b₂:=decide (b≠0)) (TG.w1 (a:=a) (λh' k' N=>nx (N _ (.head _)) (by rfl)) rfl) (λh1 k1=>TG.w1 (a:=b) (λh' k' N=>ny (N _ (.head _)) (by rfl)) rfl)) (by (rcases nY with j4|j4<;>(replace j4:=OK j4;subst j4))<;>simp)) (λg4 k4=>?_);exact aP.ret (P:=dB (0:Nat)) (aF.of (λh' k' N=>nh (N _ (.head _)) (by rfl)) aj) (λv h' _ p=>p)
 ·refine aP.skip (TG.cast (TG.not (b:=true) (TG.w1 (a:=c) (λh' k' N=>nh (N _ (.head _)) (by rfl)) (by simp;omega))) rfl) (λg3 k3=>?_)
  have G3:=G1.mono (ai k2 k3);refine aP.assign (P:=dB 0) (aF.of (λh' k' N=>Ev.mono (Ev.call2 (Ev.aD (v:=.builtin "math.sumprod") (G3.mono k') (by k_is)) Kp.builtin
   (Ev.pairF (nx (N _ (.head _)) (by rfl)) (nh (N _ (.head _)) (by rfl))) TF.av (Ev.pairF (ny (N _ (.head _)) (by rfl)) (Ev.Mw (nh (N _ (.head _)) (by rfl)))) TF.av
   (λv u h1 k1 q q'=>s8 (λi=>if i=0 then k else -k) hh q q' rfl (by simp) (λi hi=>?_) (λi hi=>?_))) (λv h1 _ q=>?_)) aj) (λv g4 k4 hv=>?_) (by rfl)
  ·have:i=0∨i=1:=by simp at hi;omega
   rcases this with j3|j3<;>(replace j3:=OK j3;subst j3)
   ·exact⟨hk,Ek⟩
   ·exact⟨by show (c:Int)*(-c) = -k*16;rw[Int.mul_neg,hc];omega,by show (-k).natAbs<_;omega⟩
  ·have:i=0∨i=1∨i=2:=by simp at hi;omega
   rcases this with j2|j2|j2<;>(replace j2:=OK j2;subst j2)
   ·simp[preSum]
   ·show (0+k).natAbs<_;omega
   ·show (0+k + -k).natAbs<_;omega
  ·have e:preSum (λi=>if i=0 then k else -k) [a,(c:Int)].length=0:=by show 0+k + -k=0;omega
   rw[e] at q;exact q
  refine aN hv λbd td j1 fd=>?_;clear hv;subst j1;have nd:∀{A' h' m' pos},h'.Ns L m'->m' (sn "d")=some (.float bd td)->Ev w A' h' (envOfC (sn "_sqrtprod") w9 L 336 (.ref 335)) (.Name (sn "d") pos) (dB 0):=λhn hm=>Ev.mono (Ev.ao hn hm) λv h _ e=>⟨bd,td,e,fd⟩;exact aP.ret (P:=dB (c+0)) (aF.of (λh' k' N=>Ev.IF (nh (N _ (.head _)) (by rfl)) (Ev.IG (a:=0) (b:=2*c) (c:=0) (nd (N _ (.head _)) (by rfl)) (Ev.B4 (c:=2*c) (Ev.w1 Ej) (nh (N _ (.head _)) (by rfl)) (by omega) (by omega)) (by omega) (by simp) (by simp)) (by omega)) aj) (λv h' _ p=>by rw[Int.add_zero] at p;exact p)
end
theorem d9{M:Model}{dp un dp' un':Nat}{t:Sem α}{Q:α->Shared->Prop}(h1:dp'<=dp)(h2:un'<=un)(h:wpAny M {handled:=hd,depth:=dp,frames:=fr,guards:=gd,units:=un} t Q E s):wpAny M {handled:=hd,depth:=dp',frames:=fr,guards:=gd,units:=un'} t Q E s:=
 λΓ p hΓ=>h Γ p ⟨hΓ.1,OB hΓ.2.1 h1,hΓ.2.2.1,hΓ.2.2.2.1,OB hΓ.2.2.2.2 h2⟩
theorem jn{target it body orelse env}(Φ:Nat->Shared->Prop)(turn:∀(I:Nat->Shared->Prop)(Rr:Result->Shared->Prop) n s (T:Option Value->Shared->Prop)(En:Value->Shared->Prop),(∀k s',Φ k s'->I k s')->(∀f s',R (.ok f) s'->Rr (.ok f) s')->Φ n s->
   (∀aB,wpAny (model prog w) A (execs orelse env) (λf cq=>Rr (.ok f) cq) En aB->T none aB)->
   (∀v aB,(∀B:Flow->Shared->Prop,(∀m cq,m<n->I m cq->B .next cq)->(∀v cq,Rr (.ok (.ret v)) cq->B (.ret v) cq)->
    wpAny (model prog w) A (letOwnedTupleGo target it v) (λ_ rv=>wpAny (model prog w) A (assign target env v) (λ_ bN=>wpAny (model prog w) A (execs body env) B En bN) En rv) En aB)->T (some v) aB)->
   wpAny (model prog w) A (pyNext it) T En s)(n:Nat)(h:Φ n s):codeAny (model prog w) A (.forLoop target it body orelse env) R s:=
 codeAny_forLoop_any Φ (λn s hI=>turn Φ R n s _ _ (λ_ _ h=>h) (λ_ _ h=>h) hI (λ_ h=>h) λ_ _ h=>h _ (λm _ hm hi=>⟨m,hm,hi⟩) λ_ _ r=>r) n h
noncomputable abbrev dn:Code->Sem Fin:=PySem.W.Fast.tw11892475500146522536 PySem.W.Fast.tw14364793385576792824
structure XF where
 A:Around
 c:Code
 k:Result->Sem Fin
structure Cf where
 A:Around
 c:Code
 t:Sem Fin
 fs:List XF
 tk:Nat
 ob:List Obj
 ck:List (Addr×Addr)
 ct:Nat
noncomputable def oW(x:Option Addr)(y:Option Obj)(f:Addr->Obj->Option α):Option α:=match y with
 |none=>none
 |some o=>match x with
  |none=>none
  |some b=>f b o
theorem rx{x:Option Addr}{y:Option Obj}{f:Addr->Obj->Option α}{r:α}(h:oW x y f=some r):∃b o,x=some b/\y=some o/\f b o=some r:=by
 unfold oW at h;split at h
 ·cases h
 ·split at h
  ·cases h
  ·exact⟨_,_,rfl,rfl,h⟩
section
variable (kl:Addr->Option Obj) (sg:Setting) (nw n0:Nat) (ad:List Addr)
noncomputable def look(C:Cf)(a:Addr)(f:Obj->List (Addr×Addr)->Option Cf):Option Cf:=
 match C.ct%64 with
 |0=>match kl a with|some o=>f o C.ck|none=>none
 |i+1=>oW ad[i]? C.ob[i]? λb o=>f o ((b,a)::C.ck)
noncomputable def pop(C:Cf)(r:Result):Option Cf:=match C.fs with
 | []=>none
 |F::fs=>some {C with A:=F.A,c:=F.c,t:=F.k r,fs:=fs}
noncomputable def II(C:Cf):Fin->Option Cf
 | .done f=>pop C (.ok f)
 | .again c=>cond c.quiet (some {C with c:=c,t:=dn c}) none
noncomputable def IJ:Option Value->Bool
 |some .notImplemented=>false
 |_=>true
noncomputable def ry(C:Cf)(a:Addr)(f:Obj->Obj)(k:Unit->Sem Fin):Nat->Option Cf
 |0=>none
 |i+1=>oW ad[i]? C.ob[i]? λb o=>cond ((Nat.blt i nw||Nat.ble n0 i) && !(f o).isFreed) (some {C with t:=k (),ob:=C.ob.set i (f o),ck:=(b,a)::C.ck,ct:=C.ct/64}) none
noncomputable def ya(C:Cf)(o:Obj)(k:Addr->Sem Fin):Option Addr->Option Cf
 |some a=>cond (!o.isFreed) (some {C with t:=k a,ob:=C.ob++[o]}) none
 |none=>none
noncomputable def stepT(C:Cf)(t:Sem Fin):Option Cf:=match t with
 | .pure x=>II C x
 | .raise e=>pop C (.error e)
 | .rule _ k=>some {C with t:=k ()}
 | .at _ k=>some {C with t:=k ()}
 | .point _ k=>some {C with t:=k ()}
 | .ask k=>some {C with t:=k sg}
 | .fresh k=>some {C with t:=k C.tk,tk:=C.tk+1}
 | .handled b k=>cond b none (some {C with t:=k C.A.handled})
 | .load a _ k=>look kl ad C a λo ck=>some {C with t:=k o,ck:=ck,ct:=C.ct/64}
 | .update a _ f k=>ry nw n0 ad C a f k (C.ct%64)
 | .alloc o k=>ya C o k ad[C.ob.length]?
 | .call c hd _ _ k=>cond (IJ hd && !Nat.beq (C.ct%64) 63) (some {C with A:=(C.A.under C.c).mark hd,c:=c,t:=dn c,fs:=⟨C.A,C.c,k⟩::C.fs}) none
 | .unsupported _=>none
 | .finish _=>none
 | .loadIfAlive _ _=>none
 | .register _ _=>none
 | .choose _ _ _=>none
 | .os _ _ _=>none
 | .newGen _ _=>none
 | .genState _ _=>none
 | .resume _ _ _ _=>none
 | .yield _ _ _ _=>none
 | .stack _=>none
 | .fork _ _=>none
 | .thread _=>none
 | .await _ _ _ _ _=>none
@[irreducible] noncomputable def step(C:Cf):Option Cf:=stepT kl sg nw n0 ad C C.t
@[irreducible] noncomputable def ex:Nat->Cf->Cf
 |0,C=>C
 |n+1,C=>match step kl sg nw n0 ad C with
  |some C'=>ex n C'
  |none=>C
end
noncomputable def lL:Nat->(List Addr->Prop)->Prop
 |0,P=>P []
 |n+1,P=>∀a,lL n λl=>P (a::l)
theorem lL.some:∀{n:Nat}{P:List Addr->Prop},lL n P->∃l,P l
 |0,_,h=>⟨_,h⟩
 |_+1,_,h=>(by refine aR (lL.some (h 0)) λl p=>⟨_,p⟩)
theorem lL.mono:∀{n:Nat}{P Q:List Addr->Prop},lL n P->(∀l,P l->Q l)->lL n Q
 |0,_,_,h,f=>f _ h
 |_+1,_,_,h,f=>λa=>lL.mono (h a) λl p=>f _ p
theorem oX:denote table=dn:=by rw[table_eq_tree,PySem.W.Fast.te14364793385576792824,PySem.W.Fast.te11892475500146522536]
section
variable (prog:Program) (w:World) (R:Result->Shared->Prop)
noncomputable def post:List XF->Result->Shared->Prop
 | []=>R
 |F::fs=>λr s=>wpOwn (model prog w) F.A F.c (F.k r) (postC prog w F.A (post fs)) (postE (post fs)) s
def fg(C:Cf)(s:Shared):Prop:=wpOwn (model prog w) C.A C.c C.t (postC prog w C.A (post prog w R C.fs)) (postE (post prog w R C.fs)) s
end
structure fj(F:Frag)(h₀:Heap)(nw n0:Nat)(ad:List Addr)(ob:List Obj)(h:Heap):Prop where
 gx:F.In h
 at_:∀(i:Nat) a o,ad[i]?=some a->ob[i]?=some o->h.get? a=some o
 wr:∀(i:Nat) a,i<nw->ad[i]?=some a->∀o,F.lookup a≠some o
 ne:∀(i j:Nat) a b o,i<nw->j≠i->ob[j]?=some o->ad[i]?=some a->ad[j]?=some b->b≠a
 new:∀(i:Nat) a o,n0<=i->ob[i]?=some o->ad[i]?=some a->h₀.get? a=none/\∀o,F.lookup a≠some o
 up:∀(i j:Nat) a b o,n0<=j->i<j->ob[j]?=some o->ad[i]?=some a->ad[j]?=some b->@LT.lt Nat _ a b
 off:∀b o,h₀.get? b=some o->(∀i:Nat,i<nw->ad[i]?≠some b)->h.get? b=some o
 cE:∀b o,h₀.get? b=some o->∃o',h.get? b=some o'
 Ga:nw<=n0
 Gb:n0<=ob.length
theorem fj.wide{ad:List Addr}{ob:List Obj}(I:fj F h₀ nw n0 ad ob h)(l:List Addr)(hl:ob.length=ad.length):fj F h₀ nw n0 (ad++l) ob h:=by
 have get:∀{i:Nat}{a:Addr},i<ob.length->(ad++l)[i]?=some a->ad[i]?=some a:=λhi e=>by rwa [List.getElem?_append_left (by rw[<-hl];exact hi)] at e
 have lt:∀{i:Nat}{o:Obj},ob[i]?=some o->i<ob.length:=λe=>(List.getElem?_eq_some_iff.mp e).1;have wl:nw<=ob.length:=OB I.Ga I.Gb;exact⟨I.gx,λi a o e f=>I.at_ i a o (get (lt f) e) f,λi a hi e=>I.wr i a hi (get (Ou hi wl) e),
  λi j a b o hi hj f e e'=>I.ne i j a b o hi hj f (get (Ou hi wl) e) (get (lt f) e'),λi a o hi f e=>I.new i a o hi f (get (lt f) e),
  λi j a b o hj qF f e e'=>I.up i j a b o hj qF f (get (Om qF (lt f)) e) (get (lt f) e'),
  λb o e h=>I.off b o e λi hi q=>h i hi (by rw[List.getElem?_append_left (by rw[<-hl];exact Nat.lt_of_lt_of_le hi wl)];exact q),I.cE,I.Ga,I.Gb⟩
theorem fj.more{ad:List Addr}{ob:List Obj}(I:fj F h₀ nw n0 ad ob h)(hl:ob.length=ad.length)(k:∀b o,h.get? b=some o->h'.get? b=some o)(hL:h.objs.size<=L)(eL:h'.get? L=some o):
  fj F h₀ nw n0 (ad++[L]) (ob++[o]) h':=by
 have nil:h.get? L=none:=by
  cases q:h.get? L with
  |none=>rfl
  |some x=>exact absurd (ON q) (Nat.not_lt.mpr hL)
 have wl:nw<=ob.length:=OB I.Ga I.Gb;have rA:∀{i:Nat}{a:Addr},(ad++[L])[i]?=some a->ad[i]?=some a∨(i=ob.length/\a=L):=λ{i a} e=>by
  rcases Nat.lt_or_ge i ad.length with hi|hi
  ·rw[List.getElem?_append_left hi] at e;exact .inl e
  ·rw[List.getElem?_append_right hi] at e
   rcases List.getElem?_eq_some_iff.mp e with⟨h1,h2⟩;have:i-ad.length=0:=by simpa using h1
   refine .inr ⟨by rw[hl];exact Nat.le_antisymm (Nat.le_of_sub_eq_zero this) hi,?_⟩;rw[this] at e;cases e;rfl
 have yb:∀{i:Nat}{x:Obj},(ob++[o])[i]?=some x->ob[i]?=some x∨(i=ob.length/\x=o):=λ{i x} e=>by
  rcases Nat.lt_or_ge i ob.length with hi|hi
  ·rw[List.getElem?_append_left hi] at e;exact .inl e
  ·rw[List.getElem?_append_right hi] at e
   rcases List.getElem?_eq_some_iff.mp e with⟨h1,h2⟩;have:i-ob.length=0:=by simpa using h1
   refine .inr ⟨Nat.le_antisymm (Nat.le_of_sub_eq_zero this) hi,?_⟩;rw[this] at e;cases e;rfl
 have lt:∀{i:Nat}{o:Obj},ob[i]?=some o->i<ob.length:=λe=>(List.getElem?_eq_some_iff.mp e).1;have IK:∀{i:Nat}{o:Addr},ad[i]?=some o->i<ob.length:=λe=>by rw[hl];exact (List.getElem?_eq_some_iff.mp e).1
 have old:∀{i:Nat}{a:Addr},ad[i]?=some a->@LT.lt Nat _ a L:=λ{i a} e=>Ou (ON (I.at_ i a _ e (O6 (IK e)))) hL;refine⟨I.gx.keeps k,λi a x e f=>?_,λi a hi e=>?_,λi j a b x hi hj f e e'=>?_,λi a x hi f e=>?_,λi j a b x hj qF f e e'=>?_,λb x e h=>k _ _ (I.off b x e λi hi q=>h i hi ?_),λb x e=>?_,I.Ga,?_⟩
 ·rcases rA e with e|zP<;>(first|(refine cA zP λe1 e2=>?_;clear zP)|skip)
  ·rcases yb f with f|j24<;>(first|(refine cA j24 λf1 f2=>?_;clear j24)|skip)
   ·exact k _ _ (I.at_ i a x e f)
   ·exact absurd (IK e) (by rw[f1];exact OQ _)
  ·rcases yb f with f|w0<;>(first|(refine cA w0 λf1 f2=>?_;clear w0)|skip)
   ·exact absurd (lt f) (by rw[e1];exact OQ _)
   ·rw[e2,f2];exact eL
 ·rcases rA e with e|sY<;>(first|(refine cA sY λe1 e2=>?_;clear sY)|skip)
  ·exact I.wr i a hi e
  ·exact absurd (Ou hi wl) (by rw[e1];exact OQ _)
 ·rcases rA e with e|pX<;>(first|(refine cA pX λe1 e2=>?_;clear pX)|skip)
  ·rcases rA e' with e'|pY<;>(first|(refine cA pY λe1' Gd=>?_;clear pY)|skip)
   ·rcases yb f with f|jc<;>(first|(refine cA jc λf1 f2=>?_;clear jc)|skip)
    ·exact I.ne i j a b x hi hj f e e'
    ·exact absurd (IK e') (by rw[f1];exact OQ _)
   ·rw[Gd];exact Oy (old e)
  ·exact absurd (Ou hi wl) (by rw[e1];exact OQ _)
 ·rcases rA e with e|eR<;>(first|(refine cA eR λe1 e2=>?_;clear eR)|skip)
  ·rcases yb f with f|eS<;>(first|(refine cA eS λf1 f2=>?_;clear eS)|skip)
   ·exact I.new i a x hi f e
   ·exact absurd (IK e) (by rw[f1];exact OQ _)
  ·subst e2
   refine⟨?_,λy q=>?_⟩
   ·cases q:h₀.get? a with
    |none=>rfl
    |some y=>refine aR (I.cE _ _ q) λy' e'=>?_;rw[nil] at e';cases e'
   ·have:=I.gx _ _ q;rw[nil] at this;cases this
 ·rcases rA e' with e'|j8<;>(first|(refine cA j8 λe1' Gd=>?_;clear j8)|skip)
  ·rcases yb f with f|j6<;>(first|(refine cA j6 λf1 f2=>?_;clear j6)|skip)
   ·rcases rA e with e|j4<;>(first|(refine cA j4 λe1 e2=>?_;clear j4)|skip)
    ·exact I.up i j a b x hj qF f e e'
    ·exact absurd (Om qF (lt f)) (by rw[e1];exact OQ _)
   ·exact absurd (IK e') (by rw[f1];exact OQ _)
  ·rcases rA e with e|j2<;>(first|(refine cA j2 λe1 e2=>?_;clear j2)|skip)
   ·rw[Gd];exact old e
   ·rw[e1,e1'] at qF;exact absurd qF (OQ _)
 ·rw[List.getElem?_append_left (by rw[<-hl];exact Nat.lt_of_lt_of_le hi wl)];exact q
 ·refine aR (I.cE b x e) λy q=>?_
  exact⟨y,k _ _ q⟩
 ·rw[List.length_append];exact OB I.Gb (Nat.le_add_right _ _)
theorem fj.push{ad:List Addr}{ob:List Obj}(I:fj F h₀ nw n0 ad ob h)(hl:ob.length=ad.length)(hf:o.isFreed=false):
  fj F h₀ nw n0 (ad++[h.objs.size]) (ob++[o]) (h.push o):=I.more hl (λb o e=>K' _ e) (OM _) (OC _ hf)
theorem fj.change{ad:List Addr}{ob:List Obj}{o':Obj}{a:Addr}(I:fj F h₀ nw n0 ad ob h)(ha:ad[i]?=some a)(ho:ob[i]?=some o)(hi:i<nw∨n0<=i)(hs:Heap.SameBut a h h')(ge:h'.get? a=some o'):
  fj F h₀ nw n0 ad (ob.set i o') h':=by
 have off:∀o,F.lookup a≠some o:=hi.elim (λhi=>I.wr i a hi ha) (λhi=>(I.new i a o hi ho ha).2);have lt:∀{i:Nat}{o:Obj},ob[i]?=some o->i<ob.length:=λe=>(List.getElem?_eq_some_iff.mp e).1;have back:∀{j:Nat}{x:Obj},(ob.set i o')[j]?=some x->∃y,ob[j]?=some y:=λ{j x} q=>by
  have hj:j<ob.length:=by simpa using (List.getElem?_eq_some_iff.mp q).1
  exact⟨_,O6 hj⟩
 have neq:∀{j:Nat}{b:Addr}{x:Obj},j≠i->ob[j]?=some x->ad[j]?=some b->b≠a:=λ{j b x} hj hx hb=>by
  rcases hi with hi|hi
  ·exact I.ne i j a b x hi hj hx ha hb
  ·rcases Nat.lt_or_gt_of_ne hj with q|q
   ·exact OI (I.up j i b a o hi q ho hb ha)
   ·exact Oy (I.up i j a b x (OB hi (PG q)) q hx ha hb)
 refine⟨λb x q=>?_,λj b x hb hx=>?_,I.wr,λj k b c x hj hk hx hb hc=>?_,λj b x hj hx hb=>?_,λj k b c x hk hjk hx hb hc=>?_,λb x q hn=>?_,λb x q=>?_,I.Ga,by rw[List.length_set];exact I.Gb⟩
 ·exact (hs.2 b λz=>off x (z▸q)).trans (I.gx b x q)
 ·by_cases hj:j=i
  ·subst hj
   rw[ha] at hb;cases hb;rw[List.getElem?_set_self (lt ho)] at hx;cases hx;exact ge
  ·rw[List.getElem?_set_ne (Ne.symm hj)] at hx
   exact (hs.2 b (neq hj hx hb)).trans (I.at_ j b x hb hx)
 ·refine aR (back hx) λy hy=>?_
  exact I.ne j k b c y hj hk hy hb hc
 ·refine aR (back hx) λy hy=>?_
  exact I.new j b y hj hy hb
 ·refine aR (back hx) λy hy=>?_
  exact I.up j k b c y hk hjk hy hb hc
 ·refine (hs.2 b λz=>?_).trans (I.off b x q hn)
  subst z;rcases hi with hi|hi
  ·exact hn i hi ha
  ·rw[(I.new i b o hi ho ha).1] at q;cases q
 ·by_cases hb:b=a
  ·subst hb;exact⟨_,ge⟩
  ·refine aR (I.cE b x q) λy hy=>?_
   exact⟨y,(hs.2 b hb).trans hy⟩
theorem fj.set{ad:List Addr}{ob:List Obj}{a:Addr}{f:Obj->Obj}(I:fj F h₀ nw n0 ad ob h)(ha:ad[i]?=some a)(ho:ob[i]?=some o)(hi:i<nw∨n0<=i)(hf:(f o).isFreed=false):
  fj F h₀ nw n0 ad (ob.set i (f o)) (h.update a f):=
 I.change ha ho hi (Heap.SameBut.update ..) (Oq f (I.at_ i a o ha ho) hf)
theorem fj.keep{ad:List Addr}{ob:List Obj}(I:fj F h₀ nw n0 ad ob h)(k:∀b o,h.get? b=some o->h'.get? b=some o):fj F h₀ nw n0 ad ob h':=
 ⟨I.gx.keeps k,λi a o e f=>k _ _ (I.at_ i a o e f),I.wr,I.ne,I.new,I.up,λb o e h=>k _ _ (I.off b o e h),λb o e=>(by refine aR (I.cE b o e) λx q=>⟨x,k _ _ q⟩),I.Ga,I.Gb⟩
theorem eO{b:Bool}{x y:α}(h:cond b (some x) none=some y):b=true/\x=y:=by
 cases b with
 |false=>cases h
 |true=>cases h;exact⟨rfl,rfl⟩
theorem tj{r:Result}(h:pop C r=some C'):∃F fs,C.fs=F::fs/\C'={C with A:=F.A,c:=F.c,t:=F.k r,fs:=fs}:=by
 unfold pop at h;cases e:C.fs with
 |nil=>rw[e] at h;cases h
 |cons F fs=>rw[e] at h;cases h;exact⟨F,fs,rfl,rfl⟩
section
variable{sg:Setting}{ad:List Addr}
theorem uJ{a:Addr}{f:Obj->List (Addr×Addr)->Option Cf}(h:look kl ad C a f=some C'):(∃o,kl a=some o/\f o C.ck=some C')∨∃(i:Nat)(b:Addr)(o:Obj),ad[i]?=some b/\C.ob[i]?=some o/\f o ((b,a)::C.ck)=some C':=by
 unfold look at h;generalize C.ct%64=z at h;cases z with
 |zero=>
  cases e:kl a with
  |none=>rw[e] at h;cases h
  |some o=>rw[e] at h;exact .inl ⟨o,rfl,h⟩
 |succ i=>
  refine aG (rx h) λb o e1 e2 h=>?_;exact .inr ⟨i,b,o,e1,e2,h⟩
theorem rB{a:Addr}{f:Obj->Obj}{k:Unit->Sem Fin}{z:Nat}(h:ry nw n0 ad C a f k z=some C'):∃(i:Nat)(b:Addr)(o:Obj),ad[i]?=some b/\C.ob[i]?=some o/\(i<nw∨n0<=i)/\(f o).isFreed=false/\C'={C with t:=k (),ob:=C.ob.set i (f o),ck:=(b,a)::C.ck,ct:=C.ct/64}:=by
 cases z with
 |zero=>cases h
 |succ i=>
  refine aG (rx h) λb o e1 e2 h=>?_;refine cA (eO h) λh1 h2=>?_;refine cA ((Bool.and_eq_true _ _).mp h1) λh3 h4=>?_;exact⟨i,b,o,e1,e2,((Bool.or_eq_true _ _).mp h3).imp (λz=>OH z) (λz=>OH z),by simpa using h4,h2.symm⟩
noncomputable def kd:Sem Fin->Nat
 | .alloc _ _=>1
 | .raise _=>2
 | .rule _ _=>2
 | .at _ _=>2
 | .point _ _=>2
 | .call _ _ _ _ _=>3
 | .pure _=>0
 | .ask _=>0
 | .fresh _=>0
 | .handled _ _=>0
 | .load _ _ _=>0
 | .update _ _ _ _=>0
 | .unsupported _=>0
 | .finish _=>0
 | .loadIfAlive _ _=>0
 | .register _ _=>0
 | .choose _ _ _=>0
 | .os _ _ _=>0
 | .newGen _ _=>0
 | .genState _ _=>0
 | .resume _ _ _ _=>0
 | .yield _ _ _ _=>0
 | .stack _=>0
 | .fork _ _=>0
 | .thread _=>0
 | .await _ _ _ _ _=>0
noncomputable def l4(t:Sem Fin):Bool:=Nat.beq (kd t) 1
theorem iP{x:α}(h:(none:Option α)=some x):P:=by cases h
theorem jR(h:false=true):P:=by cases h
theorem yc{t:Sem Fin}:l4 t=true->∃o k,t = .alloc o k:=by
 cases t with
 |alloc o k=>exact λ_=>⟨o,k,rfl⟩
 |_=>exact jR
inductive IM(kl:Addr->Option Obj)(sg:Setting)(nw n0:Nat)(ad:List Addr)(C C':Cf)(T:Sem Fin):Prop
 |a1 (f:Flow) (e:T = .pure (.done f)) (h:pop C (.ok f)=some C')
 |a2 (c:Code) (e:T = .pure (.again c)) (q:c.quiet=true) (h:C'={C with c:=c,t:=dn c})
 |a3 (x:Value) (e:T = .raise x) (h:pop C (.error x)=some C')
 |a4 (u:String) (k:Unit->Sem Fin) (e:T = .rule u k) (h:C'={C with t:=k ()})
 |a5 (u:Pos) (k:Unit->Sem Fin) (e:T = .at u k) (h:C'={C with t:=k ()})
 |a6 (u:List Value) (k:Unit->Sem Fin) (e:T = .point u k) (h:C'={C with t:=k ()})
 |a7 (k:Setting->Sem Fin) (e:T = .ask k) (h:C'={C with t:=k sg})
 |a8 (k:Tok->Sem Fin) (e:T = .fresh k) (h:C'={C with t:=k C.tk,tk:=C.tk+1})
 |a9 (k:Option Value->Sem Fin) (e:T = .handled false k) (h:C'={C with t:=k C.A.handled})
 |b1 (a:Addr) (q:Option Value) (k:Obj->Sem Fin) (e:T = .load a q k) (h:look kl ad C a (λo ck=>some {C with t:=k o,ck:=ck,ct:=C.ct/64})=some C')
 |b2 (a:Addr) (q:Option Value) (f:Obj->Obj) (k:Unit->Sem Fin) (e:T = .update a q f k) (h:ry nw n0 ad C a f k (C.ct%64)=some C')
 |b3 (o:Obj) (k:Addr->Sem Fin) (e:T = .alloc o k) (h:ya C o k ad[C.ob.length]?=some C')
 |b4 (c:Code) (hd:Option Value) (g:Bool) (l:List Value) (k:Result->Sem Fin) (e:T = .call c hd g l k) (q:IJ hd=true) (h:C'={C with A:=(C.A.under C.c).mark hd,c:=c,t:=dn c,fs:=⟨C.A,C.c,k⟩::C.fs})
theorem mQ{T:Sem Fin}:stepT kl sg nw n0 ad C T=some C'->IM kl sg nw n0 ad C C' T:=by
 cases T with
 |pure x=>cases x with
  |done f=>exact .a1 f rfl
  |again c=>exact λh=>.a2 c rfl (eO h).1 (eO h).2.symm
 |raise e=>exact .a3 e rfl
 |rule u k=>exact λh=>.a4 u k rfl (PA h).symm
 | «at» u k=>exact λh=>.a5 u k rfl (PA h).symm
 |point u k=>exact λh=>.a6 u k rfl (PA h).symm
 |ask k=>exact λh=>.a7 k rfl (PA h).symm
 |fresh k=>exact λh=>.a8 k rfl (PA h).symm
 |handled b k=>cases b with
  |true=>exact iP
  |false=>exact λh=>.a9 k rfl (PA h).symm
 |load a q k=>exact .b1 a q k rfl
 |update a q f k=>exact .b2 a q f k rfl
 |alloc o k=>exact .b3 o k rfl
 |call c hd g l k=>exact λh=>.b4 c hd g l k rfl ((Bool.and_eq_true _ _).mp (eO h).1).1 (eO h).2.symm
 |_=>exact iP
theorem Av(h:step kl sg nw n0 ad C=some C'):∀p∈C.ck,p∈C'.ck:=by
 intro p hp;unfold step at h;have pp:∀r,pop C r=some C'->p∈C'.ck:=λr h=>by refine aN (tj h) λ_ _ _ e=>?_;rw[e];exact hp
 have ps:∀X:Cf,C'=X->X.ck=C.ck->p∈C'.ck:=λX h e=>by rw[h,e];exact hp
 refine (mQ h).casesOn (λf _=>pp _) (λc _ _ e=>ps _ e rfl) (λe _=>pp _) (λu k _ e=>ps _ e rfl) (λu k _ e=>ps _ e rfl) (λu k _ e=>ps _ e rfl) (λk _ e=>ps _ e rfl) (λk _ e=>ps _ e rfl) (λk _ e=>ps _ e rfl)
  (λa q k _ h=>?_) (λa q f k _ h=>?_) (λo k _ h=>?_) (λc hd g l k _ _ e=>ps _ e rfl)
 ·rcases uJ h with j3|j4<;>(first|(refine ar j3 λo e e'=>?_;clear j3)| (refine bf j4 λi b o e1 e2 e'=>?_;clear j4))
  ·exact ps _ (PA e').symm rfl
  ·rw[<-Option.some.inj e'];exact .tail _ hp
 ·refine ez (rB h) λi b o j1=>nV j1 λe1 e2 e3 e4 e5=>?_;clear j1
  rw[e5];exact .tail _ hp
 ·cases z:ad[C.ob.length]? with
  |none=>rw[z] at h;exact iP h
  |some a=>rw[z] at h;exact ps _ (eO h).2.symm rfl
theorem pZ{X:Cf}(e:step kl sg nw n0 ad C=some X):ex kl sg nw n0 ad (n+1) C=ex kl sg nw n0 ad n X:=by rw[ex,e]
theorem uK(e:step kl sg nw n0 ad C=none):ex kl sg nw n0 ad (n+1) C=C:=by rw[ex,e]
theorem IP:∀(n:Nat){C:Cf},∀p∈C.ck,p∈(ex kl sg nw n0 ad n C).ck:=by
 intro n;induction n with
 |zero=>intro C p hp;unfold ex;exact hp
 |succ n ih=>
  intro C p hp;cases e:step kl sg nw n0 ad C with
  |none=>rw[uK e];exact hp
  |some C'=>rw[pZ e];exact ih p (Av e p hp)
theorem rD(l:List Addr)(hl:C.ob.length=ad.length)(ht:l4 C.t=false):step kl sg nw n0 (ad++l) C=step kl sg nw n0 ad C:=by
 have get:∀{α:Type}(i:Nat)(k:Addr->Obj->Option α),oW (ad++l)[i]? C.ob[i]? k=oW ad[i]? C.ob[i]? k:=λi k=>by
  rcases Nat.lt_or_ge i ad.length with hi|hi
  ·rw[List.getElem?_append_left hi]
  ·rw[show C.ob[i]?=none from List.getElem?_eq_none (by rw[hl];exact hi)];rfl
 have lk:∀(a:Addr)(f:Obj->List (Addr×Addr)->Option Cf),look kl (ad++l) C a f=look kl ad C a f:=λa f=>by
  unfold look;generalize C.ct%64=z;cases z with
  |zero=>rfl
  |succ i=>exact get _ _
 have up:∀(a:Addr)(f:Obj->Obj)(k:Unit->Sem Fin)(z:Nat),ry nw n0 (ad++l) C a f k z=ry nw n0 ad C a f k z:=λa f k z=>by
  cases z with
  |zero=>rfl
  |succ i=>exact get _ _
 unfold step;revert ht;generalize C.t=t;intro ht;cases t with
 |load a q k=>exact lk a (λo ck=>some {C with t:=k o,ck:=ck,ct:=C.ct/64})
 |update a q f k=>exact up _ _ _ _
 |alloc o k=>exact jR ht.symm
 |_=>rfl
end
section
variable{ad:List Addr}
theorem dh{T:Sem Fin}(hT:C.t=T)(h:wpOwn (model prog w) C.A C.c T (postC prog w C.A (post prog w R C.fs)) (postE (post prog w R C.fs)) s):fg prog w R C s:=by unfold fg;rw[hT];exact h
theorem Aw(hk:∀a o,kl a=some o->F.lookup a=some o)(I:fj F h₀ nw n0 ad C.ob s.heap)(ht:s.toks=C.tk)(na:l4 C.t=false)(h:step kl ⟨prog,w.params⟩ nw n0 ad C=some C')(ck:∀p∈C'.ck,p.1=p.2):
  ∃h',fj F h₀ nw n0 ad C'.ob h'/\C'.ob.length=C.ob.length/\(fg prog w R C' (bp s h' C'.tk)->fg prog w R C s):=by
 rcases s with⟨h0,g,d,t,os⟩;have ht:t=C.tk:=ht;rw[ht];unfold step at h;have fin:∀X:Cf,C'=X->X.ob=C.ob->(fg prog w R X ⟨h0,g,d,X.tk,os⟩->fg prog w R C ⟨h0,g,d,C.tk,os⟩)->∃h',fj F h₀ nw n0 ad C'.ob h'/\C'.ob.length=C.ob.length/\(fg prog w R C' (bp ⟨h0,g,d,C.tk,os⟩ h' C'.tk)->fg prog w R C ⟨h0,g,d,C.tk,os⟩):=λX h e f=>by rw[h];exact⟨h0,e▸I,by rw[e],f⟩
 have pp:∀r,pop C r=some C'->(post prog w R C.fs r ⟨h0,g,d,C.tk,os⟩->fg prog w R C ⟨h0,g,d,C.tk,os⟩)->∃h',fj F h₀ nw n0 ad C'.ob h'/\C'.ob.length=C.ob.length/\(fg prog w R C' (bp ⟨h0,g,d,C.tk,os⟩ h' C'.tk)->fg prog w R C ⟨h0,g,d,C.tk,os⟩):=λr h f=>by refine aN (tj h) λF fs e e'=>?_;exact fin _ e' rfl λhc=>f (by rw[e];exact hc)
 refine (mQ h).casesOn (λf e h=>pp _ h λhc=>dh e (y_pure _ prog w _ _ _ _ _ _ (y_done prog w _ _ _ f hc)))
  (λc e q h=>fin _ h rfl λhc=>dh e (y_pure _ prog w _ _ _ _ _ _ (y_again prog w _ _ _ c q (y_code prog w _ _ _ c (by rw[oX];exact hc)))))
  (λx e h=>pp _ h λhc=>dh e (y_raise _ prog w _ _ _ _ _ _ (y_err _ _ x hc))) (λu k e h=>fin _ h rfl λhc=>dh e λΓ p a b=>hc Γ p a b) (λq k e h=>fin _ h rfl λhc=>dh e λΓ p a b=>hc Γ q a b)
  (λu k e h=>fin _ h rfl λhc=>dh e λΓ p a b=>hc Γ p a b) (λk e h=>fin _ h rfl λhc=>dh e λΓ p a b=>hc Γ p a b) (λk e h=>fin _ h rfl λhc=>dh e (y_fresh _ prog w _ _ _ _ _ _ _ _ _ _ hc))
  (λk e h=>fin _ h rfl λhc=>dh e (y_handled _ prog w _ _ _ _ _ _ hc)) (λa p k e h=>?_) (λa p f k e h=>?_) (λo k e _=>?_) (λc hd gd lv k e q h=>fin _ h rfl λhc=>dh e (y_call _ prog w _ _ _ _ _ c hd gd lv k (λz=>?_) (y_code prog w _ _ _ c (by rw[oX];exact hc))))
 ·rcases uJ h with j3|j4<;>(first|(refine ar j3 λo e1 e'=>?_;clear j3)| (refine bf j4 λi b o e1 e2 e'=>?_;clear j4))
  ·exact fin _ (PA e').symm rfl λhc=>dh e (y_load _ prog w _ _ _ _ _ _ _ _ _ a p k o (I.gx _ _ (hk _ _ e1)) hc)
  ·have e3:b=a:=ck (b,a) (by rw[<-Option.some.inj e'];exact .head _)
   exact fin _ (PA e').symm rfl λhc=>dh e (y_load _ prog w _ _ _ _ _ _ _ _ _ a p k o (e3▸I.at_ i b o e1 e2) hc)
 ·refine ez (rB h) λi b o j1=>nV j1 λe1 e2 e3 e4 e5=>?_;clear j1
  have e6:b=a:=ck (b,a) (by rw[e5];exact .head _);rw[e6] at e1;rw[e5];exact⟨h0.update a f,I.set e1 e2 e3 e4,by rw[List.length_set],λhc=>dh e (wpOwn_bind (m:=updatePart a p f) (f:=k) (wpOwn_of_wpAny (wpAny_updatePart (I.at_ i a o e1 e2) hc)))⟩
 ·rw[e] at na;exact jR na.symm
 ·rw[z] at q;exact jR q
def lA(prog:Program)(w:World)(R:Result->Shared->Prop)(F:Frag)(h₀:Heap)(nw n0:Nat)(s:Shared)(ad:List Addr)(C:Cf):Prop:=
 (∀p∈C.ck,p.1=p.2)/\∀h',fj F h₀ nw n0 ad C.ob h'->fg prog w R C (bp s h' C.tk)
theorem IQ(hk:∀a o,kl a=some o->F.lookup a=some o):∀(n m:Nat){ad:List Addr}{C:Cf}{s:Shared},fj F h₀ nw n0 ad C.ob s.heap->C.ob.length=ad.length->s.toks=C.tk->
  (lL m λl=>lA prog w R F h₀ nw n0 s (ad++l) (ex kl ⟨prog,w.params⟩ nw n0 (ad++l) n C))->fg prog w R C s:=by
 have stop:∀{ad:List Addr}{C:Cf}{s:Shared}(l:List Addr),fj F h₀ nw n0 ad C.ob s.heap->C.ob.length=ad.length->s.toks=C.tk->lA prog w R F h₀ nw n0 s (ad++l) C->fg prog w R C s:=λ{ad C s} l I hl ht H=>by have:=H.2 s.heap (I.wide l hl);rw[<-ht] at this;exact this
 intro n;induction n with
 |zero=>
  intro m ad C s I hl ht H;refine aR H.some λl H=>?_;unfold ex at H;exact stop l I hl ht H
 |succ n ih=>
  intro m ad C s I hl ht H;have halt:∀l,step kl ⟨prog,w.params⟩ nw n0 (ad++l) C=none->lA prog w R F h₀ nw n0 s (ad++l) (ex kl ⟨prog,w.params⟩ nw n0 (ad++l) (n+1) C)->fg prog w R C s:=λl e H=>stop l I hl ht (uK e▸H);cases na:l4 C.t with
  |false=>
   cases hs:step kl ⟨prog,w.params⟩ nw n0 ad C with
   |none=>
    refine aR H.some λl H=>?_;exact halt l ((rD l hl na).trans hs) H
   |some C'=>
    have H':lL m λl=>lA prog w R F h₀ nw n0 s (ad++l) (ex kl ⟨prog,w.params⟩ nw n0 (ad++l) n C'):=H.mono λl p=>pZ ((rD l hl na).trans hs)▸p;have ck:∀p∈C'.ck,p.1=p.2:=λp hp=>by refine ar H'.some λl H _=>?_;exact H p (IP n p hp)
    refine bl (Aw (R:=R) hk I ht na hs ck) λh' I' nX back=>?_;exact back (ih m (s:=bp s h' C'.tk) I' (nX.trans hl) rfl H')
  |true=>
   refine oM (yc na) λo k e=>?_;have st:∀l,step kl ⟨prog,w.params⟩ nw n0 (ad++l) C=ya C o k (ad++l)[C.ob.length]?:=λl=>by unfold step;rw[e];rfl
   cases hf:o.isFreed with
   |true=>
    refine aR H.some λl H=>?_;refine halt l ((st l).trans ?_) H;generalize (ad++l)[C.ob.length]?=z;cases z with
    |none=>rfl
    |some a=>
     show cond (!o.isFreed) _ _=_;rw[hf];rfl
   |false=>
    cases m with
    |zero=>
     refine halt [] ((st []).trans ?_) H;rw[show (ad++[])[C.ob.length]?=none from List.getElem?_eq_none (by rw[hl];simp)];rfl
    |succ m=>
     have H1:=H s.heap.objs.size;have hs:∀l,step kl ⟨prog,w.params⟩ nw n0 (ad++s.heap.objs.size::l) C=some {C with t:=k s.heap.objs.size,ob:=C.ob++[o]}:=λl=>by rw[st,show (ad++s.heap.objs.size::l)[C.ob.length]?=some s.heap.objs.size from by rw[hl];simp];show cond (!o.isFreed) _ _=_;rw[hf];rfl
     have H2:lL m λl=>lA prog w R F h₀ nw n0 (bp s (s.heap.push o) C.tk) (ad++[s.heap.objs.size]++l) (ex kl ⟨prog,w.params⟩ nw n0 (ad++[s.heap.objs.size]++l) n {C with t:=k s.heap.objs.size,ob:=C.ob++[o]}):=H1.mono λl p=>by rw[List.append_assoc];exact pZ (hs l)▸p
     have:=ih m (s:=bp s (s.heap.push o) C.tk) (C:={C with t:=k s.heap.objs.size,ob:=C.ob++[o]}) (I.push hl hf) (by simp[hl]) rfl H2;rcases s with⟨h0,g,d,t,os⟩;have ht:t=C.tk:=ht;rw[ht];exact dh e (wpOwn_bind (m:=alloc o) (f:=k) (wpOwn_of_wpAny (wpAny_alloc this)))
end
section
variable{ad:List Addr}
def IS(Q E:Value->Shared->Prop):Result->Shared->Prop:=λr s=>match r with
 | .ok (.ret v)=>Q v s
 | .ok _=>False
 | .error e=>E e s
theorem gK{c:Code}{R':Result->Shared->Prop}(h:codeAny (model prog w) A c R s)(hR:∀r s,R r s->R' r s):codeAny (model prog w) A c R' s:=λΓ p hc hΓ=>wpCode_mono (λr s q=>hR r s q) (h Γ p hc hΓ)
theorem bH(ob:List Obj)(ct:Nat)(h:fg prog w (IS Q E) ⟨A.mark none,.call f ⟨vs,kw⟩,dn (.call f ⟨vs,kw⟩),[],s.toks,ob,[],ct⟩ s):wpAny (model prog w) A (call f vs kw) Q E s:=by
 have z:codeAny (model prog w) (A.mark none) (.call f ⟨vs,kw⟩) (IS Q E) s:=y_code prog w _ _ _ _ (by rw[oX];exact h);refine y_start _ prog w A Q E s (.call f ⟨vs,kw⟩) none false [] _ (λq=>by cases q) (gK z λr s q=>?_);cases r with
 |error e=>exact wpAny_throw q
 |ok f=>
  cases f with
  |ret v=>exact OD q
  |_=>cases q
theorem dM(ht:C.t = .pure (.done (.ret v)))(hf:C.fs=[])(q:Q v s):fg prog w (IS Q E) C s:=by unfold fg;rw[ht,hf];exact y_pure _ prog w _ _ _ _ _ _ (y_done prog w _ _ _ _ q)
theorem IT{e:Value}(ht:C.t = .raise e)(hf:C.fs=[])(q:E e s):fg prog w (IS Q E) C s:=by unfold fg;rw[ht,hf];exact y_raise _ prog w _ _ _ _ _ _ (y_err _ _ e q)
theorem bF{c:Code}(ct:Nat)(ht:C.t=PySem.W.R.bindR (PySem.W.Fast.tw15066281185411960212 0) λ_=>.pure (.again c))(hq:c.quiet=true)(hd:Nat.blt (C.A.under C.c).depth recursionLimit=true)(hn:s.heap.NoLimit)(h:fg prog w R ⟨C.A,c,dn c,C.fs,C.tk,C.ob,[],ct⟩ s):fg prog w R C s:=by
 unfold fg;rw[ht,<-PySem.W.Fast.te15066281185411960212,<-PySem.W.R.bindR_eq];refine wpOwn_bind (m:=enterFrame) (wpOwn_of_wpAny (wpAny_enterFrame hn (OH hd) ?_));refine y_pure _ prog w _ _ _ _ _ _ (y_again prog w _ _ _ c hq (y_code prog w _ _ _ c ?_));rw[oX];exact h
theorem yd{c:Code}{T:Sem Fin}(ct:Nat)(ht:C.t = .pure (.again c))(hq:c.quiet=true)(hT:dn c=T)(h:fg prog w R ⟨C.A,c,T,C.fs,C.tk,C.ob,[],ct⟩ s):fg prog w R C s:=by unfold fg;rw[ht];refine y_pure _ prog w _ _ _ _ _ _ (y_again prog w _ _ _ c hq (y_code prog w _ _ _ c ?_));rw[oX,hT];exact h
theorem tq{id:String}{b:Builtin}(a:Args)(h:entryFor table id=some b):dn (.builtin id a)=b a:=by rw[<-oX];show (match entryFor table id with|some b=>b a|none=>_)=_;rw[h]
noncomputable def Cf.re(C:Cf)(t:Sem Fin)(tk:Nat)(ob:List Obj)(ct:Nat):Cf:=⟨C.A,C.c,t,C.fs,tk,ob,[],ct⟩
noncomputable def fA:Sem Fin->Option (Code×Option Value×(Result->Sem Fin))
 | .call c hd _ _ k=>some (c,hd,k)
 | .raise _=>none
 | .rule _ _=>none
 | .at _ _=>none
 | .point _ _=>none
 | .alloc _ _=>none
 | .pure _=>none
 | .ask _=>none
 | .fresh _=>none
 | .handled _ _=>none
 | .load _ _ _=>none
 | .update _ _ _ _=>none
 | .unsupported _=>none
 | .finish _=>none
 | .loadIfAlive _ _=>none
 | .register _ _=>none
 | .choose _ _ _=>none
 | .os _ _ _=>none
 | .newGen _ _=>none
 | .genState _ _=>none
 | .resume _ _ _ _=>none
 | .yield _ _ _ _=>none
 | .stack _=>none
 | .fork _ _=>none
 | .thread _=>none
 | .await _ _ _ _ _=>none
theorem ye{t:Sem Fin}{x:Code×Option Value×(Result->Sem Fin)}:fA t=some x->∃g l,t = .call x.1 x.2.1 g l x.2.2:=by
 cases t with
 |call c hd g l k=>exact λh=>⟨g,l,by cases h;rfl⟩
 |_=>exact iP
noncomputable def tv(t:Sem Fin):Option (Code×Option Value):=(fA t).map λx=>(x.1,x.2.1)
noncomputable def eu(t:Sem Fin)(r:Result):Sem Fin:=((fA t).map λx=>x.2.2 r).getD t
theorem oY{t:Sem Fin}{c:Code}(h:tv t=some (c,hd)):∃g l k,t = .call c hd g l k/\∀r,eu t r=k r:=by refine ar (Option.map_eq_some_iff.mp h) λj1 q e=>?_;rcases j1 with⟨c',bL,k⟩;refine oM (ye q) λg l e'=>?_;cases e;exact⟨g,l,k,e',λr=>by unfold eu;rw[q];rfl⟩
theorem uL{c:Code}(ht:tv C.t=some (c,hd))(hnb:hd≠some byPass)(h:codeAny (model prog w) ((C.A.under C.c).mark hd) c (λr s'=>fg prog w R (C.re (eu C.t r) 0 [] 0) s') s):fg prog w R C s:=by
 refine aV (oY ht) λg l k e ek=>?_;unfold fg;rw[e];refine y_call _ prog w _ _ _ _ _ c hd g l k hnb (gK h λr s' q=>?_);unfold fg Cf.re at q;rw[ek] at q;exact q
theorem c7{c:Code}(ht:tv C.t=some (c,none))(h:wpAny (model prog w) (C.A.under C.c) (runValue c) (λv s'=>fg prog w R (C.re (eu C.t (.ok (.ret v))) 0 [] 0) s') (λe s'=>fg prog w R (C.re (eu C.t (.error e)) 0 [] 0) s') s):fg prog w R C s:=λΓ p hc hΓ=>by
 refine aV (oY ht) λg l k e ek=>?_;have q:=h Γ p (hc▸hΓ.in);rw[Sem.wp_runValue] at q;rw[e,Sem.wp_call];refine wpCode_mono (λr s' z=>?_) q;unfold fg Cf.re at z;simp only[ek] at z;split at z
 ·exact z Γ p hc hΓ
 ·exact z.elim
 ·exact z Γ p hc hΓ
end
theorem IU{l:List (Addr×Addr)}(e:l.map (·.1)=l.map (·.2)):∀p∈l,p.1=p.2:=by
 induction l with
 |nil=>intro p hp;cases hp
 |cons x l ih=>
  intro p hp;rw[List.map_cons,List.map_cons] at e;injection e with e1 e2
  rcases OA hp with j1|hp<;>(first|(replace j1:=OK j1;subst j1)|skip)
  ·exact e1
  ·exact ih e2 p hp
noncomputable abbrev klK(w:World):Addr->Option Obj:=λa=>(K w.params).lookup a
noncomputable abbrev A0(fr:Option (List Env))(gd:Option (List Code)):Around:={handled:=none,depth:=400,frames:=fr,guards:=gd,units:=1000}
noncomputable abbrev Ax:String:="special-get-raises"
theorem qG(w:World):∃b,w.withFollow Ax b=w:=⟨_,World.withFollow_self w Ax⟩
noncomputable abbrev exK(w:World)(b:Bool)(nw n0:Nat)(ad:List Addr)(n:Nat)(C:Cf):Cf:=ex (klK w) ⟨PySem.Challenge.pw_kl0025_01,(w.withFollow Ax b).params⟩ nw n0 ad n C
section
variable{b:Bool}{ad:List Addr}
theorem ended(e:C.ck.map (·.1)=C.ck.map (·.2))(h:∀h',fj (K w.params) h₀ nw n0 ad C.ob h'->fg pw w R C (bp s h' C.tk)):lA pw w R (K w.params) h₀ nw n0 s ad C:=⟨IU e,h⟩
theorem b0(h:let Z:=C;Z.ck.map (·.1)=Z.ck.map (·.2)/\∀h',fj (K w.params) h₀ nw n0 ad Z.ob h'->fg pw w R Z (bp s h' Z.tk)):lA pw w R (K w.params) h₀ nw n0 s ad C:=ended h.1 h.2
theorem aX(hb:w.withFollow Ax b=w)(n m:Nat)(I:fj (K w.params) h₀ nw n0 ad C.ob s.heap)(hl:C.ob.length=ad.length)(ht:s.toks=C.tk)(H:lL m λl=>lA pw w R (K w.params) h₀ nw n0 s (ad++l) (exK w b nw n0 (ad++l) n C)):fg pw w R C s:=IQ (λ_ _ e=>e) n m I hl ht (by unfold exK at H;rw[hb] at H;exact H)
theorem iQ(X:(K w.params).In h₀):fj (K w.params) h₀ 0 0 [] [] h₀:=
 ⟨X,λi a o e=>(by cases e),λi a h=>absurd h (PE _),λi j a b o h=>absurd h (PE _),λi a o _ e=>(by cases e),λi j a b o _ _ e=>(by cases e),λb o e _=>e,λb o e=>⟨o,e⟩,OM _,OM _⟩
end
theorem fj.stays{ad:List Addr}{ob:List Obj}(I:fj F h₀ 0 n0 ad ob h):h₀.StaysIn h:=λb o e=>I.off b o e λi hi=>absurd hi (PE _)
theorem fj.fresh{ad:List Addr}{ob:List Obj}(I:fj F h₀ nw n0 ad ob h)(i:Nat){a:Addr}(ha:ad[i]?=some a)(hb:(ob[i]?).isSome=true)(hi:Nat.ble n0 i=true):h₀.get? a=none:=by refine aR (Option.isSome_iff_exists.mp hb) λo ho=>?_;exact (I.new i a o (OH hi) ho ha).1
theorem fj.lt{ad:List Addr}{ob:List Obj}(I:fj F h₀ nw n0 ad ob h)(i j:Nat){a b:Addr}(ha:ad[i]?=some a)(hb:ad[j]?=some b)(hj:(ob[j]?).isSome=true)(hn:Nat.ble n0 j=true)(ij:Nat.blt i j=true):@LT.lt Nat _ a b:=by refine aR (Option.isSome_iff_exists.mp hj) λo ho=>?_;exact I.up i j a b o (OH hn) (OH ij) ho ha hb
noncomputable abbrev fc(q:String)(B:List Stmt)(S:Scope)(a c:Nat)(L:Addr):Code:=.func B (envOf (Str.ofString q) S L a (.ref c))
noncomputable def yf(F:Frag)(a:Addr):Option (Array DictEntry):=match F.lookup a with
 |some ⟨_,_,.dict es _,_⟩=>some es
 |_=>none
noncomputable def mR(es:Array DictEntry):Bool:=es.toList.all λe=>match e.key with
 | .str ..=>true
 |_=>false
theorem keys_str{es:Array DictEntry}(k:mR es=true):∀d∈es,∃s t,d.key = .str s t:=λd hd=>by
 have:=List.all_eq_true.mp k d (by simpa using hd);revert this;generalize d.key=v;intro this;cases v with
 |str s t=>exact⟨s,t,rfl⟩
 |_=>cases this
theorem B7{a:Addr}{es:Array DictEntry}(X:F.In h)(e:yf F a=some es)(k:mR es=true):h.Ns a (nsFind es):=by
 unfold yf at e;split at e
 ·rename_i x _ _ es' ep sl q
  cases e;exact⟨_,_,_,X _ _ q,rfl,keys_str k,λ_=>rfl⟩
 ·cases e
noncomputable def B8(P:Params):Array DictEntry:=((yf (K P) cStatics).getD #[])
theorem cB{P:Params}(X:(K P).In h):h.NoLimit:=
 ⟨_,B7 (es:=B8 P) X (by kernel_rfl) (by kernel_rfl),by kernel_rfl⟩
noncomputable def IV(h:Heap):List Addr->List Obj->Prop
 |a::ad,o::ob=>h.get? a=some o/\IV h ad ob
 |_,_=>True
theorem IV.at:∀{ad:List Addr}{ob:List Obj},IV h ad ob->∀(i:Nat) a o,ad[i]?=some a->ob[i]?=some o->h.get? a=some o
 | [],_,_,_,_,_,e,_=>by cases e
 |_::_,[],_,_,_,_,_,e=>by cases e
 |_::_,_::_,H,0,_,_,e,f=>by cases e;cases f;exact H.1
 |_::_,_::_,H,i+1,_,_,e,f=>H.2.at i _ _ e f
theorem ir(X:(K w.params).In h)(ad:List Addr)(ob:List Obj)(H:IV h ad ob):fj (K w.params) h 0 ob.length ad ob h:=
 have no:∀{j:Nat}{o:Obj},ob.length<=j->ob[j]?=some o->False:=λhj e=>absurd (List.getElem?_eq_some_iff.mp e).1 (Nat.not_lt.mpr hj)
 ⟨X,H.at,λi a h=>absurd h (PE _),λi j a b o h=>absurd h (PE _),λi a o hi e=>(no hi e).elim,λi j a b o hj _ e=>(no hj e).elim,λb o e _=>e,λb o e=>⟨o,e⟩,PF _,OM _⟩
theorem wc(D:Mem h h' [] news):h.StaysIn h':=λb o e=>D.keep b o e (by simp[away])
theorem Mz{R:Value->Heap->Prop}(hq:∀v h' tk,s.heap.StaysIn h'->R v h'->Q v (bp s h' tk))(D:Mem s.heap h' [] news)(r:R v h'):
  Q v {heap:=h',gens:=s.gens,drawn:=s.drawn,toks:=tk,os:=s.os}:=hq v h' tk (wc D) r
def uM(a b:Value):Value->Heap->Prop:=λv h=>∃r o n,v = .ref r/\h.get? r=some o/\o.cls = .ref 417/\o.data = .seq #[a,b] n
noncomputable abbrev listOf(items:Array Value):Obj:=Obj.mapSeq (·++items) {cls:=.type "list",data:=.seq #[] 0}
theorem qa(it:Addr){T:String}(hT:T="list"∨T="tuple")(ho:s.heap.get? it=some o)(hc:o.cls = .type T)(hd:o.data = .seq items n)(hQ:∀h' L,(∀b o',s.heap.get? b=some o'->h'.get? b=some o')->s.heap.objs.size<=L->h'.get? L=some (listOf items)->R (.ok (.ret (.ref L))) (bp s h' s.toks))(hsz:items.size<=sizeLine):
  codeAny (model prog w) A (.builtin "proto.collect" ⟨[.ref it],[]⟩) R s:=by
 refine O9 F.entry_proto_collect ?_;rw[Around.under_plainId F.plain_proto_collect _];show wpAny _ A.in1 (newList [] >>= λl=>again (.builtin "list.__iadd__" ⟨[l,.ref it],[]⟩)) _ _ s;refine J' (O5 ?_);refine OD ⟨plainId_quiet F.plain_list_iadd _,O9 F.entry_list_iadd ?_⟩;rw[Around.under_plainId F.plain_list_iadd _];show wpAny _ A.in1 (Builtin.List.listExtendWith (.ref s.heap.objs.size) (.ref it) (.ref s.heap.objs.size)) _ _ _;have hS:(s.heap.push {cls:=.type "list",data:=.seq ([]:List Value).toArray}).get? s.heap.objs.size=some {cls:=.type "list",data:=.seq #[] 0}:=OC _ rfl;exact wpAny_extend_seq (hsz:=hsz) (A:=A) (R:=R) (s:=(bp s (s.heap.push {cls:=.type "list",data:=.seq ([]:List Value).toArray}) s.toks)) _ it _ 0 hT hS (K' _ ho) hc hd
  (hQ _ _ (λb o' hb=>(OZ _ _ (Oy (ON hb))).trans (K' _ hb)) (OM _) (Oq _ hS rfl))
section
variable{a b:UInt64}
theorem El(X:(K w.params).In s.heap)(hq:∀v h' tk,s.heap.StaysIn h'->uM (.float a t) (.float b u) v h'->Q v (bp s h' tk)):
  wpAny (model pw w) (A0 fr gd) (call (.ref 417) [] [(Str.ofString "slope",.float a t),(Str.ofString "intercept",.float b u)]) Q E s:=by
 refine aR (qG w) λz hz=>?_;refine bH [] 22654725280717312597208677125958303985172480 ?_;refine aX hz 42 1 (iQ X) rfl rfl λc=>b0 ?_;intro Z;refine⟨by kernel_rfl,λh' I=>?_⟩;refine bF (c:=fc "LinearRegression.__new__" Dm Hy 367 366 c) 83741363734449699992939844797678751744 (by kernel_rfl) (by kernel_rfl) (by kernel_rfl) (cB I.gx) ?_;refine aX hz 38 1 I (by kernel_rfl) rfl λd=>b0 ?_;intro Z;refine⟨by kernel_rfl,λh' I=>?_⟩;refine uL (c:=.builtin "proto.collect" ⟨[.ref d],[]⟩) (hd:=none) (by kernel_rfl) (λq=>by cases q) ?_;refine qa d (items:=#[.float a t,.float b u]) (.inr rfl) (I.at_ 1 d {cls:=.type "tuple",data:=.seq #[.float a t,.float b u] 0} rfl (by kernel_rfl)) rfl rfl (λh2 L k hL eL=>?_) (OH rfl);refine aX hz (C:=Cf.re _ _ _ (_++[_]) 5766014898001694723) 24 2 (I.more (by kernel_rfl) k hL eL) (by kernel_rfl) rfl λe f=>b0 ?_;intro Z;refine⟨by kernel_rfl,λh' I=>?_⟩;refine dM (v:=.ref f) (by kernel_rfl) (by kernel_rfl) ?_;exact hq _ _ _ I.stays ⟨f,_,_,rfl,I.at_ 4 f {cls:=.ref 417,dict:=some e,data:=.seq #[.float a t,.float b u] 0} rfl (by kernel_rfl),rfl,rfl⟩
end
theorem B9{a b:UInt64}(G:Gl w h)(hh:A.handled=none)(hd:A.depth<=400)(hu:A.units<=1000):
  Cl w A h (.ref 417) [] [(Str.ofString "slope",.float a t),(Str.ofString "intercept",.float b u)] (uM (.float a t) (.float b u)):=λs Q E hs hq=>by
 have KX:=(G.mono hs).K;rcases A with⟨ah,ad,af,ag,au⟩;dsimp only at hh hd hu;subst hh;exact d9 hd hu (El KX hq)
section
variable{l c:Expr}{x:Str}
theorem gL{ys:List Value}{ns:List Int}(g:Int->Int)(hi:IntsAre vs ns)(hp:Paired (λv y=>∃z t,y = .float z t/\Fl z (g (hU v))) vs ys):dD ys (ns.map g):=by
 induction hi generalizing ys with
 |nil=>cases hp;exact .nil
 |cons k t r ih=>
  cases hp with
  |cons h1 h2=>exact .cons h1 (ih h2)
theorem Ev.NU{cl:List (Str×Addr)}{ns:List Int}(g:Int->Int)(hit:Ev w A h env iter (LI ns))(hsz:ns.length<=sizeLine)(hh:A.handled=none)(dm:∀k∈ns,∀C t m h',h.StaysIn h'->h'.Ns C m->m x=some (.int k t)->Ev w A h' (compEnvC scope cl C env) elt (dB (g k)))(cP:closureFor scope env=pure cl)(aQ:∀y∈scope.names,y.2≠.cell)(bK:scope.kind = .function)(cV:∀y∈scope.names,y.2 = .local->scope.names.lookup y.1=some .local)(hx:scope.names.lookup x=some .local)(hs:∀x,foldedSetIterable iter env x=pure x:=by intro _;rfl):
  Ev w A h env (.ListComp elt [⟨.Name x px,iter,[],0⟩] scope pos) (LF (ns.map g)):=
 Ev.mono (Ev.comp (λvs=>IntsAre vs ns) (λ_=>true) (λv y=>∃z t,y = .float z t/\Fl z (g (hU v))) cP aQ bK cV hx hh (hit.mono λv h' _ bV=>by refine aG bV λl vs e a b=>⟨l,vs,e,a,b⟩) (λvs hi=>by rw[hi.length];exact hsz)
  (λvs hi v hv C m h' k hn hm=>.inl ⟨rfl,rfl⟩)
  (λvs hi v hv hp C m h' k hn hm=>by
   refine aN (dF hi hv) λi t j1 bX=>?_;subst j1;exact dm i bX C t m h' k hn hm) hs) (by
   rintro v h' _ ⟨D,ys,vs,rfl,hl,hi,hp⟩
   rw[List.filter_eq_self.mpr (by simp)] at hp;exact⟨D,ys,rfl,hl,gL g hi hp⟩)
def tA(w:World)(A:Around)(h:Heap)(env:Env)(e:Expr)(b:Bool):Prop:=
 ∀(s:Shared)(Q:Bool->Shared->Prop)(E:Value->Shared->Prop),h.StaysIn s.heap->(∀h' tk,s.heap.StaysIn h'->Q b (bp s h' tk))->wpAny (model pw w) A (PySem.isTrue e env (eval e env)) Q E s
theorem tA.of{b:Bool}(H:de w A h env e b):tA w A h env e b:=λs Q E hs hq=>H s _ Q E hs hq
theorem tA.val{b:Bool}(H:Ev w A h env e (iN b))(he:∀whole,PySem.isTrue e env whole=(do let v <-whole;standAt e.pos;holding [v] (truthy v)):=by intro _;rfl):tA w A h env e b:=λs Q E hs hq=>
 wpAny_isTrue_value (H s _ _ hs λv h₁ bg PO ba=>by subst ba;exact Oi (hq h₁ bg PO)) (he _)
theorem Ev.Cb{P:Value->Heap->Prop}{b:Bool}(Ht:tA w A h env c b)(Hb:b=true->Ev w A h env l P)(Ho:b=false->Ev w A h env r P):Ev w A h env (.IfExp c l r pos) P:=λs Q E hs hq=>
 PyProof.Rows.IfExp_ (Ht s _ _ hs λh₁ bg PO=>by
  cases b with
  |true=>exact Hb rfl _ _ _ (ai hs PO) λv h₂ bZ PQ p=>hq v h₂ bZ (ai PO PQ) p
  |false=>exact Ho rfl _ _ _ (ai hs PO) λv h₂ bZ PQ p=>hq v h₂ bZ (ai PO PQ) p)
end
section
variable{ex:List Addr}{R:Value->Heap->Prop}{P:Value->Heap->Prop}{y:Str}{h₀:ExceptHandler}{hs:List ExceptHandler}
theorem aP.jo(He:fU n w A ((env,m)::fo) (cs++cso) g env e P none)(hk:∀v g',g.StaysIn g'->P v g'->aP 1 w A env fo cs cso ex g' (upd m y v) (rest::bs) R x)(hl:env.kindOf y=some .local)(hp:autoParam ((env.scope.kind == .class||(env.scope.kind == .module&&env.locals !=env.globals))=false) cH)(kn:autoParam (swapsWith e (some (.Name y p)) pos.line env=pure false) cH):aP n w A env fo cs cso ex g m ((.Try [.Assign [.Name y p] e pos] (h₀::hs) [] [] pos'::rest)::bs) R x:=λs gb Q E W tz hs O hq he=>by
 refine Run.cons (wpAny_Try_except (OT (Ot (He s gb _ _ tz hs O (λv aB bJ PO aM PW ba=>?_) (λws a s' ex go X=>by cases ex)) kn)));refine OR hl (aM.frames _ (.head _)).2.2.2 (λh₂ cD aJ=>?_) hp;have cC:=aM.store W cD aJ;have PY:Go ex (aS fo) s (bp aB h₂ (aB.toks+1)):=(PW.body W.L).trans ⟨⟨λb o hb _ _ e=>aJ.extBut b o (λq=>hb (q▸W.L)) e,λb o hb _ _ e=>⟨o.slots,aJ.extBut b o (λq=>hb (q▸W.L)) e⟩,
  λb o ht e=>⟨o,aJ.extBut b o (λq=>aM.tabs.ns (aM.frames _ (.head _)).2.2.2 (q▸ht)) e⟩⟩,λh=>h,rfl,rfl⟩
 refine PD (PD ?_);refine hk v bJ (ai hs PO) ba _ bJ Q E W (Nat.le_add_left 1 _) (ak _) cC (λv s' g' k O' go r=>hq v s' g' (ai PO k) O' (PY.trans go) r) (λws a s' m' ex go n X=>he ws a s' m' ex (PY.trans go) n (X.back ?_));intro b o e;refine aR (PW.bP.cE b o e) λo' xC=>?_;by_cases q:b=env.locals
 ·refine aV cD λo' _ _ aW _=>?_;clear cD
  exact⟨o',q▸aW⟩
 ·exact⟨_,aJ.extBut b _ q xC⟩
theorem aP.wd(He:aF w A ((env,m)::fo) (cs++cso) g env e P none)(hk:∀v g',g.StaysIn g'->P v g'->aP 1 w A env fo cs cso ex g' (upd m y v) (rest::bs) R x)(hl:env.kindOf y=some .local)(hp:autoParam ((env.scope.kind == .class||(env.scope.kind == .module&&env.locals !=env.globals))=false) cH)(kn:autoParam (swapsWith e (some (.Name y p)) pos.line env=pure false) cH):aP n w A env fo cs cso ex g m ((.Try [.Assign [.Name y p] e pos] (h₀::hs) [] [] pos'::rest)::bs) R x:=aP.jo He.toT hk hl hp kn
theorem aP.uN(He:fU n w A ((env,m)::fo) (cs++cso) g env e P none)(hR:∀v h',g.StaysIn h'->P v h'->R v h'):aP n w A env fo cs cso ex g m ((.Try [.Return (some e) pos] (h₀::hs) orelse [] pos'::rest)::bs) R x:=λs gb Q E W tz hs O hq he=>
 Run.cons (wpAny_Try_except (OT (O3 (He s gb _ _ tz hs O (λv s' eJ k O' go p=>hq v s' eJ k O'.inner (go.body W.L) (hR v eJ (ai hs k) p)) (λws a s' ex go X=>by cases ex)))))
theorem aP.MA(He:aF w A ((env,m)::fo) (cs++cso) g env e P none)(hR:∀v h',g.StaysIn h'->P v h'->R v h'):aP n w A env fo cs cso ex g m ((.Try [.Return (some e) pos] (h₀::hs) orelse [] pos'::rest)::bs) R x:=aP.uN He.toT hR
end
section
variable{ex:List Addr}{R:Value->Heap->Prop}{x y:Str}{cl:List (Str×Addr)}
theorem aP.jq(Φ:List Value->Prop)(F:Value->Value->Prop)(kn:swapsWith (.ListComp elt [⟨.Name x px,iter,[],0⟩] scope pos) (some (.Name y py)) vH.line env=pure true)(hit:∀h',g.StaysIn h'->h'.Ns env.locals m->Ev w A h' env iter (λv h'=>∃ax items,v = .ref ax/\h'.IsList ax items.toArray/\Φ items))(hsz:∀items,Φ items->items.length<=sizeLine)(hh:A.handled=none)(dm:∀items,Φ items->∀v∈items,∀C PZ h',g.StaysIn h'->h'.Ns env.locals m->h'.Ns C PZ->PZ x=some v->Ev w A h' (compEnvC scope cl C env) elt (λy _=>F v y))(hk:∀D ys items g',g.StaysIn g'->g'.IsList D ys.toArray->Φ items->Paired F items ys->aP n w A env fo cs cso ex g' (upd m y (.ref D)) (rest::bs) R xo)(cP:closureFor scope env=pure cl)(aQ:∀y∈scope.names,y.2≠.cell)(bK:scope.kind = .function)(cV:∀y∈scope.names,y.2 = .local->scope.names.lookup y.1=some .local)(hx:scope.names.lookup x=some .local)(hy:env.kindOf y=some .local)(hp:autoParam ((env.scope.kind == .class||(env.scope.kind == .module&&env.locals !=env.globals))=false) cH)(hs:∀x,foldedSetIterable iter env x=pure x:=by intro _;rfl):
  aP n w A env fo cs cso ex g m ((.Assign [.Name y py] (.ListComp elt [⟨.Name x px,iter,[],0⟩] scope pos) vH::rest)::bs) R xo:=λs gb Q E W tz dI O hq he=>by
 have hn0:=(O.frames _ (.head _)).2.2.2;refine Run.cons (PJ tz (wpAny_Assign_ListComp_free (λ_=>true) F kn cP aQ bK cV hx hy hp (hit s.heap (ai dI O.stays) hn0 s _ _ (ak _) λv h₁ bg PO PV=>?_) hs));refine aG PV λax items j3 hl hΦ=>?_;clear PV;subst j3;refine O1 hl ?_;have cN:ax<h₁.objs.size:=by refine ar hl λ_ e _=>ON e
 have up:∀b o,h₁.get? b=some o->(h₁.push {cls:=.type "list_iterator",data:=.fields #[.ref ax,.int 0 0]}).get? b=some o:=λb o e=>K' _ e;have hn1:=(hn0.keeps PO).keeps up;have new:∀b o,h₁.get? b=some o->b∉[h₁.objs.size]:=λb o e=>by simp only[List.mem_singleton];exact OI (ON e)
 have IW:env.locals∉[h₁.objs.size]:=by refine aV hn0 λo _ _ ho _=>new _ _ (PO _ _ ho)
 refine⟨h₁.objs.size,[h₁.objs.size,ax],[h₁.objs.size],items.toArray.size,_,_,m,rfl,Walks.list hh h₁.objs.size ax (OI cN) items.toArray,by rw[List.size_toArray];exact hsz _ hΦ,⟨⟨_,OC _ rfl,rfl,rfl⟩,isList_stays up hl⟩,?_,IW,hn1,?_,?_⟩
 ·intro b hb
  show b<(h₁.push _).objs.size;rw[Heap.size_push];rcases OA hb with j2|hb<;>(first|(replace j2:=OK j2;subst j2)|skip)
  ·exact OY _
  ·rw[List.mem_singleton.mp hb];exact Ox cN
 ·have ext:∀g':Heap,(∀b o,b∉[h₁.objs.size]->(h₁.push {cls:=.type "list_iterator",data:=.fields #[.ref ax,.int 0 0]}).get? b=some o->g'.get? b=some o)->g.StaysIn g'/\g'.Ns env.locals m:=λg' k=>by
   refine⟨λb o e=>?_,?_⟩
   ·have bB:h₁.get? b=some o:=PO _ _ (O.stays _ _ (dI _ _ e))
    exact k b o (new b o bB) (up _ _ bB)
   ·refine aV hn0 λo es ep ho r=>?_;clear hn0
    exact⟨o,es,ep,k _ _ IW (up _ _ (PO _ _ ho)),r⟩
  refine⟨?_,?_⟩
  ·intro C i v cq pG E' _ hP hn hm hk _
   exact wpAny_tests_nil ⟨rfl,cq.heap,cq.toks,rfl,ak _⟩
  ·intro C i v cq pG E' _ hP hp' hn hm iX _
   have bX:v∈items:=List.mem_of_getElem? (by simpa using hP);exact dm items hΦ v bX C pG cq.heap (ext _ iX).1 (ext _ iX).2 hn hm cq _ _ (ak _) λy h' tk k hF=>⟨hF,h',tk,rfl,k⟩
 ·intro D h' tk ys vs hD nX zK hlen hP hF fe iX rE
  have e:vs=items:=by
   apply List.ext_getElem?;intro i;rw[List.size_toArray] at hlen;cases q:vs[i]? with
   |none=>rw[List.getElem?_eq_none_iff] at q;rw[List.getElem?_eq_none (by omega)]
   |some v=>have:=hP i v q;simpa using this.symm
  subst e;rw[List.filter_eq_self.mpr (by simp)] at hF;have kept:∀b o,b≠env.locals->s.heap.get? b=some o->h'.get? b=some o:=λb o hb e=>by have bB:h₁.get? b=some o:=PO _ _ e;exact iX b o hb (new b o bB) (up _ _ bB)
  have Lno:∀o vs,s.heap.get? env.locals=some o->o.data≠.fields vs:=λo vs e d=>by refine bf hn0 λo' es ep aW bL _=>?_;clear hn0;dsimp only at aW;rw[e] at aW;cases aW;rw[d] at bL;cases bL
  have O':On ((env,upd m y (.ref D))::fo) (cs++cso) gb h':=by
   refine⟨λb o e=>kept b o (λq=>?_) (O.stays b o e),λq hq=>?_,λc hc=>⟨(O.cells c hc).1,?_⟩,O.tabs.put (λb o n e=>kept b o n e) Lno,O.dT⟩
   ·rw[q,(O.frames _ (.head _)).2.2.1] at e;cases e
   ·rcases OA hq with j1|hq<;>(first|(replace j1:=OK j1;subst j1)|skip)
    ·refine eP (O.frames _ (.head _)) λa b c d=>?_
     exact⟨a,b,c,fe⟩
    ·refine eP (O.frames q (.tail _ hq)) λa b c d=>?_
     refine aV d λo es ep ho r=>?_;clear d;exact⟨a,b,c,o,es,ep,kept _ _ (λe=>W.Lf (e▸OE hq)) ho,r⟩
   ·refine ar ((O.cells c hc).2) λo ho hd=>?_
    refine⟨o,kept c o (λq=>?_) ho,hd⟩;refine bf hn0 λo' es ep aW bL _=>?_;clear hn0;dsimp only at aW;rw[<-q,ho] at aW;cases aW;rw[hd] at bL;cases bL
  have PY:Go ex (aS fo) s (bp s h' tk):=⟨⟨λb o hb _ _ e=>kept b o (λq=>hb (q▸W.L)) e,λb o hb _ _ e=>⟨o.slots,kept b o (λq=>hb (q▸W.L)) e⟩,
   λb o ht e=>⟨o,kept b o (λq=>O.tabs.ns hn0 (q▸ht)) e⟩⟩,λh=>h,rfl,rfl⟩
  refine hk D ys.toList vs _ (ai dI O'.wide) (by simpa using cK (λb hb=>O'.fv hb) nX) hΦ hF _ _ Q E W rE (ak _) O'.top (λv s' g' k HX go r=>hq v s' g' (ai O'.wide k) HX (PY.trans go) r) (λws a s' m' ex go n X=>he ws a s' m' ex (PY.trans go) n (X.back ?_));intro b o e;by_cases q:b=env.locals
  ·refine aV fe λo' _ _ aW _=>?_;clear fe
   exact⟨o',q▸aW⟩
  ·exact⟨o,kept b o q e⟩
end
theorem yg{p:Params}(X:(K p).In h):CodeHd h 425 423:=gm X rfl rfl
theorem tB:bootBuiltins (Str.ofString "ZeroDivisionError")=some (.type "ZeroDivisionError"):=by decide+kernel
def ec(S T my:Int):Value->Heap->Prop:=λv h=>∃b t c u,uM (.float b t) (.float c u) v h/\t≠0/\dt S T b/\Fl c (16*my)
noncomputable def fW:Str:=Str.ofString "x is constant"
theorem bQ(a:Int):0<=a*a:=by
 rcases Int.le_total 0 a with h|h
 ·exact Int.mul_nonneg h h
 ·exact Int.mul_nonneg_of_nonpos_of_nonpos h h
theorem dH(f:Nat->Int)(n:Nat)(h:∀i,i<n->0<=f i):0<=preSum f n:=by
 induction n with
 |zero=>exact Int.le_refl _
 |succ n ih=>
  have h1:=ih λi hi=>h i (by omega);have h2:=h n (by omega);show 0<=preSum f n+f n;omega
section
variable{a b:Addr}
theorem Em(G:Gl w h)(hA:A.frames=some (frs.map (·.1)))(lx:LI xs (.ref a) h)(ly:LI ys (.ref b) h)(hn:ys.length=xs.length)(h2:2<=xs.length)(h64:xs.length<=64)(hh:A.handled=none)(hd:A.depth+8<400)(hu:A.units+20<1000)(bx:∀k∈xs,k.natAbs<=2^40)(bY:∀k∈ys,k.natAbs<=2^40)(sx:xs.sum=0)(sy:ys.sum=my*xs.length)(bd:∀i,i<xs.length->(aO xs i*(aO ys i-my)).natAbs<=2^36)(bd2:∀i,i<xs.length->(aO xs i*aO xs i).natAbs<=2^36):
  df w A frs cs h (.ref 426) [.ref a,.ref b] [] (λv h=>bD xs xs 0 0≠0/\ec (bD xs ys 0 my) (bD xs xs 0 0) my v h) (if bD xs xs 0 0=0 then some fW else none):=by
 have bmy:my.natAbs<=2^40:=by have:=dK bY (by omega);rw[sy,Int.natAbs_mul] at this;have h3:((xs.length:Int)).natAbs=xs.length:=Int.natAbs_natCast _;rw[h3,Nat.mul_comm,hn] at this;exact Oz this (by omega)
 have uO:400<recursionLimit:=by decide
 generalize hx:(if bD xs xs 0 0=0 then some fW else none)=x;refine df.def (binds:=[(sn "x",.ref a),(sn "y",.ref b),(sn "proportional",.bool false)]) G hA (by k_is) rfl (by k_is) (by omega)
  (λs hs=>kp_binds (G.mono hs).K (λS=>by kernel_rfl)) rfl (by decide) (λL g hg aQ=>?_)
 clear aQ;show aP _ _ _ _ _ [L+2,L+1] _ [L,L+2,L+1] _ (upd (upd (upd (λ_=>none) (sn "x") (.ref a)) (sn "y") (.ref b)) (sn "proportional") (.bool false)) _ _ _;refine aP.oQ ?_;intro ee aa rr m;refine aP.doc ?_;have lK:=LI.av _ _ _ hg lx;have l0:=LI.av _ _ _ hg ly;have Gg:=G.mono hg;clear lx ly G;refine aP.assign (P:=iO xs.length) (aF.of (λh' k N=>Ev.bz (Ev.aE (Gg.mono k) (by k_is) cR) Kp.builtin
  (Ev.mono (Ev.ao (v:=.ref a) (N _ (.head _))) (λv h1 k1 e=>e▸LI.av _ _ _ (ai k k1) lK)) LI.av (λv h1 k1 q=>dC q (by omega))) aj) (λv g1 k1 hv=>?_) (by rfl)
 refine aR hv λt F8=>?_;clear hv;subst F8;refine aP.hold ?_;intro m;refine aP.skip (TG.of (λh' k N=>de.cast (de.ne (Ev.bz (Ev.aE (Gg.mono (ai k1 k)) (by k_is) cR) Kp.builtin
  (Ev.mono (Ev.ao (v:=.ref b) (N _ (.head _))) (λv h1 k2 e=>e▸LI.av _ _ _ (ai (ai k1 k) k2) l0)) LI.av (λv h1 k1 q=>dC q (by omega)))
  (Ev.cS (Ev.ao (N _ (.head _))))) (by rw[hn];simp))) (λg2 k2=>?_)
 refine aP.skip (TG.of (λh' k N=>de.cast (de.lt (Ev.cS (Ev.ao (N _ (.head _)))) Ev.int) (by simp;omega))) (λg3 k3=>?_);refine aP.enter (TG.not (b:=false) (TG.val (aF.of (λh' k N=>Ev.ao (v:=.bool false) (N _ (.head _))) aj))) (λg3' IX=>?_);have k03:=ai k1 (ai k2 (ai k3 IX));have G3:=Gg.mono k03;have v9:=LI.av _ _ _ k03 lK;have zQ:=LI.av _ _ _ k03 l0;clear lK l0 Gg k1 k2 k3 IX k03 hg g1 g2 g3;refine aP.dU (c:=L+1) (cs':=[L+2]) (P:=dB 0) (aF.of (λh' k N=>Ev.lq (a:=16*xs.sum) (n:=xs.length)
  (Ev.bz (Ev.aD (v:=lr) (G3.mono k) (by k_is)) Kp.builtin
   (Ev.mono (Ev.ao (v:=.ref a) (N _ (.head _))) (λv h1 k2 e=>e▸LI.av _ _ _ (ai k k2) v9)) LI.av (λv h1 k1 q=>fE hh q bx h64))
  (Ev.cS (Ev.ao (N _ (.head _)))) (by omega) (by omega) (by rw[sx,Int.zero_mul];rfl) (by omega)) aj) aA (λv g4 k4 hv B5=>?_) (by rfl) (by rfl) (by rfl) (by simp) (by simp)
 refine aN hv λvx tx zP fx=>?_;clear hv;subst zP;refine aP.dU (c:=L+2) (cs':=[]) (P:=dB (16*my)) (aF.of (λh' k N=>Ev.lq (a:=16*ys.sum) (n:=xs.length)
  (Ev.bz (Ev.aD (v:=lr) ((G3.mono k4).mono k) (by k_is)) Kp.builtin
   (Ev.mono (Ev.ao (v:=.ref b) (N _ (.head _))) (λv h1 k2 e=>e▸LI.av _ _ _ (ai (ai k4 k) k2) zQ)) LI.av (λv h1 k1 q=>fE hh q bY (by omega)))
  (Ev.cS (Ev.ao (N _ (.head _)))) (by omega) (by omega) (by rw[sy,Int.mul_assoc]) (by omega)) aj) aA (λv g5 k5 hv Eh=>?_) (by rfl) (by rfl) (by rfl) (by simp) (by simp)
 refine aN hv λvy ty Ef fy=>?_;clear hv;subst Ef;have wa:=aq k5 B5;have G5:=G3.mono (ai k4 k5);have wb:=LI.av _ _ _ (ai k4 k5) v9;have w2:=LI.av _ _ _ (ai k4 k5) zQ;clear B5 G3 v9 zQ k4 k5 g3' g4;refine aP.jq (x:=sn "xi") (cl:=[(sn "xbar",L+1)]) (λvs=>IntsAre vs xs) (λv y=>∃z t,y = .float z t/\Fl z (16*hU v-0)) (by rfl)
  (λh' k N=>Ev.mono (Ev.ao (v:=.ref a) N) (λv h1 k1 e=>e▸fD (LI.av _ _ _ (ai k k1) wb))) (λvs hi=>by rw[hi.length,sizeLine_eq];omega) hh
  (λvs hi v hv C PZ h1 k1 hn0 hn hm=>by refine aN (dF hi hv) λu tu j24 hu=>?_;subst j24;have bu:=bx u hu;exact Ev.oR (n:=u) (a:=0) (Ev.cS (Ev.ao hn hm)) (Ev.mono (Ev.bj (c:=L+1) (aq k1 wa)) (λv h' _ e=>⟨vx,tx,e,fx⟩)) (by omega) (by omega))
  (λl IY vs g6 k6 il hi hp=>?_) (by rfl) (by decide) (by rfl) (by decide) (by rfl) (by rfl)
 have IZ:LF (xs.map λk=>16*k-0) (.ref l) g6:=⟨l,IY,rfl,il,gL (λk=>16*k-0) hi hp⟩;have jS:(xs.map λk=>16*k-0).length=xs.length:=List.length_map _;have atf:∀i,i<xs.length->aO (xs.map λk=>16*k-0) i=16*aO xs i:=λi hi=>by have e:xs[i]?=some xs[i]:=O6 hi;simp[aO,e]
 refine ar (LI.ref w2) λIH iys B6=>?_;have Ei:=B6.length;have G6:=G5.mono k6;have Ay:=aq k6 Eh;have I1:=aq k6 wa;refine aP.D9 (P:=423) (ks:=xs.map λk=>16*k-0) (l:=l) (F:=λi y=>∃v,IH[i]?=some v/\∃z t,y = .float z t/\Fl z (16*(hU v-my))) (λi=>16*(aO ys i-my)) (λi=>16*(aO xs i*(aO ys i-my))) hh (by decide)
  (λhb k=>?_) IZ (λh' k=>Ev.aD (G6.mono k) (by k_is)) (by rfl) (by rfl) (by rfl) (by rfl) (by rfl) (by decide)
  (λi v hF=>?_) (λi hi=>?_) (by rw[jS];omega) (by rw[jS];omega) (λga v g7 k7 hv=>?_) (by rfl) (by rfl) (by rfl) (by decide) (by decide)
 ·rw[jS,<-hn,<-Ei]
  refine aF.gen (cl:=[(sn "ybar",L+2)]) (kl:=[L+2]) (c:=425) (l:=b) (vs:=IH) (λv y=>∃z t,y = .float z t/\Fl z (16*(hU v-my))) hh (G6.mono k) (by rfl) (yg (G6.mono k).K) (by show (423,sn "linear_regression.<locals>.<genexpr>")∈TT;decide) (by show A.depth+1<_;omega)
   (λh' k N=>Ev.ao (N _ (.head _))) (isList_stays (ai k6 k) iys) (λd hd=>by rw[List.mem_singleton.mp hd];refine ar (aq k Ay) λo ho _=>⟨o,ho⟩) (λv hv A' C code h' m uB hk hn hm=>?_)
   (by rfl) (by rfl) (by decide) (by rfl) (by rfl) (by rfl) (by rfl) (by intro _;rfl)
  refine aN (dF B6 hv) λu tu sF hu=>?_;subst sF;have bu:=bY u hu;have aQ:h'.IsCell (L+2) (some (.float vy ty)):=by refine ar (aq k Ay) λo ho r=>⟨o,hk _ (.head _) _ ho,r⟩
  refine Ev.mono (Ev.oR (n:=u) (a:=16*my) (Ev.cS (Ev.ao hn hm)) (Ev.mono (Ev.d7 (c:=L+2) aQ) (λv h' _ e=>⟨vy,ty,e,fy⟩)) (by omega) (by omega)) (λv h' _ hv=>?_);refine aN hv λz t e fz=>?_;clear hv;exact⟨z,t,e,by show Fl z (16*(u-my));rw[Int.mul_sub];exact fz⟩
 ·refine ar hF λv' e Az=>aN Az λz t w0 fz=>?_;clear hF Az;subst w0
  refine aR (jM B6 e) λtt sY=>?_;subst sY;exact⟨z,t,rfl,fz⟩
 ·rw[jS] at hi
  have:=bd i hi;rw[atf i hi];refine⟨?_,by omega⟩;rw[Int.mul_assoc,Int.mul_left_comm (aO xs i) 16,Int.mul_comm _ 16]
 rw[jS,cO] at hv;have hS:preSum (λi=>aO xs i*(aO ys i-my)) xs.length=bD xs ys 0 my:=by unfold bD;congr 1;funext i;rw[Int.sub_zero]
 rw[hS] at hv;refine aN hv λvs ts Aq fs=>?_;clear hv;subst Aq;refine aP.hold ?_;intro m;have G7:=G6.mono k7;have Eo:=LF.av _ _ _ k7 IZ;have yh:=aq k7 I1;have I2:=aq k7 Ay;refine aP.assign (P:=dB (16*bD xs xs 0 0)) (aF.of (λh' k N=>Ev.mono (Ev.call2 (Ev.aD (v:=.builtin "math.sumprod") (G7.mono k) (by k_is)) Kp.builtin
  (Ev.mono (Ev.ao (v:=.ref l) (N _ (.head _))) (λv h1 k1 e=>e▸LF.av _ _ _ (ai k k1) Eo)) LF.av
  (Ev.mono (Ev.ao (v:=.ref l) (N _ (.head _))) (λv h1 k1 e=>e▸LF.av _ _ _ (ai k k1) Eo)) LF.av
  (λv u h1 k1 q q'=>gI (λi=>16*(aO xs i*aO xs i)) hh q q' rfl (by rw[jS];omega) (by rw[jS];omega) (λi hi=>?_))) (λv h1 _ q=>?_)) aj) (λv g8 k8 hv=>?_) (by rfl)
 ·rw[jS] at hi
  have:=bd2 i hi;rw[atf i hi];refine⟨?_,by omega⟩;rw[Int.mul_assoc,Int.mul_left_comm (aO xs i) 16,Int.mul_comm _ 16]
 ·refine aN q λz t e fz=>?_;clear q
  rw[jS,cO] at fz;have hT:preSum (λi=>aO xs i*aO xs i) xs.length=bD xs xs 0 0:=by unfold bD;congr 1;funext i;rw[Int.sub_zero]
  rw[hT] at fz;exact⟨z,t,e,fz⟩
 refine aN hv λvt tt pX ft=>?_;clear hv;subst pX;have G8:=G7.mono k8;have MB:=aq k8 yh;have Ep:=aq k8 I2;have hT0:0<=bD xs xs 0 0:=dH _ _ λi hi=>by rw[Int.sub_zero];exact bQ _
 have hSb:(bD xs ys 0 my).natAbs<=64*2^36:=OB (bO _ _ _ λi hi=>by rw[Int.sub_zero];exact bd i hi) (OU _ h64);have fx':=fx;have fy':=fy;clear fx fy wb iys B6 IZ Eo G5 G6 G7 bx bY wa Eh I1 Ay yh I2;by_cases hT:bD xs xs 0 0=0
 ·rw[if_pos hT] at hx
  subst hx;rw[hT] at ft;refine aP.pS (by show A.frames.map _=_;rw[hA];rfl) hh G8 (λs hb Q E hs O hE=>?_) (λA' h' k=>Ev.aE (G8.mono k) (by k_is) tB) (λA' h' k=>Ev.aD (G8.mono k) (by k_is));have hn:=(O.frames _ (.head _)).2.2.2;refine OT (Ot (wpAny_BinOp (Ev.ao (v:=.float vs ts) hn (by rfl) (by rfl) (by rfl) (by decide) _ _ _ (ak _) λv h1 zN k1 e1=>?_)) (by rfl));subst e1;refine Ev.ao (v:=.float vt tt) (hn.keeps k1) (by rfl) (by rfl) (by rfl) (by decide) _ _ _ (ak _) λv h2 DT k2 e2=>?_;subst e2;refine AutoFloatOps.truediv_0 (by rw[ft.isZero];rfl) ⟨hh,λh' tk e N=>?_⟩;have kk:=ai k1 k2;exact hE (bp s h2 DT) h' tk e (Go.of kk) (O.keep kk) N
 ·rw[if_neg hT] at hx
  subst hx;refine aP.jo (P:=λv _=>∃b t,v = .float b t/\t≠0/\dt (bD xs ys 0 my) (bD xs xs 0 0) b) (fU.bin (P₁:=ff (.float vs ts)) (P₂:=ff (.float vt tt)) (aF.of (λh' k N=>Ev.ao (v:=.float vs ts) (N _ (.head _))) aj) aA (aF.of (λh' k N=>Ev.ao (v:=.float vt tt) (N _ (.head _))) aj)
   (λa b h1 k1 ha hb=>xB.of (λh' k N s Q E tz hs hq=>by subst ha;subst hb;exact AutoFloatOps.truediv_1 (by rw[ft.isZero];simp;omega) (hq _ s.heap _ (ak _) ⟨_,_,rfl,Oy tz,ko fs ft (by omega) (by omega)⟩)) aj)) (λv g9 k9 hv=>?_) (by rfl)
  refine aG hv λvb tb ro I3 rb=>?_;clear hv;subst ro;refine aP.hold ?_;intro m;have G9:=G8.mono k9;have MC:=aq k9 MB;have MD:=aq k9 Ep;refine aP.assign (P:=dB (16*my)) (aF.of (λh' k N=>Ev.Cb (b:=false) (tA.val (Ev.ao (v:=.bool false) (N _ (.head _)))) (λe=>by cases e) (λ_=>
   Ev.bin (P₁:=λv=>∃z t,v = .float z t/\Fl z (16*my)) (P₂:=λv=>∃z t,v = .float z t/\Fl z 0) (Ev.mono (Ev.bj (c:=L+2) (aq k MD)) (λv h' _ e=>⟨vy,ty,e,fy'⟩))
    (Ev.bin (P₁:=λv=>v = .float vb tb) (P₂:=λv=>v = .float vx tx) (Ev.ao (v:=.float vb tb) (N _ (.head _))) (Ev.bj (v:=.float vx tx) (c:=L+1) (aq k MC))
     (λa b s Q E ha hb hs hq=>by subst ha;subst hb;exact PyProof.Rows.mul_float (hq _ s.heap _ (ak _) ⟨_,_,rfl,pK rb.1 fx'⟩)))
    (λa b s Q E ha hb hs hq=>by refine aN ha λz t pY fz=>?_;clear ha;subst pY;refine aN hb λy u uH fy2=>?_;clear hb;subst uH;have:=fz.sub fy2 (by omega);rw[Int.sub_zero] at this;exact PyProof.Rows.sub_float (hq _ s.heap _ (ak _) ⟨_,_,rfl,this⟩)))) aj) (λv g10 k10 hv=>?_) (by rfl)
  refine aN hv λvi ti jc fi=>?_;clear hv;subst jc;refine aP.hold ?_;intro m;have zR:=G9.mono k10;refine aP.ret (P:=ec (bD xs ys 0 my) (bD xs xs 0 0) my) (aF.xG (f:=.ref 417) (nms:=[sn "slope",sn "intercept"]) (aF.of (λh' k N=>Ev.aD (zR.mono k) (by k_is)) aj) (Kp.K zR (by k_is))
   (λh₁ k=>di.cons (aF.of (λh' k' N=>Ev.ao (v:=.float vb tb) (N _ (.head _))) aj) aA (di.cons (aF.of (λh' k' N=>Ev.ao (v:=.float vi ti) (N _ (.head _))) aj) aA di.nil))
   (λks h₁ k Ak=>?_)) (λv h' _ p=>⟨hT,p⟩)
  refine aG Ak λv1 r1 j8 j9 eS=>aG eS λv2 r2 ib eR iY=>?_;clear Ak eS;subst ib;subst eR;subst iY;subst j8;subst j9;refine df.of (λh' k'=>Cl.mono (B9 ((zR.mono k).mono k') hh (by show A.depth+1<=400;omega) (by show A.units+3<=1000;omega)) (λv f5 _ q=>⟨vb,tb,vi,ti,q,I3,rb,fi⟩)) (λv h l hl q=>?_);refine gQ q ?_;clear q;intro b' t' c' u' j6 q;refine dj j6 λr o n j7 ho hc hd=>?_;clear j6;subst j7;refine⟨b',t',c',u',⟨r,o,n,rfl,OO _ ho λhm=>?_,hc,hd⟩,q⟩;rcases hl r hm with j2|j3|j4<;>(first|(refine nU j2 λm o' es ep j5=>du j5 λaW bL _=>?_;clear j2 j5)| (refine ar j3 λo' aW bL=>?_;clear j3)| (refine aR j4 λps aW=>?_;clear j4))
  ·rw[ho] at aW;cases aW;rw[hd] at bL;cases bL
  ·rw[ho] at aW;cases aW;rw[hd] at bL;cases bL
  ·rw[ho] at aW;cases aW;cases hd
end
theorem I4:Fl 0 0:=by
 have h:=Fl.ofInt (n:=0) (by decide);have e:Float64.ofInt 0=0:=by decide+kernel
 rw[e] at h;exact h
theorem mS:cT (ec S T my):=λv h l hl q=>by
 refine gQ q ?_;clear q;intro b' t' c' u' j6 q;refine dj j6 λr o n j7 ho hc hd=>?_;clear j6;subst j7;refine⟨b',t',c',u',⟨r,o,n,rfl,OO _ ho λhm=>?_,hc,hd⟩,q⟩;rcases hl r hm with j2|j3|j4<;>(first|(refine nU j2 λm o' es ep j5=>du j5 λaW bL _=>?_;clear j2 j5)| (refine ar j3 λo' aW bL=>?_;clear j3)| (refine aR j4 λps aW=>?_;clear j4))
 ·rw[ho] at aW;cases aW;rw[hd] at bL;cases bL
 ·rw[ho] at aW;cases aW;rw[hd] at bL;cases bL
 ·rw[ho] at aW;cases aW;cases hd
section
variable{a b:Addr}
theorem AB(G:Gl w h)(hA:A.frames=some (frs.map (·.1)))(lx:LI xs (.ref a) h)(ly:LI ys (.ref b) h)(hn:ys.length=xs.length)(h2:2<=xs.length)(h64:xs.length<=64)(hh:A.handled=none)(hd:A.depth+8<400)(hu:A.units+20<1000)(bx:∀i,i<xs.length->(aO xs i).natAbs<=2^50)(bY:∀i,i<xs.length->(aO ys i).natAbs<=2^50)(bd:∀i,i<xs.length->(aO xs i*aO ys i).natAbs<=2^40)(bd2:∀i,i<xs.length->(aO xs i*aO xs i).natAbs<=2^40):
  df w A frs cs h (.ref 426) [.ref a,.ref b] [(sn "proportional",.bool true)] (λv h=>bD xs xs 0 0≠0/\ec (bD xs ys 0 0) (bD xs xs 0 0) 0 v h) (if bD xs xs 0 0=0 then some fW else none):=by
 have uO:400<recursionLimit:=by decide
 have hSe:preSum (λi=>aO xs i*aO ys i) xs.length=bD xs ys 0 0:=by unfold bD;congr 1;funext i;rw[Int.sub_zero,Int.sub_zero]
 have hTe:preSum (λi=>aO xs i*aO xs i) xs.length=bD xs xs 0 0:=by unfold bD;congr 1;funext i;rw[Int.sub_zero]
 have hT0:0<=bD xs xs 0 0:=dH _ _ λi hi=>by rw[Int.sub_zero];exact bQ _
 have hSb:(bD xs ys 0 0).natAbs<=64*2^40:=OB (bO _ _ _ λi hi=>by rw[Int.sub_zero,Int.sub_zero];exact bd i hi) (OU _ h64);have hTb:(bD xs xs 0 0).natAbs<=64*2^40:=OB (bO _ _ _ λi hi=>by rw[Int.sub_zero];exact bd2 i hi) (OU _ h64);generalize hx:(if bD xs xs 0 0=0 then some fW else none)=x;refine df.def (binds:=[(sn "x",.ref a),(sn "y",.ref b),(sn "proportional",.bool true)]) G hA (by k_is) rfl (by k_is) (by omega)
  (λs hs=>kp_binds (G.mono hs).K (λS=>by kernel_rfl)) rfl (by decide) (λL g hg aQ=>?_)
 clear aQ;show aP _ _ _ _ _ [L+2,L+1] _ [L,L+2,L+1] _ (upd (upd (upd (λ_=>none) (sn "x") (.ref a)) (sn "y") (.ref b)) (sn "proportional") (.bool true)) _ _ _;refine aP.oQ ?_;intro ee aa rr m;refine aP.doc ?_;have lK:=LI.av _ _ _ hg lx;have l0:=LI.av _ _ _ hg ly;have Gg:=G.mono hg;clear lx ly G;refine aP.assign (P:=iO xs.length) (aF.of (λh' k N=>Ev.bz (Ev.aE (Gg.mono k) (by k_is) cR) Kp.builtin
  (Ev.mono (Ev.ao (v:=.ref a) (N _ (.head _))) (λv h1 k1 e=>e▸LI.av _ _ _ (ai k k1) lK)) LI.av (λv h1 k1 q=>dC q (by omega))) aj) (λv g1 k1 hv=>?_) (by rfl)
 refine aR hv λt iY=>?_;clear hv;subst iY;refine aP.hold ?_;intro m;refine aP.skip (TG.of (λh' k N=>de.cast (de.ne (Ev.bz (Ev.aE (Gg.mono (ai k1 k)) (by k_is) cR) Kp.builtin
  (Ev.mono (Ev.ao (v:=.ref b) (N _ (.head _))) (λv h1 k2 e=>e▸LI.av _ _ _ (ai (ai k1 k) k2) l0)) LI.av (λv h1 k1 q=>dC q (by omega)))
  (Ev.cS (Ev.ao (N _ (.head _))))) (by rw[hn];simp))) (λg2 k2=>?_)
 refine aP.skip (TG.of (λh' k N=>de.cast (de.lt (Ev.cS (Ev.ao (N _ (.head _)))) Ev.int) (by simp;omega))) (λg3 k3=>?_);refine aP.skip (TG.not (b:=true) (TG.val (aF.of (λh' k N=>Ev.ao (v:=.bool true) (N _ (.head _))) aj))) (λg3' IX=>?_);have k03:=ai k1 (ai k2 (ai k3 IX));have G3:=Gg.mono k03;have v9:=LI.av _ _ _ k03 lK;have zQ:=LI.av _ _ _ k03 l0;clear lK l0 Gg k1 k2 k3 IX k03 hg g1 g2 g3;refine aP.assign (P:=dB (16*bD xs ys 0 0)) (aF.of (λh' k N=>Ev.bin (P₁:=λv=>∃t,v = .int (bD xs ys 0 0) t) (P₂:=λv=>∃z t,v = .float z t/\Fl z 0) (Ev.mono (Ev.call2 (Ev.aD (v:=.builtin "math.sumprod") (G3.mono k) (by k_is)) Kp.builtin
  (Ev.mono (Ev.ao (v:=.ref a) (N _ (.head _))) (λv h1 k1 e=>e▸LI.av _ _ _ (ai k k1) v9)) LI.av
  (Ev.mono (Ev.ao (v:=.ref b) (N _ (.head _))) (λv h1 k1 e=>e▸LI.av _ _ _ (ai k k1) zQ)) LI.av
  (λv u h1 k1 q q'=>jk hh q q' hn h64 (λi hi=>⟨bx i hi,bY i hi,by have:=bd i hi;omega⟩))) (λv h1 _ q=>by refine aR q λt e=>?_;clear q;rw[hSe] at e;exact⟨t,e⟩)) (Ev.w1 I4)
  (λu v s Q E hu hv hs hq=>by refine aR hu λt eR=>?_;clear hu;subst eR;refine aN hv λz t' ib fz=>?_;clear hv;subst ib;have f:=(Fl.ofInt (n:=bD xs ys 0 0) (by omega)).add fz (by omega);rw[Int.add_zero] at f;exact PyProof.Rows.add_if_fits (mI (by omega)) (hq _ s.heap _ (ak _) ⟨_,_,rfl,f⟩))) aj) (λv g7 k7 hv=>?_) (by rfl)
 refine aN hv λvs ts eS fs=>?_;clear hv;subst eS;refine aP.hold ?_;intro m;have G7:=G3.mono k7;have Er:=LI.av _ _ _ k7 v9;refine aP.assign (P:=iO (bD xs xs 0 0)) (aF.of (λh' k N=>Ev.mono (Ev.call2 (Ev.aD (v:=.builtin "math.sumprod") (G7.mono k) (by k_is)) Kp.builtin
  (Ev.mono (Ev.ao (v:=.ref a) (N _ (.head _))) (λv h1 k1 e=>e▸LI.av _ _ _ (ai k k1) Er)) LI.av
  (Ev.mono (Ev.ao (v:=.ref a) (N _ (.head _))) (λv h1 k1 e=>e▸LI.av _ _ _ (ai k k1) Er)) LI.av
  (λv u h1 k1 q q'=>jk hh q q' rfl h64 (λi hi=>⟨bx i hi,bx i hi,by have:=bd2 i hi;omega⟩))) (λv h1 _ q=>by refine aR q λt e=>?_;clear q;rw[hTe] at e;exact⟨t,e⟩)) aj) (λv g8 k8 hv=>?_) (by rfl)
 refine aR hv λtt j9=>?_;clear hv;subst j9;have G8:=G7.mono k8;clear v9 zQ Er;have fT:=Fl.ofInt (n:=bD xs xs 0 0) (by omega);by_cases hT:bD xs xs 0 0=0
 ·rw[if_pos hT] at hx
  subst hx;refine aP.pS (by show A.frames.map _=_;rw[hA];rfl) hh G8 (λs hb Q E hs O hE=>?_) (λA' h' k=>Ev.aE (G8.mono k) (by k_is) tB) (λA' h' k=>Ev.aD (G8.mono k) (by k_is));have hn:=(O.frames _ (.head _)).2.2.2;refine OT (Ot (wpAny_BinOp (Ev.ao (v:=.float vs ts) hn (by rfl) (by rfl) (by rfl) (by decide) _ _ _ (ak _) λv h1 zN k1 e1=>?_)) (by rfl));subst e1;refine Ev.ao (v:=.int (bD xs xs 0 0) tt) (hn.keeps k1) (by rfl) (by rfl) (by rfl) (by decide) _ _ _ (ak _) λv h2 DT k2 e2=>?_;subst e2;refine AutoFloatOps.truediv_fi_1 (dW (by omega)) (by rw[fT.isZero,hT];rfl) ⟨hh,λh' tk e N=>?_⟩;have kk:=ai k1 k2;exact hE (bp s h2 DT) h' tk e (Go.of kk) (O.keep kk) N
 ·rw[if_neg hT] at hx
  subst hx;refine aP.jo (P:=λv _=>∃b t,v = .float b t/\t≠0/\dt (bD xs ys 0 0) (bD xs xs 0 0) b) (fU.bin (P₁:=ff (.float vs ts)) (P₂:=ff (.int (bD xs xs 0 0) tt)) (aF.of (λh' k N=>Ev.ao (v:=.float vs ts) (N _ (.head _))) aj) aA (aF.of (λh' k N=>Ev.ao (v:=.int (bD xs xs 0 0) tt) (N _ (.head _))) aj)
   (λa b h1 k1 ha hb=>xB.of (λh' k N s Q E tz hs hq=>by subst ha;subst hb;exact AutoFloatOps.truediv_fi_2 (dW (by omega)) (by rw[fT.isZero];simp;omega) (hq _ s.heap _ (ak _) ⟨_,_,rfl,Oy tz,ko fs fT (by omega) (by omega)⟩)) aj)) (λv g9 k9 hv=>?_) (by rfl)
  refine aG hv λvb tb j8 I3 rb=>?_;clear hv;subst j8;refine aP.hold ?_;intro m;have G9:=G8.mono k9;refine aP.assign (P:=dB (16*0)) (aF.of (λh' k N=>Ev.Cb (b:=true) (tA.val (Ev.ao (v:=.bool true) (N _ (.head _)))) (λ_=>Ev.w1 (by rw[Int.mul_zero];exact I4)) (λe=>by cases e)) aj) (λv g10 k10 hv=>?_) (by rfl);refine aN hv λvi ti j7 fi=>?_;clear hv;subst j7;refine aP.hold ?_;intro m;have zR:=G9.mono k10;refine aP.ret (P:=ec (bD xs ys 0 0) (bD xs xs 0 0) 0) (aF.xG (f:=.ref 417) (nms:=[sn "slope",sn "intercept"]) (aF.of (λh' k N=>Ev.aD (zR.mono k) (by k_is)) aj) (Kp.K zR (by k_is))
   (λh₁ k=>di.cons (aF.of (λh' k' N=>Ev.ao (v:=.float vb tb) (N _ (.head _))) aj) aA (di.cons (aF.of (λh' k' N=>Ev.ao (v:=.float vi ti) (N _ (.head _))) aj) aA di.nil))
   (λks h₁ k Ak=>?_)) (λv h' _ p=>⟨hT,p⟩)
  refine aG Ak λv1 r1 j1 j2 j3=>aG j3 λv2 r2 j4 j5 j6=>?_;clear Ak j3;subst j4;subst j5;subst j6;subst j1;subst j2;exact df.of (λh' k'=>Cl.mono (B9 ((zR.mono k).mono k') hh (by show A.depth+1<=400;omega) (by show A.units+3<=1000;omega)) (λv f5 _ q=>⟨vb,tb,vi,ti,q,I3,rb,fi⟩)) mS
end
theorem tC{d:Option Addr}(KX:(K w.params).In s.heap)(h1:s.heap.get? l=some ⟨.type "list",d,.seq its n,sl⟩)(h2:s.heap.get? tp=some ⟨.type "tuple",none,.seq #[.type "list",.type "tuple"] 0,#[]⟩)(hq:∀v h' tk,s.heap.StaysIn h'->iN true v h'->Q v (bp s h' tk)):
  wpAny (model pw w) (A0 fr gd) (call (.builtin "isinstance") [.ref l,.ref tp] []) Q E s:=by
 refine aR (qG w) λz hz=>?_;refine bH [⟨.type "list",d,.seq its n,sl⟩,⟨.type "tuple",none,.seq #[.type "list",.type "tuple"] 0,#[]⟩] 1107828865 ?_;refine aX hz 12 0 (ir KX [l,tp] _ ⟨h1,h2,trivial⟩) rfl rfl (b0 ?_);intro Z;refine⟨by kernel_rfl,λh' I=>?_⟩;refine dM (v:=.bool true) (by kernel_rfl) (by kernel_rfl) ?_;exact hq _ _ _ I.stays rfl
theorem we(G:Gl w h)(hh:A.handled=none)(hd:A.depth<=400)(hu:A.units<=1000)(hl:h.IsList l its)(ht:h.get? tp=some ⟨.type "tuple",none,.seq #[.type "list",.type "tuple"] 0,#[]⟩):
  Cl w A h (.builtin "isinstance") [.ref l,.ref tp] [] (iN true):=λs Q E hs hq=>by
 have KX:=(G.mono hs).K;refine ez (isList_open (isList_stays hs hl)) λd n sl e=>?_;rcases A with⟨ah,ad,af,ag,au⟩;dsimp only at hh hd hu;subst hh;exact d9 hd hu (tC KX e (hs _ _ ht) hq)
section
variable{ex:List Addr}{k:Nat}{R:Value->Heap->Prop}{P:Value->Heap->Prop}{y se:Str}{h₀:ExceptHandler}{hs:List ExceptHandler}
theorem tD{a:Addr}(T:cJ h)(k:h.StaysIn h')(ha:h.get? a=none):ia h' a:=λq hq ps e pos cv f z=>by refine bl (T q hq) λxm e' _ b=>?_;rw[k _ _ e'] at e;cases e;refine nU (b pos cv f) λc o vs t j1=>du j1 λr1 r2 _=>?_;clear j1;rw[z] at r1;cases r1;rw[ha] at r2;cases r2
theorem aP.raise(hh:A.handled=none)(G:Gl w g)(Hs:∀h',g.StaysIn h'->om w A h' env (.Name se p2) (.ref 102)):
  aP n w A env fo cs cso ex g m ((.Raise (some (.Call (.Name se p2) [.Constant (.str ws) k p3] [] p4)) none p5::rest)::bs) R (some ws):=λs gb Q E W tz dI O hq he=>by
 refine Run.cons (mK (G.mono (ai dI O.stays)) (Hs _ (ai dI O.stays)) λh' tk a tp t kx na ha ntp F7=>wpAny_raiseNew_none hh ?_);exact he ws a _ m rfl (Go.body (m:=m) W.L (Go.of kx)) ((O.frames _ (.head _)).2.2.2.keeps kx) ⟨na,O.tabs.keeps kx,tD O.tabs kx na,_,_,tp,t,_,ha,rfl,rfl,rfl,F7,rfl,rfl,.inl rfl⟩
theorem aP.tE{c:Addr}(He:aF w A ((env,m)::fo) (cs++cso) g env e P none)(fm:cU P)(hk:∀v g',g.StaysIn g'->P v g'->g'.IsCell c (some v)->aP n w A env fo cs' cso ex g' m (rest::bs) R x)(bK:env.scope.kind = .function)(hl:env.kindOf y=some .cell)(hc:env.cells.lookup y=some c)(hm:c∈cs)(gJ:∀b∈cs',b∈cs/\b≠c)(kn:autoParam (swapsWith e (some (.Name y p)) pos.line env=pure false) cH):aP n w A env fo cs cso ex g m ((.Try [.Assign [.Name y p] e pos] (h₀::hs) [] [] pos'::rest)::bs) R x:=λs gb Q E W tz dI O hq he=>by
 refine Run.cons (PJ tz (wpAny_Try_except (OT (Ot (He s gb _ _ dI O (λv aB bJ PO aM PW ba=>?_) (λws a s' ex go X=>by cases ex)) kn))));refine wpAny_storeName_cell bK hl hc (aM.cells c (OJ _ hm)).2 (λh₂ fF aJ=>?_);have ne:∀{L:Addr}{n:Str->Option Value},aB.heap.Ns L n->L≠c:=λhn q=>by refine ar ((aM.cells c (OJ _ hm)).2) λo ho hd=>?_;refine bf hn λo' es ep aW bL _=>?_;clear hn;rw[q,ho] at aW;cases aW;rw[hd] at bL;cases bL
 have kc:bJ.StaysIn h₂:=λb o e=>aJ.extBut b o (λq=>by rw[q,(aM.cells c (List.mem_append_left _ hm)).1] at e;cases e) (aM.stays b o e);have cC:On ((env,m)::fo) (cs'++cso) bJ h₂:=by
  refine⟨kc,λq hq=>?_,λd hd=>?_,aM.tabs.put (λb o n e=>aJ.extBut b o n e) (λo vs e d=>?_),aM.dT⟩
  ·refine eP (aM.frames q hq) λa b d n=>?_
   have:=ne n;refine aV n λo es ep ho r=>?_;clear n;exact⟨a,b,d,o,es,ep,aJ.extBut _ _ this ho,r⟩
  ·have:d∈cs++cso/\d≠c:=by
    rcases OG hd with hd|hd
    ·exact⟨OJ _ (gJ d hd).1,(gJ d hd).2⟩
    ·exact⟨OP _ hd,λq=>(W.c c hm).2 (q▸hd)⟩
   refine cA (aM.cells d this.1) λn j2=>ar j2 λo ho bL=>?_;clear j2;exact⟨n,o,aJ.extBut _ _ this.2 ho,bL⟩
  ·refine ar ((aM.cells c (OJ _ hm)).2) λo' aW bL=>?_
   rw[e] at aW;cases aW;rw[d] at bL;cases bL
 have W':Own env fo cs' cso ex:=⟨W.L,W.Lf,λb hb=>W.c b (gJ b hb).1⟩;have aQ:(hideAll h₂ (fv ((env,m)::fo) (cs'++cso))).IsCell c (some v):=by
  refine ar fF λo ho hd=>?_;clear fF;refine⟨o,OO _ ho λbX=>?_,hd⟩;rcases OG bX with bX|bX
  ·rcases OG bX with bX|bX
   ·refine ar (OF bX) λq hq j1=>?_;subst j1
    exact ne (aM.frames q hq).2.2.2 rfl
   ·rcases OG bX with bX|bX
    ·exact (gJ c bX).2 rfl
    ·exact (W.c c hm).2 bX
  ·exact aM.tabs.cell (aM.cells c (OJ _ hm)).2 bX
 have PY:Go ex (aS fo) s (bp aB h₂ aB.toks):=(PW.body W.L).trans ⟨⟨λb o hb _ _ e=>aJ.extBut b o (λq=>hb (q▸(W.c c hm).1)) e,λb o hb _ _ e=>⟨o.slots,aJ.extBut b o (λq=>hb (q▸(W.c c hm).1)) e⟩,
  λb o ht e=>⟨o,aJ.extBut b o (λq=>aM.tabs.cell (aM.cells c (OJ _ hm)).2 (q▸ht)) e⟩⟩,λh=>h,rfl,rfl⟩
 refine PD (PD λjO=>?_);refine hk v _ (ai dI (ai PO cC.wide)) (fm _ _ _ cC.wide ba) aQ _ _ Q E W' jO (ak _) cC.top (λv s' g' k O' go r=>hq v s' g' (ai PO (ai cC.wide k)) O' (PY.trans go) r) (λws a s' m' ex go n X=>he ws a s' m' ex (PY.trans go) n (X.back ?_));intro b o e;refine aR (PW.bP.cE b o e) λo' xC=>?_;by_cases q:b=c
 ·refine ar fF λo' aW _=>?_;clear fF
  exact⟨o',q▸aW⟩
 ·exact⟨_,aJ.extBut b _ q xC⟩
end
section
variable{l:Expr}{k:Nat}
theorem de.isNone(H:om w A h env l v)(hb:autoParam (behindInMarks .Is (.Constant .none k p)=false) cH):de w A h env (.Compare l [.Is] [.Constant .none k p] pos) (v == .none):=λs wh Q E hs hq=>
 O7 (H s _ _ hs λu h₁ bg PO ba=>PyProof.Rows.Constant_none (by subst ba;exact is_none (Oi (hq h₁ bg PO)))) hb
theorem Ev.I5{a b:Value}(Hl:om w A h env l a)(Hr:om w A h env r b)(bE:autoParam (starEach [l,r] env=(false,eval l env)::starEach [r] env) cH)(cQ:autoParam (starEach [r] env=(false,eval r env)::starEach [] env) cH):
  Ev w A h env (.Tuple [l,r] k pos) (λv h'=>∃tp,v = .ref tp/\h'.get? tp=some ⟨.type "tuple",none,.seq #[a,b] 0,#[]⟩):=λs Q E hs hq=>by
 refine wpAny_Tuple ?_;rw[bE];show wpAny _ _ (spliced ((false,eval l env)::backTo pos (starEach [r] env))) _ _ _;refine PC (Hl s _ _ hs λv h₁ bg PO ba=>?_);rw[cQ];show wpAny _ _ (spliced ((false,eval r env)::backTo pos (starEach [] env))) _ _ _;refine PC (Hr _ _ _ (ai hs PO) λu h₂ bZ PQ cF=>spliced_nil ⟨by rw[sizeLine_eq];simp,?_⟩);subst ba;subst cF;exact hq _ (h₂.push _) bZ (ai PO (ai PQ λb o e=>K' _ e)) ⟨h₂.objs.size,rfl,OC _ rfl⟩
end
theorem oD:bootBuiltins (Str.ofString "isinstance")=some (.builtin "isinstance"):=by decide+kernel
theorem uP:bootBuiltins (Str.ofString "list")=some (.type "list"):=by decide+kernel
theorem yi:bootBuiltins (Str.ofString "tuple")=some (.type "tuple"):=by decide+kernel
noncomputable def iR:Str:=Str.ofString "sum of weights must be non-zero"
section
variable{a b:Addr}
theorem yj(G:Gl w h)(hA:A.frames=some (frs.map (·.1)))(ly:LI ys (.ref b) h)(h2:1<=ys.length)(h64:ys.length<=64)(hh:A.handled=none)(hd:A.depth+8<400)(bY:∀k∈ys,k.natAbs<=2^40)(sy:ys.sum=my*ys.length):df w A frs cs h (.ref 329) [.ref b] [] (dB (16*my)) x:=by
 have bmy:my.natAbs<=2^40:=by have:=dK bY (by omega);rw[sy,Int.natAbs_mul] at this;have h3:((ys.length:Int)).natAbs=ys.length:=Int.natAbs_natCast _;rw[h3,Nat.mul_comm] at this;exact Oz this (by omega)
 have uO:400<recursionLimit:=by decide
 refine df.def (binds:=[(sn "data",.ref b),(sn "weights",.none)]) G hA (by k_is) rfl (by k_is) (by omega) (λs hs=>kp_binds (G.mono hs).K (λS=>by kernel_rfl)) rfl (by decide) (λL g hg aQ=>?_);clear aQ;show aP _ _ _ _ _ [L+1] _ [L,L+1] _ _ _ _ _;refine aP.oQ ?_;intro ee aa rr m;refine aP.doc ?_;have l0:=LI.av _ _ _ hg ly;have Gg:=G.mono hg;clear ly G;refine aP.enter (TG.of (λh' k N=>de.isNone (v:=.none) (Ev.ao (N _ (.head _))))) (λg1 k1=>?_);have G1:=Gg.mono k1;have ly1:=LI.av _ _ _ k1 l0;refine aP.tE (c:=L+1) (cs':=[]) (P:=iO ys.length) (aF.of (λh' k N=>Ev.bz (Ev.aE (G1.mono k) (by k_is) cR) Kp.builtin
  (Ev.mono (Ev.ao (v:=.ref b) (N _ (.head _))) (λv h1 k1 e=>e▸LI.av _ _ _ (ai k k1) ly1)) LI.av (λv h1 k1 q=>dC q (by omega))) aj) aA (λv g2 k2 hv rF=>?_) (by rfl) (by rfl) (by rfl) (by simp) (by simp)
 refine aR hv λt j2=>?_;clear hv;subst j2;have G2:=G1.mono k2;have ly2:=LI.av _ _ _ k2 ly1;refine aP.assign (P:=dB (16*ys.sum)) (aF.of (λh' k N=>Ev.bz (Ev.aD (v:=lr) (G2.mono k) (by k_is)) Kp.builtin
   (Ev.mono (Ev.ao (v:=.ref b) (N _ (.head _))) (λv h1 k2 e=>e▸LI.av _ _ _ (ai k k2) ly2)) LI.av (λv h1 k1 q=>fE hh q bY h64)) aj) (λv g3 k3 hv=>?_) (by rfl)
 refine aN hv λvt tt j1 ft=>?_;clear hv;subst j1;refine aP.hold ?_;intro m;have I6:=aq k3 rF;refine aP.skip (TG.not (b:=true) (Gm.of (λh' k N s Q E hs hq=>wpAny_isTrue_value (Ev.bj (v:=.int ys.length t) (c:=L+1) (aq k I6) (by rfl) (by rfl) (by rfl) (by decide) _ _ _ hs λv h1 zN k1 e1=>by
   subst e1;refine truthy_int ?_;have e:((ys.length:Int) !=0)=true:=by rw[bne_iff_ne];omega
   rw[e];exact hq true h1 zN k1 rfl) (by rfl)) aj)) (λg4 k4=>?_)
 have ME:=aq k4 I6;exact aP.ret (P:=dB (16*my)) (aF.of (λh' k N=>Ev.lq (a:=16*ys.sum) (n:=ys.length) (Ev.mono (Ev.ao (v:=.float vt tt) (N _ (.head _))) (λv _ _ e=>⟨vt,tt,e,ft⟩))
  (Ev.cS (Ev.bj (v:=.int ys.length t) (c:=L+1) (aq k ME))) (by omega) (by omega) (by rw[sy,Int.mul_assoc]) (by omega)) aj) (λv h' _ p=>p)
theorem oZ(G:Gl w h)(hA:A.frames=some (frs.map (·.1)))(ly:LI ys (.ref b) h)(lx:LI xs (.ref a) h)(hn:xs.length=ys.length)(h64:ys.length<=64)(hh:A.handled=none)(hd:A.depth+8<400)(hu:A.units+20<1000)(bx:∀k∈xs,k.natAbs<=2^40)(bxi:∀i,i<ys.length->(aO ys i).natAbs<=2^50)(byi:∀i,i<ys.length->(aO xs i).natAbs<=2^50)(bd:∀i,i<ys.length->(aO ys i*aO xs i).natAbs<=2^40)(hw:0<=xs.sum):
  df w A frs cs h (.ref 329) [.ref b] [(sn "weights",.ref a)] (λv _=>xs.sum≠0/\∃z t,v = .float z t/\t≠0/\dt (preSum (λi=>aO ys i*aO xs i) ys.length) xs.sum z) (if xs.sum=0 then some iR else none):=by
 have uO:400<recursionLimit:=by decide
 have bW:xs.sum.natAbs<=64*2^40:=by have:=dK bx (by omega);have h5:xs.length*2^40<=64*2^40:=OU _ (by omega);exact OB this h5
 have hNb:(preSum (λi=>aO ys i*aO xs i) ys.length).natAbs<=64*2^40:=OB (bO _ _ _ λi hi=>bd i hi) (OU _ h64);generalize hNN:preSum (λi=>aO ys i*aO xs i) ys.length=NN at *;generalize hx:(if xs.sum=0 then some iR else none)=x;refine df.def (binds:=[(sn "data",.ref b),(sn "weights",.ref a)]) G hA (by k_is) rfl (by k_is) (by omega) (λs hs=>kp_binds (G.mono hs).K (λS=>by kernel_rfl)) rfl (by decide) (λL g hg aQ=>?_);clear aQ;show aP _ _ _ _ _ [L+1] _ [L,L+1] _ _ _ _ _;refine aP.oQ ?_;intro ee aa rr m;refine aP.doc ?_;have l0:=LI.av _ _ _ hg ly;have lK:=LI.av _ _ _ hg lx;have Gg:=G.mono hg;clear ly lx G;refine aP.skip (TG.of (λh' k N=>de.isNone (v:=.ref a) (Ev.ao (N _ (.head _))))) (λg1 k1=>?_);have G1:=Gg.mono k1;have ly1:=LI.av _ _ _ k1 l0;have lx1:=LI.av _ _ _ k1 lK;refine aP.skip (TG.not (b:=true) (TG.val (aF.of (λh' k N=>Ev.call2 (P₁:=ff (.ref a)) (Ev.aE (G1.mono k) (by k_is) oD) Kp.builtin
  (Ev.ao (v:=.ref a) (N _ (.head _))) aA
  (Ev.I5 (Ev.aE (G1.mono k) (by k_is) uP) (Ev.aE (G1.mono k) (by k_is) yi))
  (λv h1 h2 k12 q=>by refine ar q λtp e ht=>⟨tp,e,k12 _ _ ht⟩)
  (λv u h1 k1 q q'=>by subst q;refine ar q' λtp j3 ht=>?_;clear q';subst j3;refine aG (LI.av _ _ _ (ai k k1) lx1) λl vs e hl hi=>?_;cases e;exact we ((G1.mono k).mono k1) hh (by show A.depth+1<=400;omega) (by show A.units+3<=1000;omega) hl ht)) aj))) (λg2 k2=>?_)
 have G2:=G1.mono k2;have ly2:=LI.av _ _ _ k2 ly1;have lx2:=LI.av _ _ _ k2 lx1;refine aP.wd (P:=iO NN) (aF.of (λh' k N=>Ev.mono (Ev.call2 (Ev.aD (v:=.builtin "math.sumprod") (G2.mono k) (by k_is)) Kp.builtin
  (Ev.mono (Ev.ao (v:=.ref b) (N _ (.head _))) (λv h1 k1 e=>e▸LI.av _ _ _ (ai k k1) ly2)) LI.av
  (Ev.mono (Ev.ao (v:=.ref a) (N _ (.head _))) (λv h1 k1 e=>e▸LI.av _ _ _ (ai k k1) lx2)) LI.av
  (λv u h1 k1 q q'=>jk hh q q' hn h64 (λi hi=>⟨bxi i hi,byi i hi,by have:=bd i hi;omega⟩))) (λv h1 _ q=>by refine aR q λt e=>?_;clear q;rw[hNN] at e;exact⟨t,e⟩)) aj) (λv g3 k3 hv=>?_) (by rfl)
 refine aR hv λt j2=>?_;clear hv;subst j2;refine aP.hold ?_;intro m;have G3:=G2.mono k3;have v9:=LI.av _ _ _ k3 lx2;refine aP.assign (P:=dB (16*xs.sum)) (aF.of (λh' k N=>Ev.bz (Ev.aD (v:=lr) (G3.mono k) (by k_is)) Kp.builtin
   (Ev.mono (Ev.ao (v:=.ref a) (N _ (.head _))) (λv h1 k2 e=>e▸LI.av _ _ _ (ai k k2) v9)) LI.av (λv h1 k1 q=>fE hh q bx (by omega))) aj) (λv g4 k4 hv=>?_) (by rfl)
 refine aN hv λvd td j1 fd=>?_;clear hv;subst j1;have G4:=G3.mono k4;by_cases hW:xs.sum=0
 ·rw[if_pos hW] at hx
  subst hx;refine aP.enter (TG.cast (TG.not (b:=false) (TG.w1 (a:=16*xs.sum) (λh' k N=>Ev.mono (Ev.ao (v:=.float vd td) (N _ (.head _))) (λv _ _ e=>⟨vd,td,e,fd⟩)) (by rw[hW];rfl))) rfl) (λg5 k5=>?_);exact aP.raise hh (G4.mono k5) (λh' k=>Ev.aD ((G4.mono k5).mono k) (by k_is))
 ·rw[if_neg hW] at hx
  subst hx;refine aP.skip (TG.cast (TG.not (b:=true) (TG.w1 (a:=16*xs.sum) (λh' k N=>Ev.mono (Ev.ao (v:=.float vd td) (N _ (.head _))) (λv _ _ e=>⟨vd,td,e,fd⟩)) (by simp;omega))) rfl) (λg5 k5=>?_);have fN:=Fl.ofInt (n:=NN) (by omega);exact aP.H6 (P:=λv _=>∃z t,v = .float z t/\t≠0/\dt NN xs.sum z) (fU.bin (P₁:=ff (.int NN t)) (P₂:=ff (.float vd td)) (aF.of (λh' k N=>Ev.ao (v:=.int NN t) (N _ (.head _))) aj) aA (aF.of (λh' k N=>Ev.ao (v:=.float vd td) (N _ (.head _))) aj)
   (λa b h1 k1 ha hb=>xB.of (λh' k N s Q E tz hs hq=>by subst ha;subst hb;exact AutoFloatOps.truediv_if_2 (dW (by omega)) (by rw[fd.isZero];simp;omega) (hq _ s.heap _ (ak _) ⟨_,_,rfl,Oy tz,ko fN fd (by omega) (by omega)⟩)) aj)) (λv h' _ p=>⟨hW,p⟩)
end
section
variable{d:Addr}{S:Str->Bool}{k:Str}
theorem mU{Q:Bool->Shared->Prop}(hd:h0.get? d=none)(hk:h0.StaysIn s.heap)(hS:s.heap.SetOf (PySem.strKind pw w) d S n)(hr:n+1<scanBound)(h:∀h',h0.StaysIn h'->h'.SetOf (PySem.strKind pw w) d (λk'=>S k'||decide (k'=k)) (if S k then n else n+1)->Q (!S k) (bp s h' (s.toks+1))):
  wpAny (model pw w) A (setAdd d (.str k t)) Q E s:=by
 unfold setAdd;refine Ol (J' ((PySem.strKind pw w).pyHash (k:=k) (strKind_is _ _ _ _) ?_));exact wpAny_setAddHashed_of (s:=(bp s s.heap (s.toks+1))) (strKind_is _ _ _ _) rfl hS hr λh' wY sG=>h h' (λb o e=>wY.extBut b o (λq=>by rw[q,hd] at e;cases e) (hk b o e)) sG
theorem qb{Q:Unit->Shared->Prop}(hd:h0.get? d=none)(hk:h0.StaysIn s.heap)(hS:s.heap.SetOf (PySem.strKind pw w) d S n)(h:∀h',h0.StaysIn h'->h'.SetOf (PySem.strKind pw w) d S n->Q () (bp s h' s.toks)):wpAny (model pw w) A (setUnled d) Q E s:=by
 refine nU hS λo es ep t j1=>qL j1 λho hex AD hel bX hb hf hn=>?_;clear hS j1;have HJ:({t with led:=false}:SetTable).fits es.size=true:=by cases t;exact hf
 unfold setUnled;refine J' (wpAny_setState_of ho AD hf ?_);dsimp only;refine wpAny_storeSet_of ho AD ?_ (fits_of_scanBound hb);refine cA (SetOf_store (knd:=PySem.strKind pw w) ho hex AD hel bX hb HJ) λ_ hS=>?_;rw[hn] at hS;have wY:=Heap.SameBut.update s.heap d (Obj.putSet es {t with led:=false});exact h _ (λb o e=>wY.extBut b o (λq=>by rw[q,hd] at e;cases e) (hk b o e)) hS
end
section
variable{l:Expr}{a b c:Str}
theorem de.rG(G:Gl w h)(hc:kdsCode (K w.params) env.code=true)(Hl:Ev w A h env l λv _=>∃t,v = .str a t):
  de w A h env (.Compare l [.NotIn] [.Set [.Constant (.str b) k1 p1,.Constant (.str c) k2 p2] 0 p] pos) (!(decide (a=b)||decide (a=c))):=λs wh Q E hs hq=>by
 refine kdi_test (by rfl) (Hl s _ _ hs λv h1 zN s1 e=>?_);refine aR e λt j1=>?_;clear e;subst j1;rw[arm_eval_Set];refine J' (wpAny_standAt ?_);refine J' (kds_main (G.mono (ai hs s1)).K hc λbb=>?_);rw[kds_star _ (by rfl),List.map_map];refine kds_core (ts:=(evalEach [.Constant (.str b) k1 p1,.Constant (.str c) k2 p2] env).map λt=>do let v <-t;standAt p;pure v) (by rfl) ?_ ?_ ?_ λled=>?_
 ·rfl
 ·rw[List.length_map,kds_len];exact OH rfl
 ·rw[List.map_map];rfl
 refine kds_all p _ _ _ ?_;show wpAny _ _ (eval (.Constant (.str b) k1 p1) env) _ _ _;refine wpAny_Constant_str ?_;show wpAny _ _ (eval (.Constant (.str c) k2 p2) env) _ _ _;refine wpAny_Constant_str ?_;have hd:h1.get? h1.objs.size=none:=OL (OM _);have hk0:h1.StaysIn (h1.push {cls:=.type "set",dict:=none,data:=.set #[] 0 (.fresh 0 0 led)}):=λb o e=>K' _ e;have hS0:(h1.push {cls:=.type "set",dict:=none,data:=.set #[] 0 (.fresh 0 0 led)}).SetOf (PySem.strKind pw w) h1.objs.size (λ_=>false) 0:=
  (setObjOf_fresh led).setOf (OC _ rfl) (by decide)
 refine kds_fill_cons (mU (h0:=h1) (S:=λ_=>false) (n:=0) hd hk0 hS0 (by decide) λh2 s2 hS2=>?_);refine kds_fill_cons (mU (h0:=h1) hd s2 hS2 (by simp;decide) λh3 s3 hS3=>?_);refine kds_fill_nil (by rfl) (kdi_mark (qb (h0:=h1) hd s3 hS3 λh4 s4 hS4=>?_));refine wpAny_notInSet_of (knd:=PySem.strKind pw w) (strKind_is _ _ _ _) rfl hS4 (Oi ?_);simp only[Bool.false_or];exact hq h4 _ (ai s1 s4)
end
theorem tF{x:UInt64}(hx:Fl x S)(hy:Fl y T)(hT:0<T)(hS:S.natAbs<2^53):dt S T (Float64.div x y):=by
 refine⟨?_,λp q hq h hp=>qR hx hy hT hq h hp⟩;by_cases h0:S=0
 ·subst h0
  exact (Fl.gG hx hy (by omega)).1
 ·rw[hx.lZ hy (by omega) h0]
  exact lW (by omega) hS
noncomputable def bG:Str:=Str.ofString "at least one of the inputs is constant"
noncomputable abbrev kD(L:Addr):Env:=envOfC (sn "correlation") Hx L 349 (.ref 348)
noncomputable abbrev I7:List Stmt:=xa.drop 6
section
variable{ex:List Addr}{lx ly:Addr}{kx ky:List Int}{c:Nat}
theorem o6(G:Gl w g)(hA:A.frames=some (kD L::frs.map (·.1)))(hh:A.handled=none)(hd:A.depth+8<recursionLimit)(vR:m (sn "x")=some (.ref lx))(ey':m (sn "y")=some (.ref ly))(hx:LF kx (.ref lx) g)(hy:LF ky (.ref ly) g)(hn:ky.length=kx.length)(h0:0<kx.length)(h64:kx.length<=64)(BU:∀i,i<kx.length->aO kx i*aO ky i=cxy i*16/\(cxy i).natAbs<=2^40)(wg:∀i,i<kx.length->aO kx i*aO kx i=cxx i*16/\(cxx i).natAbs<=2^40)(DK:∀i,i<kx.length->aO ky i*aO ky i=cyy i*16/\(cyy i).natAbs<=2^40)(hk:preSum cxx kx.length*preSum cyy kx.length=k*16)(hc:(c:Int)*c=16*k)(Ek:k.natAbs<2^49)(kq:c<2^48):
  aP 1 w A (kD L) frs cs cso ex g m [I7] (λv _=>c≠0/\∃z t,v = .float z t/\t≠0/\dt (preSum cxy kx.length) c z) (if c=0 then some bG else none):=by
 have bS:(preSum cxy kx.length).natAbs<2^53:=by have h1:=bO cxy kx.length (2^40) λi hi=>(BU i hi).2;have h2:kx.length*2^40<=64*2^40:=OU _ h64;omega
 generalize Ge:(if c=0 then some bG else none)=x;refine aP.assign (P:=dB (preSum cxy kx.length)) (aF.of (λh' k N=>Ev.call2 (Ev.aD (v:=.builtin "math.sumprod") (G.mono k) (by k_is)) Kp.builtin
  (Ev.mono (Ev.ao (v:=.ref lx) (N _ (.head _)) vR) (λv h1 k1 e=>e▸LF.av _ _ _ (ai k k1) hx)) LF.av
  (Ev.mono (Ev.ao (v:=.ref ly) (N _ (.head _)) ey') (λv h1 k1 e=>e▸LF.av _ _ _ (ai k k1) hy)) LF.av
  (λv u h1 k1 q q'=>gI cxy hh q q' hn h0 h64 BU)) aj) (λv g1 k1 hv=>?_) (by rfl)
 refine aN hv λb1 t1 j5 f1=>?_;clear hv;subst j5;have hx1:=LF.av _ _ _ k1 hx;have hy1:=LF.av _ _ _ k1 hy;have G1:=G.mono k1;refine aP.assign (P:=dB (preSum cxx kx.length)) (aF.of (λh' k N=>Ev.call2 (Ev.aD (v:=.builtin "math.sumprod") (G1.mono k) (by k_is)) Kp.builtin
  (Ev.mono (Ev.ao (v:=.ref lx) (N _ (.head _)) vR) (λv h1 k1 e=>e▸LF.av _ _ _ (ai k k1) hx1)) LF.av
  (Ev.mono (Ev.ao (v:=.ref lx) (N _ (.head _)) vR) (λv h1 k1 e=>e▸LF.av _ _ _ (ai k k1) hx1)) LF.av
  (λv u h1 k1 q q'=>gI cxx hh q q' rfl h0 h64 wg)) aj) (λv g2 k2 hv=>?_) (by rfl)
 refine aN hv λb2 t2 j4 f2=>?_;clear hv;subst j4;have hy2:=LF.av _ _ _ k2 hy1;have G2:=G1.mono k2;refine aP.assign (P:=dB (preSum cyy kx.length)) (aF.of (λh' k N=>Ev.call2 (Ev.aD (v:=.builtin "math.sumprod") (G2.mono k) (by k_is)) Kp.builtin
  (Ev.mono (Ev.ao (v:=.ref ly) (N _ (.head _)) ey') (λv h1 k1 e=>e▸LF.av _ _ _ (ai k k1) hy2)) LF.av
  (Ev.mono (Ev.ao (v:=.ref ly) (N _ (.head _)) ey') (λv h1 k1 e=>e▸LF.av _ _ _ (ai k k1) hy2)) LF.av
  (λv u h1 k1 q q'=>Cl.mono (gI cyy hh q q' rfl (by omega) (by omega) (by rw[hn];exact DK)) (λv h' _ q=>by rw[hn] at q;exact q))) aj) (λv g3 k3 hv=>?_) (by rfl)
 refine aN hv λb3 t3 j3 f3=>?_;clear hv;subst j3;have G3:=G2.mono k3;have He:∀{m':Str->Option Value}{x:Option Str}{p1 p2 p3 p4:Pos},m' (sn "sxx")=some (.float b2 t2)->m' (sn "syy")=some (.float b3 t3)->
   aF w A ((kD L,m')::frs) (cs++cso) g3 (kD L) (.Call (.Name (sn "_sqrtprod") p1) [.Name (sn "sxx") p2,.Name (sn "syy") p3] [] p4) (dB c) x:=λe2 e3=>
  aF.call2 (f:=.ref 336) (aF.of (λh' k N=>Ev.aD (G3.mono k) (by k_is)) aj) (Kp.K G3 (by k_is))
   (aF.of (λh' k N=>Ev.mono (Ev.ao (N _ (.head _)) e2) (λv h _ e=>⟨b2,t2,e,f2⟩)) aj) aA
   (aF.of (λh' k N=>Ev.mono (Ev.ao (N _ (.head _)) e3) (λv h _ e=>⟨b3,t3,e,f3⟩)) aj) aA
   (λv u h1 k1 q q'=>ru (G3.mono k1) (by rw[hA];rfl) hh hd q q' hk hc Ek kq)
 by_cases hc0:c=0
 ·rw[if_pos hc0] at Ge
  subst Ge;refine aP.pS hA hh G3 (λs hb Q E hs O hE=>?_) (λA' h' k=>Ev.aE (G3.mono k) (by k_is) tB) (λA' h' k=>Ev.aD (G3.mono k) (by k_is));have hnm:=(O.frames _ (.head _)).2.2.2;refine OT (O3 (wpAny_BinOp (Ev.ao (v:=.float b1 t1) hnm (by rfl) (by rfl) (by rfl) (by decide) _ _ _ (ak _) λv h1 zN k1 e1=>?_)));subst e1;refine He (x:=none) (by rfl) (by rfl) (bp s h1 zN) hb _ _ hs (O.keep k1) (λv s2 h2 k2 O2 go2 p2=>?_) (λws a s' e=>by cases e);refine aN p2 λz t j2 fz=>?_;clear p2;subst j2;refine AutoFloatOps.truediv_0 (by rw[fz.isZero];simp[hc0]) ⟨hh,λh' tk e N=>?_⟩;exact hE s2 h' tk e ((Go.of k1).trans go2) ((O.keep k1).jb go2.bP O2.tabs) N
 ·rw[if_neg hc0] at Ge
  subst Ge;exact aP.uN (P:=λv _=>∃z t,v = .float z t/\t≠0/\dt (preSum cxy kx.length) c z) (fU.bin (P₁:=ff (.float b1 t1)) (P₂:=dB c) (aF.of (λh' k N=>Ev.ao (N _ (.head _))) aj) aA (He (by rfl) (by rfl))
   (λu v h1 k1 q q'=>xB.of (λh' k N s Q E tz hs hq=>by subst q;refine aN q' λz t j1 fz=>?_;clear q';subst j1;exact AutoFloatOps.truediv_1 (by rw[fz.isZero];simp;omega) (hq _ s.heap _ (ak _) ⟨_,_,rfl,Oy tz,tF f1 fz (by omega) bS⟩)) aj)) (λv h' _ p=>⟨hc0,p⟩)
end
theorem aP.I8{ex:List Addr}{R:Value->Heap->Prop}(H:let r:=R;let m':=m;aP n w A env fo cs cso ex g m' bs r x):aP n w A env fo cs cso ex g m bs R x:=H
section
variable{l:Expr}{a b:Str}{k:Nat}
theorem de.eqStr(Hl:Ev w A h env l λv _=>∃t,v = .str a t)(hb:autoParam (behindInMarks .Eq (.Constant (.str b) k p)=false) cH):de w A h env (.Compare l [.Eq] [.Constant (.str b) k p] pos) (a==b):=λs wh Q E hs hq=>
 O7 (Hl s _ _ hs λu h₁ bg PO ba=>wpAny_Constant_str (by refine aR ba λt j1=>?_;clear ba;subst j1;exact PyProof.Rows.eq_str (Oi (hq h₁ _ PO)))) hb
end
theorem kd348(p:Params):kdsCode (K p) (.ref 348)=true:=by kernel_rfl
section
variable{a b:Addr}{mx:Int}{c:Nat}
noncomputable abbrev jr(a b:Addr)(me:Str)(t:Tok):List (Str×Value):=[(sn "x",.ref a),(sn "y",.ref b),(sn "method",.str me t)]
theorem lB(G:Gl w g)(hA:A.frames=some (kD L::frs.map (·.1)))(lx:LI xs (.ref a) g)(ly:LI ys (.ref b) g)(hn:ys.length=xs.length)(h2:2<=xs.length)(h64:xs.length<=64)(hh:A.handled=none)(hd:A.depth+8<recursionLimit)(bx:∀k∈xs,k.natAbs<=2^40)(bY:∀k∈ys,k.natAbs<=2^40)(sx:xs.sum=mx*xs.length)(sy:ys.sum=my*xs.length)(w3:∀i,i<xs.length->((aO xs i-mx)*(aO ys i-my)).natAbs<=2^36)(yk:∀i,i<xs.length->((aO xs i-mx)*(aO xs i-mx)).natAbs<=2^36)(I9:∀i,i<xs.length->((aO ys i-my)*(aO ys i-my)).natAbs<=2^36)(hk:bD xs xs mx mx*bD ys ys my my=c*c)(kq:c<5900000):
  aP 0 w A (kD L) frs [L+2,L+1] cso [L,L+2,L+1] g (bindL (kD L).kindOf (jr a b (Str.ofString "linear") t) λ_=>none) [xa] (λv _=>c≠0/\∃z t,v = .float z t/\t≠0/\dt (bD xs ys mx my) c z) (if c=0 then some bG else none):=by
 have bmx:mx.natAbs<=2^40:=by have:=dK bx h64;rw[sx,Int.natAbs_mul] at this;have h3:((xs.length:Int)).natAbs=xs.length:=Int.natAbs_natCast _;rw[h3,Nat.mul_comm] at this;exact Oz this (by omega)
 have bmy:my.natAbs<=2^40:=by have:=dK bY (by omega);rw[sy,Int.natAbs_mul] at this;have h3:((xs.length:Int)).natAbs=xs.length:=Int.natAbs_natCast _;rw[h3,Nat.mul_comm,hn] at this;exact Oz this (by omega)
 refine aP.I8 ?_;intro rr m;refine aP.doc ?_;refine aP.assign (P:=iO xs.length) (aF.of (λh' k N=>Ev.bz (Ev.aE (G.mono k) (by k_is) cR) Kp.builtin
  (Ev.mono (Ev.ao (v:=.ref a) (N _ (.head _))) (λv h1 k1 e=>e▸LI.av _ _ _ (ai k k1) lx)) LI.av (λv h1 k1 q=>dC q (by omega))) aj) (λv g1 k1 hv=>?_) (by rfl)
 refine aR hv λtn j7=>?_;clear hv;subst j7;refine aP.hold ?_;intro m;refine aP.skip (TG.of (λh' k N=>de.cast (de.ne (Ev.bz (Ev.aE (G.mono (ai k1 k)) (by k_is) cR) Kp.builtin
  (Ev.mono (Ev.ao (v:=.ref b) (N _ (.head _))) (λv h1 k2 e=>e▸LI.av _ _ _ (ai (ai k1 k) k2) ly)) LI.av (λv h1 k1 q=>dC q (by omega)))
  (Ev.cS (Ev.ao (N _ (.head _))))) (by rw[hn];simp))) (λg2 k2=>?_)
 refine aP.skip (TG.of (λh' k N=>de.cast (de.lt (Ev.cS (Ev.ao (N _ (.head _)))) Ev.int) (by simp;omega))) (λg3 k3=>?_);have k03:=ai k1 (ai k2 k3);have G3:=G.mono k03;refine aP.skip (TG.of (λh' k N=>de.cast (de.rG (a:=Str.ofString "linear") (G3.mono k) (kd348 _) (Ev.mono (Ev.ao (v:=.str (Str.ofString "linear") t) (N _ (.head _))) λv h _ e=>⟨t,e⟩)) (by decide))) (λg4 k4=>?_);refine aP.other (TG.of (λh' k N=>de.cast (de.eqStr (a:=Str.ofString "linear") (Ev.mono (Ev.ao (v:=.str (Str.ofString "linear") t) (N _ (.head _))) λv h _ e=>⟨t,e⟩)) (by decide))) (λg5 k5=>?_);have k05:=ai k03 (ai k4 k5);have G5:=G.mono k05;have wb:=LI.av _ _ _ k05 lx;have w2:=LI.av _ _ _ k05 ly;clear G3 k03 k05 k1 k2 k3 k4 k5 lx ly G g1 g2 g3 g4;refine aP.dU (c:=L+1) (cs':=[L+2]) (P:=dB (16*mx)) (aF.of (λh' k N=>Ev.lq (a:=16*xs.sum) (n:=xs.length)
  (Ev.bz (Ev.aD (v:=lr) (G5.mono k) (by k_is)) Kp.builtin
   (Ev.mono (Ev.ao (v:=.ref a) (N _ (.head _))) (λv h1 k2 e=>e▸LI.av _ _ _ (ai k k2) wb)) LI.av (λv h1 k1 q=>fE hh q bx h64))
  (Ev.cS (Ev.ao (N _ (.head _)))) (by omega) (by omega) (by rw[sx,Int.mul_assoc]) (by omega)) aj) aA (λv g6 k6 hv B5=>?_) (by rfl) (by rfl) (by rfl) (by simp) (by simp)
 refine aN hv λvx tx j6 fx=>?_;clear hv;subst j6;refine aP.dU (c:=L+2) (cs':=[]) (P:=dB (16*my)) (aF.of (λh' k N=>Ev.lq (a:=16*ys.sum) (n:=xs.length)
  (Ev.bz (Ev.aD (v:=lr) ((G5.mono k6).mono k) (by k_is)) Kp.builtin
   (Ev.mono (Ev.ao (v:=.ref b) (N _ (.head _))) (λv h1 k2 e=>e▸LI.av _ _ _ (ai (ai k6 k) k2) w2)) LI.av (λv h1 k1 q=>fE hh q bY (by omega)))
  (Ev.cS (Ev.ao (N _ (.head _)))) (by omega) (by omega) (by rw[sy,Int.mul_assoc]) (by omega)) aj) aA (λv g7 k7 hv Eh=>?_) (by rfl) (by rfl) (by rfl) (by simp) (by simp)
 refine aN hv λvy ty j5 fy=>?_;clear hv;subst j5;have yh:=aq k7 B5;have G7:=G5.mono (ai k6 k7);have Er:=LI.av _ _ _ (ai k6 k7) wb;have Ja:=LI.av _ _ _ (ai k6 k7) w2;clear B5 G5 wb w2 k6 k7 g5 g6;refine aP.jq (x:=sn "xi") (cl:=[(sn "xbar",L+1)]) (λvs=>IntsAre vs xs) (λv y=>∃z t,y = .float z t/\Fl z (16*hU v-16*mx)) (by rfl)
  (λh' k N=>Ev.mono (Ev.ao (v:=.ref a) N) (λv h1 k1 e=>e▸fD (LI.av _ _ _ (ai k k1) Er))) (λvs hi=>by rw[hi.length,sizeLine_eq];omega) hh
  (λvs hi v hv C PZ h1 k1 hn0 hn hm=>by refine aN (dF hi hv) λu tu j4 hu=>?_;subst j4;have bu:=bx u hu;exact Ev.oR (n:=u) (a:=16*mx) (Ev.cS (Ev.ao hn hm)) (Ev.mono (Ev.bj (c:=L+1) (aq k1 yh)) (λv h' _ e=>⟨vx,tx,e,fx⟩)) (by omega) (by omega))
  (λlX IY vs g8 k8 il hi hp=>?_) (by rfl) (by decide) (by rfl) (by decide) (by rfl) (by rfl)
 have IZ:LF (xs.map λk=>16*k-16*mx) (.ref lX) g8:=⟨lX,IY,rfl,il,gL (λk=>16*k-16*mx) hi hp⟩;have Ep:=aq k8 Eh;have ly8:=LI.av _ _ _ k8 Ja;clear yh Er Ja il hi hp;refine aP.jq (x:=sn "yi") (cl:=[(sn "ybar",L+2)]) (λvs=>IntsAre vs ys) (λv y=>∃z t,y = .float z t/\Fl z (16*hU v-16*my)) (by rfl)
  (λh' k N=>Ev.mono (Ev.ao (v:=.ref b) N) (λv h1 k1 e=>e▸fD (LI.av _ _ _ (ai k k1) ly8))) (λvs hi=>by rw[hi.length,sizeLine_eq];omega) hh
  (λvs hi v hv C PZ h1 k1 hn0 hn hm=>by refine aN (dF hi hv) λu tu j3 hu=>?_;subst j3;have bu:=bY u hu;exact Ev.oR (n:=u) (a:=16*my) (Ev.cS (Ev.ao hn hm)) (Ev.mono (Ev.bj (c:=L+2) (aq k1 Ep)) (λv h' _ e=>⟨vy,ty,e,fy⟩)) (by omega) (by omega))
  (λlY IY vs g9 k9 il hi hp=>?_) (by rfl) (by decide) (by rfl) (by decide) (by rfl) (by rfl)
 have lyf:LF (ys.map λk=>16*k-16*my) (.ref lY) g9:=⟨lY,IY,rfl,il,gL (λk=>16*k-16*my) hi hp⟩;have MF:=LF.av _ _ _ k9 IZ;have yl:(xs.map λk=>16*k-16*mx).length=xs.length:=List.length_map _;have hly:(ys.map λk=>16*k-16*my).length=ys.length:=List.length_map _;have Es:∀i,i<xs.length->aO (xs.map λk=>16*k-16*mx) i=16*(aO xs i-mx):=λi hi=>by have e:xs[i]?=some xs[i]:=O6 hi;simp[aO,e,Int.mul_sub]
 have aty:∀i,i<xs.length->aO (ys.map λk=>16*k-16*my) i=16*(aO ys i-my):=λi hi=>by have e:ys[i]?=some ys[i]:=O6 (by omega);simp[aO,e,Int.mul_sub]
 have ym:∀p q:Int,(p*q).natAbs<=2^36->16*p*(16*q)=16*(p*q)*16/\(16*(p*q)).natAbs<=2^40:=λp q hb=>by refine⟨?_,by omega⟩;rw[Int.mul_assoc 16 p,Int.mul_left_comm p 16 q];generalize p*q=r;omega
 have hS:preSum (λi=>16*((aO xs i-mx)*(aO ys i-my))) xs.length=16*bD xs ys mx my:=cO _ _ _;have hX:preSum (λi=>16*((aO xs i-mx)*(aO xs i-mx))) xs.length=16*bD xs xs mx mx:=cO _ _ _;have hY:preSum (λi=>16*((aO ys i-my)*(aO ys i-my))) xs.length=16*bD ys ys my my:=by rw[cO];unfold bD;rw[hn]
 have hif:(if c=0 then some bG else none)=(if 16*c=0 then some bG else none):=by
  by_cases h:c=0
  ·rw[if_pos h,if_pos (by omega)]
  ·rw[if_neg h,if_neg (by omega)]
 rw[hif];have hcc:c*c<=5900000*5900000:=Nat.mul_le_mul (by omega) (by omega);have hc49:(16*((c:Int)*c)).natAbs<2^49:=by
  have e:((c:Int)*c)=((c*c:Nat):Int):=by push_cast;rfl
  rw[e];omega
 have T:=o6 (cs:=[]) (cso:=cso) (ex:=[L,L+2,L+1]) (m:=λz=>if z=sn "y" then some (.ref lY) else if z=sn "x" then some (.ref lX) else if z=sn "n" then some (.int xs.length tn) else bindL (kD L).kindOf (jr a b (Str.ofString "linear") t) (λ_=>none) z)
  (k:=16*(c*c)) (c:=16*c) (cxy:=λi=>16*((aO xs i-mx)*(aO ys i-my))) (cxx:=λi=>16*((aO xs i-mx)*(aO xs i-mx))) (cyy:=λi=>16*((aO ys i-my)*(aO ys i-my)))
  (G7.mono (ai k8 k9)) hA hh hd (by rfl) (by rfl) MF lyf (by rw[yl,hly,hn]) (by omega) (by omega)
  (λi hi=>by rw[yl] at hi;rw[Es i hi,aty i hi];exact ym _ _ (w3 i hi)) (λi hi=>by rw[yl] at hi;rw[Es i hi];exact ym _ _ (yk i hi)) (λi hi=>by rw[yl] at hi;rw[aty i hi];exact ym _ _ (I9 i hi))
  (by rw[yl,hX,hY,Int.mul_assoc,Int.mul_left_comm _ 16,hk];generalize ((c:Int)*c)=q;omega) (by push_cast;rw[Int.mul_assoc,Int.mul_left_comm (c:Int) 16]) hc49 (by omega)
 rw[yl,hS] at T;refine aP.nil ?_;intro s gb Q E W tz hs O hq he;refine T s gb Q E W tz hs O (λv s' g' k O' go r=>hq v s' g' k O' go ?_) he;refine cA r λhc0 j1=>aG j1 λz t j2 I3 rz=>?_;clear r j1;subst j2;refine⟨by omega,z,t,rfl,I3,rz.1,λp q hq h hp=>rz.2 p q hq ?_ hp⟩;show 16*bD xs ys mx my*q=p*((16*c:Nat):Int);rw[Int.mul_assoc,h];push_cast;rw[Int.mul_left_comm]
end
section
variable{a b:Addr}{mx:Int}{c:Nat}
theorem AE(G:Gl w h)(hA:A.frames=some (frs.map (·.1)))(lx:LI xs (.ref a) h)(ly:LI ys (.ref b) h)(hn:ys.length=xs.length)(h2:2<=xs.length)(h64:xs.length<=64)(hh:A.handled=none)(hd:A.depth+10<recursionLimit)(bx:∀k∈xs,k.natAbs<=2^40)(bY:∀k∈ys,k.natAbs<=2^40)(sx:xs.sum=mx*xs.length)(sy:ys.sum=my*xs.length)(w3:∀i,i<xs.length->((aO xs i-mx)*(aO ys i-my)).natAbs<=2^36)(yk:∀i,i<xs.length->((aO xs i-mx)*(aO xs i-mx)).natAbs<=2^36)(I9:∀i,i<xs.length->((aO ys i-my)*(aO ys i-my)).natAbs<=2^36)(hk:bD xs xs mx mx*bD ys ys my my=c*c)(kq:c<5900000):
  df w A frs cs h (.ref 349) [.ref a,.ref b] [] (λv _=>c≠0/\∃z t,v = .float z t/\t≠0/\dt (bD xs ys mx my) c z) (if c=0 then some bG else none):=by
 refine df.def (binds:=jr a b (Str.ofString "linear") 854) G hA (by k_is) rfl (by k_is) (by omega) (λs hs=>kp_binds (G.mono hs).K (λS=>by kernel_rfl)) rfl (by decide) (λL g hg aQ=>?_);clear aQ;show aP _ _ _ _ _ [L+2,L+1] _ [L,L+2,L+1] _ _ _ _ _;exact lB (G.mono hg) (by show A.frames.map _=_;rw[hA];rfl) (LI.av _ _ _ hg lx) (LI.av _ _ _ hg ly) hn h2 h64 hh (by show A.depth+1+8<_;omega) bx bY sx sy w3 yk I9 hk kq
theorem yn(G:Gl w h)(hA:A.frames=some (frs.map (·.1)))(lx:LI xs (.ref a) h)(ly:LI ys (.ref b) h)(hn:ys.length=xs.length)(h2:2<=xs.length)(h64:xs.length<=64)(hh:A.handled=none)(hd:A.depth+10<recursionLimit)(bx:∀k∈xs,k.natAbs<=2^40)(bY:∀k∈ys,k.natAbs<=2^40)(sx:xs.sum=mx*xs.length)(sy:ys.sum=my*xs.length)(w3:∀i,i<xs.length->((aO xs i-mx)*(aO ys i-my)).natAbs<=2^36)(yk:∀i,i<xs.length->((aO xs i-mx)*(aO xs i-mx)).natAbs<=2^36)(I9:∀i,i<xs.length->((aO ys i-my)*(aO ys i-my)).natAbs<=2^36)(hk:bD xs xs mx mx*bD ys ys my my=c*c)(kq:c<5900000):
  df w A frs cs h (.ref 349) [.ref a,.ref b] [(sn "method",.str (Str.ofString "linear") t)] (λv _=>c≠0/\∃z t,v = .float z t/\t≠0/\dt (bD xs ys mx my) c z) (if c=0 then some bG else none):=by
 refine df.def (binds:=jr a b (Str.ofString "linear") t) G hA (by k_is) rfl (by k_is) (by omega) (λs hs=>kp_binds (G.mono hs).K (λS=>by kernel_rfl)) rfl (by decide) (λL g hg aQ=>?_);clear aQ;show aP _ _ _ _ _ [L+2,L+1] _ [L,L+2,L+1] _ _ _ _ _;exact lB (G.mono hg) (by show A.frames.map _=_;rw[hA];rfl) (LI.av _ _ _ hg lx) (LI.av _ _ _ hg ly) hn h2 h64 hh (by show A.depth+1+8<_;omega) bx bY sx sy w3 yk I9 hk kq
end
noncomputable def pT:Program:={(default:Program) with main:={(default:PySem.Module) with body:=[.Import [⟨Str.ofString "sys",none,default⟩] default]}}
theorem Et(G:Gl w h):∃loose oE mg mb,Top pT loose oE mg mb h:=by
 refine aG G.top λmg mb h1 h2 h3=>?_;refine ez G.bmain λmg' bm ob j1=>qL j1 λb1 b2 b3 b4 b5 b6 b7 b8=>?_;clear j1;have e:mg'=mg:=by
  refine dj b1 λo es ep ho hd _ hf=>?_;clear b1;refine dj h1 λo' es' ep' aW bL _ HJ=>?_;clear h1;rw[ho] at aW;cases aW;rw[hd] at bL;cases bL;funext x
  rw[<-hf,<-HJ]
 subst e;refine dj (id h1) λo es ep ho hd hk hf=>?_;refine⟨es.toList.filterMap λe=>match e.key with| .str s _=>some s|_=>none,λ_=>none,mg',mb,?_⟩;refine⟨h1,h2,G.nolimit,G.digits,?_,?_,?_,?_,h3,?_,⟨bm,ob,b2,b3,b5,b6,b7,b8⟩,?_⟩
 ·intro d hd;exact absurd (show d∈[] from hd) List.not_mem_nil
 ·intro d hd;exact absurd (show d∈[] from hd) List.not_mem_nil
 ·intro x d hd;exact absurd (show none=some d from hd) (by simp)
 ·intro x _ hx _ _ _
  rw[<-hf];unfold nsFind findBy;rw[<-Array.find?_toList];have:es.toList.find? (λe=>e.key.isStr x)=none:=by rw[List.find?_eq_none];intro e he hs;refine oM (hk e (by simpa using he)) λn t hn=>?_;apply hx;refine List.mem_filterMap.mpr ⟨e,he,?_⟩;rw[hn] at hs ⊢;simpa [Value.isStr] using hs
  rw[this];rfl
 ·intro d hd;exact absurd (show d∈[] from hd) List.not_mem_nil
 ·intro h;exact absurd h (by decide)
def Mv(M:List Addr)(h h':Heap):Prop:=∀b o,b∉M->h.get? b=some o->h'.get? b=some o
theorem Mv.NV(F:Fr (hideAll h M) L h' m):Mv M h h':=λb o hb e=>F.keep b o (OO _ e hb)
section
variable{mo:List (Addr×Obj)}
 {body:List Stmt}{doc:Value}{fo:Obj}{f:Addr}
theorem tG(Bw:Below A base envs (hideAll s.heap M))(G:Gl w base)(ho:(Mine.K w.params).lookup f=some fo)(hd:fo.data = .func (fnX name qual params body scope [] dV kV doc pm an fk ct))(qC:codeIn (Mine.K w.params) fk qual=true)(eH:A.depth<recursionLimit)(f7:BindsTo s (fnX name qual params body scope [] dV kV doc pm an fk ct) ⟨vs,kw⟩ binds)(DC:∀y∈binds,scope.names.lookup y.1=some .local)(hM:M=mo.map (·.1))(eE:∀p∈mo,s.heap.get? p.1=some p.2)(h:∀(H₀:Heap) L' h₁ loose oE mg mb,Mv M s.heap H₀->H₀.StaysIn s.heap->Fr H₀ L' h₁ (λy=>binds.reverse.lookup y)->News H₀ L' h₁ mo->Below A base envs H₀->(Mine.K w.params).In H₀->Top pT loose oE mg mb H₀->(∀p∈mo,p.1<L')->s.heap.objs.size<=L'->
   wpAny (model pw w) (A.deeper (envOf qual scope L' f fk)) (execs body (envOf qual scope L' f fk)) (λfl s'=>Q (oN fl) s')
    (λe s'=>wpAny (model pw w) (A.deeper (envOf qual scope L' f fk)) (leaving (envOf qual scope L' f fk) e) (λ_ eA=>E e eA) (λe' eA=>E e' eA) s')
    {s with heap:=h₁,toks:=s.toks+binds.length})(aQ:autoParam (∀x∈scope.names,x.2≠.cell) glB_def._auto_7)(qD:autoParam (scope.isCoroutine=false) cH)(iW:autoParam (scope.isGenerator=false) cH)(hk:autoParam (scope.kind = .function) cH):
  wpAny (model pw w) A (call (.ref f) vs kw) Q E s:=by
 have up:(hideAll s.heap M).StaysIn s.heap:=λb o e=>OW _ e;have Eu:=G.mono Bw.stays;have G':=Eu.mono up;refine nU (Et Eu) λloose oE mg mb T=>?_;refine wpAny_call (kX G'.nolimit (G'.K _ _ ho) hd (codeRec_of G'.K qC) eH f7 DC (λh₁ F=>?_) aQ qD iW hk);have F':Fr (hideAll s.heap M) s.heap.objs.size h₁ (λy=>binds.reverse.lookup y):=⟨F.ns,λb o e=>F.keep b o (up b o e),by rw[hideAll_size];exact OM _⟩;have lt:∀p∈mo,p.1<s.heap.objs.size:=λp hp=>ON (eE p hp);refine Oj (h _ s.heap.objs.size h₁ loose oE mg mb (λb o hb e=>OO _ e hb) up F' (λp hp=>⟨F.keep _ _ (eE p hp),OI (lt p hp),Oo _ (hM▸OE hp)⟩) Bw Eu.K T lt (OM _))
  (λfl s' x=>?_) λ_ _ x=>x
 cases fl<;>exact x
end
theorem mV(hA:A.frames=some (frs.map (·.1)))(F:aU frs h)(hM:∀b∈M,b∉aS frs):Below A (hideAll h (M++aS frs)) (frs.map (·.1)) (hideAll h M):=by
 refine⟨hA,λb o e=>OO _ (OW _ e) λhm=>?_,?_⟩
 ·rw[hideAll_none _ (List.mem_append_left _ hm)] at e;cases e
 ·have:∀l:Frs,(∀p∈l,p∈frs)->(hideAll h M).FunFrames (hideAll h (M++aS frs)) (l.map (·.1)):=by
   intro l;induction l with
   |nil=>intro _;trivial
   |cons p l ih=>
    intro h1;refine du (F p (h1 p (.head _))) λq1 q2 j1=>bf j1 λo' es ep aW bL _=>?_;clear j1;have hp:p.1.locals∈aS frs:=OE (h1 p (.head _));exact⟨q1,⟨_,o',q2,Oo _ (OP _ hp),OO _ aW λhm=>hM _ hm hp,λvs q=>by rw[bL] at q;cases q⟩,ih λp hp=>h1 p (.tail _ hp)⟩
  exact this frs λp hp=>hp
theorem aU.slots(F:aU frs h)(u:h.UpToSlots h'):aU frs h':=λp hp=>(by refine du (F p hp) λa b c=>⟨a,b,u.ns c⟩)
theorem aU.mv(F:aU frs h)(hM:∀b∈M,b∉aS frs)(k:Mv M h h'):aU frs h':=λp hp=>by refine du (F p hp) λa b j1=>aV j1 λo es ep ho r=>?_;clear j1;exact⟨a,b,o,es,ep,k _ _ (λhm=>hM _ hm (OE hp)) ho,r⟩
def kj(frs:Frs)(h h':Heap):Prop:=∀b o,b∈aS frs->h.get? b=some o->(∀vs,o.data≠.fields vs)->∃sl,h'.get? b=some {o with slots:=sl}
theorem kj.trans(x:kj frs h h')(y:kj frs h' f5):kj frs h f5:=λb o hb e n=>by refine aR (x b o hb e n) λsl e1=>?_;refine aR (y b _ hb e1 n) λBM e2=>?_;exact⟨BM,e2⟩
theorem kj.up(u:h.UpToSlots h'):kj frs h h':=λb o _ e n=>u b o e n
theorem kj.same(k:∀b o,b∈aS frs->h.get? b=some o->h'.get? b=some o):kj frs h h':=λb o hb e _=>⟨o.slots,k b o hb e⟩
theorem kj.tail{p:Env×(Str->Option Value)}(x:kj (p::frs) h h'):kj frs h h':=λb o hb e n=>x b o (.tail _ hb) e n
structure lC(frs:Frs)(M:List Addr)(e:Addr)(h h':Heap):Prop where
 wi:∃t,Heap.FlyingW (hideAll h (M++aS frs)) (frs.map (·.1)) e (.type "StopIteration") (.ref t) h'
 ups:kj frs h h'
 frs:aU frs h'
theorem lC.keep{e:Addr}(S:lC frs M e h h'):(hideAll h (M++aS frs)).StaysIn h':=(by refine aR S.wi λ_ x=>x.1)
theorem lC.of{e t:Addr}(F:aU frs h)(hM:∀b∈M,b∉aS frs)(k:Mv M h H₀)(R:RaisedK (hideAll h (M++aS frs)) (frs.map (·.1)) e (.type "StopIteration") t [] news h')(u:H₀.UpToSlots h'):lC frs M e h h'/\∀p∈news,h'.get? p.1=some p.2:=by refine cA R λj1 _=>jB j1 λB hB hl hfl hn=>?_;clear R j1;exact⟨⟨⟨t,flyingW_base hB hfl⟩,(kj.same λb o hb e=>k b o (λhm=>hM b hm hb) e).trans (.up u),(F.mv hM k).slots u⟩,λp hp=>hfl.1 _ _ (hl p hp).1⟩
section
variable{b:Int}{Q:Bool->Shared->Prop}
theorem tH(hb:NoneBooked s.heap)(ht:t≠0)(hu:u≠0)(hq:∀r,(r=true->t≠u->a=b)->Q r s):wpAny (model prog w) A (isSame (.int a t) (.int b u)) Q E s:=by
 have z:(t==0||u==0)=false:=by rw[Bool.or_eq_false_iff];exact⟨beq_eq_false_iff_ne.mpr ht,beq_eq_false_iff_ne.mpr hu⟩
 have yes:∀r,(a==b)=true->Q r s:=λr e=>hq r λ_ _=>eq_of_beq e;show wpAny _ _ (if (a==b&&smallInt a)=true then isSame.cachedInt t u else isSame.created (a==b) t u) Q E s;refine wpAny_ite (by
  cases e:a==b&&smallInt a with
  |true=>
   unfold isSame.cachedInt;rw[z];exact J' (PI (OD (yes _ ((Bool.and_eq_true _ _).mp e).1)))
  |false=>
   unfold isSame.created;rw[z];refine wpAny_ite (by
    cases q:t==u with
    |true=>exact OD (hq _ λ_ n=>absurd (eq_of_beq q) n)
    |false=>
     cases r:a==b with
     |false=>exact OD (hq _ λz=>by cases z)
     |true=>exact J' (wpAny_sharingNotTold_none hb (J' (wpAny_sharingNotTold_none hb (J' (PI (J' (wpAny_askSetting (OD (yes _ r))))))))))
   )
end
theorem Jb{P:Params}(X:(K P).In h):NoneBooked h:=⟨_,B7 (es:=B8 P) X (by kernel_rfl) (by kernel_rfl),by kernel_rfl⟩
section
variable{b:Int}
theorem kE(x:NoneBooked h)(k:h.StaysIn h'):NoneBooked h':=x.elim λ_ q=>⟨_,q.1.keeps k,q.2⟩
theorem AF(hb:NoneBooked s.heap)(hn:s.heap.Ns env.locals m)(hk:env.scope.kind = .function)(la:env.kindOf (Str.ofString "a")=some .local)(lb:env.kindOf (Str.ofString "b")=some .local)(ma:m (Str.ofString "a")=some (.int a t))(mb:m (Str.ofString "b")=some (.int b u))(ht:t≠0)(hu:u≠0)(tI:t=u->a=b)(hq:∀h' tk,s.heap.StaysIn h'->Q (.bool (decide (a=b))) (bp s h' tk)):
  wpAny (model pw w) A (execs GO env) (λfl s'=>Q (oN fl) s') E s:=by
 have na:∀{h p},s.heap.StaysIn h->om w A h env (.Name (Str.ofString "a") p) (.int a t):=λk=>Ev.ao (hn.keeps k) ma hk la;have nb:∀{h p},s.heap.StaysIn h->om w A h env (.Name (Str.ofString "b") p) (.int b u):=λk=>Ev.ao (hn.keeps k) mb hk lb;refine OT (wpAny_If (O7 (na (ak _) _ _ _ (ak _) λv h₁ bg PO bB=>nb PO _ _ _ (ak _) λv' h₂ bZ PQ bR=>?_)));subst bB;subst bR;have k:=ai PO PQ;refine J' (tH (kE hb k) ht hu λr hr=>OD (Oi ?_));cases r with
 |true=>
  refine OT (O3 (PN ?_));have e:a=b:=Decidable.byCases tI (hr rfl);rw[<-decide_eq_true e];exact hq h₂ bZ k
 |false=>
  refine PD (OT (wpAny_If (de.eq (na k).cS (nb k).cS rfl _ _ _ _ (ak _) λh₃ cW PS=>?_)));cases e:a==b with
  |true=>
   refine OT (O3 (PN ?_));rw[<-decide_eq_true (eq_of_beq e)];exact hq h₃ cW (ai k PS)
  |false=>
   refine PD (OT (O3 (PN ?_)));rw[<-decide_eq_false (ne_of_beq_false e)];exact hq h₃ cW (ai k PS)
theorem jT(X:(K w.params).In s.heap)(ht:t≠0)(hu:u≠0)(tI:t=u->a=b)(hd:A.depth<=400)(hq:∀h' tk,s.heap.StaysIn h'->Q (.bool (decide (a=b))) (bp s h' tk)):
  wpAny (model pw w) A (call (.ref 126) [.int a t,.int b u]) Q E s:=by
 refine wpAny_call (kX (binds:=[(Str.ofString "a",.int a t),(Str.ofString "b",.int b u)]) (cB X) (X _ _ (by k_is)) rfl (codeRec_of X (by k_is)) (OV hd (by decide)) (.of_eq rfl) (locs rfl) (λh₁ F=>?_) (by decide));exact Oj (AF (Jb (X.keeps F.keep)) F.ns rfl rfl rfl rfl rfl ht hu tI λh' tk k=>hq h' tk (ai F.keep k)) (λfl s' x=>by cases fl<;>exact x) λ_ _ x=>x
end
section
variable{b:Int}{t u:Nat}
theorem yo(F:Fr h₀ L s.heap m)(N:News h₀ L s.heap news)(X:(K w.params).In h₀)(ht:t≠0)(hu:u≠0)(tI:t≠u)(hh:A.handled=none)(hd:A.depth<=400)(zM:A.units<=1000)(h:∀h' tk,Fr h₀ L h' m->News h₀ L h' news->Q (.bool (decide (a=b))) (bp s h' tk)):wpAny (model pw w) A (call (.ref 126) [.int a t,.int b u]) Q E s:=
 jT (X.keeps F.keep) ht hu (λe=>absurd e tI) hd λh' tk k=>h h' tk ⟨F.ns.keeps k,λb o e=>k _ _ (F.keep b o e),F.above⟩ (N.grown k)
theorem Jc(F:Fr h₀ L s.heap m)(N:News h₀ L s.heap news)(X:(K w.params).In h₀)(ht:t≠0)(hu:u≠0)(tI:t≠u)(hh:A.handled=none)(hd:A.depth<=400)(zM:A.units<=1000)(h:∀h' tk,Fr h₀ L h' m->News h₀ L h' news->Q (.bool true) (bp s h' tk)):wpAny (model pw w) A (call (.ref 126) [.int a t,.int a u]) Q E s:=
 yo F N X ht hu tI hh hd zM λh' tk F' N'=>by rw[decide_eq_true rfl];exact h h' tk F' N'
theorem KS(nY:a≠b)(F:Fr h₀ L s.heap m)(N:News h₀ L s.heap news)(X:(K w.params).In h₀)(ht:t≠0)(hu:u≠0)(tI:t≠u)(hh:A.handled=none)(hd:A.depth<=400)(zM:A.units<=1000)(h:∀h' tk,Fr h₀ L h' m->News h₀ L h' news->Q (.bool false) (bp s h' tk)):wpAny (model pw w) A (call (.ref 126) [.int a t,.int b u]) Q E s:=
 yo F N X ht hu tI hh hd zM λh' tk F' N'=>by rw[decide_eq_false nY];exact h h' tk F' N'
theorem same_self(F:Fr h₀ L s.heap m)(N:News h₀ L s.heap news)(X:(K w.params).In h₀)(ht:t≠0)(hh:A.handled=none)(hd:A.depth<=400)(zM:A.units<=1000)(h:∀h' tk,Fr h₀ L h' m->News h₀ L h' news->Q (.bool true) (bp s h' tk)):wpAny (model pw w) A (call (.ref 126) [.int a t,.int a t]) Q E s:=
 jT (X.keeps F.keep) ht ht (λ_=>rfl) hd λh' tk k=>by rw[decide_eq_true rfl];exact h h' tk ⟨F.ns.keeps k,λb o e=>k _ _ (F.keep b o e),F.above⟩ (N.grown k)
end
section
noncomputable abbrev bC(l:Addr)(i:Nat):Obj:={cls:=.type "list_iterator",data:=.fields #[.ref l,.int i 0]}
theorem l5{x:Value}(hit:s.heap.get? it=some (bC l i))(hl:s.heap.IsList l items)(hx:items[i]?=some x)(hQ:∀h',h'.get? it=some (bC l (i+1))->Heap.SameBut it s.heap h'->Q x {s with heap:=h'}):
  wpAny (model prog w) A (call (.builtin "next") [.ref it]) Q E s:=by
 have hI:s.heap.IsListIter it l i:=⟨_,hit,rfl,rfl⟩;refine bl hl λol Gf _ j1=>aR j1 λnl hdl=>?_;clear hl j1;refine call_function_entry (by decide+kernel) (by decide+kernel) kdk_entry_next (kdk_args_next _) ?_;unfold Builtin.«next»;refine J' (m:=someArgs "next" 1 2 _) (wpAny_of_eq (a:=[Value.ref it]) (by first|rfl|kernel_rfl!) ?_);dsimp only;refine J' (wpAny_specialOf (name:=Str.ofString "__next__") hI.typeIs slot_listiter_next.lookup ?_);refine wpAny_ite_split (λnY=>absurd nY (by decide)) (λ_=>?_);refine J' (wpAny_callSpecial?_slot (name:=Str.ofString "__next__") hI.typeIs slot_listiter_next
  (wpAny_call_entry slot_listiter_next hI.typeIs entry_listiter_next ?_ (args_listiter_next _)))
 show wpAny _ _ (field (.ref it) 0 >>= _) _ _ s;refine J' (Ov hit rfl (x:=.ref l) rfl ?_);show wpAny _ _ (if (Value.ref l==Value.none)=true then _ else _) _ _ s;rw[if_neg (show ¬((Value.ref l==Value.none)=true) from Bool.false_ne_true)];show wpAny _ _ (field (.ref it) 1 >>= _) _ _ s;refine J' (Ov hit rfl (x:=.int i 0) rfl ?_);show wpAny _ _ (seqItems? (.ref l) >>= _) _ _ s;refine J' (PB Gf hdl ?_);simp only[Int.toNat_natCast,hx];refine J' (wpAny_setField hit rfl (by simp) (OD ⟨x,rfl,OD ⟨_,rfl,hQ _ ?_ (Heap.SameBut.update ..)⟩⟩));rw[Heap.get?_update_self _ hit rfl];rfl
variable{Cc:List (Addr×Obj)}{x:Value}
theorem Gi(F:Fr h₀ L s.heap m)(N:News h₀ L s.heap news)(U:Upd it (bC l i) (bC l (i+1)) news Cc)(hl:h₀.IsList l items)(hx:items[i]?=some x)(h:∀h',Fr h₀ L h' m->News h₀ L h' Cc->Q x {s with heap:=h'}):wpAny (model prog w) A (call (.builtin "next") [.ref it]) Q E s:=by
 refine oM U.split λpre post j1=>eP j1 λj2 j3 a b=>?_;clear j1;subst j2;subst j3;have hm:=N (it,_) (OP _ (.head _));exact l5 hm.1 (isList_stays F.keep hl) hx λh' AG hs=>h h' (F.change hs hm.2.1 hm.2.2) (N.setIn a b hs AG)
end
section
variable{K:Frag}{x C p:Addr}{od:Obj}
theorem Gj{pl:Sem Bool}{Q:Value×List Value->Shared->Prop}(F:Fr h₀ L s.heap m)(Jd:K.In h₀)(I:InstAt s.heap x ox C (some od))(hg:plainGet K C name=true)(hc:isClsIn K C=true)(ha:findIn K (.ref C) name=some (some (.ref p)))(hn:specialIn K (.ref p) "__get__"=some (some (.builtin "member_descriptor.__get__")))(ht:takesIn K (.ref p)=some true)(hp:slotIn K p C=some i)(hT:typeIn K (.ref p)=some (.type "member_descriptor"))(hv:(ox.slots[i]?).join=some v)(hh:handedIn v=true)(h:Q (v,[]) {s with toks:=s.toks+1}):wpAny (model prog w) A (getMethod (.ref x) name pl) Q E s:=by
 have X:=Jd.keeps F.keep;unfold getMethod specialOf;refine J' (J' (I.type.here ((looks_findIn X (plainGet_of hg).1).here ?_)));dsimp only;rw[PySem.F.canon_object_ga,if_neg (by decide)];refine J' (J' (I.type.here ((looks_findIn X (plainGet_of hg).2).here ?_)));refine J' (J' (I.type.here ((looks_findIn X ha).here (J' ((looks_typeIn X hT).here ?_)))));rw[if_pos (by decide+kernel)];exact J' (get_slot F Jd I hg hc ha hn ht hp hv hh (OD h))
end
noncomputable abbrev AA(envs:List Env)(gd:Option (List Code)):Around:={handled:=none,depth:=320,frames:=some envs,guards:=gd,units:=100}
noncomputable abbrev fH(dg it kf:Addr)(cg ck cv:Value)(hk hv ht:Bool)(se tg:Value):Obj:={cls:=.ref 167,dict:=some dg,data:=.plain,slots:=#[some cg,some ck,some cv,some (.bool hk),some (.bool hv),some (.bool ht),some (.ref it),some (.ref kf),some se,some tg]}
noncomputable abbrev rH(dk tp:Addr):Obj:={cls:=.ref 310,dict:=some dk,data:=.plain,slots:=#[some (.ref tp)]}
noncomputable abbrev rJ(t0:Tok):Obj:={cls:=.type "tuple",data:=.seq #[.int 0 t0] 0}
noncomputable abbrev sH(k:Int)(tk:Tok)(v:Value):Obj:={cls:=.type "tuple",data:=.seq #[.int k tk,v] 0}
noncomputable abbrev l6(dr gb:Addr)(n:Int)(tn:Tok)(kk:Int)(tk:Tok):Obj:={cls:=.ref 212,dict:=some dr,data:=.plain,slots:=#[some (.int n tn),some (.ref gb),some (.int kk tk)]}
theorem Je{H:Heap}{b:Addr}(k:Mv M h H)(hb:b∉M)(e:H.get? b=none):h.get? b=none:=by
 cases q:h.get? b with
 |none=>rfl
 |some o=>rw[k b o hb q] at e;cases e
noncomputable abbrev Ew(dc:Addr)(n:Int)(fb:Bool)(tn tn':Tok):Obj:={cls:=.ref 265,dict:=some dc,data:=.plain,slots:=#[some (.int n tn),some (.bool fb),some (.int 1 tn')]}
def MG(s:Shared)(Q:Value->Shared->Prop):Prop:=∀h' tz cn dc fb tn tn',h'.get? cn=some (Ew dc 0 fb tn tn')->h'.get? dc=some emptyDict->s.heap.StaysIn h'->@LT.lt Nat _ dc cn->s.heap.get? cn=none->s.heap.get? dc=none->Q (.ref cn) (bp s h' tz)
theorem AH(KX:(K w.params).In s.heap)(hq:MG s Q):wpAny (model pw w) (A0 fr gd) (call (.ref 265) [] []) Q E s:=by
 refine aR (qG w) λz hz=>?_;cases z<;>
 ·refine bH [] 320951746032837154002445310631284516526807467479242553332236025856 ?_
  refine aX hz 52 3 (iQ KX) rfl rfl λa b c=>b0 ?_;intro Z;refine⟨by kernel_rfl,λh' I=>?_⟩;refine bF (c:=fc "count.__init__" GX GY 240 239 c) 279172874432 (by kernel_rfl) (by kernel_rfl) (by kernel_rfl) (cB I.gx) ?_;refine aX hz 16 1 I (by kernel_rfl) rfl λd=>b0 ?_;intro Z;refine⟨by kernel_rfl,λh' I=>?_⟩;refine bF (c:=fc "_count_kind" C5 C6 224 223 d) 402330512989164405851551711232 (by kernel_rfl) (by kernel_rfl) (by kernel_rfl) (cB I.gx) ?_;refine aX hz 52 1 I (by kernel_rfl) rfl λe=>b0 ?_;intro Z;refine⟨by kernel_rfl,λh' I=>?_⟩;refine bF (c:=fc "_count_kind" C5 C6 224 223 e) 2336539901299775025377747770555639520849537310802663558484317227386048472236163023286542195059415886315656427603684435483473367536687732202859716845674412177049414453223049569178353006462603907072 (by kernel_rfl) (by kernel_rfl) (by kernel_rfl) (cB I.gx) ?_;refine aX hz 266 0 I (by kernel_rfl) rfl (b0 ?_);intro Z;refine⟨by kernel_rfl,λh' I=>?_⟩;refine dM (v:=.ref b) (by kernel_rfl) (by kernel_rfl) ?_;exact hq _ _ _ a true (s.toks+21) 673 (I.at_ 1 b _ rfl (by kernel_rfl)) (I.at_ 0 a _ rfl (by kernel_rfl)) I.stays (I.lt 0 1 rfl rfl (by kernel_rfl) rfl rfl) (I.fresh 1 rfl (by kernel_rfl) rfl) (I.fresh 0 rfl (by kernel_rfl) rfl)
def IgQ(s:Shared)(t:Tok)(Q:Value->Shared->Prop):Prop:=∀h' tz kf dk tp,h'.get? kf=some (rH dk tp)->h'.get? dk=some emptyDict->h'.get? tp=some (rJ t)->s.heap.StaysIn h'->s.heap.get? kf=none->s.heap.get? dk=none->s.heap.get? tp=none->Q (.ref kf) (bp s h' tz)
theorem Ex(KX:(K w.params).In s.heap)(hq:IgQ s t Q):wpAny (model pw w) (A0 fr gd) (call (.ref 310) [.int 0 t] []) Q E s:=by refine aR (qG w) λz hz=>?_;refine bH [] 7179569025026736034033118884566768300111056103050947045752502692509384704 ?_;refine aX hz 57 4 (iQ KX) rfl rfl λa b c d=>b0 ?_;intro Z;refine⟨by kernel_rfl,λh' I=>?_⟩;refine bF (c:=fc "itemgetter.__init__" Dd Hm 285 284 d) 210676005354531409373491711576631450646254212711516129438296985860 (by kernel_rfl) (by kernel_rfl) (by kernel_rfl) (cB I.gx) ?_;refine aX hz 66 1 I (by kernel_rfl) rfl λe=>b0 ?_;intro Z;refine⟨by kernel_rfl,λh' I=>?_⟩;refine dM (v:=.ref b) (by kernel_rfl) (by kernel_rfl) ?_;exact hq _ _ _ a e (I.at_ 1 b _ rfl (by kernel_rfl)) (I.at_ 0 a _ rfl (by kernel_rfl)) (I.at_ 4 e _ rfl (by kernel_rfl)) I.stays (I.fresh 1 rfl (by kernel_rfl) rfl) (I.fresh 0 rfl (by kernel_rfl) rfl) (I.fresh 4 rfl (by kernel_rfl) rfl)
def GbQ(s:Shared)(l kf:Addr)(Q:Value->Shared->Prop):Prop:=∀h' tz gb dg it t2 t3,h'.get? gb=some (fH dg it kf (.int 0 t2) .none .none false false false (.int 0 t3) .none)->h'.get? dg=some emptyDict->h'.get? it=some (bC l 0)->s.heap.StaysIn h'->@LT.lt Nat _ dg gb->@LT.lt Nat _ gb it->
   s.heap.get? gb=none->s.heap.get? dg=none->s.heap.get? it=none->Q (.ref gb) (bp s h' tz)
theorem Ey{d:Option Addr}(KX:(K w.params).In s.heap)(hl:s.heap.get? l=some ⟨.type "list",d,.seq its n,sl⟩)(hk:s.heap.get? kf=some ⟨.ref 310,some dk,.plain,#[some (.ref tp)]⟩)(hq:GbQ s l kf Q):
  wpAny (model pw w) (A0 fr gd) (call (.ref 167) [.ref l] [(Str.ofString "key",.ref kf)]) Q E s:=by
 refine aR (qG w) λz hz=>?_;cases z<;>
 ·refine bH [⟨.type "list",d,.seq its n,sl⟩,⟨.ref 310,some dk,.plain,#[some (.ref tp)]⟩] 574365522002138882722591129986312053093639653400669287197767794433372192768 ?_
  refine aX hz 57 3 (ir KX [l,kf] _ ⟨hl,hk,trivial⟩) rfl rfl λa b c=>b0 ?_;intro Z;refine⟨by kernel_rfl,λh' I=>?_⟩;refine bF (c:=fc "groupby.__init__" GP GQ 142 141 c) 820387058573921633750255777718719250594800708867307792472169822914978185574694349759165872324131844789753507257787923524231733058526472685771991370022913377904165062479065412428027639258189796412703466170429961337949797056244939875834899585141851303206568620035753954012672875253529991426247271715417244822243819229048336746804210787503294507291754555537925946961582644092756343637270152116395007037414139163352852192325592782946484965323084733692039465035610785219122813355822301793171831392833651013 (by kernel_rfl) (by kernel_rfl) (by kernel_rfl) (cB I.gx) ?_;refine aX hz 427 1 I (by kernel_rfl) rfl λd=>b0 ?_;intro Z;refine⟨by kernel_rfl,λh' I=>?_⟩;refine dM (v:=.ref b) (by kernel_rfl) (by kernel_rfl) ?_;exact hq _ _ _ a d (s.toks+11) (s.toks+13) (I.at_ 3 b _ rfl (by kernel_rfl)) (I.at_ 2 a _ rfl (by kernel_rfl)) (I.at_ 5 d _ rfl (by kernel_rfl)) I.stays (I.lt 2 3 rfl rfl (by kernel_rfl) rfl rfl) (I.lt 3 5 rfl rfl (by kernel_rfl) rfl rfl) (I.fresh 3 rfl (by kernel_rfl) rfl) (I.fresh 2 rfl (by kernel_rfl) rfl) (I.fresh 5 rfl (by kernel_rfl) rfl)
def MH(s:Shared)(da cn:Addr)(Q:Value->Shared->Prop):Prop:=∀h' tz z TI TO i1,IsZip h' z TI TO .none->IsPair h' TI (.ref i1) (.ref cn)->IsPair h' TO .none .none->h'.get? i1=some (bC da 0)->s.heap.StaysIn h'->s.heap.get? z=none->s.heap.get? TI=none->s.heap.get? TO=none->s.heap.get? i1=none->
   @LT.lt Nat _ TO z->@LT.lt Nat _ TI TO->@LT.lt Nat _ i1 TI->Q (.ref z) (bp s h' tz)
theorem AI{dc:Addr}{t1:Tok}{d:Option Addr}(KX:(K w.params).In s.heap)(hl:s.heap.get? da=some ⟨.type "list",d,.seq its n,sl⟩)(hk:s.heap.get? cn=some ⟨.ref 265,some dc,.plain,#[some (.int 0 t),some (.bool fb),some (.int 1 t1)]⟩)(hdc:s.heap.get? dc=some ⟨.type "dict",none,.dict #[] 0,#[]⟩)(hq:MH s da cn Q):
  wpAny (model pw w) (A0 fr gd) (call (.type "zip") [.ref da,.ref cn] []) Q E s:=by
 refine aR (qG w) λz hz=>?_;cases z<;>
 ·refine bH [⟨.type "list",d,.seq its n,sl⟩,⟨.ref 265,some dc,.plain,#[some (.int 0 t),some (.bool fb),some (.int 1 t1)]⟩,⟨.type "dict",none,.dict #[] 0,#[]⟩] 402330512767749152292203401281 ?_
  refine aX hz 30 2 (ir KX [da,cn,dc] _ ⟨hl,hk,hdc,trivial⟩) rfl rfl λa b=>b0 ?_;intro Z;refine⟨by kernel_rfl,λh' I=>?_⟩;refine bF (c:=fc "count.__iter__" GZ G0 247 246 b) 2287542531522693 (by kernel_rfl) (by kernel_rfl) (by kernel_rfl) (cB I.gx) ?_;refine aX hz 20 3 I (by kernel_rfl) rfl λc d e=>b0 ?_;intro Z;refine⟨by kernel_rfl,λh' I=>?_⟩;refine dM (v:=.ref e) (by kernel_rfl) (by kernel_rfl) ?_;exact hq _ _ _ c d a (I.at_ 7 e _ rfl (by kernel_rfl)) (I.at_ 5 c _ rfl (by kernel_rfl)) (I.at_ 6 d _ rfl (by kernel_rfl)) (I.at_ 3 a _ rfl (by kernel_rfl)) I.stays (I.fresh 7 rfl (by kernel_rfl) rfl) (I.fresh 5 rfl (by kernel_rfl) rfl) (I.fresh 6 rfl (by kernel_rfl) rfl) (I.fresh 3 rfl (by kernel_rfl) rfl)
   (I.lt 6 7 rfl rfl (by kernel_rfl) rfl rfl) (I.lt 5 6 rfl rfl (by kernel_rfl) rfl rfl) (I.lt 3 5 rfl rfl (by kernel_rfl) rfl rfl)
noncomputable def AllNe(a:Addr):List Addr->Prop
 | []=>True
 |b::l=>b≠a/\AllNe a l
noncomputable def NeW:Nat->List Addr->Prop
 |n+1,a::l=>AllNe a l/\NeW n l
 |_,_=>True
theorem AllNe.get{a:Addr}:∀{l:List Addr},AllNe a l->∀(j:Nat) b,l[j]?=some b->b≠a
 | [],_,_,_,e=>by cases e
 |_::_,H,0,_,e=>by cases e;exact H.1
 |_::_,H,j+1,_,e=>H.2.get j _ e
theorem NeW.get:∀{n:Nat}{l:List Addr},NeW n l->∀(i j:Nat) a b,i<n->j≠i->l[i]?=some a->l[j]?=some b->b≠a
 |0,_,_,_,_,_,_,hi,_,_,_=>absurd hi (PE _)
 |_+1,[],_,_,_,_,_,_,_,e,_=>by cases e
 |n+1,x::l,H,0,0,_,_,_,hj,_,_=>absurd rfl hj
 |n+1,x::l,H,0,j+1,_,_,_,_,e,f=>by cases e;exact H.1.get j _ f
 |n+1,x::l,H,i+1,0,_,_,_,_,e,f=>by cases f;exact OS (H.1.get i _ e)
 |n+1,x::l,H,i+1,j+1,_,_,hi,hj,e,f=>H.2.get i j _ _ (Nat.lt_of_succ_lt_succ hi) (λq=>hj (congrArg _ q)) e f
noncomputable def yp(d:Addr):List Addr->Prop
 |a::l=>@LT.lt Nat _ a d/\yp d l
 | []=>True
theorem yq{d:Addr}:∀{l:List Addr},yp d l->∀p∈l,@LT.lt Nat _ p d
 | [],_,_,hp=>by cases hp
 |_::_,H,p,hp=>(OA hp).elim (λe=>e▸H.1) (λhp=>yq H.2 p hp)
noncomputable def eF(M:List Addr):Nat->List Addr->Prop
 |n+1,a::l=>a∈M/\eF M n l
 |_,_=>True
theorem eF.get:∀{n:Nat}{l:List Addr},eF M n l->∀(i:Nat) a,i<n->l[i]?=some a->a∈M
 |0,_,_,_,_,hi,_=>absurd hi (PE _)
 |_+1,[],_,_,_,_,e=>by cases e
 |n+1,x::l,H,0,_,_,e=>by cases e;exact H.1
 |n+1,x::l,H,i+1,_,hi,e=>H.2.get i _ (Nat.lt_of_succ_lt_succ hi) e
section
variable{ad:List Addr}{ob:List Obj}
theorem ju(G:Gl w (hideAll h (M++fs)))(hl:ob.length=ad.length)(hM:eF M nw ad)(H:IV h ad ob)(i7:NeW nw ad)(hn:Nat.ble nw ob.length=true):fj (K w.params) h nw ob.length ad ob h:=
 have no:∀{j:Nat}{o:Obj},ob.length<=j->ob[j]?=some o->False:=λhj e=>absurd (List.getElem?_eq_some_iff.mp e).1 (Nat.not_lt.mpr hj)
 ⟨λb o e=>OW _ (G.K b o e),H.at,λi a hi e o q=>(by
  have:=G.K _ _ q;rw[hideAll_none _ (List.mem_append_left _ (hM.get i a hi e))] at this;cases this),λi j a b o hi hj _ e e'=>i7.get i j a b hi hj e e',
  λi a o hi e=>(no hi e).elim,λi j a b o hj _ e=>(no hj e).elim,λb o e _=>e,λb o e=>⟨o,e⟩,OH hn,OM _⟩
theorem fj.mv(I:fj F h₀ nw n0 ad ob h)(hM:eF M nw ad):Mv M h₀ h:=λb o hb e=>I.off b o e λi hi q=>hb (hM.get i b hi q)
theorem fj.bS(I:fj F h₀ nw n0 ad ob h)(hM:eF M nw ad):(hideAll h₀ (M++fs)).StaysIn h:=λb o e=>I.mv hM b o (λhb=>by rw[hideAll_none _ (List.mem_append_left _ hb)] at e;cases e) (OW _ e)
end
section
variable{b:Int}
theorem rK(X:(K w.params).In s.heap)(ht:t≠0)(hu:u≠0)(tI:t≠u)(hd:Nat.ble A.depth 400=true)(hq:∀h' tk,s.heap.StaysIn h'->Q (.bool (decide (a=b))) (bp s h' tk)):wpAny (model pw w) A (call (.ref 126) [.int a t,.int b u]) Q E s:=
 jT X ht hu (λe=>absurd e tI) (OH hd) hq
theorem yr(X:(K w.params).In s.heap)(ht:t≠0)(hd:Nat.ble A.depth 400=true)(hq:∀h' tk,s.heap.StaysIn h'->Q (.bool true) (bp s h' tk)):wpAny (model pw w) A (call (.ref 126) [.int a t,.int a t]) Q E s:=
 jT X ht ht (λ_=>rfl) (OH hd) λh' tk k=>by rw[decide_eq_true rfl];exact hq h' tk k
theorem AJ(X:(K w.params).In s.heap)(ht:t≠0)(hu:u≠0)(tI:t≠u)(hd:Nat.ble A.depth 400=true)(hq:∀h' tk,s.heap.StaysIn h'->Q (.bool true) (bp s h' tk)):wpAny (model pw w) A (call (.ref 126) [.int a t,.int a u]) Q E s:=
 rK X ht hu tI hd λh' tk k=>by rw[decide_eq_true rfl];exact hq h' tk k
theorem uQ(X:(K w.params).In s.heap)(nY:a≠b)(ht:t≠0)(hu:u≠0)(tI:t≠u)(hd:Nat.ble A.depth 400=true)(hq:∀h' tk,s.heap.StaysIn h'->Q (.bool false) (bp s h' tk)):wpAny (model pw w) A (call (.ref 126) [.int a t,.int b u]) Q E s:=
 rK X ht hu tI hd λh' tk k=>by rw[decide_eq_false nY];exact hq h' tk k
theorem l7(hq:Q (.bool false) s):wpAny (model pw w) A (call (.builtin "int.__ne__") [.int a t,.int a u]) Q E s:=
 call_givesAt (P:=λ_=>True) PySem.F.slot_int_ne (typeIs_int s a t) PySem.F.entry_int_ne (PySem.F.args_int_ne_2 _ _) (AutoIntG6.int___ne___int_int_0 a t a u).at trivial (by show Q (.bool (a !=a)) s;rw[bne_self_eq_false];exact hq)
end
section
variable{dc:Addr}{xs:Array Value}{n:Int}{tk:Tok}
theorem yt(hF:aU frs s.heap)(gU:∀b∈([cn,dc]:List Addr),b∉aS frs)(G:Gl w (hideAll s.heap ([cn,dc]++aS frs)))(o1:@LT.lt Nat _ dc cn)(eE:∀p∈[(cn,(Ew dc n fb tn tn':Obj)),(dc,emptyDict)],s.heap.get? p.1=some p.2)(hq:∀h' tz rE,h'.get? cn=some (Ew dc (n+1) fb rE tn')->h'.get? dc=some emptyDict->Mv [cn,dc] s.heap h'->Q (.int n tn) (bp s h' tz)):
  wpAny (model pw w) (AA (frs.map (·.1)) gd) (call (.ref 254) [.ref cn] []) Q E s:=by
 refine aR (qG w) λz hz=>?_;refine bH [Ew dc n fb tn tn',emptyDict] 798720 ?_;refine aX hz 7 1 (ju (nw:=1) (ad:=[cn,dc]) G rfl ⟨by k_mem,trivial⟩ ⟨eE (cn,_) (by k_mem),eE (dc,_) (by k_mem),trivial⟩ ⟨⟨OI o1,trivial⟩,trivial⟩ rfl) rfl rfl λa=>b0 ?_;intro Z;refine⟨by kernel_rfl,λh' I=>?_⟩;refine bF (c:=fc "count.__next__" Hh Hj 254 253 a) 38559886870824235439207546014790549190532418076923317871714468277170595773559219455200745644640249076317071474651631126323686614314150778028112740419 (by kernel_rfl) (by kernel_rfl) (by kernel_rfl) (cB I.gx) ?_;refine aX hz 133 0 I (by kernel_rfl) rfl (b0 ?_);intro Z;refine⟨by kernel_rfl,λh' I=>?_⟩;refine dM (v:=.int n tn) (by kernel_rfl) (by kernel_rfl) ?_;exact hq _ _ (s.toks+4) (I.at_ 0 cn _ rfl (by kernel_rfl)) (I.at_ 1 dc _ rfl (by kernel_rfl)) (I.mv ⟨by k_mem,trivial⟩)
theorem Ez(o0:@LT.lt Nat _ dg gb)(o1:@LT.lt Nat _ gb it):gb≠it/\dg≠it/\dg≠gb:=⟨OI o1,OI (Om o0 o1),OI o0⟩
theorem MI(o0:@LT.lt Nat _ dg gb)(o1:@LT.lt Nat _ gb dr)(o2:@LT.lt Nat _ dr gr):dr≠gb/\gr≠gb/\dg≠gb:=⟨Oy o1,Oy (Om o1 o2),OI o0⟩
theorem EA(hF:aU frs s.heap)(gU:∀b∈([gr,dr,gb,dg]:List Addr),b∉aS frs)(G:Gl w (hideAll s.heap ([gr,dr,gb,dg]++aS frs)))(o0:@LT.lt Nat _ dg gb)(o1:@LT.lt Nat _ gb dr)(o2:@LT.lt Nat _ dr gr)(z1:tk≠0)(eE:∀p∈[(gr,(l6 dr gb n tn kk tk:Obj)),(dr,(emptyDict:Obj)),(gb,(fH dg it kf (.int n tn') (.int kk tk) (.ref p0) true true ht (se) (tg):Obj)),(dg,(emptyDict:Obj))],s.heap.get? p.1=some p.2)(hq:∀h' tz,Mv [gr,dr,gb,dg] s.heap h'->h'.get? gr=some (l6 dr gb n tn kk tk)->h'.get? dr=some (emptyDict)->h'.get? gb=some (fH dg it kf (.int n tn') (.none) (.none) false false ht (se) (tg))->h'.get? dg=some (emptyDict)->Q (.ref p0) (bp s h' tz)):
  wpAny (model pw w) (AA (frs.map (·.1)) gd) (call (.ref 208) [.ref gr] []) Q E s:=by
 have q:=MI o0 o1 o2;have M:eF [gr,dr,gb,dg] 1 [gb,gr,dr,dg]:=⟨by k_mem,trivial⟩;refine aR (qG w) λz hz=>?_;cases z<;>
 ·refine bH [fH dg it kf (.int n tn') (.int kk tk) (.ref p0) true true ht se tg,l6 dr gb n tn kk tk,emptyDict,emptyDict] 1331200 ?_
  refine aX hz 7 1 (ju (nw:=1) (ad:=[gb,gr,dr,dg]) G rfl M ⟨eE (gb,_) (by k_mem),eE (gr,_) (by k_mem),eE (dr,_) (by k_mem),eE (dg,_) (by k_mem),trivial⟩ ⟨⟨q.2.1,q.1,q.2.2,trivial⟩,trivial⟩ rfl) rfl rfl λa=>b0 ?_;intro Z;refine⟨by kernel_rfl,λh1 I=>?_⟩;refine bF (c:=fc "_grouper.__next__" w7 oh 208 207 a) 196767737129156203399301601675744908030724073358114629612124596476045749899487044191435841042930660355255125741022376038014932478234210735142994053 (by kernel_rfl) (by kernel_rfl) (by kernel_rfl) (cB I.gx) ?_;refine aX hz 123 0 I (by kernel_rfl) rfl (b0 ?_);intro Z;refine⟨by kernel_rfl,λh2 I=>?_⟩;refine c7 (c:=.call (.builtin "int.__ne__") ⟨[.int n tn',.int n tn],[]⟩) (by kernel_rfl) (l7 ?_);refine aX hz (C:=Cf.re _ _ _ _ 196670921001620390989714539353522410315041076662661885070160163682732118527601086718119689947068328532291194889205380550888307200374605748732166213) 118 0 I (by kernel_rfl) rfl (b0 ?_);intro Z;refine⟨by kernel_rfl,λh3 I=>?_⟩;refine c7 (c:=.call (.ref 126) ⟨[.int kk tk,.int kk tk],[]⟩) (by kernel_rfl) (yr I.gx z1 (by kernel_rfl) λh4 gv k4=>?_);refine aX hz (C:=Cf.re _ _ gv _ 2191804683148947863528807315178766461893553986534423277753644553938252232033213768018314660691620952699997241829345345597905356395099851827081921360945251859120810424445733780152994265346728412961960292570553251178177041305377242155635660204015685) 210 0 (I.keep k4) (by kernel_rfl) rfl (b0 ?_);intro Z;refine⟨by kernel_rfl,λh5 I=>?_⟩;refine dM (v:=.ref p0) (by kernel_rfl) (by kernel_rfl) ?_;exact hq _ _ (I.mv M) (I.at_ 1 gr _ rfl (by kernel_rfl)) (I.at_ 2 dr _ rfl (by kernel_rfl)) (I.at_ 0 gb _ rfl (by kernel_rfl)) (I.at_ 3 dg _ rfl (by kernel_rfl))
theorem Jf(o0:@LT.lt Nat _ dg gb)(o1:@LT.lt Nat _ gb it)(o2:@LT.lt Nat _ it dr)(o3:@LT.lt Nat _ dr gr):(gb≠it/\gr≠it/\dr≠it/\dg≠it)/\gr≠gb/\dr≠gb/\dg≠gb:=
 ⟨⟨OI o1,Oy (Om o2 o3),Oy o2,OI (Om o0 o1)⟩,Oy (Om o1 (Om o2 o3)),Oy (Om o1 o2),OI o0⟩
set_option linter.unusedVariables false in
theorem g_same(hF:aU frs s.heap)(gU:∀b∈([gr,dr,it,gb,dg,tp,kf,dk,p0]:List Addr),b∉aS frs)(G:Gl w (hideAll s.heap ([gr,dr,it,gb,dg,tp,kf,dk,p0]++aS frs)))(o0:@LT.lt Nat _ dg gb)(o1:@LT.lt Nat _ gb it)(o2:@LT.lt Nat _ it dr)(o3:@LT.lt Nat _ dr gr)(n0:gb≠tp)(n1:gb≠kf)(n2:gb≠dk)(n3:gb≠p0)(n4:it≠tp)(n5:it≠kf)(n6:it≠dk)(n7:it≠p0)(z1:tk≠0)(z2:gv≠0)(z3:tk≠gv)(hl:(hideAll s.heap ([gr,dr,it,gb,dg,tp,kf,dk,p0]++aS frs)).IsList l xs)(hi:xs[i]?=some (.ref p0))(eE:∀p∈[(gr,(l6 dr gb n tn k tk:Obj)),(dr,(emptyDict:Obj)),(it,(bC l i:Obj)),(gb,(fH dg it kf (.int n tn') (ck) (cv) false false ht (se) (tg):Obj)),(dg,(emptyDict:Obj)),(tp,(rJ t0:Obj)),(kf,(rH dk tp:Obj)),(dk,(emptyDict:Obj)),(p0,(sH k gv v:Obj))],s.heap.get? p.1=some p.2)(hq:∀h' tz,Mv [gr,dr,it,gb,dg,tp,kf,dk,p0] s.heap h'->h'.get? gr=some (l6 dr gb n tn k tk)->h'.get? dr=some (emptyDict)->h'.get? it=some (bC l (i+1))->h'.get? gb=some (fH dg it kf (.int n tn') (.none) (.none) false false ht (se) (tg))->h'.get? dg=some (emptyDict)->h'.get? tp=some (rJ t0)->h'.get? kf=some (rH dk tp)->h'.get? dk=some (emptyDict)->h'.get? p0=some (sH k gv v)->Q (.ref p0) (bp s h' tz)):
  wpAny (model pw w) (AA (frs.map (·.1)) gd) (call (.ref 208) [.ref gr] []) Q E s:=by
 have q:=Jf o0 o1 o2 o3;have M:eF [gr,dr,it,gb,dg,tp,kf,dk,p0] 2 [it,gb,gr,dr,dg,tp,kf,dk,p0]:=⟨by k_mem,by k_mem,trivial⟩;have I0:=ju (nw:=2) (ad:=[it,gb,gr,dr,dg,tp,kf,dk,p0]) (ob:=[bC l i,fH dg it kf (.int n tn') ck cv false false ht se tg,l6 dr gb n tn k tk,emptyDict,emptyDict,rJ t0,rH dk tp,emptyDict,sH k gv v]) G rfl M ⟨eE (it,_) (by k_mem),eE (gb,_) (by k_mem),eE (gr,_) (by k_mem),eE (dr,_) (by k_mem),eE (dg,_) (by k_mem),eE (tp,_) (by k_mem),eE (kf,_) (by k_mem),eE (dk,_) (by k_mem),eE (p0,_) (by k_mem),trivial⟩
  ⟨⟨q.1.1,q.1.2.1,q.1.2.2.1,q.1.2.2.2,n4.symm,n5.symm,n6.symm,n7.symm,trivial⟩,⟨q.2.1,q.2.2.1,q.2.2.2,n0.symm,n1.symm,n2.symm,n3.symm,trivial⟩,trivial⟩ rfl
 refine aR (qG w) λz hz=>?_;cases z<;>
 ·refine bH [bC l i,fH dg it kf (.int n tn') ck cv false false ht se tg,l6 dr gb n tn k tk,emptyDict,emptyDict,rJ t0,rH dk tp,emptyDict,sH k gv v] 2662400 ?_
  refine aX hz 7 1 I0 rfl rfl λa=>b0 ?_;intro Z;refine⟨by kernel_rfl,λh1 I=>?_⟩;refine bF (c:=fc "_grouper.__next__" w7 oh 208 207 a) 196816526358780549810432089775132623415005268543311059711124928246577638877990358833972748366962169271807566482278424478206121567896247851072618698 (by kernel_rfl) (by kernel_rfl) (by kernel_rfl) (cB I.gx) ?_;refine aX hz 123 0 I (by kernel_rfl) rfl (b0 ?_);intro Z;refine⟨by kernel_rfl,λh2 I=>?_⟩;refine c7 (c:=.call (.builtin "int.__ne__") ⟨[.int n tn',.int n tn],[]⟩) (by kernel_rfl) (l7 ?_);refine aX hz (C:=Cf.re _ _ _ _ 1356453377464819565123078481579998666984272720158896314645298815999233063179484397706) 69 1 I (by kernel_rfl) rfl λb=>b0 ?_;intro Z;refine⟨by kernel_rfl,λh3 I=>?_⟩;refine bF (c:=fc "groupby._step" w5 l9 156 155 b) 1195346522058125615676271256236092155602150755932693340864 (by kernel_rfl) (by kernel_rfl) (by kernel_rfl) (cB I.gx) ?_;refine aX hz 51 1 I (by kernel_rfl) rfl λc=>b0 ?_;intro Z;refine⟨by kernel_rfl,λh4 I=>?_⟩;refine bF (c:=fc "_pull" zW f6 119 118 c) 16564224 (by kernel_rfl) (by kernel_rfl) (by kernel_rfl) (cB I.gx) ?_;refine aX hz 10 0 I (by kernel_rfl) rfl (b0 ?_);intro Z;refine⟨by kernel_rfl,λh5 I=>?_⟩;refine c7 (c:=.call (.builtin "next") ⟨[.ref it],[]⟩) (by kernel_rfl) (l5 (I.at_ 0 it (bC l i) rfl (by kernel_rfl)) (isList_stays (I.bS M) hl) hi λh6 e6 k6=>?_);refine aX hz (C:=Cf.re _ _ _ (List.set _ 0 (bC l (i+1))) 5287683258237424092420940042112750538688830004905010965251512012225710317825826600639014527547805869179906537655588661992112276022604278179271085765266366684849300940827650667831206012477731600231355213) 182 5 (I.change (o:=bC l i) (i:=0) rfl (by kernel_rfl) (.inl (OH rfl)) k6 e6) (by kernel_rfl) rfl λd e f g h=>b0 ?_;intro Z;refine⟨by kernel_rfl,λh7 I=>?_⟩;refine bF (c:=fc "itemgetter.__call__" w8 zX 292 291 h) 5122693839865009927922701238345404976082687661848120577585820979579683323235146151409966276176012665848420810129506693240659240687357042019113996479207360873095900085071120011626108785553467901937132258215286552553641677236617743388884346174027127647927212586954982476192339772210439125077035417576842581548925657992649555714804691725528757284478560719768597445301684959628905989276113 (by kernel_rfl) (by kernel_rfl) (by kernel_rfl) (cB I.gx) ?_;refine aX hz 354 0 I (by kernel_rfl) rfl (b0 ?_);intro Z;refine⟨by kernel_rfl,λh8 I=>?_⟩;refine c7 (c:=.call (.ref 126) ⟨[.int k tk,.int k gv],[]⟩) (by kernel_rfl) (AJ I.gx z1 z2 z3 (by kernel_rfl) λh9 Gk k9=>?_);refine aX hz (C:=Cf.re _ _ Gk _ 4383609366297895727057614630357532923787107973068846555507289107876504464066427536036629321383241905399994483658690691195810712790199703654163842721890503718241620848891467560305988530693456825923920585141106502356354082610754484311271320408031370) 210 0 (I.keep k9) (by kernel_rfl) rfl (b0 ?_);intro Z;refine⟨by kernel_rfl,λh10 I=>?_⟩;refine dM (v:=.ref p0) (by kernel_rfl) (by kernel_rfl) ?_;exact hq _ _ (I.mv M) (I.at_ 2 gr _ rfl (by kernel_rfl)) (I.at_ 3 dr _ rfl (by kernel_rfl)) (I.at_ 0 it _ rfl (by kernel_rfl)) (I.at_ 1 gb _ rfl (by kernel_rfl)) (I.at_ 4 dg _ rfl (by kernel_rfl)) (I.at_ 5 tp _ rfl (by kernel_rfl)) (I.at_ 6 kf _ rfl (by kernel_rfl)) (I.at_ 7 dk _ rfl (by kernel_rfl)) (I.at_ 8 p0 _ rfl (by kernel_rfl))
theorem AK(hF:aU frs s.heap)(gU:∀b∈([it,gb,dg,tp,kf,dk,p0]:List Addr),b∉aS frs)(G:Gl w (hideAll s.heap ([it,gb,dg,tp,kf,dk,p0]++aS frs)))(o0:@LT.lt Nat _ dg gb)(o1:@LT.lt Nat _ gb it)(n0:gb≠tp)(n1:gb≠kf)(n2:gb≠dk)(n3:gb≠p0)(n4:it≠tp)(n5:it≠kf)(n6:it≠dk)(n7:it≠p0)(hl:(hideAll s.heap ([it,gb,dg,tp,kf,dk,p0]++aS frs)).IsList l xs)(hi:xs[i]?=some (.ref p0))(eE:∀p∈[(it,(bC l i:Obj)),(gb,(fH dg it kf (cg) (ck) (cv) false false false (.int n tn) (tg):Obj)),(dg,(emptyDict:Obj)),(tp,(rJ t0:Obj)),(kf,(rH dk tp:Obj)),(dk,(emptyDict:Obj)),(p0,(sH k gv v:Obj))],s.heap.get? p.1=some p.2)(hq:∀h' tz rE D gr dr,h'.get? D=some (sH k gv (.ref gr))->h'.get? gr=some (l6 dr gb (n+1) rE k gv)->h'.get? dr=some emptyDict->h'.get? it=some (bC l (i+1))->h'.get? gb=some (fH dg it kf (.int (n+1) rE) (.int k gv) (.ref p0) true true true (.int (n+1) rE) (.int k gv))->h'.get? dg=some (emptyDict)->h'.get? tp=some (rJ t0)->h'.get? kf=some (rH dk tp)->h'.get? dk=some (emptyDict)->h'.get? p0=some (sH k gv v)->Mv [it,gb,dg,tp,kf,dk,p0] s.heap h'->(∀p∈([it,gb,dg,tp,kf,dk,p0]:List Addr),@LT.lt Nat _ p dr)->@LT.lt Nat _ dr gr->@LT.lt Nat _ gr D->s.heap.get? D=none->s.heap.get? gr=none->s.heap.get? dr=none->Q (.ref D) (bp s h' tz)):
  wpAny (model pw w) (AA (frs.map (·.1)) gd) (call (.ref 163) [.ref gb] []) Q E s:=by
 have q:=Ez o0 o1;have M:eF [it,gb,dg,tp,kf,dk,p0] 2 [it,gb,dg,tp,kf,dk,p0]:=⟨by k_mem,by k_mem,trivial⟩;have I0:=ju (nw:=2) (ad:=[it,gb,dg,tp,kf,dk,p0]) (ob:=[bC l i,fH dg it kf cg ck cv false false false (.int n tn) tg,emptyDict,rJ t0,rH dk tp,emptyDict,sH k gv v]) G rfl M
  ⟨eE (it,_) (by k_mem),eE (gb,_) (by k_mem),eE (dg,_) (by k_mem),eE (tp,_) (by k_mem),eE (kf,_) (by k_mem),eE (dk,_) (by k_mem),eE (p0,_) (by k_mem),trivial⟩
  ⟨⟨q.1,q.2.1,n4.symm,n5.symm,n6.symm,n7.symm,trivial⟩,⟨q.2.2,n0.symm,n1.symm,n2.symm,n3.symm,trivial⟩,trivial⟩ rfl
 refine aR (qG w) λz hz=>?_;cases z<;>
 ·refine bH [bC l i,fH dg it kf cg ck cv false false false (.int n tn) tg,emptyDict,rJ t0,rH dk tp,emptyDict,sH k gv v] 2129920 ?_
  refine aX hz 7 1 I0 rfl rfl λa=>b0 ?_;intro Z;refine⟨by kernel_rfl,λh1 I=>?_⟩;refine bF (c:=fc "groupby.__next__" CV w6 163 162 a) 6488047086246532676828169518452641765953757045814598817420876069675235369930189222964309818596690593836107415010287258963494804914312 (by kernel_rfl) (by kernel_rfl) (by kernel_rfl) (cB I.gx) ?_;refine aX hz 114 1 I (by kernel_rfl) rfl λb=>b0 ?_;intro Z;refine⟨by kernel_rfl,λh3 I=>?_⟩;refine bF (c:=fc "groupby._step" w5 l9 156 155 b) 996122101745560064089686142706551961731714670048825057856 (by kernel_rfl) (by kernel_rfl) (by kernel_rfl) (cB I.gx) ?_;refine aX hz 51 1 I (by kernel_rfl) rfl λc=>b0 ?_;intro Z;refine⟨by kernel_rfl,λh4 I=>?_⟩;refine bF (c:=fc "_pull" zW f6 119 118 c) 16556032 (by kernel_rfl) (by kernel_rfl) (by kernel_rfl) (cB I.gx) ?_;refine aX hz 10 0 I (by kernel_rfl) rfl (b0 ?_);intro Z;refine⟨by kernel_rfl,λh5 I=>?_⟩;refine c7 (c:=.call (.builtin "next") ⟨[.ref it],[]⟩) (by kernel_rfl) (l5 (I.at_ 0 it (bC l i) rfl (by kernel_rfl)) (isList_stays (I.bS M) hl) hi λh6 e6 k6=>?_);refine aX hz (C:=Cf.re _ _ _ (List.set _ 0 (bC l (i+1))) 4665602874915374199189987832143040531898974389628025601514696254422310111407606838999763655176158600016646994435692240434279456347785557074214611731201644935953282387877977978240676610703744929131967179) 182 5 (I.change (o:=bC l i) (i:=0) rfl (by kernel_rfl) (.inl (OH rfl)) k6 e6) (by kernel_rfl) rfl λd e f g h=>b0 ?_;intro Z;refine⟨by kernel_rfl,λh7 I=>?_⟩;refine bF (c:=fc "itemgetter.__call__" w8 zX 292 291 h) 3068333514950899034073768466736996576368712801159129378166674893673520827118287301456133232906616574373790655711617200986630523158819584695981347159093009547812311467750254713473474339618834328448487180607285239625841433409478484120572571475613227066097902802030757292953611735775417604910741930946207693018644429157598815477844673202148807361852734027005510124448715097120094866233288772134794949062254157541155606814736536914402012194756646496216781149787012859307542340388388466878063487511730542078509862013417494111199603443921309789457845929645190646193511237620715735164673278222968312003194842085161969658433106561570887177084122794282142662991 (by kernel_rfl) (by kernel_rfl) (by kernel_rfl) (cB I.gx) ?_;refine aX hz 576 3 I (by kernel_rfl) rfl λdr gr j=>b0 ?_;intro Z;refine⟨by kernel_rfl,λh8 I=>?_⟩;refine bF (c:=fc "_grouper.__init__" CX CY 194 193 j) 1074575987521586106769533525091818328085097560192852987227477997736569588346479337801614017160058728892591887208404529662340413167338708379174530403921335675074735823602799105212065976403507115159125299825290303361119058274541178428866173053615636003970099518954233880518498061548157159292313204764543367159369163803343523709153438855288080389663093404102477460537961262554344358772962094046489571647412783210263767461165847341293051113271523352576 (by kernel_rfl) (by kernel_rfl) (by kernel_rfl) (cB I.gx) ?_;refine aX hz 389 1 I (by kernel_rfl) rfl λD=>b0 ?_;intro Z;refine⟨by kernel_rfl,λh10 I=>?_⟩;refine dM (v:=.ref D) (by kernel_rfl) (by kernel_rfl) ?_;refine hq _ _ (s.toks+38) D gr dr (I.at_ 18 D _ rfl (by kernel_rfl)) (I.at_ 16 gr _ rfl (by kernel_rfl)) (I.at_ 15 dr _ rfl (by kernel_rfl)) (I.at_ 0 it _ rfl (by kernel_rfl)) (I.at_ 1 gb _ rfl (by kernel_rfl)) (I.at_ 2 dg _ rfl (by kernel_rfl)) (I.at_ 3 tp _ rfl (by kernel_rfl)) (I.at_ 4 kf _ rfl (by kernel_rfl)) (I.at_ 5 dk _ rfl (by kernel_rfl)) (I.at_ 6 p0 _ rfl (by kernel_rfl)) (I.mv M) ?_
   (I.lt 15 16 rfl rfl (by kernel_rfl) rfl rfl) (I.lt 16 18 rfl rfl (by kernel_rfl) rfl rfl) (I.fresh 18 rfl (by kernel_rfl) rfl) (I.fresh 16 rfl (by kernel_rfl) rfl) (I.fresh 15 rfl (by kernel_rfl) rfl)
  exact yq ⟨I.lt 0 15 rfl rfl (by kernel_rfl) rfl rfl,I.lt 1 15 rfl rfl (by kernel_rfl) rfl rfl,I.lt 2 15 rfl rfl (by kernel_rfl) rfl rfl,I.lt 3 15 rfl rfl (by kernel_rfl) rfl rfl,I.lt 4 15 rfl rfl (by kernel_rfl) rfl rfl,I.lt 5 15 rfl rfl (by kernel_rfl) rfl rfl,I.lt 6 15 rfl rfl (by kernel_rfl) rfl rfl,trivial⟩
theorem EB(hF:aU frs s.heap)(gU:∀b∈([it,gb,dg]:List Addr),b∉aS frs)(G:Gl w (hideAll s.heap ([it,gb,dg]++aS frs)))(o0:@LT.lt Nat _ dg gb)(o1:@LT.lt Nat _ gb it)(z1:tk≠0)(z2:gv≠0)(z3:tk≠gv)(z4:kk≠k)(eE:∀p∈[(it,(bC l i:Obj)),(gb,(fH dg it kf (cg) (.int k gv) (cv) true hv true (.int n tn) (.int kk tk):Obj)),(dg,(emptyDict:Obj))],s.heap.get? p.1=some p.2)(hq:∀h' tz rE D gr dr,h'.get? D=some (sH k gv (.ref gr))->h'.get? gr=some (l6 dr gb (n+1) rE k gv)->h'.get? dr=some emptyDict->h'.get? it=some (bC l i)->h'.get? gb=some (fH dg it kf (.int (n+1) rE) (.int k gv) (cv) true hv true (.int (n+1) rE) (.int k gv))->h'.get? dg=some (emptyDict)->Mv [it,gb,dg] s.heap h'->(∀p∈([it,gb,dg]:List Addr),@LT.lt Nat _ p dr)->@LT.lt Nat _ dr gr->@LT.lt Nat _ gr D->s.heap.get? D=none->s.heap.get? gr=none->s.heap.get? dr=none->Q (.ref D) (bp s h' tz)):
  wpAny (model pw w) (AA (frs.map (·.1)) gd) (call (.ref 163) [.ref gb] []) Q E s:=by
 have q:=Ez o0 o1;have M:eF [it,gb,dg] 1 [gb,it,dg]:=⟨by k_mem,trivial⟩;have I0:=ju (nw:=1) (ad:=[gb,it,dg]) (ob:=[fH dg it kf cg (.int k gv) cv true hv true (.int n tn) (.int kk tk),bC l i,emptyDict]) G rfl M
  ⟨eE (gb,_) (by k_mem),eE (it,_) (by k_mem),eE (dg,_) (by k_mem),trivial⟩ ⟨⟨q.1.symm,q.2.2,trivial⟩,trivial⟩ rfl
 refine aR (qG w) λz hz=>?_;cases z<;>
 ·refine bH [fH dg it kf cg (.int k gv) cv true hv true (.int n tn) (.int kk tk),bC l i,emptyDict] 1064960 ?_
  refine aX hz 7 1 I0 rfl rfl λa=>b0 ?_;intro Z;refine⟨by kernel_rfl,λh1 I=>?_⟩;refine bF (c:=fc "groupby.__next__" CV w6 163 162 a) 105021634400521650802492028394332128439338202281479410040185357113017279872913019311082155767728042321567564154263017220454145718148142305490001063976575487512370607682932589612304511306287402858647389382192823694596536376314645765724288581700 (by kernel_rfl) (by kernel_rfl) (by kernel_rfl) (cB I.gx) ?_;refine aX hz 202 0 I (by kernel_rfl) rfl (b0 ?_);intro Z;refine⟨by kernel_rfl,λh8 I=>?_⟩;refine c7 (c:=.call (.ref 126) ⟨[.int kk tk,.int k gv],[]⟩) (by kernel_rfl) (uQ I.gx z4 z1 z2 z3 (by kernel_rfl) λh9 Gk k9=>?_);refine aX hz (C:=Cf.re _ _ Gk _ 60108177763894334477623544700513921174577918318156085252624793483467131483194917434942173544276314809274448014315000776780193425378099807839135999027162931719639533680509520187242496387637635056223614082066241907220424925165341782447260146124621113260400897107783894171716) 223 3 (I.keep k9) (by kernel_rfl) rfl λdr gr j=>b0 ?_;intro Z;refine⟨by kernel_rfl,λh10 I=>?_⟩;refine bF (c:=fc "_grouper.__init__" CX CY 194 193 j) 537287993760793053384766762545909164042548780096426493613738998868284794173239668900807008580029364323951288618508125887105419145257900571315637713713517713369614535219176160418669327824652375014401989656829220277832817983709058728803345479631852403849932599288987769274831398831495436705077864597092873694700730841814050891964812513709306795817910878963092459304075752792259889235252052161051700596226264292563458978991098779891118758609480347648 (by kernel_rfl) (by kernel_rfl) (by kernel_rfl) (cB I.gx) ?_;refine aX hz 389 1 I (by kernel_rfl) rfl λD=>b0 ?_;intro Z;refine⟨by kernel_rfl,λh10 I=>?_⟩;refine dM (v:=.ref D) (by kernel_rfl) (by kernel_rfl) ?_;refine hq _ _ (Gk+11) D gr dr (I.at_ 7 D _ rfl (by kernel_rfl)) (I.at_ 5 gr _ rfl (by kernel_rfl)) (I.at_ 4 dr _ rfl (by kernel_rfl)) (I.at_ 1 it _ rfl (by kernel_rfl)) (I.at_ 0 gb _ rfl (by kernel_rfl)) (I.at_ 2 dg _ rfl (by kernel_rfl)) (I.mv M) ?_
   (I.lt 4 5 rfl rfl (by kernel_rfl) rfl rfl) (I.lt 5 7 rfl rfl (by kernel_rfl) rfl rfl) (I.fresh 7 rfl (by kernel_rfl) rfl) (I.fresh 5 rfl (by kernel_rfl) rfl) (I.fresh 4 rfl (by kernel_rfl) rfl)
  exact yq ⟨I.lt 1 4 rfl rfl (by kernel_rfl) rfl rfl,I.lt 0 4 rfl rfl (by kernel_rfl) rfl rfl,I.lt 2 4 rfl rfl (by kernel_rfl) rfl rfl,trivial⟩
end
noncomputable abbrev Cd(B:List Stmt)(env:Env):Sem Fin:=PySem.W.R.bindR (PySem.W.Fast.tw12563942051412417395 B env) λf=>Sem.pure (Fin.done f)
def Shell(prog:Program)(w:World)(A:Around)(env:Env)(P:Result->Shared->Prop):Result->Shared->Prop:=λr s=>match r with
 | .ok f=>P (.ok (.ret (oN f))) s
 | .error e=>wpAny (model prog w) (A.deeper env) (leaving env e) (λ_ s'=>P (.error e) s') (λe' s'=>P (.error e') s') s
theorem oF{M:Model}{c:Code}{m:Sem α}{k:Value->Sem Unit}{Q:α->Shared->Prop}(h:wpOwn M A c m Q (λe s'=>wpOwn M A c (k e) (λ_ eA=>E e eA) E s') s):wpOwn M A c (m.onRaise k) Q E s:=λΓ p hc hΓ=>by rw[Sem.wp_onRaise];exact Sem.wp_mono M Γ m (λ_ _ _ h'=>h') (λe p' s' h'=>h' Γ p' hc hΓ) p s (h Γ p hc hΓ)
theorem mW{B:List Stmt}(ct:Nat)(ht:C.t=PySem.W.R.bindR (PySem.W.Fast.tw15066281185411960212 0) λ_=>.pure (.again (.func B env)))(hd:Nat.blt (C.A.under C.c).depth recursionLimit=true)(hn:s.heap.NoLimit)(h:fg prog w (Shell prog w C.A env (post prog w R C.fs)) ⟨C.A,.func B env,Cd B env,[],C.tk,C.ob,[],ct⟩ s):fg prog w R C s:=by
 unfold fg at h ⊢;rw[ht,<-PySem.W.Fast.te15066281185411960212,<-PySem.W.R.bindR_eq];refine wpOwn_bind (m:=enterFrame) (wpOwn_of_wpAny (wpAny_enterFrame hn (OH hd) ?_));refine y_pure _ prog w _ _ _ _ _ _ (y_again prog w _ _ _ (.func B env) rfl (y_code prog w _ _ _ (.func B env) ?_));show wpOwn _ _ _ (do point;match <-(execs B env).onRaise (leaving env) with| .ret v=>ret v|_=>ret .none) _ _ _;refine wpOwn_bind (m:=point) (wpOwn_of_wpAny (wpAny_point ?_));refine wpOwn_bind (m:=(execs B env).onRaise (leaving env)) (oF λΓ p hc hΓ=>?_);unfold Cd at h;rw[<-PySem.W.R.bindR_eq,<-PySem.W.Fast.te12563942051412417395] at h;have q:=h Γ p hc hΓ;dsimp only at q;rw[Sem.wp_bind] at q;refine Sem.wp_mono _ Γ _ (λf p' s' z=>?_) (λe p' s' z=>?_) p s q
 ·have z:post prog w R C.fs (.ok (.ret (oN f))) s':=z
  cases f<;>exact λ_ _ _ _=>z
 ·exact wpOwn_of_wpAny z
noncomputable abbrev stO(t:Addr):Obj:={cls:=.type "StopIteration",data:=.fields #[.ref t,.none,.none,.none,.bool false,.none]}
noncomputable abbrev tp0:Obj:={cls:=.type "tuple",data:=.seq #[]}
theorem rL{Mo:Model}{e t:Addr}{P:Value->Shared->Prop}(hA:A.frames=some (env::frs.map (·.1)))(hk:env.scope.kind≠.module)(hf:env.frame=some env.locals)(hL:s.heap.Ns env.locals m)(hF:aU frs s.heap)(mv:∀b o,b∉M->b∉aS frs->h0.get? b=some o->s.heap.get? b=some o)(us:kj frs h0 s.heap)(he:s.heap.get? e=some (stO t))(ht:s.heap.get? t=some tp0)(ne:h0.get? e=none)(nt:h0.get? t=none)(nL:h0.get? env.locals=none)(hQ:∀h' B t',(hideAll h0 (M++aS frs)).StaysIn B->Heap.FlyingW B (frs.map (·.1)) e (.type "StopIteration") (.ref t') h'->aU frs h'->kj frs h0 h'->(∀b o dG,h0.get? b=some dG->b∉aS frs->s.heap.get? b=some o->B.get? b=some o)->P (.ref e) {s with heap:=h'}):
  wpAny Mo A (leaving env (.ref e)) (λ_ s'=>P (.ref e) s') (λe' s'=>P e' s') s:=by
 have F:aU ((env,m)::frs) s.heap:=λp hp=>by
  rcases OA hp with j2|hp<;>(first|(replace j2:=OK j2;subst j2)|skip)
  ·exact⟨hk,hf,hL⟩
  ·exact hF p hp
 have Fh:aU ((env,m)::frs) (hideAll s.heap [e,t]):=λp hp=>by
  refine du (F p hp) λa b j1=>bf j1 λo es ep ho hd r=>?_;clear j1;refine⟨a,b,o,es,ep,OO _ ho λq=>?_,hd,r⟩;rcases OA q with q|q
  ·rw[q,he] at ho;cases ho;cases hd
  ·rw[List.mem_singleton.mp q,ht] at ho;cases ho;cases hd
 have old:∀b dG,h0.get? b=some dG->b∉aS frs->b∉[e,t]/\b∉aS ((env,m)::frs):=λb dG dE hb=>by
  refine⟨λq=>?_,λq=>?_⟩
  ·rcases OA q with q|q
   ·rw[q,ne] at dE;cases dE
   ·rw[List.mem_singleton.mp q,nt] at dE;cases dE
  ·rcases OA q with q|q
   ·rw[show b=env.locals from q,nL] at dE;cases dE
   ·exact hb q
 refine wpAny_leaves_madeW (base:=hideAll (hideAll s.heap [e,t]) (aS ((env,m)::frs))) hA hf (λ_ _ q=>OW _ q) Fh.xA ⟨λ_ _ q=>OW _ q,Oo _ (.head _),t,he,Oo _ (.tail _ (.head _)),ht⟩ λh' t' x1 x2 x3 x4=>?_;have up:(hideAll h0 (M++aS frs)).StaysIn (hideAll (hideAll s.heap [e,t]) (aS ((env,m)::frs))):=λb o q=>by
  have q0:=OW _ q;have qm:b∉M++aS frs:=λhm=>by rw[hideAll_none _ hm] at q;cases q
  have q2:=old b o q0 λhm=>qm (OP _ hm);exact OO _ (OO _ (mv b o (λhm=>qm (OJ _ hm)) (λhm=>qm (OP _ hm)) q0) q2.1) q2.2
 exact hQ h' _ t' up x1 (aU.slots hF x4) (us.trans (.up x4)) λb o dG dE hb q=>OO _ (OO _ q (old b dG dE hb).1) (old b dG dE hb).2
theorem kF{e:Value}(ht:C.t = .raise e)(hf:C.fs=[])(q:R (.error e) s):fg prog w R C s:=by unfold fg;rw[ht,hf];exact y_raise _ prog w _ _ _ _ _ _ (y_err _ _ e q)
theorem kG{fs:List XF}{e:Value}(hfs:fs=[])(h:wpAny (model prog w) (A.deeper env) (leaving env e) (λ_ s'=>E e s') (λe' s'=>E e' s') s):Shell prog w A env (post prog w (IS Q E) fs) (.error e) s:=by rw[hfs];exact h
noncomputable def dcO:Obj->Option (Array DictEntry)
 | ⟨_,_,.dict es _,_⟩=>some es
 |_=>none
theorem EC{es:Array DictEntry}:dcO o=some es->∃ep,o.data = .dict es ep:=by
 rcases o with⟨c,d,da,sl⟩;cases da with
 |dict es' ep=>exact λh=>⟨ep,by cases h;rfl⟩
 |_=>exact iP
theorem fj.frame{ad:List Addr}{ob:List Obj}(I:fj F h₀ nw n0 ad ob h)(i:Nat){a:Addr}(ha:ad[i]?=some a)(hb:((ob[i]?).bind dcO).any mR=true):∃m,h.Ns a m:=by refine ar ((Option.any_eq_true _ _).mp hb) λes e k=>?_;refine ar (Option.bind_eq_some_iff.mp e) λo q e=>?_;refine aR (EC e) λep e=>?_;exact⟨nsFind es,_,_,_,I.at_ i a o ha q,e,keys_str k,λ_=>rfl⟩
theorem fj.yu{ad:List Addr}{ob:List Obj}(I:fj F h₀ nw n0 ad ob h){e:Addr}(q:h.get? e=none):h₀.get? e=none:=by
 cases z:h₀.get? e with
 |none=>rfl
 |some o=>refine aR (I.cE _ _ z) λo' e'=>?_;rw[q] at e';cases e'
noncomputable def uR(sg:Setting)(C:Cf):Option Cf:=cond (Nat.beq (kd C.t) 2) (stepT (λ_=>none) sg 0 0 [] C C.t) none
noncomputable def exQ(sg:Setting):Nat->Cf->Cf
 |0,C=>C
 |n+1,C=>match uR sg C with
  |some C'=>exQ sg n C'
  |none=>C
theorem yw{sg:Setting}(h:uR sg C=some C')(hc:fg prog w R C' s):fg prog w R C s:=by
 unfold uR at h;cases q:Nat.beq (kd C.t) 2 with
 |false=>rw[q] at h;exact iP h
 |true=>
  rw[q] at h;have no:∀{T:Sem Fin}{P:Prop},C.t=T->Nat.beq (kd T) 2=false->P:=λe z=>by rw[<-e,q] at z;cases z
  refine (mQ h).casesOn (λf e _=>no e rfl) (λc e _ _=>no e rfl) (λx e h=>?_) (λu k e h=>dh e λΓ p a b=>(h▸hc) Γ p a b) (λu k e h=>dh e λΓ p a b=>(h▸hc) Γ u a b) (λu k e h=>dh e λΓ p a b=>(h▸hc) Γ p a b) (λk e _=>no e rfl) (λk e _=>no e rfl) (λk e _=>no e rfl)
   (λa p k e _=>no e rfl) (λa p f k e _=>no e rfl) (λo k e _=>no e rfl) (λc hd g l k e _ _=>no e rfl)
  refine aN (tj h) λF fs e1 e2=>?_;rw[e2] at hc;refine dh e (y_raise _ prog w _ _ _ _ _ _ (y_err _ _ x ?_));rw[e1];exact hc
theorem ED(sg:Setting):∀(n:Nat){C:Cf},fg prog w R (exQ sg n C) s->fg prog w R C s:=by
 intro n;induction n with
 |zero=>exact λh=>h
 |succ n ih=>
  intro C h;unfold exQ at h;cases e:uR sg C with
  |none=>rw[e] at h;exact h
  |some C'=>rw[e] at h;exact yw e (ih h)
theorem yx(hF:aU frs h0)(hM:∀b∈M,b∉aS frs)(k:∀b o,b∉M->h0.get? b=some o->h.get? b=some o)(nL:h0.get? env.locals=none)(hm:h.Ns env.locals m)(hk:env.scope.kind≠.module)(hf:env.frame=some env.locals)(hs:∀b∈M',b∈M)(hx:∀b∈M',∃o,h0.get? b=some o):
  aU ((env,m)::frs) h/\(∀b∈M',b∉aS ((env,m)::frs))/\(hideAll h0 (M++aS frs)).StaysIn (hideAll h (M'++aS ((env,m)::frs))):=by
 have old:∀{b:Addr}{o:Obj},h0.get? b=some o->b≠env.locals:=λe z=>by rw[z,nL] at e;cases e
 refine⟨λp hp=>?_,λb hb kH=>?_,λb o e=>OO _ (k b o (λkH=>?_) (OW _ e)) λkH=>?_⟩
 ·rcases OA hp with j1|hp<;>(first|(replace j1:=OK j1;subst j1)|skip)
  ·exact⟨hk,hf,hm⟩
  ·exact hF.mv hM k p hp
 ·rcases OA kH with z|z
  ·refine aR (hx b hb) λo e=>?_
   exact old e z
  ·exact hM b (hs b hb) z
 ·rw[hideAll_none _ (List.mem_append_left _ kH)] at e;cases e
 ·rcases OG kH with z|z
  ·rw[hideAll_none _ (List.mem_append_left _ (hs b z))] at e;cases e
  ·rcases OA z with z|z
   ·exact old (OW _ e) z
   ·rw[hideAll_none _ (List.mem_append_right _ z)] at e;cases e
section
variable{xs:Array Value}{n:Int}{tk:Tok}
theorem AL(hF:aU frs s.heap)(gU:∀b∈([gr,dr,it,gb,dg,tp,kf,dk,p0]:List Addr),b∉aS frs)(G:Gl w (hideAll s.heap ([gr,dr,it,gb,dg,tp,kf,dk,p0]++aS frs)))(o0:@LT.lt Nat _ dg gb)(o1:@LT.lt Nat _ gb it)(o2:@LT.lt Nat _ it dr)(o3:@LT.lt Nat _ dr gr)(n0:gb≠tp)(n1:gb≠kf)(n2:gb≠dk)(n3:gb≠p0)(n4:it≠tp)(n5:it≠kf)(n6:it≠dk)(n7:it≠p0)(z1:tk≠0)(z2:gv≠0)(z3:tk≠gv)(z4:kk≠k)(hl:(hideAll s.heap ([gr,dr,it,gb,dg,tp,kf,dk,p0]++aS frs)).IsList l xs)(hi:xs[i]?=some (.ref p0))(eE:∀p∈[(gr,(l6 dr gb n tn kk tk:Obj)),(dr,(emptyDict:Obj)),(it,(bC l i:Obj)),(gb,(fH dg it kf (.int n tn') (ck) (cv) false false ht (se) (tg):Obj)),(dg,(emptyDict:Obj)),(tp,(rJ t0:Obj)),(kf,(rH dk tp:Obj)),(dk,(emptyDict:Obj)),(p0,(sH k gv v:Obj))],s.heap.get? p.1=some p.2)(hE:∀h' tz e,lC frs [gr,dr,it,gb,dg,tp,kf,dk,p0] e s.heap h'->h'.get? gr=some (l6 dr gb n tn kk tk)->h'.get? dr=some (emptyDict)->h'.get? it=some (bC l (i+1))->h'.get? gb=some (fH dg it kf (.int n tn') (.int k gv) (.ref p0) true true ht (se) (tg))->h'.get? dg=some (emptyDict)->h'.get? tp=some (rJ t0)->h'.get? kf=some (rH dk tp)->h'.get? dk=some (emptyDict)->h'.get? p0=some (sH k gv v)->E (.ref e) {s with heap:=h',toks:=tz}):
  wpAny (model pw w) (AA (frs.map (·.1)) gd) (call (.ref 208) [.ref gr] []) Q E s:=by
 have q:=Jf o0 o1 o2 o3;have M:eF [gr,dr,it,gb,dg,tp,kf,dk,p0] 2 [it,gb,gr,dr,dg,tp,kf,dk,p0]:=⟨by k_mem,by k_mem,trivial⟩;have I0:=ju (nw:=2) (ad:=[it,gb,gr,dr,dg,tp,kf,dk,p0]) (ob:=[bC l i,fH dg it kf (.int n tn') ck cv false false ht se tg,l6 dr gb n tn kk tk,emptyDict,emptyDict,rJ t0,rH dk tp,emptyDict,sH k gv v]) G rfl M ⟨eE (it,_) (by k_mem),eE (gb,_) (by k_mem),eE (gr,_) (by k_mem),eE (dr,_) (by k_mem),eE (dg,_) (by k_mem),eE (tp,_) (by k_mem),eE (kf,_) (by k_mem),eE (dk,_) (by k_mem),eE (p0,_) (by k_mem),trivial⟩
  ⟨⟨q.1.1,q.1.2.1,q.1.2.2.1,q.1.2.2.2,n4.symm,n5.symm,n6.symm,n7.symm,trivial⟩,⟨q.2.1,q.2.2.1,q.2.2.2,n0.symm,n1.symm,n2.symm,n3.symm,trivial⟩,trivial⟩ rfl
 refine aR (qG w) λz hz=>?_;cases z<;>
 ·refine bH [bC l i,fH dg it kf (.int n tn') ck cv false false ht se tg,l6 dr gb n tn kk tk,emptyDict,emptyDict,rJ t0,rH dk tp,emptyDict,sH k gv v] 2662400 ?_
  refine aX hz 7 1 I0 rfl rfl λa=>b0 ?_;intro Z1;refine⟨by kernel_rfl,λh1 I=>?_⟩;refine mW (B:=w7) (env:=envOf (Str.ofString "_grouper.__next__") oh a 208 (.ref 207)) 196816526358780549810432089775132623415005268543311059711124928246577638877990358833972748366962169271807566482278424478206121567896247851072618698 (by kernel_rfl) (by kernel_rfl) (cB I.gx) ?_;refine aX hz 123 0 I (by kernel_rfl) rfl (b0 ?_);intro Z;refine⟨by kernel_rfl,λh2 I=>?_⟩;refine c7 (c:=.call (.builtin "int.__ne__") ⟨[.int n tn',.int n tn],[]⟩) (by kernel_rfl) (l7 ?_);refine aX hz (C:=Cf.re _ _ _ _ 1356453377464819565123078481579998666984272720158896314645298815999233063179484397706) 69 1 I (by kernel_rfl) rfl λb=>b0 ?_;intro Z;refine⟨by kernel_rfl,λh3 I=>?_⟩;refine bF (c:=fc "groupby._step" w5 l9 156 155 b) 1195346522058125615676271256236092155602150755932693340864 (by kernel_rfl) (by kernel_rfl) (by kernel_rfl) (cB I.gx) ?_;refine aX hz 51 1 I (by kernel_rfl) rfl λc=>b0 ?_;intro Z;refine⟨by kernel_rfl,λh4 I=>?_⟩;refine bF (c:=fc "_pull" zW f6 119 118 c) 16564224 (by kernel_rfl) (by kernel_rfl) (by kernel_rfl) (cB I.gx) ?_;refine aX hz 10 0 I (by kernel_rfl) rfl (b0 ?_);intro Z;refine⟨by kernel_rfl,λh5 I=>?_⟩;refine c7 (c:=.call (.builtin "next") ⟨[.ref it],[]⟩) (by kernel_rfl) (l5 (I.at_ 0 it (bC l i) rfl (by kernel_rfl)) (isList_stays (I.bS M) hl) hi λh6 e6 k6=>?_);refine aX hz (C:=Cf.re _ _ _ (List.set _ 0 (bC l (i+1))) 5287683258237424092420940042112750538688830004905010965251512012225710317825826600639014527547805869179906537655588661992112276022604278179271085765266366684849300940827650667831206012477731600231355213) 182 5 (I.change (o:=bC l i) (i:=0) rfl (by kernel_rfl) (.inl (OH rfl)) k6 e6) (by kernel_rfl) rfl λd e f g h=>b0 ?_;intro Z;refine⟨by kernel_rfl,λh7 I=>?_⟩;refine bF (c:=fc "itemgetter.__call__" w8 zX 292 291 h) 5122693839865009927922701238345404976082687661848120577585820979579683323235146151409966276176012665848420810129506693240659240687357042019113996479207360873095900085071120011626108785553467901937132258215286552553641677236617743388884346174027127647927212586954982476192339772210439125077035417576842581548925657992649555714804691725528757284478560719768597445301684959628905989276113 (by kernel_rfl) (by kernel_rfl) (by kernel_rfl) (cB I.gx) ?_;refine aX hz 354 0 I (by kernel_rfl) rfl (b0 ?_);intro Z;refine⟨by kernel_rfl,λh8 I=>?_⟩;refine c7 (c:=.call (.ref 126) ⟨[.int kk tk,.int k gv],[]⟩) (by kernel_rfl) (uQ I.gx z4 z1 z2 z3 (by kernel_rfl) λh9 Gk k9=>?_);refine aX hz (C:=Cf.re _ _ Gk _ 258048) 7 0 (I.keep k9) (by kernel_rfl) rfl (b0 ?_);intro Z;refine⟨by kernel_rfl,λh10 I=>?_⟩;refine c7 (c:=.call (.type "StopIteration") ⟨[],[]⟩) (by kernel_rfl) (owsi_call owsi_facts λh11 ex X=>?_);refine bl X.there λta he nt hta=>?_;refine aX hz (C:=Cf.re _ _ Z.tk [stO ta] 266305) 40 0 (ir (I.gx.keeps X.keeps) [ex] [stO ta] ⟨he,trivial⟩) rfl rfl (b0 ?_);intro Y;refine⟨by kernel_rfl,λh12 J=>?_⟩;refine kF (e:=.ref ex) (by kernel_rfl) (by kernel_rfl) (kG (by kernel_rfl) ?_);refine aR (I.frame 9 (a:=a) rfl (by kernel_rfl)) λm hm=>?_;have k12:∀{b:Addr}{o:Obj},h10.get? b=some o->h12.get? b=some o:=λq=>J.stays _ _ (X.keeps _ _ q);refine rL (frs:=frs) (m:=m) (M:=[gr,dr,it,gb,dg,tp,kf,dk,p0]) (h0:=s.heap) (by kernel_rfl) (by show oh.kind≠_;decide) rfl (by refine aV hm λo es ep ho r=>⟨o,es,ep,k12 ho,r⟩) (hF.mv gU λb o hb q=>k12 (I.mv M b o hb q)) (λb o hb _ q=>k12 (I.mv M b o hb q)) (.same λb o hb q=>k12 (I.mv M b o (λhm=>gU b hm hb) q)) (J.stays _ _ he) (J.stays _ _ hta) (I.yu X.new) (I.yu nt) (I.fresh 9 rfl (by kernel_rfl) rfl) λh' BB t' up wi F6 U6 old=>?_;have at_:∀b o,(∃dG,(b,dG)∈[(gr,(l6 dr gb n tn kk tk:Obj)),(dr,(emptyDict:Obj)),(it,(bC l i:Obj)),(gb,(fH dg it kf (.int n tn') (ck) (cv) false false ht (se) (tg):Obj)),(dg,(emptyDict:Obj)),(tp,(rJ t0:Obj)),(kf,(rH dk tp:Obj)),(dk,(emptyDict:Obj)),(p0,(sH k gv v:Obj))])->h10.get? b=some o->h'.get? b=some o:=λb o ⟨dG,mm⟩ q=>
   wi.1 b o (old b o dG (eE _ mm) (gU b (OE (f:=Prod.fst) mm)) (k12 q))
  exact hE _ _ _ ⟨⟨t',flyingW_base up wi⟩,U6,F6⟩ (at_ _ _ ⟨_,by k_mem⟩ (I.at_ 2 gr _ rfl (by kernel_rfl))) (at_ _ _ ⟨_,by k_mem⟩ (I.at_ 3 dr _ rfl (by kernel_rfl))) (at_ _ _ ⟨_,by k_mem⟩ (I.at_ 0 it _ rfl (by kernel_rfl))) (at_ _ _ ⟨_,by k_mem⟩ (I.at_ 1 gb _ rfl (by kernel_rfl))) (at_ _ _ ⟨_,by k_mem⟩ (I.at_ 4 dg _ rfl (by kernel_rfl))) (at_ _ _ ⟨_,by k_mem⟩ (I.at_ 5 tp _ rfl (by kernel_rfl))) (at_ _ _ ⟨_,by k_mem⟩ (I.at_ 6 kf _ rfl (by kernel_rfl))) (at_ _ _ ⟨_,by k_mem⟩ (I.at_ 7 dk _ rfl (by kernel_rfl))) (at_ _ _ ⟨_,by k_mem⟩ (I.at_ 8 p0 _ rfl (by kernel_rfl)))
end
noncomputable abbrev ew(i:Nat):Obj:={cls:=.type "list_iterator",data:=.fields #[.none,.int i 0]}
theorem AM(hh:A.handled=none)(hit:s.heap.get? it=some (bC l i))(hl:s.heap.IsList l items)(hx:items[i]?=none)(hE:∀h₁ h' e,h₁.get? it=some (ew i)->Heap.SameBut it s.heap h₁->Heap.MadeExc h₁ h' e "StopIteration" []->E (.ref e) {s with heap:=h'}):
  wpAny (model prog w) A (call (.builtin "next") [.ref it]) Q E s:=by
 have hI:s.heap.IsListIter it l i:=⟨_,hit,rfl,rfl⟩;refine bl hl λol Gf _ j1=>aR j1 λnl hdl=>?_;clear hl j1;refine call_function_entry (by decide+kernel) (by decide+kernel) kdk_entry_next (kdk_args_next _) ?_;unfold Builtin.«next»;refine J' (m:=someArgs "next" 1 2 _) (wpAny_of_eq (a:=[Value.ref it]) (by first|rfl|kernel_rfl!) ?_);dsimp only;refine J' (wpAny_specialOf (name:=Str.ofString "__next__") hI.typeIs slot_listiter_next.lookup ?_);refine wpAny_ite_split (λnY=>absurd nY (by decide)) (λ_=>?_);refine J' (wpAny_callSpecial?_slot (name:=Str.ofString "__next__") hI.typeIs slot_listiter_next
  (wpAny_call_entry slot_listiter_next hI.typeIs entry_listiter_next ?_ (args_listiter_next _)))
 show wpAny _ _ (field (.ref it) 0 >>= _) _ _ s;refine J' (Ov hit rfl (x:=.ref l) rfl ?_);show wpAny _ _ (if (Value.ref l==Value.none)=true then _ else _) _ _ s;rw[if_neg (show ¬((Value.ref l==Value.none)=true) from Bool.false_ne_true)];show wpAny _ _ (field (.ref it) 1 >>= _) _ _ s;refine J' (Ov hit rfl (x:=.int i 0) rfl ?_);show wpAny _ _ (seqItems? (.ref l) >>= _) _ _ s;refine J' (PB Gf hdl ?_);simp only[Int.toNat_natCast,hx];refine J' (PI (J' (wpAny_setField hit rfl (by simp) ?_)));show wpAny _ _ (newExc (.type "StopIteration") [] >>= _) _ _ _;refine J' ?_;simp only[newExc,newTuple];refine J' (O5 ?_ (by size_fits));refine J' (m:=firstArgMember _ _) (wpAny_of_eq (a:=Value.none) (by first|rfl| (simp only[firstArgMember];rfl)) ?_);refine O5 ?_ (by size_fits);simp only[raiseNew];refine J' (wpAny_handled ?_);first|rw[show A.in1.handled=none from hh]|rw[hh]
 refine J' (OD (wpAny_throw ?_));have self:(s.heap.update it (Obj.mapFields (·.setIfInBounds 0 Value.none))).get? it=some (ew i):=by rw[Heap.get?_update_self _ hit rfl];rfl
 refine hE _ _ _ self (Heap.SameBut.update ..) ⟨λb o e=>K' _ (K' _ e),OL (by rw[Heap.size_push];exact Nat.le_succ _),_,?_,OL (OM _),?_⟩
 ·exact OC _ rfl
 ·exact K' _ (OC _ rfl)
theorem rM:isSubtype (.type "StopIteration") (.type "BaseException")=pure true:=by rw[isSubtype_type];kernel_rfl
theorem lD:isSubtype (.type ((Manifest.find? "StopIteration").elim "type" λx=>x.metatype)) (.type "tuple")=pure false:=by rw[isSubtype_type];kernel_rfl
theorem yy:isSubtype (.type "StopIteration") (.type "StopIteration")=pure true:=by rw[isSubtype_type];kernel_rfl
theorem Ce:bootBuiltins (Str.ofString "StopIteration")=some (.type "StopIteration"):=by decide+kernel
section
variable{xs:Array Value}
theorem wj(hA:A.frames=some (frs.map (·.1)))(hh:A.handled=none)(hd:A.depth+2<recursionLimit)(hF:aU frs s.heap)(gU:it∉aS frs)(G:Gl w (hideAll s.heap ([it]++aS frs)))(hit:s.heap.get? it=some (bC l i))(hl:(hideAll s.heap ([it]++aS frs)).IsList l xs)(hx:xs[i]?=none)(hq:∀h' tz D,(hideAll s.heap (it::aS frs)).StaysIn h'->(aU frs h'/\kj frs s.heap h')->h'.get? it=some (ew i)->h'.get? D=some {cls:=.type "tuple",data:=.seq #[.bool false,.none] 0}->s.heap.get? D=none->Q (.ref D) {s with heap:=h',toks:=tz}):
  wpAny (model pw w) A (call (.ref 119) [.ref it]) Q E s:=by
 refine tG (mo:=[(it,bC l i)]) (binds:=[(Str.ofString "it",.ref it)]) (mV hA hF (M:=[it]) (by intro b hb;rw[List.mem_singleton.mp hb];exact gU)) G (by k_is) rfl (by k_is) (by omega) (.of_eq rfl) (locs rfl) rfl (by intro p hp;rw[List.mem_singleton.mp hp];exact hit) ?_;intro H₀ L' h₁ loose oE mg mb v' u' F N B X T l1 hLs
 k_lt l1
 show wpAny _ _ _ _ _ _
 k_fold
 k_steps
 generalize hm:(λy=>List.lookup y [(Str.ofString "it",Value.ref it)].reverse)=m at F;have i7:L'≠it:=λz=>OQ _ (z▸l1);have wm:H₀.get? L'=none:=OL F.above;refine AM hh (N _ (.head _)).1 (isList_stays (ai B.stays F.keep) hl) hx λh₂ h₃ e dY aJ qc=>?_;have F₂:aU ((envOf (Str.ofString "_pull") f6 L' 119 (Value.ref 118),m)::frs) h₂:=λp hp=>by
  rcases OA hp with j1|hp<;>(first|(replace j1:=OK j1;subst j1)|skip)
  ·refine⟨by show f6.kind≠_;decide,rfl,?_⟩
   exact F.ns.sameBut aJ i7
  ·refine du (hF p hp) λa b c=>?_
   refine aV c λo es ep ho r=>?_;clear c;have Jg:p.1.locals≠it:=λz=>gU (z▸OE hp);exact⟨a,b,o,es,ep,aJ.extBut _ _ Jg (F.keep _ _ (v' _ _ (by simpa using Jg) ho)),r⟩
 have kb:(hideAll s.heap ([it]++aS frs)).StaysIn h₂:=λb o e=>aJ.extBut b o (λz=>by subst z;rw[hideAll_none _ (by simp)] at e;cases e) (F.keep _ _ (B.stays _ _ e));have EE:∀b o,(hideAll s.heap ([it]++aS frs)).get? b=some o->b∉aS ((envOf (Str.ofString "_pull") f6 L' 119 (Value.ref 118),m)::frs):=λb o e hm=>by
  rcases OA hm with D8|hm
  ·have:=B.stays _ _ e
   rw[show b=L' from D8,wm] at this;cases this
  ·rw[hideAll_none _ (List.mem_append_right _ hm)] at e;cases e
 have gn:∀{h:Heap},dS (aS ((envOf (Str.ofString "_pull") f6 L' 119 (Value.ref 118),m)::frs)) h₂ h₂ h->(hideAll s.heap ([it]++aS frs)).StaysIn h:=λb x o e=>(b x o (kb x o e) o (kb x o e)).1 (EE x o e);refine bl qc.there λtt he3 htn htt=>?_;have mM:dS (aS ((envOf (Str.ofString "_pull") f6 L' 119 (Value.ref 118),m)::frs)) h₂ h₂ h₃:=.stays qc.keeps;refine ig (frs:=frs) (m:=m) (by show (A.deeper _).frames=_;exact Ow hA) (mM.fR F₂ F₂) he3 rfl (.inl rfl) λh₄ dX kI=>?_;have ip:h₂.get? dX=none:=(show dR h₂ h₃ from λb o e=>⟨o,qc.keeps b o e⟩).none kI.new;have rl:=mM.trans (.rj kI qc.new (λT e=>by cases e));refine bl kI.tb λts jL t3 _=>?_;have hd4:=OX (o:={cls:=.type "StopIteration",data:=.fields #[.ref tt,.none,.none,.none,.bool false,.none]}) rfl (·.setIfInBounds 1 (Value.ref dX));have l3:3<ts.size:=(Array.getElem?_eq_some_iff.mp t3).1;refine c6 (T:=dX) kI.exc hd4 rfl jL rfl l3 λh₅ PU rm=>?_;have kC:=rl.trans (.but ip PU);have eT:e≠dX:=λz=>by have:=kI.new;rw[<-z,he3] at this;cases this
 have he5:=(PU e eT).trans kI.exc;have EF:=G.mono (gn kC);refine wpAny_handleBy_builtin rM lD yy (Ev.aE (v:=.type "StopIteration") (env:=envOf (Str.ofString "_pull") f6 L' 119 (Value.ref 118)) EF (by k_is) Ce (by rfl) (by rfl) (by rfl) (by rfl) (by decide) (by decide) _ _ _ (ak _) λv h₆ iq PX yz=>⟨yz,⟨_,PX _ _ he5,(Obj.cls_mapFields _ _)⟩,?_⟩);rw[if_pos rfl];have rn:=kC.trans (.stays PX);have hd5:=OX (o:={cls:=.type "traceback",dict:=none,data:=.fields ts}) rfl (·.setIfInBounds 3 ((none:Option Addr).elim Value.none λf=>rawInt f));refine c6 (T:=dX) (PX _ _ he5) hd4 rfl (PX _ _ rm) hd5 (by simpa using l3) λh₇ Pb Jh=>?_;have jm:=rn.trans (.but ip Pb);refine OT (O3 (wpAny_Tuple ?_));show wpAny _ _ (spliced ((false,eval _ _)::(false,eval _ _)::[])) _ _ _;refine PC (PN (PC (wpAny_Constant_none (spliced_nil ⟨by rw[sizeLine_eq];simp,?_⟩))));have mO:=jm.trans (.stays (h':=h₇.push {cls:=.type "tuple",data:=.seq [Value.bool false,Value.none].toArray}) λb o e=>K' _ e);have Ji:it∉aS ((envOf (Str.ofString "_pull") f6 L' 119 (Value.ref 118),m)::frs):=λhm=>by
  rcases OA hm with z|hm
  ·exact i7 z.symm
  ·exact gU hm
 show Q (.ref _) _;have EG:kj frs s.heap _:=λb o hb e _=>by have bit:b≠it:=λz=>gU (z▸hb);have bR:=aJ.extBut b o bit (F.keep _ _ (v' _ _ (by simpa using bit) e));exact (mO b o bR o bR).2 (.tail _ hb)
 refine hq _ _ _ (gn mO) ⟨λp hp=>mO.fR F₂ F₂ p (.tail _ hp),EG⟩ ((mO _ _ dY _ dY).1 Ji) (OC _ rfl) ?_;have last:dR s.heap h₇:=λb o e=>by
  by_cases hb:b=it
  ·subst hb
   exact⟨_,(jm _ _ dY _ dY).1 Ji⟩
  ·have bR:=aJ.extBut b o hb (F.keep _ _ (v' _ _ (by simpa using hb) e))
   by_cases hf:b∈aS ((envOf (Str.ofString "_pull") f6 L' 119 (Value.ref 118),m)::frs)
   ·refine aR ((jm b o bR o bR).2 hf) λsl h=>⟨_,h⟩
   ·exact⟨_,(jm b o bR o bR).1 hf⟩
 exact last.none (OL (OM _))
end
noncomputable abbrev Jj(dg it kf:Addr)(cg ck cv hk hv ht se tg:Value):Obj:={cls:=.ref 167,dict:=some dg,data:=.plain,slots:=#[some cg,some ck,some cv,some hk,some hv,some ht,some (.ref it),some (.ref kf),some se,some tg]}
noncomputable abbrev Jk:Obj:={cls:=.type "tuple",data:=.seq #[.bool false,.none] 0}
def tJ(w:World)(base:Heap)(it:Addr)(oi oj:Obj):Prop:=∀{A:Around}{frs:Frs}{s:Shared}{Q E:Value->Shared->Prop},A.frames=some (frs.map (·.1))->A.handled=none->A.depth+2<recursionLimit->aU frs s.heap->it∉aS frs->base.StaysIn (hideAll s.heap ([it]++aS frs))->
 s.heap.get? it=some oi->(∀h' tz D,(hideAll s.heap (it::aS frs)).StaysIn h'->(aU frs h'/\kj frs s.heap h')->h'.get? it=some oj->h'.get? D=some Jk->s.heap.get? D=none->Q (.ref D) {s with heap:=h',toks:=tz})->wpAny (model pw w) A (call (.ref 119) [.ref it]) Q E s
section
variable{hk hv ht:Value}{oi oj:Obj}
theorem wq{ad:List Addr}{ob:List Obj}(I:fj F h₀ 0 n0 ad ob h)(i:Nat){a:Addr}(ha:ad[i]?=some a)(hb:(ob[i]?).isSome=true):h.get? a=some (ob.getD i default):=by refine aR (Option.isSome_iff_exists.mp hb) λo ho=>?_;have:=I.at_ i a o ha ho;rw[List.getD_eq_getElem?_getD,ho];exact this
theorem MJ(h:(dcO o).isSome=true):∀vs,o.data≠.fields vs:=λvs e=>by rcases o with⟨c,d,da,sl⟩;have e:da=_:=e;subst e;cases h
theorem wt{M:Model}{t:Sem α}{Q:α->Shared->Prop}(hh:A.handled=none)(hA:A.frames=some envs)(hd:A.depth<=400)(hu:A.units<=1000)(h:wpAny M (A0 (some envs) A.guards) t Q E s):wpAny M A t Q E s:=by
 rcases A with⟨ah,ad,af,ag,au⟩;dsimp only at hh hA hd hu h;subst hh;subst hA;exact d9 hd hu h
theorem o7(hP:tJ w (hideAll s.heap ([it,gb,dg]++aS frs)) it oi oj)(hA:A.frames=some (frs.map (·.1)))(hh:A.handled=none)(hd:A.depth<=400)(hu:A.units<=1000)(hF:aU frs s.heap)(gU:∀b∈([it,gb,dg]:List Addr),b∉aS frs)(G:Gl w (hideAll s.heap ([it,gb,dg]++aS frs)))(o1:@LT.lt Nat _ dg gb)(o2:@LT.lt Nat _ gb it)(hi:s.heap.get? it=some oi)(hg:s.heap.get? gb=some (Jj dg it kf cg ck cv hk hv ht se tg))(Jl:s.heap.get? dg=some emptyDict)(hE:∀h' tz e B t,(hideAll s.heap ([it,gb,dg]++aS frs)).StaysIn B->B.get? it=some oj->B.get? gb=some (Jj dg it kf cg ck cv hk hv ht se tg)->B.get? dg=some emptyDict->
   Heap.FlyingW B (frs.map (·.1)) e (.type "StopIteration") (.ref t) h'->aU frs h'->kj frs s.heap h'->E (.ref e) {s with heap:=h',toks:=tz}):
  wpAny (model pw w) A (call (.ref 156) [.ref gb]) Q E s:=by
 refine wt hh hA hd hu ?_;have q:=Ez o1 o2;have KX:(K w.params).In s.heap:=λb o e=>OW _ (G.K b o e);refine aR (qG w) λz hz=>?_;cases z<;>
 ·refine bH [Jj dg it kf cg ck cv hk hv ht se tg,emptyDict,oi] 1064960 ?_
  refine aX hz 7 1 (ir KX [gb,dg,it] _ ⟨hg,Jl,hi,trivial⟩) rfl rfl λa=>b0 ?_;intro Z1;refine⟨by kernel_rfl,λh1 I=>?_⟩;refine mW (B:=w5) (env:=envOf (Str.ofString "groupby._step") l9 a 156 (.ref 155)) 23571189773025880645076558407544402308131194794938624 (by kernel_rfl) (by kernel_rfl) (cB I.gx) ?_;refine aX hz 43 0 I (by kernel_rfl) rfl (b0 ?_);intro Z;refine⟨by kernel_rfl,λh2 I=>?_⟩;refine aR (I.frame 3 (a:=a) rfl (by kernel_rfl)) λm hm=>?_;have na:s.heap.get? a=none:=I.fresh 3 rfl (by kernel_rfl) rfl;have ha2:h2.get? a=some (Z.ob.getD 3 default):=wq I 3 rfl (by kernel_rfl);have old:∀{b:Addr}{o:Obj},s.heap.get? b=some o->b≠a:=λe z=>by rw[z,na] at e;cases e
  have Lf:a∉aS frs:=λkH=>by refine ar (OF kH) λp hp z=>?_;refine du (hF p hp) λ_ _ j5=>aV j5 λo es ep ho _=>?_;clear j5;exact old ho z
  have F2:aU ((envOf (Str.ofString "groupby._step") l9 a 156 (.ref 155),m)::frs) h2:=λp hp=>by
   rcases OA hp with j4|hp<;>(first|(replace j4:=OK j4;subst j4)|skip)
   ·exact⟨by show l9.kind≠_;decide,rfl,hm⟩
   ·refine du (hF p hp) λx y j3=>aV j3 λo es ep ho r=>?_;clear j3
    exact⟨x,y,o,es,ep,I.stays _ _ ho,r⟩
  have nf:∀{b:Addr}{o:Obj},s.heap.get? b=some o->b∉aS frs->b∉aS ((envOf (Str.ofString "groupby._step") l9 a 156 (.ref 155),m)::frs):=λe hb kH=>by
   rcases OA kH with z|kH
   ·exact old e z
   ·exact hb kH
  have Jn:∀b o,b∈([gb,dg]:List Addr)->s.heap.get? b=some o->(hideAll h2 ([it]++aS ((envOf (Str.ofString "groupby._step") l9 a 156 (.ref 155),m)::frs))).get? b=some o:=λb o hb e=>OO _ (I.stays _ _ e) λkH=>by
   rcases OG kH with z|z
   ·rw[List.mem_singleton.mp z] at hb
    simp only[List.mem_cons,List.not_mem_nil,or_false] at hb;rcases hb with z|z
    ·exact q.1 z.symm
    ·exact q.2.1 z.symm
   ·exact nf e (gU b (.tail _ hb)) z
  refine c7 (c:=.call (.ref 119) ⟨[.ref it],[]⟩) (by kernel_rfl) (hP (frs:=(envOf (Str.ofString "groupby._step") l9 a 156 (.ref 155),m)::frs) (by kernel_rfl) (by kernel_rfl) (OH (by kernel_rfl)) F2 (nf hi (gU it (.head _))) (λb o e=>OO _ (I.stays _ _ (OW _ e)) λkH=>?_) (I.stays _ _ hi) λh3 tz D k3 FU MK hD hD0=>?_)
  ·rcases OG kH with z|z
   ·rw[List.mem_singleton.mp z,hideAll_none _ (List.mem_append_left _ (.head _))] at e;cases e
   ·rcases OA z with z|z
    ·exact old (OW _ e) z
    ·rw[hideAll_none _ (List.mem_append_right _ z)] at e;cases e
  refine aR (FU.2 a _ (.head _) ha2 (MJ (by kernel_rfl))) λsl ha3=>?_;have yA:(hideAll s.heap ([it,gb,dg]++aS frs)).StaysIn (hideAll h3 ([gb,dg,it,a]++aS frs)):=λb o e=>by
   have e0:=OW _ e;have hb:b∉[it,gb,dg]++aS frs:=λkH=>by rw[hideAll_none _ kH] at e;cases e
   have hbi:b≠it:=λz=>hb (by rw[z];exact .head _);have uD:b∉aS frs:=λkH=>hb (OP _ kH);refine OO _ (k3 _ _ (OO _ (I.stays _ _ e0) λkH=>?_)) λkH=>?_
   ·rcases OA kH with z|z
    ·exact hbi z
    ·exact nf e0 uD z
   ·rcases OG kH with z|z
    ·simp only[List.mem_cons,List.not_mem_nil,or_false] at z
     rcases z with z|z|z|z
     ·exact hb (by rw[z];exact .tail _ (.head _))
     ·exact hb (by rw[z];exact .tail _ (.tail _ (.head _)))
     ·exact hbi z
     ·exact old e0 z
    ·exact uD z
  have g3:=k3 _ _ (Jn gb _ (.head _) hg);have d3:=k3 _ _ (Jn dg _ (.tail _ (.head _)) Jl);have Dne:∀{b:Addr}{o:Obj},h2.get? b=some o->D≠b:=λe z=>by rw[z,e] at hD0;cases hD0
  refine aX hz (C:=Cf.re _ _ tz _ 1619793947159204495334227879162220645257193255160863132965163333) 70 3 (ju (nw:=4) (ad:=[gb,dg,it,a,D]) (ob:=[Jj dg it kf cg ck cv hk hv ht se tg,emptyDict,oj,{(Z.ob.getD 3 default) with slots:=sl},Jk]) (G.mono yA) rfl ⟨.head _,.tail _ (.head _),.tail _ (.tail _ (.head _)),.tail _ (.tail _ (.tail _ (.head _))),trivial⟩ ⟨g3,d3,MK,ha3,hD,trivial⟩
   ⟨⟨q.2.2,OS q.1,(old hg).symm,Dne (I.stays _ _ hg),trivial⟩,⟨OS q.2.1,(old Jl).symm,Dne (I.stays _ _ Jl),trivial⟩,⟨(old hi).symm,Dne (I.stays _ _ hi),trivial⟩,⟨Dne ha2,trivial⟩,trivial⟩ rfl) rfl rfl λb c d=>b0 ?_
  intro Y;refine⟨by kernel_rfl,λh4 J=>?_⟩;refine c7 (c:=.call (.type "StopIteration") ⟨[],[]⟩) (by kernel_rfl) (owsi_call owsi_facts λh5 ex X=>?_);refine bl X.there λta he nt hta=>?_;refine aX hz (C:=Cf.re _ _ Y.tk [stO ta] 266305) 40 0 (ir (J.gx.keeps X.keeps) [ex] [stO ta] ⟨he,trivial⟩) rfl rfl (b0 ?_);intro V;refine⟨by kernel_rfl,λh6 T=>?_⟩;refine kF (e:=.ref ex) (by kernel_rfl) (by kernel_rfl) (kG (by kernel_rfl) ?_);refine aR (J.frame 3 (a:=a) rfl (by kernel_rfl)) λm' iI=>?_;have k46:∀{b:Addr}{o:Obj},h4.get? b=some o->h6.get? b=some o:=λq=>T.stays _ _ (X.keeps _ _ q);have k36:∀{b:Addr}{o:Obj},b∉[gb,dg,it,a]->h3.get? b=some o->h6.get? b=some o:=λhb e=>k46 (J.mv (M:=[gb,dg,it,a]) ⟨.head _,.tail _ (.head _),.tail _ (.tail _ (.head _)),.tail _ (.tail _ (.tail _ (.head _))),trivial⟩ _ _ hb e);have nin:∀{b:Addr}{o:Obj},s.heap.get? b=some o->b∉([it,gb,dg]:List Addr)->b∉([gb,dg,it,a]:List Addr):=λe hb z=>by
   simp only[List.mem_cons,List.not_mem_nil,or_false] at z hb;rcases z with z|z|z|z
   ·exact hb (.inr (.inl z))
   ·exact hb (.inr (.inr z))
   ·exact hb (.inl z)
   ·exact old e z
  have nfr:∀{b:Addr},b∈aS frs->b∉([gb,dg,it,a]:List Addr):=λhb z=>by
   simp only[List.mem_cons,List.not_mem_nil,or_false] at z;rcases z with z|z|z|z
   ·exact gU gb (by simp) (z▸hb)
   ·exact gU dg (by simp) (z▸hb)
   ·exact gU it (by simp) (z▸hb)
   ·exact Lf (z▸hb)
  have mv:∀b o,b∉([it,gb,dg]:List Addr)->b∉aS frs->s.heap.get? b=some o->h6.get? b=some o:=λb o hb hf e=>k36 (nin e hb) (OW _ (yA b o (OO _ e λkH=>(OG kH).elim hb hf)));have F6:aU frs h6:=λp hp=>by refine du (FU.1 p (.tail _ hp)) λx y j2=>aV j2 λo es ep ho r=>?_;clear j2;exact⟨x,y,o,es,ep,k36 (nfr (OE hp)) ho,r⟩
  have U6:kj frs s.heap h6:=((kj.same λb o _ e=>I.stays _ _ e).trans FU.2.tail).trans (.same λb o hb e=>k36 (nfr hb) e);have new:∀{b:Addr},h4.get? b=none->s.heap.get? b=none:=λ{b} e=>by
   cases z:s.heap.get? b with
   |none=>rfl
   |some o=>
    have e6:∀{o':Obj},h4.get? b=some o'->False:=λx=>by rw[e] at x;cases x
    by_cases hb:b∈([it,gb,dg]:List Addr)
    ·simp only[List.mem_cons,List.not_mem_nil,or_false] at hb
     rcases hb with hb|hb|hb
     ·exact (e6 (by rw[hb];exact J.at_ 2 it oj rfl (by kernel_rfl))).elim
     ·exact (e6 (by rw[hb];exact J.at_ 0 gb (Jj dg it kf cg ck cv hk hv ht se tg) rfl (by kernel_rfl))).elim
     ·exact (e6 (by rw[hb];exact J.at_ 1 dg emptyDict rfl (by kernel_rfl))).elim
    ·have Jm:=J.mv (M:=[gb,dg,it,a]) ⟨.head _,.tail _ (.head _),.tail _ (.tail _ (.head _)),.tail _ (.tail _ (.tail _ (.head _))),trivial⟩
     by_cases hf:b∈aS frs
     ·refine ar (OF hf) λp hp y=>?_
      refine du (FU.1 p (.tail _ hp)) λ_ _ j1=>aV j1 λo' es ep ho _=>?_;clear j1;exact (e6 (Jm _ _ (nfr hf) (by rw[<-y];exact ho))).elim
     ·exact (e6 (Jm _ _ (nin z hb) (OW _ (yA b o (OO _ z λkH=>(OG kH).elim hb hf))))).elim
  refine rL (frs:=frs) (m:=m') (M:=[it,gb,dg]) (h0:=s.heap) (by kernel_rfl) (by show l9.kind≠_;decide) rfl (by refine aV iI λo es ep ho r=>⟨o,es,ep,k46 ho,r⟩) F6 mv U6 (T.stays _ _ he) (T.stays _ _ hta) (new X.new) (new nt) na λh' BB t' up wi Fh Uh EH=>?_;exact hE _ _ _ BB t' up (EH _ _ _ hi (gU it (by simp)) (k46 (J.at_ 2 it oj rfl (by kernel_rfl)))) (EH _ _ _ hg (gU gb (by simp)) (k46 (J.at_ 0 gb _ rfl (by kernel_rfl)))) (EH _ _ _ Jl (gU dg (by simp)) (k46 (J.at_ 1 dg _ rfl (by kernel_rfl)))) wi Fh Uh
end
section
variable{xs:Array Value}{n:Int}{tk:Tok}
theorem rN(G:Gl w base)(hl:base.IsList l xs)(hx:xs[i]?=none):tJ w base it (bC l i) (ew i):=λhA hh hd hF hM k hi hq=>wj hA hh hd hF hM (G.mono k) hi (isList_stays k hl) hx hq
theorem Jo(hF:aU frs s.heap)(gU:∀b∈([gr,dr,it,gb,dg]:List Addr),b∉aS frs)(G:Gl w (hideAll s.heap ([gr,dr,it,gb,dg]++aS frs)))(o0:@LT.lt Nat _ dg gb)(o1:@LT.lt Nat _ gb it)(o2:@LT.lt Nat _ it dr)(o3:@LT.lt Nat _ dr gr)(hl:(hideAll s.heap ([gr,dr,it,gb,dg]++aS frs)).IsList l xs)(hi:xs[i]?=none)(eE:∀p∈[(gr,(l6 dr gb n tn kk tk:Obj)),(dr,(emptyDict:Obj)),(it,(bC l i:Obj)),(gb,(fH dg it kf (.int n tn') (ck) (cv) false false ht (se) (tg):Obj)),(dg,(emptyDict:Obj))],s.heap.get? p.1=some p.2)(hE:∀h' tz e,lC frs [gr,dr,it,gb,dg] e s.heap h'->h'.get? gr=some (l6 dr gb n tn kk tk)->h'.get? dr=some (emptyDict)->h'.get? it=some (ew i)->h'.get? gb=some (fH dg it kf (.int n tn') (ck) (cv) false false ht (se) (tg))->h'.get? dg=some (emptyDict)->E (.ref e) {s with heap:=h',toks:=tz}):
  wpAny (model pw w) (AA (frs.map (·.1)) gd) (call (.ref 208) [.ref gr] []) Q E s:=by
 have M:eF [gr,dr,it,gb,dg] 0 [gb,gr,dr,dg,it]:=trivial;have q0:=eE (gr,_) (by k_mem);have q1:=eE (dr,_) (by k_mem);have q2:=eE (it,_) (by k_mem);have q3:=eE (gb,_) (by k_mem);have q4:=eE (dg,_) (by k_mem);have KX:(K w.params).In s.heap:=λb o e=>OW _ (G.K b o e);refine aR (qG w) λz hz=>?_;cases z<;>
 ·refine bH [fH dg it kf (.int n tn') ck cv false false ht se tg,l6 dr gb n tn kk tk,emptyDict,emptyDict,bC l i] 1597440 ?_
  refine aX hz 7 1 (ir KX [gb,gr,dr,dg,it] _ ⟨q3,q0,q1,q4,q2,trivial⟩) rfl rfl λa=>b0 ?_;intro Z1;refine⟨by kernel_rfl,λh1 I=>?_⟩;refine mW (B:=w7) (env:=envOf (Str.ofString "_grouper.__next__") oh a 208 (.ref 207)) 196767737129156203399301601675744908030724073358148805404699331037364070246785757025269484315288746881343836774687696899414231005387377399490936966 (by kernel_rfl) (by kernel_rfl) (cB I.gx) ?_;refine aX hz 123 0 I (by kernel_rfl) rfl (b0 ?_);intro Z;refine⟨by kernel_rfl,λh2 I=>?_⟩;refine c7 (c:=.call (.builtin "int.__ne__") ⟨[.int n tn',.int n tn],[]⟩) (by kernel_rfl) (l7 ?_);refine aX hz (C:=Cf.re _ _ _ _ 29180060567499330937017246530574096778198185840622295542955677358993773594411078) 61 0 I (by kernel_rfl) rfl (b0 ?_);intro Z;refine⟨by kernel_rfl,λh3 I=>?_⟩;refine aR (I.frame 5 (a:=a) rfl (by kernel_rfl)) λm hm=>?_;have na:s.heap.get? a=none:=I.fresh 5 rfl (by kernel_rfl) rfl;refine du (yx (env:=envOf (Str.ofString "_grouper.__next__") oh a 208 (.ref 207)) hF gU (λb o _ e=>I.stays b o e) na hm (by show oh.kind≠_;decide) rfl (M':=[it,gb,dg]) (by simp) (λb hb=>by exact BD hb ⟨_,q2⟩ ⟨_,q3⟩ ⟨_,q4⟩)) λc1 c2 c3=>?_
  have out:∀b,b∈([gr,dr]:List Addr)->b∉([it,gb,dg]:List Addr)->b∉[it,gb,dg]++aS ((envOf (Str.ofString "_grouper.__next__") oh a 208 (.ref 207),m)::frs):=λb hb hn hm=>by
   rcases OG hm with z|z
   ·exact hn z
   ·rcases OA z with z|z
    ·have z:b=a:=z
     simp only[List.mem_cons,List.not_mem_nil,or_false] at hb;rcases hb with hb|hb
     ·rw[<-z,hb,q0] at na;cases na
     ·rw[<-z,hb,q1] at na;cases na
    ·exact gU b (by simp only[List.mem_cons,List.not_mem_nil,or_false] at hb;(rcases hb with j1|j1<;>(replace j1:=OK j1;subst j1))<;>simp) z
  refine c7 (c:=.call (.ref 156) ⟨[.ref gb],[]⟩) (by kernel_rfl) (o7 (frs:=(envOf (Str.ofString "_grouper.__next__") oh a 208 (.ref 207),m)::frs) (rN (G.mono c3) (isList_stays c3 hl) hi) (by kernel_rfl) (by kernel_rfl) (OH (by kernel_rfl)) (OH (by kernel_rfl)) c1 c2 (G.mono c3) o0 o1 (I.stays _ _ q2) (I.stays _ _ q3) (I.stays _ _ q4) λh4 tz e BB t kB b1 b2 b3 wi Fs Us=>?_);have up:(hideAll s.heap ([gr,dr,it,gb,dg]++aS frs)).StaysIn BB:=ai c3 kB;refine ED ⟨pw,w.params⟩ 40 ?_;refine kF (e:=.ref e) (by kernel_rfl) (by kernel_rfl) (kG (by kernel_rfl) ?_);refine wpAny_leaves_onW (by kernel_rfl) rfl wi λh₃ x1 x2=>?_;exact hE _ _ _ ⟨⟨t,flyingW_base up x1⟩,((kj.same λb o hb e=>I.stays _ _ e).trans Us.tail).trans (.up x2),aU.slots (λp hp=>Fs p (.tail _ hp)) x2⟩ (x1.1 _ _ (kB _ _ (OO _ (I.stays _ _ q0) (out gr (by simp) (by simp;omega))))) (x1.1 _ _ (kB _ _ (OO _ (I.stays _ _ q1) (out dr (by simp) (by simp;omega))))) (x1.1 _ _ b1) (x1.1 _ _ b2) (x1.1 _ _ b3)
end
theorem AN(hh:A.handled=none)(hit:s.heap.get? it=some (ew i))(hE:∀h₁ h' e,h₁.get? it=some (ew i)->Heap.SameBut it s.heap h₁->Heap.MadeExc h₁ h' e "StopIteration" []->E (.ref e) {s with heap:=h'}):
  wpAny (model prog w) A (call (.builtin "next") [.ref it]) Q E s:=by
 have hI:s.TypeIs (.ref it) "list_iterator":=⟨_,hit,rfl⟩;refine call_function_entry (by decide+kernel) (by decide+kernel) kdk_entry_next (kdk_args_next _) ?_;unfold Builtin.«next»;refine J' (m:=someArgs "next" 1 2 _) (wpAny_of_eq (a:=[Value.ref it]) (by first|rfl|kernel_rfl!) ?_);dsimp only;refine J' (wpAny_specialOf (name:=Str.ofString "__next__") hI slot_listiter_next.lookup ?_);refine wpAny_ite_split (λnY=>absurd nY (by decide)) (λ_=>?_);refine J' (wpAny_callSpecial?_slot (name:=Str.ofString "__next__") hI slot_listiter_next
  (wpAny_call_entry slot_listiter_next hI entry_listiter_next ?_ (args_listiter_next _)))
 show wpAny _ _ (field (.ref it) 0 >>= _) _ _ s;refine J' (Ov hit rfl (x:=.none) rfl ?_);show wpAny _ _ (if (Value.none==Value.none)=true then _ else _) _ _ s;rw[if_pos (show (Value.none==Value.none)=true from by decide)];refine J' (PI (J' ?_));show wpAny _ _ (newExc (.type "StopIteration") [] >>= _) _ _ _;refine J' ?_;simp only[newExc,newTuple];refine J' (O5 ?_ (by size_fits));refine J' (m:=firstArgMember _ _) (wpAny_of_eq (a:=Value.none) (by first|rfl| (simp only[firstArgMember];rfl)) ?_);refine O5 ?_ (by size_fits);simp only[raiseNew];refine J' (wpAny_handled ?_);first|rw[show A.in1.handled=none from hh]|rw[hh]
 refine J' (OD (wpAny_throw ?_));refine hE _ _ _ hit ⟨rfl,λ_ _=>rfl⟩ ⟨λb o e=>K' _ (K' _ e),OL (by rw[Heap.size_push];exact Nat.le_succ _),_,?_,OL (OM _),?_⟩
 ·exact OC _ rfl
 ·exact K' _ (OC _ rfl)
section
variable{xs:Array Value}
theorem wu(hA:A.frames=some (frs.map (·.1)))(hh:A.handled=none)(hd:A.depth+2<recursionLimit)(hF:aU frs s.heap)(gU:it∉aS frs)(G:Gl w (hideAll s.heap ([it]++aS frs)))(hit:s.heap.get? it=some (ew i))(hq:∀h' tz D,(hideAll s.heap (it::aS frs)).StaysIn h'->(aU frs h'/\kj frs s.heap h')->h'.get? it=some (ew i)->h'.get? D=some {cls:=.type "tuple",data:=.seq #[.bool false,.none] 0}->s.heap.get? D=none->Q (.ref D) {s with heap:=h',toks:=tz}):
  wpAny (model pw w) A (call (.ref 119) [.ref it]) Q E s:=by
 refine tG (mo:=[(it,ew i)]) (binds:=[(Str.ofString "it",.ref it)]) (mV hA hF (M:=[it]) (by intro b hb;rw[List.mem_singleton.mp hb];exact gU)) G (by k_is) rfl (by k_is) (by omega) (.of_eq rfl) (locs rfl) rfl (by intro p hp;rw[List.mem_singleton.mp hp];exact hit) ?_;intro H₀ L' h₁ loose oE mg mb v' u' F N B X T l1 hLs
 k_lt l1
 show wpAny _ _ _ _ _ _
 k_fold
 k_steps
 generalize hm:(λy=>List.lookup y [(Str.ofString "it",Value.ref it)].reverse)=m at F;have i7:L'≠it:=λz=>OQ _ (z▸l1);have wm:H₀.get? L'=none:=OL F.above;refine AN hh (N _ (.head _)).1 λh₂ h₃ e dY aJ qc=>?_;have F₂:aU ((envOf (Str.ofString "_pull") f6 L' 119 (Value.ref 118),m)::frs) h₂:=λp hp=>by
  rcases OA hp with j1|hp<;>(first|(replace j1:=OK j1;subst j1)|skip)
  ·refine⟨by show f6.kind≠_;decide,rfl,?_⟩
   exact F.ns.sameBut aJ i7
  ·refine du (hF p hp) λa b c=>?_
   refine aV c λo es ep ho r=>?_;clear c;have Jg:p.1.locals≠it:=λz=>gU (z▸OE hp);exact⟨a,b,o,es,ep,aJ.extBut _ _ Jg (F.keep _ _ (v' _ _ (by simpa using Jg) ho)),r⟩
 have kb:(hideAll s.heap ([it]++aS frs)).StaysIn h₂:=λb o e=>aJ.extBut b o (λz=>by subst z;rw[hideAll_none _ (by simp)] at e;cases e) (F.keep _ _ (B.stays _ _ e));have EE:∀b o,(hideAll s.heap ([it]++aS frs)).get? b=some o->b∉aS ((envOf (Str.ofString "_pull") f6 L' 119 (Value.ref 118),m)::frs):=λb o e hm=>by
  rcases OA hm with D8|hm
  ·have:=B.stays _ _ e
   rw[show b=L' from D8,wm] at this;cases this
  ·rw[hideAll_none _ (List.mem_append_right _ hm)] at e;cases e
 have gn:∀{h:Heap},dS (aS ((envOf (Str.ofString "_pull") f6 L' 119 (Value.ref 118),m)::frs)) h₂ h₂ h->(hideAll s.heap ([it]++aS frs)).StaysIn h:=λb x o e=>(b x o (kb x o e) o (kb x o e)).1 (EE x o e);refine bl qc.there λtt he3 htn htt=>?_;have mM:dS (aS ((envOf (Str.ofString "_pull") f6 L' 119 (Value.ref 118),m)::frs)) h₂ h₂ h₃:=.stays qc.keeps;refine ig (frs:=frs) (m:=m) (by show (A.deeper _).frames=_;exact Ow hA) (mM.fR F₂ F₂) he3 rfl (.inl rfl) λh₄ dX kI=>?_;have ip:h₂.get? dX=none:=(show dR h₂ h₃ from λb o e=>⟨o,qc.keeps b o e⟩).none kI.new;have rl:=mM.trans (.rj kI qc.new (λT e=>by cases e));refine bl kI.tb λts jL t3 _=>?_;have hd4:=OX (o:={cls:=.type "StopIteration",data:=.fields #[.ref tt,.none,.none,.none,.bool false,.none]}) rfl (·.setIfInBounds 1 (Value.ref dX));have l3:3<ts.size:=(Array.getElem?_eq_some_iff.mp t3).1;refine c6 (T:=dX) kI.exc hd4 rfl jL rfl l3 λh₅ PU rm=>?_;have kC:=rl.trans (.but ip PU);have eT:e≠dX:=λz=>by have:=kI.new;rw[<-z,he3] at this;cases this
 have he5:=(PU e eT).trans kI.exc;have EF:=G.mono (gn kC);refine wpAny_handleBy_builtin rM lD yy (Ev.aE (v:=.type "StopIteration") (env:=envOf (Str.ofString "_pull") f6 L' 119 (Value.ref 118)) EF (by k_is) Ce (by rfl) (by rfl) (by rfl) (by rfl) (by decide) (by decide) _ _ _ (ak _) λv h₆ iq PX yz=>⟨yz,⟨_,PX _ _ he5,(Obj.cls_mapFields _ _)⟩,?_⟩);rw[if_pos rfl];have rn:=kC.trans (.stays PX);have hd5:=OX (o:={cls:=.type "traceback",dict:=none,data:=.fields ts}) rfl (·.setIfInBounds 3 ((none:Option Addr).elim Value.none λf=>rawInt f));refine c6 (T:=dX) (PX _ _ he5) hd4 rfl (PX _ _ rm) hd5 (by simpa using l3) λh₇ Pb Jh=>?_;have jm:=rn.trans (.but ip Pb);refine OT (O3 (wpAny_Tuple ?_));show wpAny _ _ (spliced ((false,eval _ _)::(false,eval _ _)::[])) _ _ _;refine PC (PN (PC (wpAny_Constant_none (spliced_nil ⟨by rw[sizeLine_eq];simp,?_⟩))));have mO:=jm.trans (.stays (h':=h₇.push {cls:=.type "tuple",data:=.seq [Value.bool false,Value.none].toArray}) λb o e=>K' _ e);have Ji:it∉aS ((envOf (Str.ofString "_pull") f6 L' 119 (Value.ref 118),m)::frs):=λhm=>by
  rcases OA hm with z|hm
  ·exact i7 z.symm
  ·exact gU hm
 show Q (.ref _) _;have EG:kj frs s.heap _:=λb o hb e _=>by have bit:b≠it:=λz=>gU (z▸hb);have bR:=aJ.extBut b o bit (F.keep _ _ (v' _ _ (by simpa using bit) e));exact (mO b o bR o bR).2 (.tail _ hb)
 refine hq _ _ _ (gn mO) ⟨λp hp=>mO.fR F₂ F₂ p (.tail _ hp),EG⟩ ((mO _ _ dY _ dY).1 Ji) (OC _ rfl) ?_;have last:dR s.heap h₇:=λb o e=>by
  by_cases hb:b=it
  ·subst hb
   exact⟨_,(jm _ _ dY _ dY).1 Ji⟩
  ·have bR:=aJ.extBut b o hb (F.keep _ _ (v' _ _ (by simpa using hb) e))
   by_cases hf:b∈aS ((envOf (Str.ofString "_pull") f6 L' 119 (Value.ref 118),m)::frs)
   ·refine aR ((jm b o bR o bR).2 hf) λsl h=>⟨_,h⟩
   ·exact⟨_,(jm b o bR o bR).1 hf⟩
 exact last.none (OL (OM _))
end
theorem qf(G:Gl w base):tJ w base it (ew i) (ew i):=λhA hh hd hF hM k hi hq=>wu hA hh hd hF hM (G.mono k) hi hq
theorem EI(hF:aU frs h)(gU:∀b∈M,b∉aS frs)(v':Mv M h H₀)(F:Fr H₀ L h₁ m)(hB:(hideAll h (M++aS frs)).StaysIn H₀)(he:env.locals=L)(hk:env.scope.kind≠.module)(hf:env.frame=some env.locals)(cN:∀b∈M,b≠L):
  aU ((env,m)::frs) h₁/\(∀b∈M,b∉aS ((env,m)::frs))/\L∉aS frs/\∀M',(∀b∈M',b∈M)->(hideAll h (M++aS frs)).StaysIn (hideAll h₁ (M'++aS ((env,m)::frs))):=by
 have wm:H₀.get? L=none:=OL F.above;have ML:L∉aS frs:=λhm=>by refine ar (OF hm) λp hp z=>?_;refine du (hF p hp) λ_ _ j3=>aV j3 λo es ep ho _=>?_;clear j3;have q:=v' _ _ (λiI=>gU _ iI (OE hp)) ho;rw[show p.1.locals=L from z,wm] at q;cases q
 refine⟨λp hp=>?_,λb hb hm=>?_,ML,λM' hM' b o e=>OO _ (F.keep _ _ (hB _ _ e)) λhm=>?_⟩
 ·rcases OA hp with j2|hp<;>(first|(replace j2:=OK j2;subst j2)|skip)
  ·exact⟨hk,hf,he▸F.ns⟩
  ·refine du (hF p hp) λa b j1=>aV j1 λo es ep ho r=>?_;clear j1
   exact⟨a,b,o,es,ep,F.keep _ _ (v' _ _ (λhm=>gU _ hm (OE hp)) ho),r⟩
 ·rcases OA hm with z|hm
  ·exact cN b hb (z.trans he)
  ·exact gU b hb hm
 ·rcases OG hm with hm|hm
  ·rw[hideAll_none _ (List.mem_append_left _ (hM' _ hm))] at e;cases e
  ·rcases OA hm with z|hm
   ·have:=hB _ _ e
    rw[show b=L from z.trans he,wm] at this;cases this
   ·rw[hideAll_none _ (List.mem_append_right _ hm)] at e;cases e
section
variable{xs:Array Value}{n:Int}{tk:Tok}
theorem Jp(hF:aU frs s.heap)(gU:∀b∈([it,gb,dg]:List Addr),b∉aS frs)(G:Gl w (hideAll s.heap ([it,gb,dg]++aS frs)))(o0:@LT.lt Nat _ dg gb)(o1:@LT.lt Nat _ gb it)(eE:∀p∈[(it,(ew i:Obj)),(gb,(fH dg it kf (cg) (ck) (cv) false hv ht (se) (tg):Obj)),(dg,(emptyDict:Obj))],s.heap.get? p.1=some p.2)(hE:∀h' tz e,lC frs [it,gb,dg] e s.heap h'->E (.ref e) {s with heap:=h',toks:=tz}):
  wpAny (model pw w) (AA (frs.map (·.1)) gd) (call (.ref 163) [.ref gb] []) Q E s:=by
 refine tG (binds:=[(Str.ofString "self",.ref gb)]) (mV rfl hF gU) G (by k_is) rfl (by k_is) (show (320:Nat)<recursionLimit by decide) (.of_eq rfl) (locs rfl) rfl eE ?_;intro H₀ L' h₁ loose oE mg mb v' u' F N B X T l1 hLs
 k_lt l1
 show wpAny _ _ _ _ _ _
 k_fold
 iterate 30 (first|(k_unfold;(try dsimp only))|walk1)
 all_goals try exact absurd rfl (by assumption:n≠n)
 rename News _ _ _ _=>N9
 rename Fr _ _ _ _=>F9
 (try dsimp only at N9 F9)
 let ee:=envOf (Str.ofString "groupby.__next__") w6 L' 163 (Value.ref 162)
 refine eP (EI (env:=ee) hF gU v' F9 B.stays rfl (by show w6.kind≠_;decide) rfl (λb hb z=>by
  simp only[List.mem_cons,List.not_mem_nil,or_false] at hb
  (rcases hb with j1|j1|j1<;>(replace j1:=OK j1;subst j1))<;>(have q:@Eq Nat _ _:=z;omega))) λc1 c2 c3 c4=>?_
 have gJ:∀b∈([it,gb,dg]:List Addr),b∈([it,gb,dg]:List Addr):=by simp
 refine' o7 (A:=(AA (frs.map (·.1)) gd).deeper ee) (s:={s with heap:=_,toks:=_}) (frs:=(ee,_)::frs) (qf (i:=i) (G.mono (c4 _ gJ))) (Ow (show (AA (frs.map (·.1)) gd).frames=some (frs.map (·.1)) from rfl)) rfl (by show 320+1<=400;decide) (OH rfl) c1 (λb hb=>c2 b (gJ b hb)) (G.mono (c4 _ gJ)) (by omega) (by omega)
  (N9.get (by k_mem)) (N9.get (by k_mem)) (N9.get (by k_mem)) ?hE
 case hE=>
 intro h₂ tz e BB t kB b1 b2 b3 wi Fs Us;show wpAny _ _ (leaving _ _) _ _ _;refine wpAny_leaves_onW (Ow rfl) rfl wi λh₃ x1 x2=>?_;have up:(hideAll s.heap ([it,gb,dg]++aS frs)).StaysIn BB:=ai (c4 _ gJ) kB;refine hE _ _ _ ⟨⟨t,flyingW_base up x1⟩,((kj.same λb o hb e=>F9.keep _ _ (v' _ _ (λhm=>gU b hm hb) e)).trans Us.tail).trans (.up x2),aU.slots (λp hp=>Fs p (.tail _ hp)) x2⟩
end
structure Src(w:World)(A:Around)(I S:Addr)(n:Nat)(St Fin:List Value->Shared->Prop):Prop where
 frame:∀acc (s:Shared) h' tk,St acc s->(∀b o,b≠S->s.heap.get? b=some o->h'.get? b=some o)->St acc (bp s h' tk)
 item:∀acc (s:Shared)(Q:Option Value->Shared->Prop)(E:Value->Shared->Prop),acc.length<n->St acc s->(∃o,s.heap.get? S=some o)->
  (∀v s',St (acc++[v]) s'->(∀o,s.heap.get? S=some o->s'.heap.get? S=some o)->Q (some v) s')->wpAny (model pw w) A (pyNext (.ref I)) Q E s
 done:∀acc (s:Shared)(Q:Option Value->Shared->Prop)(E:Value->Shared->Prop),acc.length=n->St acc s->
  (∀s',Fin acc s'->(∀o,s.heap.get? S=some o->s'.heap.get? S=some o)->Q none s')->wpAny (model pw w) A (pyNext (.ref I)) Q E s
section
variable{I S:Addr}{St Fin:List Value->Shared->Prop}
theorem rO(W:Src w A.in1 I S n St Fin)(hn:n<=64)(res:Value):
  ∀(k:Nat)(acc:List Value)(s:Shared)(c:Nat),n-acc.length=k->acc.length<=n->St acc s->s.heap.get? S=some {cls:=.type "list",dict:=none,data:=.seq acc.toArray c,slots:=#[]}->
  (∀s' tK c',tK.length=n->Fin tK s'->s'.heap.get? S=some {cls:=.type "list",dict:=none,data:=.seq tK.toArray c',slots:=#[]}->R (.ok (.ret res)) s')->
  codeAny (model pw w) A (.builtin "list.extend.loop" ⟨[.ref S,.ref I,res],[]⟩) R s:=by
 intro k;induction k with
 |zero=>
  intro acc s c hk hi dI hS hR;refine O9 F.entry_extend_loop ?_;rw[Around.under_plainId F.plain_extend_loop _];show wpAny _ A.in1 (pyNext (.ref I) >>= _) _ _ s;refine J' (W.done acc s _ _ (by omega) dI λs' hf iX=>?_);exact OD (hR s' acc c (by omega) hf (iX _ hS))
 |succ k ih=>
  intro acc s c hk hi dI hS hR;refine O9 F.entry_extend_loop ?_;rw[Around.under_plainId F.plain_extend_loop _];show wpAny _ A.in1 (pyNext (.ref I) >>= _) _ _ s;refine J' (W.item acc s _ _ (by omega) dI ⟨_,hS⟩ λv s' gC iX=>?_);have sG:=iX _ hS;obtain⟨Pe,uS⟩:∃Pe,(s'.heap.update S (Obj.mapSeq (·.push v))).get? S=some {cls:=.type "list",dict:=none,data:=.seq (acc++[v]).toArray Pe,slots:=#[]}:=by have q:=get?_update_seq (c:="list") sG (·.push v);rw[List.push_toArray] at q;exact⟨_,q⟩
  show wpAny _ A.in1 (updateSeq S (·.push v) >>= _) _ _ _;refine J' ?_;refine wpAny_updateSeq sG rfl (OD ⟨plainId_quiet F.plain_extend_loop _,ih (acc++[v]) _ Pe (by rw[List.length_append];simp;omega) (by rw[List.length_append];simp;omega) (W.frame _ s' _ s'.toks gC λb o hb e=>?_) uS hR⟩)
   (by rw[sizeLine_eq];simp;omega) (by show (acc.toArray.push v).size<=sizeLine+1;rw[sizeLine_eq];simp;omega)
  ·exact (OZ _ _ (OS hb)).trans e
end
theorem wx:typeLookup (.type "zip") "__len__"=pure none:=by rw[typeLookup_type,builtinLookup_eq_fast];kernel_rfl
theorem tL:typeLookup (.type "zip") "__length_hint__"=pure none:=by rw[typeLookup_type,builtinLookup_eq_fast];kernel_rfl
section
variable{I:Addr}{St Fin:List Value->Shared->Prop}
theorem rP{Q:List Value->Shared->Prop}(W:Src w A.in1 I s.heap.objs.size n St Fin)(rq:∀s,St [] s->∃TI TO f,IsZip s.heap I TI TO f)(dI:St [] s)(hI:I<s.heap.objs.size)(hn:n<=64)(hQ:∀s' acc,acc.length=n->Fin acc s'->Q acc s'):wpAny (model pw w) A (collect (.ref I)) Q E s:=by
 have DO:s.heap.objs.size≠I:=Oy hI;unfold collect;refine J' (wpAny_runValue (O9 F.entry_proto_collect ?_));rw[Around.under_plainId F.plain_proto_collect _];show wpAny _ A.in1 (newList [] >>= λl=>again (.builtin "list.__iadd__" ⟨[l,.ref I],[]⟩)) _ _ s;refine J' (O5 ?_);refine OD ⟨plainId_quiet F.plain_list_iadd _,O9 F.entry_list_iadd ?_⟩;rw[Around.under_plainId F.plain_list_iadd _];have gH:=W.frame [] s (s.heap.push {cls:=.type "list",data:=.seq ([]:List Value).toArray}) s.toks dI λb o _ e=>K' _ e;refine ez (rq _ gH) λTI TO f hz=>?_;have hT:Shared.TypeIs (bp s (s.heap.push {cls:=.type "list",data:=.seq ([]:List Value).toArray}) s.toks) (.ref I) "zip":=⟨_,hz,rfl⟩;show wpAny _ A.in1 (Builtin.List.listExtendWith (.ref s.heap.objs.size) (.ref I) (.ref s.heap.objs.size)) _ _ _;unfold Builtin.List.listExtendWith;refine J' (wpAny_typeOf hT ?_);have h1:Builtin.List.listSameRef (.ref s.heap.objs.size) (.ref I)=false:=by simp[Builtin.List.listSameRef,DO]
 have h2:(Value.type "zip"==Value.type "list")=false:=by decide
 have h3:(Value.type "zip"==Value.type "tuple")=false:=by decide
 simp only[h1,h2,h3,Bool.or_false,Bool.false_eq_true,if_false];refine J' (wpAny_pyIter_zip hz ?_);refine J' (Ol ?_);unfold Builtin.List.listLengthHint;refine J' (wpAny_specialOf hT wx ?_);show wpAny _ A.in1 (specialOf (Value.ref I) (Str.ofString "__length_hint__") >>= _) _ _ _;refine J' (wpAny_specialOf hT tL ?_);refine OD ?_;show wpAny _ A.in1 (rule "list.extend.makes-room" >>= λ_=>Builtin.List.listTouch (.ref s.heap.objs.size) >>= λ_=>
  again (.builtin "list.extend.loop" ⟨[.ref s.heap.objs.size,.ref I,.ref s.heap.objs.size],[]⟩)) _ _ _
 refine J' (PI ?_);have uS:(s.heap.push {cls:=.type "list",data:=.seq ([]:List Value).toArray}).get? s.heap.objs.size=some {cls:=.type "list",data:=.seq ([]:List Value).toArray}:=OC _ rfl;refine J' ?_;show wpAny _ A.in1 (updateSeq s.heap.objs.size (·.push .none) >>= λ_=>updateSeq s.heap.objs.size (·.pop)) _ _ _;refine J' (wpAny_updateSeq uS rfl ?_);have uT:=Oq (Obj.mapSeq (·.push Value.none)) uS rfl;refine wpAny_updateSeq uT rfl ?_;have uU:=Oq (Obj.mapSeq (·.pop)) uT rfl;have oth:∀b o,b≠s.heap.objs.size->(s.heap.push {cls:=.type "list",data:=.seq ([]:List Value).toArray}).get? b=some o->
   (((s.heap.push {cls:=.type "list",data:=.seq ([]:List Value).toArray}).update s.heap.objs.size (Obj.mapSeq (·.push Value.none))).update s.heap.objs.size (Obj.mapSeq (·.pop))).get? b=some o:=
  λb o hb e=>(OZ _ _ (OS hb)).trans ((OZ _ _ (OS hb)).trans e)
 refine OD ⟨plainId_quiet F.plain_extend_loop _,rO W hn _ n [] _ _ rfl (PF _) (W.frame [] (bp s (s.heap.push {cls:=.type "list",data:=.seq ([]:List Value).toArray}) s.toks) _ s.toks gH oth) uU λs' tK c' hl hf sG=>?_⟩;show wpAny _ A (load s.heap.objs.size >>= _) _ _ s';refine J' (wpAny_load sG ?_);exact OD (hQ s' tK hl hf)
theorem yB{C f:Addr}(W:Src w A.in1.in1 I s.heap.objs.size n St Fin)(dI:St [] s)(hI:I<s.heap.objs.size)(hn:n<=64)(hX:∀acc s,St acc s->(K w.params).In s.heap/\InstAt s.heap I ox C od)(hno:(Value.ref C==Value.type "list")=false)(hlen:findIn (K w.params) (.ref C) "__len__"=some none)(Jq:findIn (K w.params) (.ref C) "__length_hint__"=some none)(hit:∀(s':Shared)(Q':Value->Shared->Prop)(E':Value->Shared->Prop),St [] s'->(∀h' tk,(∀b o,s'.heap.get? b=some o->h'.get? b=some o)->Q' (.ref I) (bp s' h' tk))->wpAny (model pw w) A.in1.in1 (pyIter (.ref I)) Q' E' s')(hQ:∀s' acc c',acc.length=n->Fin acc s'->s'.heap.get? s.heap.objs.size=some {cls:=.type "list",dict:=none,data:=.seq acc.toArray c',slots:=#[]}->Q (.ref s.heap.objs.size) s'):
  wpAny (model pw w) A (call (.type "list") [.ref I]) Q E s:=by
 have DO:s.heap.objs.size≠I:=Oy hI;refine callType_codes (Q₁:=λobj aB=>obj = .ref s.heap.objs.size/\aB=(bp s (s.heap.push {cls:=.type "list",data:=.seq #[]}) s.toks)) F.called_list (F.typeCall_list_1 _) F.entry_list_init
  (code_list_new _ ⟨rfl,rfl⟩) λobj aB h₁=>?_
 refine cA h₁ λj1 j2=>?_;clear h₁;subst j1;subst j2;have hS:(s.heap.push {cls:=.type "list",data:=.seq #[]}).get? s.heap.objs.size=some {cls:=.type "list",data:=.seq #[]}:=OC _ rfl;refine⟨⟨_,hS,rfl⟩,F.args_list_init_2 _ _,?_⟩;show wpAny _ A.in1.in1 (do let old <-Builtin.List.listItems (.ref s.heap.objs.size);Builtin.List.listUpdate (.ref s.heap.objs.size) (λ_=>#[]);letGo old.toList.reverse;Builtin.List.listExtendWith (.ref s.heap.objs.size) (.ref I) .none) _ _ _;refine J' ?_;unfold Builtin.List.listItems;refine J' (PB hS rfl (OD ?_));show wpAny _ A.in1.in1 (updateSeq s.heap.objs.size (λ_=>#[]) >>= λ_=>letGo (#[]:Array Value).toList.reverse >>= λ_=>Builtin.List.listExtendWith (.ref s.heap.objs.size) (.ref I) .none) _ _ _;refine J' (wpAny_updateSeq hS rfl ?_);have uT:=Oq (Obj.mapSeq (λ_=>(#[]:Array Value))) hS rfl;have oth:∀b o,b≠s.heap.objs.size->s.heap.get? b=some o->((s.heap.push {cls:=.type "list",data:=.seq #[]}).update s.heap.objs.size (Obj.mapSeq (λ_=>(#[]:Array Value)))).get? b=some o:=
  λb o hb e=>(OZ _ _ (OS hb)).trans (K' _ e)
 refine J' (wpAny_letGo ?_);have eQ:=W.frame [] s _ s.toks dI oth;unfold Builtin.List.listExtendWith;refine J' ((hX _ _ eQ).2.type.here ?_);have h1:Builtin.List.listSameRef (.ref s.heap.objs.size) (.ref I)=false:=by simp[Builtin.List.listSameRef,DO]
 have h3:(Value.ref C==Value.type "tuple")=false:=by simp
 simp only[h1,hno,h3,Bool.or_false,Bool.false_eq_true,if_false];refine J' (hit _ _ _ eQ λh₃ cW PS=>?_);have mX:=W.frame [] _ h₃ cW eQ λb o _ e=>PS b o e;refine cA (hX _ _ mX) λJr Js=>?_;refine J' (Ol ?_);unfold Builtin.List.listLengthHint;unfold specialOf;refine J' (J' (Js.type.here ((looks_findIn Jr hlen).here ?_)));show wpAny _ A.in1.in1 (specialOf (Value.ref I) (Str.ofString "__length_hint__") >>= _) _ _ _;unfold specialOf;refine J' (J' (Js.type.here ((looks_findIn Jr Jq).here ?_)));refine OD ?_;show wpAny _ A.in1.in1 (rule "list.extend.makes-room" >>= λ_=>Builtin.List.listTouch (.ref s.heap.objs.size) >>= λ_=>
  again (.builtin "list.extend.loop" ⟨[.ref s.heap.objs.size,.ref I,.none],[]⟩)) _ _ _
 refine J' (PI ?_);have uU:=PS _ _ uT;refine J' ?_;show wpAny _ A.in1.in1 (updateSeq s.heap.objs.size (·.push .none) >>= λ_=>updateSeq s.heap.objs.size (·.pop)) _ _ _;refine J' (wpAny_updateSeq uU rfl ?_);have Cg:=Oq (Obj.mapSeq (·.push Value.none)) uU rfl;refine wpAny_updateSeq Cg rfl ?_;have Jt:=Oq (Obj.mapSeq (·.pop)) Cg rfl;have EJ:∀b o,b≠s.heap.objs.size->h₃.get? b=some o->((h₃.update s.heap.objs.size (Obj.mapSeq (·.push Value.none))).update s.heap.objs.size (Obj.mapSeq (·.pop))).get? b=some o:=
  λb o hb e=>(OZ _ _ (OS hb)).trans ((OZ _ _ (OS hb)).trans e)
 refine OD ⟨plainId_quiet F.plain_extend_loop _,rO W hn _ n [] _ _ rfl (PF _) (W.frame [] (bp s h₃ cW) _ cW mX EJ) Jt λs' tK c' hl hf sG=>?_⟩;exact⟨rfl,hQ s' tK c' hl hf sG⟩
end
theorem fI{M:Model}{t:Sem α}{Q:α->Shared->Prop}(hh:A.handled=none)(hA:A.frames=some envs)(hd:A.depth<=320)(hu:A.units<=100)(h:wpAny M (AA envs A.guards) t Q E s):wpAny M A t Q E s:=by
 rcases A with⟨ah,ad,af,ag,au⟩;dsimp only at hh hA hd hu h;subst hh;subst hA;exact d9 hd hu h
structure lN(A:Around)(envs:List Env)(n:Nat):Prop where
 h:A.handled=none
 f:A.frames=some envs
 d:A.depth<=320
 u:A.units<=n
theorem lN.in1(x:lN A envs n):lN A.in1 envs (n+1):=⟨x.h,x.f,x.d,Nat.succ_le_succ x.u⟩
noncomputable abbrev jU(f0 f1:Value)(TI TO:Addr):Obj:={cls:=.type "zip",dict:=none,data:=.fields #[f0,f1,.bool false,.ref TI,.ref TO],slots:=#[]}
structure eX(frs:Frs)(gB:Heap)(da TI TO i1 cn dc:Addr)(fb:Bool)(tn':Tok)(oG lO:Nat)(h:Heap):Prop where
 gb:gB.StaysIn h
 fr:aU frs h
 ti:IsPair h TI (.ref i1) (.ref cn)
 to:∃a b,IsPair h TO a b
 it:h.IsListIter i1 da oG
 cn:∃tn,h.get? cn=some (Ew dc lO fb tn tn')
 dc:h.get? dc=some emptyDict
structure o8(w:World)(frs:Frs)(gB:Heap)(xs:Array Value)(da z TI TO i1 cn dc:Addr):Prop where
 G:Gl w (hideAll gB (aS frs))
 gW:∀b∈[z,TI,TO,i1,cn,dc],gB.get? b=none
 da:gB.IsList da xs
 WF:∀b∈[z,TI,TO,i1,cn,dc],b∉aS frs
 nd:[z,TI,TO,i1,cn,dc].Nodup
section
variable{xs:Array Value}{z dc:Addr}{oG lO:Nat}
theorem eX.but{x:Addr}(C:eX frs gB da TI TO i1 cn dc fb tn' oG lO h)(B:o8 w frs gB xs da z TI TO i1 cn dc)(k:∀b o,b≠x->h.get? b=some o->h'.get? b=some o)(hx:x∉[TI,TO,i1,cn,dc])(hg:gB.get? x=none)(hf:x∉aS frs):
  eX frs gB da TI TO i1 cn dc fb tn' oG lO h':=by
 simp only[List.mem_cons,List.not_mem_nil,or_false,not_or] at hx;refine nV hx λx1 x2 x3 x4 x5=>?_;clear hx;refine⟨λb o e=>k b o (λq=>by rw[q,hg] at e;cases e) (C.gb b o e),λp hp=>?_,k _ _ (OS x1) C.ti,?_,?_,?_,k _ _ (OS x5) C.dc⟩
 ·refine du (C.fr p hp) λa b j1=>aV j1 λo es ep ho r=>?_;clear j1
  exact⟨a,b,o,es,ep,k _ _ (λq=>hf (q▸OE hp)) ho,r⟩
 ·refine oM C.to λa b e=>⟨a,b,k _ _ (OS x2) e⟩
 ·refine ar C.it λo ho r=>⟨o,k _ _ (OS x3) ho,r⟩
 ·refine aR C.cn λtn e=>⟨tn,k _ _ (OS x4) e⟩
theorem rQ(hA:lN A (frs.map (·.1)) 100)(C:eX frs gB da TI TO i1 cn dc fb tn' oG lO s.heap)(B:o8 w frs gB xs da z TI TO i1 cn dc)(o1:@LT.lt Nat _ dc cn)(hQ:∀h' tz tn,eX frs gB da TI TO i1 cn dc fb tn' oG (lO+1) h'->Mv [cn,dc] s.heap h'->Q (.int lO tn) (bp s h' tz)):wpAny (model pw w) A (Builtin.SmallTypes.nextOf (.ref cn)) Q E s:=by
 refine aR C.cn λtn rF=>?_;have nd:=B.nd;simp only[List.nodup_cons,List.mem_cons,List.not_mem_nil,or_false,not_or,List.nodup_nil,and_true,not_false_eq_true] at nd;have WF:∀b∈([cn,dc]:List Addr),b∉aS frs:=λb hb=>B.WF b (by simp at hb ⊢;(rcases hb with j4|j4<;>(replace j4:=OK j4;subst j4))<;>simp);have up:(hideAll gB (aS frs)).StaysIn (hideAll s.heap ([cn,dc]++aS frs)):=λb o e=>OO _ (C.gb b o (OW _ e)) λhm=>by
  rcases OG hm with hm|hm
  ·have e':=OW _ e
   rw[B.gW b (by simp at hm ⊢;(rcases hm with j3|j3<;>(replace j3:=Eq.symm j3;subst j3))<;>simp)] at e';cases e'
  ·rw[hideAll_none _ hm] at e;cases e
 unfold Builtin.SmallTypes.nextOf;refine J' (special_fn (C:=265) (od:=some emptyDict) (f:=254) (name:="__next__") (args:=[]) (K:=K w.params) (B.G.mono (λb o e=>C.gb b o (OW _ e))).K ⟨rF,rfl,rfl,C.dc⟩ (by k_is) (by k_is) ?_);refine fI hA.h hA.f hA.d hA.u (yt C.fr WF (B.G.mono up) o1 (n:=lO) (tn:=tn) (tn':=tn') (fb:=fb) (λp hp=>by exact mL2 hp rF C.dc) λh' tz rE k1 k2 mv=>?_)
 refine OD (hQ h' tz tn ?_ mv);have mvk:∀b o,b≠cn->b≠dc->s.heap.get? b=some o->h'.get? b=some o:=λb o n1 n2 e=>mv b o (by simp[n1,n2]) e;refine⟨λb o e=>mv b o (λhm=>?_) (C.gb b o e),C.fr.mv WF mv,mvk _ _ nd.2.1.2.2.1 nd.2.1.2.2.2 C.ti,?_,?_,⟨rE,by have:=k1;push_cast;exact this⟩,k2⟩
 ·rw[B.gW b (by simp at hm ⊢;(rcases hm with j1|j1<;>(replace j1:=Eq.symm j1;subst j1))<;>simp)] at e;cases e
 ·refine oM C.to λa b e=>⟨a,b,mvk _ _ nd.2.2.1.2.1 nd.2.2.1.2.2 e⟩
 ·refine ar C.it λo ho r=>⟨o,mvk _ _ nd.2.2.2.1.1 nd.2.2.2.1.2 ho,r⟩
end
theorem alive{M:Model}{a:Addr}{Q:Option Obj->Shared->Prop}(ho:s.heap.get? a=some o)(h:Q (some o) s):wpAny M A (loadIfAlive a) Q E s:=λΓ p hΓ=>by show Sem.wp M Γ (.loadIfAlive a _) _ _ p s;rw[Sem.wp_loadIfAlive,ho];exact (OD (M:=M) (A:=A) (E:=E) h) Γ p hΓ
section
variable{xs:Array Value}{z dc:Addr}{x:Value}
theorem wy(hA:lN A (frs.map (·.1)) 100)(C:eX frs gB da TI TO i1 cn dc fb tn' j j s.heap)(B:o8 w frs gB xs da z TI TO i1 cn dc)(o1:@LT.lt Nat _ dc cn)(hz:s.heap.get? z=some (jU .none (.bool false) TI TO))(hx:xs[j]?=some x)(hQ:∀h' tz (T:Addr) tn,eX frs gB da TI TO i1 cn dc fb tn' (j+1) (j+1) h'->h'.get? z=some (jU (rawInt T) (.bool false) TI TO)->IsPair h' T x (.int j tn)->s.heap.get? T=none->Mv [z,TO,i1,cn,dc] s.heap h'->Q (.ref T) (bp s h' tz)):
  wpAny (model pw w) A (Builtin.«zip.__next__» ⟨[.ref z],[]⟩) (λfin s'=>∃v,fin = .done (.ret v)/\Q v s') E s:=by
 have nd:=B.nd;simp only[List.nodup_cons,List.mem_cons,List.not_mem_nil,or_false,not_or,List.nodup_nil,and_true,not_false_eq_true] at nd;refine nV nd λj2 j3 j4 j5 MN=>nV j2 λzTI Gn Gp Gq Gr=>eP j3 λTITO TIi1 MO MP=>du j4 λTOi1 EK EL=>cA j5 λEM EN=>?_;clear nd j2 j3 j4 j5;have uV:∀{b o},gB.get? b=some o->b∉[z,TI,TO,i1,cn,dc]:=λe hm=>by rw[B.gW _ hm] at e;cases e
 show wpAny _ _ (field (.ref z) 2 >>= _) _ _ _;refine J' (Ov hz rfl (x:=.bool false) rfl ?_);show wpAny _ _ (field (.ref z) 3 >>= _) _ _ _;refine J' (Ov hz rfl (x:=.ref TI) rfl ?_);refine J' (PB C.ti rfl ?_);show wpAny _ _ (Builtin.SmallTypes.ownedTupleIsFree (.ref z) >>= _) _ _ _;refine J' ?_;unfold Builtin.SmallTypes.ownedTupleIsFree;refine J' (Ov hz rfl (x:=.none) rfl (OD ?_));simp only[if_true];refine J' (PI ?_);refine J' (Ov hz rfl (x:=.ref TO) rfl ?_);refine J' (wpAny_setField_rec hz (by simp) λh₁ lE ie=>?_)
 replace lE:h₁.get? z=some (jU .ellipsis (.bool false) TI TO):=lE
 have gM:=C.but B ie.extBut (by simp;exact⟨zTI,Gn,Gp,Gq,Gr⟩) (B.gW z (by simp)) (B.WF z (by simp));refine J' ?_;simp only[List.zipIdx_cons,List.zipIdx_nil,List.forIn_cons,List.forIn_nil];refine J' (J' (wpAny_onRaise ?_));show wpAny _ _ (Builtin.SmallTypes.nextOf (.ref i1) >>= _) _ _ _;refine J' (wpAny_nextOf_list_item gM.it (isList_stays gM.gb B.da) hx λh₂ yC aJ=>OD ?_);refine oM gM.to λa b yD=>?_;have PQ:∀b o,b≠i1->h₁.get? b=some o->h₂.get? b=some o:=aJ.extBut;have Ju:aU frs h₂:=gM.fr.mv (M:=[i1]) (λb hb=>by rw[List.mem_singleton.mp hb];exact B.WF i1 (by simp)) λb o hb e=>PQ b o (by simpa using hb) e;have EO:eX frs gB da TI TO i1 cn dc fb tn' (j+1) j h₂:=by refine aR gM.cn λtn rF=>?_;exact⟨λb o e=>PQ b o (λq=>uV e (by simp[q])) (gM.gb b o e),Ju,PQ _ _ TIi1 gM.ti,⟨a,b,PQ _ _ TOi1 yD⟩,yC,⟨tn,PQ _ _ (OS EM) rF⟩,PQ _ _ (OS EN) gM.dc⟩
 have yE:=PQ _ _ TOi1 yD;refine J' (PB yE rfl ?_);refine J' (wpAny_updateSeq_pair yE λh₃ qg dP=>?_)
 replace qg:IsPair h₃ TO x b:=qg
 refine J' (wpAny_letGo (OD ?_));have Ci:∀{h h':Heap}{oG lO:Nat}{p q:Value},eX frs gB da TI TO i1 cn dc fb tn' oG lO h->Heap.SameBut TO h h'->IsPair h' TO p q->eX frs gB da TI TO i1 cn dc fb tn' oG lO h':=λ{h h' oG lO p q} C hs hp=>by
  have k:=hs.extBut;refine aR C.cn λtn rF=>?_;refine ar C.it λo ho r=>?_;exact⟨λb o e=>k b o (λq=>uV e (by simp[q])) (C.gb b o e),C.fr.mv (M:=[TO]) (λb hb=>by rw[List.mem_singleton.mp hb];exact B.WF TO (by simp)) λb o hb e=>k b o (by simpa using hb) e,
   k _ _ TITO C.ti,⟨p,q,hp⟩,⟨o,k _ _ (OS TOi1) ho,r⟩,⟨tn,k _ _ (OS EK) rF⟩,k _ _ (OS EL) C.dc⟩
 have lP:=Ci EO dP qg;refine J' (J' (wpAny_onRaise ?_));show wpAny _ _ (Builtin.SmallTypes.nextOf (.ref cn) >>= _) _ _ _;refine J' (rQ (s:=(bp s h₃ s.toks)) hA lP B o1 λh₄ Jv tn MQ yF=>OD ?_);have yG:IsPair h₄ TO x b:=yF _ _ (by simp[EK,EL]) qg;refine J' (PB yG rfl ?_);refine J' (wpAny_updateSeq_pair yG λh₅ mY fC=>?_)
 replace mY:IsPair h₅ TO x (.int j tn):=mY
 have AO:=Ci MQ fC mY;refine J' (wpAny_letGo (OD (OD ?_)));refine J' (PB mY rfl ?_);refine J' (wpAny_newTuple ?_);have Cj:Mv [z,TO,i1,cn,dc] s.heap h₅:=λb o hb e=>by simp only[List.mem_cons,List.not_mem_nil,or_false,not_or] at hb;exact fC.extBut _ _ hb.2.1 (yF _ _ (by simp[hb.2.2.2.1,hb.2.2.2.2]) (dP.extBut _ _ hb.2.1 (PQ _ _ hb.2.2.1 (ie.extBut _ _ hb.1 e))))
 have yH:h₅.get? z=some (jU .ellipsis (.bool false) TI TO):=fC.extBut _ _ Gn (yF _ _ (by simp[Gq,Gr]) (dP.extBut _ _ Gn (PQ _ _ Gp lE)));have last:dR s.heap h₅:=λb o e=>by
  by_cases hb:b∈[z,TO,i1,cn,dc]
  ·exact KI hb ⟨_,yH⟩ ⟨_,mY⟩ (ar AO.it λo ho _=>⟨_,ho⟩) (aR AO.cn λtn ho=>⟨_,ho⟩) ⟨_,AO.dc⟩
  ·exact⟨o,Cj b o hb e⟩
 have nT:s.heap.get? h₅.objs.size=none:=last.none (OL (OM _));show wpAny _ _ (Builtin.SmallTypes.ownedTupleHandOut (.ref z) (.ref h₅.objs.size) >>= _) _ _ _;refine J' ?_;unfold Builtin.SmallTypes.ownedTupleHandOut;have Jw:(h₅.push {cls:=.type "tuple",data:=.seq #[x,.int j tn]}).get? z=some (jU .ellipsis (.bool false) TI TO):=K' _ yH;refine J' (wpAny_setField_rec Jw (by simp) λh₇ yI fG=>?_)
 replace yI:h₇.get? z=some (jU (rawInt h₅.objs.size) (.bool false) TI TO):=yI
 refine wpAny_setField_rec yI (by simp) λh₈ yJ Ck=>?_
 replace yJ:h₈.get? z=some (jU (rawInt h₅.objs.size) (.bool false) TI TO):=yJ
 have Pc:∀b o,b≠z->h₅.get? b=some o->h₈.get? b=some o:=λb o n e=>Ck.extBut _ _ n (fG.extBut _ _ n (K' _ e));have zl:z≠h₅.objs.size:=OI (ON yH);refine OD ⟨_,rfl,?_⟩;refine hQ h₈ Jv h₅.objs.size tn (AO.but B Pc (by simp;exact⟨zTI,Gn,Gp,Gq,Gr⟩) (B.gW z (by simp)) (B.WF z (by simp))) yJ (Ck.extBut _ _ (OS zl) (fG.extBut _ _ (OS zl) (OC _ rfl))) nT
  λb o hb e=>Pc b o (λq=>hb (by simp[q])) (Cj b o hb e)
end
section
variable{xs:Array Value}{z dc gZ:Addr}{f1:Bool}{x:Value}
theorem rR(hA:lN A (frs.map (·.1)) 100)(o1:@LT.lt Nat _ dc cn)(C:eX frs gB da TI TO i1 cn dc fb tn' j j s.heap)(B:o8 w frs gB xs da z TI TO i1 cn dc)(hz:s.heap.get? z=some (jU (rawInt gZ) (.bool f1) TI TO))(hT:s.heap.get? gZ=some oT)(hQ:∀x,xs[j]?=some x->∀h' tz (T:Addr) tn,eX frs gB da TI TO i1 cn dc fb tn' (j+1) (j+1) h'->h'.get? z=some (jU (rawInt gZ) (.bool true) TI TO)->IsPair h' T x (.int j tn)->s.heap.get? T=none->Mv [z,i1,cn,dc] s.heap h'->Q (.ref T) (bp s h' tz))(hE:xs[j]?=none->∀h' e,Mv [z,i1] s.heap h'->(∃o,h'.get? e=some o/\o.cls = .type "StopIteration")->E (.ref e) (bp s h' s.toks)):
  wpAny (model pw w) A (Builtin.«zip.__next__» ⟨[.ref z],[]⟩) (λfin s'=>∃v,fin = .done (.ret v)/\Q v s') E s:=by
 have nd:=B.nd;simp only[List.nodup_cons,List.mem_cons,List.not_mem_nil,or_false,not_or,List.nodup_nil,and_true,not_false_eq_true] at nd;refine nV nd λj2 j3 j4 j5 MN=>nV j2 λzTI Gn Gp Gq Gr=>eP j3 λTITO TIi1 MO MP=>du j4 λTOi1 EK EL=>cA j5 λEM EN=>?_;clear nd j2 j3 j4 j5;have uV:∀{b o},gB.get? b=some o->b∉[z,TI,TO,i1,cn,dc]:=λe hm=>by rw[B.gW _ hm] at e;cases e
 show wpAny _ _ (field (.ref z) 2 >>= _) _ _ _;refine J' (Ov hz rfl (x:=.bool false) rfl ?_);show wpAny _ _ (field (.ref z) 3 >>= _) _ _ _;refine J' (Ov hz rfl (x:=.ref TI) rfl ?_);refine J' (PB C.ti rfl ?_);show wpAny _ _ (Builtin.SmallTypes.ownedTupleIsFree (.ref z) >>= _) _ _ _;refine J' ?_;have free:∀{Q':Bool->Shared->Prop}{E':Value->Shared->Prop},(∀h₁,eX frs gB da TI TO i1 cn dc fb tn' j j h₁->h₁.get? z=some (jU (rawInt gZ) (.bool true) TI TO)->Mv [z] s.heap h₁->dR s.heap h₁->Q' false (bp s h₁ s.toks))->wpAny (model pw w) A (Builtin.SmallTypes.ownedTupleIsFree (.ref z)) Q' E' s:=λ{Q' E'} hQ'=>by
  unfold Builtin.SmallTypes.ownedTupleIsFree;refine J' (Ov hz rfl (x:=rawInt gZ) rfl ?_);show wpAny _ _ (loadIfAlive (Int.toNat (gZ:Int)) >>= _) _ _ _;rw[Int.toNat_natCast];refine J' (alive hT ?_);simp only[Option.isNone_some,Bool.false_eq_true,if_false];refine J' (Ov hz rfl (x:=.bool f1) rfl ?_);cases f1 with
  |false=>
   rw[if_pos (by decide)];refine J' (wpAny_setField_rec hz (by simp) λh₁ lE ie=>OD ?_);exact hQ' h₁ (C.but B ie.extBut (by simp;exact⟨zTI,Gn,Gp,Gq,Gr⟩) (B.gW z (by simp)) (B.WF z (by simp))) lE (λb o hb e=>ie.extBut b o (by simpa using hb) e) λb o e=>by
    by_cases hb:b=z
    ·subst hb;exact⟨_,lE⟩
    ·exact⟨o,ie.extBut b o hb e⟩
  |true=>
   rw[if_neg (by decide)];exact OD (hQ' s.heap C hz (λb o _ e=>e) λb o e=>⟨o,e⟩)
 refine free λh₁ gM lE Cm KU=>?_;simp only[Bool.false_eq_true,if_false,List.forIn_toArray,List.forIn_cons,List.forIn_nil];refine J' (J' (J' (Ol ?_)));show wpAny _ _ (Builtin.SmallTypes.nextOf (.ref i1) >>= _) _ _ _;cases hx:xs[j]? with
 |none=>
  refine J' (wpAny_nextOf_list_end hA.h gM.it (isList_stays gM.gb B.da) hx λh₂ e aJ he=>?_);exact hE hx h₂ e (λb o hb e=>aJ b o (λq=>hb (by simp[q])) (Cm b o (λq=>hb (by simp at q ⊢;exact .inl q)) e)) he
 |some x=>
  refine J' (wpAny_nextOf_list_item gM.it (isList_stays gM.gb B.da) hx λh₂ yC aJ=>OD ?_);have PQ:∀b o,b≠i1->h₁.get? b=some o->h₂.get? b=some o:=aJ.extBut;have EO:eX frs gB da TI TO i1 cn dc fb tn' (j+1) j h₂:=by refine aR gM.cn λtn rF=>?_;refine oM gM.to λa b EP=>?_;exact⟨λb o e=>PQ b o (λq=>uV e (by simp[q])) (gM.gb b o e),gM.fr.mv (M:=[i1]) (λb hb=>by rw[List.mem_singleton.mp hb];exact B.WF i1 (by simp)) (λb o hb e=>PQ b o (by simpa using hb) e),PQ _ _ TIi1 gM.ti,⟨a,b,PQ _ _ TOi1 EP⟩,yC,⟨tn,PQ _ _ (OS EM) rF⟩,PQ _ _ (OS EN) gM.dc⟩
  refine OD (J' (J' (Ol ?_)));show wpAny _ _ (Builtin.SmallTypes.nextOf (.ref cn) >>= _) _ _ _;refine J' (rQ (s:=(bp s h₂ s.toks)) hA EO B o1 λh₃ Jx tn lP Cn=>OD ?_);refine OD (OD ?_);show wpAny _ _ (newTuple [x,.int j tn] >>= λr=>ret r) _ _ _;refine J' (wpAny_newTuple ?_);have yK:Mv [z,i1,cn,dc] s.heap h₃:=λb o hb e=>by simp only[List.mem_cons,List.not_mem_nil,or_false,not_or] at hb;exact Cn _ _ (by simp[hb.2.2.1,hb.2.2.2]) (PQ _ _ hb.2.1 (Cm _ _ (by simpa using hb.1) e))
  have Co:h₃.get? z=some (jU (rawInt gZ) (.bool true) TI TO):=Cn _ _ (by simp[Gq,Gr]) (PQ _ _ Gp lE);have last:dR s.heap h₃:=λb o e=>by
   by_cases hb:b∈[z,i1,cn,dc]
   ·exact GL hb ⟨_,Co⟩ (ar lP.it λo ho _=>⟨_,ho⟩) (aR lP.cn λtn ho=>⟨_,ho⟩) ⟨_,lP.dc⟩
   ·exact⟨o,yK b o hb e⟩
  have up:h₃.StaysIn (h₃.push {cls:=.type "tuple",data:=.seq #[x,.int j tn]}):=λb o e=>K' _ e;refine OD ⟨_,rfl,?_⟩;refine aR lP.cn λJy rF=>?_;refine oM lP.to λa b EP=>?_;refine ar lP.it λoi wz ri=>?_;exact hQ x hx (h₃.push {cls:=.type "tuple",data:=.seq #[x,.int j tn]}) Jx h₃.objs.size tn ⟨ai lP.gb up,lP.fr.mv (M:=[]) (λb hb=>nomatch hb) (λb o _ e=>up b o e),up _ _ lP.ti,⟨a,b,up _ _ EP⟩,⟨oi,up _ _ wz,ri⟩,⟨Jy,up _ _ rF⟩,up _ _ lP.dc⟩
   (up _ _ Co) (OC _ rfl) (last.none (OL (OM _))) λb o hb e=>up _ _ (yK b o hb e)
def rS(gB:Heap)(W:List Addr)(xs:Array Value)(h:Heap)(acc:List Value):Prop:=∀(i:Nat) v,acc[i]?=some v->∃T x tn,v = .ref T/\xs[i]?=some x/\IsPair h T x (.int i tn)/\T∉W/\gB.get? T=none
structure ZSt(frs:Frs)(gB:Heap)(xs:Array Value)(S da z TI TO i1 cn dc:Addr)(fb:Bool)(tn':Tok)(s₀:Shared)(acc:List Value)(s:Shared):Prop where
 core:eX frs gB da TI TO i1 cn dc fb tn' acc.length acc.length s.heap
 zz:(acc=[]/\s.heap.get? z=some (jU .none (.bool false) TI TO))∨acc≠[]/\∃(gZ:Addr)(oT:Obj)(f1:Bool),s.heap.get? z=some (jU (rawInt gZ) (.bool f1) TI TO)/\s.heap.get? gZ=some oT/\gZ∉[S,z,TI,TO,i1,cn,dc]
 tM:rS gB [S,z,TI,TO,i1,cn,dc] xs s.heap acc
 rest:s.gens=s₀.gens/\s.drawn=s₀.drawn/\s.os=s₀.os
structure MR(frs:Frs)(gB:Heap)(xs:Array Value)(W:List Addr)(s₀:Shared)(acc:List Value)(s:Shared):Prop where
 gb:gB.StaysIn s.heap
 fr:aU frs s.heap
 tM:rS gB W xs s.heap acc
 rest:s.gens=s₀.gens/\s.drawn=s₀.drawn/\s.os=s₀.os
theorem lN.le{m:Nat}(x:lN A envs n)(h:n<=m):lN A envs m:=⟨x.h,x.f,x.d,OB x.u h⟩
theorem rS.keep{W:List Addr}{acc:List Value}(T:rS gB W xs h acc)(hM:∀b∈M,b∈W)(k:Mv M h h'):rS gB W xs h' acc:=λi v hv=>by refine ez (T i v hv) λT' x tn j1=>nV j1 λe ex hp hw hg=>?_;clear j1;exact⟨T',x,tn,e,ex,k _ _ (λhm=>hw (hM _ hm)) hp,hw,hg⟩
theorem rS.snoc{W:List Addr}{acc:List Value}{T:Addr}(X:rS gB W xs h acc)(hx:xs[acc.length]?=some x)(hp:IsPair h T x (.int acc.length tn))(hw:T∉W)(hg:gB.get? T=none):rS gB W xs h (acc++[.ref T]):=λi v hv=>by
 rw[List.getElem?_append] at hv;split at hv
 ·exact X i v hv
 ·rename_i hi
  have:i=acc.length:=by have:=(List.getElem?_eq_some_iff.mp hv).1;simp at this;omega
  subst this;simp at hv;exact⟨T,x,tn,hv.symm,hx,hp,hw,hg⟩
theorem AP{S:Addr}(hA:lN A (frs.map (·.1)) 90)(o1:@LT.lt Nat _ dc cn)(B:o8 w frs gB xs da z TI TO i1 cn dc)(hS:gB.get? S=none/\S∉aS frs/\S∉[z,TI,TO,i1,cn,dc])(hn:0<xs.size):
  Src w A z S xs.size (ZSt frs gB xs S da z TI TO i1 cn dc fb tn' s₀) (MR frs gB xs [S,z,TI,TO,i1,cn,dc] s₀):=by
 refine du hS λhS1 hS2 hS3=>?_;clear hS;have nz:z≠S:=λq=>hS3 (by simp[q]);have uW:∀{h:Heap}{T:Addr},gB.StaysIn h->h.get? T=none->gB.get? T=none:=λk e=>by
  cases q:gB.get? _ with
  |none=>rfl
  |some o=>rw[k _ _ q] at e;cases e
 refine⟨λacc s h' tk st k=>?_,λacc s Q E hl st Jz hQ=>?_,λacc s Q E hl st hQ=>?_⟩
 ·refine⟨st.core.but B k (λhm=>hS3 (List.mem_cons_of_mem _ hm)) hS1 hS2,?_,st.tM.keep (M:=[S]) (by simp) (λb o hb e=>k b o (by simpa using hb) e),st.rest⟩
  rcases st.zz with Iy|Iv<;>(first|(refine cA Iy λe hz=>?_;clear Iy)| (refine cA Iv λne Iw=>bf Iw λgZ oT f1 hz hT hw=>?_;clear Iv Iw))
  ·exact .inl ⟨e,k _ _ nz hz⟩
  ·exact .inr ⟨ne,gZ,oT,f1,k _ _ nz hz,k _ _ (λq=>hw (by simp[q])) hT,hw⟩
 ·refine aR Jz ?_;clear Jz;intro oS Jz
  have nW:∀{T:Addr},s.heap.get? T=none->T∉[S,z,TI,TO,i1,cn,dc]:=λ{T} e hm=>by
   have C:=st.core;obtain⟨oz,hz⟩:∃o,s.heap.get? z=some o:=by (rcases st.zz with Ef|zP<;>(first|(refine cA Ef λ_ hz=>?_;clear Ef)| (refine cA zP λ_ F8=>aV F8 λ_ _ _ hz _=>?_;clear zP F8)))<;>exact⟨_,hz⟩
   refine aR C.cn λtn rF=>?_;refine oM C.to λa b EP=>?_;refine ar C.it λoi wz _=>?_;simp only[List.mem_cons,List.not_mem_nil,or_false] at hm;rcases hm with sF|sF|sF|sF|sF|sF|sF<;>(replace sF:=OK sF;subst sF)
   ·rw[Jz] at e;cases e
   ·rw[hz] at e;cases e
   ·cases e.symm.trans C.ti
   ·cases e.symm.trans EP
   ·rw[wz] at e;cases e
   ·rw[rF] at e;cases e
   ·rw[C.dc] at e;cases e
  have hT:s.TypeIs (.ref z) "zip":=by (rcases st.zz with sY|Az<;>(first|(refine cA sY λ_ hz=>?_;clear sY)| (refine cA Az λ_ w0=>aV w0 λ_ _ _ hz _=>?_;clear Az w0)))<;>exact⟨_,hz,rfl⟩
  have hx:xs[acc.length]?=some xs[acc.length]:=Array.getElem?_eq_getElem hl;unfold pyNext;rcases st.zz with pY|ro<;>(first|(refine cA pY λe hz=>?_;clear pY)| (refine cA ro λne pX=>bf pX λgZ oT f1 hz uX hw=>?_;clear ro pX))
  ·refine J' (wpAny_attempt (wpAny_callSpecial?_slot (name:=Str.ofString "__next__") hT F.slot_zip_next (wpAny_call_entry F.slot_zip_next hT F.entry_zip_next
    (wy (hA.in1.le (by omega)) st.core B o1 hz hx λh' tz T tn C' xP hp nT mv=>OD ?_) (F.args_zip_next_1 _))))
   refine hQ _ _ ⟨by simpa using C',.inr ⟨by simp,T,_,false,xP,hp,nW nT⟩,(st.tM.keep (M:=[z,TO,i1,cn,dc]) (by simp) mv).snoc hx hp (nW nT) (uW st.core.gb nT),st.rest⟩ λo e=>mv _ _ (λhm=>hS3 (by simp at hm ⊢;(rcases hm with jc|jc|jc|jc|jc<;>(replace jc:=OK jc;subst jc))<;>simp)) e
  ·refine J' (wpAny_attempt (wpAny_callSpecial?_slot (name:=Str.ofString "__next__") hT F.slot_zip_next (wpAny_call_entry F.slot_zip_next hT F.entry_zip_next
    (rR (hA.in1.le (by omega)) o1 st.core B hz uX (λx hx' h' tz T tn C' xP hp nT mv=>OD ?_) (λe=>by rw[hx] at e;cases e)) (F.args_zip_next_1 _))))
   refine hQ _ _ ⟨by simpa using C',.inr ⟨by simp,gZ,oT,true,xP,mv _ _ (λhm=>hw (by simp at hm ⊢;(rcases hm with iY|iY|iY|iY<;>(replace iY:=OK iY;subst iY))<;>simp)) uX,hw⟩,(st.tM.keep (M:=[z,i1,cn,dc]) (by simp) mv).snoc hx' hp (nW nT) (uW st.core.gb nT),st.rest⟩ λo e=>mv _ _ (λhm=>hS3 (by simp at hm ⊢;(rcases hm with eR|eR|eR|eR<;>(replace eR:=OK eR;subst eR))<;>simp)) e
 ·have hT:s.TypeIs (.ref z) "zip":=by (rcases st.zz with j9|eS<;>(first|(refine cA j9 λ_ hz=>?_;clear j9)| (refine cA eS λ_ ib=>aV ib λ_ _ _ hz _=>?_;clear eS ib)))<;>exact⟨_,hz,rfl⟩
  have hx:xs[acc.length]?=none:=by rw[hl];simp
  rcases st.zz with j5|j6<;>(first|(refine cA j5 λe hz=>?_;clear j5)| (refine cA j6 λne j7=>bf j7 λgZ oT f1 hz uX hw=>?_;clear j6 j7))
  ·subst e;simp at hl;omega
  ·unfold pyNext
   refine J' (wpAny_attempt (wpAny_callSpecial?_slot (name:=Str.ofString "__next__") hT F.slot_zip_next (wpAny_call_entry F.slot_zip_next hT F.entry_zip_next
    (rR (hA.in1.le (by omega)) o1 st.core B hz uX (λx hx'=>by rw[hx] at hx';cases hx') (λ_ h' e mv he=>?_)) (F.args_zip_next_1 _))))
   refine ar he λo ho hc=>?_;clear he;refine J' (wpAny_isInstance (T:="StopIteration") (b:=true) ⟨o,ho,hc⟩ isSubtype_stop ?_);refine OD (hQ _ ⟨λb o e=>mv b o (λhm=>?_) (st.core.gb b o e),st.core.fr.mv (λb hb=>B.WF b (by simp at hb ⊢;(rcases hb with j3|j3<;>(replace j3:=OK j3;subst j3))<;>simp)) mv,st.tM.keep (M:=[z,i1]) (by simp) mv,st.rest⟩ λo e=>mv _ _ (λhm=>hS3 (by simp at hm ⊢;(rcases hm with j2|j2<;>(replace j2:=OK j2;subst j2))<;>simp)) e);rw[B.gW b (by simp at hm ⊢;(rcases hm with j1|j1<;>(replace j1:=Eq.symm j1;subst j1))<;>simp)] at e;cases e
end
noncomputable def mZ(n:Nat)(lt:Nat->Nat->Bool):KasT α->Option α
 | .ret a=>some a
 | .ask i j k=>if i<n/\j<n/\i≠j then mZ n lt (k (lt i j)) else none
noncomputable def bump(k x:Nat):Nat:=if x<k then x else x+1
noncomputable def fJ:Nat->List (List Nat)
 |0=>[[]]
 |n+1=>(fJ n).flatMap λr=>(List.range (n+1)).map λk=>r.map (bump k)++[k]
noncomputable def jv(n:Nat)(r:List Nat):Bool:=
 match mZ n (λi j=>decide (r.getD i 0<r.getD j 0)) (kas_sort n) with
 |some p=>p.toList.map (λi=>r.getD i 0)==List.range n&&p.toList.all (· < n)
 |none=>false
theorem ok2:(fJ 2).all (jv 2)=true:=by decide+kernel
theorem ok3:(fJ 3).all (jv 3)=true:=by decide+kernel
theorem ok4:(fJ 4).all (jv 4)=true:=by decide+kernel
theorem ok5:(fJ 5).all (jv 5)=true:=by decide+kernel
theorem ok6:(fJ 6).all (jv 6)=true:=by decide+kernel
theorem ER(h2:2<=n)(h6:n<=6):(fJ n).all (jv n)=true:=by
 have:n=2∨n=3∨n=4∨n=5∨n=6:=by omega
 rcases this with j1|j1|j1|j1|j1<;>(replace j1:=OK j1;subst j1)
 ·exact ok2
 ·exact ok3
 ·exact ok4
 ·exact ok5
 ·exact ok6
structure LtO(n:Nat)(lt:Nat->Nat->Bool):Prop where
 tr:∀i j k,lt i j=true->lt j k=true->lt i k=true
 tot:∀i j,i<n->j<n->i≠j->lt i j = !lt j i
theorem least(n:Nat)(r:List Nat)(P:Nat->Bool)(hr:∀i,i<n->r.getD i 0<n):∀m,m<=n->∃k,k<=n/\(∀i,i<m->P i=true->k<=r.getD i 0)/\(k=n∨∃i,i<m/\P i=true/\k=r.getD i 0):=by
 intro m;induction m with
 |zero=>intro _;exact⟨n,OM _,λi hi=>absurd hi (PE _),.inl rfl⟩
 |succ m ih=>
  intro hm;refine bl (ih (by omega)) λk hk h1 h2=>?_;by_cases hp:P m=true/\r.getD m 0<k
  ·refine⟨r.getD m 0,PG (hr m (by omega)),λi hi yL=>?_,.inr ⟨m,by omega,hp.1,rfl⟩⟩
   by_cases e:i=m
   ·subst e;exact OM _
   ·have:=h1 i (by omega) yL;omega
  ·refine⟨k,hk,λi hi yL=>?_,?_⟩
   ·by_cases e:i=m
    ·subst e
     have:¬r.getD i 0<k:=λq=>hp ⟨yL,q⟩;omega
    ·exact h1 i (by omega) yL
   ·rcases h2 with h2|j2<;>(first|(refine bl j2 λi hi yL e=>?_;clear j2)|skip)
    ·exact .inl h2
    ·exact .inr ⟨i,by omega,yL,e⟩
theorem wA(lt:Nat->Nat->Bool):∀n,LtO n lt->∃r,r∈fJ n/\r.length=n/\(∀i,i<n->r.getD i 0<n)/\∀i j,i<n->j<n->i≠j->lt i j=decide (r.getD i 0<r.getD j 0):=by
 intro n;induction n with
 |zero=>intro _;exact⟨[],.head _,rfl,λi hi=>absurd hi (PE _),λi _ hi=>absurd hi (PE _)⟩
 |succ n ih=>
  intro O;refine jB (ih ⟨O.tr,λi j hi hj=>O.tot i j (by omega) (by omega)⟩) λr hm hl hr ho=>?_;refine bl (least n r (lt n) hr n (OM _)) λk hk h1 h2=>?_;have low:∀i,i<n->(r.map (bump k)++[k]).getD i 0=bump k (r.getD i 0):=λi hi=>by simp only[List.getD_eq_getElem?_getD];rw[List.getElem?_append_left (by simpa [hl] using hi),List.getElem?_map,List.getElem?_eq_getElem (by omega)];rfl
  have top:(r.map (bump k)++[k]).getD n 0=k:=by simp only[List.getD_eq_getElem?_getD];rw[List.getElem?_append_right (by simp[hl])];simp[hl]
  have yes:∀i,i<n->lt n i=true->k<bump k (r.getD i 0):=λi hi e=>by have:=h1 i hi e;unfold bump;split<;>omega
  have no:∀i,i<n->lt n i=false->bump k (r.getD i 0)<k:=λi hi e=>by
   have cN:lt i n=true:=by rw[O.tot i n (by omega) (by omega) (by omega),e];rfl
   have:r.getD i 0<k:=by
    rcases h2 with h2|j2<;>(first|(refine bl j2 λj hj hpj e2=>?_;clear j2)|skip)
    ·have:=hr i hi;omega
    ·have q:=O.tr i n j cN hpj
     have ne:i≠j:=λq2=>by subst q2;rw[e] at hpj;cases hpj
     rw[ho i j hi hj ne] at q;have:=of_decide_eq_true q;omega
   unfold bump;split<;>omega
  refine⟨r.map (bump k)++[k],List.mem_flatMap.mpr ⟨r,hm,List.mem_map.mpr ⟨k,List.mem_range.mpr (by omega),rfl⟩⟩,by simp[hl],λi hi=>?_,λi j hi hj qF=>?_⟩
  ·by_cases e:i=n
   ·subst e;rw[top];omega
   ·rw[low i (by omega)]
    have:=hr i (by omega);unfold bump;split<;>omega
  ·by_cases e:i=n
   ·subst e
    rw[top,low j (by omega)];cases q:lt i j with
    |true=>exact (decide_eq_true (yes j (by omega) q)).symm
    |false=>exact (decide_eq_false (Nat.not_lt.mpr (PG (no j (by omega) q)))).symm
   ·by_cases e2:j=n
    ·subst e2
     rw[top,low i (by omega)];have q2:=O.tot i j hi hj qF;cases q:lt j i with
     |true=>rw[q2,q];exact (decide_eq_false (Nat.not_lt.mpr (PG (yes i (by omega) q)))).symm
     |false=>rw[q2,q];exact (decide_eq_true (no i (by omega) q)).symm
    ·rw[low i (by omega),low j (by omega),ho i j (by omega) (by omega) qF]
     generalize r.getD i 0=u;generalize r.getD j 0=v;unfold bump;split<;>split<;>simp<;>omega
theorem m6{lt lt':Nat->Nat->Bool}(h:∀i j,i<n->j<n->i≠j->lt i j=lt' i j):∀t:KasT α,mZ n lt t=mZ n lt' t
 | .ret _=>rfl
 | .ask i j k=>by
  show (if i<n/\j<n/\i≠j then mZ n lt (k (lt i j)) else none)=(if i<n/\j<n/\i≠j then mZ n lt' (k (lt' i j)) else none);split
  ·rename_i c
   rw[h i j c.1 c.2.1 c.2.2];exact m6 h _
  ·rfl
theorem wB{lt:Nat->Nat->Bool}(O:LtO n lt)(h2:2<=n)(h6:n<=6):
  ∃p:Array Nat,mZ n lt (kas_sort n)=some p/\p.toList.length=n/\(∀i,i∈p.toList<->i<n)/\p.toList.Nodup/\p.toList.Pairwise (λi j=>lt i j=true):=by
 refine jB (wA lt n O) λr hm hl hr ho=>?_;have ok:=List.all_eq_true.mp (ER h2 h6) r hm;unfold jv at ok;rw[<-m6 ho] at ok;cases hp:mZ n lt (kas_sort n) with
 |none=>rw[hp] at ok;cases ok
 |some p=>
  rw[hp] at ok;simp only[Bool.and_eq_true,beq_iff_eq,List.all_eq_true,decide_eq_true_eq] at ok;refine cA ok λe hb=>?_;clear ok;have inj:∀i j,i<n->j<n->r.getD i 0=r.getD j 0->i=j:=λi j hi hj q=>by apply Classical.byContradiction;intro ne;have a:=ho i j hi hj ne;have b:=ho j i hj hi (OS ne);have c:=O.tot i j hi hj ne;rw[q] at a;rw[<-q] at b;simp at a b;rw[a,b] at c;cases c
  have cN:(p.toList.map λi=>r.getD i 0).Pairwise (· < ·):=by rw[e];exact List.pairwise_lt_range
  rw[List.pairwise_map] at cN;refine⟨p,rfl,by have:=congrArg List.length e;simpa using this,λi=>⟨hb i,λhi=>?_⟩,?_,?_⟩
  ·have hm:r.getD i 0∈List.range n:=List.mem_range.mpr (hr i hi)
   rw[<-e] at hm;refine ar (OF hm) λj hj q=>?_;rw[<-inj j i (hb j hj) hi q];exact hj
  ·exact cN.imp λ{a b} q e=>by subst e;exact OQ _ q
  ·exact List.Pairwise.imp_of_mem (λ{a b} ha eJ q=>by rw[ho a b (hb a ha) (hb b eJ) (λe=>by subst e;exact Nat.lt_irrefl _ q)];exact decide_eq_true q) cN
theorem o9{lt:Nat->Nat->Bool}{cmp:Nat->Nat->(Bool->Shared->Prop)->Shared->Prop}(hc:∀i j C,i<n->j<n->i≠j->C (lt i j) s->cmp i j C s){Q:α->Shared->Prop}{a:α}(hq:Q a s):
  ∀t:KasT α,mZ n lt t=some a->t.kasWp cmp Q s
 | .ret b,h=>by cases h;exact hq
 | .ask i j k,h=>by
  have h':(if i<n/\j<n/\i≠j then mZ n lt (k (lt i j)) else none)=some a:=h;split at h'
  ·rename_i c
   exact hc i j _ c.1 c.2.1 c.2.2 (o9 hc hq _ h')
  ·cases h'
noncomputable def zS(n:Nat)(b:Bool)(ns:List Int)(i j:Nat):Bool:=
 let u:=if b then n-1-i else i
 let v:=if b then n-1-j else j
 decide (ns.getD u 0<ns.getD v 0)||(ns.getD u 0==ns.getD v 0&&decide (if b then n-1-i<n-1-j else i<j))
def Cp(h:Heap)(ns:List Int)(vs:List Value):Prop:=vs.length=ns.length/\∀i,i<ns.length->∃T t u,vs.getD i .none = .ref T/\IsPair h T (.int (ns.getD i 0) t) (.int i u)
theorem lex_trans{b:Int}{k:Nat}(h1:a<b∨a=b/\i<j)(h2:b<c∨b=c/\j<k):a<c∨a=c/\i<k:=by
 rcases h1 with h1|h1
 ·rcases h2 with h2|h2
  ·exact .inl (Int.lt_trans h1 h2)
  ·exact .inl (h2.1▸h1)
 ·rcases h2 with h2|h2
  ·exact .inl (h1.1▸h2)
  ·exact .inr ⟨h1.1.trans h2.1,Om h1.2 h2.2⟩
theorem uY{b:Int}(h:i≠j):(a<b∨a=b/\i<j)<->¬b<a/\(b=a->¬j<i):=by
 constructor
 ·intro x
  rcases x with x|x
  ·exact⟨Int.lt_asymm x,λe=>absurd (e▸x) (Int.lt_irrefl _)⟩
  ·exact⟨x.1▸Int.lt_irrefl _,λ_=>Nat.lt_asymm x.2⟩
 ·intro x
  rcases Int.lt_or_eq_of_le (Int.not_lt.mp x.1) with q|q
  ·exact .inl q
  ·exact .inr ⟨q,Nat.lt_of_le_of_ne (Nat.le_of_not_lt (x.2 q.symm)) h⟩
theorem AQ(n:Nat)(b:Bool)(ns:List Int):LtO n (λi j=>decide (i<n)&&(decide (j<n)&&zS n b ns i j)):=by
 refine⟨λi j k h1 h2=>?_,λi j hi hj qF=>?_⟩
 ·simp only[Bool.and_eq_true,decide_eq_true_eq] at h1 h2 ⊢
  refine⟨h1.1,h2.2.1,?_⟩;refine du h1 ?_;clear h1;intro hi hj h1;refine du h2 ?_;clear h2;intro _ hk h2;cases b with
  |false=>
   simp only[zS,Bool.false_eq_true,if_false,Bool.or_eq_true,Bool.and_eq_true,decide_eq_true_eq,beq_iff_eq] at h1 h2 ⊢;exact lex_trans h1 h2
  |true=>
   simp only[zS,if_true,Bool.or_eq_true,Bool.and_eq_true,decide_eq_true_eq,beq_iff_eq] at h1 h2 ⊢;exact lex_trans h1 h2
 ·simp only[hi,hj,decide_true,Bool.true_and]
  cases b with
  |false=>
   apply Bool.eq_iff_iff.mpr;simp only[zS,Bool.false_eq_true,if_false,Bool.or_eq_true,Bool.and_eq_true,decide_eq_true_eq,beq_iff_eq,Bool.not_eq_true',Bool.or_eq_false_iff,Bool.and_eq_false_imp,decide_eq_false_iff_not];exact uY qF
  |true=>
   apply Bool.eq_iff_iff.mpr;simp only[zS,if_true,Bool.or_eq_true,Bool.and_eq_true,decide_eq_true_eq,beq_iff_eq,Bool.not_eq_true',Bool.or_eq_false_iff,Bool.and_eq_false_imp,decide_eq_false_iff_not];exact uY (λe=>qF (by first|exact sbI hi hj e|exact (sbI hj hi e).symm|omega))
theorem rT{x y:Addr}{u':Tok}{Q:Bool->Shared->Prop}(hx:IsPair s.heap x (.int a t) (.int i u))(hy:IsPair s.heap y (.int c t') (.int j u'))(h:Q (decide (a<c)||(a==c&&decide (i<j))) s):wpAny (model prog w) A (keyLt' (tuples' true) (.ref x) (.ref y)) Q E s:=by
 refine kat_lt hx rfl hy rfl ?_;show KatLex prog w A true _ Q [(.int a t,.int c t'),(.int i u,.int j u')] 0 s;refine kat_cons (wpAny_eqBool_int ?_);by_cases e:a=c
 ·subst e
  rw[show ((a==a)=true) from by simp];refine kat_yes (kat_cons (wpAny_eqBool_int ?_));by_cases e2:i=j
  ·subst e2
   rw[show (((i:Int)==(i:Int))=true) from by simp];refine kat_yes (kat_nil ?_);simpa using h
  ·rw[show (((i:Int)==(j:Int))=false) from by simp;omega]
   refine kat_no (kat_one _ _ (wpAny_lt_int ?_));have e3:decide ((i:Int)<(j:Int))=decide (i<j):=by simp
   show Q (decide ((i:Int)<(j:Int))) s;rw[e3];simpa using h
 ·rw[show ((a==c)=false) from by simpa using e]
  refine kat_no (oneLt_int ?_);have e2:(a==c)=false:=by simpa using e
  rw[e2] at h;simpa using h
theorem m7(l:List α)(d:α)(i:Nat)(hi:i<l.length):l.reverse.getD i d=l.getD (l.length-1-i) d:=by simp only[List.getD_eq_getElem?_getD];rw[List.getElem?_reverse hi]
structure iv(b:Bool)(ns:List Int)(q:List Nat):Prop where
 len:q.length=ns.length
 mem:∀i,i∈q<->i<ns.length
 nd:q.Nodup
 ord:q.Pairwise λi j=>if b then ns.getD j 0<=ns.getD i 0 else ns.getD i 0<=ns.getD j 0
theorem wC{b:Bool}{ns:List Int}(hv:vs.length=ns.length)(h2:2<=ns.length)(h6:ns.length<=6):
  ∃(p:Array Nat)(q:List Nat),mZ ns.length (λi j=>decide (i<ns.length)&&(decide (j<ns.length)&&zS ns.length b ns i j)) (kas_sort ns.length)=some p/\iv b ns q/\
   katRev b (p.toList.map λi=>(katRev b vs).getD i Value.none)=q.map (λi=>vs.getD i Value.none)/\p.toList.length=ns.length:=by
 refine aR (wB (AQ ns.length b ns) h2 h6) λp j1=>nV j1 λe hl hm hn ho=>?_;clear j1;cases b with
 |false=>
  refine⟨p,p.toList,e,⟨hl,hm,hn,ho.imp λ{i j} q=>?_⟩,rfl,hl⟩;simp only[zS,Bool.false_eq_true,if_false,Bool.or_eq_true,Bool.and_eq_true,decide_eq_true_eq,beq_iff_eq] at q ⊢;omega
 |true=>
  refine⟨p,(p.toList.map λi=>ns.length-1-i).reverse,e,⟨by simpa using hl,λi=>?_,?_,?_⟩,?_,hl⟩
  ·simp only[List.mem_reverse,List.mem_map]
   constructor
   ·rintro⟨a,ha,rfl⟩;exact OV (Nat.sub_le _ a) (Nat.pred_lt (Oy (Ou (Nat.succ_pos 1) h2)))
   ·intro hi;exact⟨ns.length-1-i,(hm _).mpr (by omega),sbS hi⟩
  ·unfold List.Nodup
   rw[List.pairwise_reverse,List.pairwise_map];exact List.Pairwise.imp_of_mem (λ{a c} ha hc q e=>q (sbI ((hm a).mp ha) ((hm c).mp hc) e.symm)) hn
  ·rw[List.pairwise_reverse,List.pairwise_map]
   refine ho.imp λ{i j} q=>?_;simp only[zS,if_true,Bool.or_eq_true,Bool.and_eq_true,decide_eq_true_eq,beq_iff_eq] at q ⊢;omega
  ·show (p.toList.map λi=>vs.reverse.getD i Value.none).reverse=_
   rw[<-List.map_reverse,<-List.map_reverse,List.map_map];refine List.map_congr_left λi hi=>?_;have:=(hm i).mp (List.mem_reverse.mp hi);show vs.reverse.getD i Value.none=vs.getD (ns.length-1-i) Value.none;rw[m7 _ _ _ (by omega),hv]
theorem oH{b:Bool}{ns:List Int}(hp:Cp s.heap ns vs)(hi:i<ns.length)(hj:j<ns.length){C:Bool->Shared->Prop}(h:C (zS ns.length b ns i j) s):
  kas_ask prog w A (tuples' true) (katRev b vs) i j C s:=by
 have hl:=hp.1;cases b with
 |false=>
  refine aV (hp.2 i hi) λT t u e hT=>?_;refine aV (hp.2 j hj) λT' t' u' e' H5=>?_;show wpAny _ _ (keyLt' _ (vs.getD i .none) (vs.getD j .none)) _ _ _;rw[e,e'];exact rT hT H5 h
 |true=>
  refine aV (hp.2 (ns.length-1-i) (by omega)) λT t u e hT=>?_;refine aV (hp.2 (ns.length-1-j) (by omega)) λT' t' u' e' H5=>?_;show wpAny _ _ (keyLt' _ (vs.reverse.getD i .none) (vs.reverse.getD j .none)) _ _ _;rw[m7 _ _ _ (by omega),m7 _ _ _ (by omega),hl,e,e'];exact rT hT H5 h
theorem m8:∀(vs fs:List Value),vs.length=fs.length->(∀i,i<vs.length->∃T a c,vs.getD i .none = .ref T/\IsPair h T a c/\fs.getD i .none=a)->KatTups h vs fs
 | [],[],_,_=>.nil
 |v::vs,f::fs,hl,hp=>by refine bf (hp 0 (Nat.succ_pos _)) λT a c e hT e2=>?_;simp at e e2;subst e;subst e2;refine KatTups.cons hT rfl rfl rfl (m8 vs fs (by simpa using hl) λi hi=>?_);have:=hp (i+1) (by simpa using hi);simpa using this
 | [],_::_,hl,_=>by simp at hl
 |_::_,[],hl,_=>by simp at hl
theorem lQ{a:Addr}{ns:List Int}{b:Bool}{P:Fin->Shared->Prop}(ho:s.heap.get? a=some (seqObj "list" vs.toArray n))(hp:Cp s.heap ns vs)(h2:2<=ns.length)(h6:ns.length<=6)(h:∀h' q c,Mv [a] s.heap h'->iv b ns q->h'.get? a=some (seqObj "list" (q.map λi=>vs.getD i Value.none).toArray c)->P (.done (.ret .none)) (bp s h' s.toks)):
  wpAny (model prog w) A (Builtin.«list.sort» ⟨[.ref a],[(Str.ofString "reverse",.bool b)]⟩) P E s:=by
 rw[list_sort_rev];have hlen:vs.length=ns.length:=hp.1;have ha:a<s.heap.objs.size:=ON ho;have ES:∀{T x y},IsPair s.heap T x y->T≠a:=λ{T x y} e q=>by have e':s.heap.get? T=_:=e;rw[q,ho] at e';simp[seqObj] at e'
 refine J' (listItems_at ho rfl ?_);refine J' (listUpdate_at ho rfl ?_ (by rw[List.size_toArray,sizeLine_eq];omega) (PF _));obtain⟨e1,ho1⟩:∃e1,(s.heap.update a (Obj.mapSeq λ_=>(#[]:Array Value))).get? a=some (seqObj "list" #[] e1):=⟨_,get?_update_seq ho λ_=>#[]⟩;refine J' (seqEpoch_at ho1 rfl ?_);refine J' (wpAny_newTuple ?_ (by show vs.length<=_;rw[sizeLine_eq];omega));refine J' (wpAny_newList ?_ (PF _));refine Ol ?_;have ho6:(((s.heap.update a (Obj.mapSeq λ_=>(#[]:Array Value))).push (seqObj "tuple" vs.toArray 0)).push (seqObj "list" #[] 0)).get? a=some (seqObj "list" #[] e1):=by exact K' _ (K' _ ho1)
 have mv:Mv [a] s.heap (((s.heap.update a (Obj.mapSeq λ_=>(#[]:Array Value))).push (seqObj "tuple" vs.toArray 0)).push (seqObj "list" #[] 0)):=λc o hc e=>
  K' _ (K' _ ((OZ _ _ (λq=>hc (by simp[q]))).trans e))
 show wpAny (model prog w) A _ P E (bp s (((s.heap.update a (Obj.mapSeq λ_=>(#[]:Array Value))).push (seqObj "tuple" vs.toArray 0)).push (seqObj "list" #[] 0)) s.toks);generalize hh:((s.heap.update a (Obj.mapSeq λ_=>(#[]:Array Value))).push (seqObj "tuple" vs.toArray 0)).push (seqObj "list" #[] 0)=h₁ at ho6 mv;have hp1:Cp h₁ ns vs:=⟨hp.1,λi hi=>by refine aV (hp.2 i hi) λT t u e hT=>?_;exact⟨T,t,u,e,mv _ _ (by simpa using ES hT) hT⟩⟩
 dsimp only;have step:∀t:Sem Fin,wpAny (model prog w) A t P E (bp s h₁ s.toks)->
   wpAny (model prog w) A (if b=true then (do let _ <-rule "list.sort.reverse";t) else t) P E (bp s h₁ s.toks):=by
  intro t ht;split
  ·exact J' (PI ht)
  ·exact ht
 refine step _ ?_;have hn2:¬vs.toArray.size<2:=by rw[List.size_toArray];omega
 rw[if_neg hn2,if_neg hn2];have hT:∀v∈ns.zipIdx.map (λp=>(vs.getD p.2 .none)),True:=λ_ _=>trivial;obtain⟨fs,hfl,hf⟩:∃fs:List Value,fs.length=vs.length/\∀i,i<vs.length->∃T c t,vs.getD i .none = .ref T/\IsPair h₁ T (.int (ns.getD i 0) t) c/\fs.getD i .none = .int (ns.getD i 0) t:=by
  clear hT;have:∀m,m<=vs.length->∃fs:List Value,fs.length=m/\∀i,i<m->∃T c t,vs.getD i .none = .ref T/\IsPair h₁ T (.int (ns.getD i 0) t) c/\fs.getD i .none = .int (ns.getD i 0) t:=by
   intro m;induction m with
   |zero=>intro _;exact⟨[],rfl,λi hi=>absurd hi (PE _)⟩
   |succ m ih=>
    intro hm;refine ar (ih (by omega)) λfs hl hf=>?_;refine aV (hp1.2 m (by omega)) λT t u e hT=>?_;refine⟨fs++[.int (ns.getD m 0) t],by simp[hl],λi hi=>?_⟩;by_cases q:i=m
    ·subst q
     refine⟨T,_,t,e,hT,?_⟩;simp only[List.getD_eq_getElem?_getD];rw[List.getElem?_append_right (by omega)];simp[hl]
    ·refine bf (hf i (by omega)) λT c t e hT e2=>?_
     refine⟨T,c,t,e,hT,?_⟩;rw[<-e2];simp only[List.getD_eq_getElem?_getD];rw[List.getElem?_append_left (by omega)]
  exact this _ (OM _)
 refine J' (kat_kind (fs:=fs) (T:=.type "int") (m8 vs fs hfl.symm λi hi=>?_) (by omega) (λv hv=>?_) (by decide) ?_)
 ·refine bf (hf i hi) λT c t e hT e2=>?_
  exact⟨T,_,c,e,hT,e2⟩
 ·refine aR (List.mem_iff_getElem.mp hv) λi j4=>?_;rcases j4 with⟨hi,e⟩
  refine bf (hf i (by omega)) λT c t _ _ e2=>?_;have:fs.getD i .none=fs[i]:=by simp[hi]
  rw[<-e,<-this,e2];exact Looks.now
 refine oM (wC (b:=b) hlen h2 h6) λp q j3=>eP j3 λer hS eo zK=>?_;clear j3;have hlr:(katRev b vs).length=vs.length:=kat_len b vs;have ET:(if b=true then (vs.toArray.zip vs.toArray).reverse else vs.toArray.zip vs.toArray)=(List.toArray (katRev b vs)).zip (List.toArray (katRev b vs)):=kat_pairs (ks:=vs) b rfl;show wpAny (model prog w) A _ P E (bp s h₁ s.toks);rw[ET];refine J' (Oj (kat_run (prog:=prog) (w:=w) (A:=A) (κ:=tuples' true) (E:=E) (ks:=katRev b vs) (vs:=katRev b vs) (G:=λp' s'=>p'=p/\s'=(bp s h₁ s.toks))
  (Q:=λsU s'=>arrOf sU=p.map (kas_item ((katRev b vs).toArray.zip (katRev b vs).toArray))/\failedOf sU=none/\s'=(bp s h₁ s.toks))
  rfl (by omega) (by omega) (λp' sU s' a1 a2 a3 a4=>by refine cA a4 λj1 j2=>?_;clear a4;subst j1;subst j2;exact⟨a2,a3,rfl⟩)
  (by rw[hlr,hlen];refine o9 (n:=ns.length) (lt:=λi j=>decide (i<ns.length)&&(decide (j<ns.length)&&zS ns.length b ns i j)) (λi j C hi hj qF hC=>?_) ⟨rfl,rfl⟩ _ er;simp only[hi,hj,decide_true,Bool.true_and] at hC;exact oH hp1 hi hj hC)) ?_ λ_ _ e=>e)
 rintro⟨⟨⟩,sU⟩ s' ⟨har,hf2,rfl⟩
 dsimp only;have yM:=kat_snds rfl har;refine J' (seqEpoch_at ho6 rfl ?_);have e3:(if b=true then (List.toArray (p.toList.map λi=>(katRev b vs).getD i Value.none)).reverse else List.toArray (p.toList.map λi=>(katRev b vs).getD i Value.none))=(q.map λi=>vs.getD i Value.none).toArray:=by rw[kat_outs,eo]
 rw[yM,e3];refine J' (listUpdate_at ho6 rfl ?_ (PF _) (by show (q.map λi=>vs.getD i Value.none).toArray.size<=_;rw[List.size_toArray,List.length_map,hS.len,sizeLine_eq];omega))
 rw[hf2];simp only[bne_self_eq_false,Bool.false_eq_true,if_false];obtain⟨c2,hc2⟩:∃c2,(h₁.update a (Obj.mapSeq λ_=>(q.map λi=>vs.getD i Value.none).toArray)).get? a=some (seqObj "list" (q.map λi=>vs.getD i Value.none).toArray c2):=⟨_,get?_update_seq ho6 λ_=>(q.map λi=>vs.getD i Value.none).toArray⟩;exact OD (h _ q c2 (λc o hc e=>(OZ _ _ (λq=>hc (by simp[q]))).trans (mv c o hc e)) hS hc2)
theorem Cp.keep{ns:List Int}(p:Cp h ns vs)(k:h.StaysIn h'):Cp h' ns vs:=⟨p.1,λi hi=>by refine aV (p.2 i hi) λT t u e hT=>?_;exact⟨T,t,u,e,k _ _ hT⟩⟩
section
variable{I:Addr}{ns:List Int}{b:Bool}{St Fin:List Value->Shared->Prop}
theorem tN(W:Src w A.in1.in1 I s.heap.objs.size ns.length St Fin)(rq:∀s,St [] s->∃TI TO f,IsZip s.heap I TI TO f)(dI:St [] s)(hI:I<s.heap.objs.size)(h2:2<=ns.length)(h6:ns.length<=6)(hF:∀acc s',Fin acc s'->acc.length=ns.length->Cp s'.heap ns acc)(hQ:∀s' acc q c h',Fin acc s'->Cp h' ns acc->iv b ns q->s'.heap.StaysIn h'->s'.heap.get? s'.heap.objs.size=none->h'.get? s'.heap.objs.size=some (seqObj "list" (q.map λi=>acc.getD i Value.none).toArray c)->Q (.ref s'.heap.objs.size) (bp s' h' s'.toks)):
  wpAny (model pw w) A (call (.builtin "sorted") [.ref I] [(Str.ofString "reverse",.bool b)]) Q E s:=by
 refine call_function_entry_kw kind_sorted plain_sorted entry_sorted (args_sorted_rev _ _) ?_;unfold Builtin.«sorted»;refine J' (m:=checkCount "sorted" 1 1 _) (OD ?_);show wpAny _ A.in1 (collect (.ref I) >>= _) _ _ _;refine J' (rP W rq dI hI (by omega) λs' acc hl hf=>?_);refine J' (wpAny_newList ?_ (by rw[sizeLine_eq];omega));have hoL:(s'.heap.push (seqObj "list" acc.toArray 0)).get? s'.heap.objs.size=some (seqObj "list" acc.toArray 0):=OC _ rfl;have up:s'.heap.StaysIn (s'.heap.push (seqObj "list" acc.toArray 0)):=λb o e=>K' _ e;have hp:=(hF acc s' hf hl).keep up;have fresh:s'.heap.get? s'.heap.objs.size=none:=OL (OM _);show wpAny _ _ _ _ _ (bp s' (s'.heap.push (seqObj "list" acc.toArray 0)) s'.toks);refine J' (Ol (wpAny_call_entry_kw slot_list_sort ⟨_,hoL,rfl⟩ entry_list_sort (lQ (s:=(bp s' (s'.heap.push (seqObj "list" acc.toArray 0)) s'.toks)) (ns:=ns) (b:=b) hoL hp h2 h6 λh' q c mv hS hD=>⟨_,rfl,?_⟩) (args_list_sort_rev _ _)));have keep:s'.heap.StaysIn h':=λb o e=>mv b o (λhm=>by rw[List.mem_singleton.mp hm] at e;rw[fresh] at e;cases e) (up b o e)
 exact OD ⟨_,rfl,hQ s' acc q c h' hf ((hF acc s' hf hl).keep keep) hS keep fresh hD⟩
end
theorem jw{M:Model}{t:Sem α}{Q:α->Shared->Prop}(hh:A.handled=none)(hd:A.depth<=400)(hu:A.units<=1000)(h:wpAny M {handled:=none,depth:=400,frames:=A.frames,guards:=A.guards,units:=1000} t Q E s):wpAny M A t Q E s:=by
 rcases A with⟨ah,ad,af,ag,au⟩;dsimp only at hh hd hu h;subst hh;exact d9 hd hu h
theorem yN:bootBuiltins (Str.ofString "zip")=some (.type "zip"):=by decide+kernel
theorem wD:bootBuiltins (Str.ofString "sorted")=some (.builtin "sorted"):=by decide+kernel
section
variable{x:Str}{R:Value->Heap->Prop}
theorem Ev.xD(Hf:Ev w A h env (.Name x p) (λu _=>u=f))(kp:Kp w h f)(hc:∀h₁,h.StaysIn h₁->Cl w A h₁ f [] [] R):Ev w A h env (.Call (.Name x p) [] [] pos) R:=
 Ev.fA Hf kp kZ.nil rfl (λvs h₁ k e=>e▸hc h₁ k) rfl (λh=>by show wpAny _ _ (evalArgs f true [] []) _ _ _;have h':wpAny _ _ (spliced []) _ _ _:=h;unfold evalArgs;show wpAny _ _ (spliced [] >>= _) _ _ _;refine J' (Oj h' (λvs s x=>?_) λ_ _ x=>x);refine Ol ?_;exact J' (OD (J' (OD (OD x)))))
end
theorem bq(k:h.StaysIn h'){b:Addr}(e:h'.get? b=none):h.get? b=none:=by
 cases q:h.get? b with
 |none=>rfl
 |some o=>rw[k b o q] at e;cases e
def yO(h₀:Heap)(v:Value)(h:Heap):Prop:=∃cn dc fb tn tn',v = .ref cn/\h.get? cn=some (Ew dc 0 fb tn tn')/\h.get? dc=some emptyDict/\@LT.lt Nat _ dc cn/\h₀.get? cn=none/\h₀.get? dc=none
theorem m9:cU (yO h₀):=λv h h' k bV=>by refine qK bV λcn dc fb tn tn' j1=>eP j1 λa b c r=>⟨cn,dc,fb,tn,tn',a,k _ _ b,k _ _ c,r⟩
def EU(h₀:Heap)(da:Addr)(v:Value)(h:Heap):Prop:=∃z TI TO i1 cn dc fb tn tn',v = .ref z/\h.get? z=some (jU .none (.bool false) TI TO)/\IsPair h TI (.ref i1) (.ref cn)/\IsPair h TO .none .none/\h.IsListIter i1 da 0/\
 h.get? cn=some (Ew dc 0 fb tn tn')/\h.get? dc=some emptyDict/\@LT.lt Nat _ dc cn/\[z,TI,TO,i1,cn,dc].Nodup/\∀b∈[z,TI,TO,i1,cn,dc],h₀.get? b=none
theorem pa:cU (EU h₀ da):=λv h h' k y=>by refine CK y λz TI TO i1 cn dc fb tn tn' j1=>qL j1 λa b c d e f g r=>?_;clear y j1;exact⟨z,TI,TO,i1,cn,dc,fb,tn,tn',a,k _ _ b,k _ _ c,k _ _ d,(by refine ar e λo ho q=>⟨o,k _ _ ho,q⟩),k _ _ f,k _ _ g,r⟩
section
variable{xs:Array Value}
theorem yP(k₀:h₀.StaysIn h)(G:Gl w h)(hh:A.handled=none)(hd:A.depth<=400)(hu:A.units<=1000):Cl w A h (.ref 265) [] [] (yO h₀):=λs Q E hs hq=>
 jw hh hd hu (AH (G.mono hs).K λh' tz cn dc fb tn tn' a b k lt n1 n2=>
  hq _ h' tz k ⟨cn,dc,fb,tn,tn',rfl,a,b,lt,bq (ai k₀ hs) n1,bq (ai k₀ hs) n2⟩)
theorem AR(k₀:h₀.StaysIn h)(G:Gl w h)(hh:A.handled=none)(hd:A.depth<=400)(hu:A.units<=1000)(hl:h.IsList da xs)(hc:yO h₀ v h):Cl w A h (.type "zip") [.ref da,v] [] (EU h₀ da):=λs Q E hs hq=>by
 refine qK (m9 _ _ _ hs hc) λcn dc fb tn tn' j3=>BC j3 λj4 a b lt n1 n2=>?_;clear j3;subst j4;refine bl (isList_stays hs hl) λo ho yQ j2=>aR j2 λn AD=>?_;clear j2;rcases o with⟨oc,od,oda,osl⟩;dsimp only at yQ AD;subst yQ;subst AD;refine jw hh hd hu (AI (G.mono hs).K ho a b λh' tz z TI TO i1 q1 q2 q3 q4 k m1 m2 m3 m4 l1 l2 l3=>hq _ h' tz k
  ⟨z,TI,TO,i1,cn,dc,fb,tn,tn',rfl,q1,q2,q3,⟨_,q4,rfl,rfl⟩,k _ _ a,k _ _ b,lt,?_,?_⟩)
 ·have c1:∀{b:Addr},s.heap.get? b=none->b≠cn:=λe q=>by subst q;rw[a] at e;cases e
  have c2:∀{b:Addr},s.heap.get? b=none->b≠dc:=λe q=>by subst q;rw[b] at e;cases e
  have c3:cn≠dc:=OS (OI lt);have d1:z≠TI:=λq=>by subst q;exact OQ _ (Om l1 l2)
  have d2:z≠TO:=OS (OI l1);have d3:z≠i1:=λq=>by subst q;exact OQ _ (Om l1 (Om l3 l2))
  have d4:TI≠TO:=OI l2;have d5:TI≠i1:=OS (OI l3);have d6:TO≠i1:=λq=>by subst q;exact OQ _ (Om l2 l3)
  simp only[List.nodup_cons,List.mem_cons,List.not_mem_nil,or_false,not_or,List.nodup_nil,and_true,not_false_eq_true];exact⟨⟨d1,d2,d3,c1 m1,c2 m1⟩,⟨d4,d5,c1 m2,c2 m2⟩,⟨d6,c1 m3,c2 m3⟩,⟨c1 m4,c2 m4⟩,c3⟩
 ·intro b' hb
  have up:=ai k₀ hs;exact mL6 hb (bq up m1) (bq up m2) (bq up m3) (bq up m4) n1 n2
theorem AS(G:Gl w h)(hk:env.scope.kind = .function)(hg:env.globals=mainGlobals)(FX:env.builtins=builtinsNs)(kz:env.kindOf (sn "zip")=some .globalImplicit)(kc:env.kindOf (sn "count")=some .globalImplicit)(kd:env.kindOf (sn "data")=some .local)(hh:A.handled=none)(hd:A.depth<=400)(hu:A.units<=1000)(hn:h.Ns env.locals m)(hm:m (sn "data")=some (.ref da))(hl:h.IsList da xs):
  Ev w A h env (.Call (.Name (sn "zip") ba) [.Name (sn "data") cF,.Call (.Name (sn "count") gz) [] [] pF] [] qJ) (EU h da):=
 Ev.call2 (P₁:=λv h'=>v = .ref da/\h'.IsList da xs) (Ev.aE G (by k_is) yN hk kz hg FX (by decide)) Kp.type
  (Ev.mono (Ev.ao (v:=.ref da) hn hm hk kd) (λv h1 k1 e=>⟨e,isList_stays k1 hl⟩)) (λv h h' k q=>⟨q.1,isList_stays k q.2⟩)
  (Ev.xD (f:=.ref 265) (Ev.aD G (by k_is) hk kc hg) (Kp.K G (by k_is)) (λh₁ k=>yP k (G.mono k) hh hd hu)) m9
  (λv u h1 k1 q q'=>q.1▸AR k1 (G.mono k1) hh hd hu q.2 q')
end
def Vp(br:Heap)(xs:Array Value)(ns:List Int)(b:Bool)(D:Value)(h:Heap):Prop:=∃(a:Addr)(q:List Nat)(acc:List Value),D = .ref a/\iv b ns q/\h.IsList a (q.map λi=>acc.getD i .none).toArray/\acc.length=ns.length/\
 ∀i,i<ns.length->∃T x tn,acc.getD i .none = .ref T/\xs[i]?=some x/\IsPair h T x (.int i tn)/\br.get? T=none
theorem rU{l:List Addr}(hl:∀b∈l,qW h b){T:Addr}{x y:Value}(hx:IsPair h T x y):IsPair (hideAll h l) T x y:=by
 refine OO _ hx λhm=>?_;have ho:h.get? T=_:=hx;rcases hl T hm with j2|j3|j4<;>(first|(refine nU j2 λm o' es ep j5=>du j5 λaW bL _=>?_;clear j2 j5)| (refine ar j3 λo' aW bL=>?_;clear j3)| (refine aR j4 λps aW=>?_;clear j4))
 ·rw[ho] at aW;cases aW;cases bL
 ·rw[ho] at aW;cases aW;cases bL
 ·rw[ho] at aW;cases aW
theorem tO{xs:Array Value}{ns:List Int}{b:Bool}:cT (Vp br xs ns b):=λv h l hl y=>by refine ez y λa q acc j1=>nV j1 λe hs il ha hp=>?_;clear y j1;refine⟨a,q,acc,e,hs,cK hl il,ha,λi hi=>?_⟩;refine dj (hp i hi) λT x tn e1 e2 e3 e4=>?_;exact⟨T,x,tn,e1,e2,rU hl e3,e4⟩
theorem KV{xs:Array Value}{ns:List Int}{b:Bool}:cU (Vp br xs ns b):=λv h h' k y=>by refine ez y λa q acc j1=>nV j1 λe hs il ha hp=>?_;clear y j1;refine⟨a,q,acc,e,hs,isList_stays k il,ha,λi hi=>?_⟩;refine dj (hp i hi) λT x tn e1 e2 e3 e4=>?_;exact⟨T,x,tn,e1,e2,k _ _ e3,e4⟩
theorem rV(O:On frs cs hb h):aU frs h:=λp hp=>by refine eP (O.frames p hp) λa b c d=>?_;exact⟨a,b,d⟩
section
variable{JA AU:Pos}{xs:Array Value}{ns:List Int}{b:Bool}
theorem wF(G:Gl w g)(hA:A.frames=some (env::fo.map (·.1)))(hk:env.scope.kind = .function)(hg:env.globals=mainGlobals)(FX:env.builtins=builtinsNs)(ks:env.kindOf (sn "sorted")=some .globalImplicit)(kz:env.kindOf (sn "zip")=some .globalImplicit)(kc:env.kindOf (sn "count")=some .globalImplicit)(kd:env.kindOf (sn "data")=some .local)(kr:env.kindOf (sn "reverse")=some .local)(hh:A.handled=none)(hd:A.depth<=320)(hu:A.units<=40)(hm:m (sn "data")=some (.ref da))(hr:m (sn "reverse")=some (.bool b))(hl:g.IsList da xs)(h2:2<=ns.length)(h6:ns.length<=6)(hx:xs.size=ns.length)(AV:∀i,i<ns.length->∃t,xs[i]?=some (.int (ns.getD i 0) t)):
  aF w A ((env,m)::fo) cs g env (.Call (.Name (sn "sorted") ba) [.Call (.Name (sn "zip") cF) [.Name (sn "data") gz,.Call (.Name (sn "count") pF) [] [] qJ] [] sJ] [⟨some (sn "reverse"),.Name (sn "reverse") vG,JA⟩] AU) (Vp g xs ns b) x:=λs hb Q E hs O hq he=>by
 show wpAny _ _ (do let f <-eval (.Name (sn "sorted") ba) env;callWith AU f [] (backTo AU (starEach [.Call (.Name (sn "zip") cF) [.Name (sn "data") gz,.Call (.Name (sn "count") pF) [] [] qJ] [] sJ] env)) (backToKw AU (keywordEach [⟨some (sn "reverse"),.Name (sn "reverse") vG,JA⟩] env))) _ _ _;have Gs:=G.mono (ai hs O.stays);have hn:s.heap.Ns env.locals m:=(O.frames _ (.head _)).2.2.2;have F5:s.heap.IsList da xs:=isList_stays (ai hs O.stays) hl;refine J' (Ev.aE Gs (by k_is) wD hk ks hg FX (by decide) (by decide) s _ _ (ak _) λf h₁ bg PO bB=>?_);subst bB;refine callWith_of (P:=λ_=>True) rfl (λh' _=>Kp.builtin (w:=w)) (evalArgs_kw2 rfl (kZ.one (AS (h:=h₁) (m:=m) (da:=da) (xs:=xs) (Gs.mono PO) hk hg FX kz kc kd hh (by omega) (by omega) (hn.keeps PO) hm (isList_stays PO F5)) pa rfl _ _ _ (ak _) λvs h₂ bZ PQ hz=>?_));refine ar hz ?_;clear hz;intro v j7 hz;subst j7;refine kwAll_cons (Ev.ao (v:=.bool b) (hn.keeps (ai PO PQ)) hr hk kr (by decide) _ _ _ (ak _) λv' h₃ cW PS pQ=>kwAll_nil ⟨trivial,?_⟩);subst pQ;refine CK (pa _ _ _ PS hz) λz TI TO i1 cn dc fb tn tn' j5=>vI j5 λj6 z1 z2 z3 z4 z5 z6 lt nd nn=>?_;clear j5;subst j6;have k03:s.heap.StaysIn h₃:=ai PO (ai PQ PS);have ic:On ((env,m)::fo) cs hb h₃:=O.keep k03;have AW:∀b∈[z,TI,TO,i1,cn,dc],s.heap.get? b=none:=λb hb=>bq PO (nn b hb);have WF:∀b∈[z,TI,TO,i1,cn,dc],b∉aS ((env,m)::fo):=λb hb hm=>by refine ar (OF hm) λp hp e=>?_;refine aV ((O.frames p hp).2.2.2) λo _ _ ho _=>?_;have:=AW b hb;rw[<-e,ho] at this;cases this
 have wide:g.StaysIn (hideAll s.heap (aS ((env,m)::fo))):=λb o e=>OO _ (O.stays _ _ (hs b o e)) λhm=>by have:=hs b o e;rw[O.gw (List.mem_append_left _ (List.mem_append_left _ hm))] at this;cases this
 have B:o8 w ((env,m)::fo) s.heap xs da z TI TO i1 cn dc:=⟨G.mono wide,AW,F5,WF,nd⟩;have hS:s.heap.get? h₃.objs.size=none/\h₃.objs.size∉aS ((env,m)::fo)/\h₃.objs.size∉[z,TI,TO,i1,cn,dc]:=by
  have no:h₃.get? h₃.objs.size=none:=OL (OM _);refine⟨bq k03 no,λhm=>?_,λhm=>?_⟩
  ·refine ar (OF hm) λp hp e=>?_
   refine aV ((ic.frames p hp).2.2.2) λo _ _ ho _=>?_;rw[<-e,ho] at no;cases no
  ·refine ar z4 λoi wz _=>?_;clear z4
   simp only[List.mem_cons,List.not_mem_nil,or_false] at hm;rcases hm with q|q|q|q|q|q
   ·rw[q,z1] at no;cases no
   ·have z2':h₃.get? TI=_:=z2
    rw[q,z2'] at no;cases no
   ·have z3':h₃.get? TO=_:=z3
    rw[q,z3'] at no;cases no
   ·rw[q,wz] at no;cases no
   ·rw[q,z5] at no;cases no
   ·rw[q,z6] at no;cases no
 have hA2:lN A.in1.in1 (((env,m)::fo).map (·.1)) 90:=⟨hh,hA,hd,by show A.units+1+1<=90;omega⟩;have src:=AP (w:=w) (A:=A.in1.in1) (s₀:=(bp s h₃ cW)) (fb:=fb) (tn':=tn') hA2 lt B hS (by omega);rw[hx] at src;refine tN (s:=(bp s h₃ cW)) (ns:=ns) (b:=b) src (λs' st=>?_) ?_ (ON z1) h2 h6 (λacc s' hf nX=>?_) λs' acc q c h' hf hp sG keep fresh hD=>?_
 ·rcases st.zz with j3|j4<;>(first|(refine cA j3 λ_ e=>?_;clear j3)| (refine cA j4 λne _=>?_;clear j4))
  ·exact⟨TI,TO,_,e⟩
  ·exact absurd rfl ne
 ·exact⟨⟨k03,rV ic,z2,⟨_,_,z3⟩,z4,⟨tn,z5⟩,z6⟩,.inl ⟨rfl,z1⟩,λi v e=>by simp at e,rfl,rfl,rfl⟩
 ·refine⟨nX,λi hi=>?_⟩
  refine dj (hf.tM i acc[i] (O6 (by omega))) λT x' yR e1 e2 e3 _=>?_;refine aR (AV i hi) λt e4=>?_;rw[e2] at e4;cases e4;exact⟨T,t,yR,by simp[nX,hi,e1],e3⟩
 ·have k04:s.heap.StaysIn h':=ai hf.gb keep
  have pO:=O.keep k04;have P:Vp g xs ns b (.ref s'.heap.objs.size) h':=⟨_,q,acc,rfl,sG,⟨_,hD,rfl,_,rfl⟩,hp.1,λi hi=>by
   have eM:i<acc.length:=by rw[hp.1];exact hi
   refine ez (hf.tM i acc[i] (O6 eM)) λT x' yR j1=>nV j1 λe1 e2 e3 _ e5=>?_;clear j1;exact⟨T,x',yR,by simp[hp.1,hi,e1],e2,keep _ _ e3,bq (ai hs O.stays) e5⟩⟩
  refine du hf.rest λr1 r2 r3=>?_;refine hq _ (bp s' h' s'.toks) _ pO.wide pO.top ⟨.of_stays k04,λhg=>by show ∀y∈s'.gens,_;rw[r1];exact hg,r2,r3⟩ (tO _ _ _ (λb hb=>pO.fv hb) P)
end
section
variable{x:Addr}
theorem yS(KX:(K w.params).In s.heap)(hq:∀v h' tk,s.heap.StaysIn h'->ff (.ref x) v h'->Q v (bp s h' tk)):wpAny (model pw w) (A0 fr gd) (call (.ref 149) [.ref x] []) Q E s:=by refine aR (qG w) λz hz=>?_;refine bH [] 266240 ?_;refine aX hz 7 1 (iQ KX) rfl rfl λa=>b0 ?_;intro Z;refine⟨by kernel_rfl,λh' I=>?_⟩;refine bF (c:=fc "groupby.__iter__" GR GU 149 148 a) 1 (by kernel_rfl) (by kernel_rfl) (by kernel_rfl) (cB I.gx) ?_;refine aX hz 4 0 I (by kernel_rfl) rfl (b0 ?_);intro Z;refine⟨by kernel_rfl,λh' I=>?_⟩;refine dM (v:=.ref x) (by kernel_rfl) (by kernel_rfl) ?_;exact hq _ _ _ I.stays rfl
theorem yT(KX:(K w.params).In s.heap)(hq:∀v h' tk,s.heap.StaysIn h'->ff (.ref x) v h'->Q v (bp s h' tk)):wpAny (model pw w) (A0 fr gd) (call (.ref 201) [.ref x] []) Q E s:=by refine aR (qG w) λz hz=>?_;refine bH [] 266240 ?_;refine aX hz 7 1 (iQ KX) rfl rfl λa=>b0 ?_;intro Z;refine⟨by kernel_rfl,λh' I=>?_⟩;refine bF (c:=fc "_grouper.__iter__" GV GW 201 200 a) 1 (by kernel_rfl) (by kernel_rfl) (by kernel_rfl) (cB I.gx) ?_;refine aX hz 4 0 I (by kernel_rfl) rfl (b0 ?_);intro Z;refine⟨by kernel_rfl,λh' I=>?_⟩;refine dM (v:=.ref x) (by kernel_rfl) (by kernel_rfl) ?_;exact hq _ _ _ I.stays rfl
end
section
variable{M:Model}{K:Frag}{x C f g:Addr}
theorem eY{Q:Option Value->Shared->Prop}(X:K.In s.heap)(I:InstAt s.heap x ox C od)(hs:findIn K (.ref C) "__next__"=some (some (.ref f)))(hf:isFn K (.ref f)=true)(h:wpAny M A (call (.ref f) [.ref x]) (λv s'=>Q (some v) s') (λe s'=>∃a,e = .ref a/\(∃o,s'.heap.get? a=some o/\o.cls = .type "StopIteration")/\Q none s') s):wpAny M A (pyNext (.ref x)) Q E s:=by
 unfold pyNext;refine J' (wpAny_attempt (special_fn (name:="__next__") (args:=[]) X I hs (beq_iff_eq.mp hf) (Oj h (λv s' hq=>?_) (λe s' he=>?_))))
 ·exact OD hq
 ·refine bl he λa j1 ho hq=>?_;clear he;subst j1
  refine J' (wpAny_isInstance (T:="StopIteration") (b:=true) ho isSubtype_stop ?_);exact OD hq
theorem rW(X:K.In s.heap)(I:InstAt s.heap x ox C od)(hs:findIn K (.ref C) "__iter__"=some (some (.ref f)))(hf:isFn K (.ref f)=true)(hn:findIn K (.ref C) "__next__"=some (some (.ref g)))(h:wpAny M A (call (.ref f) [.ref x]) (λv s'=>v = .ref x/\K.In s'.heap/\InstAt s'.heap x ox C od/\Q (.ref x) s') E s):wpAny M A (pyIter (.ref x)) Q E s:=by
 have h':wpAny M A (call (.ref f) [.ref x]) (OwitIt M A Q E) E s:=Oj h (λv s' q=>by refine eP q ?_;clear q;intro j2 X' I' q;subst j2;unfold OwitIt;exact J' (I'.type.here ((looks_findIn X' hn).here q))) λ_ _ z=>z
 have fin:wpAny M A (call (.ref f) [.ref x] >>= λv=>pure (some v)) (λr s'=>∃v,r=some v/\OwitIt M A Q E v s') E s:=
  J' (Oj h' (λv s' h'=>OD ⟨v,rfl,h'⟩) λ_ _ z=>z)
 have one:∀refuse:Sem Value,wpAny M A (callSpecialIfBoundUnlessNone? (.ref x) "__iter__" refuse) (λr s'=>∃v,r=some v/\OwitIt M A Q E v s') E s:=by
  intro refuse;simp only[callSpecialIfBoundUnlessNone?,bindSpecialIfBound?];refine Ol (J' (J' (J' (I.type.here ((looks_findIn X hs).here ?_)))));refine J' (wpAny_askSetting (wpAny_ite ?_));have fin2:wpAny M A (if (Value.ref f==Value.none)=true then (refuse >>= λv=>pure (some v)) else (call (.ref f) [.ref x] >>= λv=>pure (some v))) (λr s'=>∃v,r=some v/\OwitIt M A Q E v s') E s:=by rw[if_neg (show ¬((Value.ref f==Value.none)=true) from Bool.false_ne_true)];exact fin
  split
  ·exact J' ((bind_fn X _ (beq_iff_eq.mp hf)).here (OD (by exact fin2)))
  ·exact wpAny_tryCatch (J' ((bind_fn X _ (beq_iff_eq.mp hf)).here (OD (by exact fin2))))
 unfold pyIter;refine J' (J' (I.type.here ((looks_findIn X hs).here ?_)));show wpAny M A (callSpecialIfBoundUnlessNone? (.ref x) "__iter__" _ >>= _) Q E s;refine J' (Oj (one _) (λr s' hr=>?_) λ_ _ z=>z);refine ar hr λv j1 hv=>?_;clear hr;subst j1;refine J' (Oj hv (λr bN hr=>?_) λ_ _ z=>z);cases r with
 |none=>exact hr.elim
 |some g=>exact OD hr
end
def EV(h₀:Heap)(l:Addr)(v:Value)(h:Heap):Prop:=∃(gb dg it kf dk tp:Addr)(t0 t2 t3:Tok),v = .ref gb/\h.get? gb=some (fH dg it kf (.int 0 t2) .none .none false false false (.int 0 t3) .none)/\h.get? dg=some emptyDict/\h.get? it=some (bC l 0)/\
 h.get? kf=some (rH dk tp)/\h.get? dk=some emptyDict/\h.get? tp=some (rJ t0)/\@LT.lt Nat _ dg gb/\@LT.lt Nat _ gb it/\(∀b∈[gb,dg,it],∀c∈[kf,dk,tp],b≠c)/\∀b∈[gb,dg,it,kf,dk,tp],h₀.get? b=none
def AX(h₀:Heap)(v:Value)(h:Heap):Prop:=∃(kf dk tp:Addr)(t0:Tok),v = .ref kf/\h.get? kf=some (rH dk tp)/\h.get? dk=some emptyDict/\h.get? tp=some (rJ t0)/\∀b∈[kf,dk,tp],h₀.get? b=none
theorem wG:cU (AX h₀):=λv h h' k bV=>by refine nU bV λkf dk tp t0 j1=>nV j1 λa b c d r=>⟨kf,dk,tp,t0,a,k _ _ b,k _ _ c,k _ _ d,r⟩
theorem Gv:cU (EV h₀ l):=λv h h' k bV=>by refine CK bV λgb dg it kf dk tp t0 t2 t3 j1=>qL j1 λa b c d e f g r=>⟨gb,dg,it,kf,dk,tp,t0,t2,t3,a,k _ _ b,k _ _ c,k _ _ d,k _ _ e,k _ _ f,k _ _ g,r⟩
theorem JB(k₀:h₀.StaysIn h)(G:Gl w h)(hh:A.handled=none)(hd:A.depth<=400)(hu:A.units<=1000):Cl w A h (.ref 310) [.int 0 t] [] (AX h₀):=λs Q E hs hq=>
 jw hh hd hu (Ex (G.mono hs).K λh' tz kf dk tp a b c k n1 n2 n3=>
  hq _ h' tz k ⟨kf,dk,tp,t,rfl,a,b,c,λb' hb=>by have up:=ai k₀ hs;exact BD hb (bq up n1) (bq up n2) (bq up n3)⟩)
theorem JC(k₀:h₀.StaysIn h)(G:Gl w h)(hh:A.handled=none)(hd:A.depth<=400)(hu:A.units<=1000)(hl:h.IsList l its)(hc:AX h₀ v h):Cl w A h (.ref 167) [.ref l] [(Str.ofString "key",v)] (EV h₀ l):=λs Q E hs hq=>by
 refine nU (wG _ _ _ hs hc) λkf dk tp t0 j5=>nV j5 λj6 a b c nn=>?_;clear j5;subst j6;refine bl (isList_stays hs hl) λo ho yQ j4=>aR j4 λn AD=>?_;clear j4;rcases o with⟨oc,od,oda,osl⟩;dsimp only at yQ AD;subst yQ;subst AD;refine jw hh hd hu (Ey (G.mono hs).K ho a λh' tz gb dg it t2 t3 q1 q2 q3 k l1 l2 n1 n2 n3=>hq _ h' tz k
  ⟨gb,dg,it,kf,dk,tp,t0,t2,t3,rfl,q1,q2,q3,k _ _ a,k _ _ b,k _ _ c,l1,l2,?_,?_⟩)
 ·have f:∀{b':Addr},s.heap.get? b'=none->∀c'∈[kf,dk,tp],b'≠c':=λe c' Gw q=>by
   subst q;simp only[List.mem_cons,List.not_mem_nil,or_false] at Gw;rcases Gw with j3|j3|j3<;>(replace j3:=OK j3;subst j3)
   ·rw[a] at e;cases e
   ·rw[b] at e;cases e
   ·rw[c] at e;cases e
  intro b' hb;exact BD hb (f n1) (f n2) (f n3)
 ·intro b' hb
  have up:=ai k₀ hs;exact mL6 hb (bq up n1) (bq up n2) (bq up n3) (nn _ (by simp)) (nn _ (by simp)) (nn _ (by simp))
theorem tP(G:Gl w h)(hk:env.scope.kind = .function)(hg:env.globals=mainGlobals)(kg:env.kindOf (sn "groupby")=some .globalImplicit)(ki:env.kindOf (sn "itemgetter")=some .globalImplicit)(kv:env.kindOf (sn "val_pos")=some .local)(hh:A.handled=none)(hd:A.depth<=400)(hu:A.units<=1000)(hn:h.Ns env.locals m)(hm:m (sn "val_pos")=some (.ref l))(hl:h.IsList l its):
  Ev w A h env (.Call (.Name (sn "groupby") ba) [.Name (sn "val_pos") cF] [⟨some (sn "key"),.Call (.Name (sn "itemgetter") gz) [.Constant (.int 0) 0 pF] [] qJ,sJ⟩] vG) (EV h l):=λs Q E hs hq=>by
 show wpAny _ _ (do let f <-eval (.Name (sn "groupby") ba) env;callWith vG f [] (backTo vG (starEach [.Name (sn "val_pos") cF] env)) (backToKw vG (keywordEach [⟨some (sn "key"),.Call (.Name (sn "itemgetter") gz) [.Constant (.int 0) 0 pF] [] qJ,sJ⟩] env))) _ _ _;refine J' (Ev.aD (v:=.ref 167) G (by k_is) hk kg hg (by decide) s _ _ hs λf h₁ bg PO bB=>?_);subst bB;have k01:=ai hs PO;refine callWith_of (P:=λh'=>h.StaysIn h') rfl (λh' k=>(Kp.K G (by k_is)).up k) (evalArgs_kw2 rfl (kZ.one (P₁:=ff (.ref l)) (Ev.ao (v:=.ref l) (hn.keeps k01) hm hk kv) aA rfl _ _ _ (ak _) λvs h₂ bZ PQ hz=>?_));refine ar hz ?_;clear hz;intro v j2 hz;subst j2;obtain rfl:v = .ref l:=hz;have k02:=ai k01 PQ;refine kwAll_cons (Ev.bz (P₁:=λv _=>∃t,v = .int 0 t) (f:=.ref 310) (R:=AX h) (Ev.aD (G.mono k02) (by k_is) hk ki hg) (Kp.K (G.mono k02) (by k_is)) Ev.int aA (λv h₁ k q=>by refine aR q λt j1=>?_;clear q;subst j1;exact JB (ai k02 k) (G.mono (ai k02 k)) hh hd hu) rfl _ _ _ (ak _) λv' h₃ cW PS pQ=>kwAll_nil ⟨ai k02 PS,?_⟩)
 exact JC (h:=h₃) (ai k02 PS) (G.mono (ai k02 PS)) hh hd hu (isList_stays (ai k02 PS) hl) pQ _ Q E (ak _) λv h₄ f9 PT p=>hq v h₄ f9 (ai PO (ai PQ (ai PS PT))) p
structure gy(M:List Addr)(frs:Frs)(h h':Heap):Prop where
 mx:∀b o,b∉M->b∉aS frs->h.get? b=some o->h'.get? b=some o
 ups:kj frs h h'
 fr:aU frs h'
theorem gy.nc(F:aU frs h)(hM:∀b∈M,b∉aS frs)(k:Mv M h h'):gy M frs h h':=⟨λb o hb _ e=>k b o hb e,.same λb o hb e=>k b o (λhm=>hM b hm hb) e,F.mv hM k⟩
theorem gy.ng{e:Addr}(S:lC frs M e h h'):gy M frs h h':=⟨λb o hb hf q=>S.keep b o (OO _ q λhm=>(OG hm).elim hb hf),S.ups,S.frs⟩
theorem gy.less(C:gy M frs h h')(H:∀b∈M,b∉M'->∃o,h.get? b=some o/\h'.get? b=some o):gy M' frs h h':=
 ⟨λb o hb hf e=>by
  by_cases hm:b∈M
  ·refine ar (H b hm hb) λo' e1 e2=>?_
   rw[e] at e1;cases e1;exact e2
  ·exact C.mx b o hm hf e,C.ups,C.fr⟩
theorem gy.trans(x:gy M frs h h')(y:gy M frs h' f5):gy M frs h f5:=⟨λb o hb hf e=>y.mx b o hb hf (x.mx b o hb hf e),x.ups.trans y.ups,y.fr⟩
theorem gy.wide(C:gy M frs h h')(H:∀b∈M,b∈M'):gy M' frs h h':=⟨λb o hb hf e=>C.mx b o (λhm=>hb (H b hm)) hf e,C.ups,C.fr⟩
structure GC(w:World)(frs:Frs)(br:Heap)(n:Nat)(l gb dg it kf dk tp:Addr)(its:Array Value)(ks:Nat->Int)(tks:Nat->Tok)(ps:Nat->Addr):Prop where
 G:Gl w (hideAll br (aS frs))
 off:∀b∈[gb,dg,it,kf,dk,tp],br.get? b=none/\b∉aS frs
 tQ:∀j,j<n->br.get? (ps j)=none/\ps j∉aS frs
 AY:l∉aS frs
 size:its.size=n
 item:∀j,j<n->its[j]?=some (.ref (ps j))
 o0:@LT.lt Nat _ dg gb
 o1:@LT.lt Nat _ gb it
 ne:∀b∈[gb,dg,it],∀c∈[kf,dk,tp],b≠c
 tok:∀j,j<n->tks j≠0
 tne:∀i j,i<n->j<n->i≠j->tks i≠tks j
structure GH(frs:Frs)(br:Heap)(n:Nat)(l dg kf dk tp:Addr)(its:Array Value)(ks:Nat->Int)(tks:Nat->Tok)(ps:Nat->Addr)(vs:Nat->Value)(t0:Tok)(h:Heap):Prop where
 st:∀b o,b∉aS frs->br.get? b=some o->h.get? b=some o
 fr:aU frs h
 li:h.IsList l its
 dg:h.get? dg=some emptyDict
 kf:h.get? kf=some (rH dk tp)
 dk:h.get? dk=some emptyDict
 tp:h.get? tp=some (rJ t0)
 tS:∀j,j<n->h.get? (ps j)=some (sH (ks j) (tks j) (vs j))
section
variable{ks:Nat->Int}{vs:Nat->Value}
theorem GH.keep(H:GH frs br n l dg kf dk tp its ks tks ps vs t0 h)(C:GC w frs br n l gb dg it kf dk tp its ks tks ps)(k:gy M frs h h')(h0:∀b∈M,br.get? b=none)(h1:∀b∈M,b≠l/\b∉[dg,kf,dk,tp]/\∀j,j<n->b≠ps j):GH frs br n l dg kf dk tp its ks tks ps vs t0 h':=by
 have AZ:∀{b:Addr}{o:Obj},b∈[dg,kf,dk,tp]->h.get? b=some o->h'.get? b=some o:=λ{b o} hb e=>k.mx b o (λhm=>(h1 b hm).2.1 hb) (C.off b (by
  simp only[List.mem_cons,List.not_mem_nil,or_false] at hb ⊢
  (rcases hb with j1|j1|j1|j1<;>(replace j1:=OK j1;subst j1))<;>simp)).2 e
 refine⟨λb o hf e=>k.mx b o (λhm=>by rw[h0 b hm] at e;cases e) hf (H.st b o hf e),k.fr,?_,AZ (by simp) H.dg,AZ (by simp) H.kf,AZ (by simp) H.dk,AZ (by simp) H.tp,λj hj=>k.mx _ _ (λhm=>(h1 _ hm).2.2 j hj rfl) (C.tQ j hj).2 (H.tS j hj)⟩;refine ar H.li λo ho r=>?_;exact⟨o,k.mx _ _ (λhm=>(h1 _ hm).1 rfl) C.AY ho,r⟩
theorem GC.up(C:GC w frs br n l gb dg it kf dk tp its ks tks ps)(H:GH frs br n l dg kf dk tp its ks tks ps vs t0 h)(h0:∀b∈M,br.get? b=none):Gl w (hideAll h (M++aS frs)):=C.G.mono λb o e=>by
 have e':=OW _ e;have hf:b∉aS frs:=λhm=>by rw[hideAll_none _ hm] at e;cases e
 exact OO _ (H.st b o hf e') λhm=>(OG hm).elim (λhm=>by rw[h0 b hm] at e';cases e') hf
theorem GH.li'(H:GH frs br n l dg kf dk tp its ks tks ps vs t0 h)(C:GC w frs br n l gb dg it kf dk tp its ks tks ps)(hM:l∉M):(hideAll h (M++aS frs)).IsList l its:=
 (by refine ar H.li λo ho r=>⟨o,OO _ ho λhm=>(OG hm).elim hM C.AY,r⟩)
theorem GH.iS(H:GH frs br n l dg kf dk tp its ks tks ps vs t0 h){b:Addr}(e:h.get? b=some o)(hc:(o.cls==Value.type "list")=false):l≠b:=λq=>by refine bl H.li λo' ho wH _=>?_;rw[q,e] at ho;cases ho;rw[wH] at hc;exact absurd hc (by decide)
theorem GH.zT(H:GH frs br n l dg kf dk tp its ks tks ps vs t0 h){b:Addr}(hj:j<n)(e:h.get? b=some o)(hc:(o.cls==Value.type "tuple")=false):b≠ps j:=λq=>by rw[q,H.tS j hj] at e;cases e;exact absurd hc (by show ¬(Value.type "tuple"==_)=_;decide)
end
section
variable{Q:Option Value->Shared->Prop}{ks:Nat->Int}{vs:Nat->Value}{c:Nat}
theorem isIn{X Y:Addr}(h:X∈[Y]):X=Y:=O0 h
theorem Ba(hA:lN A (frs.map (·.1)) 100)(C:GC w frs br n l gb dg it kf dk tp its ks tks ps)(H:GH frs br n l dg kf dk tp its ks tks ps vs t0 s.heap)(hi:i<n)(o1:@LT.lt Nat _ gb dr)(o2:@LT.lt Nat _ dr gr)(hg:br.get? gr=none/\br.get? dr=none/\gr∉aS frs/\dr∉aS frs)(qh:s.heap.get? gr=some (l6 dr gb N tn (ks i) (tks i)))(qH:s.heap.get? dr=some emptyDict)(hG:s.heap.get? gb=some (fH dg it kf (.int N tn') (.int (ks i) (tks i)) (.ref (ps i)) true true ht se tg))(hQ:∀h' tz,gy [gb] frs s.heap h'->h'.get? gb=some (fH dg it kf (.int N tn') .none .none false false ht se tg)->Q (some (.ref (ps i))) (bp s h' tz)):wpAny (model pw w) A (pyNext (.ref gr)) Q E s:=by
 have off:∀b∈([gr,dr,gb,dg]:List Addr),br.get? b=none/\b∉aS frs:=λb hb=>by exact GL hb ⟨hg.1,hg.2.2.1⟩ ⟨hg.2.1,hg.2.2.2⟩ (C.off _ (by simp)) (C.off _ (by simp))
 have Gu:=C.up H (M:=[gr,dr,gb,dg]) λb hb=>(off b hb).1;refine eY (C:=212) (f:=208) (od:=some emptyDict) (K:=K w.params) (Gu.mono (λb o e=>OW _ e)).K ⟨qh,rfl,rfl,qH⟩ (by k_is) (by k_is) ?_;refine fI hA.h hA.f hA.d hA.u (EA H.fr (λb hb=>(off b hb).2) Gu C.o0 o1 o2 (C.tok i hi) (λp hp=>by exact GL hp qh qH hG H.dg) λh' tz mv a b c d=>hQ h' tz ((gy.nc H.fr (λb hb=>(off b hb).2) mv).less λb' hb hn=>?_) c)
 simp only[List.mem_cons,List.not_mem_nil,or_false] at hb hn;rcases hb with j1|j1|j1|j1<;>(replace j1:=OK j1;subst j1)
 ·exact⟨_,qh,a⟩
 ·exact⟨_,qH,b⟩
 ·exact absurd rfl hn
 ·exact⟨_,H.dg,d⟩
theorem Bb(hA:lN A (frs.map (·.1)) 100)(C:GC w frs br n l gb dg it kf dk tp its ks tks ps)(H:GH frs br n l dg kf dk tp its ks tks ps vs t0 s.heap)(hc:c<n)(hi:i<n)(xq:c≠i)(hk:ks c=ks i)(o1:@LT.lt Nat _ it dr)(o2:@LT.lt Nat _ dr gr)(hg:br.get? gr=none/\br.get? dr=none/\gr∉aS frs/\dr∉aS frs)(qh:s.heap.get? gr=some (l6 dr gb N tn (ks c) (tks c)))(qH:s.heap.get? dr=some emptyDict)(hG:s.heap.get? gb=some (fH dg it kf (.int N tn') ck cv false false ht se tg))(hit:s.heap.get? it=some (bC l i))(hQ:∀h' tz,gy [it,gb] frs s.heap h'->h'.get? it=some (bC l (i+1))->h'.get? gb=some (fH dg it kf (.int N tn') .none .none false false ht se tg)->Q (some (.ref (ps i))) (bp s h' tz)):wpAny (model pw w) A (pyNext (.ref gr)) Q E s:=by
 have off:∀b∈([gr,dr,it,gb,dg,tp,kf,dk,ps i]:List Addr),br.get? b=none/\b∉aS frs:=λb hb=>by exact GN hb ⟨hg.1,hg.2.2.1⟩ ⟨hg.2.1,hg.2.2.2⟩ (C.off _ (by simp)) (C.off _ (by simp)) (C.off _ (by simp)) (C.off _ (by simp)) (C.off _ (by simp)) (C.off _ (by simp)) (C.tQ i hi)
 have Gu:=C.up H (M:=[gr,dr,it,gb,dg,tp,kf,dk,ps i]) λb hb=>(off b hb).1;have lM:l∉([gr,dr,it,gb,dg,tp,kf,dk,ps i]:List Addr):=by simp only[List.mem_cons,List.not_mem_nil,or_false,not_or];exact⟨H.iS qh rfl,H.iS qH rfl,H.iS hit rfl,H.iS hG rfl,H.iS H.dg rfl,H.iS H.tp rfl,H.iS H.kf rfl,H.iS H.dk rfl,H.iS (H.tS i hi) rfl⟩
 refine eY (C:=212) (f:=208) (od:=some emptyDict) (K:=K w.params) (Gu.mono (λb o e=>OW _ e)).K ⟨qh,rfl,rfl,qH⟩ (by k_is) (by k_is) ?_;rw[hk] at qh;refine fI hA.h hA.f hA.d hA.u (g_same H.fr (λb hb=>(off b hb).2) Gu C.o0 C.o1 o1 o2 (C.ne _ (by simp) _ (by simp)) (C.ne _ (by simp) _ (by simp)) (C.ne _ (by simp) _ (by simp)) (H.zT hi hG rfl) (C.ne _ (by simp) _ (by simp)) (C.ne _ (by simp) _ (by simp)) (C.ne _ (by simp) _ (by simp)) (H.zT hi hit rfl)
  (C.tok c hc) (C.tok i hi) (C.tne c i hc hi xq) (H.li' C lM) (C.item i hi) (λp hp=>by
  exact GN hp qh qH hit hG H.dg H.tp H.kf H.dk (H.tS i hi)) λh' tz mv a1 a2 a3 a4 a5 a6 a7 a8 a9=>hQ h' tz ((gy.nc H.fr (λb hb=>(off b hb).2) mv).less λb' hb hn=>?_) a3 a4)
 simp only[List.mem_cons,List.not_mem_nil,or_false,not_or] at hb hn;rcases hb with j1|j1|j1|j1|j1|j1|j1|j1|j1<;>(replace j1:=OK j1;subst j1)
 ·exact⟨_,qh,a1⟩
 ·exact⟨_,qH,a2⟩
 ·exact absurd rfl hn.1
 ·exact absurd rfl hn.2
 ·exact⟨_,H.dg,a5⟩
 ·exact⟨_,H.tp,a6⟩
 ·exact⟨_,H.kf,a7⟩
 ·exact⟨_,H.dk,a8⟩
 ·exact⟨_,H.tS i hi,a9⟩
theorem yU(hA:lN A (frs.map (·.1)) 100)(C:GC w frs br n l gb dg it kf dk tp its ks tks ps)(H:GH frs br n l dg kf dk tp its ks tks ps vs t0 s.heap)(hc:c<n)(hi:i<n)(hk:ks c≠ks i)(o1:@LT.lt Nat _ it dr)(o2:@LT.lt Nat _ dr gr)(hg:br.get? gr=none/\br.get? dr=none/\gr∉aS frs/\dr∉aS frs)(qh:s.heap.get? gr=some (l6 dr gb N tn (ks c) (tks c)))(qH:s.heap.get? dr=some emptyDict)(hG:s.heap.get? gb=some (fH dg it kf (.int N tn') ck cv false false ht se tg))(hit:s.heap.get? it=some (bC l i))(hQ:∀h' tz,gy [it,gb] frs s.heap h'->h'.get? it=some (bC l (i+1))->h'.get? gb=some (fH dg it kf (.int N tn') (.int (ks i) (tks i)) (.ref (ps i)) true true ht se tg)->Q none (bp s h' tz)):wpAny (model pw w) A (pyNext (.ref gr)) Q E s:=by
 have off:∀b∈([gr,dr,it,gb,dg,tp,kf,dk,ps i]:List Addr),br.get? b=none/\b∉aS frs:=λb hb=>by exact GN hb ⟨hg.1,hg.2.2.1⟩ ⟨hg.2.1,hg.2.2.2⟩ (C.off _ (by simp)) (C.off _ (by simp)) (C.off _ (by simp)) (C.off _ (by simp)) (C.off _ (by simp)) (C.off _ (by simp)) (C.tQ i hi)
 have Gu:=C.up H (M:=[gr,dr,it,gb,dg,tp,kf,dk,ps i]) λb hb=>(off b hb).1;have lM:l∉([gr,dr,it,gb,dg,tp,kf,dk,ps i]:List Addr):=by simp only[List.mem_cons,List.not_mem_nil,or_false,not_or];exact⟨H.iS qh rfl,H.iS qH rfl,H.iS hit rfl,H.iS hG rfl,H.iS H.dg rfl,H.iS H.tp rfl,H.iS H.kf rfl,H.iS H.dk rfl,H.iS (H.tS i hi) rfl⟩
 have xq:c≠i:=λq=>hk (q▸rfl);refine eY (C:=212) (f:=208) (od:=some emptyDict) (K:=K w.params) (Gu.mono (λb o e=>OW _ e)).K ⟨qh,rfl,rfl,qH⟩ (by k_is) (by k_is) ?_;refine fI hA.h hA.f hA.d hA.u (AL H.fr (λb hb=>(off b hb).2) Gu C.o0 C.o1 o1 o2 (C.ne _ (by simp) _ (by simp)) (C.ne _ (by simp) _ (by simp)) (C.ne _ (by simp) _ (by simp)) (H.zT hi hG rfl) (C.ne _ (by simp) _ (by simp)) (C.ne _ (by simp) _ (by simp)) (C.ne _ (by simp) _ (by simp)) (H.zT hi hit rfl)
  (C.tok c hc) (C.tok i hi) (C.tne c i hc hi xq) hk (H.li' C lM) (C.item i hi) (λp hp=>by
  exact GN hp qh qH hit hG H.dg H.tp H.kf H.dk (H.tS i hi)) λh' tz e S a1 a2 a3 a4 a5 a6 a7 a8 a9=>⟨e,rfl,(by refine aR S.wi λ_ f=>f.there),hQ h' tz ((gy.ng S).less λb' hb hn=>?_) a3 a4⟩)
 simp only[List.mem_cons,List.not_mem_nil,or_false,not_or] at hb hn;rcases hb with j1|j1|j1|j1|j1|j1|j1|j1|j1<;>(replace j1:=OK j1;subst j1)
 ·exact⟨_,qh,a1⟩
 ·exact⟨_,qH,a2⟩
 ·exact absurd rfl hn.1
 ·exact absurd rfl hn.2
 ·exact⟨_,H.dg,a5⟩
 ·exact⟨_,H.tp,a6⟩
 ·exact⟨_,H.kf,a7⟩
 ·exact⟨_,H.dk,a8⟩
 ·exact⟨_,H.tS i hi,a9⟩
theorem EW(hA:lN A (frs.map (·.1)) 100)(C:GC w frs br n l gb dg it kf dk tp its ks tks ps)(H:GH frs br n l dg kf dk tp its ks tks ps vs t0 s.heap)(o1:@LT.lt Nat _ it dr)(o2:@LT.lt Nat _ dr gr)(hg:br.get? gr=none/\br.get? dr=none/\gr∉aS frs/\dr∉aS frs)(qh:s.heap.get? gr=some (l6 dr gb N tn (ks c) (tks c)))(qH:s.heap.get? dr=some emptyDict)(hG:s.heap.get? gb=some (fH dg it kf (.int N tn') ck cv false false ht se tg))(hit:s.heap.get? it=some (bC l n))(hQ:∀h' tz,gy [it] frs s.heap h'->h'.get? it=some (ew n)->Q none (bp s h' tz)):wpAny (model pw w) A (pyNext (.ref gr)) Q E s:=by
 have off:∀b∈([gr,dr,it,gb,dg]:List Addr),br.get? b=none/\b∉aS frs:=λb hb=>by exact KI hb ⟨hg.1,hg.2.2.1⟩ ⟨hg.2.1,hg.2.2.2⟩ (C.off _ (by simp)) (C.off _ (by simp)) (C.off _ (by simp))
 have Gu:=C.up H (M:=[gr,dr,it,gb,dg]) λb hb=>(off b hb).1;have lM:l∉([gr,dr,it,gb,dg]:List Addr):=by simp only[List.mem_cons,List.not_mem_nil,or_false,not_or];exact⟨H.iS qh rfl,H.iS qH rfl,H.iS hit rfl,H.iS hG rfl,H.iS H.dg rfl⟩
 have hx:its[n]?=none:=by rw[Array.getElem?_eq_none_iff,C.size];exact OM _
 refine eY (C:=212) (f:=208) (od:=some emptyDict) (K:=K w.params) (Gu.mono (λb o e=>OW _ e)).K ⟨qh,rfl,rfl,qH⟩ (by k_is) (by k_is) ?_;refine fI hA.h hA.f hA.d hA.u (Jo H.fr (λb hb=>(off b hb).2) Gu C.o0 C.o1 o1 o2 (H.li' C lM) hx (λp hp=>by exact KI hp qh qH hit hG H.dg) λh' tz e S a1 a2 a3 a4 a5=>⟨e,rfl,(by refine aR S.wi λ_ f=>f.there),hQ h' tz ((gy.ng S).less λb' hb hn=>?_) a3⟩)
 simp only[List.mem_cons,List.not_mem_nil,or_false,not_or] at hb hn;rcases hb with j1|j1|j1|j1|j1<;>(replace j1:=OK j1;subst j1)
 ·exact⟨_,qh,a1⟩
 ·exact⟨_,qH,a2⟩
 ·exact absurd rfl hn
 ·exact⟨_,hG,a4⟩
 ·exact⟨_,H.dg,a5⟩
end
structure GS(frs:Frs)(br:Heap)(l gb dg it kf:Addr)(ks:Nat->Int)(tks:Nat->Tok)(ps:Nat->Addr)(a:Nat)(N:Int)(gr dr:Addr)(tn:Tok)(h:Heap):Prop where
 sI:h.get? gr=some (l6 dr gb N tn (ks a) (tks a))
 adr:h.get? dr=some emptyDict
 Gx:h.get? gb=some (fH dg it kf (.int N tn) (.int (ks a) (tks a)) (.ref (ps a)) true true true (.int N tn) (.int (ks a) (tks a)))
 JD:h.get? it=some (bC l (a+1))
 o1:@LT.lt Nat _ it dr
 o2:@LT.lt Nat _ dr gr
 off:br.get? gr=none/\br.get? dr=none/\gr∉aS frs/\dr∉aS frs
section
variable{Q:Option Value->Shared->Prop}{ks:Nat->Int}{vs:Nat->Value}{c a:Nat}
theorem GH.new(H:GH frs br n l dg kf dk tp its ks tks ps vs t0 s.heap){b:Addr}(e:s.heap.get? b=none):br.get? b=none/\b∉aS frs:=by
 have hf:b∉aS frs:=λhm=>by refine ar (OF hm) λp hp j2=>?_;subst j2;refine du (H.fr p hp) λ_ _ j1=>aV j1 λo _ _ ho _=>?_;clear j1;rw[ho] at e;cases e
 refine⟨?_,hf⟩;cases q:br.get? b with
 |none=>rfl
 |some o=>rw[H.st b o hf q] at e;cases e
theorem yV{a:Nat}(ha:a=0)(hA:lN A (frs.map (·.1)) 100)(C:GC w frs br n l gb dg it kf dk tp its ks tks ps)(H:GH frs br n l dg kf dk tp its ks tks ps vs t0 s.heap)(hn:a<n)(hG:s.heap.get? gb=some (fH dg it kf cg ck cv false false false (.int N tn) tg))(hit:s.heap.get? it=some (bC l 0))(hQ:∀h' tz D gr dr tn',gy [it,gb] frs s.heap h'->GS frs br l gb dg it kf ks tks ps a (N+1) gr dr tn' h'->IsPair h' D (.int (ks a) (tks a)) (.ref gr)->s.heap.get? D=none->s.heap.get? gr=none->s.heap.get? dr=none->Q (some (.ref D)) (bp s h' tz)):wpAny (model pw w) A (pyNext (.ref gb)) Q E s:=by
 subst ha;have off:∀b∈([it,gb,dg,tp,kf,dk,ps 0]:List Addr),br.get? b=none/\b∉aS frs:=λb hb=>by exact KJ hb (C.off _ (by simp)) (C.off _ (by simp)) (C.off _ (by simp)) (C.off _ (by simp)) (C.off _ (by simp)) (C.off _ (by simp)) (C.tQ 0 hn)
 have Gu:=C.up H (M:=[it,gb,dg,tp,kf,dk,ps 0]) λb hb=>(off b hb).1;have lM:l∉([it,gb,dg,tp,kf,dk,ps 0]:List Addr):=by simp only[List.mem_cons,List.not_mem_nil,or_false,not_or];exact⟨H.iS hit rfl,H.iS hG rfl,H.iS H.dg rfl,H.iS H.tp rfl,H.iS H.kf rfl,H.iS H.dk rfl,H.iS (H.tS 0 hn) rfl⟩
 refine eY (C:=167) (f:=163) (od:=some emptyDict) (K:=K w.params) (Gu.mono (λb o e=>OW _ e)).K ⟨hG,rfl,rfl,H.dg⟩ (by k_is) (by k_is) ?_;refine fI hA.h hA.f hA.d hA.u (AK H.fr (λb hb=>(off b hb).2) Gu C.o0 C.o1 (C.ne _ (by simp) _ (by simp)) (C.ne _ (by simp) _ (by simp)) (C.ne _ (by simp) _ (by simp)) (H.zT hn hG rfl) (C.ne _ (by simp) _ (by simp)) (C.ne _ (by simp) _ (by simp)) (C.ne _ (by simp) _ (by simp)) (H.zT hn hit rfl)
  (H.li' C lM) (C.item 0 hn) (λp hp=>by
  exact KJ hp hit hG H.dg H.tp H.kf H.dk (H.tS 0 hn)) λh' tz rE D gr dr a1 a2 a3 a4 a5 a6 a7 a8 a9 a10 mv lt l1 l2 f1 f2 f3=>hQ h' tz D gr dr rE ((gy.nc H.fr (λb hb=>(off b hb).2) mv).less λb' hb fe=>?_)
   ⟨a2,a3,a5,a4,lt _ (by simp),l1,(H.new f2).1,(H.new f3).1,(H.new f2).2,(H.new f3).2⟩ a1 f1 f2 f3)
 simp only[List.mem_cons,List.not_mem_nil,or_false,not_or] at hb fe;rcases hb with j1|j1|j1|j1|j1|j1|j1<;>(replace j1:=OK j1;subst j1)
 ·exact absurd rfl fe.1
 ·exact absurd rfl fe.2
 ·exact⟨_,H.dg,a6⟩
 ·exact⟨_,H.tp,a7⟩
 ·exact⟨_,H.kf,a8⟩
 ·exact⟨_,H.dk,a9⟩
 ·exact⟨_,H.tS 0 hn,a10⟩
theorem Bc(hA:lN A (frs.map (·.1)) 100)(C:GC w frs br n l gb dg it kf dk tp its ks tks ps)(H:GH frs br n l dg kf dk tp its ks tks ps vs t0 s.heap)(ha:a<n)(hc:c<n)(hk:ks c≠ks a)(hG:s.heap.get? gb=some (fH dg it kf cg (.int (ks a) (tks a)) (.ref (ps a)) true true true (.int N tn) (.int (ks c) (tks c))))(hit:s.heap.get? it=some (bC l (a+1)))(hQ:∀h' tz D gr dr tn',gy [it,gb] frs s.heap h'->GS frs br l gb dg it kf ks tks ps a (N+1) gr dr tn' h'->IsPair h' D (.int (ks a) (tks a)) (.ref gr)->s.heap.get? D=none->s.heap.get? gr=none->s.heap.get? dr=none->Q (some (.ref D)) (bp s h' tz)):wpAny (model pw w) A (pyNext (.ref gb)) Q E s:=by
 have off:∀b∈([it,gb,dg]:List Addr),br.get? b=none/\b∉aS frs:=λb hb=>by exact BD hb (C.off _ (by simp)) (C.off _ (by simp)) (C.off _ (by simp))
 have Gu:=C.up H (M:=[it,gb,dg]) λb hb=>(off b hb).1;have hca:c≠a:=λq=>hk (q▸rfl);refine eY (C:=167) (f:=163) (od:=some emptyDict) (K:=K w.params) (Gu.mono (λb o e=>OW _ e)).K ⟨hG,rfl,rfl,H.dg⟩ (by k_is) (by k_is) ?_;refine fI hA.h hA.f hA.d hA.u (EB H.fr (λb hb=>(off b hb).2) Gu C.o0 C.o1 (C.tok c hc) (C.tok a ha) (C.tne c a hc ha hca) hk (λp hp=>by
  exact BD hp hit hG H.dg) λh' tz rE D gr dr a1 a2 a3 a4 a5 a6 mv lt l1 l2 f1 f2 f3=>hQ h' tz D gr dr rE ((gy.nc H.fr (λb hb=>(off b hb).2) mv).less λb' hb fe=>?_)
   ⟨a2,a3,a5,a4,lt _ (by simp),l1,(H.new f2).1,(H.new f3).1,(H.new f2).2,(H.new f3).2⟩ a1 f1 f2 f3)
 simp only[List.mem_cons,List.not_mem_nil,or_false,not_or] at hb fe;rcases hb with j1|j1|j1<;>(replace j1:=OK j1;subst j1)
 ·exact absurd rfl fe.1
 ·exact absurd rfl fe.2
 ·exact⟨_,H.dg,a6⟩
theorem Be(hA:lN A (frs.map (·.1)) 100)(C:GC w frs br n l gb dg it kf dk tp its ks tks ps)(H:GH frs br n l dg kf dk tp its ks tks ps vs t0 s.heap)(hG:s.heap.get? gb=some (fH dg it kf cg ck cv false hv ht se tg))(hit:s.heap.get? it=some (ew i))(hQ:∀h' tz,gy [it,gb,dg] frs s.heap h'->Q none (bp s h' tz)):wpAny (model pw w) A (pyNext (.ref gb)) Q E s:=by
 have off:∀b∈([it,gb,dg]:List Addr),br.get? b=none/\b∉aS frs:=λb hb=>by exact BD hb (C.off _ (by simp)) (C.off _ (by simp)) (C.off _ (by simp))
 have Gu:=C.up H (M:=[it,gb,dg]) λb hb=>(off b hb).1;refine eY (C:=167) (f:=163) (od:=some emptyDict) (K:=K w.params) (Gu.mono (λb o e=>OW _ e)).K ⟨hG,rfl,rfl,H.dg⟩ (by k_is) (by k_is) ?_;exact fI hA.h hA.f hA.d hA.u (Jp H.fr (λb hb=>(off b hb).2) Gu C.o0 C.o1 (λp hp=>by exact BD hp hit hG H.dg) λh' tz e S=>⟨e,rfl,(by refine aR S.wi λ_ f=>f.there),hQ h' tz (gy.ng S)⟩)
end
section
variable{S:Addr}{ks:Nat->Int}{vs:Nat->Value}{c cnt:Nat}
structure GSt(frs:Frs)(br:Heap)(n:Nat)(l gb dg it kf dk tp gr dr:Addr)(its:Array Value)(ks:Nat->Int)(tks:Nat->Tok)(ps:Nat->Addr)(vs:Nat->Value)(t0 tn:Tok)(c:Nat)(N:Int)(s₀:Shared)(acc:List Value)(s:Shared):Prop where
 H:GH frs br n l dg kf dk tp its ks tks ps vs t0 s.heap
 chg:gy [it,gb] frs s₀.heap s.heap
 vals:acc=(List.range acc.length).map λj=>Value.ref (ps (c+j))
 sI:s.heap.get? gr=some (l6 dr gb N tn (ks c) (tks c))
 adr:s.heap.get? dr=some emptyDict
 ph:(acc=[]/\s.heap.get? gb=some (fH dg it kf (.int N tn) (.int (ks c) (tks c)) (.ref (ps c)) true true true (.int N tn) (.int (ks c) (tks c)))/\s.heap.get? it=some (bC l (c+1)))∨
  (acc≠[]/\s.heap.get? gb=some (fH dg it kf (.int N tn) .none .none false false true (.int N tn) (.int (ks c) (tks c)))/\s.heap.get? it=some (bC l (c+acc.length)))
 rest:s.gens=s₀.gens/\s.drawn=s₀.drawn/\s.os=s₀.os
structure JE(frs:Frs)(br:Heap)(n:Nat)(l gb dg it kf dk tp:Addr)(its:Array Value)(ks:Nat->Int)(tks:Nat->Tok)(ps:Nat->Addr)(vs:Nat->Value)(t0 tn:Tok)(c cnt:Nat)(N:Int)(s₀:Shared)(acc:List Value)(s:Shared):Prop where
 H:GH frs br n l dg kf dk tp its ks tks ps vs t0 s.heap
 chg:gy [it,gb] frs s₀.heap s.heap
 vals:acc=(List.range acc.length).map λj=>Value.ref (ps (c+j))
 ph:(c+cnt<n/\s.heap.get? gb=some (fH dg it kf (.int N tn) (.int (ks (c+cnt)) (tks (c+cnt))) (.ref (ps (c+cnt))) true true true (.int N tn) (.int (ks c) (tks c)))/\s.heap.get? it=some (bC l (c+cnt+1)))∨
  (c+cnt=n/\s.heap.get? gb=some (fH dg it kf (.int N tn) .none .none false false true (.int N tn) (.int (ks c) (tks c)))/\s.heap.get? it=some (ew n))
 rest:s.gens=s₀.gens/\s.drawn=s₀.drawn/\s.os=s₀.os
theorem wI{acc:List Value}{f:Nat->Value}(e:acc=(List.range acc.length).map f):acc++[f acc.length]=(List.range (acc++[f acc.length]).length).map f:=by rw[List.length_append,List.length_singleton,List.range_succ,List.map_append,<-e];rfl
theorem EX(hA:lN A (frs.map (·.1)) 100)(C:GC w frs br n l gb dg it kf dk tp its ks tks ps)(hs:∀j,j<cnt->ks (c+j)=ks c)(hn:c+cnt<=n)(wJ:c+cnt<n->ks c≠ks (c+cnt))(hc:0<cnt)(o1:@LT.lt Nat _ it dr)(o2:@LT.lt Nat _ dr gr)(hg:br.get? gr=none/\br.get? dr=none/\gr∉aS frs/\dr∉aS frs)(hS:s₀.heap.get? S=none)(sG:S∉aS frs)(hSg:br.get? S=none)(hb:∀b,b∈[gr,dr,gb,it,dg,kf,dk,tp,l]->b≠S)(hbp:∀j,j<n->ps j≠S):
  Src w A gr S cnt (GSt frs br n l gb dg it kf dk tp gr dr its ks tks ps vs t0 tn c N s₀) (JE frs br n l gb dg it kf dk tp its ks tks ps vs t0 tn c cnt N s₀):=by
 have SM:S∉([it,gb]:List Addr):=by simp only[List.mem_cons,List.not_mem_nil,or_false,not_or];exact⟨OS (hb it (by simp)),OS (hb gb (by simp))⟩
 have JF:it≠gb:=OS (OI C.o1);have grM:gr∉([it,gb]:List Addr):=by simp only[List.mem_cons,List.not_mem_nil,or_false,not_or];have:=C.o1;exact⟨λq=>by subst q;exact OQ _ (Om o1 o2),λq=>by subst q;exact OQ _ (Om C.o1 (Om o1 o2))⟩
 have drM:dr∉([it,gb]:List Addr):=by simp only[List.mem_cons,List.not_mem_nil,or_false,not_or];exact⟨λq=>by subst q;exact OQ _ o1,λq=>by subst q;exact OQ _ (Om C.o1 o1)⟩
 have M0:∀b∈([it,gb]:List Addr),br.get? b=none:=λb eJ=>(C.off b (by simp at eJ ⊢;(rcases eJ with iY|iY<;>(replace iY:=OK iY;subst iY))<;>simp)).1;have uZ:∀{h h':Heap},GH frs br n l dg kf dk tp its ks tks ps vs t0 h->(∃o,h.get? gb=some o/\o.cls = .ref 167)->(∃o,h.get? it=some o/\o.cls = .type "list_iterator")->gy [it,gb] frs h h'->GH frs br n l dg kf dk tp its ks tks ps vs t0 h':=λ{h h'} H ⟨og,EY,cg⟩ ⟨oi,wz,ci⟩ k=>
  H.keep C k M0 λb eJ=>by
   have c1:(og.cls==Value.type "list")=false:=by rw[cg];decide
   have c2:(oi.cls==Value.type "list")=false:=by rw[ci];decide
   have c3:(og.cls==Value.type "tuple")=false:=by rw[cg];decide
   have c4:(oi.cls==Value.type "tuple")=false:=by rw[ci];decide
   simp only[List.mem_cons,List.not_mem_nil,or_false] at eJ;have n1:∀x∈([gb,dg,it]:List Addr),∀y∈([kf,dk,tp]:List Addr),x≠y:=C.ne;rcases eJ with eR|eR<;>(replace eR:=OK eR;subst eR)
   ·refine⟨OS (H.iS wz c2),?_,λj hj=>H.zT hj wz c4⟩
    simp only[List.mem_cons,List.not_mem_nil,or_false,not_or];exact⟨λq=>by subst q;exact OQ _ (Om C.o0 C.o1),n1 _ (by simp) _ (by simp),n1 _ (by simp) _ (by simp),n1 _ (by simp) _ (by simp)⟩
   ·refine⟨OS (H.iS EY c1),?_,λj hj=>H.zT hj EY c3⟩
    simp only[List.mem_cons,List.not_mem_nil,or_false,not_or];exact⟨λq=>by subst q;exact OQ _ C.o0,n1 _ (by simp) _ (by simp),n1 _ (by simp) _ (by simp),n1 _ (by simp) _ (by simp)⟩
 refine⟨λacc s h' tk st k=>?_,λacc s Q E hl st Jz hQ=>?_,λacc s Q E hl st hQ=>?_⟩
 ·have kS:gy [S] frs s.heap h':=gy.nc st.H.fr (λb hm=>by rw[List.mem_singleton.mp hm];exact sG) λb o hm e=>k b o (by simpa using hm) e
  have atS:∀{b:Addr}{o:Obj},b≠S->s.heap.get? b=some o->h'.get? b=some o:=λ{b o} hb e=>k b o hb e;refine⟨st.H.keep C kS (λb hm=>by rw[List.mem_singleton.mp hm];exact hSg) (λb hm=>?_),⟨λb o hm hf e=>atS (λq=>by rw[q,hS] at e;cases e) (st.chg.mx b o hm hf e),st.chg.ups.trans kS.ups,kS.fr⟩,st.vals,atS (hb _ (by simp)) st.sI,atS (hb _ (by simp)) st.adr,?_,st.rest⟩
  ·rw[List.mem_singleton.mp hm]
   refine⟨OS (hb _ (by simp)),?_,λj hj=>OS (hbp j hj)⟩;simp only[List.mem_cons,List.not_mem_nil,or_false,not_or];exact⟨OS (hb _ (by simp)),OS (hb _ (by simp)),OS (hb _ (by simp)),OS (hb _ (by simp))⟩
  ·rcases st.ph with eS|ib<;>(first|(refine du eS λa b c'=>?_;clear eS)| (refine du ib λa b c'=>?_;clear ib))
   ·exact .inl ⟨a,atS (hb _ (by simp)) b,atS (hb _ (by simp)) c'⟩
   ·exact .inr ⟨a,atS (hb _ (by simp)) b,atS (hb _ (by simp)) c'⟩
 ·rcases st.ph with j6|j7<;>(first|(refine du j6 λj8 hG hit=>?_;clear j6;subst j8)| (refine du j7 λne hG hit=>?_;clear j7))
  ·refine Ba hA C st.H (i:=c) (by omega) (Om C.o1 o1) o2 hg st.sI st.adr hG λh' tz k g1=>hQ _ _ ⟨uZ st.H ⟨_,hG,rfl⟩ ⟨_,hit,rfl⟩ (k.wide (by simp)),st.chg.trans (k.wide (by simp)),by simp,k.mx _ _ (λhm=>grM (by simp at hm ⊢;exact .inr hm)) hg.2.2.1 st.sI,k.mx _ _ (λhm=>drM (by simp at hm ⊢;exact .inr hm)) hg.2.2.2 st.adr,.inr ⟨by simp,g1,k.mx _ _ (by simpa using JF) (C.off it (by simp)).2 hit⟩,st.rest⟩ λo e=>k.mx _ _ (λhm=>SM (by simp at hm ⊢;exact .inr hm)) sG e
  ·have hlen:0<acc.length:=List.length_pos_iff.mpr ne
   refine Bb hA C st.H (c:=c) (i:=c+acc.length) (by omega) (by omega) (by omega) (hs _ hl).symm o1 o2 hg st.sI st.adr hG hit λh' tz k g1 g2=>hQ _ _ ⟨uZ st.H ⟨_,hG,rfl⟩ ⟨_,hit,rfl⟩ k,st.chg.trans k,wI (f:=λj=>Value.ref (ps (c+j))) st.vals,k.mx _ _ grM hg.2.2.1 st.sI,k.mx _ _ drM hg.2.2.2 st.adr,.inr ⟨by simp,g2,by rw[List.length_append,List.length_singleton,<-Nat.add_assoc];exact g1⟩,st.rest⟩ λo e=>k.mx _ _ SM sG e
 ·rcases st.ph with j2|j3<;>(first|(refine du j2 λj4 hG hit=>?_;clear j2;subst j4)| (refine du j3 λne hG hit=>?_;clear j3))
  ·simp at hl;omega
  ·rw[hl] at hit
   by_cases cN:c+cnt<n
   ·exact yU hA C st.H (c:=c) (i:=c+cnt) (by omega) cN (wJ cN) o1 o2 hg st.sI st.adr hG hit λh' tz k g1 g2=>hQ _ ⟨uZ st.H ⟨_,hG,rfl⟩ ⟨_,hit,rfl⟩ k,st.chg.trans k,st.vals,.inl ⟨cN,g2,g1⟩,st.rest⟩ λo e=>k.mx _ _ SM sG e
   ·have e:c+cnt=n:=by omega
    rw[e] at hit;exact EW hA C st.H (c:=c) o1 o2 hg st.sI st.adr hG hit λh' tz k g1=>hQ _ ⟨uZ st.H ⟨_,hG,rfl⟩ ⟨_,hit,rfl⟩ (k.wide (by simp)),st.chg.trans (k.wide (by simp)),st.vals,.inr ⟨e,k.mx _ _ (by simpa using Ne.symm JF) (C.off gb (by simp)).2 hG,g1⟩,st.rest⟩ λo e=>k.mx _ _ (λhm=>SM (by simp at hm ⊢;exact .inl hm)) sG e
end
structure gV(M:List Addr)(env:Env)(fo:Frs)(m:Str->Option Value)(h h':Heap):Prop where
 mx:∀b o,b∉M->b∉env.locals::aS fo->h.get? b=some o->h'.get? b=some o
 ups:kj fo h h'
 fr:aU ((env,m)::fo) h'
theorem gV.trans(x:gV M env fo m h h')(y:gV M env fo m' h' f5):gV M env fo m' h f5:=
 ⟨λb o hb hf e=>y.mx b o hb hf (x.mx b o hb hf e),x.ups.trans y.ups,y.fr⟩
theorem gV.wide(x:gV M env fo m h h')(H:∀b∈M,b∈M'):gV M' env fo m h h':=⟨λb o hb hf e=>x.mx b o (λhm=>hb (H b hm)) hf e,x.ups,x.fr⟩
theorem gV.qj(x:gy M ((env,m)::fo) h h'):gV M env fo m h h':=⟨x.mx,x.ups.tail,x.fr⟩
theorem gV.of_keep(F:aU ((env,m)::fo) h)(hL:env.locals∉aS fo)(hM:∀b∈M,b∉aS fo)(hn:h'.Ns env.locals m')(k:∀b o,b≠env.locals->b∉M->h.get? b=some o->h'.get? b=some o):gV M env fo m' h h':=by
 have at':∀b o,b∈aS fo->h.get? b=some o->h'.get? b=some o:=λb o hb e=>k b o (λq=>hL (q▸hb)) (λhm=>hM b hm hb) e;refine⟨λb o hb hf e=>k b o (λq=>hf (q▸.head _)) hb e,.same at',λp hp=>?_⟩;rcases OA hp with j2|hp<;>(first|(replace j2:=OK j2;subst j2)|skip)
 ·refine du (F _ (.head _)) λa b _=>?_
  exact⟨a,b,hn⟩
 ·refine du (F p (.tail _ hp)) λa b j1=>aV j1 λo es ep ho r=>?_;clear j1
  exact⟨a,b,o,es,ep,at' _ _ (OE hp) ho,r⟩
noncomputable def putAll(items:Array Value)(v:Value)(ps:List Nat):Array Value:=ps.foldl (λa p=>a.setIfInBounds p v) items
theorem iw:∀(ps:List Nat)(items:Array Value),(putAll items v ps).size=items.size
 | [],_=>rfl
 |p::ps,items=>by show (putAll (items.setIfInBounds p v) v ps).size=_;rw[iw ps,Array.size_setIfInBounds]
theorem putAll_snoc{ps:List Nat}{p:Nat}:putAll items v (ps++[p])=(putAll items v ps).setIfInBounds p v:=by unfold putAll;rw[List.foldl_append];rfl
section
variable{Q:Flow->Shared->Prop}{R D:Addr}{ts:Nat->Addr}{xs:Nat->Value}{poss:List Nat}
 {p10:Pos}{kk:Nat}
theorem inner(hh:A.handled=none)(hk:env.scope.kind = .function)(hp:(env.scope.kind == .class||(env.scope.kind == .module&&env.locals !=env.globals))=false)(k1:env.kindOf (sn "value")=some .local)(k2:env.kindOf (sn "orig_pos")=some .local)(k3:env.kindOf (sn "group")=some .local)(k4:env.kindOf (sn "result")=some .local)(k5:env.kindOf (sn "rank")=some .local)(F:aU ((env,m)::fo) s.heap)(hL:env.locals∉aS fo)(hRf:R∉aS fo)(m3:m (sn "group")=some (.ref D))(m4:m (sn "result")=some (.ref R))(m5:m (sn "rank")=some v)(hR:s.heap.IsList R items)(hD:s.heap.IsList D (poss.mapIdx λj _=>Value.ref (ts j)).toArray)(DR:D≠R)(hz:items.size<=64)(hpz:poss.length<=64)(hT:∀(j p:Nat),poss[j]?=some p->(∃u,IsPair s.heap (ts j) (xs j) (.int p u))/\p<items.size)(hK:∀s' m',gV [R] env fo m' s.heap s'.heap->(s'.gens=s.gens/\s'.drawn=s.drawn/\s'.os=s.os)->s'.heap.IsList R (putAll items v poss)->(∀y,y≠sn "value"->y≠sn "orig_pos"->m' y=m y)->Run w A env (rest::bs) Q E s'):
  Run w A env ((.For (.Tuple [.Name (sn "value") p1,.Name (sn "orig_pos") p2] kk p3) (.Name (sn "group") p4) [.Assign [.Subscript (.Name (sn "result") p5) (.Name (sn "orig_pos") p6) p7] (.Name (sn "rank") p8) p9] [] p10::rest)::bs) Q E s:=by
 have hn:s.heap.Ns env.locals m:=(F _ (.head _)).2.2;refine Run.cons (wpAny_For (Ev.ao (v:=.ref D) hn m3 hk k3 (by decide) s _ _ (ak _) λx h₁ bg gp bB=>?_));subst bB;have Cq:∀{h:Heap}{b:Addr}{its:Array Value}{mm:Str->Option Value},h.IsList b its->h.Ns env.locals mm->b≠env.locals:=λhb sM q=>by refine bl hb λo ho _ j4=>aR j4 λn hd=>?_;clear hb j4;refine bf sM λo' es ep aW bL _=>?_;clear sM;rw[q,aW] at ho;cases ho;rw[bL] at hd;cases hd
 have RL:=Cq hR hn;have DL:=Cq hD hn;refine O1 (isList_stays gp hD) ?_;generalize hI:h₁.objs.size=I;have In:h₁.get? I=none:=hI▸OL (OM _);have up:s.heap.StaysIn (h₁.push {cls:=.type "list_iterator",data:=.fields #[.ref D,.int 0 0]}):=ai gp λb o e=>K' _ e;have yW:∀{b o},s.heap.get? b=some o->b≠I:=λe q=>by rw[q,bq gp In] at e;cases e
 have RI:R≠I:=by refine ar hR λo ho _=>yW ho
 have DI:D≠I:=by refine ar hD λo ho _=>yW ho
 have LI:env.locals≠I:=by refine aV hn λo _ _ ho _=>yW ho
 have Cr:∀j,(poss.mapIdx λj _=>Value.ref (ts j)).toArray[j]?=(poss[j]?).map λ_=>Value.ref (ts j):=λj=>by simp
 refine jn (λk s'=>∃h' tk m' j,s'=(bp s h' tk)/\h'.IsListIter I D j/\h'.Ns env.locals m'/\(∀y,y≠sn "value"->y≠sn "orig_pos"->m' y=m y)/\h'.IsList R (putAll items v (poss.take j))/\j<=poss.length/\
   k=poss.length+1-j/\∀b o,b≠env.locals->b≠R->b≠I->s.heap.get? b=some o->h'.get? b=some o) ?_ (poss.length+1)
  ⟨_,_,m,0,rfl,⟨_,hI▸OC _ rfl,rfl,rfl⟩,hn.keeps up,λ_ _ _=>rfl,isList_stays up hR,PF _,rfl,λb o _ _ _ e=>up b o e⟩
 intro I' Rr k s' T En qE JG hI rX wZ;refine nU hI λh' tk m' j j2=>qL j2 λj3 hit fe iI w4 hj ek keep=>?_;clear hI j2;subst j3;have BK:h'.IsList D (poss.mapIdx λj _=>Value.ref (ts j)).toArray:=by refine ar hD λo ho r=>⟨o,keep _ _ DL DR DI ho,r⟩
 cases hx:poss[j]? with
 |none=>
  have hjl:j=poss.length:=by have:=List.getElem?_eq_none_iff.mp hx;omega
  refine wpAny_pyNext_list_end hh hit BK (by rw[Cr,hx];rfl) λh₂ aJ=>rX _ (PD (JG _ _ ?_));refine hK _ m' (gV.of_keep F hL (λb hb=>by rw[List.mem_singleton.mp hb];exact hRf) ?_ λb o hb hbR e=>aJ b o (yW e) (keep b o hb (by simpa using hbR) (yW e) e)) ⟨rfl,rfl,rfl⟩ ?_ iI
  ·refine aV fe λo es ep ho r=>⟨o,es,ep,aJ _ _ LI ho,r⟩
  ·rw[hjl,List.take_length] at w4
   refine ar w4 λo ho r=>⟨o,aJ _ _ RI ho,r⟩
 |some p=>
  refine cA (hT j p hx) λj1 zK=>aR j1 λu hP=>?_;clear j1;have hjl:j<poss.length:=(List.getElem?_eq_some_iff.mp hx).1;have hPo:s.heap.get? (ts j)=some _:=hP;have TL:ts j≠env.locals:=λq=>by refine bf hn λo es ep ho hd _=>?_;clear hn;rw[<-q,hPo] at ho;cases ho;cases hd
  have TR:ts j≠R:=λq=>by refine bl hR λo ho hc _=>?_;clear hR;rw[<-q,hPo] at ho;cases ho;have Gw:Value.type "tuple"=Value.type "list":=hc;simp at Gw
  have TI:=yW hPo;refine wpAny_pyNext_list_item hit BK (x:=.ref (ts j)) (by rw[Cr,hx];rfl) λh₂ dY aJ=>wZ _ _ λBn hB _=>?_;refine wpAny_letOwnedTupleGo_listiter dY ?_;have cD:h₂.Ns env.locals m':=by refine aV fe λo es ep ho r=>⟨o,es,ep,aJ.extBut _ _ LI ho,r⟩
  refine kcp_assign hh (x:=xs j) (y:=.int p u) ⟨_,aJ.extBut _ _ TI (keep _ _ TL TR TI hPo),rfl,_,rfl⟩ k1 k2 hp cD λh₃ cW fK fL=>?_;have JH:h₃.IsList R (putAll items v (poss.take j)):=by refine ar w4 λo ho r=>⟨o,fL _ _ RL (aJ.extBut _ _ RI ho),r⟩
  have r1:sn "rank"≠sn "value":=by decide
  have r2:sn "rank"≠sn "orig_pos":=by decide
  have r3:sn "result"≠sn "value":=by decide
  have r4:sn "result"≠sn "orig_pos":=by decide
  refine OT (wpAny_Assign_Subscript (Ev.ao (v:=v) fK (by rw[if_neg r2,if_neg r1,iI _ r1 r2];exact m5) hk k5 (by decide) _ _ _ (ak _) λN4 h₄ f9 tV mJ=>?_));subst mJ;refine Ev.ao (v:=.ref R) (fK.keeps tV) (by rw[if_neg r4,if_neg r3,iI _ r3 r4];exact m4) hk k4 (by decide) _ _ _ (ak _) λN5 h₅ oU JI sW=>?_;subst sW;refine Ev.ao (v:=.int p u) ((fK.keeps tV).keeps JI) (by rw[if_pos rfl]) hk k2 (by decide) _ _ _ (ak _) λN6 h₆ iq MS yz=>?_;subst yz;have u0:=ai tV (ai JI MS);refine wpAny_setItem_list (isList_stays u0 JH) (by omega) (by omega) (by rw[iw];omega) λh₇ JJ fG=>?_;refine PD (hB (poss.length+1-(j+1)) _ (by omega) (qE _ _ ⟨h₇,iq,(λz=>if z=sn "orig_pos" then some (.int p u) else if z=sn "value" then some (xs j) else m' z),j+1,rfl,?_,?_,λy y1 y2=>?_,?_,by omega,rfl,λb o b1 b2 b3 e=>fG.extBut _ _ b2 (u0 _ _ (fL _ _ b1 (aJ.extBut _ _ b3 (keep _ _ b1 b2 b3 e))))⟩))
  ·refine ar dY λo ho r=>⟨o,fG.extBut _ _ (OS RI) (u0 _ _ (fL _ _ (OS LI) ho)),r⟩
  ·exact (show h₇.Ns env.locals (λz=>if z=sn "orig_pos" then some (.int p u) else if z=sn "value" then some (xs j) else m' z) from by refine aV (fK.keeps u0) λo es ep ho r=>⟨o,es,ep,fG.extBut _ _ (OS RL) ho,r⟩)
  ·show (if y=sn "orig_pos" then _ else if y=sn "value" then _ else m' y)=m y
   rw[if_neg y2,if_neg y1];exact iI y y1 y2
  ·have e:poss.take (j+1)=poss.take j++[p]:=by rw[List.take_add_one,hx];rfl
   rw[e,putAll_snoc];simpa using JJ
end
def Num(I:Int)(v:Value):Prop:=(∃k t,v = .int k t/\I=16*k)∨∃z t,v = .float z t/\Fl z I
theorem EZ{p q:Int}(hp:p≠0)(hq:q≠0)(JK:p.natAbs<2^45)(hqb:q.natAbs<2^45)(hc:16*p=c*q)(kq:c.natAbs<2^53):Fl (jy p q) c:=by
 have fp:=Fl.ofInt (n:=p) (Ou JK (by decide));have fq:=Fl.ofInt (n:=q) (Ou hqb (by decide));have e1:=fp.lZ fq (by omega) (by omega);have e2:jy (16*p) (16*q)=jy p q:=oO (by omega) hq (by rw[Int.mul_assoc,Int.mul_left_comm]) (by congr 1<;>(congr 1;simp only[eq_iff_iff];omega))
 rw[<-e2,<-e1];exact fp.div fq (by omega) (by rw[Int.mul_left_comm c 16 q,<-hc]) kq
section
variable{l:Expr}
theorem div_ii{b:Int}(ha:a≠0)(hb:b≠0)(nY:a.natAbs<2^45)(hbb:b.natAbs<2^45)(hc:16*a=c*b)(kq:c.natAbs<2^53)(hq:∀z,Fl z c->Q (.float z s.toks) (bp s s.heap (s.toks+1))):wpAny (model pw w) A (binaryOp .Div (.int a t) (.int b u)) Q E s:=by
 have f:=EZ ha hb nY hbb hc kq;exact AutoIntOps.truediv_2 (by simpa using hb) (by show ¬Float64.isInf (jy a b)=true;rw[f.xi];decide) (hq _ f)
theorem Ev.Ct{b:Int}(Hl:eI w A h env l a)(Hr:eI w A h env r b)(ha:a≠0)(hb:b≠0)(nY:a.natAbs<2^45)(hbb:b.natAbs<2^45)(hc:16*a=c*b)(kq:c.natAbs<2^53):Ev w A h env (.BinOp l .Div r pos) (dB c):=
 Ev.bin Hl Hr (by rintro _ _ s Q E ⟨t,rfl⟩ ⟨u,rfl⟩ _ hq;exact div_ii ha hb nY hbb hc kq λz hz=>hq _ s.heap _ (ak _) ⟨z,_,rfl,hz⟩)
theorem Ev.JL{b:Int}(Hl:Ev w A h env l λv _=>Num I v)(Hr:Ev w A h env r (dB b))(hI:I.natAbs<2^50)(hb:b.natAbs<2^50):Ev w A h env (.BinOp l .Add r pos) (dB (I+b)):=
 Ev.bin Hl Hr (by
  rintro _ _ s Q E hN ⟨z,t,rfl,hz⟩ _ hq
  rcases hN with j2|j3<;>(first|(refine aN j2 λk t' j4 j5=>?_;clear j2;subst j4;subst j5)| (refine aN j3 λy t' j6 hy=>?_;clear j3;subst j6))
  ·have hk:k.natAbs<2^49:=by omega
   exact PyProof.Rows.add_if_fits (mI hk) (hq _ s.heap _ (ak _) ⟨_,_,rfl,(Fl.ofInt hk).add hz (by omega)⟩)
  ·exact AutoFloatOps.add_0 (hq _ s.heap _ (ak _) ⟨_,_,rfl,hy.add hz (by omega)⟩))
theorem Ev.JM{b:Int}(Hl:Ev w A h env l λv _=>Num I v)(Hr:eI w A h env r b)(hI:I.natAbs<2^50)(hb:b.natAbs<2^45):Ev w A h env (.BinOp l .Sub r pos) (λv _=>Num (I-16*b) v):=
 Ev.bin Hl Hr (by
  rintro _ _ s Q E hN ⟨t,rfl⟩ _ hq
  rcases hN with j2|j3<;>(first|(refine aN j2 λk t' j4 j5=>?_;clear j2;subst j4;subst j5)| (refine aN j3 λy t' j6 hy=>?_;clear j3;subst j6))
  ·exact sub_int (hq _ s.heap _ (ak _) (.inl ⟨k-b,_,rfl,by omega⟩))
  ·have hk:b.natAbs<2^49:=by omega
   exact PyProof.Rows.sub_fi_fits (mI hk) (hq _ s.heap _ (ak _) (.inr ⟨_,_,rfl,hy.sub (Fl.ofInt hk) (CN (nbS (PG hI) (zJ wW (PG hb))) rfl)⟩)))
theorem yX{b:Int}(hN:Num I v)(hI:I.natAbs<2^50)(hb:b.natAbs<2^45)(hq:∀u,Num (I+16*b) u->Q u (bp s s.heap (s.toks+1))):
  wpAny (model pw w) A (inplaceOp .Add v (.int b t)) Q E s:=by
 rcases hN with j2|j3<;>(first|(refine aN j2 λk t' j4 j5=>?_;clear j2;subst j4;subst j5)| (refine aN j3 λy t' j6 hy=>?_;clear j3;subst j6))
 ·exact wpAny_iadd_int (hq _ (.inl ⟨k+b,_,rfl,by omega⟩))
 ·have hk:b.natAbs<2^49:=by omega
  exact PySem.Flt.iadd_fi_1 (dW hk) (hq _ (.inr ⟨_,_,rfl,hy.add (Fl.ofInt hk) (CN (zV (PG hI) (zJ wW (PG hb))) rfl)⟩))
end
theorem Bf(n:Nat)(ks:Nat->Int)(a:Nat)(ha:a<n):∃cnt,0<cnt/\a+cnt<=n/\(∀j,j<cnt->ks (a+j)=ks a)/\(a+cnt<n->ks a≠ks (a+cnt)):=by
 have:∀k,a+k<=n->0<k->(∀j,j<k->ks (a+j)=ks a)->∃cnt,0<cnt/\a+cnt<=n/\(∀j,j<cnt->ks (a+j)=ks a)/\(a+cnt<n->ks a≠ks (a+cnt)):=by
  intro k hk h0 hs;induction hd:n-(a+k) generalizing k with
  |zero=>exact⟨k,h0,hk,hs,λh=>by omega⟩
  |succ d ih=>
   by_cases e:ks a=ks (a+k)
   ·refine ih (k+1) (by omega) (by omega) (λj hj=>?_) (by omega)
    by_cases q:j=k
    ·subst q;exact e.symm
    ·exact hs j (by omega)
   ·exact⟨k,h0,hk,hs,λ_=>e⟩
 exact this 1 (by omega) (by omega) λj hj=>by
  have:j=0:=by omega
  subst this;rfl
section
variable{Q:Flow->Shared->Prop}{y:Str}{P:Value->Heap->Prop}
theorem kJ{h₁ h₂:Heap}{v:Value}{m':Str->Option Value}(F:aU ((env,m)::fo) s.heap)(hL:env.locals∉aS fo)(u:s.heap.StaysIn h₁)(hn:h₂.Ns env.locals m')(hs:Heap.SameBut env.locals h₁ h₂):gV [] env fo m' s.heap h₂:=
 .of_keep F hL (λb hb=>nomatch hb) hn λb o hb _ e=>hs.extBut b o hb (u b o e)
theorem u5(He:Ev w A s.heap env e λv _=>P v s.heap)(hl:env.kindOf y=some .local)(F:aU ((env,m)::fo) s.heap)(hL:env.locals∉aS fo)(hp:(env.scope.kind == .class||(env.scope.kind == .module&&env.locals !=env.globals))=false)(hk:∀v h' tk,P v s.heap->gV [] env fo (λz=>if z=y then some v else m z) s.heap h'->Run w A env (rest::bs) Q E (bp s h' tk))(kn:autoParam (swapsWith e (some (.Name y p)) pos.line env=pure false) cH):Run w A env ((.Assign [.Name y p] e pos::rest)::bs) Q E s:=by
 refine Run.cons (Ot (He s _ _ (ak _) λv h₁ bg gp ba=>?_) kn);refine OR hl ((F _ (.head _)).2.2.keeps gp) (λh₂ cD aJ=>?_) hp;exact hk v h₂ _ ba (kJ (v:=v) F hL gp cD aJ)
theorem Bg{b:Int}(hk:env.scope.kind = .function)(hv:m y=some vi)(hN:Num I vi)(hI:I.natAbs<2^50)(hb:b.natAbs<2^45)(He:Ev w A s.heap env e (ff (.int b t)))(hl:env.kindOf y=some .local)(F:aU ((env,m)::fo) s.heap)(hL:env.locals∉aS fo)(hp:(env.scope.kind == .class||(env.scope.kind == .module&&env.locals !=env.globals))=false)(hK:∀v h' tk,Num (I+16*b) v->gV [] env fo (λz=>if z=y then some v else m z) s.heap h'->Run w A env (rest::bs) Q E (bp s h' tk)):Run w A env ((.AugAssign (.Name y p) .Add e pos::rest)::bs) Q E s:=by
 have hn:=(F _ (.head _)).2.2;refine Run.cons (wpAny_AugAssign_Name (wpAny_loadName_local hk hl hn hv (He s _ _ (ak _) λv h₁ bg gp ba=>?_)));obtain rfl:v = .int b t:=ba;refine yX hN hI hb λu hu=>?_;refine OR hl (hn.keeps gp) (λh₂ cD aJ=>?_) hp;exact hK u h₂ _ hu (kJ (v:=u) F hL gp cD aJ)
end
theorem qk{x1}{r a c:Addr}{Q:Unit->Shared->Prop}(ho:s.heap.get? r=some o)(hc:o.cls = .ref c)(hQ:Q () s):
  wpAny (model prog w) A (letOwnedTupleGo (.Tuple elts x1 pos) (.ref r) (.ref a)) Q E s:=by
 unfold letOwnedTupleGo;refine J' (wpAny_load ho ?_);rw[hc];exact OD hQ
theorem GH.stp{ks:Nat->Int}{vs:Nat->Value}(H:GH ((env,m)::fo) br n l dg kf dk tp its ks tks ps vs t0 h)(C:GC w ((env,m)::fo) br n l gb dg it kf dk tp its ks tks ps)(k:gV M env fo m' h h')(h0:∀b∈M,br.get? b=none)(h1:∀b∈M,b≠l/\b∉[dg,kf,dk,tp]/\∀j,j<n->b≠ps j):
  GH ((env,m')::fo) br n l dg kf dk tp its ks tks ps vs t0 h':=by
 have AZ:∀{b:Addr}{o:Obj},b∈[dg,kf,dk,tp]->h.get? b=some o->h'.get? b=some o:=λ{b o} hb e=>k.mx b o (λhm=>(h1 b hm).2.1 hb) (C.off b (by
  simp only[List.mem_cons,List.not_mem_nil,or_false] at hb ⊢
  (rcases hb with j1|j1|j1|j1<;>(replace j1:=OK j1;subst j1))<;>simp)).2 e
 refine⟨λb o hf e=>k.mx b o (λhm=>by rw[h0 b hm] at e;cases e) hf (H.st b o hf e),k.fr,?_,AZ (by simp) H.dg,AZ (by simp) H.kf,AZ (by simp) H.dk,AZ (by simp) H.tp,λj hj=>k.mx _ _ (λhm=>(h1 _ hm).2.2 j hj rfl) (C.tQ j hj).2 (H.tS j hj)⟩;refine ar H.li λo ho r=>?_;exact⟨o,k.mx _ _ (λhm=>(h1 _ hm).1 rfl) C.AY ho,r⟩
theorem GC.names{ks:Nat->Int}(C:GC w ((env,m)::fo) br n l gb dg it kf dk tp its ks tks ps):GC w ((env,m')::fo) br n l gb dg it kf dk tp its ks tks ps:=
 ⟨C.G,C.off,C.tQ,C.AY,C.size,C.item,C.o0,C.o1,C.ne,C.tok,C.tne⟩
section
variable{ks:Nat->Int}{vs:Nat->Value}{c cnt:Nat}
theorem yY(hA:lN A (frs.map (·.1)) 90)(C:GC w frs br n l gb dg it kf dk tp its ks tks ps)(H:GH frs br n l dg kf dk tp its ks tks ps vs t0 s.heap)(S:GS frs br l gb dg it kf ks tks ps c N gr dr tn s.heap)(hs:∀j,j<cnt->ks (c+j)=ks c)(hn:c+cnt<=n)(wJ:c+cnt<n->ks c≠ks (c+cnt))(hc:0<cnt)(h64:cnt<=64)(hQ:∀s' acc c',acc.length=cnt->JE frs br n l gb dg it kf dk tp its ks tks ps vs t0 tn c cnt N s acc s'->s'.heap.get? s.heap.objs.size=some {cls:=.type "list",dict:=none,data:=.seq acc.toArray c',slots:=#[]}->Q (.ref s.heap.objs.size) s'):
  wpAny (model pw w) A (call (.type "list") [.ref gr]) Q E s:=by
 have no:s.heap.get? s.heap.objs.size=none:=OL (OM _);have ne:∀{b o},s.heap.get? b=some o->b≠s.heap.objs.size:=λe q=>by rw[q,no] at e;cases e
 have hA2:lN A.in1.in1 (frs.map (·.1)) 100:=⟨hA.h,hA.f,hA.d,by have:=hA.u;show A.units+1+1<=100;omega⟩;have src:=EX (vs:=vs) (t0:=t0) (tn:=tn) (N:=N) (s₀:=s) (S:=s.heap.objs.size) hA2 C hs hn wJ hc S.o1 S.o2 S.off no (H.new no).2 (H.new no).1 (λb hb=>by exact GN hb (ne S.sI) (ne S.adr) (ne S.Gx) (ne S.JD) (ne H.dg) (ne H.kf) (ne H.dk) (ne H.tp) (ar H.li λo ho _=>ne ho)) λj hj=>ne (H.tS j hj)
 have KX:∀{h:Heap},GH frs br n l dg kf dk tp its ks tks ps vs t0 h->(K w.params).In h:=λH'=>((C.up H' (M:=[]) (λb hb=>nomatch hb)).mono λb o e=>OW _ e).K;refine yB (C:=212) (f:=201) (ox:=l6 dr gb N tn (ks c) (tks c)) (od:=some emptyDict) src ⟨H,⟨λb o _ _ e=>e,.same λb o _ e=>e,H.fr⟩,rfl,S.sI,S.adr,.inl ⟨rfl,S.Gx,S.JD⟩,rfl,rfl,rfl⟩ (ON S.sI) h64
  (λacc s' st=>⟨KX st.H,st.sI,rfl,rfl,st.adr⟩) (by decide) (by k_is) (by k_is) (λs' Q' E' st hq=>?_) hQ
 refine rW (C:=212) (f:=201) (g:=208) (od:=some emptyDict) (KX st.H) ⟨st.sI,rfl,rfl,st.adr⟩ (by k_is) (by k_is) (by k_is) ?_;refine jw (A:=A.in1.in1) hA.h (by have:=hA.d;show A.depth<=400;omega) (by have:=hA.u;show A.units+1+1<=1000;omega) (yT (KX st.H) λv h' tk k e=>?_);exact⟨e,(KX st.H).keeps k,⟨k _ _ st.sI,rfl,rfl,k _ _ st.adr⟩,hq h' tk k⟩
end
structure KR(env:Env):Prop where
 kind:env.scope.kind = .function
 hp:(env.scope.kind == .class||(env.scope.kind == .module&&env.locals !=env.globals))=false
 gl:env.globals=mainGlobals
 bu:env.builtins=builtinsNs
 lo:∀y∈[sn "_",sn "g",sn "group",sn "size",sn "rank",sn "value",sn "orig_pos",sn "i",sn "result",sn "val_pos"],env.kindOf y=some .local
 go:∀y∈[sn "groupby",sn "itemgetter",sn "list",sn "len"],env.kindOf y=some .globalImplicit
def Ph(n:Nat)(l gb dg it kf:Addr)(ks:Nat->Int)(tks:Nat->Tok)(ps:Nat->Addr)(a:Nat)(h:Heap):Prop:=
 (a=0/\a<n/\∃t2 t3,h.get? gb=some (fH dg it kf (.int 0 t2) .none .none false false false (.int 0 t3) .none)/\h.get? it=some (bC l 0))∨
 (0<a/\a<n/\ks (a-1)≠ks a/\∃c N tn,c<n/\ks c≠ks a/\h.get? gb=some (fH dg it kf (.int N tn) (.int (ks a) (tks a)) (.ref (ps a)) true true true (.int N tn) (.int (ks c) (tks c)))/\h.get? it=some (bC l (a+1)))∨
 (a=n/\∃cg ck cv hv ht se tg,h.get? gb=some (fH dg it kf cg ck cv false hv ht se tg)/\h.get? it=some (ew n))
theorem Ph.of{ks:Nat->Int}{a:Nat}(P:Ph n l gb dg it kf ks tks ps a h)(k:∀b o,b∈[gb,it]->h.get? b=some o->h'.get? b=some o):Ph n l gb dg it kf ks tks ps a h':=by
 rcases P with j2|j3|j4<;>(first|(refine du j2 λa1 a2 j5=>aN j5 λt2 t3 e1 e2=>?_;clear j2 j5)| (refine eP j3 λa1 a2 a3 j6=>dj j6 λc N tn c1 c2 e1 e2=>?_;clear j3 j6)| (refine cA j4 λa1 j7=>BA j7 λcg ck cv hv ht se tg j8=>cA j8 λe1 e2=>?_;clear j4 j7 j8))
 ·exact .inl ⟨a1,a2,t2,t3,k _ _ (by simp) e1,k _ _ (by simp) e2⟩
 ·exact .inr (.inl ⟨a1,a2,a3,c,N,tn,c1,c2,k _ _ (by simp) e1,k _ _ (by simp) e2⟩)
 ·exact .inr (.inr ⟨a1,cg,ck,cv,hv,ht,se,tg,k _ _ (by simp) e1,k _ _ (by simp) e2⟩)
theorem kK{v:Value}:∀(ps:List Nat)(items:Array Value)(p:Nat),(p∈ps->p<items.size->(putAll items v ps)[p]?=some v)/\(p∉ps->(putAll items v ps)[p]?=items[p]?)
 | [],items,p=>⟨(λh=>nomatch h),λ_=>rfl⟩
 |q::ps,items,p=>by
  have ih:=kK (v:=v) ps (items.setIfInBounds q v) p;rw[Array.size_setIfInBounds] at ih;refine⟨λhm hs=>?_,λhm=>?_⟩
  ·show (putAll (items.setIfInBounds q v) v ps)[p]?=some v
   by_cases h:p∈ps
   ·exact ih.1 h hs
   ·rw[ih.2 h]
    rcases OA hm with j1|h'<;>(first|(replace j1:=OK j1;subst j1)|skip)
    ·rw[Array.getElem?_setIfInBounds];simp[hs]
    ·exact absurd h' h
  ·show (putAll (items.setIfInBounds q v) v ps)[p]?=items[p]?
   simp only[List.mem_cons,not_or] at hm;rw[ih.2 hm.2,Array.getElem?_setIfInBounds,if_neg (Ne.symm hm.1)]
section
variable{Q:Flow->Shared->Prop}{R:Addr}
 {ks:Nat->Int}
 {q1 q2 q3 q4 q5 q6 q7 q8 q9 r1 r2 r3 r4 r5 r6 r7 r8 r9 t1 t2 t3 t4 t5 t6 t7 t8 v1 v2 v3 v4 v5 v6 v7 v8:Pos}{kk kk2 kc1 kc2:Nat}
theorem aU.head{p:Env×(Str->Option Value)}(F:aU (p::frs) h):p.1.scope.kind≠.module/\p.1.frame=some p.1.locals/\h.Ns p.1.locals p.2:=F p (.head _)
theorem aU.own(F:aU ((env,m)::frs) h):h.Ns env.locals m:=(F _ (.head _)).2.2
theorem turn(hA:lN A (env::fo.map (·.1)) 50)(ed:KR env){a cnt:Nat}{vs:Nat->Value}(C:GC w ((env,m)::fo) g n l gb dg it kf dk tp its ks tks ps)(H:GH ((env,m)::fo) g n l dg kf dk tp its ks tks ps vs t0 s.heap)(S:GS ((env,m)::fo) g l gb dg it kf ks tks ps a N gr dr tn s.heap)(hL:env.locals∉aS fo)(Gy:∀b∈env.locals::aS fo,g.get? b=none)(hs:∀j,j<cnt->ks (a+j)=ks a)(hn:a+cnt<=n)(wJ:a+cnt<n->ks a≠ks (a+cnt))(hc:0<cnt)(h64:n<=64)(hvs:∀j,j<n->vs j = .int (poss j) (us j))(hR:s.heap.IsList R items)(JN:items.size=n)(Gz:g.get? R=none)(hRf:R∉aS fo)(lR:l≠R)(tW:∀j,j<n->poss j<n)(mg:m (sn "g")=some (.ref gr))(mr:m (sn "result")=some (.ref R))(mi:m (sn "i")=some vi)(hN:Num I vi)(hI:I.natAbs<2^45)(hK:∀s' m' z t yZ,gV [it,gb,R] env fo m' s.heap s'.heap->(s'.gens=s.gens/\s'.drawn=s.drawn/\s'.os=s.os)->m' (sn "result")=some (.ref R)->m' (sn "i")=some yZ->Num (I+16*cnt) yZ->
   GH ((env,m')::fo) g n l dg kf dk tp its ks tks ps vs t0 s'.heap->Fl z (I+8*(cnt+1))->s'.heap.IsList R (putAll items (.float z t) ((List.range cnt).map λj=>poss (a+j)))->Ph n l gb dg it kf ks tks ps (a+cnt) s'.heap->Q .next s'):
  Run w A env [[.Assign [.Name (sn "group") q1] (.Call (.Name (sn "list") q2) [.Name (sn "g") q3] [] q4) q5,
   .Assign [.Name (sn "size") q6] (.Call (.Name (sn "len") q7) [.Name (sn "group") q8] [] q9) r1,
   .Assign [.Name (sn "rank") r2] (.BinOp (.Name (sn "i") r3) .Add (.BinOp (.BinOp (.Name (sn "size") r4) .Add (.Constant (.int 1) kc1 r5) r6) .Div (.Constant (.int 2) kc2 r7) r8) r9) t1,
   .For (.Tuple [.Name (sn "value") t2,.Name (sn "orig_pos") t3] kk2 t4) (.Name (sn "group") t5) [.Assign [.Subscript (.Name (sn "result") t6) (.Name (sn "orig_pos") t7) t8] (.Name (sn "rank") v1) v2] [] v3,
   .AugAssign (.Name (sn "i") v4) .Add (.Name (sn "size") v5) v6]] Q E s:=by
 have hn0:s.heap.Ns env.locals m:=(H.fr _ (.head _)).2.2;have Gs:Gl w s.heap:=(C.up H (M:=[]) (λb hb=>nomatch hb)).mono λb o e=>OW _ e;have JO:=ed.go (sn "list") (by simp);refine Run.cons (Ot ?_);show wpAny _ _ (do let f <-eval (.Name (sn "list") q2) env;callWith q4 f [] (backTo q4 (starEach [.Name (sn "g") q3] env)) (backToKw q4 (keywordEach [] env))) _ _ _;refine J' (Ev.aE Gs (by k_is) uP ed.kind JO ed.gl ed.bu (by decide) (by decide) s _ _ (ak _) λf h₁ bg PO bB=>?_);subst bB;refine callWith_of (P:=λ_=>True) rfl (λh' _=>Kp.type (w:=w)) (PH (kZ.one (P₁:=ff (.ref gr)) (Ev.ao (v:=.ref gr) (hn0.keeps PO) mg ed.kind (ed.lo _ (by simp)) (by decide)) aA rfl _ _ _ (ak _) λws h₂ bZ PQ hz=>⟨trivial,?_⟩));refine ar hz ?_;clear hz;intro v j8 hz;subst j8;obtain rfl:v = .ref gr:=hz;have k02:=ai PO PQ;have JP:gy [] ((env,m)::fo) s.heap h₂:=gy.nc H.fr (λb hb=>nomatch hb) λb o _ e=>k02 b o e;have iZ:=H.keep C JP (λb hb=>nomatch hb) (λb hb=>nomatch hb);have MT:GS ((env,m)::fo) g l gb dg it kf ks tks ps a N gr dr tn h₂:=⟨k02 _ _ S.sI,k02 _ _ S.adr,k02 _ _ S.Gx,k02 _ _ S.JD,S.o1,S.o2,S.off⟩;have hDn:h₂.get? h₂.objs.size=none:=OL (OM _);have RD:h₂.objs.size≠R:=λq=>by refine ar (isList_stays k02 hR) λo ho _=>?_;rw[<-q,hDn] at ho;cases ho
 refine yY (frs:=(env,m)::fo) (s:=(bp s h₂ bZ)) ⟨hA.h,hA.f,hA.d,OB hA.u (by decide)⟩ C iZ MT hs hn wJ hc (by omega) λcq acc c' hl3 GF hD=>?_;have JQ:=GF.H.fr;have hn3:cq.heap.Ns env.locals m:=(JQ _ (.head _)).2.2;have stp3:gV [it,gb] env fo m s.heap cq.heap:=(gV.qj (JP.wide (λb hb=>nomatch hb))).trans (.qj GF.chg);refine OR (ed.lo _ (by simp)) hn3 (λh₄ gh eV=>?_) ed.hp;have st4:gV [] env fo (λz=>if z=sn "group" then some (Value.ref h₂.objs.size) else m z) cq.heap h₄:=kJ (v:=.none) JQ hL (ak _) gh eV;have Gl3:Gl w cq.heap:=(C.up GF.H (M:=[]) (λb hb=>nomatch hb)).mono λb o e=>OW _ e;have itR:it≠R:=λq=>by refine bl hR λo ho wH _=>?_;clear hR;rw[<-q,S.JD] at ho;cases ho;exact absurd wH (by simp)
 have gbR:gb≠R:=λq=>by refine bl hR λo ho wH _=>?_;clear hR;rw[<-q,S.Gx] at ho;cases ho;exact absurd wH (by simp)
 have RL:R∉env.locals::aS fo:=λhm=>by
  rcases OA hm with q|hm
  ·refine bf hn0 λo es ep ho hd _=>?_;clear hn0
   refine bl hR λo' aW _ j7=>aR j7 λn' bL=>?_;clear hR j7;rw[q,ho] at aW;cases aW;rw[hd] at bL;cases bL
  ·exact hRf hm
 have NW:cnt<=64:=by omega
 have hR3:cq.heap.IsList R items:=by refine ar hR λo ho r=>?_;clear hR;exact⟨o,stp3.mx _ _ (by simp only[List.mem_cons,List.not_mem_nil,or_false,not_or];exact⟨OS itR,OS gbR⟩) RL ho,r⟩
 have DL:h₂.objs.size≠env.locals:=λq=>by refine bf hn3 λo es ep ho hd _=>?_;clear hn3;rw[<-q,hD] at ho;cases ho;cases hd
 have DF:h₂.objs.size∉env.locals::aS fo:=λhm=>by
  rcases OA hm with q|hm
  ·exact DL q
  ·exact (iZ.new (s:=(bp s h₂ bZ)) hDn).2 (.tail _ hm)
 have hD4:h₄.IsList h₂.objs.size acc.toArray:=⟨_,st4.mx _ _ (by simp) DF hD,rfl,_,rfl⟩;refine u5 (s:=(bp cq h₄ (cq.toks+1))) (m:=λz=>if z=sn "group" then some (Value.ref h₂.objs.size) else m z) (P:=λv _=>∃t,v = .int cnt t) ?_ (ed.lo _ (by simp)) st4.fr hL ed.hp λv h₅ oU qJ st5=>?_
 ·have Gl4:Gl w h₄:=(C.names.up (GF.H.stp C st4 (λb hb=>nomatch hb) (λb hb=>nomatch hb)) (M:=[]) (λb hb=>nomatch hb)).mono λb o e=>OW _ e
  exact Ev.bz (P₁:=ff (.ref h₂.objs.size)) (Ev.aE Gl4 (by k_is) cR ed.kind (ed.go _ (by simp)) ed.gl ed.bu (by decide)) Kp.builtin (Ev.ao (v:=.ref h₂.objs.size) st4.fr.own (by rw[if_pos rfl]) ed.kind (ed.lo _ (by simp))) aA (λv h1 k1 q=>by obtain rfl:v = .ref h₂.objs.size:=q;exact mh (isList_stays k1 hD4) (by simpa using hl3) (by omega))
 refine aR qJ λt5 j6=>?_;clear qJ;subst j6;have sg:sn "group"≠sn "size":=by decide
 refine u5 (s:=(bp cq h₅ oU)) (P:=λv _=>∃z t,v = .float z t/\Fl z (I+8*(cnt+1))) ?_ (ed.lo _ (by simp)) st5.fr hL ed.hp λv h₆ iq sJ st6=>?_
 ·have n5:=st5.fr.own
  have i1:sn "i"≠sn "group":=by decide
  have i2:sn "i"≠sn "size":=by decide
  exact Ev.JL (Ev.mono (Ev.ao (v:=vi) n5 (by rw[if_neg i2,if_neg i1];exact mi) ed.kind (ed.lo _ (by simp))) λv h _ e=>e▸hN)
   (Ev.Ct (a:=cnt+1) (b:=2) (c:=8*(cnt+1)) (Ev.add (Ev.cS (Ev.ao (v:=.int cnt t5) n5 (by rw[if_pos rfl]) ed.kind (ed.lo _ (by simp)))) Ev.int) Ev.int (by omega) (by decide) (by omega) (by decide) (by omega) (by omega)) (by omega) (by omega)
 refine aN sJ λz tz j5 hz6=>?_;clear sJ;subst j5;have st36:gV [] env fo _ cq.heap h₆:=(st4.trans st5).trans st6;have hR6:h₆.IsList R items:=by refine ar hR3 λo ho r=>⟨o,st36.mx _ _ (by simp) RL ho,r⟩
 have hD6:h₆.IsList h₂.objs.size acc.toArray:=⟨_,st36.mx _ _ (by simp) DF hD,rfl,_,rfl⟩;have MU:acc=((List.range cnt).map λj=>poss (a+j)).mapIdx λj _=>Value.ref (ps (a+j)):=by
  rw[GF.vals,hl3];refine List.ext_getElem? λi=>?_;by_cases hi:i<cnt
  ·simp[hi]
  ·simp[hi]
 rw[MU] at hD6;have e1:sn "group"≠sn "rank":=by decide
 have e2:sn "result"≠sn "rank":=by decide
 have e3:sn "result"≠sn "size":=by decide
 have e4:sn "result"≠sn "group":=by decide
 refine inner (s:=(bp cq h₆ iq)) (fo:=fo) (ts:=λj=>ps (a+j)) (xs:=λj=>.int (ks (a+j)) (tks (a+j))) (poss:=(List.range cnt).map λj=>poss (a+j)) hA.h ed.kind ed.hp (ed.lo _ (by simp)) (ed.lo _ (by simp)) (ed.lo _ (by simp)) (ed.lo _ (by simp)) (ed.lo _ (by simp))
  st6.fr hL hRf (by rw[if_neg e1,if_neg sg,if_pos rfl]) (by rw[if_neg e2,if_neg e3,if_neg e4];exact mr) (by rw[if_pos rfl]) hR6 hD6 RD (by omega) (by simp;omega) (λj p hx=>?_) λMV MW st7 Cu hR7 hm7=>?_
 ·rw[List.getElem?_map] at hx
  have hj:j<cnt:=by apply Classical.byContradiction;intro q;rw[List.getElem?_eq_none (by simpa using q)] at hx;cases hx
  rw[List.getElem?_range hj] at hx;cases hx;have P:=GF.H.tS (a+j) (by omega);rw[hvs (a+j) (by omega)] at P;exact⟨⟨us (a+j),st36.mx _ _ (by simp) (C.tQ (a+j) (by omega)).2 P⟩,by rw[JN];exact tW _ (by omega)⟩
 have f1:sn "size"≠sn "value":=by decide
 have f2:sn "size"≠sn "orig_pos":=by decide
 have f3:sn "size"≠sn "rank":=by decide
 have i1:sn "i"≠sn "group":=by decide
 have i2:sn "i"≠sn "size":=by decide
 have i3:sn "i"≠sn "rank":=by decide
 have i4:sn "i"≠sn "value":=by decide
 have i5:sn "i"≠sn "orig_pos":=by decide
 have g1:sn "result"≠sn "value":=by decide
 have g2:sn "result"≠sn "orig_pos":=by decide
 have g3:sn "result"≠sn "i":=by decide
 refine Bg (s:=MV) (m:=MW) (vi:=vi) (b:=cnt) (t:=t5) ed.kind (by rw[hm7 _ i4 i5,if_neg i3,if_neg i2,if_neg i1];exact mi) hN (by omega) (by omega)
  (Ev.ao (v:=.int cnt t5) st7.fr.own (by rw[hm7 _ f1 f2,if_neg f3,if_pos rfl]) ed.kind (ed.lo _ (by simp))) (ed.lo _ (by simp)) st7.fr hL ed.hp λv h₈ B3 hN8 st8=>Run.nil ?_
 have st38:gV [R] env fo _ cq.heap h₈:=((st36.wide (λb hb=>nomatch hb)).trans st7).trans (st8.wide (λb hb=>nomatch hb));have ne:∀{b:Addr}{o:Obj},cq.heap.get? b=some o->(o.cls==Value.type "list")=false->R≠b:=λe wH q=>by refine bl hR3 λo' aW Gw _=>?_;clear hR3;rw[q,e] at aW;cases aW;rw[Gw] at wH;exact absurd wH (by decide)
 have H8:GH ((env,_)::fo) g n l dg kf dk tp its ks tks ps vs t0 h₈:=GF.H.stp C st38 (λb hb=>by rw[List.mem_singleton.mp hb];exact Gz) λb hb=>by rw[List.mem_singleton.mp hb];refine⟨OS lR,?_,λj hj=>ne (GF.H.tS j hj) rfl⟩;simp only[List.mem_cons,List.not_mem_nil,or_false,not_or];exact⟨ne GF.H.dg rfl,ne GF.H.kf rfl,ne GF.H.dk rfl,ne GF.H.tp rfl⟩
 have JR:∀b o,b∈[gb,it]->cq.heap.get? b=some o->h₈.get? b=some o:=λb o hb e=>by
  simp only[List.mem_cons,List.not_mem_nil,or_false] at hb;rcases hb with j4|j4<;>(replace j4:=OK j4;subst j4)
  ·exact st38.mx _ _ (by simpa using gbR) (C.off _ (by simp)).2 e
  ·exact st38.mx _ _ (by simpa using itR) (C.off _ (by simp)).2 e
 have ph3:Ph n l gb dg it kf ks tks ps (a+cnt) cq.heap:=by
  rcases GF.ph with j2|j3<;>(first|(refine du j2 λcN x1 x2=>?_;clear j2)| (refine du j3 λhe x1 x2=>?_;clear j3))
  ·have iX:=wJ cN
   have MX:ks (a+cnt-1)=ks a:=by have:=hs (cnt-1) (by omega);rw[show a+cnt-1=a+(cnt-1) by omega];exact this
   exact .inr (.inl ⟨by omega,cN,by rw[MX];exact iX,a,N,tn,by omega,iX,x1,x2⟩)
  ·exact .inr (.inr ⟨he,_,_,_,_,_,_,_,x1,x2⟩)
 refine du GF.rest λa1 a2 a3=>?_;refine du Cu λb1 b2 b3=>?_;clear Cu;refine hK _ _ z tz v (((stp3.wide (by simp)).trans (st38.wide (by simp)))) ⟨b1.trans a1,b2.trans a2,b3.trans a3⟩ (by rw[if_neg g3,hm7 _ g1 g2,if_neg e2,if_neg e3,if_neg e4];exact mr) (by rw[if_pos rfl]) hN8 H8 hz6 ?_ (ph3.of JR);refine ar hR7 λo ho r=>?_;clear hR7;exact⟨o,st8.mx _ _ (by simp) RL ho,r⟩
end
noncomputable abbrev y0:Stmt:=(λx (_:zY.getD 6 (.Pass default)=x)=>x) _ (by (conv=>(lhs;whnf));try rfl)
noncomputable def JS:Stmt->Expr| .For t _ _ _ _=>t|_=>default
noncomputable def bodyOf:Stmt->List Stmt| .For _ _ b _ _=>b|_=>[]
noncomputable abbrev Cv:Expr:=(λx (_:JS y0=x)=>x) _ (by (conv=>(lhs;whnf));try rfl)
noncomputable abbrev E0:List Stmt:=(λx (_:bodyOf y0=x)=>x) _ (by (conv=>(lhs;whnf));try rfl)
section
variable{Q:Flow->Shared->Prop}{R:Addr}
 {ks:Nat->Int}
theorem GH.E1{vs:Nat->Value}(H:GH frs g n l dg kf dk tp its ks tks ps vs t0 h)(C:GC w frs g n l gb dg it kf dk tp its ks tks ps)(hg:∃o,h.get? gb=some o/\o.cls = .ref 167)(hi:∃o,h.get? it=some o/\o.cls = .type "list_iterator")(k:gy [it,gb] frs h h'):GH frs g n l dg kf dk tp its ks tks ps vs t0 h':=by
 refine ar hg λog EY cg=>?_;clear hg;refine ar hi λoi wz ci=>?_;clear hi;have M0:∀b∈([it,gb]:List Addr),g.get? b=none:=λb eJ=>(C.off b (by simp at eJ ⊢;(rcases eJ with j2|j2<;>(replace j2:=OK j2;subst j2))<;>simp)).1;refine H.keep C k M0 λb eJ=>?_;have c1:(og.cls==Value.type "list")=false:=by rw[cg];decide
 have c2:(oi.cls==Value.type "list")=false:=by rw[ci];decide
 have c3:(og.cls==Value.type "tuple")=false:=by rw[cg];decide
 have c4:(oi.cls==Value.type "tuple")=false:=by rw[ci];decide
 simp only[List.mem_cons,List.not_mem_nil,or_false] at eJ;have n1:∀x∈([gb,dg,it]:List Addr),∀y∈([kf,dk,tp]:List Addr),x≠y:=C.ne;rcases eJ with j1|j1<;>(replace j1:=OK j1;subst j1)
 ·refine⟨OS (H.iS wz c2),?_,λj hj=>H.zT hj wz c4⟩
  simp only[List.mem_cons,List.not_mem_nil,or_false,not_or];exact⟨λq=>by subst q;exact OQ _ (Om C.o0 C.o1),n1 _ (by simp) _ (by simp),n1 _ (by simp) _ (by simp),n1 _ (by simp) _ (by simp)⟩
 ·refine⟨OS (H.iS EY c1),?_,λj hj=>H.zT hj EY c3⟩
  simp only[List.mem_cons,List.not_mem_nil,or_false,not_or];exact⟨λq=>by subst q;exact OQ _ C.o0,n1 _ (by simp) _ (by simp),n1 _ (by simp) _ (by simp),n1 _ (by simp) _ (by simp)⟩
theorem pb{D:Addr}{a:Nat}{vs:Nat->Value}{tz:Nat}{E2:Value->Shared->Prop}(hA:lN A (env::fo.map (·.1)) 50)(ed:KR env)(C:GC w ((env,m)::fo) g n l gb dg it kf dk tp its ks tks ps)(H:GH ((env,m)::fo) g n l dg kf dk tp its ks tks ps vs t0 s.heap)(wZ:∃o,s.heap.get? gb=some o/\o.cls = .ref 167)(hio:∃o,s.heap.get? it=some o/\o.cls = .type "list_iterator")(chg:gy [it,gb] ((env,m)::fo) s.heap h')(S:GS ((env,m)::fo) g l gb dg it kf ks tks ps a N gr dr tn h')(hD:IsPair h' D (.int (ks a) (tks a)) (.ref gr))(hL:env.locals∉aS fo)(Gy:∀b∈env.locals::aS fo,g.get? b=none)(ha:a<n)(h64:n<=64)(hvs:∀j,j<n->vs j = .int (poss j) (us j))(hR:s.heap.IsList R items)(JN:items.size=n)(Gz:g.get? R=none)(Rs:R∉env.locals::aS fo)(lR:l≠R)(tW:∀j,j<n->poss j<n)(mr:m (sn "result")=some (.ref R))(mi:m (sn "i")=some vi)(hN:Num I vi)(hI:I.natAbs<2^45)(hK:∀s' m' z t yZ cnt,0<cnt->a+cnt<=n->(∀j,j<cnt->ks (a+j)=ks a)->(a+cnt<n->ks a≠ks (a+cnt))->gV [it,gb,R] env fo m' s.heap s'.heap->(s'.gens=s.gens/\s'.drawn=s.drawn/\s'.os=s.os)->m' (sn "result")=some (.ref R)->m' (sn "i")=some yZ->Num (I+16*cnt) yZ->
   GH ((env,m')::fo) g n l dg kf dk tp its ks tks ps vs t0 s'.heap->Fl z (I+8*(cnt+1))->s'.heap.IsList R (putAll items (.float z t) ((List.range cnt).map λj=>poss (a+j)))->Ph n l gb dg it kf ks tks ps (a+cnt) s'.heap->Q .next s'):
  wpAny (model pw w) A (letOwnedTupleGo Cv (.ref gb) (.ref D)) (λ_ rv=>wpAny (model pw w) A (assign Cv env (.ref D)) (λ_ bN=>wpAny (model pw w) A (execs E0 env) Q E2 bN) E2 rv) E2 (bp s h' tz):=by
 refine qk S.Gx rfl ?_;have H1:=H.E1 C wZ hio chg;have hn1:=H1.fr.own;refine kcp_assign hA.h (x:=.int (ks a) (tks a)) (y:=.ref gr) ⟨_,hD,rfl,_,rfl⟩ (ed.lo _ (by simp)) (ed.lo _ (by simp)) ed.hp hn1 λh₃ cW fK fL=>?_;have st3:gV [] env fo _ h' h₃:=gV.of_keep H1.fr hL (λb hb=>nomatch hb) fK λb o hb _ e=>fL b o hb e;have H3:=H1.stp C st3 (λb hb=>(nomatch hb)) λb hb=>(nomatch hb);have mxo:∀{b:Addr}{o:Obj},b∉env.locals::aS fo->h'.get? b=some o->h₃.get? b=some o:=λhb e=>st3.mx _ _ (by simp) hb e;have S3:GS ((env,λz=>if z=sn "g" then some (Value.ref gr) else if z=sn "_" then some (.int (ks a) (tks a)) else m z)::fo) g l gb dg it kf ks tks ps a N gr dr tn h₃:=
  ⟨mxo S.off.2.2.1 S.sI,mxo S.off.2.2.2 S.adr,mxo (C.off gb (by simp)).2 S.Gx,mxo (C.off it (by simp)).2 S.JD,S.o1,S.o2,S.off⟩
 have RM:R∉([it,gb]:List Addr):=by
  simp only[List.mem_cons,List.not_mem_nil,or_false,not_or];refine bl hR λo ho hc _=>?_;clear hR;refine ar wZ λog EY cg=>?_;clear wZ;refine ar hio λoi wz ci=>?_;clear hio;refine⟨λq=>?_,λq=>?_⟩
  ·rw[q,wz] at ho;cases ho;rw[ci] at hc;exact absurd hc (by decide)
  ·rw[q,EY] at ho;cases ho;rw[cg] at hc;exact absurd hc (by decide)
 have st03:gV [it,gb] env fo _ s.heap h₃:=(gV.qj chg).trans (st3.wide λb hb=>(nomatch hb));have hR3:h₃.IsList R items:=by refine ar hR λo ho r=>⟨o,st03.mx _ _ RM Rs ho,r⟩
 refine jB (Bf n ks a ha) λcnt c0 c1 c2 c3=>?_;have a1:sn "result"≠sn "g":=by decide
 have a2:sn "result"≠sn "_":=by decide
 have a3:sn "i"≠sn "g":=by decide
 have a4:sn "i"≠sn "_":=by decide
 refine Run.one (turn (s:=(bp s h₃ cW)) (us:=us) hA ed C.names H3 S3 hL Gy c2 c1 c3 c0 h64 hvs hR3 JN Gz (λhm=>Rs (.tail _ hm)) lR tW (by rw[if_pos rfl]) (by rw[if_neg a1,if_neg a2];exact mr) (by rw[if_neg a3,if_neg a4];exact mi) hN hI
  λs' m' z t yZ st E3 E4 mi' hN' H' hz w4 ph=>hK s' m' z t yZ cnt c0 c1 c2 c3 ((st03.wide (by simp)).trans st) E3 E4 mi' hN' H' hz w4 ph)
theorem wK(hA:lN A (env::fo.map (·.1)) 40)(ed:KR env)(G:Gl w g)(F:aU ((env,m)::fo) s.heap)(hL:env.locals∉aS fo)(Gy:∀b∈env.locals::aS fo,g.get? b=none)(hg:g.StaysIn s.heap)(hl:s.heap.IsList l its)(hsz:its.size=n)(h1:0<n)(h64:n<=64)(hit:∀j,j<n->its[j]?=some (.ref (ps j)))(DN:∀j,j<n->IsPair s.heap (ps j) (.int (ks j) (tks j)) (.int (poss j) (us j)))(hpg:∀j,j<n->g.get? (ps j)=none)(rY:∀j,j<n->tks j≠0)(rZ:∀i j,i<n->j<n->i≠j->tks i≠tks j)(hR:s.heap.IsList R items)(JN:items.size=n)(Gz:g.get? R=none)(lR:l≠R)(tW:∀j,j<n->poss j<n)(MY:∀i j,i<n->j<n->poss i=poss j->i=j)(mv:m (sn "val_pos")=some (.ref l))(mr:m (sn "result")=some (.ref R))(mi:m (sn "i")=some vi)(hN:Num I0 vi)(hb:I0.natAbs<2^44)(GA:∀c cnt,0<cnt->c+cnt<=n->(∀j,j<cnt->ks (c+j)=ks c)->(c+cnt<n->ks c≠ks (c+cnt))->(0<c->ks (c-1)≠ks c)->∀j,j<cnt->rk (c+j)=I0+16*c+8*(cnt+1))(hK:∀s' m' kL,gV [R] env fo m' s.heap s'.heap->(s'.gens=s.gens/\s'.drawn=s.drawn/\s'.os=s.os)->m' (sn "result")=some (.ref R)->s'.heap.IsList R kL->kL.size=n->(∀j,j<n->∃z t,kL[poss j]?=some (.float z t)/\Fl z (rk j))->Run w A env (rest::bs) Q E s'):
  Run w A env ((y0::rest)::bs) Q E s:=by
 have hn0:s.heap.Ns env.locals m:=F.own;have Gs:=G.mono hg;refine Run.cons (wpAny_For (tP Gs ed.kind ed.gl (ed.go _ (by simp)) (ed.go _ (by simp)) (ed.lo _ (by simp)) hA.h (by have:=hA.d;omega) (by have:=hA.u;omega) hn0 mv hl s _ _ (ak _) λx h₁ bg gp bB=>?_));refine CK bB λgb dg it kf dk tp t0 t2 t3 ro=>GK ro λpX x1 x2 x3 x4 x5 x6 o0 o1 nes AW=>?_;clear bB ro;subst pX;have KX:∀{h:Heap},s.heap.StaysIn h->(K w.params).In h:=λk=>(Gs.mono k).K;refine rW (s:=(bp s h₁ bg)) (C:=167) (f:=149) (g:=163) (od:=some emptyDict) (KX gp) ⟨x1,rfl,rfl,x2⟩ (by k_is) (by k_is) (by k_is) ?_;refine jw hA.h (by have:=hA.d;omega) (by have:=hA.u;omega) (yS (KX gp) λv h₂ bZ PQ e=>⟨e,KX (ai gp PQ),⟨PQ _ _ x1,rfl,rfl,PQ _ _ x2⟩,?_⟩);have up:s.heap.StaysIn h₂:=ai gp PQ;have F₂:aU ((env,m)::fo) h₂:=(gy.nc (M:=[]) F (λb hb=>nomatch hb) λb o _ e=>up b o e).fr;have nF:∀{b:Addr},s.heap.get? b=none->b∉env.locals::aS fo:=λe hm=>by refine ar (OF (show _∈aS ((env,m)::fo) from hm)) λp hp pY=>?_;subst pY;refine du (F p hp) λ_ _ uH=>aV uH λo _ _ ho _=>?_;clear uH;rw[ho] at e;cases e
 have y3:∀{b:Addr}{o:Obj}{xs:Array Value}{k:Nat},s.heap.get? b=some o->o.data = .seq xs k->b∉env.locals::aS fo:=λ{b o xs k} e hd hm=>by refine ar (OF (show _∈aS ((env,m)::fo) from hm)) λp hp jc=>?_;subst jc;refine du (F p hp) λ_ _ iY=>bf iY λo' es ep ho bL _=>?_;clear iY;rw[ho] at e;cases e;rw[bL] at hd;cases hd
 have uW:∀{b:Addr},s.heap.get? b=none->g.get? b=none:=λe=>bq hg e;have C:GC w ((env,m)::fo) g n l gb dg it kf dk tp its ks tks ps:=by
  refine⟨G.mono λb o e=>OO _ e λhm=>?_,λb hb=>⟨uW (AW b hb),nF (AW b hb)⟩,λj hj=>⟨hpg j hj,y3 (DN j hj) rfl⟩,?_,hsz,hit,o0,o1,nes,rY,rZ⟩
  ·rw[Gy b hm] at e;cases e
  ·refine bl hl λo ho _ eR=>aR eR λk hd=>y3 ho hd
 have iZ:GH ((env,m)::fo) g n l dg kf dk tp its ks tks ps (λj=>.int (poss j) (us j)) t0 h₂:=
  ⟨λb o _ e=>up b o (hg b o e),F₂,isList_stays up hl,PQ _ _ x2,PQ _ _ x4,PQ _ _ x5,PQ _ _ x6,λj hj=>up _ _ (DN j hj)⟩
 have Rs:R∉env.locals::aS fo:=by refine bl hR λo ho _ ib=>aR ib λk hd=>y3 ho hd
 have Rex:∃o,s.heap.get? R=some o:=by refine ar hR λo ho _=>⟨o,ho⟩
 have R3:∀b∈[gb,dg,it,kf,dk,tp],b≠R:=λb hb q=>by refine aR Rex λo ho=>?_;clear Rex;have:=AW b hb;rw[q,ho] at this;cases this
 refine jn (λk s'=>∃m' a yZ kL,k=n+1-a/\a<=n/\gV [gb,it,dg,R] env fo m' h₂ s'.heap/\(s'.gens=s.gens/\s'.drawn=s.drawn/\s'.os=s.os)/\m' (sn "result")=some (.ref R)/\m' (sn "i")=some yZ/\Num (I0+16*a) yZ/\
   GH ((env,m')::fo) g n l dg kf dk tp its ks tks ps (λj=>.int (poss j) (us j)) t0 s'.heap/\s'.heap.IsList R kL/\kL.size=n/\(∀j,j<a->∃z t,kL[poss j]?=some (.float z t)/\Fl z (rk j))/\Ph n l gb dg it kf ks tks ps a s'.heap) ?_ (n+1)
  ⟨m,0,vi,items,rfl,PF _,⟨λb o _ _ e=>e,.same λb o _ e=>e,F₂⟩,⟨rfl,rfl,rfl⟩,mr,mi,by simpa using hN,iZ,isList_stays up hR,JN,λj hj=>absurd hj (Nat.not_lt_zero _),.inl ⟨rfl,h1,t2,t3,PQ _ _ x1,PQ _ _ x3⟩⟩
 intro I Rr k s' Tn En qE JG hI rX wZ;refine nU hI λm' a yZ kL eS=>vJ eS λek ha st E3 E4 mi' hN' H' w4 tX Cw ph=>?_;clear hI eS;have C':GC w ((env,m')::fo) g n l gb dg it kf dk tp its ks tks ps:=C.names;have uB:lN A (((env,m')::fo).map (·.1)) 100:=⟨hA.h,hA.f,hA.d,OB hA.u (by decide)⟩;have fin:∀(eA:Shared)(zU:Str->Option Value)(z:UInt64)(t:Tok)(r0:Value)(cnt:Nat),0<cnt->a+cnt<=n->(∀j,j<cnt->ks (a+j)=ks a)->(a+cnt<n->ks a≠ks (a+cnt))->(0<a->ks (a-1)≠ks a)->gV [it,gb,R] env fo zU s'.heap eA.heap->(eA.gens=s'.gens/\eA.drawn=s'.drawn/\eA.os=s'.os)->zU (sn "result")=some (.ref R)->zU (sn "i")=some r0->Num (I0+16*a+16*cnt) r0->
   GH ((env,zU)::fo) g n l dg kf dk tp its ks tks ps (λj=>.int (poss j) (us j)) t0 eA.heap->Fl z (I0+16*a+8*(cnt+1))->eA.heap.IsList R (putAll kL (.float z t) ((List.range cnt).map λj=>poss (a+j)))->Ph n l gb dg it kf ks tks ps (a+cnt) eA.heap->
   ∃k',k'<n+1-a/\I k' eA:=by
  intro eA zU z t r0 cnt c0 c1 c2 c3 c4 sU JT MZ M1 M4 H'' hz M5 M6;refine du E3 λb1 b2 b3=>?_;clear E3;refine du JT λd1 d2 d3=>?_;clear JT;refine⟨n+1-(a+cnt),by omega,qE _ _ ⟨zU,a+cnt,r0,_,rfl,c1,st.trans (sU.wide (by simp)),⟨d1.trans b1,d2.trans b2,d3.trans b3⟩,MZ,M1,?_,H'',M5,by rw[iw];exact tX,λj hj=>?_,M6⟩⟩
  ·have e:I0+16*((a+cnt:Nat):Int)=I0+16*a+16*cnt:=by push_cast;omega
   rw[e];exact M4
  ·by_cases hja:j<a
   ·refine aN (Cw j hja) λz' t' e1 e2=>?_
    refine⟨z',t',?_,e2⟩;rw[(kK _ _ _).2 λhm=>?_]
    ·exact e1
    ·refine ar (OF hm) λi hi e=>?_
     have:=MY _ _ (by have:=List.mem_range.mp hi;omega) (by omega) e;omega
   ·refine⟨z,t,(kK _ _ _).1 (List.mem_map.mpr ⟨j-a,List.mem_range.mpr (by omega),by rw[show a+(j-a)=j by omega]⟩) (by rw[tX];exact tW j (by omega)),?_⟩
    have e:=GA a cnt c0 c1 c2 c3 c4 (j-a) (by omega);rw[show a+(j-a)=j by omega] at e;rw[e];exact hz
 have bI:(I0+16*(a:Int)).natAbs<2^45:=CN (zV (PG hb) (zJ wW (KL (OB ha h64)))) rfl;rcases ph with j3|j4|j5<;>(first|(refine du j3 λea cN j6=>aN j6 λt2' t3' y1 y2=>?_;clear j3 j6)| (refine eP j4 λh0 cN i7 j7=>dj j7 λc N tn hc hk y1 y2=>?_;clear j4 j7)| (refine cA j5 λea j8=>BA j8 λcg ck cv hv ht se tg j9=>cA j9 λy1 y2=>?_;clear j5 j8 j9))
 ·refine yV ea uB C' H' cN y1 y2 λh' tz D gr dr tn' chg S hD f1 f2 f3=>wZ _ _ λB hB _=>?_
  exact pb (us:=us) ⟨hA.h,hA.f,hA.d,OB hA.u (by decide)⟩ ed C' H' ⟨_,y1,rfl⟩ ⟨_,y2,rfl⟩ chg S hD hL Gy cN h64 (λj _=>rfl) w4 tX Gz Rs lR tW E4 mi' hN' bI λeA zU z t r0 cnt c0 c1 c2 c3 x1 x2 x3 x4 x5 x6 x7 x8 x9=>(fin eA zU z t r0 cnt c0 c1 c2 c3 (λq=>absurd (ea▸q) (OQ _)) x1 x2 x3 x4 x5 x6 x7 x8 x9).elim λk' q=>hB k' _ (ek▸q.1) q.2
 ·refine Bc uB C' H' cN hc hk y1 y2 λh' tz D gr dr tn' chg S hD f1 f2 f3=>wZ _ _ λB hB _=>?_
  exact pb (us:=us) ⟨hA.h,hA.f,hA.d,OB hA.u (by decide)⟩ ed C' H' ⟨_,y1,rfl⟩ ⟨_,y2,rfl⟩ chg S hD hL Gy cN h64 (λj _=>rfl) w4 tX Gz Rs lR tW E4 mi' hN' bI λeA zU z t r0 cnt c0 c1 c2 c3 x1 x2 x3 x4 x5 x6 x7 x8 x9=>(fin eA zU z t r0 cnt c0 c1 c2 c3 (λ_=>i7) x1 x2 x3 x4 x5 x6 x7 x8 x9).elim λk' q=>hB k' _ (ek▸q.1) q.2
 ·refine Be uB C' H' y1 y2 λh' tz chg=>rX _ (PD (JG _ _ ?_))
  have sU:gV [gb,it,dg,R] env fo m' h₂ h':=st.trans ((gV.qj chg).wide (by simp));have RM:R∉([it,gb,dg]:List Addr):=by simp only[List.mem_cons,List.not_mem_nil,or_false,not_or];exact⟨OS (R3 _ (by simp)),OS (R3 _ (by simp)),OS (R3 _ (by simp))⟩
  have mxs:∀b o,b∉[R]->b∉env.locals::aS fo->s.heap.get? b=some o->h'.get? b=some o:=λb o hb hf eo=>sU.mx b o (λhm=>by
   simp only[List.mem_cons,List.not_mem_nil,or_false] at hm hb;rcases hm with j1|j1|j1|j1<;>(replace j1:=OK j1;subst j1)
   ·rw[AW _ (by simp)] at eo;cases eo
   ·rw[AW _ (by simp)] at eo;cases eo
   ·rw[AW _ (by simp)] at eo;cases eo
   ·exact hb rfl) hf (up b o eo)
  refine hK _ m' kL ⟨mxs,(kj.same λb o _ e=>up b o e).trans sU.ups,sU.fr⟩ E3 E4 ?_ tX λj hj=>Cw j (ea▸hj);refine ar w4 λo ho r=>?_;clear w4;exact⟨o,chg.mx _ _ RM Rs ho,r⟩
end
section
variable{x:Int}
theorem oI(hl:s.heap.IsList l vs.toArray)(BL:0<=x)(hsz:vs.length*x.toNat<=256)(hv:0<vs.length)(h:Q (.ref s.heap.objs.size) (bp s (s.heap.push {cls:=Value.type "list",data:=.seq (List.replicate x.toNat vs).flatten.toArray}) s.toks)):wpAny (model prog w) A (binaryOp .Mult (.ref l) (.int x u)) Q E s:=by
 refine bl (id hl) λj1 ho wH j2=>aR j2 λk hd=>?_;clear j2;rcases j1 with⟨cls,d,data,sl⟩;simp only at wH hd;subst wH hd;have N7:vs.toArray.size*x.toNat<=256:=by simpa using hsz
 have hx:x.toNat<=256:=OB (Nat.le_mul_of_pos_left _ hv) hsz;refine wpAny_binaryOp_repeat_ref (T:="list") (U:="int") (by decide) ⟨_,ho,rfl⟩ (λs'=>typeIs_int s' x u) noFill_list_mul F.fills_int_mul F.slot_int_rmul repeat_list F.slot_int_index.lookup
  (call_meets F.slot_int_rmul (typeIs_int s x u) F.entry_int_rmul (F.args_int_rmul_2 _ _) (lm_int_rmul_list_any x u l vs.toArray k d sl)
   ⟨ho,rfl,⟨_,ho,rfl⟩,call_meets F.slot_list_mul ⟨_,ho,rfl⟩ F.entry_list_mul (F.args_list_mul_2 _ _)
    (lm_list_mul_any l vs.toArray k d sl x u (by simp[Builtin.List.listFitsIndex];omega) (by omega) (by simp[Builtin.List.listTooLong,sizeLine];omega))
    ⟨ho,?_⟩⟩)
 rw[listMul_foldl_if];exact h
end
section
variable{l:Expr}{k:Nat}{a b:Str}
theorem de.JU(Hl:Ev w A h env l λv _=>∃t,v = .str a t)(hb:autoParam (behindInMarks .NotEq (.Constant (.str b) k p)=false) cH):de w A h env (.Compare l [.NotEq] [.Constant (.str b) k p] pos) (a !=b):=λs wh Q E hs hq=>
 O7 (Hl s _ _ hs λu h₁ bg PO ba=>wpAny_Constant_str (by refine aR ba λt j1=>?_;clear ba;subst j1;exact ne_str (Oi (hq h₁ _ PO)))) hb
theorem de.isNotNone(H:om w A h env l v)(hb:autoParam (behindInMarks .IsNot (.Constant .none k p)=false) cH):de w A h env (.Compare l [.IsNot] [.Constant .none k p] pos) (!(v == .none)):=λs wh Q E hs hq=>
 O7 (H s _ _ hs λu h₁ bg PO ba=>PyProof.Rows.Constant_none (by subst ba;exact isNot_none (Oi (hq h₁ bg PO)))) hb
end
theorem On.stp(O:On ((env,m)::fo) cs hb h)(k:gV [] env fo m' h h'):On ((env,m')::fo) cs hb h':=by
 have off:∀{b:Addr}{o:Obj},(∀es ep,o.data≠.dict es ep)->h.get? b=some o->b∉env.locals::aS fo:=λ{b o} hd e hm=>by refine ar (OF (show _∈aS ((env,m)::fo) from hm)) λp hp j4=>?_;subst j4;refine eP (O.frames p hp) λ_ _ _ j3=>bf j3 λo' es ep ho bL _=>?_;clear j3;rw[ho] at e;cases e;exact hd _ _ bL
 refine⟨λb o e=>k.mx b o (by simp) (λhm=>?_) (O.stays b o e),λp hp=>?_,λc hc=>⟨(O.cells c hc).1,?_⟩,λq hq=>?_,O.dT⟩
 ·refine ar (OF (show _∈aS ((env,m)::fo) from hm)) λp hp j2=>?_;subst j2
  rw[(O.frames p hp).2.2.1] at e;cases e
 ·have hn:=k.fr p hp
  rcases OA hp with j1|hp<;>(first|(replace j1:=OK j1;subst j1)|skip)
  ·exact⟨hn.1,hn.2.1,(O.frames _ (.head _)).2.2.1,hn.2.2⟩
  ·exact⟨hn.1,hn.2.1,(O.frames p (.tail _ hp)).2.2.1,hn.2.2⟩
 ·refine ar ((O.cells c hc).2) λo ho hd=>?_
  exact⟨o,k.mx _ _ (by simp) (off (λes ep q=>by rw[hd] at q;cases q) ho) ho,hd⟩
 ·refine bl (O.tabs q hq) λps e a b=>?_
  refine⟨ps,k.mx _ _ (by simp) (off (λes ep q=>by cases q) e) e,a,λpos cv f=>?_⟩;refine hO (b pos cv f) λc o vs t r1 r2 r3 r4=>?_;exact⟨c,o,vs,t,r1,k.mx _ _ (by simp) (off (λes ep q=>by rw[r3] at q;cases q) r2) r2,r3,r4⟩
theorem Go.stp{ex:List Addr}(O:On ((env,m)::fo) cs hb s.heap)(hL:env.locals∈ex)(k:gV [] env fo m' s.heap s'.heap)(r:s'.gens=s.gens/\s'.drawn=s.drawn/\s'.os=s.os):Go ex (aS fo) s s':=by
 have nt:∀b∈gA,b∉env.locals::aS fo:=λb hb hm=>by refine ar (OF (show _∈aS ((env,m)::fo) from hm)) λp hp j4=>?_;subst j4;exact O.tabs.ns (O.frames p hp).2.2.2 hb
 refine⟨⟨λb o h1 h2 h3 e=>k.mx b o (by simp) (λhm=>?_) e,λb o h1 h2 h3 e=>k.ups b o h2 e λvs q=>?_,λb o h1 e=>⟨o,k.mx b o (by simp) (nt b h1) e⟩⟩,λh y hy=>h y (r.1▸hy),r.2.1,r.2.2⟩
 ·rcases OA hm with j3|hm<;>(first|(replace j3:=OK j3;subst j3)|skip)
  ·exact h1 hL
  ·exact h2 hm
 ·refine ar (OF h2) λp hp j2=>?_;subst j2
  refine eP (O.frames p (.tail _ hp)) λ_ _ _ j1=>bf j1 λo' es ep ho bL _=>?_;clear j1;rw[ho] at e;cases e;rw[bL] at q;cases q
noncomputable def JV:Value->Addr
 | .ref T=>T
 |_=>0
noncomputable def tokOf(h:Heap)(T:Addr):Tok:=match h.get? T with
 |some o=>match o.data with
  | .seq a _=>match (a[1]?:Option Value) with
   |some (.int _ t)=>t
   |_=>0
  |_=>0
 |none=>0
theorem ei{F:α->β->Prop}:∀{as:List α}{bs:List β},as.length=bs.length->(∀(i:Nat)(a:α)(b:β),as[i]?=some a->bs[i]?=some b->F a b)->Paired F as bs
 | [],[],_,_=>.nil
 |a::as,b::bs,hl,h=>.cons (h 0 a b rfl rfl) (ei (by simpa using hl) λi a b e1 e2=>h (i+1) a b (by simpa using e1) (by simpa using e2))
 | [],_::_,hl,_=>by simp at hl
 |_::_,[],hl,_=>by simp at hl
theorem pd{q:List Nat}(hn:q.Nodup)(hi:i<q.length)(hj:j<q.length)(e:q.getD i 0=q.getD j 0):i=j:=by
 have gi:q.getD i 0=q[i]:=by simp[hi]
 have gj:q.getD j 0=q[j]:=by simp[hj]
 rw[gi,gj] at e;have p:=List.pairwise_iff_getElem.mp hn;rcases Nat.lt_trichotomy i j with h|h|h
 ·exact absurd e (p i j hi hj h)
 ·exact h
 ·exact absurd e.symm (p j i hj hi h)
noncomputable abbrev kM(L:Addr):Env:=envOfC (sn "_rank") Hp L 321 (.ref 320)
theorem E5(L:Addr):KR (kM L):=by
 refine⟨rfl,rfl,rfl,rfl,λy hy=>?_,λy hy=>?_⟩
 ·simp only[List.mem_cons,List.not_mem_nil,or_false] at hy
  (rcases hy with j2|j2|j2|j2|j2|j2|j2|j2|j2|j2<;>(replace j2:=OK j2;subst j2))<;>rfl
 ·simp only[List.mem_cons,List.not_mem_nil,or_false] at hy
  (rcases hy with j1|j1|j1|j1<;>(replace j1:=OK j1;subst j1))<;>rfl
section
variable{xs:Array Value}{ns:List Int}{b:Bool}{tk:Nat->Tok}
noncomputable abbrev tY(da:Addr)(b:Bool)(vi:Value):List (Str×Value):=[(sn "data",.ref da),(sn "key",.none),(sn "reverse",.bool b),(sn "ties",.str (Str.ofString "average") 787),(sn "start",vi)]
theorem u6(G:Gl w g)(hA:A.frames=some (kM L::frs.map (·.1)))(hh:A.handled=none)(hd:A.depth<=320)(hu:A.units<=40)(hl:g.IsList da xs)(h2:2<=ns.length)(h6:ns.length<=6)(hx:xs.size=ns.length)(AV:∀i,i<ns.length->xs[i]?=some (.int (ns.getD i 0) (tk i)))(rY:∀i,i<ns.length->tk i≠0)(rZ:∀i j,i<ns.length->j<ns.length->i≠j->tk i≠tk j)(hN:Num I vi)(hI:I.natAbs<2^43)(GA:∀q,iv b ns q->∀c cnt,0<cnt->c+cnt<=ns.length->(∀j,j<cnt->ns.getD (q.getD (c+j) 0) 0=ns.getD (q.getD c 0) 0)->(c+cnt<ns.length->ns.getD (q.getD c 0) 0≠ns.getD (q.getD (c+cnt) 0) 0)->(0<c->ns.getD (q.getD (c-1) 0) 0≠ns.getD (q.getD c 0) 0)->
   ∀j,j<cnt->FT (q.getD (c+j) 0)=I-16+16*c+8*(cnt+1)):
  aP 0 w A (kM L) frs [] cso [L] g (bindL (kM L).kindOf (tY da b vi) λ_=>none) [zY] (LF ((List.range ns.length).map FT)) x:=by
 have ed:=E5 L;refine aP.doc ?_;refine aP.skip (TG.of (λh' k N=>de.cast (de.JU (a:=Str.ofString "average") (Ev.mono (Ev.ao (v:=.str (Str.ofString "average") 787) (N _ (.head _))) λv h _ e=>⟨787,e⟩)) (by decide))) (λg1 k1=>?_);refine aP.skip (TG.of (λh' k N=>de.cast (de.isNotNone (v:=.none) (Ev.ao (N _ (.head _)))) (by rfl))) (λg2 k2=>?_);have G2:=G.mono (ai k1 k2);have hl2:=isList_stays (ai k1 k2) hl;refine aP.assign (P:=Vp g2 xs ns b) (wF G2 hA (by rfl) (by rfl) (by rfl) (by rfl) (by rfl) (by rfl) (by rfl) (by rfl) hh hd hu (by rfl) (by rfl) hl2 h2 h6 hx (λi hi=>⟨tk i,AV i hi⟩)) (λv g3 k3 hv=>?_) (by rfl);refine ez hv λl q acc j8=>nV j8 λj9 hS il hac hpr=>?_;clear hv j8;subst j9;refine aP.assign (P:=λv _=>Num (I-16) v) (aF.of (λh' k N=>Ev.mono (Ev.JM (I:=I) (b:=1) (Ev.mono (Ev.ao (v:=vi) (N _ (.head _))) λv h _ e=>e▸hN) Ev.int (by omega) (by decide)) λv h _ p=>p) aj) (λv g4 k4 hN4=>?_) (by rfl);intro s gb Q E W tz hs O hq he;have kg:g3.StaysIn s.heap:=ai k4 (ai hs O.stays);have Gs:Gl w s.heap:=G2.mono (ai k3 kg);have hn0:=(O.frames _ (.head _)).2.2.2;have F0:aU ((kM L,_)::frs) s.heap:=rV O;have hLf:(kM L).locals∉aS frs:=W.Lf;have E6:=isList_stays kg il;refine Run.cons (Ot ?_);refine wpAny_BinOp (wpAny_List (kZ.one (P₁:=iO 0) Ev.int aA rfl _ _ _ (ak _) λvs h₁ bg gp hz=>?_));refine ar hz λv0 j5 j6=>aR j6 λt0 j7=>?_;clear hz j6;subst j7;subst j5;refine⟨by rw[sizeLine_eq];simp,?_⟩;have up1:s.heap.StaysIn (h₁.push {cls:=.type "list",data:=.seq [Value.int 0 t0].toArray}):=ai gp λb o e=>K' _ e;have hz0:(h₁.push {cls:=.type "list",data:=.seq [Value.int 0 t0].toArray}).IsList h₁.objs.size [Value.int 0 t0].toArray:=⟨_,OC _ rfl,rfl,_,rfl⟩;have hlen:(q.map λi=>acc.getD i Value.none).toArray.size=ns.length:=by simp[hS.len]
 refine Ev.bz (P₁:=ff (.ref l)) (R:=iO ns.length) (Ev.aE (Gs.mono up1) (by k_is) cR ed.kind (ed.go _ (by simp)) ed.gl ed.bu (by decide)) Kp.builtin (Ev.ao (v:=.ref l) (hn0.keeps up1) (by rfl) ed.kind (ed.lo _ (by simp))) aA (λv h1 k1 p=>by obtain rfl:v = .ref l:=p;exact mh (isList_stays (ai up1 k1) E6) hlen (by omega)) rfl _ _ _ (ak _) λv h₂ bZ JW cF=>?_
 refine aR cF λt2 j4=>?_;clear cF;subst j4;have E7:=ai up1 JW;refine oI (isList_stays JW hz0) (by omega) (by simp;omega) (by simp) ?_;have Rn:h₂.get? h₂.objs.size=none:=OL (OM _);refine OR (m:=_) (by rfl) (hn0.keeps (ai E7 λb o e=>K' _ e)) (λh₃ fK dP=>?_) (by rfl);have up3:s.heap.StaysIn (h₂.push {cls:=Value.type "list",data:=.seq (List.replicate (ns.length:Int).toNat [Value.int 0 t0]).flatten.toArray}):=ai E7 λb o e=>K' _ e;have st3:gV [] (kM L) frs _ s.heap h₃:=gV.of_keep F0 hLf (λb hb=>nomatch hb) fK λb o hb _ e=>dP.extBut b o hb (up3 b o e);have Rns:s.heap.get? h₂.objs.size=none:=bq E7 Rn;have RL:h₂.objs.size≠(kM L).locals:=λz=>by refine aV hn0 λo _ _ ho _=>?_;clear hn0;rw[<-z,Rns] at ho;cases ho
 have hR3:h₃.IsList h₂.objs.size (List.replicate ns.length (Value.int 0 t0)).toArray:=by refine⟨_,dP.extBut _ _ RL (OC _ rfl),rfl,0,?_⟩;simp
 have xy:∀{b:Addr}{o:Obj}{ys:Array Value}{k:Nat},s.heap.get? b=some o->o.data = .seq ys k->b∉(kM L).locals::aS frs:=λ{b o ys k} e hd hm=>by rcases OF (show _∈aS ((kM L,_)::frs) from hm) with⟨p,hp,rfl⟩;refine du (F0 p hp) λ_ _ j3=>bf j3 λo' es ep ho bL _=>?_;clear j3;rw[ho] at e;cases e;rw[bL] at hd;cases hd
 have gF:∀b∈(kM L).locals::aS frs,g2.get? b=none:=λb hm=>by rcases OF (show _∈aS ((kM L,_)::frs) from hm) with⟨p,hp,rfl⟩;exact bq (ai k3 (ai k4 hs)) (O.frames p hp).2.2.1
 have kg2:g2.StaysIn h₃:=λb o e=>st3.mx b o (by simp) (λhm=>by rw[gF b hm] at e;cases e) (kg _ _ (k3 b o e));have il3:h₃.IsList l (q.map λi=>acc.getD i Value.none).toArray:=by refine bl E6 λo ho r1 j2=>aR j2 λk hd=>?_;clear E6 j2;exact⟨o,st3.mx _ _ (by simp) (xy ho hd) ho,r1,k,hd⟩
 have qi:∀j,j<ns.length->q.getD j 0<ns.length:=λj hj=>(hS.mem _).mp (by
  have:q.getD j 0=q[j]'(by rw[hS.len];exact hj):=by simp[hS.len,hj]
  rw[this];exact List.getElem_mem _)
 let tT:Nat->Addr:=λi=>JV (acc.getD i .none)
 let tU:Nat->Tok:=λi=>tokOf s.heap (tT i)
 have hT:∀i,i<ns.length->acc.getD i .none = .ref (tT i)/\IsPair s.heap (tT i) (.int (ns.getD i 0) (tk i)) (.int i (tU i))/\g2.get? (tT i)=none:=λi hi=>by
  refine dj (hpr i hi) λT x' tn e1 e2 e3 e4=>?_;rw[AV i hi] at e2;cases e2;have eT:tT i=T:=by show JV (acc.getD i .none)=T;rw[e1];rfl
  have e3':s.heap.get? T=_:=kg _ _ e3;have eU:tU i=tn:=by show tokOf s.heap (tT i)=tn;unfold tokOf;rw[eT,e3'];rfl
  rw[eT,eU];exact⟨e1,e3',e4⟩
 have lR:l≠h₂.objs.size:=λz=>by refine ar E6 λo ho _=>?_;clear E6;rw[z,Rns] at ho;cases ho
 refine wK (s:=(bp s h₃ (bZ+1))) (g:=g2) (n:=ns.length) (ks:=λj=>ns.getD (q.getD j 0) 0) (tks:=λj=>tk (q.getD j 0)) (us:=λj=>tU (q.getD j 0)) (ps:=λj=>tT (q.getD j 0)) (poss:=λj=>q.getD j 0) (rk:=λj=>FT (q.getD j 0)) (I0:=I-16) (vi:=v)
  ⟨hh,hA,hd,OB hu (by decide)⟩ ed G2 st3.fr hLf gF kg2 il3 hlen (by omega) (by omega) (λj hj=>?_) (λj hj=>?_) (λj hj=>(hT _ (qi j hj)).2.2) (λj hj=>rY _ (qi j hj)) (λi j hi hj qF=>rZ _ _ (qi i hi) (qi j hj) λe=>qF ?_)
  hR3 (by simp) (bq (ai k3 kg) Rns) lR qi (λi j hi hj e=>?_) (by rfl) (by rfl) (by rfl) hN4 (by omega) (λc cnt c0 c1 c2 c3 c4 j hj=>GA q hS c cnt c0 c1 c2 c3 c4 j hj) λs' m' kL st E3 E4 w4 tX xE=>?_
 ·have JX:j<q.length:=by rw[hS.len];exact hj
  have e:(q.map λi=>acc.getD i Value.none).toArray[j]?=some (acc.getD (q.getD j 0) .none):=by simp[JX]
  rw[e,(hT _ (qi j hj)).1]
 ·have P:=(hT _ (qi j hj)).2.1
  exact st3.mx _ _ (by simp) (xy P rfl) P
 ·exact pd hS.nd (by rw[hS.len];exact hi) (by rw[hS.len];exact hj) e
 ·exact pd hS.nd (by rw[hS.len];exact hi) (by rw[hS.len];exact hj) e
 ·have stR:gV [] (kM L) frs m' s.heap s'.heap:=by
   have x:=(st3.wide (M':=[h₂.objs.size]) λb hb=>nomatch hb).trans st;exact⟨λb o _ hf e=>x.mx b o (λhm=>by rw[List.mem_singleton.mp hm,Rns] at e;cases e) hf e,x.ups,x.fr⟩
  have O':=O.stp stR;have go:Go [L] (aS frs) s s':=Go.stp O (.head _) stR E3;refine Run.cons (O3 (Ev.ao (v:=.ref h₂.objs.size) st.fr.own E4 (by rfl) (by rfl) (by decide) s' _ _ (ak _) λv h₄ f9 tV mJ=>?_));subst mJ;have O4:=O'.keep tV;refine hq _ _ (hideAll h₄ (fv frs cso)) (λb o e=>?_) O4.inner.top (go.trans (Go.of tV)) ?_
  ·exact O4.inner.wide b o e
  ·have hR4:=isList_stays tV w4
   refine⟨h₂.objs.size,kL.toList,rfl,cK (λb hb=>O4.inner.fv hb) (by simpa using hR4),?_⟩;refine ei (by simp[tX]) λi k v e1 e2=>?_;have hi:i<ns.length:=by have:=(List.getElem?_eq_some_iff.mp e1).1;simpa using this
   have e1':FT i=k:=by simpa [hi] using e1
   refine aR (List.mem_iff_getElem.mp ((hS.mem i).mpr hi)) λj j1=>?_;rcases j1 with⟨hj,ej⟩;have ej':q.getD j 0=i:=by simp[hj,ej]
   refine aN (xE j (by rw[<-hS.len];exact hj)) λz t f1 f2=>?_;rw[ej'] at f1 f2;have Gd:kL[i]?=some v:=by rw[<-e2];simp
   rw[f1] at Gd;cases Gd;exact⟨z,t,rfl,e1'▸f2⟩
end
noncomputable def below(b:Bool)(ns:List Int)(v:Int):Nat:=ns.countP λu=>if b then decide (v<u) else decide (u<v)
noncomputable def sa(ns:List Int)(v:Int):Nat:=ns.countP λu=>decide (u=v)
noncomputable def cY(b:Bool)(ns:List Int)(I:Int)(p:Nat):Int:=I-16+16*below b ns (ns.getD p 0)+8*(sa ns (ns.getD p 0)+1)
section
variable{xs:Array Value}{ns:List Int}{b:Bool}{tk:Nat->Tok}
theorem Bh(G:Gl w h)(hA:A.frames=some (frs.map (·.1)))(hh:A.handled=none)(hd:A.depth+1<=320)(hu:A.units<=37)(hl:h.IsList da xs)(h2:2<=ns.length)(h6:ns.length<=6)(hx:xs.size=ns.length)(AV:∀i,i<ns.length->xs[i]?=some (.int (ns.getD i 0) (tk i)))(rY:∀i,i<ns.length->tk i≠0)(rZ:∀i j,i<ns.length->j<ns.length->i≠j->tk i≠tk j)(hN:Num I vi)(hI:I.natAbs<2^43)(GA:∀q,iv b ns q->∀c cnt,0<cnt->c+cnt<=ns.length->(∀j,j<cnt->ns.getD (q.getD (c+j) 0) 0=ns.getD (q.getD c 0) 0)->(c+cnt<ns.length->ns.getD (q.getD c 0) 0≠ns.getD (q.getD (c+cnt) 0) 0)->(0<c->ns.getD (q.getD (c-1) 0) 0≠ns.getD (q.getD c 0) 0)->
   ∀j,j<cnt->FT (q.getD (c+j) 0)=I-16+16*c+8*(cnt+1)):
  df w A frs cso h (.ref 321) [.ref da] (if b then [(sn "start",vi),(sn "reverse",.bool true)] else [(sn "start",vi)]) (LF ((List.range ns.length).map FT)) x:=by
 have uO:400<recursionLimit:=by decide
 cases b with
 |false=>
  refine df.def (binds:=tY da false vi) G hA (by k_is) rfl (by k_is) (by omega) (λs hs=>kp_binds (G.mono hs).K (λS=>by kernel_rfl)) rfl (by decide) (λL g hg aQ=>?_);exact u6 (G.mono hg) (by exact Ow hA) hh (by show A.depth+1<=320;omega) (by show A.units+3<=40;omega) (isList_stays hg hl) h2 h6 hx AV rY rZ hN hI GA
 |true=>
  refine df.def (binds:=tY da true vi) G hA (by k_is) rfl (by k_is) (by omega) (λs hs=>kp_binds (G.mono hs).K (λS=>by kernel_rfl)) rfl (by decide) (λL g hg aQ=>?_);exact u6 (G.mono hg) (by exact Ow hA) hh (by show A.depth+1<=320;omega) (by show A.units+3<=40;omega) (isList_stays hg hl) h2 h6 hx AV rY rZ hN hI GA
end
theorem u7(c d:Nat)(qC:c<=d):∀n,(List.range n).countP (λk=>decide (c<=k)&&decide (k<d))=min n d-min n c
 |0=>by simp
 |n+1=>by
  rw[List.range_succ,List.countP_append,u7 c d qC n,List.countP_cons,List.countP_nil];by_cases h1:c<=n
  ·by_cases h2:n<d
   ·simp only[h1,h2,decide_true,Bool.and_self,if_true]
    rw[Nat.min_eq_right h1,Nat.min_eq_right (Nat.le_succ_of_le h1),Nat.min_eq_left (Nat.le_of_lt h2),Nat.min_eq_left (Nat.succ_le_of_lt h2),Nat.succ_sub h1]
   ·have h3:=Nat.le_of_not_lt h2
    simp only[h1,h2,decide_true,decide_false,Bool.and_false,Bool.false_eq_true,if_false];rw[Nat.min_eq_right h1,Nat.min_eq_right (Nat.le_succ_of_le h1),Nat.min_eq_right h3,Nat.min_eq_right (Nat.le_succ_of_le h3)];rfl
  ·have h2:=Nat.lt_of_not_le h1
   have h3:=Ou h2 qC;simp only[h1,decide_false,Bool.false_and,Bool.false_eq_true,if_false];rw[Nat.min_eq_left (Nat.le_of_lt h2),Nat.min_eq_left (Nat.le_of_lt h3),Nat.min_eq_left (Nat.succ_le_of_lt h2),Nat.min_eq_left (Nat.succ_le_of_lt h3),Nat.sub_self,Nat.sub_self]
theorem u9(c d:Nat)(qC:c<=d)(n:Nat)(hn:d<=n):(List.range n).countP (λk=>decide (c<=k)&&decide (k<d))=d-c:=by rw[u7 c d qC n,Nat.min_eq_right hn,Nat.min_eq_right (Nat.le_trans qC hn)]
theorem jV{b:Bool}{ns:List Int}{q:List Nat}(S:iv b ns q)(P:Int->Bool):ns.countP P=(List.range ns.length).countP λk=>P (ns.getD (q.getD k 0) 0):=by
 have e1:ns=(List.range ns.length).map λi=>ns.getD i 0:=by
  refine List.ext_getElem? λi=>?_;by_cases hi:i<ns.length
  ·simp[hi]
  ·simp[hi]
 have pm:q.Perm (List.range ns.length):=(List.perm_ext_iff_of_nodup S.nd List.nodup_range).mpr λa=>by rw[S.mem,List.mem_range]
 have e2:q=(List.range ns.length).map λk=>q.getD k 0:=by
  refine List.ext_getElem? λi=>?_;by_cases hi:i<ns.length
  ·have:i<q.length:=by rw[S.len];exact hi
   simp[hi,this]
  ·have:¬i<q.length:=by rw[S.len];exact hi
   simp[hi,this]
 have h1:ns.countP P=(List.range ns.length).countP λi=>P (ns.getD i 0):=by
  conv=>lhs;rw[e1]
  rw[List.countP_map];rfl
 rw[h1,<-pm.countP_eq];conv=>lhs;rw[e2]
 rw[List.countP_map];rfl
theorem wL{b:Bool}{ns:List Int}{q:List Nat}(S:iv b ns q){c cnt:Nat}(c0:0<cnt)(c1:c+cnt<=ns.length)(c2:∀j,j<cnt->ns.getD (q.getD (c+j) 0) 0=ns.getD (q.getD c 0) 0)(c3:c+cnt<ns.length->ns.getD (q.getD c 0) 0≠ns.getD (q.getD (c+cnt) 0) 0)(c4:0<c->ns.getD (q.getD (c-1) 0) 0≠ns.getD (q.getD c 0) 0)(hj:j<cnt):
  cY b ns I (q.getD (c+j) 0)=I-16+16*c+8*(cnt+1):=by
 have le:∀i k,i<k->k<ns.length->if b then ns.getD (q.getD k 0) 0<=ns.getD (q.getD i 0) 0 else ns.getD (q.getD i 0) 0<=ns.getD (q.getD k 0) 0:=λi k hik hk=>by
  have eM:i<q.length:=by rw[S.len];omega
  have iX:k<q.length:=by rw[S.len];omega
  have:=List.pairwise_iff_getElem.mp S.ord i k eM iX hik;have gi:q.getD i 0=q[i]:=by simp[eM]
  have gk:q.getD k 0=q[k]:=by simp[iX]
  rw[gi,gk];exact this
 unfold cY below sa;rw[c2 j hj,jV S,jV S];have hb:((List.range ns.length).countP λk=>if b then decide (ns.getD (q.getD c 0) 0<ns.getD (q.getD k 0) 0) else decide (ns.getD (q.getD k 0) 0<ns.getD (q.getD c 0) 0))=c:=by
  rw[List.countP_congr (q:=λk=>decide (0<=k)&&decide (k<c)) λk hk=>?_]
  ·rw[u9 0 c (Nat.zero_le _) _ (by omega)];omega
  ·have hk:=List.mem_range.mp hk
   by_cases h:k<c
   ·have a1:=c4 (by omega)
    have a2:=le (c-1) c (by omega) (by omega);by_cases h':k=c-1
    ·subst h'
     cases b<;>simp only[Bool.false_eq_true,if_false,if_true,decide_eq_true_eq,Bool.and_eq_true] at a2 ⊢<;>omega
    ·have a3:=le k (c-1) (by omega) (by omega)
     cases b<;>simp only[Bool.false_eq_true,if_false,if_true,decide_eq_true_eq,Bool.and_eq_true] at a2 a3 ⊢<;>omega
   ·by_cases h':k=c
    ·subst h';cases b<;>simp only[Bool.false_eq_true,if_false,if_true,decide_eq_true_eq,Bool.and_eq_true]<;>omega
    ·have a3:=le c k (by omega) (by omega)
     cases b<;>simp only[Bool.false_eq_true,if_false,if_true,decide_eq_true_eq,Bool.and_eq_true] at a3 ⊢<;>omega
 have hs:((List.range ns.length).countP λk=>decide (ns.getD (q.getD k 0) 0=ns.getD (q.getD c 0) 0))=cnt:=by
  rw[List.countP_congr (q:=λk=>decide (c<=k)&&decide (k<c+cnt)) λk hk=>?_]
  ·rw[u9 c (c+cnt) (by omega) _ c1];omega
  ·have hk:=List.mem_range.mp hk
   simp only[decide_eq_true_eq,Bool.and_eq_true];by_cases h:k<c
   ·have a1:=c4 (by omega)
    have a2:=le (c-1) c (by omega) (by omega);by_cases h':k=c-1
    ·subst h'
     cases b<;>simp only[Bool.false_eq_true,if_false,if_true] at a2<;>omega
    ·have a3:=le k (c-1) (by omega) (by omega)
     cases b<;>simp only[Bool.false_eq_true,if_false,if_true] at a2 a3<;>omega
   ·by_cases h':k<c+cnt
    ·have:=c2 (k-c) (by omega)
     rw[show c+(k-c)=k by omega] at this;omega
    ·have a1:=c3 (by omega)
     have a2:=le c (c+cnt) (by omega) (by omega);by_cases h2:k=c+cnt
     ·subst h2
      cases b<;>simp only[Bool.false_eq_true,if_false,if_true] at a2<;>omega
     ·have a3:=le (c+cnt) k (by omega) (by omega)
      cases b<;>simp only[Bool.false_eq_true,if_false,if_true] at a2 a3<;>omega
 rw[hb,hs]
section
variable{xs:Array Value}{ns:List Int}{b:Bool}{tk:Nat->Tok}
theorem wM(G:Gl w h)(hA:A.frames=some (frs.map (·.1)))(hh:A.handled=none)(hd:A.depth+1<=320)(hu:A.units<=37)(hl:h.IsList da xs)(h2:2<=ns.length)(h6:ns.length<=6)(hx:xs.size=ns.length)(AV:∀i,i<ns.length->xs[i]?=some (.int (ns.getD i 0) (tk i)))(rY:∀i,i<ns.length->tk i≠0)(rZ:∀i j,i<ns.length->j<ns.length->i≠j->tk i≠tk j)(hN:Num I vi)(hI:I.natAbs<2^43):
  df w A frs cso h (.ref 321) [.ref da] (if b then [(sn "start",vi),(sn "reverse",.bool true)] else [(sn "start",vi)]) (LF ((List.range ns.length).map (cY b ns I))) x:=
 Bh G hA hh hd hu hl h2 h6 hx AV rY rZ hN hI λq S c cnt c0 c1 c2 c3 c4 j hj=>wL S c0 c1 c2 c3 c4 hj
end
def bt(ns:List Int)(v:Value)(h:Heap):Prop:=∃(da:Addr)(xs:Array Value)(tk:Nat->Tok),v = .ref da/\h.IsList da xs/\xs.size=ns.length/\(∀i,i<ns.length->xs[i]?=some (.int (ns.getD i 0) (tk i)))/\(∀i,i<ns.length->tk i≠0)/\∀i j,i<ns.length->j<ns.length->i≠j->tk i≠tk j
theorem bt.av{ns:List Int}:cU (bt ns):=λv h h' k bV=>by refine bf bV λda xs tk e il r=>⟨da,xs,tk,e,isList_stays k il,r⟩
theorem dZ{ns:List Int}:cT (bt ns):=λv h l hl bV=>by refine bf bV λda xs tk e il r=>⟨da,xs,tk,e,cK hl il,r⟩
theorem bt.len{ns:List Int}(T:bt ns v h)(hz:ns.length<=16384):Cl w A h (.builtin "len") [v] [] (λv _=>∃t,v = .int ns.length t):=by refine dj T λda xs tk j1 il hs r=>?_;clear T;subst j1;exact mh il hs hz
section
variable{ns:List Int}{b:Bool}
theorem jW(G:Gl w h)(hA:A.frames=some (frs.map (·.1)))(hh:A.handled=none)(hd:A.depth+1<=320)(hu:A.units<=37)(T:bt ns v h)(h2:2<=ns.length)(h6:ns.length<=6)(hN:Num I vi)(hI:I.natAbs<2^43):
  df w A frs cso h (.ref 321) [v] (if b then [(sn "start",vi),(sn "reverse",.bool true)] else [(sn "start",vi)]) (LF ((List.range ns.length).map (cY b ns I))) x:=by
 refine ez T λda xs tk j1=>BC j1 λj2 il hs a1 a2 a3=>?_;clear T j1;subst j2;exact wM G hA hh hd hu il h2 h6 hs a1 a2 a3 hN hI
end
section
variable{ex:List Addr}{a b:Addr}{c:Nat}
noncomputable abbrev nZ(ns:List Int):List Int:=(List.range ns.length).map (cY false ns (-8*(ns.length-1)))
theorem ql(G:Gl w g)(hA:A.frames=some (kD L::frs.map (·.1)))(lx:bt xs (.ref a) g)(ly:bt ys (.ref b) g)(hn:ys.length=xs.length)(h2:2<=xs.length)(h6:xs.length<=6)(hh:A.handled=none)(hd:A.depth+1<=320)(hu:A.units<=37)(BU:∀i,i<xs.length->aO (nZ xs) i*aO (nZ ys) i=cxy i*16/\(cxy i).natAbs<=2^40)(wg:∀i,i<xs.length->aO (nZ xs) i*aO (nZ xs) i=cxx i*16/\(cxx i).natAbs<=2^40)(DK:∀i,i<xs.length->aO (nZ ys) i*aO (nZ ys) i=cyy i*16/\(cyy i).natAbs<=2^40)(hk:preSum cxx xs.length*preSum cyy xs.length=k*16)(hc:(c:Int)*c=16*k)(Ek:k.natAbs<2^49)(kq:c<2^48):
  aP 0 w A (kD L) frs [L+2,L+1] cso [L,L+2,L+1] g (bindL (kD L).kindOf (jr a b (Str.ofString "ranked") t) λ_=>none) [xa] (λv _=>c≠0/\∃z t,v = .float z t/\t≠0/\dt (preSum cxy xs.length) c z) (if c=0 then some bG else none):=by
 have uO:400<recursionLimit:=by decide
 generalize Ge:(if c=0 then some bG else none)=xo;refine aP.doc ?_;refine aP.assign (P:=iO xs.length) (aF.of (λh' k N=>Ev.bz (Ev.aE (G.mono k) (by k_is) cR) Kp.builtin
  (Ev.mono (Ev.ao (v:=.ref a) (N _ (.head _))) (λv h1 k1 e=>e▸bt.av _ _ _ (ai k k1) lx)) bt.av (λv h1 k1 q=>q.len (by omega))) aj) (λv g1 k1 hv=>?_) (by rfl)
 refine aR hv λtn eR=>?_;clear hv;subst eR;refine aP.skip (TG.of (λh' k N=>de.cast (de.ne (Ev.bz (Ev.aE (G.mono (ai k1 k)) (by k_is) cR) Kp.builtin
  (Ev.mono (Ev.ao (v:=.ref b) (N _ (.head _))) (λv h1 k2 e=>e▸bt.av _ _ _ (ai (ai k1 k) k2) ly)) bt.av (λv h1 k1 q=>q.len (by omega)))
  (Ev.cS (Ev.ao (N _ (.head _))))) (by rw[hn];simp))) (λg2 k2=>?_)
 refine aP.skip (TG.of (λh' k N=>de.cast (de.lt (Ev.cS (Ev.ao (N _ (.head _)))) Ev.int) (by simp;omega))) (λg3 k3=>?_);have k03:=ai k1 (ai k2 k3);have G3:=G.mono k03;refine aP.skip (TG.of (λh' k N=>de.cast (de.rG (a:=Str.ofString "ranked") (G3.mono k) (kd348 _) (Ev.mono (Ev.ao (v:=.str (Str.ofString "ranked") t) (N _ (.head _))) λv h _ e=>⟨t,e⟩)) (by decide))) (λg4 k4=>?_);refine aP.enter (TG.of (λh' k N=>de.cast (de.eqStr (a:=Str.ofString "ranked") (Ev.mono (Ev.ao (v:=.str (Str.ofString "ranked") t) (N _ (.head _))) λv h _ e=>⟨t,e⟩)) (by decide))) (λg5 k5=>?_);have k05:=ai k03 (ai k4 k5);have G5:=G.mono k05;have wb:=bt.av _ _ _ k05 lx;have w2:=bt.av _ _ _ k05 ly;clear G3 k03 k05 k1 k2 k3 k4 k5 lx ly G g1 g2 g3 g4;refine aP.assign (P:=dB (-8*(xs.length-1))) (aF.of (λh' k N=>Ev.Ct (a:=xs.length-1) (b:=-2) (Ev.sub (Ev.cS (Ev.ao (N _ (.head _)))) Ev.int) ?_ (by omega) (by decide) (by omega) (by decide) (by omega) (by omega)) aj) (λv g6 k6 hv=>?_) (by rfl)
 ·exact Ev.Mx Ev.int
 refine aN hv λvs ts ib fs=>?_;clear hv;subst ib;have G6:=G5.mono k6;have lx6:=bt.av _ _ _ k6 wb;have ly6:=bt.av _ _ _ k6 w2;have jz:∀{m:Str->Option Value},A.frames=some (((kD L,m)::frs).map (·.1)):=hA;refine aP.assign (P:=LF (nZ xs)) (aF.eu (f:=.ref 321) (nms:=[sn "start"]) (PL:=λvs h'=>∃v,vs=[v]/\bt xs v h') (PK:=λks h'=>∃v r,ks=v::r/\v = .float vs ts/\r=[])
  (aF.of (λh' k N=>Ev.aD (G6.mono k) (by k_is)) aj) (Kp.K G6 (by k_is))
  (cw.one (aF.of (λh' k N=>Ev.mono (Ev.ao (v:=.ref a) (N _ (.head _))) (λv h1 k1 e=>e▸bt.av _ _ _ (ai k k1) lx6)) dZ) bt.av)
  (λh₁ PO=>di.cons (aF.of (λh' k N=>Ev.ao (v:=.float vs ts) (N _ (.head _))) aj) aA di.nil) (λvs h₁ h₂ k bV=>by refine ar bV λv e p=>⟨v,e,bt.av _ _ _ k p⟩)
  (λus ks h₁ PO p q=>by refine ar p ?_;clear p;intro v eS p;subst eS;refine aG q λv' r j7 j8 j9=>?_;clear q;subst j7;subst j8;subst j9;exact jW (b:=false) (G6.mono PO) jz hh hd hu p h2 h6 (.inr ⟨vs,ts,rfl,fs⟩) (by omega))) (λv g7 k7 hv=>?_) (by rfl)
 have G7:=G6.mono k7;have Ja:=bt.av _ _ _ k7 ly6;refine aP.assign (P:=LF (nZ ys)) (aF.eu (f:=.ref 321) (nms:=[sn "start"]) (PL:=λvs h'=>∃v,vs=[v]/\bt ys v h') (PK:=λks h'=>∃v r,ks=v::r/\v = .float vs ts/\r=[])
  (aF.of (λh' k N=>Ev.aD (G7.mono k) (by k_is)) aj) (Kp.K G7 (by k_is))
  (cw.one (aF.of (λh' k N=>Ev.mono (Ev.ao (v:=.ref b) (N _ (.head _))) (λv h1 k1 e=>e▸bt.av _ _ _ (ai k k1) Ja)) dZ) bt.av)
  (λh₁ PO=>di.cons (aF.of (λh' k N=>Ev.ao (v:=.float vs ts) (N _ (.head _))) aj) aA di.nil) (λvs h₁ h₂ k bV=>by refine ar bV λv e p=>⟨v,e,bt.av _ _ _ k p⟩)
  (λus ks h₁ PO p q=>by refine ar p ?_;clear p;intro v j6 p;subst j6;refine aG q λv' r j3 j4 j5=>?_;clear q;subst j3;subst j4;subst j5;exact jW (b:=false) (I:=-8*(ys.length-1)) (G7.mono PO) jz hh hd hu p (by omega) (by omega) (.inr ⟨vs,ts,rfl,by rw[hn];exact fs⟩) (by omega))) (λv' g8 k8 hv'=>?_) (by rfl)
 refine aG hv λlX vX j2 ilX fX=>?_;clear hv;subst j2;refine aG hv' λlY vY j1 ilY fY=>?_;clear hv';subst j1;have yl:(nZ xs).length=xs.length:=by simp
 have hly:(nZ ys).length=xs.length:=by simp[hn]
 subst Ge;have T:=o6 (m:=λz=>if z=sn "y" then some (.ref lY) else if z=sn "x" then some (.ref lX) else if z=sn "start" then some (.float vs ts) else if z=sn "n" then some (.int xs.length tn) else bindL (kD L).kindOf (jr a b (Str.ofString "ranked") t) (λ_=>none) z) (cs:=[L+2,L+1]) (cso:=cso) (ex:=[L,L+2,L+1]) (k:=k) (c:=c) (cxy:=cxy) (cxx:=cxx) (cyy:=cyy) (kx:=nZ xs) (ky:=nZ ys) (G7.mono k8) hA hh (by omega) (by rfl) (by rfl) ⟨lX,vX,rfl,isList_stays k8 ilX,fX⟩ ⟨lY,vY,rfl,ilY,fY⟩ (by rw[yl,hly]) (by omega) (by omega)
  (λi hi=>BU i (by omega)) (λi hi=>wg i (by omega)) (λi hi=>DK i (by omega)) (by rw[yl];exact hk) hc Ek kq
 rw[yl] at T;exact aP.nil T
end
section
variable{a b:Addr}{c:Nat}
theorem qo(G:Gl w h)(hA:A.frames=some (frs.map (·.1)))(lx:bt xs (.ref a) h)(ly:bt ys (.ref b) h)(hn:ys.length=xs.length)(h2:2<=xs.length)(h6:xs.length<=6)(hh:A.handled=none)(hd:A.depth+2<=320)(hu:A.units<=34)(BU:∀i,i<xs.length->aO (nZ xs) i*aO (nZ ys) i=cxy i*16/\(cxy i).natAbs<=2^40)(wg:∀i,i<xs.length->aO (nZ xs) i*aO (nZ xs) i=cxx i*16/\(cxx i).natAbs<=2^40)(DK:∀i,i<xs.length->aO (nZ ys) i*aO (nZ ys) i=cyy i*16/\(cyy i).natAbs<=2^40)(hk:preSum cxx xs.length*preSum cyy xs.length=k*16)(hc:(c:Int)*c=16*k)(Ek:k.natAbs<2^49)(kq:c<2^48):
  df w A frs cs h (.ref 349) [.ref a,.ref b] [(sn "method",.str (Str.ofString "ranked") t)] (λv _=>c≠0/\∃z t,v = .float z t/\t≠0/\dt (preSum cxy xs.length) c z) (if c=0 then some bG else none):=by
 have uO:400<recursionLimit:=by decide
 refine df.def (binds:=jr a b (Str.ofString "ranked") t) G hA (by k_is) rfl (by k_is) (by omega) (λs hs=>kp_binds (G.mono hs).K (λS=>by kernel_rfl)) rfl (by decide) (λL g hg aQ=>?_);clear aQ;show aP _ _ _ _ _ [L+2,L+1] _ [L,L+2,L+1] _ _ _ _ _;exact ql (G.mono hg) (by show A.frames.map _=_;rw[hA];rfl) (bt.av _ _ _ hg lx) (bt.av _ _ _ hg ly) hn h2 h6 hh (by show A.depth+1+1<=320;omega) (by show A.units+3<=37;omega) BU wg DK hk hc Ek kq
end
section
variable{x:UInt64}{Q:Bool->Shared->Prop}
theorem tZ(ht:t≠0)(hu:u≠0)(hb:NoneBooked s.heap)(hq:∀b,Q b s):wpAny (model prog w) A (isSame (.float x t) (.float y u)) Q E s:=by
 show wpAny (model prog w) A (isSame.created (x==y && !Float64.isNaN x) t u) Q E s;unfold isSame.created;refine wpAny_ite ?_;split
 ·rename_i h;simp[ht,hu] at h
 refine wpAny_ite ?_;split
 ·exact OD (hq _)
 refine wpAny_ite ?_;split
 ·exact OD (hq _)
 refine J' (wpAny_sharingNotTold_none hb ?_);first|rw[if_neg Bool.false_ne_true]|simp only[Bool.false_eq_true,if_false]
 refine J' (wpAny_sharingNotTold_none hb ?_);first|rw[if_neg Bool.false_ne_true]|simp only[Bool.false_eq_true,if_false]
 exact J' (PI (J' (wpAny_askSetting (OD (hq _)))))
theorem E8(ht:t≠0)(hu:u≠0)(hb:NoneBooked s.heap)(hc:Float64.cmp x y=some .eq)(hq:Q true s):wpAny (model prog w) A (eqBool (.float x t) (.float y u)) Q E s:=by
 unfold eqBool;show wpAny _ _ (if (Value.float x t==Value.float y u)=true then _ else _) Q E s;by_cases nY:(Value.float x t==Value.float y u)=true
 ·rw[if_pos nY]
  exact J' (PI (OD hq))
 ·rw[if_neg nY]
  refine J' (tZ ht hu hb λb=>?_);cases b with
  |true=>exact OD hq
  |false=>exact J' (AutoFloatOps.eq_0 (Oi (by rw[hc];exact hq)))
theorem E9{n:Int}(hc:Float64.cmpInt x n=some .eq)(hq:Q true s):wpAny (model prog w) A (eqBool (.float x t) (.int n u)) Q E s:=by have e:(Value.float x t==Value.int n u)=false:=beq_eq_false_iff_ne.mpr (λh=>nomatch h);unfold eqBool;show wpAny _ _ (if (Value.float x t==Value.int n u)=true then (rule "eq-bool.same-object" >>= λ_=>pure true) else (richCompare .Eq (.float x t) (.int n u) >>= truthOfDropped)) Q E s;rw[if_neg (by rw[e];exact Bool.false_ne_true)];exact J' (PyProof.Rows.eq_fi (Oi (by rw[hc];exact hq)))
end
theorem ns_none_of{K:Frag}{n:Str}(X:K.In h)(N:h.Ns L m)(e:nsIn K L n=some none):m n=none:=by
 refine dj N λo es ep ho hd _ hf=>?_;clear N;unfold nsIn at e;split at e
 ·rename_i c d es' n' sl q
  have:=X _ _ q;rw[ho] at this;cases this;cases hd;split at e
  ·cases e
  ·rename_i he
   rw[<-hf];unfold nsFind findBy;rw[<-Array.find?_toList,he];rfl
 ·cases e
theorem booked(G:Gl w h):NoneBooked h:=by refine ar G.digits λmc hn _=>?_;exact⟨mc,hn,ns_none_of G.K hn (by k_is)⟩
def EqV(v d:Value):Prop:=∃z t,v = .float z t/\((∃k u,d = .int k u/\Float64.cmpInt z k=some .eq)∨∃y u,d = .float y u/\t≠0/\u≠0/\Float64.cmp z y=some .eq)
theorem t9(f:Fl z (16*k)):EqV (.float z t) (.int k u):=⟨z,t,rfl,.inl ⟨k,u,rfl,by rw[f.cmpInt];simp⟩⟩
theorem Fb{w:World}{A:Around}{s:Shared}{v d:Value}(hb:NoneBooked s.heap)(h:EqV v d):SeqAt.EqAt A s v d true:=λprog w E Q hq=>by
 refine aN h λz t j1 j2=>?_;clear h;subst j1;rcases j2 with j4|j5<;>(first|(refine aN j4 λk u j6 hc=>?_;clear j4;subst j6)| (refine oM j5 λy u j7=>eP j7 λj8 ht hu hc=>?_;clear j5 j7;subst j8))
 ·exact E9 hc hq
 ·exact E8 ht hu hb hc hq
theorem y4(KX:(K w.params).In s.heap)(hq:∀v h' tk,s.heap.StaysIn h'->iN true v h'->Q v (bp s h' tk)):
  wpAny (model pw w) (A0 fr gd) (call (.builtin "isinstance") [.float z t,.type "float"] []) Q E s:=by
 refine aR (qG w) λb hz=>?_;refine bH [] 0 ?_;refine aX hz 3 0 (iQ KX) rfl rfl (b0 ?_);intro Z;refine⟨by kernel_rfl,λh' I=>?_⟩;refine dM (v:=.bool true) (by kernel_rfl) (by kernel_rfl) ?_;exact hq _ _ _ I.stays rfl
theorem Bi(G:Gl w h)(hh:A.handled=none)(hd:A.depth<=400)(hu:A.units<=1000):Cl w A h (.builtin "isinstance") [.float z t,.type "float"] [] (iN true):=λs Q E hs hq=>
 jw hh hd hu (y4 (G.mono hs).K hq)
theorem Ev.and2(mE:Ev w A h env bB (iN true))(iZ:∀h₁,h.StaysIn h₁->Ev w A h₁ env bR (iN true)):Ev w A h env (.BoolOp .And [bB,bR] pos) (iN true):=λs Q E hs hq=>
 BoolOp_and (mE s _ _ hs λv h₁ bg PO ba=>by subst ba;refine Oi ?_;exact BoolOp_one (iZ h₁ (ai hs PO) _ _ _ (ak _) λv h₂ bZ PQ cF=>hq v h₂ bZ (ai PO PQ) cF))
theorem wN:bootBuiltins (Str.ofString "isinstance")=some (.builtin "isinstance"):=by decide+kernel
theorem y5:bootBuiltins (Str.ofString "float")=some (.type "float"):=by decide+kernel
section
variable{l:Expr}
theorem Ev.Cx(Hl:Ev w A h env l P₁)(fm:cU P₁)(Hr:Ev w A h env r P₂)(zZ:∀u v h₁,h.StaysIn h₁->P₁ u h₁->P₂ v h₁->∀(s:Shared)(Q E:Value->Shared->Prop),s.heap=h₁->Q (.bool true) s->wpAny (model pw w) A (compareOp .Eq u v) Q E s)(hb:autoParam (behindInMarks .Eq r=false) cH):Ev w A h env (.Compare l [.Eq] [r] pos) (iN true):=λs Q E hs hq=>
 wpAny_Compare1 (Hl s _ _ hs λu h₁ bg PO ba=>Hr _ _ _ (ai hs PO) λv h₂ bZ PQ cF=>zZ u v h₂ (ai hs (ai PO PQ)) (fm _ _ _ PQ ba) cF _ _ _ rfl (hq _ h₂ bZ (ai PO PQ) rfl)) hb
theorem de.M7{b:Bool}(H:Ev w A h env l (iN b))(he:∀whole,PySem.isTrue l env whole=(do let v <-whole;standAt l.pos;holding [v] (truthy v)):=by intro _;rfl):de w A h env (.UnaryOp .Not l pos) (!b):=λs wh Q E hs hq=>
 isTrue_not (wpAny_isTrue_value (H s _ _ hs λv h₁ bg PO ba=>by subst ba;exact Oi (hq h₁ bg PO)) (he _))
end
def Due(told FR:Value)(h:Heap):Prop:=∃l d ts ds,told = .ref l/\FR = .ref d/\h.IsList l (List.toArray ts)/\h.IsList d (List.toArray ds)/\Paired EqV ts ds/\ts.length<=64
theorem eg{F:α->β->Prop}{as:List α}{bs:List β}(p:Paired F as bs):∀(i:Nat)(h1:i<as.length)(h2:i<bs.length),F as[i] bs[i]:=by
 induction p with
 |nil=>intro i h1;exact absurd h1 (PE _)
 |cons f r ih=>
  intro i h1 h2;cases i with
  |zero=>exact f
  |succ i=>exact ih i (by simpa using h1) (by simpa using h2)
theorem iT(G:Gl w h)(D:Due told FR h)(hh:A.handled=none)(hd:A.depth+4<=400)(hu:A.units+20<=1000):Cl w A h (.ref 448) [told,FR] [] (iN true):=by
 refine nU D λl d ts ds j5=>BC j5 λj6 j7 il id pr hz=>?_;clear D j5;subst j6;subst j7;have uO:400<recursionLimit:=by decide
 refine Cl.def (binds:=[(sn "told",.ref l),(sn "due",.ref d)]) G (by k_is) rfl (by k_is) (by omega) (λs _=>.of_eq rfl) rfl (by decide) (λL g hg hL hc=>?_);have Gg:=G.mono hg;have ilg:=isList_stays hg il;have idg:=isList_stays hg id;refine Bd.ret (P:=iN true) (λh F=>?_) (λv h' _ p=>p);have Gh:=Gg.mono F.keep;have ilh:=isList_stays F.keep ilg;have idh:=isList_stays F.keep idg;have hl:ds.length=ts.length:=aZ pr;refine Ev.and2 (Ev.Cx (P₁:=ff (.ref l)) (P₂:=ff (.ref d)) (Ev.ao F.ns) aA (Ev.ao F.ns) λu v h₁ PO q q' s Q E hs hq=>?_) λh₁ PO=>?_
 ·obtain rfl:u = .ref l:=q
  obtain rfl:v = .ref d:=q';subst hs;have Gs:Gl w s.heap:=Gh.mono PO;refine SeqAt.eq_listAt (e:=λ_=>true) (isList_stays PO ilh) (isList_stays PO idh) (by simp[hl]) (OV (show A.units+3<=1000 by omega) (by decide)) (λj h1 h2=>?_) (by rw[show ((List.range ts.toArray.size).all λ_=>true)=true by simp];exact hq);exact Fb (w:=w) (booked Gs) (by have:=eg pr j (by simpa using h1) (by simpa using h2);simpa using this)
 ·have G1:=Gh.mono PO
  have fl:∀v∈ts,∃z t,v = .float z t:=λv hv=>by refine aR (List.mem_iff_getElem.mp hv) λj j4=>?_;rcases j4 with⟨hj,e⟩;refine aN (eg pr j hj (by omega)) λz t e2 _=>?_;exact⟨z,t,by rw[<-e];exact e2⟩
  refine Ev.Cx (P₁:=λv h'=>∃D,v = .ref D/\h'.IsList D (List.toArray [])) (P₂:=λv h'=>∃D,v = .ref D/\h'.IsList D (List.toArray [])) ?_ (λv h h' k bV=>by refine ar bV λD e il=>⟨D,e,isList_stays k il⟩) (λs Q E hs hq=>wpAny_List (kZ.nil s _ _ hs λvs h' tk k e=>?_)) λu v h₂ PQ q q' s Q E hs hq=>?_
  ·refine Ev.mono (Ev.comp (x:=sn "x") (cl:=[]) (λvs=>vs=ts) (λ_=>false) (λ_ _=>True) (by rfl) (by decide) (by rfl) (by decide) (by rfl) hh
    (Ev.mono (Ev.ao (v:=.ref l) (F.ns.keeps PO)) (λv h' k e=>⟨l,ts,e,isList_stays (ai PO k) ilh,rfl⟩)) (λvs e=>by rw[e,sizeLine_eq];omega)
    (λvs e v hv C m h' k hn hm=>?_) (λvs e v hv hf=>by cases hf)) (λv h' _ q=>?_)
   ·subst e
    refine oM (fl v hv) λz t j3=>?_;subst j3;have G2:=G1.mono k;exact .inr ⟨_,rfl,de.M7 (b:=true) (Ev.call2 (P₁:=ff (.float z t)) (P₂:=ff (.type "float")) (f:=.builtin "isinstance") (Ev.aE G2 (by k_is) wN) Kp.builtin
     (Ev.ao hn hm) aA (Ev.aE G2 (by k_is) y5) aA
     (λa b h3 k3 e1 e2=>by obtain rfl:a = .float z t:=e1;obtain rfl:b = .type "float":=e2;exact Bi (G2.mono k3) hh (by show A.depth+1<=400;omega) (by show A.units+3<=1000;omega)))⟩
   ·refine dj q λD ys items e wO hi hp=>?_;clear q
    subst hi;have:ys=[]:=by
     have e0:items.filter (λ_=>false)=[]:=List.filter_eq_nil_iff.mpr λ_ _=>by simp
     have e1:=aZ hp;rw[e0] at e1;exact List.length_eq_zero_iff.mp e1
    subst this;exact⟨D,e,wO⟩
  ·subst e
   refine⟨by rw[sizeLine_eq];simp,?_⟩;exact hq _ (h'.push {cls:=.type "list",data:=.seq ([]:List Value).toArray}) tk (ai k λb o e=>K' _ e) ⟨_,rfl,_,OC _ rfl,rfl,_,rfl⟩
  ·refine ar q λD1 j2 l1=>?_;clear q;subst j2
   refine ar q' λD2 j1 l2=>?_;clear q';subst j1;subst hs;exact SeqAt.eq_listAt (e:=λ_=>true) l1 l2 rfl (OV (show A.units+3<=1000 by omega) (by decide)) (λj h1 h2=>absurd h1 (by simp)) (by simpa using hq)
section
variable{x:Str}{ex:Option Str}
theorem aF.comp{cl:List (Str×Addr)}(Φ:List Value->Prop)(F:Value->Value->Prop)(cP:closureFor scope env=pure cl)(aQ:∀y∈scope.names,y.2≠.cell)(bK:scope.kind = .function)(cV:∀y∈scope.names,y.2 = .local->scope.names.lookup y.1=some .local)(hx:scope.names.lookup x=some .local)(hh:A.handled=none)(hit:aF w A frs cs h env iter (λv h'=>∃ax items,v = .ref ax/\h'.IsList ax (List.toArray items)/\Φ items) ex)(hsz:∀items,Φ items->items.length<=sizeLine)(dm:∀items,Φ items->∀v∈items,∀C m h',h.StaysIn h'->h'.Ns C m->m x=some v->Ev w A h' (compEnvC scope cl C env) elt (λy _=>F v y))(hs:∀x,foldedSetIterable iter env x=pure x:=by intro _;rfl):
  aF w A frs cs h env (.ListComp elt [⟨.Name x px,iter,[],0⟩] scope pos) (λv h'=>∃D ys items,v = .ref D/\h'.IsList D (List.toArray ys)/\Φ items/\Paired F items ys) ex:=λs hb Q E dI O hq he=>by
 refine wpAny_ListComp_free (λ_=>true) F cP aQ bK cV hx (hit s hb _ _ dI O (λv aB NX Cy aM PW PV=>?_) he) hs;refine aG PV λax items j2 hl0 hΦ=>?_;clear PV;subst j2;have hl:=isList_stays aM.stays hl0;have M8:h.StaysIn aB.heap:=ai dI (ai Cy aM.stays);refine O1 hl ?_;have cN:ax<aB.heap.objs.size:=by refine ar hl λ_ e _=>ON e
 have up:∀b o,aB.heap.get? b=some o->(aB.heap.push {cls:=.type "list_iterator",data:=.fields #[.ref ax,.int 0 0]}).get? b=some o:=λb o e=>K' _ e;refine⟨aB.heap.objs.size,[aB.heap.objs.size,ax],[aB.heap.objs.size],items.toArray.size,_,_,rfl,Walks.list hh aB.heap.objs.size ax (OI cN) items.toArray,by rw[List.size_toArray];exact hsz _ hΦ,⟨⟨_,OC _ rfl,rfl,rfl⟩,isList_stays up hl⟩,?_,?_,?_⟩
 ·intro b eJ
  show b<(aB.heap.push _).objs.size;rw[Heap.size_push];rcases OA eJ with j1|eJ<;>(first|(replace j1:=OK j1;subst j1)|skip)
  ·exact OY _
  ·rw[List.mem_singleton.mp eJ];exact Ox cN
 ·have ext:∀g:Heap,(∀b o,b∉[aB.heap.objs.size]->(aB.heap.push {cls:=.type "list_iterator",data:=.fields #[.ref ax,.int 0 0]}).get? b=some o->g.get? b=some o)->h.StaysIn g:=λg k b o e=>by
   have bB:aB.heap.get? b=some o:=M8 _ _ e;exact k b o (by simp only[List.mem_singleton];exact OI (ON bB)) (up _ _ bB)
  refine⟨?_,?_⟩
  ·intro C i v cq pG E' _ hP hn hm hk _
   exact wpAny_tests_nil ⟨rfl,cq.heap,cq.toks,rfl,ak _⟩
  ·intro C i v cq pG E' _ hP hp hn hm hk _
   have bX:v∈items:=List.mem_of_getElem? (by simpa using hP);exact dm items hΦ v bX C pG cq.heap (ext _ hk) hn hm cq _ _ (ak _) λy h' tk k hF=>⟨hF,h',tk,rfl,k⟩
 ·intro D h' tk ys vs hD nX zK hlen hP hF hk
  have e:vs=items:=by
   apply List.ext_getElem?;intro i;rw[List.size_toArray] at hlen;cases q:vs[i]? with
   |none=>rw[List.getElem?_eq_none_iff] at q;rw[List.getElem?_eq_none (by omega)]
   |some v=>have:=hP i v q;simpa using this.symm
  subst e;have PO:aB.heap.StaysIn h':=λb o eb=>by have hbl:=ON eb;exact hk b o (by simp only[List.mem_singleton];exact OI hbl) (up _ _ eb)
  have cC:=aM.keep PO;have e2:vs.filter (λ_=>true)=vs:=List.filter_eq_self.mpr λ_ _=>rfl;rw[e2] at hF;refine hq (.ref D) (bp aB h' tk) _ (ai Cy cC.wide) cC.top (PW.trans (Go.of PO)) ⟨D,ys.toList,vs,rfl,?_,hΦ,hF⟩;exact cK (λb hb=>cC.fv hb) (by simpa using nX)
end
theorem ix(ns:List Int)(v:Int):(ns.countP λu=>decide (u<v))+sa ns v+(ns.countP λu=>decide (v<u))=ns.length:=by
 unfold sa;induction ns with
 |nil=>rfl
 |cons a r ih=>
  rw[List.countP_cons,List.countP_cons,List.countP_cons,List.length_cons];rcases Int.lt_trichotomy a v with h|h|h
  ·have h1:¬a=v:=by omega
   have h2:¬v<a:=by omega
   simp only[h,h1,h2,decide_true,decide_false,if_true,Bool.false_eq_true,if_false];omega
  ·have h1:¬a<v:=by omega
   have h2:¬v<a:=by omega
   simp only[h,h1,h2,decide_true,decide_false,if_true,Bool.false_eq_true,if_false,Int.lt_irrefl];omega
  ·have h1:¬a=v:=by omega
   have h2:¬a<v:=by omega
   simp only[h,h1,h2,decide_true,decide_false,if_true,Bool.false_eq_true,if_false];omega
noncomputable def bA(ns:List Int)(p:Nat):Int:=((ns.countP λu=>decide (u<ns.getD p 0)):Int)-(ns.countP λu=>decide (ns.getD p 0<u))
theorem ua(ns:List Int)(st:Int)(p:Nat):2*cY false ns (16*st) p=16*(2*st+ns.length-1+bA ns p):=by have h:=ix ns (ns.getD p 0);unfold cY below bA;simp only[Bool.false_eq_true,if_false];omega
theorem ni(ns:List Int)(st:Int)(p:Nat):2*cY true ns (16*st) p=16*(2*st+ns.length-1-bA ns p):=by have h:=ix ns (ns.getD p 0);unfold cY below bA;simp only[if_true];omega
theorem y6(ns:List Int)(p:Nat):cY false ns (-8*(ns.length-1)) p=8*bA ns p:=by have h:=ix ns (ns.getD p 0);unfold cY below bA;simp only[Bool.false_eq_true,if_false];omega
theorem pe(ns:List Int)(p:Nat)(hp:p<ns.length):(bT ns).getD p 0=bA ns p:=by
 have e:ns.getD p 0=ns[p]:=by simp[hp]
 unfold bT bA;rw[e,List.countP_eq_length_filter,List.countP_eq_length_filter];simp[hp]
theorem b9(ns:List Int):(bT ns).length=ns.length:=by simp[bT]
section
variable{l:Expr}
theorem Ev.Cz{n:Int}(Hl:eI w A h env l n)(Hr:Ev w A h env r (dB a))(hb:n.natAbs<2^49)(hc:n*a=c)(kq:c.natAbs<2^53):Ev w A h env (.BinOp l .Mult r pos) (dB c):=
 Ev.bin Hl Hr (by rintro _ _ s Q E ⟨u,rfl⟩ ⟨b,t,rfl,hx⟩ _ hq;exact PyProof.Rows.mul_if_fits (mI hb) (hq _ s.heap _ (ak _) ⟨_,_,rfl,(Fl.ofInt hb).mul hx (by rw[Int.mul_assoc,hc,Int.mul_comm]) kq⟩))
end
theorem Fc:∀{ts ds:List Value}{ns:List Int},dD ts (ns.map λk=>16*k)->IntsAre ds ns->Paired EqV ts ds:=by
 intro ts ds ns hf hi;refine ei ?_ λi a b e1 e2=>?_
 ·have:=aZ hf
  rw[this,List.length_map,hi.length]
 ·have cN:=(List.getElem?_eq_some_iff.mp e1).1
  have hl:=aZ hf;rw[List.length_map] at hl;have hk:i<ns.length:=by omega
  have iX:i<(ns.map λk=>16*k).length:=by simpa using hk
  refine aN (eg hf i iX cN) λz t e3 f=>?_;have ea:a=ts[i]:=by rcases List.getElem?_eq_some_iff.mp e1 with⟨_,q⟩;exact q.symm
  obtain⟨k,u,e4,e5⟩:∃k u,b = .int k u/\ns[i]?=some k:=hi.at i b e2;rw[ea,e3,e4];have:ns[i]=k:=by have:=O6 hk;rw[e5] at this;exact (PA this).symm
  have f':Fl z (16*k):=by
   have g:(ns.map λk=>16*k)[i]=16*ns[i]:=by simp
   rw[g,this] at f;exact f
  exact t9 f'
theorem Fd{ns:List Int}(hl:LF (ns.map λk=>16*k) told h)(hd:LI ns FR h)(hz:ns.length<=64):Due told FR h:=by refine aG hl λl ts j2 il hf=>?_;clear hl;subst j2;refine aG hd λd ds j1 id hi=>?_;clear hd;subst j1;refine⟨l,d,ts,ds,rfl,rfl,il,id,Fc hf hi,?_⟩;have:=aZ hf;rw[List.length_map] at this;omega
section
variable{ns:List Int}
theorem kN(G:Gl w h)(hk:env.scope.kind = .function)(hg:env.globals=mainGlobals)(kl:env.kindOf (sn "_law_floats")=some .globalImplicit)(hh:A.handled=none)(hd:A.depth+4<=400)(hu:A.units+20<=1000)(hz:ns.length<=64)(mE:aF w A frs cs h env bB (LF (ns.map λk=>16*k)) x)(iZ:aF w A frs cs h env bR (LI ns) x)(bE:autoParam (starEach [bB,bR] env=[(false,eval bB env),(false,eval bR env)]) cH)(cQ:autoParam (starEach [bR] env=[(false,eval bR env)]) cH):
  aF w A frs cs h env (.Call (.Name (sn "_law_floats") ba) [bB,bR] [] pos) (iN true) x:=
 aF.call2 (f:=.ref 448) (aF.of (λh' k N=>Ev.aD (G.mono k) (by k_is) hk kl hg) aj) (Kp.K G (by k_is)) mE LF.av iZ LI.av
  (λv u h1 k1 q q'=>df.of (λh' k=>iT (G.mono (ai k1 k)) (Fd (LF.av _ _ _ k q) (LI.av _ _ _ k q') hz) hh hd hu) aj) bE cQ
end
section
variable{ns:List Int}{st:Int}
theorem iy:∀{vs:List Value}{ns:List Int},vs.length=ns.length->(∀(i:Nat)(v:Value),vs[i]?=some v->∃t,v = .int (ns.getD i 0) t)->IntsAre vs ns
 | [],[],_,_=>.nil
 |v::vs,n::ns,hl,h=>by
  refine aR (h 0 v rfl) λt e=>?_;have e':v = .int n t:=by simpa using e
  subst e';exact .cons _ _ (iy (by simpa using hl) λi v e=>by simpa using h (i+1) v (by simpa using e))
 | [],_::_,hl,_=>by simp at hl
 |_::_,[],hl,_=>by simp at hl
theorem bt.li(T:bt ns v h):LI ns v h:=by
 refine ez T λda xs tk j1=>BC j1 λj2 il hs a1 a2 a3=>?_;clear T j1;subst j2;refine⟨da,xs.toList,rfl,by simpa using il,iy (by simpa using hs) λi v e=>?_⟩;have e':xs[i]?=some v:=by rw[<-e];simp
 have hi:i<ns.length:=by rw[<-hs];exact (Array.getElem?_eq_some_iff.mp e').1
 rw[a1 i hi] at e';exact⟨tk i,(PA e').symm⟩
noncomputable abbrev N8(b:Bool)(ns:List Int)(st:Int):List Int:=((List.range ns.length).map (cY b ns (16*st))).map λk=>2*k
def y7(v y:Value):Prop:=∃z u k,v = .float z u/\Fl z k/\∃z' t',y = .float z' t'/\Fl z' (2*k)
theorem Fl.one{k':Int}(f:Fl z k)(f':Fl z k'):k=k':=by have:=f.2.symm.trans f'.2;exact Int.eq_of_mul_eq_mul_right (by decide) this
theorem qp(b:Bool)(ns:List Int)(I:Int)(p:Nat):(cY b ns I p).natAbs<=I.natAbs+32+32*ns.length:=by have h1:below b ns (ns.getD p 0)<=ns.length:=List.countP_le_length;have h2:sa ns (ns.getD p 0)<=ns.length:=List.countP_le_length;unfold cY;refine OB (zV (zV (nbS (OM _) wW) (zJ wW (KL h1))) (zJ wW (zV (KL h2) wW))) ?_;generalize ns.length=n;generalize I.natAbs=k;omega
theorem jX{b:Bool}{ns:List Int}{st:Int}{p:Nat}(h6:ns.length<=6)(hs:st.natAbs<2^38):(2*cY b ns (16*st) p).natAbs<2^53:=
 CN (zJ wW (OB (qp b ns (16*st) p) (Nat.add_le_add (Nat.add_le_add_right (zJ wW (PG hs)) 32) (PM 32 h6)))) rfl
theorem va{f:Nat->Int}(hf:dD vs ((List.range n).map f))(hv:v∈vs):∃z u k,v = .float z u/\Fl z k/\∃p,k=f p:=by refine aR (List.mem_iff_getElem.mp hv) λi j1=>?_;rcases j1 with⟨hi,e⟩;have hl:=aZ hf;refine aN (eg hf i (by omega) hi) λz u e2 g=>?_;exact⟨z,u,_,by rw[<-e];exact e2,g,i,by simp⟩
theorem nj{b:Bool}{ns:List Int}{st:Int}(g:Int->Int)(hg:∀p,2*cY b ns (16*st) p=16*g (bA ns p))(q:∃D ys items,v = .ref D/\h.IsList D (List.toArray ys)/\dD items ((List.range ns.length).map (cY b ns (16*st)))/\Paired y7 items ys):
  LF (((bT ns).map g).map λk=>16*k) v h:=by
 refine dj q λD ys items j2 il hf hp=>?_;clear q;subst j2;have l1:=aZ hf;have l2:=aZ hp;rw[List.length_map,List.length_range] at l1;refine⟨D,ys,rfl,il,ei (by simp[b9];omega) λi k y e1 e2=>?_⟩;have hy:=(List.getElem?_eq_some_iff.mp e2).1;have hi:i<ns.length:=by omega
 refine aN (eg hf i (by simpa using hi) (by omega)) λz u a1 a2=>?_;refine bf (eg hp i (by omega) hy) λz2 u2 k2 b1 b2 j1=>aN j1 λz' t' b3 b4=>?_;clear j1;rw[a1] at b1;cases b1;have e3:k2=cY b ns (16*st) i:=by have:=Fl.one b2 a2;rw[this];simp
 have e4:ys[i]=y:=by rcases List.getElem?_eq_some_iff.mp e2 with⟨_,q⟩;exact q
 have hs:i<(bT ns).length:=by rw[b9];exact hi
 have e5:k=16*g (bA ns i):=by
  have e6:(bT ns)[i]=bA ns i:=by have:=pe ns i hi;rw[<-this];simp[hs]
  rw[List.getElem?_map,List.getElem?_map,List.getElem?_eq_getElem hs] at e1;simp only[Option.map_some,Option.some.injEq] at e1;rw[<-e1,e6]
 rw[<-e4];exact⟨z',t',b3,by rw[e5,<-hg i,<-e3];exact b4⟩
theorem gN(G:Gl w h)(hA:A.frames=some (frs.map (·.1)))(hh:A.handled=none)(hd:A.depth+2<=320)(hu:A.units<=34)(T:bt ns v h)(h2:2<=ns.length)(h6:ns.length<=6)(dI:st.natAbs<2^38):
  df w A frs cs h (.ref 453) [v,.int st t] [] (iN true) x:=by
 have uO:400<recursionLimit:=by decide
 refine df.def (binds:=[(sn "a",v),(sn "start",.int st t)]) G hA (by k_is) rfl (by k_is) (by omega) (λs _=>.of_eq rfl) rfl (by decide) (λL g hg aQ=>?_);clear aQ;show aP _ _ _ _ _ [L+1] _ [L,L+1] _ (upd (upd (λ_=>none) (sn "a") v) (sn "start") (.int st t)) _ _ _;have Gg:=G.mono hg;have Tg:=bt.av _ _ _ hg T;refine aP.dU (c:=L+1) (cs':=[]) (P:=iO (2*st+ns.length-1)) (aF.of (λh' k N=>Ev.sub (Ev.add (Ev.mul Ev.int (Ev.cS (Ev.ao (v:=.int st t) (N _ (.head _)))) ?_)
  (Ev.bz (Ev.aE (Gg.mono k) (by k_is) cR) Kp.builtin
  (Ev.mono (Ev.ao (v:=v) (N _ (.head _))) (λv h1 k1 e=>e▸bt.av _ _ _ (ai k k1) Tg)) bt.av (λv h1 k1 q=>q.len (by omega)))) Ev.int) aj) aA (λu g1 k1 hv hcw=>?_) (by rfl) (by rfl) (by rfl) (by simp) (by simp)
 ·exact IntMulOk.of_left (by decide)
 refine aR hv λtw pX=>?_;clear hv;subst pX;have G1:=Gg.mono k1;have T1:=bt.av _ _ _ k1 Tg;have jz:∀{m:Str->Option Value},(A.deeper (envOfC (sn "_law_ranks") Dv L 453 (.ref 452))).frames=some (((envOfC (sn "_law_ranks") Dv L 453 (.ref 452),m)::frs).map (·.1)):=by intro m;exact Ow hA
 have lin:=bt.li T1;refine aP.ret (P:=iN true) (aF.and (b₁:=true) (b₂:=true) (kN (ns:=(bT ns).map λk=>2*st+ns.length-1+k) G1 (by rfl) (by rfl) (by rfl) hh (by show A.depth+1+4<=400;omega) (by show A.units+3+20<=1000;omega) (by simp[b9];omega) ?_ ?_) λg2 k2 _=>aF.and1 ?_) (λv h' _ p=>p)
 ·refine Gm.mono (aF.comp (x:=sn "r") (cl:=[]) (λvs=>dD vs ((List.range ns.length).map (cY false ns (16*st)))) y7 (by rfl) (by decide) (by rfl) (by decide) (by rfl) hh ?_ (λvs hf=>by rw[aZ hf,sizeLine_eq];simp;omega) (λvs hf v hv C m h' k hn hm=>?_)) λv h' _ q=>?_
  ·exact aF.eu (f:=.ref 321) (nms:=[sn "start"]) (PL:=λvs h'=>∃v,vs=[v]/\bt ns v h') (PK:=λks h'=>∃v r,ks=v::r/\v = .int st t/\r=[])
    (aF.of (λh' k N=>Ev.aD (G1.mono k) (by k_is)) aj) (Kp.K G1 (by k_is))
    (cw.one (aF.of (λh' k N=>Ev.mono (Ev.ao (v:=v) (N _ (.head _))) (λv h1 k1 e=>e▸bt.av _ _ _ (ai k k1) T1)) dZ) bt.av)
    (λh₁ PO=>di.cons (aF.of (λh' k N=>Ev.ao (v:=.int st t) (N _ (.head _))) aj) aA di.nil) (λvs h₁ h₂ k bV=>by refine ar bV λv e p=>⟨v,e,bt.av _ _ _ k p⟩)
    (λus ks h₁ PO p q=>by refine ar p ?_;clear p;intro v ro p;subst ro;refine aG q λv' r jc uH pY=>?_;clear q;subst jc;subst uH;subst pY;exact jW (b:=false) (G1.mono PO) jz hh (by show A.depth+1+1<=320;omega) (by show A.units+3<=37;omega) p h2 h6 (.inl ⟨st,t,rfl,rfl⟩) (by omega))
  ·refine bf (va hf hv) λz u k iY f bk=>?_;subst iY
   exact Ev.mono (Ev.Cz (n:=2) (a:=k) (c:=2*k) Ev.int (Ev.mono (Ev.ao (v:=.float z u) hn hm) λv h _ e=>⟨z,u,e,f⟩) (by decide) rfl (by refine aR bk λp eR=>?_;clear bk;subst eR;exact jX h6 (by assumption))) λy _ _ p=>⟨z,u,k,rfl,f,p⟩
  ·exact nj (λp=>2*st+ns.length-1+p) (λp=>ua ns st p) q
 ·refine aF.of (λh' k N=>Ev.mono (Ev.mf (x:=sn "w") (cl:=[(sn "whole",L+1)]) (ns:=bT ns) (λ_=>true) (λk=>2*st+ns.length-1+k) (Ev.bz (f:=.ref 436) (P₁:=λv h=>LI ns v h) (Ev.aD (G1.mono k) (by k_is)) (Kp.K (G1.mono k) (by k_is))
   (Ev.mono (Ev.ao (v:=v) (N _ (.head _))) (λv h1 k1 e=>e▸LI.av _ _ _ (ai k k1) lin)) LI.av (λv h1 k1 q=>?_)) (by rw[b9,sizeLine_eq];omega) hh (λ_ _ _ _ _ _ _ _ _=>.inl ⟨rfl,rfl⟩)
   (λj hj _ C t m h' k2 hn hm=>Ev.add (Ev.cS (Ev.bj (c:=L+1) (aq (ai k k2) hcw))) (Ev.cS (Ev.ao hn hm))) (by rfl) (by decide) (by rfl) (by decide) (by rfl)) (λv h' _ q=>by rw[List.filter_eq_self.mpr λ_ _=>rfl] at q;exact q)) c5
  refine aG q λl vs ib a b=>?_;clear q;subst ib;exact iJ (G1.mono (ai k k1)) ⟨l,vs,rfl,a,b⟩ (by omega) hh (by show A.depth+1+3<_;omega)
 ·have G2:=G1.mono k2
  have T2:=bt.av _ _ _ k2 T1;have M9:=LI.av _ _ _ k2 lin;have Na:=aq k2 hcw;refine kN (ns:=(bT ns).map λk=>2*st+ns.length-1-k) G2 (by rfl) (by rfl) (by rfl) hh (by show A.depth+1+4<=400;omega) (by show A.units+3+20<=1000;omega) (by simp[b9];omega) ?_ ?_
  ·refine Gm.mono (aF.comp (x:=sn "r") (cl:=[]) (λvs=>dD vs ((List.range ns.length).map (cY true ns (16*st)))) y7 (by rfl) (by decide) (by rfl) (by decide) (by rfl) hh ?_ (λvs hf=>by rw[aZ hf,sizeLine_eq];simp;omega) (λvs hf v hv C m h' k hn hm=>?_)) λv h' _ q=>?_
   ·exact aF.eu (f:=.ref 321) (nms:=[sn "start",sn "reverse"]) (PL:=λvs h'=>∃v,vs=[v]/\bt ns v h') (PK:=λks h'=>∃v r,ks=v::r/\v = .int st t/\∃v' r',r=v'::r'/\v' = .bool true/\r'=[])
     (aF.of (λh' k N=>Ev.aD (G2.mono k) (by k_is)) aj) (Kp.K G2 (by k_is))
     (cw.one (aF.of (λh' k N=>Ev.mono (Ev.ao (v:=v) (N _ (.head _))) (λv h1 k1 e=>e▸bt.av _ _ _ (ai k k1) T2)) dZ) bt.av)
     (λh₁ PO=>di.cons (aF.of (λh' k N=>Ev.ao (v:=.int st t) (N _ (.head _))) aj) aA
      (di.cons (P₁:=ff (.bool true)) (aF.of (λh' k N s Q E hs hq=>PN (hq _ s.heap s.toks (ak _) rfl)) aj) aA di.nil)) (λvs h₁ h₂ k bV=>by refine ar bV λv e p=>⟨v,e,bt.av _ _ _ k p⟩)
     (λus ks h₁ PO p q=>by refine ar p ?_;clear p;intro v eS p;subst eS;refine aG q λv' r j4 j5 j6=>aG j6 λJY r' j7 j8 j9=>?_;clear q j6;subst j7;subst j8;subst j9;subst j4;subst j5;exact jW (b:=true) (G2.mono PO) jz hh (by show A.depth+1+1<=320;omega) (by show A.units+3<=37;omega) p h2 h6 (.inl ⟨st,t,rfl,rfl⟩) (by omega))
   ·refine bf (va hf hv) λz u k j3 f bk=>?_;subst j3
    exact Ev.mono (Ev.Cz (n:=2) (a:=k) (c:=2*k) Ev.int (Ev.mono (Ev.ao (v:=.float z u) hn hm) λv h _ e=>⟨z,u,e,f⟩) (by decide) rfl (by refine aR bk λp j2=>?_;clear bk;subst j2;exact jX h6 (by assumption))) λy _ _ p=>⟨z,u,k,rfl,f,p⟩
   ·exact nj (λp=>2*st+ns.length-1-p) (λp=>ni ns st p) q
  ·refine aF.of (λh' k N=>Ev.mono (Ev.mf (x:=sn "w") (cl:=[(sn "whole",L+1)]) (ns:=bT ns) (λ_=>true) (λk=>2*st+ns.length-1-k) (Ev.bz (f:=.ref 436) (P₁:=λv h=>LI ns v h) (Ev.aD (G2.mono k) (by k_is)) (Kp.K (G2.mono k) (by k_is))
    (Ev.mono (Ev.ao (v:=v) (N _ (.head _))) (λv h1 k1 e=>e▸LI.av _ _ _ (ai k k1) M9)) LI.av (λv h1 k1 q=>?_)) (by rw[b9,sizeLine_eq];omega) hh (λ_ _ _ _ _ _ _ _ _=>.inl ⟨rfl,rfl⟩)
    (λj hj _ C t m h' k2 hn hm=>Ev.sub (Ev.cS (Ev.bj (c:=L+1) (aq (ai k k2) Na))) (Ev.cS (Ev.ao hn hm))) (by rfl) (by decide) (by rfl) (by decide) (by rfl)) (λv h' _ q=>by rw[List.filter_eq_self.mpr λ_ _=>rfl] at q;exact q)) c5
   refine aG q λl vs j1 a b=>?_;clear q;subst j1;exact iJ (G2.mono (ai k k1)) ⟨l,vs,rfl,a,b⟩ (by omega) hh (by show A.depth+1+3<_;omega)
end
theorem sb(elt t0 i0 t1 i1:Expr)(scope:Scope)(pos:Pos)(it acc:Value)(env:Env):
  compTurn (.ListComp elt [⟨t0,i0,[],0⟩,⟨t1,i1,[],0⟩] scope pos) 1 it acc env=(standAt i1.pos >>= λ_=>pyNext it >>= λr=>match r with
   |none=>pure (.done .next)
   |some v=>letOwnedTupleGo t1 it v >>= λ_=>assign t1 env v >>= λ_=>
    (eval elt env >>= λx=>call (.builtin "list.append") [acc,x] >>= λ_=>pure ()) >>= λ_=>
     again (.compLoop (.ListComp elt [⟨t0,i0,[],0⟩,⟨t1,i1,[],0⟩] scope pos) 1 it acc env)):=by rfl
theorem qq(elt t0 i0 t1 i1:Expr)(scope:Scope)(pos:Pos)(it acc:Value)(env:Env):
  compTurn (.ListComp elt [⟨t0,i0,[],0⟩,⟨t1,i1,[],0⟩] scope pos) 0 it acc env=(standAt i0.pos >>= λ_=>pyNext it >>= λr=>match r with
   |none=>pure (.done .next)
   |some v=>letOwnedTupleGo t0 it v >>= λ_=>assign t0 env v >>= λ_=>
    eval i1 env >>= λx=>standAt i1.pos >>= λ_=>foldedSetIterable i1 env x >>= λx=>holding [x] (pyIter x) >>= λJZ=>
    runOwn (.compStart (.ListComp elt [⟨t0,i0,[],0⟩,⟨t1,i1,[],0⟩] scope pos) 1 JZ acc env) env >>= λ_=>
     again (.compLoop (.ListComp elt [⟨t0,i0,[],0⟩,⟨t1,i1,[],0⟩] scope pos) 0 it acc env)):=by rfl
theorem iz{t0 t1 i1:Expr}{it:Value}(h0:codeAny (model prog w) A (.compLoop (.ListComp elt [⟨t0,i0,[],0⟩,⟨t1,i1,[],0⟩] scope pos) 1 it acc env) R s)(h:wpAny (model prog w) A (pyIter it) (λJZ s'=>codeAny (model prog w) A (.compLoop (.ListComp elt [⟨t0,i0,[],0⟩,⟨t1,i1,[],0⟩] scope pos) 1 JZ acc env) R s')
   (notedBy (model prog w) A env λx s'=>R (.error x) s') s):
  codeAny (model prog w) A (.compStart (.ListComp elt [⟨t0,i0,[],0⟩,⟨t1,i1,[],0⟩] scope pos) 1 it acc env) R s:=by
 refine codeAny_of_tree ?_;show wpAny _ _ ((compStart (.ListComp elt [⟨t0,i0,[],0⟩,⟨t1,i1,[],0⟩] scope pos) 1 it acc env).onRaise (λx=>do noteFrame x env;standAt theWindowsPlace)) _ _ s;refine wpAny_notedAt ?_;unfold compStart;show wpAny _ _ (ask >>= _) _ _ s;refine J' (wpAny_askSetting (wpAny_ite ?_));split
 ·first
   |exact J' (OD (OD (And.intro rfl h0)))
   |exact OD (And.intro rfl h0)
 ·first
   |exact J' (PI (J' (wpAny_standAt (J' (Oj h (λJZ s' h'=>OD (And.intro rfl h')) λ_ _ x=>x)))))
   | (refine J' (PI ?_);show wpAny _ _ (standAt i1.pos >>= _) _ _ s;exact J' (wpAny_standAt (J' (Oj h (λJZ s' h'=>OD (And.intro rfl h')) λ_ _ x=>x))))
theorem vf{M:Model}{c:Code}(hq:c.quiet=true)(Φ:Nat->Shared->Prop)(turn:∀(B:Fin->Shared->Prop)(En:Value->Shared->Prop) k s,(∀m s',Φ m s'->m<k->B (.again c) s')->(∀f s',R (.ok f) s'->B (.done f) s')->Φ k s->wpAny M (A.under c) (M.den c) B En s)(n:Nat)(h:Φ n s):codeAny M A c R s:=
 codeAny_loop hq Φ (λn s hI=>turn _ _ n s (λm _ hi hm=>⟨rfl,m,hm,hi⟩) (λ_ _ h=>h) hI) n h
theorem ub{t0 i1:Expr}{x1:Str}{I D:Addr}{ys0:Array Value}{ns0:List Int}(g:Nat->Int)(hh:A.handled=none)(hx:cenv.kindOf x1=some .local)(hp:(cenv.scope.kind == .class||(cenv.scope.kind == .module&&cenv.locals !=cenv.globals))=false)(kO:D≠cenv.locals)(uc:D≠I)(ud:cenv.locals≠I)(dI:IsRangeIter s.heap I 0 n 1)(gY:s.heap.PlainList D ys0)(hi0:IntsAre ys0.toList ns0)(hn:s.heap.Ns cenv.locals m)(dm:∀j bN PR t E',j<n->bN.heap.Ns cenv.locals PR->(∀z,PR z=if z=x1 then some (.int (j:Nat) t) else m z)->(∀b o,b≠cenv.locals->b≠I->b≠D->s.heap.get? b=some o->bN.heap.get? b=some o)->
   wpAny (model prog w) A (eval elt cenv) (λy cq=>(∃t,y = .int (g j) t)/\Keeps bN cq) E' bN)(hR:∀h' tk m' ys,h'.Ns cenv.locals m'->h'.PlainList D ys->IntsAre ys.toList (ns0++(List.range n).map g)->
   (∀b o,b≠cenv.locals->b≠I->b≠D->s.heap.get? b=some o->h'.get? b=some o)->R (.ok .next) (bp s h' tk))(hsz:ns0.length+n<=sizeLine):
  codeAny (model prog w) A (.compLoop (.ListComp elt [⟨t0,i0,[],0⟩,⟨.Name x1 p1,i1,[],0⟩] scope pos) 1 (.ref I) (.ref D) cenv) R s:=by
 have W:=PyProof.Rows.LCg.range_walks (prog:=prog) (w:=w) (A:=A) (I:=I) hh 0 n;refine vf rfl
  (λk s'=>∃h' tk m' ys,∃i:Nat,s'=(bp s h' tk)/\IsRangeIter h' I (0+(i:Nat)*1) ((n:Int)-(i:Nat)) 1/\h'.PlainList D ys/\h'.Ns cenv.locals m'/\(∀z,z≠x1->m' z=m z)/\
   IntsAre ys.toList (ns0++(List.range i).map g)/\i<=n/\k=n+1-i/\
   (∀b o,b≠cenv.locals->b≠I->b≠D->s.heap.get? b=some o->h'.get? b=some o)) (λB En k s' qE yM hI=>?_) (n+1)
  ⟨s.heap,s.toks,m,ys0,0,rfl,by simpa using dI,gY,hn,λ_ _=>rfl,by simpa using hi0,Nat.zero_le _,rfl,λ_ _ _ _ _ e=>e⟩
 refine qK hI λH tk m' ys i j6=>jA9 j6 λj7 gC iA fe iI hF hi j8 hk=>?_;clear hI j6;subst j7;subst j8;show wpAny _ A ((compTurn (.ListComp elt [⟨t0,i0,[],0⟩,⟨.Name x1 p1,i1,[],0⟩] scope pos) 1 (.ref I) (.ref D) cenv).onRaise (λx=>do noteFrame x cenv;theTreesLotGoes x)) B En _;refine wpAny_noted ?_;rw[sb];refine J' (wpAny_standAt (J' ?_));by_cases cN:i<n
 ·refine W.item i _ _ _ cN gC λv h₁ bg xe gH el=>?_
  refine aR xe λt j5=>?_;clear xe;subst j5;have eh:∀b o,b≠I->H.get? b=some o->h₁.get? b=some o:=λb o hb e=>el b o (by simpa using hb) e;refine J' (wpAny_of_eq (by rfl:letOwnedTupleGo (.Name x1 p1) (.ref I) _=pure ()) (J' ?_));refine wpAny_assign_Name (OR hx (fe.at' λo e=>eh _ o ud e) (λh₂ cD aJ=>?_) hp);have lF:∀b o,b≠cenv.locals->b≠I->H.get? b=some o->h₂.get? b=some o:=λb o jA n8 e=>aJ.extBut b o jA (eh b o n8 e);have eQ:IsRangeIter h₂ I (0+((i+1:Nat):Nat)*1) ((n:Int)-((i+1:Nat):Nat)) 1:=W.frame _ _ _ gH λb hb o e=>aJ.extBut b o (λh=>by rw[List.mem_singleton.mp hb] at h;exact ud h.symm) e;refine J' (J' (Oj (dm i _ _ t _ cN cD (λz=>?_) (λb o jA n8 n9 e=>lF b o jA n8 (hk b o jA n8 n9 e))) (λy jE h₄=>?_) λ_ _ e=>e))
  ·by_cases hz:z=x1
   ·rw[if_pos hz,if_pos hz];simp
   ·rw[if_neg hz,if_neg hz];exact iI z hz
  refine cA h₄ λj1 j2=>?_;clear h₄;refine aN j2 λh₄ f9 j3 vg=>?_;clear j2;subst j3;refine aR j1 λt' j4=>?_;clear j1;subst j4;have hlen:=hF.length;have BG:ys.size<=sizeLine:=by
   have:ys.toList.length=ys.size:=by simp
   rw[List.length_append,List.length_map,List.length_range] at hlen;omega
  have pH:h₄.PlainList D ys:=iA.at λo e=>vg _ o (lF D o kO uc e);refine J' (wpAny_list_append_plain (hsz:=BG) pH λh₅ qP fC=>OD (OD (qE (n+1-(i+1)) _ ⟨h₅,f9,_,_,i+1,rfl,?_,qP,(cD.keeps vg).sameBut fC (OS kO),λz hz=>?_,?_,cN,rfl,λb o jA n8 n9 e=>fC.extBut b o n9 (vg b o (lF b o jA n8 (hk b o jA n8 n9 e)))⟩ (by omega))))
  ·exact W.frame _ _ h₅ eQ λb hb o e=>fC.extBut b o (λh=>by rw[List.mem_singleton.mp hb] at h;exact uc h.symm) (vg b o e)
  ·rw[if_neg hz];exact iI z hz
  ·rw[Array.toList_push,List.range_succ,List.map_append,<-List.append_assoc]
   exact IntsAre.append hF (.cons _ t' .nil)
 ·have e:i=n:=by omega
  rw[e] at gC hF;refine W.done _ _ _ gC λh₁ bg el=>OD (yM _ _ ?_);have eh:∀b o,b≠I->H.get? b=some o->h₁.get? b=some o:=λb o hb e=>el b o (by simpa using hb) e;exact hR h₁ bg m' ys (fe.at' λo e=>eh _ o ud e) (iA.at λo e=>eh _ o uc e) hF λb o jA n8 n9 e=>eh b o n8 (hk b o jA n8 n9 e)
noncomputable def dN(n:Nat)(g:Nat->Nat->Int):List Int:=(List.range n).flatMap λi=>(List.range i).map (g i)
theorem iB(n:Nat)(g:Nat->Nat->Int):dN (n+1) g=dN n g++(List.range n).map (g n):=by unfold dN;rw[List.range_succ,List.flatMap_append];simp
theorem nk(g:Nat->Nat->Int):∀n,(dN n g).length<=n*n
 |0=>by simp[dN]
 |n+1=>by
  rw[iB,List.length_append,List.length_map,List.length_range];have:=nk g n;have e:(n+1)*(n+1)=n*n+2*n+1:=by rw[Nat.add_mul,Nat.mul_add];omega
  omega
def lG(n:Nat)(v:Value)(h:Heap):Prop:=∃r t u s,v = .ref r/\IsRange h r 0 n 1 t u s
theorem lG.av:cU (lG n):=λv h h' k bV=>by refine gQ bV λr t u s e hr=>⟨r,t,u,s,e,k _ _ hr⟩
theorem kQ(h:n<=100):Builtin.Range.small 0 n 1=true:=by unfold Builtin.Range.small Builtin.Range.rangeFitsLong Builtin.Range.rangeSize;simp;omega
theorem nq(n:Nat):Builtin.Range.rangeSize 0 n 1=n:=by unfold Builtin.Range.rangeSize;simp;omega
theorem nr{n:Int}:Cl w A h (.type "range") [.int n t] [] (λv h'=>∃r t u s,v = .ref r/\IsRange h' r 0 n 1 t u s):=λs Q E hs hq=>
 call_range_1 (hq _ _ _ (λb o e=>K' _ e) ⟨_,_,_,_,rfl,OC _ rfl⟩)
theorem ue{i1:Expr}{x0 x1:Str}{p0:Pos}{I D:Addr}(g:Nat->Nat->Int)(hh:A.handled=none)(hx0:cenv.kindOf x0=some .local)(hx:cenv.kindOf x1=some .local)(wg:x0≠x1)(hp:(cenv.scope.kind == .class||(cenv.scope.kind == .module&&cenv.locals !=cenv.globals))=false)(kO:D≠cenv.locals)(uc:D≠I)(ud:cenv.locals≠I)(dI:IsRangeIter s.heap I 0 n 1)(gY:s.heap.PlainList D #[])(hn:s.heap.Ns cenv.locals m)(hn100:n<=100)(mC:(∀o,h.get? cenv.locals≠some o)/\∀o,h.get? D≠some o)(pf:∀h':Heap,(∀b o,b≠cenv.locals->b≠I->b≠D->s.heap.get? b=some o->h'.get? b=some o)->h.StaysIn h')(J0:∀x,foldedSetIterable i1 cenv x=pure x)(hit:∀i PR t h',i<n->h.StaysIn h'->h'.Ns cenv.locals PR->PR x0=some (.int (i:Nat) t)->Ev w A h' cenv i1 (lG i))(dm:∀i j PR t u h',j<i->i<n->h.StaysIn h'->h'.Ns cenv.locals PR->PR x0=some (.int (i:Nat) t)->PR x1=some (.int (j:Nat) u)->eI w A h' cenv elt (g i j))(hR:∀h' tk m' ys,h'.Ns cenv.locals m'->h'.PlainList D ys->IntsAre ys.toList (dN n g)->
   (∀b o,b≠cenv.locals->b≠I->b≠D->s.heap.get? b=some o->h'.get? b=some o)->R (.ok .next) (bp s h' tk)):
  codeAny (model pw w) A (.compLoop (.ListComp elt [⟨.Name x0 p0,i0,[],0⟩,⟨.Name x1 p1,i1,[],0⟩] scope pos) 0 (.ref I) (.ref D) cenv) R s:=by
 have W:=PyProof.Rows.LCg.range_walks (prog:=pw) (w:=w) (A:=A) (I:=I) hh 0 n;refine vf rfl
  (λk s'=>∃h' tk m' ys,∃i:Nat,s'=(bp s h' tk)/\IsRangeIter h' I (0+(i:Nat)*1) ((n:Int)-(i:Nat)) 1/\h'.PlainList D ys/\h'.Ns cenv.locals m'/\
   IntsAre ys.toList (dN i g)/\i<=n/\k=n+1-i/\
   (∀b o,b≠cenv.locals->b≠I->b≠D->s.heap.get? b=some o->h'.get? b=some o)) (λB En k s' qE yM hI=>?_) (n+1)
  ⟨s.heap,s.toks,m,#[],0,rfl,by simpa using dI,gY,hn,by simpa [dN] using IntsAre.nil,Nat.zero_le _,rfl,λ_ _ _ _ _ e=>e⟩
 refine qK hI λH tk m' ys i j3=>qL j3 λj4 gC iA fe hF hi j5 hk=>?_;clear hI j3;subst j4;subst j5;show wpAny _ A ((compTurn (.ListComp elt [⟨.Name x0 p0,i0,[],0⟩,⟨.Name x1 p1,i1,[],0⟩] scope pos) 0 (.ref I) (.ref D) cenv).onRaise (λx=>do noteFrame x cenv;theTreesLotGoes x)) B En _;refine wpAny_noted ?_;rw[qq];refine J' (wpAny_standAt (J' ?_));by_cases cN:i<n
 ·refine W.item i _ _ _ cN gC λv h₁ bg xe gH el=>?_
  refine aR xe λt j2=>?_;clear xe;subst j2;have eh:∀b o,b≠I->H.get? b=some o->h₁.get? b=some o:=λb o hb e=>el b o (by simpa using hb) e;refine J' (wpAny_of_eq (by rfl:letOwnedTupleGo (.Name x0 p0) (.ref I) _=pure ()) (J' ?_));refine wpAny_assign_Name (OR hx0 (fe.at' λo e=>eh _ o ud e) (λh₂ cD aJ=>?_) hp);have lF:∀b o,b≠cenv.locals->b≠I->H.get? b=some o->h₂.get? b=some o:=λb o jA n8 e=>aJ.extBut b o jA (eh b o n8 e);have eQ:IsRangeIter h₂ I (0+((i+1:Nat):Nat)*1) ((n:Int)-((i+1:Nat):Nat)) 1:=W.frame _ _ _ gH λb hb o e=>aJ.extBut b o (λh=>by rw[List.mem_singleton.mp hb] at h;exact ud h.symm) e;have uf:∀b o,b≠cenv.locals->b≠I->b≠D->s.heap.get? b=some o->h₂.get? b=some o:=λb o jA n8 n9 e=>lF b o jA n8 (hk b o jA n8 n9 e);have hmi:(λz=>if z=x0 then some (Value.int (0+(i:Nat)) t) else m' z) x0=some (.int (i:Nat) t):=by simp
  refine J' (hit i _ t h₂ cN (pf _ uf) cD hmi _ _ _ (ak _) λv h₃ cW PS hv=>?_);refine gQ hv λr a b c j1 hr=>?_;clear hv;subst j1;refine J' (wpAny_standAt (J' (wpAny_of_eq (J0 _) (J' (Ol (wpAny_pyIter_range hr (kQ (by omega)) ?_))))));rw[nq];dsimp only;generalize hH4:h₃.push {cls:=.type "range_iterator",data:=.fields #[rawInt 0,rawInt (i:Nat),rawInt 1]}=h₄;have new:∀b o,h₃.get? b=some o->b≠h₃.objs.size:=λb o e=>OI (ON e);have gT:∀b o,h₃.get? b=some o->h₄.get? b=some o:=λb o e=>hH4▸K' _ e;have CA:IsRangeIter h₄ h₃.objs.size 0 (i:Nat) 1:=hH4▸OC _ rfl;have y8:h₃.PlainList D ys:=iA.at λo e=>PS _ _ (lF D o kO uc e);have xQ:=cD.keeps PS;have DI':D≠h₃.objs.size:=(by refine aR y8 λ_ e=>new _ _ e);have CI':cenv.locals≠h₃.objs.size:=(by refine aV xQ λ_ _ _ e _=>new _ _ e);have mX:IsRangeIter h₃ I (0+((i+1:Nat):Nat)*1) ((n:Int)-((i+1:Nat):Nat)) 1:=PS _ _ eQ;have II':I≠h₃.objs.size:=new _ _ mX;have vh:h.StaysIn h₃:=pf _ λb o jA n8 n9 e=>PS _ _ (uf b o jA n8 n9 e);refine J' (wpAny_runOwn ?_);show codeAny _ A _ _ _;refine iz ?loop (wpAny_pyIter_rangeiter CA ?loop)
  ·refine ub (m:=λz=>if z=x0 then some (Value.int (0+(i:Nat)) t) else m' z) (ys0:=ys) (ns0:=dN i g) (g i) hh hx hp kO DI' CI' CA (y8.at λo e=>gT _ _ e) hF (xQ.keeps gT) (λj bN PR u E' hj pg CB vj=>?_) (λh' gv Nb J1 pg qP J2 vj=>?_) ?_
   ·refine dm i j PR t u bN.heap hj cN (λb o e=>?_) pg (by rw[CB,if_neg wg];exact hmi) (by rw[CB,if_pos rfl]) _ _ _ (ak _) λv h' tk k hv=>⟨hv,h',tk,rfl,k⟩
    refine vj b o (λz=>?_) (λz=>?_) (λz=>?_) (gT _ _ (vh b o e))
    ·exact absurd e (by rw[z];exact mC.1 o)
    ·exact new _ _ (vh b o e) z
    ·exact absurd e (by rw[z];exact mC.2 o)
   ·refine OD (qE (n+1-(i+1)) _ ⟨h',gv,Nb,J1,i+1,rfl,?_,qP,pg,by rw[iB];exact J2,cN,rfl,λb o jA n8 n9 e=>?_⟩ (by omega))
    ·exact vj _ _ (OS ud) II' (OS uc) (gT _ _ mX)
    ·have:=PS _ _ (uf b o jA n8 n9 e)
     exact vj b o jA (new _ _ this) n9 (gT _ _ this)
   ·have:=nk g i
    have h2:i*i<=100*100:=Nat.mul_le_mul (by omega) (by omega);rw[sizeLine_eq];omega
 ·have e:i=n:=by omega
  rw[e] at gC hF;refine W.done _ _ _ gC λh₁ bg el=>OD (yM _ _ ?_);have eh:∀b o,b≠I->H.get? b=some o->h₁.get? b=some o:=λb o hb e=>el b o (by simpa using hb) e;exact hR h₁ bg m' ys (fe.at' λo e=>eh _ o ud e) (iA.at λo e=>eh _ o uc e) hF λb o jA n8 n9 e=>eh b o n8 (hk b o jA n8 n9 e)
theorem Ev.J3{i1:Expr}{x0 x1:Str}{p0:Pos}{cl:List (Str×Addr)}(g:Nat->Nat->Int)(cP:closureFor scope env=pure cl)(aQ:∀y∈scope.names,y.2≠.cell)(bK:scope.kind = .function)(cV:∀y∈scope.names,y.2 = .local->scope.names.lookup y.1=some .local)(hx0:scope.names.lookup x0=some .local)(hx1:scope.names.lookup x1=some .local)(wg:x0≠x1)(hh:A.handled=none)(hn:n<=100)(h0:Ev w A h env i0 (lG n))(hit:∀i C PR t h',i<n->h.StaysIn h'->h'.Ns C PR->PR x0=some (.int (i:Nat) t)->Ev w A h' (compEnvC scope cl C env) i1 (lG i))(dm:∀i j C PR t u h',j<i->i<n->h.StaysIn h'->h'.Ns C PR->PR x0=some (.int (i:Nat) t)->PR x1=some (.int (j:Nat) u)->eI w A h' (compEnvC scope cl C env) elt (g i j))(hs:∀x,foldedSetIterable i0 env x=pure x:=by intro _;rfl)(hs1:∀env x,foldedSetIterable i1 env x=pure x:=by intro _ _;rfl):
  Ev w A h env (.ListComp elt [⟨.Name x0 p0,i0,[],0⟩,⟨.Name x1 p1,i1,[],0⟩] scope pos) (LI (dN n g)):=λs Q E dI hq=>by
 rw[eval_ListComp];refine wpAny_comprehension_free (use:=none) rfl hs cP bK cV (h0 s _ _ dI λv h₁ bg PO PV=>?_);refine gQ PV λr a b c j1 hr=>?_;clear PV;subst j1;refine wpAny_pyIter_range hr (kQ hn) ?_;rw[nq];dsimp only;generalize hH2:h₁.push {cls:=.type "range_iterator",data:=.fields #[rawInt 0,rawInt (n:Nat),rawInt 1]}=h₂;have lF:∀b o,h₁.get? b=some o->h₂.get? b=some o:=λb o e=>hH2▸K' _ e;have Pn:IsRangeIter h₂ h₁.objs.size 0 (n:Nat) 1:=hH2▸OC _ rfl;refine O5 (wpAny_newFunctionEnv aQ (by intro y hy;simp at hy) (λh₃ jx fZ=>?_) bK);dsimp only at jx fZ ⊢;generalize hH3:h₂.push {cls:=.type "list",dict:=none,data:=.seq ([]:List Value).toArray}=H3 at jx fZ ⊢;have Bj:h₂.objs.size=h₁.objs.size+1:=by rw[<-hH2,Heap.size_push]
 have hC:H3.objs.size=h₂.objs.size+1:=by rw[<-hH3,Heap.size_push]
 have kO:h₂.objs.size≠H3.objs.size:=by rw[hC];exact OI (OY _)
 have uc:h₂.objs.size≠h₁.objs.size:=by rw[Bj];exact Oy (OY _)
 have ud:H3.objs.size≠h₁.objs.size:=by rw[hC,Bj];exact Oy (by omega)
 have old:∀b o,h₁.get? b=some o->b≠H3.objs.size/\b≠h₁.objs.size/\b≠h₂.objs.size/\h₃.get? b=some o:=λb o e=>by
  have hb:=ON e;have h1:b≠H3.objs.size:=by rw[hC,Bj];exact OI (Ox (Ox hb))
  refine⟨h1,OI hb,by rw[Bj];exact OI (Ox hb),fZ.extBut b o h1 (K' _ (hH3▸K' _ (lF _ _ e)))⟩
 have CC:IsRangeIter h₃ h₁.objs.size 0 (n:Nat) 1:=fZ.extBut _ _ (OS ud) (K' _ (hH3▸K' _ Pn));have gY:h₃.PlainList h₂.objs.size #[]:=⟨_,fZ.extBut _ _ kO (K' _ (hH3▸OC _ rfl))⟩;have k01:h.StaysIn h₁:=ai dI PO;refine codeAny_compStart_list ?loop (wpAny_pyIter_rangeiter CC ?loop);refine ue (cenv:=compEnvC scope cl H3.objs.size env) (h:=h) g hh (lookup_relabel_local hx0) (lookup_relabel_local hx1) wg (by simp[compEnvC,relabel,bK]) kO uc ud CC gY jx hn
  ⟨λo e=>(old _ _ (k01 _ _ e)).1 rfl,λo e=>(old _ _ (k01 _ _ e)).2.2.1 rfl⟩
  (λh' k b o e=>let z:=old b o (k01 _ _ e);k b o z.1 z.2.1 z.2.2.1 z.2.2.2)
  (hs1 _) (λi PR t h' hi k hn hm=>hit i _ PR t h' hi k hn hm) (λi j PR t u h' hj hi k hn hm iI=>dm i j _ PR t u h' hj hi k hn hm iI) λh' tk m' ys fe hl hi k=>?_
 refine⟨m',fe,λf5 mj=>?_⟩;have Fe:=hl.extBut mj.extBut kO;refine hq (.ref h₂.objs.size) f5 tk (λb o e=>?_) ⟨h₂.objs.size,ys.toList,rfl,by simpa using Fe.isList,hi⟩;have z:=old b o (PO _ _ e);exact mj.extBut b o z.1 (k b o z.1 z.2.1 z.2.2.1 z.2.2.2)
theorem nA:bootBuiltins (Str.ofString "range")=some (.type "range"):=by decide+kernel
theorem kR:bootBuiltins (Str.ofString "sum")=some (.builtin "sum"):=by decide+kernel
noncomputable abbrev pairs(xs ys:List Int):Int:=(dN xs.length λi j=>(aO xs i-aO xs j)*(aO ys i-aO ys j)).sum
section
variable{u:Value}
theorem iC(G:Gl w h)(lx:LI xs v h)(ly:LI ys u h)(hl:ys.length=xs.length)(hn:xs.length<=64)(hh:A.handled=none)(hd:A.depth+4<=400)(hb:∀i j,j<i->i<xs.length->IntMulOk (aO xs i-aO xs j) (aO ys i-aO ys j)):Cl w A h (.ref 431) [v,u] [] (iO (pairs xs ys)):=by
 have uO:400<recursionLimit:=by decide
 refine Cl.def (binds:=[(sn "a",v),(sn "b",u)]) G (by k_is) rfl (by k_is) (by omega) (λs _=>.of_eq rfl) rfl (by decide) (λL g hg hL hc=>?_);have Gg:=G.mono hg;have lK:=LI.av _ _ _ hg lx;have l0:=LI.av _ _ _ hg ly;have ca:=hc (sn "a") (L+1) v (by simp[cellsFrom]) rfl;have cb:=hc (sn "b") (L+2) u (by simp[cellsFrom]) rfl;refine Bd.ret (P:=iO (pairs xs ys)) (λh F=>?_) (λv h' _ p=>p);have Gh:=Gg.mono F.keep;have lxh:=LI.av _ _ _ F.keep lK;have lyh:=LI.av _ _ _ F.keep l0;have FY:=aq F.keep ca;have cbh:=aq F.keep cb;have Es:∀{ns:List Int}{i:Nat},i<ns.length->ns[((i:Nat):Int).toNat]?=some (aO ns i):=λ{ns i} hi=>by rw[Int.toNat_natCast,List.getElem?_eq_getElem hi];simp[aO,hi]
 refine Ev.bz (P₁:=LI (dN xs.length λi j=>(aO xs i-aO xs j)*(aO ys i-aO ys j))) (Ev.aE Gh (by k_is) kR) Kp.builtin
  (Ev.J3 (n:=xs.length) (cl:=[(sn "b",L+2),(sn "a",L+1)]) (λi j=>(aO xs i-aO xs j)*(aO ys i-aO ys j)) (by rfl) (by decide) (by rfl) (by decide) (by rfl) (by rfl) (by decide) hh (by omega) ?_ ?_ ?_) LI.av (λv h1 k1 q=>km hh q)
 ·exact Ev.bz (P₁:=iO xs.length) (Ev.aE Gh (by k_is) nA) Kp.type
   (Ev.bz (P₁:=LI xs) (Ev.aE Gh (by k_is) cR) Kp.builtin
    (Ev.mono (Ev.bj (c:=L+1) FY) (λv h1 k1 e=>e▸LI.av _ _ _ k1 lxh)) LI.av (λv h1 k1 q=>dC q (by omega))) aA
   (λv h1 k1 bV=>by refine aR bV λt e=>by subst e;exact nr)
 ·intro i C PR t h' hi k hn hm
  exact Ev.bz (P₁:=iO i) (Ev.aE (Gh.mono k) (by k_is) nA) Kp.type
   (Ev.cS (Ev.ao hn hm)) aA (λv h1 k1 bV=>by refine aR bV λt e=>by subst e;exact nr)
 ·intro i j C PR t t' h' hj hi k hn hm iI
  have hjx:j<xs.length:=Om hj hi;refine Ev.mul (Ev.sub (Ev.item (ns:=xs) (k:=i) ?_ (Ev.cS (Ev.ao hn hm)) (by omega) (by omega) (Es hi)) (Ev.item (ns:=xs) (k:=j) ?_ (Ev.cS (Ev.ao hn iI)) (by omega) (by omega) (Es hjx)))
   (Ev.sub (Ev.item (ns:=ys) (k:=i) ?_ (Ev.cS (Ev.ao hn hm)) (by omega) (by omega) (Es (by omega))) (Ev.item (ns:=ys) (k:=j) ?_ (Ev.cS (Ev.ao hn iI)) (by omega) (by omega) (Es (by omega)))) (hb i j hj hi)
  ·exact Ev.mono (Ev.bj (v:=v) (c:=L+1) (aq k FY)) (λv h1 k1 e=>e▸LI.av _ _ _ (ai k k1) lxh)
  ·exact Ev.mono (Ev.bj (v:=v) (c:=L+1) (aq k FY)) (λv h1 k1 e=>e▸LI.av _ _ _ (ai k k1) lxh)
  ·exact Ev.mono (Ev.bj (v:=u) (c:=L+2) (aq k cbh)) (λv h1 k1 e=>e▸LI.av _ _ _ (ai k k1) lyh)
  ·exact Ev.mono (Ev.bj (v:=u) (c:=L+2) (aq k cbh)) (λv h1 k1 e=>e▸LI.av _ _ _ (ai k k1) lyh)
end
def jf(qual:Str)(params:Arguments)(body:Expr)(scope:Scope)(cl:List (Str×Addr))(v:Value)(h:Heap):Prop:=
 ∃f cv qr pm,v = .ref f/\h.get? f=some {cls:=.type "function",data:=.func (kla_fn "<lambda>" qual params body scope cl pm cv qr)}/\h.CodeRec cv qual
section
variable{c P:Addr}{body:Expr}{cl:List (Str×Addr)}{R:Value->Heap->Prop}
theorem jf.av:cU (jf qual params body scope cl):=λv h h' k bV=>by refine nU bV λf cv qr pm j1=>du j1 λe o r=>⟨f,cv,qr,pm,e,k _ _ o,r.keeps k⟩
theorem jf.kp(H:jf qual params body scope cl v h):Kp w h v:=by refine nU H λf cv qr pm j1=>du j1 λj2 o _=>?_;clear H j1;subst j2;exact keeps_F _ ⟨_,_,_,_,o⟩
theorem aF.lam(G:Gl w h)(H9:env.globals=mainGlobals)(lp:env.code = .ref c)(C:CodeHd h c P)(hP:(P,env.qual++"<lambda>")∈TT)(cP:closureFor scope env=pure cl)(Ff:autoParam (defaultsOf params env=([],[])) cH):
  aF w A frs cs h env (.Lambda params body scope pos) (jf (env.qual++"<lambda>") params body scope cl) x:=λs hb Q E hs O hq he=>by
 have Gs:=G.mono (ai hs O.stays);have Cs:=C.keeps (ai hs O.stays);refine ez Gs.bmain λmg bm ob j6=>qL j6 λb1 b2 b3 b4 b5 b6 b7 b8=>?_;clear j6;refine bl (O.tabs _ hP) λps e t k=>?_;dsimp only at e k;have hPb:hb.get? P=none:=O.dT P (OE (f:=(·.1)) hP);have hgP:mainGlobals≠P:=λq=>by refine bf b1 λo es ep e' hd _=>?_;clear b1;rw[q,e] at e';cases e';cases hd
 have hbP:bm≠P:=λq=>by rw[q,e] at b5;cases b5;cases b6
 refine kla_eval Ff ?_;have fin:∀(cv qr:Value)(h':Heap)(tk:Tok),Heap.ExtBut P s.heap h'->cJ h'->h'.CodeRec cv (env.qual++"<lambda>")->
   Q (.ref h'.objs.size) (bp s (h'.push {cls:=.type "function",data:=.func (kla_fn "<lambda>" (env.qual++"<lambda>") params body scope cl ((mg "__name__").getD .none) cv qr)}) tk):=λcv qr h' tk hx T hc=>by
  generalize hH:h'.push {cls:=.type "function",data:=.func (kla_fn "<lambda>" (env.qual++"<lambda>") params body scope cl ((mg "__name__").getD .none) cv qr)}=H;have up:h'.StaysIn H:=λb o e=>hH▸K' _ e;have TH:=T.keeps up;have bP:eB [] (aS frs) s.heap H:=⟨λb o _ _ ht e=>up _ _ (hx b o (λz=>ht (z▸OE (f:=(·.1)) hP)) e),λb o _ _ ht e=>⟨o.slots,up _ _ (hx b o (λz=>ht (z▸OE (f:=(·.1)) hP)) e)⟩,
   λb o ht e=>(by refine aR (TH.tab ht) λps e'=>⟨_,e'⟩)⟩
  have O':=O.jb bP TH;have xH:=hc.keeps up;refine hq _ (bp s H tk) _ O'.wide O'.top ⟨bP,λh=>h,rfl,rfl⟩ ⟨h'.objs.size,cv,qr,_,rfl,OO _ (hH▸OC _ rfl) λhm=>?_,?_⟩
  ·have ef:H.get? h'.objs.size=some _:=hH▸OC _ rfl
   rcases O'.fv hm with j2|j3|j4<;>(first|(refine nU j2 λn o' es ep j5=>du j5 λet eK _=>?_;clear j2 j5)| (refine ar j3 λo' et eK=>?_;clear j3)| (refine aR j4 λps et=>?_;clear j4))
   ·rw[ef] at et;cases et;cases eK
   ·rw[ef] at et;cases et;cases eK
   ·rw[ef] at et;cases et
  ·refine hO xH λc1 oc vs t1 r1 r2 r3 r4=>?_;clear xH
   refine⟨c1,oc,vs,t1,r1,OO _ r2 λhm=>?_,r3,r4⟩;rcases OG hm with hm|hm
   ·rcases OG hm with hm|hm
    ·refine ar (OF hm) λp hp z=>?_
     refine bf ((O'.frames p hp).2.2.2) λo' es ep et eK _=>?_;rw[z,r2] at et;cases et;rw[r3] at eK;cases eK
    ·refine ar ((O'.cells _ hm).2) λo' et eK=>?_
     rw[r2] at et;cases et;rw[r3] at eK;cases eK
   ·refine ar (OF hm) λq hq' z=>?_
    refine bl (TH q hq') λxm e' t' _=>?_;rw[z,r2] at e';cases e';cases r3;exact jd t' r4
 cases f:codeAmong pos ps.toList with
 |some cv=>exact kla_makeFunctionHit (mg:=mg) cP H9 b1 lp Cs e t f ⟨bm,ob,b2,b3,b4,hbP,b5,b6,b7,b8⟩ λqr h' tk hk hsz=>fin cv qr h' tk (λb o _ e=>hk b o e) (O.tabs.keeps hk) ((k pos cv f).keeps hk)
 |none=>exact kla_makeFunction (mg:=mg) cP H9 b1 lp Cs e t f hgP ⟨bm,ob,b2,b3,b4,hbP,b5,b6,b7,b8⟩ λc' qr h' tk hx H9 cN Ad htb=>fin (.ref c') qr h' tk hx (O.tabs.grow hP e hx htb Ad) Ad
theorem df.lam(G:Gl w h)(hA:A.frames=some (frs.map (·.1)))(H:jf qual params body scope cl v h)(eH:A.depth<recursionLimit)(f7:∀pm cv qr,bindArgs (kla_fn "<lambda>" qual params body scope cl pm cv qr) ⟨[],[]⟩=pure [])(hB:∀L f cv g,h.StaysIn g->aF w (A.deeper (envX qual scope L f cv cl)) ((envX qual scope L f cv cl,λ_=>none)::frs) cs g (envX qual scope L f cv cl) body R x)(aQ:∀x∈scope.names,x.2≠.cell)(qD:autoParam (scope.isCoroutine=false) cH)(iW:autoParam (scope.isGenerator=false) cH)(hk:autoParam (scope.kind = .function) cH):
  df w A frs cs h v [] [] R x:=λs hb Q E hs O hq he=>by
 have Gs:=G.mono (ai hs O.stays);refine nU (jf.av _ _ _ (ai hs O.stays) H) λf cv qr pm j3=>du j3 λj4 ho qC=>?_;clear j3;subst j4;refine wpAny_call (kla_callFunE eH ho rfl qD iW rfl qC ?_);rw[f7];refine OD (wpAny_newFunctionEnv aQ (by simp) (λh₁ sM wY=>⟨Gs.nolimit.fresh _ wY,?_⟩) hk);have keep:∀b o,s.heap.get? b=some o->h₁.get? b=some o:=λb o e=>wY.extBut b o (OI (ON e)) (K' _ e);have hL:s.heap.get? s.heap.objs.size=none:=OL (OM _);show codeAny _ _ (.expr body (envX qual scope s.heap.objs.size f cv cl)) _ _;generalize hLL:s.heap.objs.size=L at *;have hB:=hB L f cv hb hs;have rf:∀b o,s.heap.get? b=some o->b≠L:=λb o e z=>by rw[z,hL] at e;cases e
 have aM:On ((envX qual scope L f cv cl,λ_=>none)::frs) cs hb h₁:=by
  have new:∀b,s.heap.get? b=none->hb.get? b=none:=λb e=>by
   cases q:hb.get? b with
   |none=>rfl
   |some o=>rw[O.stays b o q] at e;cases e
  refine⟨ai O.stays keep,λp hp=>?_,λc hc=>⟨(O.cells c hc).1,aq keep (O.cells c hc).2⟩,O.tabs.keeps keep,O.dT⟩;rcases OA hp with j2|hp<;>(first|(replace j2:=OK j2;subst j2)|skip)
  ·exact⟨by show scope.kind≠_;rw[hk];decide,rfl,new _ hL,sM⟩
  ·refine eP (O.frames p hp) λa b c d=>?_
   exact⟨a,b,c,d.keeps keep⟩
 have J4:∀b o,s.heap.get? b=some o->b∉aS frs->b∉aS ((envX qual scope L f cv cl,λ_=>none)::frs):=λb o e hb hm=>by
  rcases OA hm with z|hm
  ·exact rf b o e z
  ·exact hb hm
 have qX:∀tk s',Go [] (aS ((envX qual scope L f cv cl,λ_=>none)::frs)) (bp s h₁ tk) s'->Go [] (aS frs) s s':=λtk s' g=>
  ⟨⟨λb o _ hb ht e=>g.bP.off b o (by simp) (J4 b o e hb) ht (keep b o e),λb o _ hb ht e=>g.bP.on b o (by simp) (.tail _ hb) ht (keep b o e),λb o ht e=>g.bP.tb b o ht (keep b o e)⟩,g.gens,g.drawn,g.os⟩
 refine kla_codeExpr (hB (bp s h₁ (s.toks+([]:List (Str×Value)).length)) hb _ _ (ak _) aM (λv s' g' k O' go r=>?_) (λws a s' hx go X=>?_))
 ·exact hq v s' g' k (O'.sub (λp hp=>.tail _ hp) (λc hc=>hc)) (qX _ s' go) r
 ·have go':=qX _ s' go
  have O':On frs cs hb s'.heap:=O.jb go'.bP X.2.1;have hn:s'.heap.Ns L (λ_=>none):=go.bP.ns (aM.tabs.ns (aM.frames _ (.head _)).2.2.2) (aM.frames _ (.head _)).2.2.2;refine ll (h₀:=s.heap) (frs:=frs) (m:=λ_=>none) (a:=a) (ws:=ws) (by show A.frames.map _=_;rw[hA];rfl) (λp hp=>?_) (X.weak.back λb o e=>⟨o,keep b o e⟩) go'.bP.cE (λf5 X' iX=>?_)
  ·rcases OA hp with j1|hp<;>(first|(replace j1:=OK j1;subst j1)|skip)
   ·exact⟨by show scope.kind≠_;rw[hk];decide,rfl,hn⟩
   ·refine eP (O'.frames p hp) λa b c d=>?_
    exact⟨a,b,d⟩
  ·refine he ws a _ hx ⟨⟨λb o _ hb ht e=>?_,λb o _ hb ht e=>?_,λb o ht e=>(by refine aR (X'.2.1.tab ht) λps e'=>⟨_,e'⟩)⟩,go'.gens,go'.drawn,go'.os⟩ X'
   ·exact (iX b o o e (go'.bP.off b o (by simp) hb ht e)).1 (J4 b o e hb)
   ·refine aR (go'.bP.on b o (by simp) hb ht e) λsl wX=>?_
    refine aR ((iX b _ o e wX).2 (.tail _ hb)) λBM h2=>?_;exact⟨BM,h2⟩
end
def L2F(a b:Value):Value->Heap->Prop:=λv h=>∃l o n,v = .ref l/\h.get? l=some o/\o.cls = .type "list"/\o.data = .seq #[a,b] n
theorem y9(a:Value)(h:∀h' L,(∀b o',s.heap.get? b=some o'->h'.get? b=some o')->s.heap.objs.size<=L->h'.get? L=some {cls:=.type "list",data:=.seq #[] 0}->R (.ok (.ret (.ref L))) (bp s h' s.toks)):
  codeAny (model prog w) A (.call (.builtin "list.__new__") ⟨[.type "list",a],[]⟩) R s:=
 gK (code_list_new a (Q₁:=λv s'=>R (.ok (.ret v)) s') (E:=λ_ _=>False) (h _ _ (λ_ _ e=>K' _ e) (OM _) (OC _ rfl))) λr s' x=>by
  cases r with
  |error e=>exact x.elim
  |ok f=>cases f<;>first|exact x|exact x.elim
theorem ug{r:Addr}(h:L≠r):Builtin.List.listSameRef (.ref L) (.ref r)=false:=beq_eq_false_iff_ne.mpr h
theorem Bk(L r:Addr):dn (.builtin "list.__init__" ⟨[.ref L,.ref r],[]⟩)=(do let old <-Builtin.List.listItems (.ref L);Builtin.List.listUpdate (.ref L) (λ_=>#[]);letGo old.toList.reverse;Builtin.List.listExtendWith (.ref L) (.ref r) .none):=tq _ F.entry_list_init
noncomputable def J5(L r:Addr):Sem Fin:=(λx (_:L≠r->dn (.builtin "list.__init__" ⟨[.ref L,.ref r],[]⟩)=x)=>x) _ (by
 intro h;conv=>
  lhs
  rw[Bk];unfold Builtin.List.listExtendWith;simp only[ug h,Bool.false_or])
theorem Bl{r:Addr}{d:Option Addr}{a b:UInt64}(KX:(K w.params).In s.heap)(h1:s.heap.get? r=some ⟨.ref 417,d,.seq #[.float a t,.float b u] n,sl⟩)(hq:∀v h' tk,s.heap.StaysIn h'->L2F (.float a t) (.float b u) v h'->Q v (bp s h' tk)):
  wpAny (model pw w) (A0 fr gd) (call (.type "list") [.ref r] []) Q E s:=by
 refine aR (qG w) λz hz=>?_;cases z<;>
 ·refine bH [⟨.ref 417,d,.seq #[.float a t,.float b u] n,sl⟩] 63 ?_
  refine aX hz 1 0 (ir KX [r] _ ⟨h1,trivial⟩) rfl rfl (b0 ?_);intro Z;refine⟨by kernel_rfl,λh' I=>?_⟩;refine uL (c:=.call (.builtin "list.__new__") ⟨[.type "list",.ref r],[]⟩) (hd:=none) (by kernel_rfl) (λq=>by cases q) (y9 _ λh2 L k hL eL=>?_);refine aX hz (C:=Cf.re _ _ _ (_++[_]) 8322) 4 0 (I.more (by kernel_rfl) k hL eL) (by kernel_rfl) rfl (b0 ?_);intro Z;refine⟨by kernel_rfl,λh' I=>?_⟩;refine yd (c:=.builtin "list.__init__" ⟨[.ref L,.ref r],[]⟩) 3107594005904277763484319371471703392958587886744354864346525239285999313130148130632172736668324950088627796844674 (by kernel_rfl) (by kernel_rfl) (J5._proof_1 L r (Oy (I.lt 0 1 rfl rfl (by kernel_rfl) rfl rfl))) ?_;refine aX hz 96 3 I (by kernel_rfl) rfl λe f g=>b0 ?_;intro Z;refine⟨by kernel_rfl,λh' I=>?_⟩;refine dM (v:=.ref L) (by kernel_rfl) (by kernel_rfl) ?_;exact hq _ _ _ I.stays ⟨L,_,4,rfl,I.at_ 1 L {cls:=.type "list",data:=.seq #[.float a t,.float b u] 4} rfl (by kernel_rfl),rfl,rfl⟩
theorem Fg{a b:UInt64}(G:Gl w h)(H:uM (.float a t) (.float b u) v h)(hh:A.handled=none)(hd:A.depth<=400)(hu:A.units<=1000):
  Cl w A h (.type "list") [v] [] (λl h'=>∃d,l = .ref d/\h'.IsList d (List.toArray [.float a t,.float b u])):=λs Q E hs hq=>by
 have KX:=(G.mono hs).K;refine dj H λr j1 n j2 e hc hda=>?_;clear H;subst j2;rcases j1 with⟨oc,od,Oa,osl⟩;dsimp only at hc hda;subst hc;subst hda;rcases A with⟨ah,ad,af,ag,au⟩;dsimp only at hh hd hu;subst hh;exact d9 hd hu (Bl KX (hs _ _ e) λv h' tk k bV=>by refine dj bV λl o n e1 e2 e3 e4=>hq v h' tk k ⟨l,e1,o,e2,e3,n,e4⟩)
theorem uh{x:UInt64}(hx:ux x):Float64.isInf x=false:=by refine ez hx λa m e h=>?_;clear hx;unfold Float64.isInf;rw[h]
theorem nE:bootBuiltins (Str.ofString "list")=some (.type "list"):=by decide+kernel
section
variable{l:Expr}{ws:List Value}{a b:Addr}
theorem iD:cT (λ(v:Value) h=>∃d,v = .ref d/\h.IsList d vs.toArray):=λv h l hl bV=>by refine ar bV λd e il=>⟨d,e,cK hl il⟩
theorem sd:cU (λ(v:Value) h=>∃d,v = .ref d/\h.IsList d vs.toArray):=λv h h' k bV=>by refine ar bV λd e il=>⟨d,e,isList_stays k il⟩
theorem J6(hl:h.IsList a vs.toArray)(hb:h.IsList b ws.toArray)(hz:vs.length+ws.length<=100):Gm w A frs cs h (binaryOp .Add (.ref a) (.ref b)) (λv h'=>∃d,v = .ref d/\h'.IsList d (vs++ws).toArray) x:=
 Gm.of (λh' k N s Q E hs hq=>by
  refine bl (isList_stays (ai k hs) hl) λj3 ho hc j4=>aR j4 λn hd=>?_;clear j4;rcases j3 with⟨cls,dd,data,sl⟩;refine bl (isList_stays (ai k hs) hb) λj1 ho2 hc2 j2=>aR j2 λn2 hd2=>?_;clear j2;rcases j1 with⟨Ob,dd2,data2,sl2⟩;simp only at hc hd hc2 hd2;subst hc hd hc2 hd2;have e:vs.toArray++ws.toArray=(vs++ws).toArray:=by simp
  refine concat_meets ⟨_,ho,rfl⟩ ⟨_,ho2,rfl⟩ noFill_list_add seq_list_add PySem.F.slot_list_add PySem.F.entry_list_add (PySem.F.args_list_add_2 _ _) (list_addW a b vs.toArray ws.toArray n n2 dd dd2 sl sl2 (by rw[sizeLine_eq];simp;omega)) ⟨ho,ho2,?_⟩;rw[e];exact hq _ _ _ (λb o e=>K' _ e) ⟨_,rfl,_,OC _ rfl,rfl,_,rfl⟩) iD
abbrev sf(p q:Int):Value->Heap->Prop:=λv _=>∃t,v = .float (jy p q) t/\t≠0
theorem fU.jy{p q:Int}(Hl:aF w A frs cs h env l (iO p) x)(Hr:aF w A frs cs h env r (iO q) x)(hq0:0<q)(hp:p.natAbs<2^53):fU 1 w A frs cs h env (.BinOp l .Div r pos) (sf p q) x:=
 fU.bin Hl aA Hr λu v h1 k1 bV za=>by refine aR bV λt e=>?_;clear bV;refine aR za λt' e'=>?_;clear za;subst e;subst e';refine xB.of (λh' k N s Q E tz hs hq=>?_) aj;refine AutoIntOps.truediv_2 (by simp;omega) ?_ (hq _ s.heap _ (ak _) ⟨_,rfl,Oy tz⟩);show ¬Float64.isInf (Mine.jy p q)=true;rw[uh (lW (by omega) hp)];decide
end
section
variable{us ks:List Value}{u a b c d:Value}{A B:Value->Prop}{s:Str}
theorem ar2(p:∃v r,us=v::r/\v=a/\∃v',r=[v']/\v'=b):us=[a,b]:=by refine aG p λv r j1 j2 j3=>ar j3 λv' j4 j5=>?_;clear p j3;subst j4;subst j5;subst j1;subst j2;rfl
theorem Fi(p:∃v r,us=v::r/\(v=a/\A v)/\∃v',r=[v']/\(v'=b/\B v')):us=[a,b]/\A a/\B b:=by refine aG p λv r j1 j2 j3=>ar j3 λv' j4 j5=>?_;clear p j3;subst j4;refine cA j5 λj6 y=>?_;clear j5;subst j6;subst j1;refine cA j2 λj7 x=>?_;clear j2;subst j7;exact⟨rfl,x,y⟩
theorem ar1(p:∃v,us=[v]/\v=a):us=[a]:=by refine ar p λv j1 j2=>?_;clear p;subst j1;subst j2;rfl
theorem Nc(p:∃v,us=[v]/\(v=a/\A v)):us=[a]/\A a:=by refine bl p λv j1 j2 x=>?_;clear p;subst j1;subst j2;exact⟨rfl,x⟩
theorem kw1(p:∃v r,ks=v::r/\v=c/\r=[]):ks=[c]:=by refine aG p λv r j1 j2 j3=>?_;clear p;subst j1;subst j2;subst j3;rfl
theorem kwP(p:∃v r,ks=v::r/\A v/\r=[]):∃v,ks=[v]/\A v:=by refine aG p λv r j1 x j2=>?_;clear p;subst j1;subst j2;exact⟨v,rfl,x⟩
theorem kwS(p:∃v r,ks=v::r/\(∃t,v = .str s t)/\r=[]):∃t,ks=[.str s t]:=by refine aG p λv r j1 j2 j3=>?_;clear p;subst j1;refine aR j2 λt j4=>?_;clear j2;subst j4;subst j3;exact⟨t,rfl⟩
theorem vl3(p:∃D vs,u = .ref D/\h.IsList D (List.toArray vs)/\∃v r,vs=v::r/\v=a/\∃v' r',r=v'::r'/\v'=b/\∃v3,r'=[v3]/\v3=c):∃D,u = .ref D/\h.IsList D (List.toArray [a,b,c]):=by refine aG p λD vs e il j1=>aG j1 λv r j2 j3 j4=>aG j4 λv' r' j5 j6 j7=>ar j7 λv3 j8 j9=>?_;clear p j1 j4 j7;subst j8;subst j9;subst j5;subst j6;subst j2;subst j3;exact⟨D,e,il⟩
theorem vl4{i j:Int}(p:∃D vs,u = .ref D/\h.IsList D (List.toArray vs)/\∃v r,vs=v::r/\v=a/\∃v' r',r=v'::r'/\(∃t,v' = .int i t)/\∃JY r'',r'=JY::r''/\JY=c/\∃v3,r''=[v3]/\∃t,v3 = .int j t):
  ∃D t t',u = .ref D/\h.IsList D (List.toArray [a,.int i t,c,.int j t']):=by
 refine aG p λD vs e il j1=>aG j1 λv r j2 j3 j4=>aG j4 λv' r' j5 j6 j7=>aG j7 λJY r'' j8 j9 eS=>ar eS λv3 ib eR=>?_;clear p j1 j4 j7 eS;subst ib;refine aR eR λt3 iY=>?_;clear eR;subst iY;subst j8;subst j9;subst j5;refine aR j6 λt jc=>?_;clear j6;subst jc;subst j2;subst j3;exact⟨D,t,t3,e,il⟩
theorem Nd{C1 C2 C3:UInt64->Prop}(p:∃D vs,u = .ref D/\h.IsList D (List.toArray vs)/\∃v1 r1,vs=v1::r1/\(∃z t,v1 = .float z t/\t≠0/\C1 z)/\∃v2 r2,r1=v2::r2/\(∃z t,v2 = .float z t/\t≠0/\C2 z)/\∃v3,r2=[v3]/\∃z t,v3 = .float z t/\t≠0/\C3 z):
  ∃D z1 t1 z2 t2 z3 t3,u = .ref D/\h.IsList D (List.toArray [.float z1 t1,.float z2 t2,.float z3 t3])/\t1≠0/\C1 z1/\t2≠0/\C2 z2/\t3≠0/\C3 z3:=by
 refine aG p λD vs e il j1=>aG j1 λv1 r1 j2 j3 j4=>aG j4 λv2 r2 j5 j6 j7=>ar j7 λv3 j8 j9=>?_;clear p j1 j4 j7;subst j8;refine aG j9 λz3 t3 eS n3 c3=>?_;clear j9;subst eS;subst j5;refine aG j6 λz2 t2 ib n2 c2=>?_;clear j6;subst ib;subst j2;refine aG j3 λz1 t1 eR n1 c1=>?_;clear j3;subst eR;exact⟨D,z1,t1,z2,t2,z3,t3,e,il,n1,c1,n2,c2,n3,c3⟩
theorem Nf{C:UInt64->Prop}(p:∃D vs,u = .ref D/\h.IsList D (List.toArray vs)/\∃v,vs=[v]/\∃z t,v = .float z t/\t≠0/\C z):∃D z t,u = .ref D/\h.IsList D (List.toArray [.float z t])/\t≠0/\C z:=by refine aG p λD vs e il j1=>ar j1 λv j2 j3=>aG j3 λz t j4 n c=>?_;clear p j1 j3;subst j4;subst j2;exact⟨D,z,t,e,il,n,c⟩
theorem vl1(p:∃D vs,u = .ref D/\h.IsList D (List.toArray vs)/\∃v,vs=[v]/\v=a):∃D,u = .ref D/\h.IsList D (List.toArray [a]):=by refine aG p λD vs e il j1=>ar j1 λv j2 j3=>?_;clear p j1;subst j2;subst j3;exact⟨D,e,il⟩
end
theorem gX(a b:List Int):(a++b).sum=a.sum+b.sum:=by
 induction a with
 |nil=>simp
 |cons x a ih=>simp[ih,Int.add_assoc]
theorem gO(f:Nat->Int):∀n,((List.range n).map f).sum=preSum f n
 |0=>rfl
 |n+1=>by rw[List.range_succ,List.map_append,gX,gO f n];show preSum f n+(f n+0)=preSum f n+f n;rw[Int.add_zero]
theorem ui(x y:Nat->Int)(a b:Int):∀n:Nat,preSum (λj=>(a-x j)*(b-y j)) n=n*(a*b)-a*preSum y n-b*preSum x n+preSum (λj=>x j*y j) n
 |0=>by simp[preSum]
 |n+1=>by
  have ih:=ui x y a b n;show preSum (λj=>(a-x j)*(b-y j)) n+(a-x n)*(b-y n)=_;rw[ih];show _=_-a*(preSum y n+y n)-b*(preSum x n+x n)+(preSum (λj=>x j*y j) n+x n*y n);have e1:(a-x n)*(b-y n)=a*b-a*y n-b*x n+x n*y n:=by rw[Int.sub_mul,Int.mul_sub,Int.mul_sub,Int.mul_comm (x n) b];omega
  rw[e1,Int.mul_add,Int.mul_add];have e2:(((n+1:Nat):Int))*(a*b)=n*(a*b)+a*b:=by push_cast;rw[Int.add_mul,Int.one_mul]
  rw[e2];omega
theorem pj(x y:Nat->Int):∀n:Nat,(dN n λi j=>(x i-x j)*(y i-y j)).sum=n*preSum (λj=>x j*y j) n-preSum x n*preSum y n
 |0=>by simp[preSum,dN]
 |n+1=>by
  rw[iB,gX,pj x y n,gO,ui];show _=_*(preSum (λj=>x j*y j) n+x n*y n)-(preSum x n+x n)*(preSum y n+y n);have e2:∀q:Int,(((n+1:Nat):Int))*q=n*q+q:=λq=>by push_cast;rw[Int.add_mul,Int.one_mul]
  rw[e2,Int.mul_add,Int.add_mul,Int.mul_add,Int.mul_add,Int.mul_comm (y n) (preSum x n)];omega
theorem sh(a:Int)(xs:List Int)(i:Nat):aO (a::xs) (i+1)=aO xs i:=by simp[aO]
theorem gP(f:Nat->Int):∀n,preSum f (n+1)=f 0+preSum (λi=>f (i+1)) n
 |0=>by simp[preSum]
 |n+1=>by show preSum f (n+1)+f (n+1)=f 0+(preSum (λi=>f (i+1)) n+f (n+1));rw[gP f n];omega
theorem iU:∀xs:List Int,preSum (aO xs) xs.length=xs.sum
 | []=>rfl
 |a::xs=>by
  rw[List.length_cons,gP];have:(λi=>aO (a::xs) (i+1))=aO xs:=by funext i;exact sh a xs i
  rw[this,iU xs];simp[aO]
theorem qs(xs ys:List Int)(mx my:Int):bD xs ys mx my=xs.length*(mx*my)-mx*preSum (aO ys) xs.length-my*preSum (aO xs) xs.length+preSum (λj=>aO xs j*aO ys j) xs.length:=by
 unfold bD;rw[<-ui];congr 1
 funext i
 have:(mx-aO xs i)*(my-aO ys i)=(-(aO xs i-mx))*(-(aO ys i-my)):=by rw[Int.neg_sub,Int.neg_sub]
 rw[this,Int.neg_mul_neg]
theorem pk{mx:Int}(hl:ys.length=xs.length)(sx:xs.sum=mx*xs.length)(sy:ys.sum=my*xs.length):pairs xs ys=xs.length*bD xs ys mx my:=by
 show (dN xs.length λi j=>(aO xs i-aO xs j)*(aO ys i-aO ys j)).sum=_;rw[pj (aO xs) (aO ys),qs,iU xs];have e:preSum (aO ys) xs.length=ys.sum:=by rw[<-hl];exact iU ys
 rw[e,sx,sy,Int.mul_add,Int.mul_sub,Int.mul_sub];generalize preSum (λj=>aO xs j*aO ys j) xs.length=P;generalize ((xs.length:Nat):Int)=n;have a1:mx*n*(my*n)=n*(n*(mx*my)):=by rw[Int.mul_comm mx n,Int.mul_assoc,Int.mul_comm my n,Int.mul_left_comm mx n my]
 have a2:n*(mx*(my*n))=n*(n*(mx*my)):=by rw[Int.mul_comm my n,Int.mul_left_comm mx n my]
 have a3:n*(my*(mx*n))=n*(n*(mx*my)):=by rw[Int.mul_comm mx n,Int.mul_left_comm my n mx,Int.mul_comm my mx]
 rw[a1,a2,a3];omega
theorem si(sx:xs.sum=0)(sy:ys.sum=my*xs.length)(hl:ys.length=xs.length)(m:Int):bD xs ys 0 m=bD xs ys 0 my:=by rw[qs,qs,iU xs,sx];simp
theorem sj{mx:Int}(hl:ys.length=xs.length):bD ys xs my mx=bD xs ys mx my:=by
 unfold bD;rw[hl];congr 1
 funext i
 exact Int.mul_comm _ _
theorem gq{b:Int}(hb:b.natAbs<2^62):Builtin.divisionGoesByPylong a b=false:=by
 have h1:b.natAbs.log2<62∨b.natAbs=0:=by
  by_cases h:b.natAbs=0
  ·exact .inr h
  ·exact .inl ((Nat.log2_lt h).mpr hb)
 unfold Builtin.divisionGoesByPylong;have:(if (b==0)=true then 0 else b.natAbs.log2/30+1)<=300:=by
  split
  ·omega
  ·rename_i h0
   have:b.natAbs≠0:=by simpa using h0
   omega
 simp only[Bool.and_eq_false_iff,decide_eq_false_iff_not];exact .inl (by omega)
theorem fM{b:Int}(h:a.natAbs<2^62):IntMulOk a b:=IntMulOk.of_left (intBits_le_64 (by omega) (by omega))
def cG(ns:List Int)(a:Addr):Value->Heap->Prop:=λv h=>v = .ref a/\LI ns v h
theorem cG.av{ns:List Int}{a:Addr}:cU (cG ns a):=λv h h' k bV=>by refine cA bV λe l=>⟨e,LI.av _ _ _ k l⟩
theorem bo{ns:List Int}{a:Addr}:cT (cG ns a):=λv h l hl bV=>by refine cA bV λe q=>⟨e,c5 v h l hl q⟩
section
variable{c:Str}
theorem Ev.uj(hc:c=ws):Ev w A h env (.Constant (.str c) n pos) (λv _=>∃t,v = .str ws t):=λs Q E hs hq=>wpAny_Constant_str (hq _ s.heap _ (ak _) ⟨_,by rw[hc]⟩)
theorem cw.Ng:Gm w A frs cs h (spliced (backTo pos (starEach [] env))) (λvs _=>dD vs []) x:=Gm.mono cw.nil λvs _ _ e=>by subst e;exact .nil
theorem cw.zb(He:aF w A frs cs h env e (dB k) x)(Hr:Gm w A frs cs h (spliced (backTo pos (starEach es env))) (λvs _=>dD vs ks) x)(bE:autoParam (starEach (e::es) env=(false,eval e env)::starEach es env) cH):
  Gm w A frs cs h (spliced (backTo pos (starEach (e::es) env))) (λvs _=>dD vs (k::ks)) x:=Gm.mono (cw.cons He aA Hr bE) λvs _ _ bV=>by refine aG bV λv r e1 e2 e3=>by subst e1;exact .cons e2 e3
theorem aF.J7(Ha:Gm w A frs cs h (spliced (backTo pos (starEach es env))) (λvs _=>dD vs ks) x)(hz:ks.length<=64):aF w A frs cs h env (.List es pos) (LF ks) x:=
 Gm.mono (aF.list (PL:=λvs _=>dD vs ks) Ha (λ_ _ _ _ p=>p) (λvs _ p=>by rw[aZ p];omega)) λv _ _ bV=>by refine aG bV λD vs e il q=>⟨D,vs,e,il,q⟩
theorem cw.J8:Gm w A frs cs h (spliced (backTo pos (starEach [] env))) (λvs _=>IntsAre vs []) x:=Gm.mono cw.nil λvs _ _ e=>by subst e;exact .nil
theorem cw.sk(He:aF w A frs cs h env e (iO k) x)(Hr:Gm w A frs cs h (spliced (backTo pos (starEach es env))) (λvs _=>IntsAre vs ks) x)(bE:autoParam (starEach (e::es) env=(false,eval e env)::starEach es env) cH):
  Gm w A frs cs h (spliced (backTo pos (starEach (e::es) env))) (λvs _=>IntsAre vs (k::ks)) x:=Gm.mono (cw.cons He aA Hr bE) λvs _ _ bV=>by refine aG bV λv r e1 j1 e3=>aR j1 λt e2=>by subst e1;subst e2;exact .cons _ _ e3
theorem aF.listI(Ha:Gm w A frs cs h (spliced (backTo pos (starEach es env))) (λvs _=>IntsAre vs ks) x)(hz:ks.length<=64):aF w A frs cs h env (.List es pos) (LI ks) x:=
 Gm.mono (aF.list (PL:=λvs _=>IntsAre vs ks) Ha (λ_ _ _ _ p=>p) (λvs _ p=>by rw[p.length];omega)) λv _ _ bV=>by refine aG bV λD vs e il q=>⟨D,vs,e,il,q⟩
theorem eZ{c P:Addr}{body:Expr}{cl:List (Str×Addr)}{pl:Pos}(G:Gl w h)(hA:A.frames=some (frs.map (·.1)))(hh:A.handled=none)(hd:A.depth+8<recursionLimit)(hu:A.units+12<cLine)(hk:env.scope.kind = .function)(hg:env.globals=mainGlobals)(kl:env.kindOf (sn "_law_refused")=some .globalImplicit)(lp:env.code = .ref c)(C:CodeHd h c P)(hP:(P,env.qual++"<lambda>")∈TT)(cP:closureFor scope env=pure cl)(iZ:aF w A frs cs h env bR (λv _=>∃t,v = .str ws t) x)(hB:∀B F' cs' g L f cv,B.frames=some (((envX (env.qual++"<lambda>") scope L f cv cl,(λ_=>none:Str->Option Value))::(F':Frs)).map (·.1))->B.handled=none->B.depth<=A.depth+3->B.units<=A.units+7->h.StaysIn g->
   aF w B ((envX (env.qual++"<lambda>") scope L f cv cl,λ_=>none)::F') cs' g (envX (env.qual++"<lambda>") scope L f cv cl) body (λ_ _=>False) (some ws))(f7:∀pm cv qr,bindArgs (kla_fn "<lambda>" (env.qual++"<lambda>") params body scope cl pm cv qr) ⟨[],[]⟩=pure [])(aQ:∀x∈scope.names,x.2≠.cell)(Ff:autoParam (defaultsOf params env=([],[])) cH)(qD:autoParam (scope.isCoroutine=false) cH)(iW:autoParam (scope.isGenerator=false) cH)(Ak:autoParam (scope.kind = .function) cH)(bE:autoParam (starEach [.Lambda params body scope pl,bR] env=[(false,eval (.Lambda params body scope pl) env),(false,eval bR env)]) cH)(cQ:autoParam (starEach [bR] env=[(false,eval bR env)]) cH):
  aF w A frs cs h env (.Call (.Name (sn "_law_refused") p) [.Lambda params body scope pl,bR] [] p') (iN true) x:=
 aF.call2 (f:=.ref 443) (aF.of (λh' k N=>Ev.aD (G.mono k) (by k_is) hk kl hg) aj) (Kp.K G (by k_is)) (aF.lam G hg lp C hP cP Ff) jf.av iZ aA
  (λv u h1 k1 q q'=>by
   refine aR q' λt j2=>?_;clear q';subst j2;have kp:=jf.kp (w:=w) q;refine gQ (id q) λf cv qr pm j1 q'=>?_;subst j1;exact te (G.mono k1) hA hh hd hu kp (λA' sT cs' h' uB hh' bL qI k'=>df.lam (G.mono (ai k1 k')) uB (jf.av _ _ _ k' q) (by omega) f7
    (λL f cv g kg=>hB _ sT cs' g L f cv (Ow uB) hh' (by show A'.depth+1<=_;omega) (by show A'.units+3<=_;omega) (ai k1 (ai k' kg))) aQ qD iW Ak)) bE cQ
end
structure c8(xs ys:List Int)(my c:Int):Prop where
 len:ys.length=xs.length
 two:2<=xs.length
 six:xs.length<=6
 sx:xs.sum=0
 sy:ys.sum=my*xs.length
 bx:∀i,i<xs.length->(aO xs i).natAbs<=2^10
 bY:∀i,i<xs.length->(aO ys i-my).natAbs<=2^15
 bm:my.natAbs<=2^21
 dv:bD xs ys 0 my=c*(xs.length-1)
theorem l8{ns:List Int}(h:∀i,i<ns.length->(aO ns i).natAbs<=B):∀k∈ns,k.natAbs<=B:=λk hk=>by refine aR (List.mem_iff_getElem.mp hk) λi j1=>?_;rcases j1 with⟨hi,e⟩;have:=h i hi;rw[show aO ns i=ns[i] by simp[aO,hi]] at this;rw[<-e];exact this
theorem aY{b:Int}{A C:Nat}(ha:a.natAbs<=A)(hb:b.natAbs<=B)(hc:A*B<=C):(a*b).natAbs<=C:=by rw[Int.natAbs_mul];exact OB (Nat.mul_le_mul ha hb) hc
namespace c8
variable (D:c8 xs ys my c)
include D
theorem ay(i:Nat)(hi:i<xs.length):(aO ys i).natAbs<=2^22:=nbE (nbD (D.bY i hi) D.bm) rfl
theorem mx:∀k∈xs,k.natAbs<=2^40:=λk hk=>OB (l8 D.bx k hk) (by decide)
theorem GD:∀k∈ys,k.natAbs<=2^40:=λk hk=>OB (l8 (λi hi=>D.ay i (by rw[<-D.len];exact hi)) k hk) (by decide)
theorem w3(i:Nat)(hi:i<xs.length):(aO xs i*(aO ys i-my)).natAbs<=2^25:=aY (D.bx i hi) (D.bY i hi) (by decide)
theorem yk(i:Nat)(hi:i<xs.length):(aO xs i*aO xs i).natAbs<=2^20:=aY (D.bx i hi) (D.bx i hi) (by decide)
theorem Fj:xs.sum=0*xs.length:=by rw[D.sx,Int.zero_mul]
theorem GG:pairs xs ys=xs.length*bD xs ys 0 my:=pk D.len D.Fj D.sy
theorem CD:pairs xs xs=xs.length*bD xs xs 0 0:=pk rfl D.Fj D.Fj
theorem Fn:0<=bD xs xs 0 0:=dH _ _ λi hi=>by rw[Int.sub_zero];exact bQ _
theorem J9:(bD xs ys 0 my).natAbs<=6*2^25:=by have:=bO (λi=>(aO xs i-0)*(aO ys i-my)) xs.length (2^25) λi hi=>(Int.sub_zero (aO xs i)).symm▸D.w3 i hi;exact OB this (OU _ D.six)
theorem Nh:(bD xs xs 0 0).natAbs<=6*2^20:=by have:=bO (λi=>(aO xs i-0)*(aO xs i-0)) xs.length (2^20) λi hi=>(Int.sub_zero (aO xs i)).symm▸D.yk i hi;exact OB this (OU _ D.six)
theorem nB:((xs.length:Nat):Int).natAbs<=6:=by have:=D.six;omega
theorem Fo:(pairs xs ys).natAbs<=2^40:=by rw[D.GG];exact aY D.nB D.J9 (by decide)
theorem Ni:(pairs xs xs).natAbs<=2^40:=by rw[D.CD];exact aY D.nB D.Nh (by decide)
theorem zc(i j:Nat)(hj:j<i)(hi:i<xs.length)(b:Int):IntMulOk (aO xs i-aO xs j) b:=fM (by have:=D.bx i hi;have:=D.bx j (by omega);omega)
theorem both:(pairs xs ys).fdiv (xs.length*(xs.length-1))=c:=by
 rw[D.GG,D.dv,Int.mul_left_comm];have:=D.two;refine Int.mul_fdiv_cancel c ?_;have h1:((xs.length:Nat):Int)≠0:=by omega
 have h2:((xs.length:Nat):Int)-1≠0:=by omega
 exact Int.mul_ne_zero h1 h2
end c8
theorem iE{m:Int}:cU (ec S T m):=λv h h' k bV=>by refine gQ bV λb t c u j1 q=>dj j1 λr o n e ho hc hd=>⟨b,t,c,u,⟨r,o,n,e,k _ _ ho,hc,hd⟩,q⟩
def Ka(S T m:Int):Value->Heap->Prop:=λv h'=>∃b1 t1 c1 u1,(∃d,v = .ref d/\h'.IsList d (List.toArray [.float b1 t1,.float c1 u1]))/\t1≠0/\dt S T b1/\Fl c1 (16*m)
theorem zd{m:Int}:cU (Ka S T m):=λv h h' k bV=>by refine gQ bV λb t c u q r=>⟨b,t,c,u,sd _ _ _ k q,r⟩
theorem sr{m:Int}:cT (Ka S T m):=λv h l hl bV=>by refine gQ bV λb t c u q r=>⟨b,t,c,u,iD _ _ _ hl q,r⟩
theorem Gm.vk{t:Sem α}{P:α->Heap->Prop}(H:Gm w A frs cs h t P none):Gm w A frs cs h t P x:=
 λs hb Q E hs O hq he=>H s hb Q E hs O hq λws a s' e=>by cases e
theorem vm{m:Int}(G:Gl w h)(H:ec S T m v h)(hh:A.handled=none)(hd:A.depth<=400)(hu:A.units<=1000):
  df w A frs cs h (.type "list") [v] [] (Ka S T m) x:=df.of (λh' k=>by
 refine gQ (iE _ _ _ k H) λb t c u o q=>?_;exact Cl.mono (Fg (G.mono k) o hh hd hu) λl f5 _ p=>⟨b,t,c,u,p,q⟩) sr
section
variable{a b:Addr}
theorem vn(D:c8 xs ys my c)(G:Gl w h)(hA:A.frames=some (frs.map (·.1)))(hh:A.handled=none)(hd:A.depth+8<400)(hu:A.units+20<1000)(lx:LI xs (.ref a) h)(ly:LI ys (.ref b) h):
  df w A frs cs h (.ref 426) [.ref a,.ref b] [] (λv h=>bD xs xs 0 0≠0/\ec (bD xs ys 0 my) (bD xs xs 0 0) my v h) (if bD xs xs 0 0=0 then some fW else none):=
 Em G hA lx ly D.len D.two (OB D.six (by decide)) hh hd hu D.mx D.GD D.sx D.sy (λi hi=>OB (D.w3 i hi) (by decide)) (λi hi=>OB (D.yk i hi) (by decide))
theorem Fp(D:c8 xs ys my c)(G:Gl w h)(hA:A.frames=some (frs.map (·.1)))(hh:A.handled=none)(hd:A.depth+8<400)(hu:A.units+20<1000)(hT:bD xs xs 0 0≠0)(lx:LI xs (.ref a) h)(ly:LI ys (.ref b) h):
  df w A frs cs h (.ref 426) [.ref a,.ref b] [] (ec (bD xs ys 0 my) (bD xs xs 0 0) my) x:=by
 have:=vn (cs:=cs) D G hA hh hd hu lx ly;rw[if_neg hT] at this;exact (this.mono λv h' _ p=>p.2).vk
theorem Fq(D:c8 xs ys my c)(G:Gl w h)(hA:A.frames=some (frs.map (·.1)))(hh:A.handled=none)(hd:A.depth+8<400)(hu:A.units+20<1000)(hT:bD xs xs 0 0=0)(lx:LI xs (.ref a) h)(ly:LI ys (.ref b) h):
  df w A frs cs h (.ref 426) [.ref a,.ref b] [] (λ_ _=>False) (some fW):=by
 have:=vn (cs:=cs) D G hA hh hd hu lx ly;rw[if_pos hT] at this;exact this.mono λv h' _ p=>p.1 hT
theorem su(D:c8 xs ys my c)(G:Gl w h)(hA:A.frames=some (frs.map (·.1)))(hh:A.handled=none)(hd:A.depth+8<400)(hu:A.units+20<1000)(lx:LI xs (.ref a) h)(ly:LI ys (.ref b) h):
  df w A frs cs h (.ref 426) [.ref a,.ref b] [(sn "proportional",.bool true)] (λv h=>bD xs xs 0 0≠0/\ec (bD xs ys 0 0) (bD xs xs 0 0) 0 v h) (if bD xs xs 0 0=0 then some fW else none):=
 AB G hA lx ly D.len D.two (OB D.six (by decide)) hh hd hu (λi hi=>OB (D.bx i hi) (by decide)) (λi hi=>OB (D.ay i hi) (by decide)) (λi hi=>aY (D.bx i hi) (D.ay i hi) (by decide)) (λi hi=>OB (D.yk i hi) (by decide))
theorem Bm(D:c8 xs ys my c)(G:Gl w h)(hA:A.frames=some (frs.map (·.1)))(hh:A.handled=none)(hd:A.depth+8<400)(hu:A.units+20<1000)(hT:bD xs xs 0 0≠0)(lx:LI xs (.ref a) h)(ly:LI ys (.ref b) h):
  df w A frs cs h (.ref 426) [.ref a,.ref b] [(sn "proportional",.bool true)] (ec (bD xs ys 0 0) (bD xs xs 0 0) 0) x:=by
 have:=su (cs:=cs) D G hA hh hd hu lx ly;rw[if_neg hT] at this;exact (this.mono λv h' _ p=>p.2).vk
theorem Bo(D:c8 xs ys my c)(G:Gl w h)(hA:A.frames=some (frs.map (·.1)))(hh:A.handled=none)(hd:A.depth+8<400)(hu:A.units+20<1000)(hT:bD xs xs 0 0=0)(lx:LI xs (.ref a) h)(ly:LI ys (.ref b) h):
  df w A frs cs h (.ref 426) [.ref a,.ref b] [(sn "proportional",.bool true)] (λ_ _=>False) (some fW):=by
 have:=su (cs:=cs) D G hA hh hd hu lx ly;rw[if_pos hT] at this;exact this.mono λv h' _ p=>p.1 hT
end
noncomputable abbrev jY(L:Addr):Env:=envOfC (sn "_law_line") HB L 460 (.ref 459)
theorem qt{p:Params}(X:(K p).In h):CodeHd h 459 455:=gm X rfl rfl
section
variable{a b:Addr}
theorem lH(G:Gl w h)(hA:A.frames=some (frs.map (·.1)))(lx:LI xs (.ref a) h)(ly:LI ys (.ref b) h)(D:c8 xs ys my c)(hh:A.handled=none)(hd:A.depth+20<=400)(hu:A.units+60<=1000)(hu2:A.units+20<cLine):
  df w A frs cso h (.ref 460) [.ref a,.ref b,.int my t] [] (iN true) x:=by
 have uO:400<recursionLimit:=by decide
 refine df.def (binds:=[(sn "x",.ref a),(sn "y",.ref b),(sn "middle",.int my t)]) G hA (by k_is) rfl (by k_is) (by omega) (λs _=>.of_eq rfl) rfl (by decide) (λL g hg aQ=>?_);have cx:=aQ (sn "x") (L+1) (.ref a) (by simp[cellsFrom]) rfl;have cy:=aQ (sn "y") (L+2) (.ref b) (by simp[cellsFrom]) rfl;clear aQ;show aP _ _ _ (jY L) _ [] _ [L,L+2,L+1] _ (upd (λ_=>none) (sn "middle") (.int my t)) _ _ _;have jz:∀{m:Str->Option Value},(A.deeper (jY L)).frames=some (((jY L,m)::frs).map (·.1)):=by intro m;exact Ow hA
 have hA2:(A.deeper (jY L)).handled=none:=hh;have hA3:(A.deeper (jY L)).depth=A.depth+1:=rfl;have hA4:(A.deeper (jY L)).units=A.units+3:=rfl;generalize A.deeper (jY L)=B at *;have Gg:=G.mono hg;have lK:=LI.av _ _ _ hg lx;have l0:=LI.av _ _ _ hg ly;have hn2:=D.two;have hn6:=D.six;have X:∀{h':Heap}{p:Pos},g.StaysIn h'->Ev w B h' (jY L) (.Name (sn "x") p) (cG xs a):=λk=>Ev.mono (Ev.bj (v:=.ref a) (c:=L+1) (aq k cx)) λv h1 k1 e=>⟨e,e▸LI.av _ _ _ (ai k k1) lK⟩;have Y:∀{h':Heap}{p:Pos},g.StaysIn h'->Ev w B h' (jY L) (.Name (sn "y") p) (cG ys b):=λk=>Ev.mono (Ev.bj (v:=.ref b) (c:=L+2) (aq k cy)) λv h1 k1 e=>⟨e,e▸LI.av _ _ _ (ai k k1) l0⟩;refine aP.assign (P:=iO xs.length) (aF.of (λh' k N=>Ev.bz (Ev.aE (Gg.mono k) (by k_is) cR) Kp.builtin (X k) cG.av (λv h1 k1 q=>dC q.2 (by omega))) aj) (λv g1 k1 hv=>?_) (by rfl);refine aR hv λtn Az=>?_;clear hv;subst Az;refine aP.hold ?_;intro m;refine aP.assign (P:=iO (pairs xs xs)) (aF.of (λh' k N=>Ev.call2 (f:=.ref 431) (Ev.aD (Gg.mono (ai k1 k)) (by k_is)) (Kp.K (Gg.mono (ai k1 k)) (by k_is)) (X (ai k1 k)) cG.av (X (ai k1 k)) cG.av
  (λv u h1 Bp q q'=>iC ((Gg.mono (ai k1 k)).mono Bp) q.2 q'.2 rfl (by omega) hA2 (by omega) (λi j hj hi=>D.zc i j hj hi _))) aj) (λv g2 k2 hv=>?_) (by rfl)
 refine aR hv λta sY=>?_;clear hv;subst sY;refine aP.hold ?_;intro m;have k02:=ai k1 k2;refine aP.assign (P:=iO (pairs xs ys)) (aF.of (λh' k N=>Ev.call2 (f:=.ref 431) (Ev.aD (Gg.mono (ai k02 k)) (by k_is)) (Kp.K (Gg.mono (ai k02 k)) (by k_is)) (X (ai k02 k)) cG.av (Y (ai k02 k)) cG.av
  (λv u h1 Bp q q'=>iC ((Gg.mono (ai k02 k)).mono Bp) q.2 q'.2 D.len (by omega) hA2 (by omega) (λi j hj hi=>D.zc i j hj hi _))) aj) (λv g3 k3 hv=>?_) (by rfl)
 refine aR hv λtl Aq=>?_;clear hv;subst Aq;refine aP.hold ?_;intro m;have k03:=ai k02 k3;refine aP.assign (P:=iO c) (aF.of (λh' k N=>Ev.mono (Ev.fdiv (a:=pairs xs ys) (b:=xs.length*(xs.length-1)) (Ev.cS (Ev.ao (N _ (.head _))))
  (Ev.mul (Ev.cS (Ev.ao (N _ (.head _)))) (Ev.sub (Ev.cS (Ev.ao (N _ (.head _)))) Ev.int) (fM (by omega))) (Int.mul_ne_zero (by omega) (by omega))
  (gq (OV (aY (B:=6) D.nB (by omega) (OM _)) (by decide)))) (λv h' _ bV=>by refine aR bV λt e=>⟨t,by rw[e,D.both]⟩)) aj) (λv g4 k4 hv=>?_) (by rfl)
 refine aR hv λtb pX=>?_;clear hv;subst pX;refine aP.hold ?_;intro m;have k04:=ai k03 k4;have G4:=Gg.mono k04;have lx4:=LI.av _ _ _ k04 lK;have ly4:=LI.av _ _ _ k04 l0;have c53:bD xs ys 0 my=c*(xs.length-1):=D.dv;refine aP.skip (TG.not (b:=true) (TG.val (kN (ns:=[c,c,my]) G4 (by rfl) (by rfl) (by rfl) hA2 (by omega) (by omega) (by simp)
  (aF.J7 (cw.zb ?_ (cw.zb ?_ (cw.zb ?_ cw.Ng))) (by simp))
  (aF.listI (cw.sk (aF.of (λh' k N=>Ev.cS (Ev.ao (N _ (.head _)))) aj) (cw.sk (aF.of (λh' k N=>Ev.cS (Ev.ao (N _ (.head _)))) aj) (cw.sk (aF.of (λh' k N=>Ev.cS (Ev.ao (N _ (.head _)))) aj) cw.J8))) (by simp))))) (λg5 k5=>?_)
 ·exact aF.call2 (f:=.ref 343) (aF.of (λh' k N=>Ev.aD (G4.mono k) (by k_is)) aj) (Kp.K G4 (by k_is)) (aF.of (λh' k N=>X (ai k04 k)) bo) cG.av (aF.of (λh' k N=>Y (ai k04 k)) bo) cG.av
   (λv u h1 k1 q q'=>by refine cA q ?_;clear q;intro ro q;subst ro;refine cA q' ?_;clear q';intro pY q';subst pY;exact xZ (mx:=0) (my:=my) (G4.mono k1) jz q q' D.len hn2 (by omega) hA2 (by omega) D.mx D.GD D.Fj D.sy (λi hi=>by rw[Int.sub_zero];exact OB (D.w3 i hi) (by decide)) D.dv)
 ·exact aF.call2 (f:=.ref 343) (aF.of (λh' k N=>Ev.aD (G4.mono k) (by k_is)) aj) (Kp.K G4 (by k_is)) (aF.of (λh' k N=>Y (ai k04 k)) bo) cG.av (aF.of (λh' k N=>X (ai k04 k)) bo) cG.av
   (λv u h1 k1 q q'=>by
    refine cA q ?_;clear q;intro uH q;subst uH;refine cA q' ?_;clear q';intro jc q';subst jc;exact xZ (mx:=my) (my:=0) (G4.mono k1) jz q q' D.len.symm (by rw[D.len];exact hn2) (by rw[D.len];omega) hA2 (by omega) D.GD D.mx (by rw[D.len];exact D.sy) (by rw[D.len];exact D.Fj)
     (λi hi=>by rw[Int.sub_zero,Int.mul_comm];exact OB (D.w3 i (by rw[<-D.len];exact hi)) (by decide)) (by rw[D.len,sj D.len];exact D.dv))
 ·exact aF.bz (f:=.ref 329) (aF.of (λh' k N=>Ev.aD (G4.mono k) (by k_is)) aj) (Kp.K G4 (by k_is)) (aF.of (λh' k N=>Y (ai k04 k)) bo) cG.av
   (λv h1 k1 q=>by refine cA q ?_;clear q;intro iY q;subst iY;exact yj (G4.mono k1) jz q (by rw[D.len];omega) (by rw[D.len];omega) hA2 (by omega) D.GD (by rw[D.len];exact D.sy))
 have k05:=ai k04 k5;have G5:=Gg.mono k05;have wb:=LI.av _ _ _ k05 lK;have w2:=LI.av _ _ _ k05 l0;have cx5:=aq k05 cx;have cy5:=aq k05 cy;by_cases hT:bD xs xs 0 0=0
 ·have hp:pairs xs xs=0:=by rw[D.CD,hT,Int.mul_zero]
  refine aP.enter (TG.of (λh' k N=>de.cast (de.eq (Ev.cS (Ev.ao (N _ (.head _)))) Ev.int) (by rw[hp];rfl))) (λg6 k6=>?_);have G6:=G5.mono k6;have lx6:=LI.av _ _ _ k6 wb;have ly6:=LI.av _ _ _ k6 w2;have cx6:=aq k6 cx5;have cy6:=aq k6 cy5;refine aP.ret (P:=iN true) (aF.and (b₁:=true) (b₂:=true) (eZ (ws:=fW) (cl:=[(sn "y",L+2),(sn "x",L+1)]) G6 jz hA2 (by omega) (by omega) (by rfl) (by rfl) (by rfl) (by rfl) (qt G6.K) (by show (455,sn "_law_line.<locals>.<lambda>")∈TT;decide) (by rfl)
   (aF.of (λh' k N=>Ev.uj (by rfl)) aj) (λB' F' cs' g' L' f cv hB1 hB2 hB3 hB4 kg=>?_) (λ_ _ _=>rfl) (by decide)) λg7 k7 _=>aF.and1 (eZ (ws:=fW) (cl:=[(sn "y",L+2),(sn "x",L+1)]) (G6.mono k7) jz hA2 (by omega) (by omega) (by rfl) (by rfl) (by rfl) (by rfl) (qt (G6.mono k7).K) (by show (455,sn "_law_line.<locals>.<lambda>")∈TT;decide) (by rfl)
   (aF.of (λh' k N=>Ev.uj (by rfl)) aj) (λB' F' cs' g' L' f cv hB1 hB2 hB3 hB4 kg=>?_) (λ_ _ _=>rfl) (by decide))) (λv h' _ p=>p)
  ·refine aF.call2 (f:=.ref 426) (P₁:=ff (.ref a)) (P₂:=ff (.ref b)) (aF.of (λh' k N=>Ev.aD ((G6.mono kg).mono k) (by k_is)) aj) (Kp.K (G6.mono kg) (by k_is)) (aF.of (λh' k N=>Ev.d7 (c:=L+1) (aq (ai kg k) cx6)) aj) aA
    (aF.of (λh' k N=>Ev.d7 (c:=L+2) (aq (ai kg k) cy6)) aj) aA (λv u h1 k1 q q'=>?_)
   obtain rfl:v = .ref a:=q;obtain rfl:u = .ref b:=q';have kk:=ai kg k1;exact Fq D (G6.mono kk) hB1 hB2 (by omega) (by omega) hT (LI.av _ _ _ kk lx6) (LI.av _ _ _ kk ly6)
  ·have zf:=ai k7 kg
   refine aF.eu (f:=.ref 426) (nms:=[sn "proportional"]) (PL:=λvs h'=>∃v r,vs=v::r/\v = .ref a/\∃v',r=[v']/\v' = .ref b) (PK:=λks h'=>∃v r,ks=v::r/\v = .bool true/\r=[])
    (aF.of (λh' k N=>Ev.aD ((G6.mono zf).mono k) (by k_is)) aj) (Kp.K (G6.mono zf) (by k_is))
    (cw.cons (aF.of (λh' k N=>Ev.d7 (c:=L+1) (aq (ai zf k) cx6)) aj) aA (cw.one (aF.of (λh' k N=>Ev.d7 (c:=L+2) (aq (ai zf k) cy6)) aj) aA))
    (λh₁ PO=>di.cons (P₁:=ff (.bool true)) (aF.of (λh' k N s Q E hs hq=>PN (hq _ s.heap s.toks (ak _) rfl)) aj) aA di.nil) (λvs h₁ h₂ k p=>p)
    (λus ks h₁ PO p q=>?_)
   obtain rfl:=ar2 p;obtain rfl:=kw1 q;have kk:=ai zf PO;exact Bo D (G6.mono kk) hB1 hB2 (by omega) (by omega) hT (LI.av _ _ _ kk lx6) (LI.av _ _ _ kk ly6)
 ·have hT0:=D.Fn
  have hTp:0<bD xs xs 0 0:=by omega
  have hp:0<pairs xs xs:=by rw[D.CD];exact Int.mul_pos (by omega) hTp
  refine aP.skip (TG.of (λh' k N=>de.cast (de.eq (Ev.cS (Ev.ao (N _ (.head _)))) Ev.int) (by simp;omega))) (λg6 k6=>?_);refine aP.jN (P:=sf (pairs xs ys) (pairs xs xs)) (fU.jy (aF.of (λh' k N=>Ev.cS (Ev.ao (N _ (.head _)))) aj) (aF.of (λh' k N=>Ev.cS (Ev.ao (N _ (.head _)))) aj) hp (by have:=D.Fo;omega)) (λv g7 k7 hv=>?_) (by rfl);refine ar hv λts eR tsn=>?_;clear hv;subst eR;refine aP.hold ?_;intro m;have k67:=ai k6 k7;have G7:=G5.mono k67;have Er:=LI.av _ _ _ k67 wb;have Ja:=LI.av _ _ _ k67 w2;have k07:=ai k05 k67;refine aP.assign (P:=λv h'=>∃b1 t1 c1 u1 b2 t2 c2 u2,(∃d,v = .ref d/\h'.IsList d (List.toArray [.float b1 t1,.float c1 u1,.float b2 t2,.float c2 u2]))/\t1≠0/\dt (bD xs ys 0 my) (bD xs xs 0 0) b1/\Fl c1 (16*my)/\t2≠0/\dt (bD xs ys 0 0) (bD xs xs 0 0) b2/\Fl c2 (16*0))
   (aF.bin (P₁:=Ka (bD xs ys 0 my) (bD xs xs 0 0) my) (P₂:=Ka (bD xs ys 0 0) (bD xs xs 0 0) 0)
    (aF.bz (P₁:=ec (bD xs ys 0 my) (bD xs xs 0 0) my) (f:=.type "list") (aF.of (λh' k N=>Ev.aE (G7.mono k) (by k_is) nE) aj) Kp.type ?_ ?_ ?_) ?_
    (aF.bz (P₁:=ec (bD xs ys 0 0) (bD xs xs 0 0) 0) (f:=.type "list") (aF.of (λh' k N=>Ev.aE (G7.mono k) (by k_is) nE) aj) Kp.type ?_ ?_ ?_) ?_) (λv g8 k8 hv=>?_) (by rfl)
  ·refine aF.call2 (f:=.ref 426) (aF.of (λh' k N=>Ev.aD (G7.mono k) (by k_is)) aj) (Kp.K G7 (by k_is)) (aF.of (λh' k N=>X (ai k07 k)) bo) cG.av (aF.of (λh' k N=>Y (ai k07 k)) bo) cG.av
    (λv u h1 k1 q q'=>?_)
   refine cA q ?_;clear q;intro ib q;subst ib;refine cA q' ?_;clear q';intro eS q';subst eS;exact Fp D (G7.mono k1) jz hA2 (by omega) (by omega) hT q q'
  ·exact iE
  ·exact λv h1 k1 q=>vm (G7.mono k1) q hA2 (by omega) (by omega)
  ·exact zd
  ·refine aF.eu (f:=.ref 426) (nms:=[sn "proportional"]) (PL:=λvs h'=>∃v r,vs=v::r/\cG xs a v h'/\∃v',r=[v']/\cG ys b v' h') (PK:=λks h'=>∃v r,ks=v::r/\v = .bool true/\r=[])
    (aF.of (λh' k N=>Ev.aD (G7.mono k) (by k_is)) aj) (Kp.K G7 (by k_is))
    (cw.cons (aF.of (λh' k N=>X (ai k07 k)) bo) cG.av (cw.one (aF.of (λh' k N=>Y (ai k07 k)) bo) cG.av))
    (λh₁ PO=>di.cons (P₁:=ff (.bool true)) (aF.of (λh' k N s Q E hs hq=>PN (hq _ s.heap s.toks (ak _) rfl)) aj) aA di.nil) (λvs h₁ h₂ k y=>by refine aG y λv r e p j9=>ar j9 λv' e' p'=>⟨v,r,e,cG.av _ _ _ k p,v',e',cG.av _ _ _ k p'⟩)
    (λus ks h₁ PO p q=>?_)
   refine du (Fi p) λj8 y y'=>?_;subst j8;obtain rfl:=kw1 q;exact Bm D (G7.mono PO) jz hA2 (by omega) (by omega) hT y y'
  ·exact iE
  ·exact λv h1 k1 q=>vm (G7.mono k1) q hA2 (by omega) (by omega)
  ·intro u v h1 k1 ⟨b1,t1,c1,u1,⟨d,e,il⟩,r1⟩ ⟨b2,t2,c2,u2,⟨d',e',wO⟩,r2⟩
   subst e;subst e';exact (J6 il wO (by simp)).mono λv h' _ p=>⟨b1,t1,c1,u1,b2,t2,c2,u2,p,r1.1,r1.2.1,r1.2.2,r2⟩
  refine jE8 hv λb1 t1 c1 u1 b2 t2 c2 u2 j5=>FV j5 λj6 n1 r1 f1 n2 r2 f2=>ar j6 λd j7 il=>?_;clear hv j5 j6;subst j7;refine aP.hold ?_;intro m;have G8:=G7.mono k8;have JK:(pairs xs ys).natAbs<2^53:=OV D.Fo (by decide);have hr1:Float64.cmp b1 (Mine.jy (pairs xs ys) (pairs xs xs))=some .eq:=r1.2 _ _ hp (by rw[D.GG,D.CD,Int.mul_left_comm,Int.mul_assoc]) JK;have hr2:Float64.cmp b2 (Mine.jy (pairs xs ys) (pairs xs xs))=some .eq:=r2.2 _ _ hp (by rw[si D.sx D.sy D.len 0,D.GG,D.CD,Int.mul_left_comm,Int.mul_assoc]) JK;refine aP.ret (P:=iN true) (aF.call2 (f:=.ref 448) (P₁:=ff (.ref d)) (aF.of (λh' k N=>Ev.aD (G8.mono k) (by k_is)) aj) (Kp.K G8 (by k_is)) (aF.of (λh' k N=>Ev.ao (N _ (.head _))) aj) aA
   (aF.list (cw.cons (P₁:=ff (.float (Mine.jy (pairs xs ys) (pairs xs xs)) ts)) (aF.of (λh' k N=>Ev.ao (N _ (.head _))) aj) aA (cw.cons (P₁:=iO my) (aF.of (λh' k N=>Ev.cS (Ev.ao (N _ (.head _)))) aj) aA
    (cw.cons (P₁:=ff (.float (Mine.jy (pairs xs ys) (pairs xs xs)) ts)) (aF.of (λh' k N=>Ev.ao (N _ (.head _))) aj) aA (cw.one (P₁:=iO 0) (aF.of (λh' k N=>Ev.int) aj) aA)))) (λ_ _ _ _ p=>p) (λvs h' y=>by refine aG y λv r e _ j2=>aG j2 λv' r' e' _ j3=>aG j3 λJY r'' e'' _ j4=>ar j4 λv3 e3 _=>?_;clear y j2 j3 j4;subst e;subst e';subst e'';subst e3;simp)) (λv h h' k y=>by refine aG y λD vs e il p=>⟨D,vs,e,isList_stays k il,p⟩) (λv u h1 k1 q q'=>?_)) (λv h' _ p=>p)
  obtain rfl:v = .ref d:=q;refine aV (vl4 q') λd' t' t3 j1 wO=>?_;subst j1;refine df.of (λh' k=>iT (G8.mono (ai k1 k)) ⟨d,d',_,_,rfl,rfl,isList_stays (ai k1 k) il,isList_stays k wO,?_,by simp⟩ hA2 (by omega) (by omega)) aj;exact .cons ⟨b1,t1,rfl,.inr ⟨_,_,rfl,n1,tsn,hr1⟩⟩ (.cons (t9 f1) (.cons ⟨b2,t2,rfl,.inr ⟨_,_,rfl,n2,tsn,hr2⟩⟩ (.cons (t9 f2) .nil)))
end
theorem sum_map_add(m:Int):∀xs:List Int,(xs.map λu=>u+m).sum=xs.sum+m*xs.length
 | []=>by simp
 |x::xs=>by rw[List.map_cons,List.sum_cons,sum_map_add m xs,List.sum_cons,List.length_cons];push_cast;rw[Int.mul_add,Int.mul_one];omega
theorem jZ(f:Int->Int)(hi:i<xs.length):aO (xs.map f) i=f (aO xs i):=by simp[aO,hi]
theorem dw{f g:Nat->Int}:∀n,(∀i,i<n->f i=g i)->preSum f n=preSum g n
 |0,_=>rfl
 |n+1,h=>by show preSum f n+f n=preSum g n+g n;rw[dw n λi hi=>h i (by omega),h n (by omega)]
theorem nJ(f g:Nat->Int):∀n,preSum (λi=>f i+g i) n=preSum f n+preSum g n
 |0=>rfl
 |n+1=>by show preSum (λi=>f i+g i) n+(f n+g n)=preSum f n+f n+(preSum g n+g n);rw[nJ f g n];omega
namespace c8
variable (D:c8 xs zs mid c)
include D
theorem wsum(more:Int):(xs.map λu=>u+more).sum=xs.length*more:=by rw[sum_map_add,D.sx,Int.zero_add,Int.mul_comm]
theorem Nj(more:Int):preSum (λi=>aO zs i*aO (xs.map λu=>u+more) i) zs.length=xs.length*more*mid+bD xs zs 0 mid:=by
 have e:preSum (λi=>aO zs i*aO (xs.map λu=>u+more) i) zs.length=preSum (λi=>(aO xs i-0)*(aO zs i-0)+more*aO zs i) zs.length:=dw _ λi hi=>by rw[jZ _ (by rw[<-D.len];exact hi),Int.mul_add,Int.sub_zero,Int.sub_zero,Int.mul_comm (aO zs i),Int.mul_comm (aO zs i) more]
 rw[e,nJ,cO,iU,D.sy];have e2:preSum (λi=>(aO xs i-0)*(aO zs i-0)) zs.length=bD xs zs 0 0:=by rw[D.len];rfl
 rw[e2,si D.sx D.sy D.len 0,Int.mul_comm mid,Int.mul_left_comm,<-Int.mul_assoc];omega
theorem fd:(pairs xs zs).fdiv xs.length=bD xs zs 0 mid:=by rw[D.GG,Int.mul_comm];have:=D.two;exact Int.mul_fdiv_cancel _ (by omega)
end c8
noncomputable abbrev jg(L:Addr):Env:=envOfC (sn "_law_weighed") HD L 470 (.ref 469)
theorem CE{p:Params}(X:(K p).In h):CodeHd h 469 467:=gm X rfl rfl
section
variable{a b:Addr}{ws:List Int}{more:Int}
theorem Kb(D:c8 xs zs mid c)(G:Gl w h)(hA:A.frames=some (frs.map (·.1)))(hh:A.handled=none)(hd:A.depth+8<400)(hu:A.units+20<1000)(h1:1<=more)(h5:more<=5)(lz:LI zs (.ref b) h)(lw:LI (xs.map λu=>u+more) (.ref a) h):
  df w A frs cs h (.ref 329) [.ref b] [(sn "weights",.ref a)] (λv _=>∃z t,v = .float z t/\t≠0/\dt (xs.length*more*mid+bD xs zs 0 mid) (xs.length*more) z) x:=by
 have hn2:=D.two;have bw:∀i,i<zs.length->(aO (xs.map λu=>u+more) i).natAbs<=2^11:=λi hi=>by
  have eM:i<xs.length:=by rw[<-D.len];exact hi
  rw[jZ _ eM];exact nbE (zV (D.bx i eM) (KN (A:=5) (by omega) (by omega))) rfl
 have pos:0<(xs.length:Int)*more:=Int.mul_pos (by omega) (by omega);have:=oZ (frs:=frs) (cs:=cs) G hA lz lw (by rw[List.length_map,D.len]) (by rw[D.len];have:=D.six;omega) hh hd hu (λk hk=>OB (l8 (B:=2^11) (λi hi=>bw i (by rw[D.len];simpa using hi)) k hk) (by decide))
  (λi hi=>OB (D.ay i (by rw[<-D.len];exact hi)) (by decide)) (λi hi=>OB (bw i hi) (by decide)) (λi hi=>aY (D.ay i (by rw[<-D.len];exact hi)) (bw i hi) (by decide)) (by rw[D.wsum];omega)
 rw[D.wsum,D.Nj,if_neg (by omega)] at this;exact (this.mono λv h' _ p=>p.2).vk
theorem Kc(D:c8 xs zs mid c)(G:Gl w h)(hA:A.frames=some (frs.map (·.1)))(hh:A.handled=none)(hd:A.depth+8<400)(hu:A.units+20<1000)(lz:LI zs (.ref b) h)(lw:LI xs (.ref a) h):
  df w A frs cs h (.ref 329) [.ref b] [(sn "weights",.ref a)] (λ_ _=>False) (some iR):=by
 have:=oZ (frs:=frs) (cs:=cs) G hA lz lw D.len.symm (by rw[D.len];have:=D.six;omega) hh hd hu D.mx
  (λi hi=>OB (D.ay i (by rw[<-D.len];exact hi)) (by decide)) (λi hi=>OB (D.bx i (by rw[<-D.len];exact hi)) (by decide)) (λi hi=>by rw[Int.mul_comm];exact aY (D.bx i (by rw[<-D.len];exact hi)) (D.ay i (by rw[<-D.len];exact hi)) (by decide)) (by rw[D.sx];omega)
 rw[if_pos D.sx] at this;exact this.mono λv h' _ p=>p.1 D.sx
theorem nK(G:Gl w h)(hA:A.frames=some (frs.map (·.1)))(lx:LI xs (.ref a) h)(lz:LI zs (.ref b) h)(D:c8 xs zs mid c)(h1:1<=more)(h5:more<=5)(hh:A.handled=none)(hd:A.depth+20<=400)(hu:A.units+60<=1000)(hu2:A.units+20<cLine):
  df w A frs cso h (.ref 470) [.ref a,.ref b,.int mid t,.int more t'] [] (iN true) x:=by
 have uO:400<recursionLimit:=by decide
 refine df.def (binds:=[(sn "x",.ref a),(sn "z",.ref b),(sn "middle",.int mid t),(sn "more",.int more t')]) G hA (by k_is) rfl (by k_is) (by omega) (λs _=>.of_eq rfl) rfl (by decide) (λL g hg aQ=>?_);have cx:=aQ (sn "x") (L+1) (.ref a) (by simp[cellsFrom]) rfl;have cz:=aQ (sn "z") (L+2) (.ref b) (by simp[cellsFrom]) rfl;have cm:=aQ (sn "more") (L+3) (.int more t') (by simp[cellsFrom]) rfl;clear aQ;show aP _ _ _ (jg L) _ [] _ [L,L+3,L+2,L+1] _ (upd (λ_=>none) (sn "middle") (.int mid t)) _ _ _;have jz:∀{m:Str->Option Value},(A.deeper (jg L)).frames=some (((jg L,m)::frs).map (·.1)):=by intro m;exact Ow hA
 have hA2:(A.deeper (jg L)).handled=none:=hh;have hA3:(A.deeper (jg L)).depth=A.depth+1:=rfl;have hA4:(A.deeper (jg L)).units=A.units+3:=rfl;generalize A.deeper (jg L)=B at *;have Gg:=G.mono hg;have lK:=LI.av _ _ _ hg lx;have lzg:=LI.av _ _ _ hg lz;have hn2:=D.two;have hn6:=D.six;have pos:0<(xs.length:Int)*more:=Int.mul_pos (by omega) (by omega);have posB:((xs.length:Int)*more).natAbs<=30:=aY D.nB (B:=5) (by omega) (by decide);have X:∀{h':Heap}{p:Pos},g.StaysIn h'->Ev w B h' (jg L) (.Name (sn "x") p) (cG xs a):=λk=>Ev.mono (Ev.bj (v:=.ref a) (c:=L+1) (aq k cx)) λv h1 k1 e=>⟨e,e▸LI.av _ _ _ (ai k k1) lK⟩;have Z:∀{h':Heap}{p:Pos},g.StaysIn h'->Ev w B h' (jg L) (.Name (sn "z") p) (cG zs b):=λk=>Ev.mono (Ev.bj (v:=.ref b) (c:=L+2) (aq k cz)) λv h1 k1 e=>⟨e,e▸LI.av _ _ _ (ai k k1) lzg⟩;have M:∀{h':Heap}{p:Pos},g.StaysIn h'->eI w B h' (jg L) (.Name (sn "more") p) more:=λk=>Ev.cS (Ev.bj (v:=.int more t') (c:=L+3) (aq k cm));refine aP.assign (P:=iO xs.length) (aF.of (λh' k N=>Ev.bz (Ev.aE (Gg.mono k) (by k_is) cR) Kp.builtin (X k) cG.av (λv h1 k1 q=>dC q.2 (by omega))) aj) (λv g1 k1 hv=>?_) (by rfl);refine aR hv λtn j7=>?_;clear hv;subst j7;refine aP.hold ?_;intro m;have hdB:=D.J9;have jl:=D.bm;have nm:((xs.length:Int)*more*mid).natAbs<=2^26:=aY posB jl (by decide);refine aP.jN (P:=sf (xs.length*more*mid+bD xs zs 0 mid) (xs.length*more)) (fU.jy (aF.of (λh' k N=>Ev.add (Ev.mul (Ev.mul (Ev.cS (Ev.ao (v:=.int xs.length tn) (N _ (.head _)))) (M (ai k1 k)) (fM (by omega))) (Ev.cS (Ev.ao (v:=.int mid t) (N _ (.head _)))) (fM (by omega)))
   (Ev.mono (Ev.fdiv (a:=pairs xs zs) (b:=xs.length) (Ev.call2 (f:=.ref 431) (Ev.aD (Gg.mono (ai k1 k)) (by k_is)) (Kp.K (Gg.mono (ai k1 k)) (by k_is)) (X (ai k1 k)) cG.av (Z (ai k1 k)) cG.av
    (λv u h1 Bp q q'=>iC ((Gg.mono (ai k1 k)).mono Bp) q.2 q'.2 D.len (by omega) hA2 (by omega) (λi j hj hi=>D.zc i j hj hi _))) (Ev.cS (Ev.ao (v:=.int xs.length tn) (N _ (.head _)))) (by omega) (gq (by omega))) (λv h' _ bV=>by refine aR bV λt e=>⟨t,by rw[e,D.fd]⟩))) aj)
  (aF.of (λh' k N=>Ev.mul (Ev.cS (Ev.ao (v:=.int xs.length tn) (N _ (.head _)))) (M (ai k1 k)) (fM (by omega))) aj) pos (by omega)) (λv g2 k2 hv=>?_) (by rfl)
 refine ar hv λtd j6 tdn=>?_;clear hv;subst j6;refine aP.hold ?_;intro m;have k02:=ai k1 k2;have G2:=Gg.mono k02;refine aP.ret (P:=iN true) (aF.and (b₁:=true) (b₂:=true) (aF.call2 (f:=.ref 448) (P₁:=λv h'=>∃D vs,v = .ref D/\h'.IsList D (List.toArray vs)/\∃u,vs=[u]/\∃z t,u = .float z t/\t≠0/\dt (xs.length*more*mid+bD xs zs 0 mid) (xs.length*more) z)
   (P₂:=λv h'=>∃D vs,v = .ref D/\h'.IsList D (List.toArray vs)/\∃u,vs=[u]/\u = .float (Mine.jy (xs.length*more*mid+bD xs zs 0 mid) (xs.length*more)) td)
   (aF.of (λh' k N=>Ev.aD (G2.mono k) (by k_is)) aj) (Kp.K G2 (by k_is))
   (aF.list (cw.one ?_ aA) (λ_ _ _ _ p=>p) (λvs h' bV=>by refine ar bV λu e _=>by subst e;simp)) (λv h h' k za=>by refine aG za λD vs e il p=>⟨D,vs,e,isList_stays k il,p⟩)
   (aF.list (cw.one (aF.of (λh' k N=>Ev.ao (N _ (.head _))) aj) aA) (λ_ _ _ _ p=>p) (λvs h' bV=>by refine ar bV λu e _=>by subst e;simp)) (λv h h' k za=>by refine aG za λD vs e il p=>⟨D,vs,e,isList_stays k il,p⟩)
   (λv u h1 k1 q q'=>?_)) λg3 k3 _=>aF.and1 ?_) (λv h' _ p=>p)
 ·refine aF.eu (f:=.ref 329) (nms:=[sn "weights"]) (PL:=λvs h'=>∃v,vs=[v]/\cG zs b v h') (PK:=λks h'=>∃v r,ks=v::r/\LI (xs.map λu=>u+more) v h'/\r=[])
   (aF.of (λh' k N=>Ev.aD (G2.mono k) (by k_is)) aj) (Kp.K G2 (by k_is))
   (cw.one (aF.of (λh' k N=>Z (ai k02 k)) bo) cG.av)
   (λh₁ PO=>di.cons (aF.of (λh' k N=>Ev.mono (Ev.mf (x:=sn "u") (cl:=[(sn "more",L+3)]) (ns:=xs) (λ_=>true) (λu=>u+more) (Ev.mono (X (ai k02 (ai PO k))) λv h _ q=>q.2) (by rw[sizeLine_eq];omega) hA2 (λ_ _ _ _ _ _ _ _ _=>.inl ⟨rfl,rfl⟩)
    (λj hj _ C t m h' k2 hn hm=>Ev.add (Ev.cS (Ev.ao hn hm)) (Ev.cS (Ev.bj (v:=.int more t') (c:=L+3) (aq (ai k02 (ai PO (ai k k2))) cm)))) (by rfl) (by decide) (by rfl) (by decide) (by rfl)) (λv h' _ q=>by rw[List.filter_eq_self.mpr λ_ _=>rfl] at q;exact q)) c5) LI.av di.nil)
   (λvs h₁ h₂ k bV=>by refine ar bV λv e p=>⟨v,e,cG.av _ _ _ k p⟩)
   (λus ks h₁ PO p q=>?_)
  refine cA (Nc p) λj5 y=>?_;subst j5;refine ar (kwP q) λv j4 q2=>?_;subst j4;refine aN (id q2) λlw vw j3 q'=>?_;subst j3;exact Kb D (G2.mono PO) jz hA2 (by omega) (by omega) h1 h5 y q2
 ·refine dj (Nf q) λd z tz j2 il nz rz=>?_;subst j2
  refine ar (vl1 q') λd' j1 wO=>?_;subst j1;refine df.of (λh' k=>iT (G2.mono (ai k1 k)) ⟨d,d',_,_,rfl,rfl,isList_stays k il,isList_stays k wO,?_,by simp⟩ hA2 (by omega) (by omega)) aj;exact .cons ⟨z,tz,rfl,.inr ⟨_,_,rfl,nz,tdn,rz.2 _ _ pos rfl (by omega)⟩⟩ .nil
 ·have k03:=ai k02 k3
  have G3:=G2.mono k3;refine eZ (ws:=iR) (cl:=[(sn "z",L+2),(sn "x",L+1)]) G3 jz hA2 (by omega) (by omega) (by rfl) (by rfl) (by rfl) (by rfl) (CE G3.K) (by show (467,sn "_law_weighed.<locals>.<lambda>")∈TT;decide) (by rfl)
   (aF.of (λh' k N=>Ev.uj (by rfl)) aj) (λB' F' cs' g' L' f cv hB1 hB2 hB3 hB4 kg=>?_) (λ_ _ _=>rfl) (by decide)
  refine aF.eu (f:=.ref 329) (nms:=[sn "weights"]) (PL:=λvs h'=>∃v,vs=[v]/\v = .ref b) (PK:=λks h'=>∃v r,ks=v::r/\v = .ref a/\r=[])
   (aF.of (λh' k N=>Ev.aD ((G3.mono kg).mono k) (by k_is)) aj) (Kp.K (G3.mono kg) (by k_is))
   (cw.one (aF.of (λh' k N=>Ev.d7 (c:=L+2) (aq (ai k03 (ai kg k)) cz)) aj) aA)
   (λh₁ PO=>di.cons (aF.of (λh' k N=>Ev.d7 (c:=L+1) (aq (ai k03 (ai kg (ai PO k))) cx)) aj) aA di.nil)
   (λvs h₁ h₂ k p=>p)
   (λus ks h₁ PO p q=>?_)
  obtain rfl:=ar1 p;obtain rfl:=kw1 q;have kk:=ai k03 (ai kg PO);exact Kc D (Gg.mono kk) hB1 hB2 (by omega) (by omega) (LI.av _ _ _ kk lzg) (LI.av _ _ _ kk lK)
end
def zg(h₀:Heap)(as bs:List Int)(v:Value)(h:Heap):Prop:=∃z TI TO i1 i2 l1 l2,∃xs ys:List Value,v = .ref z/\ZipApart z TI TO i1 i2 l1 l2/\
 (IsZip h z TI TO .none/\IsPair h TI (.ref i1) (.ref i2)/\(∃a b,IsPair h TO a b)/\h.IsListIter i1 l1 0/\h.IsListIter i2 l2 0/\h.IsList l1 xs.toArray/\h.IsList l2 ys.toArray)/\IntsAre xs as/\IntsAre ys bs/\∀b∈[z,TO,i1,i2],h₀.get? b=none
section
variable{bs:List Int}{u:Value}
theorem Ft(k:h₀.StaysIn h)(la:LI as v h)(lb:LI bs u h):Cl w A h (.type "zip") [v,u] [] (zg h₀ as bs):=λs Q E hs hq=>by
 refine aG la λl1 xs j3 hl1 hi1=>?_;clear la;subst j3;refine aG lb λl2 ys j2 hl2 hi2=>?_;clear lb;subst j2;have hl1:=isList_stays hs hl1;have hl2:=isList_stays hs hl2;have a1:l1<s.heap.objs.size:=by refine ar hl1 λ_ e _=>ON e
 have a2:l2<s.heap.objs.size:=by refine ar hl2 λ_ e _=>ON e
 have new:∀a,s.heap.objs.size<=a->h₀.get? a=none:=λa ha=>by
  cases e:h₀.get? a with
  |none=>rfl
  |some o=>exact absurd (ON (hs _ _ (k _ _ e))) (Nat.not_lt.mpr ha)
 refine call_zip_2 hl1 hl2 λh' hz hTI EP Nk Nl _ hk=>hq _ h' s.toks hk ⟨_,_,_,_,_,l1,l2,xs,ys,rfl,zipApart_new a1 a2,⟨hz,hTI,⟨_,_,EP⟩,Nk,Nl,isList_stays hk hl1,isList_stays hk hl2⟩,hi1,hi2,λb hb=>new b ?_⟩;exact GL hb (Nat.le_add_right _ 4) (Nat.le_add_right _ 3) (OM _) (Nat.le_add_right _ 1)
end
theorem qu{x1}{tp:Pos}{it:Value}(Φ:Nat->Shared->Prop)(turn:∀(T:Option Value->Shared->Prop)(En:Value->Shared->Prop) k s,(∀aB,R (.ok .next) aB->T none aB)->
   (∀v aB,(∀B:Shared->Prop,(∀m s',Φ m s'->m<k->B s')->wpAny (model prog w) A (letOwnedTupleGo (.Tuple elts x1 tp) it v) (λ_ rv=>wpAny (model prog w) A (assign (.Tuple elts x1 tp) env v) (λ_ bN=>wpAny (model prog w) A (eval elt env) (λx cq=>wpAny (model prog w) A (call (.builtin "list.append") [acc,x]) (λ_ jE=>B jE) En cq) En bN) En rv) En aB)->T (some v) aB)->Φ k s->wpAny (model prog w) A (pyNext it) T En s)(n:Nat)(h:Φ n s):codeAny (model prog w) A (.compLoop (.ListComp elt [⟨.Tuple elts x1 tp,iter,[],0⟩] scope pos) 0 it acc env) R s:=by
 refine LCp.codeAny_compLoop_pair Φ (λn s hI=>?_) n h;exact turn _ _ n s (λ_ h=>h) (λv aB h=>h (λjE=>∃m,m<n/\Φ m jE) λm s' hi hm=>⟨m,hm,hi⟩) hI
theorem zh{x:Str}{tp:Pos}{z i2 l1 l2 D:Addr}{xs ys:List Value}{bs:List Int}(g:Nat->Int)(hh:A.handled=none)(ZA:ZipApart z TI TO i1 i2 l1 l2)(DG:IntsAre xs as)(BG:IntsAre ys bs)(hlen:bs.length=as.length)(hx:cenv.kindOf x=some .local)(zi:cenv.kindOf x₂=some .local)(wg:x≠x₂)(hp:(cenv.scope.kind == .class||(cenv.scope.kind == .module&&cenv.locals !=cenv.globals))=false)(kO:D≠cenv.locals)(hDf:D∉[z,TI,TO,i1,i2,l1,l2])(hCf:cenv.locals∉[z,TI,TO,i1,i2,l1,l2])(dI:IsZip s.heap z TI TO .none/\IsPair s.heap TI (.ref i1) (.ref i2)/\(∃a b,IsPair s.heap TO a b)/\s.heap.IsListIter i1 l1 0/\s.heap.IsListIter i2 l2 0/\s.heap.IsList l1 xs.toArray/\s.heap.IsList l2 ys.toArray)(gY:s.heap.PlainList D #[])(hn:s.heap.Ns cenv.locals m)(hsz:as.length<=100)(pf:∀h':Heap,(∀b o,b≠cenv.locals->b∉[z,TO,i1,i2]->b≠D->s.heap.get? b=some o->h'.get? b=some o)->h.StaysIn h')(dm:∀i PR t u h',i<as.length->h.StaysIn h'->h'.Ns cenv.locals PR->PR x=some (.int (aO as i) t)->PR x₂=some (.int (aO bs i) u)->eI w A h' cenv elt (g i))(hR:∀h' tk m' ys,h'.Ns cenv.locals m'->h'.PlainList D ys->IntsAre ys.toList ((List.range as.length).map g)->
   (∀b o,b≠cenv.locals->b∉[z,TO,i1,i2]->b≠D->s.heap.get? b=some o->h'.get? b=some o)->R (.ok .next) (bp s h' tk)):
  codeAny (model pw w) A (.compLoop (.ListComp elt [⟨.Tuple [.Name x px,.Name x₂ Bz] oL tp,iter,[],0⟩] scope pos) 0 (.ref z) (.ref D) cenv) R s:=by
 have W:=WalksT.zip2 (prog:=pw) (w:=w) hh z TI TO i1 i2 l1 l2 ZA xs.toArray ys.toArray;have yl:=DG.length;have hly:=BG.length;have Nm:min xs.toArray.size ys.toArray.size=as.length:=by simp;omega
 rw[Nm] at W;have hCw:cenv.locals∉[z,TO,i1,i2]:=λhm=>hCf (W.sub _ hm);have hDw:D∉[z,TO,i1,i2]:=λhm=>hDf (W.sub _ hm);refine qu
  (λk s'=>∃h' tk m' ac,∃i:Nat,s'=(bp s h' tk)/\(IsZip h' z TI TO .none/\IsPair h' TI (.ref i1) (.ref i2)/\(∃a b,IsPair h' TO a b)/\h'.IsListIter i1 l1 i/\h'.IsListIter i2 l2 i/\h'.IsList l1 xs.toArray/\h'.IsList l2 ys.toArray)/\h'.PlainList D ac/\h'.Ns cenv.locals m'/\
   IntsAre ac.toList ((List.range i).map g)/\i<=as.length/\k=as.length+1-i/\
   (∀b o,b≠cenv.locals->b∉[z,TO,i1,i2]->b≠D->s.heap.get? b=some o->h'.get? b=some o)) (λTT En k s' hd hg hI=>?_) (as.length+1)
  ⟨s.heap,s.toks,m,#[],0,rfl,dI,gY,hn,by simpa using IntsAre.nil,Nat.zero_le _,rfl,λ_ _ _ _ _ e=>e⟩
 refine qK hI λH tk m' ac i j5=>qL j5 λj6 gC iA fe hF hi j7 hk=>?_;clear hI j5;subst j6;subst j7;by_cases cN:i<as.length
 ·refine W.item i _ _ _ cN gC λT vals h₁ bg xe hTs hT hM el=>hg _ _ λB hB=>?_
  refine W.go _ _ _ i T _ _ _ hM λh₂ eQ hZ=>?_;refine aG xe λvx vy ex ey j4=>?_;clear xe;subst j4;refine aN (IntsAre.at DG i vx (by simpa using ex)) λn1 t1 j3 e1=>?_;subst j3;refine aN (IntsAre.at BG i vy (by simpa using ey)) λn2 t2 j2 e2=>?_;subst j2;have a1:n1=aO as i:=by simp[aO,e1]
  have a2:n2=aO bs i:=by simp[aO,e2]
  subst a1;subst a2;have qS:IsTup h₂ T #[.int (aO as i) t1,.int (aO bs i) t2]:=by refine ar hT λo ho r=>?_;clear hT;exact⟨o,hZ _ _ (W.apart _ _ _ hM) ho,r⟩
  refine assign_Tuple_tuple hh qS rfl rfl λh₃ he=>?_;have FW:∀b o,h₂.get? b=some o->h₃.get? b=some o:=λb o e=>he b o (OI (ON e)) e;have hk12:∀b o,b∉[z,TO,i1,i2]->H.get? b=some o->h₃.get? b=some o:=λb o hb e=>FW b o (hZ b o hb (el b o hb e));refine assignInOrder_cons (wpAny_assign_Name (OR hx (fe.at' λo e=>hk12 _ o hCw e) (λh₄ gh eV=>?_) hp));refine assignInOrder_cons (wpAny_assign_Name (OR zi gh (λh₅ pg fC=>?_) hp));refine assignInOrder_nil ?_;have up5:∀b o,b≠cenv.locals->h₃.get? b=some o->h₅.get? b=some o:=λb o hb e=>fC.extBut b o hb (eV.extBut b o hb e);have up:∀b o,b≠cenv.locals->b∉[z,TO,i1,i2]->H.get? b=some o->h₅.get? b=some o:=λb o jA uD e=>up5 b o jA (hk12 b o uD e);have Kd:∀b o,b≠cenv.locals->b∉[z,TO,i1,i2]->b≠D->s.heap.get? b=some o->h₅.get? b=some o:=λb o jA uD n9 e=>up b o jA uD (hk b o jA uD n9 e);refine dm i _ t1 t2 h₅ cN (pf _ Kd) pg (by rw[if_neg wg,if_pos rfl]) (by rw[if_pos rfl]) _ _ _ (ak _) λy h₆ iq PX hy=>?_;refine aR hy λt' j1=>?_;clear hy;subst j1;have zj:=hF.length;have hac:ac.size<=sizeLine:=by
   have:ac.toList.length=ac.size:=by simp
   rw[List.length_map,List.length_range] at zj;rw[sizeLine_eq];omega
  have st5:=W.frame _ _ h₆ eQ λb hb o e=>PX _ _ (up5 b o (λq=>hCf (q▸hb)) (FW b o e));refine wpAny_list_append_plain (hsz:=hac) (iA.at λo e=>PX _ o (up D o kO hDw e)) λh₇ Ke fG=>?_;refine hB (as.length+1-(i+1)) _ ⟨h₇,iq,_,_,i+1,rfl,?_,Ke,(pg.keeps PX).sameBut fG (OS kO),?_,cN,rfl,λb o jA uD n9 e=>fG.extBut b o n9 (PX b o (Kd b o jA uD n9 e))⟩ (by omega)
  ·exact W.frame _ _ h₇ st5 λb hb o e=>fG.extBut b o (λq=>hDf (q▸hb)) e
  ·rw[Array.toList_push,List.range_succ,List.map_append]
   exact IntsAre.append hF (.cons _ t' .nil)
 ·have qE:i=as.length:=by omega
  subst qE;refine W.done _ _ _ gC λh₁ bg el=>hd _ ?_;exact hR h₁ bg m' ac (fe.at' λo e=>el _ o hCw e) (iA.at λo e=>el _ o hDw e) hF λb o jA uD n9 e=>el b o uD (hk b o jA uD n9 e)
theorem Ev.Kf{x:Str}{tp:Pos}{cl:List (Str×Addr)}{bs:List Int}(g:Nat->Int)(cP:closureFor scope env=pure cl)(aQ:∀y∈scope.names,y.2≠.cell)(bK:scope.kind = .function)(cV:∀y∈scope.names,y.2 = .local->scope.names.lookup y.1=some .local)(hx:scope.names.lookup x=some .local)(zi:scope.names.lookup x₂=some .local)(wg:x≠x₂)(hh:A.handled=none)(hlen:bs.length=as.length)(hsz:as.length<=100)(hit:∀h',h.StaysIn h'->Ev w A h' env iter (zg h' as bs))(dm:∀i C PR t u h',i<as.length->h.StaysIn h'->h'.Ns C PR->PR x=some (.int (aO as i) t)->PR x₂=some (.int (aO bs i) u)->eI w A h' (compEnvC scope cl C env) elt (g i))(hs:∀x,foldedSetIterable iter env x=pure x:=by intro _;rfl):
  Ev w A h env (.ListComp elt [⟨.Tuple [.Name x px,.Name x₂ Bz] oL tp,iter,[],0⟩] scope pos) (LI ((List.range as.length).map g)):=λs Q E dI hq=>by
 rw[eval_ListComp];refine wpAny_comprehension_free (use:=none) rfl hs cP bK cV (hit s.heap dI s _ _ (ak _) λv h₁ bg PO PV=>?_);refine CK PV λz TI TO i1 i2 l1 l2 xs ys j7=>BC j7 λj8 ZA st DG BG new=>?_;clear PV j7;subst j8;have W:=WalksT.zip2 (prog:=pw) (w:=w) hh z TI TO i1 i2 l1 l2 ZA xs.toArray ys.toArray;refine W.self 0 _ _ _ st ?_;refine O5 (wpAny_newFunctionEnv aQ (by intro y hy;simp at hy) (λh₃ jx fZ=>?_) bK);dsimp only at jx fZ ⊢;generalize hH3:h₁.push {cls:=.type "list",dict:=none,data:=.seq ([]:List Value).toArray}=H3 at jx fZ ⊢;have hC:H3.objs.size=h₁.objs.size+1:=by rw[<-hH3,Heap.size_push]
 have kO:h₁.objs.size≠H3.objs.size:=by rw[hC];exact OI (OY _)
 have old:∀b o,h₁.get? b=some o->b≠H3.objs.size/\b≠h₁.objs.size/\h₃.get? b=some o:=λb o e=>by
  have hb:=ON e;have h1:b≠H3.objs.size:=by rw[hC];exact OI (Ox hb)
  exact⟨h1,OI hb,fZ.extBut b o h1 (K' _ (hH3▸K' _ e))⟩
 have ex:∀b∈[z,TI,TO,i1,i2,l1,l2],∃o,h₁.get? b=some o:=λb hb=>by refine FV st λs1 s2 j2 j3 j4 j5 j6=>oM j2 λ_ _ s3=>ar j3 λ_ s4 _=>ar j4 λ_ s5 _=>ar j5 λ_ s6 _=>ar j6 λ_ s7 _=>?_;clear st j2 j3 j4 j5 j6;exact KJ hb ⟨_,s1⟩ ⟨_,s2⟩ ⟨_,s3⟩ ⟨_,s4⟩ ⟨_,s5⟩ ⟨_,s6⟩ ⟨_,s7⟩
 have st₃:=W.frame 0 _ h₃ st λb hb o e=>(old b o e).2.2;have gY:h₃.PlainList h₁.objs.size #[]:=⟨_,fZ.extBut _ _ kO (K' _ (hH3▸OC _ rfl))⟩;have Kg:∀b o,s.heap.get? b=some o->b∉[z,TO,i1,i2]:=λb o e hb=>by rw[new b hb] at e;cases e
 refine codeAny_compStart_list ?loop (W.self 0 _ _ _ st₃ ?loop);refine zh (cenv:=compEnvC scope cl H3.objs.size env) (h:=h) g hh ZA DG BG hlen (lookup_relabel_local hx) (lookup_relabel_local zi) wg (by simp[compEnvC,relabel,bK]) kO
  (λhm=>by refine aR (ex _ hm) λo e=>(old _ _ e).2.1 rfl) (λhm=>by refine aR (ex _ hm) λo e=>(old _ _ e).1 rfl) st₃ gY jx hsz
  (λh' k b o e=>let q:=old b o (PO _ _ (dI _ _ e));k b o q.1 (Kg b o (dI _ _ e)) q.2.1 q.2.2)
  (λi PR t u h' hi k hn hm iI=>dm i _ PR t u h' hi k hn hm iI) λh' tk m' ys fe hl hi k=>?_
 refine⟨m',fe,λf5 mj=>?_⟩;have Fe:=hl.extBut mj.extBut kO;refine hq (.ref h₁.objs.size) f5 tk (λb o e=>?_) ⟨h₁.objs.size,ys.toList,rfl,by simpa using Fe.isList,hi⟩;have q:=old b o (PO _ _ e);exact mj.extBut b o q.1 (k b o q.1 (Kg b o e) q.2.1 q.2.2)
noncomputable abbrev fO(ns:List Int):Int:=preSum (λi=>bA ns i*bA ns i) ns.length
structure fP(xs ys:List Int)(my c f:Int):Prop where
 L:c8 xs ys my c
 fb:f.natAbs<=4
 dyy:bD ys ys my my=f*f*bD xs xs 0 0
 cb:f.natAbs*(bD xs xs 0 0).natAbs<5900000
 sq:f≠0->fO ys=fO xs
 sy0:f=0->fO ys=0
 sx0:bD xs xs 0 0=0->fO xs=0
 sxp:bD xs xs 0 0≠0->0<fO xs
theorem cM(ns:List Int)(p:Nat):(bA ns p).natAbs<=ns.length:=by have h1:(ns.countP λu=>decide (u<ns.getD p 0))<=ns.length:=List.countP_le_length;have h2:(ns.countP λu=>decide (ns.getD p 0<u))<=ns.length:=List.countP_le_length;unfold bA;exact nbB h1 h2
theorem e7(ns:List Int){p:Nat}(hp:p<ns.length):aO (bT ns) p=bA ns p:=by rw[<-pe ns p hp];simp[aO]
theorem vo(ns:List Int){p:Nat}(hp:p<ns.length):aO (nZ ns) p=8*bA ns p:=by rw[<-y6];unfold nZ;simp[aO,hp]
theorem Fu(ns:List Int):((bT ns).map λa=>a*a).sum=fO ns:=by rw[<-iU];rw[List.length_map,b9];exact dw _ λi hi=>by rw[jZ _ (by rw[b9];exact hi),e7 ns hi]
theorem Bq(xs ys:List Int)(hl:ys.length=xs.length):((List.range (bT xs).length).map λi=>aO (bT xs) i*aO (bT ys) i).sum=preSum (λi=>bA xs i*bA ys i) xs.length:=by rw[gO,b9];exact dw _ λi hi=>by rw[e7 xs hi,e7 ys (by rw[hl];exact hi)]
theorem qv(xs ys:List Int)(h6:xs.length<=6)(h6':ys.length<=6)(hx:i<xs.length)(hy:i<ys.length):
  aO (nZ xs) i*aO (nZ ys) i=(4*(bA xs i*bA ys i))*16/\(4*(bA xs i*bA ys i)).natAbs<=2^40:=by
 rw[vo xs hx,vo ys hy];constructor
 ·rw[Int.mul_assoc 8,Int.mul_left_comm (bA xs i) 8];omega
 ·have:=aY (a:=bA xs i) (b:=bA ys i) (A:=6) (B:=6) (C:=36) (OB (cM xs i) h6) (OB (cM ys i) h6') (by decide)
  omega
namespace fP
variable{f:Int} (D:fP xs ys my c f)
include D
theorem zk:ys.length<=6:=by rw[D.L.len];exact D.L.six
theorem prod:bD xs xs 0 0*bD ys ys my my=((f.natAbs*(bD xs xs 0 0).natAbs:Nat):Int)*((f.natAbs*(bD xs xs 0 0).natAbs:Nat):Int):=by
 rw[D.dyy];have h1:((bD xs xs 0 0).natAbs:Int)=bD xs xs 0 0:=by have:=D.L.Fn;omega
 have h2:((f.natAbs:Nat):Int)*(f.natAbs:Nat)=f*f:=by
  rcases Int.natAbs_eq f with h|h
  ·rw[<-h]
  ·have:((f.natAbs:Nat):Int) = -f:=by omega
   rw[this,Int.neg_mul_neg]
 push_cast;rw[h1];generalize bD xs xs 0 0=T at *;generalize ((f.natAbs:Nat):Int)=a at *;rw[<-h2,Int.mul_assoc a T,Int.mul_left_comm T a T,<-Int.mul_assoc a a,Int.mul_left_comm T (a*a) T]
theorem c0(h:bD xs xs 0 0=0∨f=0):f.natAbs*(bD xs xs 0 0).natAbs=0:=by
 rcases h with h|h
 ·rw[h];rfl
 ·rw[h];simp
theorem cne(hT:bD xs xs 0 0≠0)(hf:f≠0):f.natAbs*(bD xs xs 0 0).natAbs≠0:=Nat.mul_ne_zero (by omega) (by omega)
theorem sB:fO xs<=216/\0<=fO xs:=by have h1:=bO (λi=>bA xs i*bA xs i) xs.length 36 λi hi=>aY (A:=6) (B:=6) (OB (cM xs i) D.L.six) (OB (cM xs i) D.L.six) (by decide);have h2:0<=fO xs:=dH _ _ λi hi=>bQ _;have h3:xs.length*36<=6*36:=OU _ D.L.six;unfold fO at *;exact⟨by omega,h2⟩
end fP
section
variable{a b:Addr}{f:Int}
abbrev zm(S T:Int):Value->Heap->Prop:=λv _=>∃z t,v = .float z t/\t≠0/\dt S T z
theorem qw{f:Value}{P:Value->Prop}(H:df w A frs cs h f vs kw (λv _=>n≠0/\P v) (if n=0 then some bG else none))(hn:n≠0):df w A frs cs h f vs kw (λv _=>P v) x:=by rw[if_neg hn] at H;exact (H.mono λv h' _ p=>p.2).vk
theorem vp{f:Value}{P:Value->Prop}(H:df w A frs cs h f vs kw (λv _=>n≠0/\P v) (if n=0 then some bG else none))(hn:n=0):df w A frs cs h f vs kw (λ_ _=>False) (some bG):=by rw[if_pos hn] at H;exact H.mono λv h' _ p=>p.1 hn
theorem vv(D:fP xs ys my c f)(G:Gl w h)(hA:A.frames=some (frs.map (·.1)))(hh:A.handled=none)(hd:A.depth+10<recursionLimit)(lx:LI xs (.ref a) h)(ly:LI ys (.ref b) h):
  df w A frs cs h (.ref 349) [.ref a,.ref b] [] (λv _=>f.natAbs*(bD xs xs 0 0).natAbs≠0/\∃z t,v = .float z t/\t≠0/\dt (bD xs ys 0 my) (f.natAbs*(bD xs xs 0 0).natAbs:Nat) z) (if f.natAbs*(bD xs xs 0 0).natAbs=0 then some bG else none):=
 AE G hA lx ly D.L.len D.L.two (OB D.L.six (by decide)) hh hd D.L.mx D.L.GD D.L.Fj D.L.sy (λi hi=>by rw[Int.sub_zero];exact OB (D.L.w3 i hi) (by decide)) (λi hi=>by rw[Int.sub_zero];exact OB (D.L.yk i hi) (by decide))
  (λi hi=>aY (D.L.bY i hi) (D.L.bY i hi) (by decide)) D.prod D.cb
theorem zo(D:fP xs ys my c f)(G:Gl w h)(hA:A.frames=some (frs.map (·.1)))(hh:A.handled=none)(hd:A.depth+10<recursionLimit)(lx:LI xs (.ref a) h)(ly:LI ys (.ref b) h):
  df w A frs cs h (.ref 349) [.ref b,.ref a] [(sn "method",.str (Str.ofString "linear") t)] (λv _=>f.natAbs*(bD xs xs 0 0).natAbs≠0/\∃z t,v = .float z t/\t≠0/\dt (bD ys xs my 0) (f.natAbs*(bD xs xs 0 0).natAbs:Nat) z) (if f.natAbs*(bD xs xs 0 0).natAbs=0 then some bG else none):=
 have len:=D.L.len
 yn G hA ly lx D.L.len.symm (by rw[len];exact D.L.two) (by rw[len];exact OB D.L.six (by decide)) hh hd D.L.GD D.L.mx (by rw[len];exact D.L.sy) (by rw[len];exact D.L.Fj) (λi hi=>by rw[Int.sub_zero,Int.mul_comm];exact OB (D.L.w3 i (len▸hi)) (by decide))
  (λi hi=>aY (D.L.bY i (len▸hi)) (D.L.bY i (len▸hi)) (by decide)) (λi hi=>by rw[Int.sub_zero];exact OB (D.L.yk i (len▸hi)) (by decide)) (by rw[Int.mul_comm];exact D.prod) D.cb
theorem sz(D:fP xs ys my c f)(G:Gl w h)(hA:A.frames=some (frs.map (·.1)))(hh:A.handled=none)(hd:A.depth+2<=320)(hu:A.units<=34)(lx:bt xs (.ref a) h)(ly:bt ys (.ref b) h)(hn:n=if f=0 then 0 else 4*(fO xs).natAbs):
  df w A frs cs h (.ref 349) [.ref a,.ref b] [(sn "method",.str (Str.ofString "ranked") t)] (λv _=>n≠0/\∃z t,v = .float z t/\t≠0/\dt (preSum (λi=>4*(bA xs i*bA ys i)) xs.length) n z) (if n=0 then some bG else none):=by
 have len:=D.L.len;refine cA D.sB λs1 s2=>?_;have hsy:fO ys=if f=0 then 0 else fO xs:=by
  by_cases hf:f=0
  ·rw[if_pos hf];exact D.sy0 hf
  ·rw[if_neg hf];exact D.sq hf
 have e1:preSum (λi=>4*(bA xs i*bA xs i)) xs.length=4*fO xs:=cO _ _ _;have e2:preSum (λi=>4*(bA ys i*bA ys i)) xs.length=4*fO ys:=by rw[<-len];exact cO _ _ _
 refine qo (cxy:=λi=>4*(bA xs i*bA ys i)) (cxx:=λi=>4*(bA xs i*bA xs i)) (cyy:=λi=>4*(bA ys i*bA ys i)) (k:=fO xs*fO ys) (c:=n) G hA lx ly len D.L.two D.L.six hh hd hu
  (λi hi=>qv xs ys D.L.six D.zk hi (len▸hi)) (λi hi=>qv xs xs D.L.six D.L.six hi hi) (λi hi=>qv ys ys D.zk D.zk (len▸hi) (len▸hi)) ?_ ?_ ?_ ?_
 ·rw[e1,e2,Int.mul_assoc,Int.mul_left_comm (fO xs)]
  generalize fO xs*fO ys=q;omega
 ·rw[hn,hsy]
  by_cases hf:f=0
  ·rw[if_pos hf,if_pos hf];simp
  ·rw[if_neg hf,if_neg hf]
   have:((fO xs).natAbs:Int)=fO xs:=by omega
   push_cast;rw[this,Int.mul_assoc,Int.mul_left_comm (fO xs)];generalize fO xs*fO xs=q;omega
 ·rw[hsy]
  by_cases hf:f=0
  ·rw[if_pos hf,Int.mul_zero];decide
  ·rw[if_neg hf]
   exact OV (aY (A:=216) (B:=216) (by omega) (by omega) (OM _)) (by decide)
 ·rw[hn]
  split
  ·decide
  ·have:4*(fO xs).natAbs<=864:=by omega
   exact OV this (by decide)
end
theorem Fv:bootBuiltins (Str.ofString "abs")=some (.builtin "abs"):=by decide+kernel
theorem TG.or(mE:TG w A frs cs h env bB b₁ x)(iZ:TG w A frs cs h env bR b₂ x):TG w A frs cs h env (.BoolOp .Or [bB,bR] pos) (b₁||b₂) x:=λs hb Q E hs O hq he=>
 isTrue_or (mE s hb _ _ hs O (λc aB h₁ PO aM bJ ba=>by
  subst ba;cases c with
  |true=>exact hq _ aB h₁ PO aM bJ rfl
  |false=>exact isTrue_or (iZ aB h₁ _ _ (ai hs PO) aM (λc bN h₂ PQ cC eC cF=>by
    subst cF;cases c with
    |true=>exact hq _ bN h₂ (ai PO PQ) cC (bJ.trans eC) rfl
    |false=>exact isTrue_or_nil (hq _ bN h₂ (ai PO PQ) cC (bJ.trans eC) rfl)) (λws a s' e g X=>he ws a s' e (bJ.trans g) (X.back bJ.bP.cE)))) he)
theorem Fw{n:Int}:Cl w A h (.builtin "abs") [.int n t] [] (iO (n.natAbs:Nat)):=λs Q E hs hq=>
 call_abs_int λu tk=>hq _ s.heap tk (ak _) ⟨u,by rw[ite_abs']⟩
noncomputable abbrev j0(L:Addr):Env:=envOfC (sn "_law_agreed") HC L 465 (.ref 464)
theorem zp{p:Params}(X:(K p).In h):CodeHd h 464 462:=gm X rfl rfl
section
variable{a b:Addr}{f:Int}
theorem oJ(G:Gl w h)(hA:A.frames=some (frs.map (·.1)))(tx:bt xs (.ref a) h)(ty:bt ys (.ref b) h)(D:fP xs ys my c f)(hh:A.handled=none)(hd:A.depth+10<=320)(hu:A.units<=24):
  df w A frs cso h (.ref 465) [.ref a,.ref b,.int f t] [] (iN true) x:=by
 have uO:400<recursionLimit:=by decide
 have wH:100<cLine:=by decide
 refine df.def (binds:=[(sn "x",.ref a),(sn "y",.ref b),(sn "factor",.int f t)]) G hA (by k_is) rfl (by k_is) (by omega) (λs _=>.of_eq rfl) rfl (by decide) (λL g hg aQ=>?_);have cx:=aQ (sn "x") (L+1) (.ref a) (by simp[cellsFrom]) rfl;have cy:=aQ (sn "y") (L+2) (.ref b) (by simp[cellsFrom]) rfl;clear aQ;show aP _ _ _ (j0 L) _ [] _ [L,L+2,L+1] _ (upd (λ_=>none) (sn "factor") (.int f t)) _ _ _;have jz:∀{m:Str->Option Value},(A.deeper (j0 L)).frames=some (((j0 L,m)::frs).map (·.1)):=by intro m;exact Ow hA
 have hA2:(A.deeper (j0 L)).handled=none:=hh;have hA3:(A.deeper (j0 L)).depth=A.depth+1:=rfl;have hA4:(A.deeper (j0 L)).units=A.units+3:=rfl;generalize A.deeper (j0 L)=B at *;have Gg:=G.mono hg;have txg:=bt.av _ _ _ hg tx;have tyg:=bt.av _ _ _ hg ty;have lK:=bt.li txg;have l0:=bt.li tyg;have hn2:=D.L.two;have hn6:=D.L.six;have len:=D.L.len;have X:∀{h':Heap}{p:Pos},g.StaysIn h'->Ev w B h' (j0 L) (.Name (sn "x") p) (cG xs a):=λk=>Ev.mono (Ev.bj (v:=.ref a) (c:=L+1) (aq k cx)) λv h1 k1 e=>⟨e,e▸LI.av _ _ _ (ai k k1) lK⟩;have Y:∀{h':Heap}{p:Pos},g.StaysIn h'->Ev w B h' (j0 L) (.Name (sn "y") p) (cG ys b):=λk=>Ev.mono (Ev.bj (v:=.ref b) (c:=L+2) (aq k cy)) λv h1 k1 e=>⟨e,e▸LI.av _ _ _ (ai k k1) l0⟩;refine aP.assign (P:=iO (pairs xs xs)) (aF.of (λh' k N=>Ev.call2 (f:=.ref 431) (Ev.aD (Gg.mono k) (by k_is)) (Kp.K (Gg.mono k) (by k_is)) (X k) cG.av (X k) cG.av
  (λv u h1 Bp q q'=>iC ((Gg.mono k).mono Bp) q.2 q'.2 rfl (by omega) hA2 (by omega) (λi j hj hi=>D.L.zc i j hj hi _))) aj) (λv g1 k1 hv=>?_) (by rfl)
 refine aR hv λta sF=>?_;clear hv;subst sF;have G1:=Gg.mono k1;by_cases hz:bD xs xs 0 0=0∨f=0
 ·have hzp:(pairs xs xs==0||f==0)=true:=by
   rcases hz with hz|hz
   ·rw[D.L.CD,hz,Int.mul_zero];rfl
   ·rw[hz];simp
  refine aP.enter (TG.cast (TG.or (TG.of (λh' k N=>de.eq (Ev.cS (Ev.ao (N _ (.head _)))) Ev.int)) (TG.of (λh' k N=>de.eq (Ev.cS (Ev.ao (v:=.int f t) (N _ (.head _)))) Ev.int))) hzp) (λg2 k2=>?_);have k02:=ai k1 k2;refine aP.assign (P:=λv _=>∃t,v = .str bG t) (aF.of (λh' k N=>Ev.uj (by rfl)) aj) (λv g3 k3 hv=>?_) (by rfl);refine aR hv λtw w0=>?_;clear hv;subst w0;refine aP.hold ?_;intro m;have k03:=ai k02 k3;have G3:=Gg.mono k03;have cn:=D.c0 hz;refine aP.ret (P:=iN true) (aF.and (b₁:=true) (b₂:=true) (eZ (ws:=bG) (cl:=[(sn "y",L+2),(sn "x",L+1)]) G3 jz hA2 (by omega) (by omega) (by rfl) (by rfl) (by rfl) (by rfl) (zp G3.K) (by show (462,sn "_law_agreed.<locals>.<lambda>")∈TT;decide) (by rfl)
   (aF.of (λh' k N=>Ev.mono (Ev.ao (v:=.str bG tw) (N _ (.head _))) λv h _ e=>⟨tw,e⟩) aj) (λB' F' cs' g' L' f' cv hB1 hB2 hB3 hB4 kg=>?_) (λ_ _ _=>rfl) (by decide)) λg4 k4 _=>aF.and1 (eZ (ws:=bG) (cl:=[(sn "y",L+2),(sn "x",L+1)]) (G3.mono k4) jz hA2 (by omega) (by omega) (by rfl) (by rfl) (by rfl) (by rfl) (zp (G3.mono k4).K) (by show (462,sn "_law_agreed.<locals>.<lambda>")∈TT;decide) (by rfl)
   (aF.of (λh' k N=>Ev.mono (Ev.ao (v:=.str bG tw) (N _ (.head _))) λv h _ e=>⟨tw,e⟩) aj) (λB' F' cs' g' L' f' cv hB1 hB2 hB3 hB4 kg=>?_) (λ_ _ _=>rfl) (by decide))) (λv h' _ p=>p)
  ·refine aF.call2 (f:=.ref 349) (P₁:=ff (.ref a)) (P₂:=ff (.ref b)) (aF.of (λh' k N=>Ev.aD ((G3.mono kg).mono k) (by k_is)) aj) (Kp.K (G3.mono kg) (by k_is)) (aF.of (λh' k N=>Ev.d7 (c:=L+1) (aq (ai k03 (ai kg k)) cx)) aj) aA
    (aF.of (λh' k N=>Ev.d7 (c:=L+2) (aq (ai k03 (ai kg k)) cy)) aj) aA (λv u h1 k1 q q'=>?_)
   obtain rfl:v = .ref a:=q;obtain rfl:u = .ref b:=q';have kk:=ai k03 (ai kg k1);exact vp (vv D (Gg.mono kk) hB1 hB2 (by omega) (LI.av _ _ _ kk lK) (LI.av _ _ _ kk l0)) cn
  ·have zf:=ai k03 (ai k4 kg)
   refine aF.eu (f:=.ref 349) (nms:=[sn "method"]) (PL:=λvs h'=>∃v r,vs=v::r/\v = .ref a/\∃v',r=[v']/\v' = .ref b) (PK:=λks h'=>∃v r,ks=v::r/\(∃t,v = .str (Str.ofString "ranked") t)/\r=[])
    (aF.of (λh' k N=>Ev.aD ((Gg.mono zf).mono k) (by k_is)) aj) (Kp.K (Gg.mono zf) (by k_is))
    (cw.cons (aF.of (λh' k N=>Ev.d7 (c:=L+1) (aq (ai zf k) cx)) aj) aA (cw.one (aF.of (λh' k N=>Ev.d7 (c:=L+2) (aq (ai zf k) cy)) aj) aA))
    (λh₁ PO=>di.cons (aF.of (λh' k N=>Ev.uj (by rfl)) aj) aA di.nil) (λvs h₁ h₂ k p=>p)
    (λus ks h₁ PO p q=>?_)
   obtain rfl:=ar2 p;refine aR (kwS q) λtr Az=>?_;subst Az;have kk:=ai zf PO;have hn0:(if f=0 then 0 else 4*(fO xs).natAbs)=0:=by
    by_cases hf:f=0
    ·rw[if_pos hf]
    ·rw[if_neg hf,D.sx0 (hz.resolve_right hf)];rfl
   exact vp (sz D (Gg.mono kk) hB1 hB2 (by omega) (by omega) (bt.av _ _ _ kk txg) (bt.av _ _ _ kk tyg) rfl) hn0
 ·have hT:bD xs xs 0 0≠0:=λe=>hz (.inl e)
  have hf:f≠0:=λe=>hz (.inr e);have hT0:=D.L.Fn;have hTp:0<bD xs xs 0 0:=by omega
  have hp:0<pairs xs xs:=by rw[D.L.CD];exact Int.mul_pos (by omega) hTp
  have Kh:0<(f.natAbs:Int):=by omega
  have hfb:=D.fb;have hq:=D.sxp hT;refine cA D.sB λs1 s2=>?_;have JK:=D.L.Fo;have Oc:=D.L.Ni;refine aP.skip (TG.cast (TG.or (TG.of (λh' k N=>de.eq (Ev.cS (Ev.ao (N _ (.head _)))) Ev.int)) (TG.of (λh' k N=>de.eq (Ev.cS (Ev.ao (v:=.int f t) (N _ (.head _)))) Ev.int))) (by simp;omega)) (λg2 k2=>?_);have k02:=ai k1 k2;have G2:=Gg.mono k02;refine aP.jN (P:=sf (pairs xs ys) ((f.natAbs:Nat)*pairs xs xs)) (fU.jy (aF.of (λh' k N=>Ev.call2 (f:=.ref 431) (Ev.aD (G2.mono k) (by k_is)) (Kp.K (G2.mono k) (by k_is)) (X (ai k02 k)) cG.av (Y (ai k02 k)) cG.av
    (λv u h1 Bp q q'=>iC ((G2.mono k).mono Bp) q.2 q'.2 len (by omega) hA2 (by omega) (λi j hj hi=>D.L.zc i j hj hi _))) aj)
   (aF.of (λh' k N=>Ev.mul (Ev.bz (P₁:=ff (.int f t)) (Ev.aE (G2.mono k) (by k_is) Fv) Kp.builtin (Ev.ao (N _ (.head _))) aA (λv h1 k1 q=>by obtain rfl:v = .int f t:=q;exact Fw)) (Ev.cS (Ev.ao (N _ (.head _)))) (fM (by omega))) aj)
   (Int.mul_pos Kh hp) (by omega)) (λv g3 k3 hv=>?_) (by rfl)
  refine ar hv λtl sY tln=>?_;clear hv;subst sY;refine aP.hold ?_;intro m;have k03:=ai k02 k3;have G3:=Gg.mono k03;refine aP.assign (P:=LI (bT xs)) (aF.of (λh' k N=>Ev.bz (f:=.ref 436) (Ev.aD (G3.mono k) (by k_is)) (Kp.K (G3.mono k) (by k_is)) (X (ai k03 k)) cG.av (λv h1 k1 q=>by refine cA q ?_;clear q;intro Aq q;subst Aq;exact iJ ((G3.mono k).mono k1) q (by omega) hA2 (by omega))) c5) (λv g4 k4 hv=>?_) (by rfl)
  have k04:=ai k03 k4;have G4:=Gg.mono k04;refine aG hv λls vls pX E6 ivs=>?_;clear hv;subst pX;refine aP.hold ?_;intro m;have lS:LI (bT xs) (.ref ls) g4:=⟨ls,vls,rfl,E6,ivs⟩;refine aP.jN (P:=sf (preSum (λi=>bA xs i*bA ys i) xs.length) (fO xs)) (fU.jy (aF.of (λh' k N=>Ev.mono (Ev.bz (P₁:=LI ((List.range (bT xs).length).map λi=>aO (bT xs) i*aO (bT ys) i)) (Ev.aE (G4.mono k) (by k_is) kR) Kp.builtin
    (Ev.Kf (x:=sn "a") (x₂:=sn "b") (cl:=[]) (as:=bT xs) (bs:=bT ys) (λi=>aO (bT xs) i*aO (bT ys) i) (by rfl) (by decide) (by rfl) (by decide) (by rfl) (by rfl) (by decide) hA2 (by rw[b9,b9,len]) (by rw[b9];omega) ?_ ?_)
    LI.av (λv h1 k1 q=>km hA2 q)) (λv h' _ bV=>by refine aR bV λt e=>⟨t,by rw[e,Bq xs ys len]⟩)) aj)
   (aF.of (λh' k N=>Ev.mono (Ev.bz (P₁:=LI ((bT xs).map λa=>a*a)) (Ev.aE (G4.mono k) (by k_is) kR) Kp.builtin
    (Ev.mono (Ev.mf (x:=sn "a") (cl:=[]) (ns:=bT xs) (λ_=>true) (λk=>k*k) (Ev.mono (Ev.ao (v:=.ref ls) (N _ (.head _))) (λv h1 k1 e=>e▸LI.av _ _ _ (ai k k1) lS)) (by rw[b9,sizeLine_eq];omega) hA2 (λ_ _ _ _ _ _ _ _ _=>.inl ⟨rfl,rfl⟩)
     (λj hj _ C t m h' k2 hn hm=>Ev.mul (Ev.cS (Ev.ao hn hm)) (Ev.cS (Ev.ao hn hm)) (fM ?_)) (by rfl) (by decide) (by rfl) (by decide) (by rfl)) (λv h' _ q=>by rw[List.filter_eq_self.mpr λ_ _=>rfl] at q;exact q))
    LI.av (λv h1 k1 q=>km hA2 q)) (λv h' _ bV=>by refine aR bV λt e=>⟨t,by rw[e,Fu]⟩)) aj) hq ?_) (λv g5 k5 hv=>?_) (by rfl)
  ·intro f5 CF
   refine Ev.call2 (f:=.type "zip") (P₁:=LI (bT xs)) (P₂:=LI (bT ys)) (Ev.aE (G4.mono (ai k CF)) (by k_is) yN) Kp.type
    (Ev.mono (Ev.ao (v:=.ref ls) ((N _ (.head _)).keeps CF)) (λv h1 k1 e=>e▸LI.av _ _ _ (ai k (ai CF k1)) lS)) LI.av
    (Ev.bz (f:=.ref 436) (Ev.aD (G4.mono (ai k CF)) (by k_is)) (Kp.K (G4.mono (ai k CF)) (by k_is)) (Y (ai k04 (ai k CF))) cG.av (λv h1 k1 q=>by refine cA q ?_;clear q;intro ro q;subst ro;exact iJ ((G4.mono (ai k CF)).mono k1) q (by omega) hA2 (by omega))) LI.av
    (λv u h1 k1 q q'=>Ft k1 q q')
  ·intro i C PR t1 t2 f5 hi CF hn hm iI
   refine Ev.mul (Ev.cS (Ev.ao hn hm)) (Ev.cS (Ev.ao hn iI)) (fM ?_);rw[e7 xs (by rw[b9] at hi;exact hi)];exact OV (OB (cM xs i) hn6) (by decide)
  ·have:=l8 (ns:=bT xs) (B:=6) (λi hi=>by rw[b9] at hi;rw[e7 xs hi];exact OB (cM xs i) hn6) j hj
   exact OV this (by decide)
  ·have:=bO (λi=>bA xs i*bA ys i) xs.length 36 λi hi=>aY (A:=6) (B:=6) (OB (cM xs i) hn6) (OB (cM ys i) D.zk) (by decide)
   have h3:xs.length*36<=6*36:=OU _ hn6;exact OV (OB this h3) (by decide)
  refine ar hv λtr pY trn=>?_;clear hv;subst pY;refine aP.hold ?_;intro m;have k05:=ai k04 k5;have G5:=Gg.mono k05;have rF:=D.cne hT hf;have hn4:(if f=0 then 0 else 4*(fO xs).natAbs)≠0:=by rw[if_neg hf];omega
  refine aP.assign (P:=λv h'=>∃D vs,v = .ref D/\h'.IsList D (List.toArray vs)/\∃v1 r1,vs=v1::r1/\zm (bD xs ys 0 my) (f.natAbs*(bD xs xs 0 0).natAbs:Nat) v1 h'/\∃v2 r2,r1=v2::r2/\zm (bD ys xs my 0) (f.natAbs*(bD xs xs 0 0).natAbs:Nat) v2 h'/\∃v3,r2=[v3]/\zm (preSum (λi=>4*(bA xs i*bA ys i)) xs.length) (if f=0 then 0 else 4*(fO xs).natAbs:Nat) v3 h')
   (aF.list (cw.cons ?_ aA (cw.cons ?_ aA (cw.one ?_ aA))) (λ_ _ _ _ p=>p) (λvs h' bV=>by refine aG bV λv r e _ jc=>aG jc λv' r' e' _ uH=>ar uH λv3 e3 _=>by subst e;subst e';subst e3;simp)) (λv g6 k6 hv=>?_) (by rfl)
  ·exact aF.call2 (f:=.ref 349) (aF.of (λh' k N=>Ev.aD (G5.mono k) (by k_is)) aj) (Kp.K G5 (by k_is)) (aF.of (λh' k N=>X (ai k05 k)) bo) cG.av (aF.of (λh' k N=>Y (ai k05 k)) bo) cG.av
    (λv u h1 k1 q q'=>by refine cA q ?_;clear q;intro iY q;subst iY;refine cA q' ?_;clear q';intro eR q';subst eR;exact qw (vv D (G5.mono k1) jz hA2 (by omega) q q') rF)
  ·refine aF.eu (f:=.ref 349) (nms:=[sn "method"]) (PL:=λvs h'=>∃v r,vs=v::r/\cG ys b v h'/\∃v',r=[v']/\cG xs a v' h') (PK:=λks h'=>∃v r,ks=v::r/\(∃t,v = .str (Str.ofString "linear") t)/\r=[])
    (aF.of (λh' k N=>Ev.aD (G5.mono k) (by k_is)) aj) (Kp.K G5 (by k_is))
    (cw.cons (aF.of (λh' k N=>Y (ai k05 k)) bo) cG.av (cw.one (aF.of (λh' k N=>X (ai k05 k)) bo) cG.av))
    (λh₁ PO=>di.cons (aF.of (λh' k N=>Ev.uj (by rfl)) aj) aA di.nil) (λvs h₁ h₂ k bV=>by refine aG bV λv r e p ib=>ar ib λv' e' p'=>⟨v,r,e,cG.av _ _ _ k p,v',e',cG.av _ _ _ k p'⟩)
    (λus ks h₁ PO p q=>?_)
   refine du (Fi p) λeS y y'=>?_;subst eS;refine aR (kwS q) λtt j9=>?_;subst j9;exact qw (zo D (G5.mono PO) jz hA2 (by omega) y' y) rF
  ·refine aF.eu (f:=.ref 349) (nms:=[sn "method"]) (PL:=λvs h'=>∃v r,vs=v::r/\cG xs a v h'/\∃v',r=[v']/\cG ys b v' h') (PK:=λks h'=>∃v r,ks=v::r/\(∃t,v = .str (Str.ofString "ranked") t)/\r=[])
    (aF.of (λh' k N=>Ev.aD (G5.mono k) (by k_is)) aj) (Kp.K G5 (by k_is))
    (cw.cons (aF.of (λh' k N=>X (ai k05 k)) bo) cG.av (cw.one (aF.of (λh' k N=>Y (ai k05 k)) bo) cG.av))
    (λh₁ PO=>di.cons (aF.of (λh' k N=>Ev.uj (by rfl)) aj) aA di.nil) (λvs h₁ h₂ k bV=>by refine aG bV λv r e p j8=>ar j8 λv' e' p'=>⟨v,r,e,cG.av _ _ _ k p,v',e',cG.av _ _ _ k p'⟩)
    (λus ks h₁ PO p q=>?_)
   refine du (Fi p) λj7 y y'=>?_;subst j7;refine aR (kwS q) λtt j6=>?_;subst j6;have kk:=ai k05 PO;exact qw (sz D (Gg.mono kk) jz hA2 (by omega) (by omega) (bt.av _ _ _ kk txg) (bt.av _ _ _ kk tyg) rfl) hn4
  refine BA (Nd hv) λd z1 t1 z2 t2 z3 t3 j4=>qL j4 λj5 il n1 c1 n2 c2 n3 c3=>?_;clear j4;subst j5;have G6:=G5.mono k6;have hfT:((f.natAbs*(bD xs xs 0 0).natAbs:Nat):Int)=(f.natAbs:Nat)*bD xs xs 0 0:=by push_cast;rw[show ((bD xs xs 0 0).natAbs:Int)=bD xs xs 0 0 by omega]
  have Ki:∀S:Int,S=bD xs ys 0 my->S*((f.natAbs:Nat)*pairs xs xs)=pairs xs ys*((f.natAbs*(bD xs xs 0 0).natAbs:Nat):Int):=λS e=>by rw[e,hfT,D.L.CD,D.L.GG,Int.mul_left_comm (f.natAbs:Int),Int.mul_assoc,Int.mul_left_comm]
  have hr1:Float64.cmp z1 (Mine.jy (pairs xs ys) ((f.natAbs:Nat)*pairs xs xs))=some .eq:=c1.2 _ _ (Int.mul_pos Kh hp) (Ki _ rfl) (by omega);have hr2:Float64.cmp z2 (Mine.jy (pairs xs ys) ((f.natAbs:Nat)*pairs xs xs))=some .eq:=c2.2 _ _ (Int.mul_pos Kh hp) (Ki _ (sj len)) (by omega);have hr3:Float64.cmp z3 (Mine.jy (preSum (λi=>bA xs i*bA ys i) xs.length) (fO xs))=some .eq:=by
   refine c3.2 _ _ hq ?_ ?_
   ·rw[if_neg hf,cO]
    have:(((4*(fO xs).natAbs:Nat)):Int)=4*fO xs:=by omega
    rw[this,Int.mul_assoc,Int.mul_left_comm]
   ·have:=bO (λi=>bA xs i*bA ys i) xs.length 36 λi hi=>aY (A:=6) (B:=6) (OB (cM xs i) hn6) (OB (cM ys i) D.zk) (by decide)
    have h3:xs.length*36<=6*36:=OU _ hn6;exact OV (OB this h3) (by decide)
  refine aP.ret (P:=iN true) (aF.call2 (f:=.ref 448) (P₁:=ff (.ref d)) (aF.of (λh' k N=>Ev.aD (G6.mono k) (by k_is)) aj) (Kp.K G6 (by k_is)) (aF.of (λh' k N=>Ev.ao (N _ (.head _))) aj) aA
   (aF.list (cw.cons (P₁:=ff (.float (Mine.jy (pairs xs ys) ((f.natAbs:Nat)*pairs xs xs)) tl)) (aF.of (λh' k N=>Ev.ao (N _ (.head _))) aj) aA (cw.cons (P₁:=ff (.float (Mine.jy (pairs xs ys) ((f.natAbs:Nat)*pairs xs xs)) tl)) (aF.of (λh' k N=>Ev.ao (N _ (.head _))) aj) aA
    (cw.one (P₁:=ff (.float (Mine.jy (preSum (λi=>bA xs i*bA ys i) xs.length) (fO xs)) tr)) (aF.of (λh' k N=>Ev.ao (N _ (.head _))) aj) aA))) (λ_ _ _ _ p=>p) (λvs h' bV=>by refine aG bV λv r e _ j2=>aG j2 λv' r' e' _ j3=>ar j3 λv3 e3 _=>by subst e;subst e';subst e3;simp)) (λv h h' k za=>by refine aG za λD vs e il p=>⟨D,vs,e,isList_stays k il,p⟩) (λv u h1 k1 q q'=>?_)) (λv h' _ p=>p)
  obtain rfl:v = .ref d:=q;refine ar (vl3 q') λd' j1 wO=>?_;subst j1;refine df.of (λh' k=>iT (G6.mono (ai k1 k)) ⟨d,d',_,_,rfl,rfl,isList_stays (ai k1 k) il,isList_stays k wO,?_,by simp⟩ hA2 (by omega) (by omega)) aj;exact .cons ⟨z1,t1,rfl,.inr ⟨_,_,rfl,n1,tln,hr1⟩⟩ (.cons ⟨z2,t2,rfl,.inr ⟨_,_,rfl,n2,tln,hr2⟩⟩ (.cons ⟨z3,t3,rfl,.inr ⟨_,_,rfl,n3,trn,hr3⟩⟩ .nil))
end
theorem uk:∀{vs:List Value}{ns:List Int},IntsAre vs ns->∀k,IntsAre (vs.eraseIdx k) (ns.eraseIdx k):=by
 intro vs ns H;induction H with
 |nil=>intro k;simpa using IntsAre.nil
 |cons n t r ih=>
  intro k;cases k with
  |zero=>exact r
  |succ k=>exact .cons n t (ih k)
theorem toList_erase(its:Array Value)(k:Nat):(its.eraseIdxIfInBounds k).toList=its.toList.eraseIdx k:=by
 unfold Array.eraseIdxIfInBounds;split
 ·rw[Array.toList_eraseIdx]
 ·rw[List.eraseIdx_of_length_le (by simp;omega)]
def Fx(h₀:Heap)(ms:List Int)(v:Value)(h:Heap):Prop:=∃D acc c,v = .ref D/\IsL h D acc c/\IntsAre acc.toList ms/\h₀.get? D=none
noncomputable abbrev cast(ps:List Nat):List Int:=ps.map λp:Nat=>(p:Int)
theorem sC{h h' h₀:Heap}(k:h₀.StaysIn h):h₀.get? h.objs.size=none:=by
 cases e:h₀.get? h.objs.size with
 |none=>rfl
 |some o=>exact absurd (ON (k _ _ e)) (OQ _)
theorem um(k:h₀.StaysIn h)(hh:A.handled=none)(hr:lG n v h)(hn:n<=100):Cl w A h (.type "list") [v] [] (Fx h₀ (cast (List.range n))):=λs Q E hs hq=>by
 refine gQ hr ?_;clear hr;intro r t u s' j1 hr;subst j1;refine call_list_range hh (hs _ _ hr) (kQ hn) (nq n) (by omega) λh' tk acc c hk hS hi=>hq _ h' tk hk ⟨_,acc,c,rfl,hS,?_,sC (h':=h) (ai k hs)⟩;refine iy ?_ λi v e=>?_
 ·have:=hi.1
  simp;omega
 ·have cN:=(List.getElem?_eq_some_iff.mp e).1
  have hsz:=hi.1;have eM:i<n:=by
   have:acc.toList.length=acc.size:=by simp
   omega
  refine aR (hi.2 i v (by simpa using e)) λt e'=>?_;exact⟨t,by rw[e'];simp[eM]⟩
theorem Ev.Nn(k:h₀.StaysIn h):Ev w A h env (.List [] pos) (Fx h₀ []):=λs Q E hs hq=>wpAny_List (kZ.nil s _ _ hs λvs h' tk k' e=>by subst e;refine⟨by rw[sizeLine_eq];simp,?_⟩;exact hq _ (h'.push {cls:=.type "list",data:=.seq ([]:List Value).toArray}) tk (ai k' λb o e=>K' _ e) ⟨_,_,_,rfl,OC _ rfl,.nil,sC (h':=h) (ai k (ai hs k'))⟩)
theorem zq{ps:List Nat}(h:(cast ps)[i]?=some k):∃p,ps[i]?=some p/\k=p:=by
 rw[List.getElem?_map] at h;cases e:ps[i]? with
 |none=>rw[e] at h;cases h
 |some p=>rw[e] at h;exact⟨p,rfl,(PA h).symm⟩
theorem uo(ps:List Nat)(k:Nat):(cast ps).eraseIdx k=cast (ps.eraseIdx k):=by
 induction ps generalizing k with
 |nil=>rfl
 |cons p ps ih=>
  cases k with
  |zero=>rfl
  |succ k=>exact congrArg ((p:Int)::·) (ih k)
theorem pn:∀(l:List Nat)(k:Nat)(hk:k<l.length),(l[k]::l.eraseIdx k).Perm l
 |p::l,0,_=>List.Perm.refl _
 |p::l,k+1,hk=>(List.Perm.swap p _ _).trans (List.Perm.cons p (pn l k (by simpa using hk)))
theorem wQ{ps lf:List Nat}{k p:Nat}(h:(ps++lf).Perm (List.range n))(e:lf[k]?=some p):((ps++[p])++lf.eraseIdx k).Perm (List.range n):=by rcases List.getElem?_eq_some_iff.mp e with⟨hk,rfl⟩;rw[List.append_assoc];refine List.Perm.trans (List.Perm.append_left ps ?_) h;exact pn lf k hk
noncomputable abbrev nM(L:Addr):Env:=envOfC (sn "_law_deal") HE L 477 (.ref 476)
section
variable{a:Addr}{ns:List Int}
theorem Br(G:Gl w h)(hl:LI ns (.ref a) h)(h100:ns.length<=100)(hh:A.handled=none)(hd:A.depth+4<=400):
  Cl w A h (.ref 477) [.ref a] [] (λv h'=>∃ps:List Nat,ps.Perm (List.range ns.length)/\LI (cast ps) v h'):=by
 have uO:400<recursionLimit:=by decide
 refine Cl.def (binds:=[(sn "cells",.ref a)]) G (by k_is) rfl (by k_is) (by omega) (λs _=>.of_eq rfl) rfl (by decide) (λL g hg hL hc=>?_);clear hc;intro s Q E F hq;have Gg:=G.mono hg;have hA2:(A.deeper (nM L)).handled=none:=hh;have hA3:(A.deeper (nM L)).depth=A.depth+1:=rfl;generalize A.deeper (nM L)=B at *;have hn0:s.heap.Ns L _:=F.ns;have Gs:Gl w s.heap:=Gg.mono F.keep;refine ar (LI.ref (LI.av _ _ _ hg hl)) λcv Fy hiv=>?_;have NY:=hiv.length;have rf:∀b o,g.get? b=some o->b≠L:=λb o e q=>by rw[q,hL] at e;cases e
 have aL:a≠L:=by refine ar Fy λo ho _=>rf _ _ ho
 refine OT (Ot ((Ev.bz (w:=w) (A:=B) (h:=s.heap) (f:=.type "list") (P₁:=lG ns.length) (R:=Fx s.heap (cast (List.range ns.length))) (Ev.aE Gs (by k_is) nE) Kp.type
  (Ev.bz (P₁:=iO ns.length) (Ev.aE Gs (by k_is) nA) Kp.type
   (Ev.bz (P₁:=LI ns) (Ev.aE Gs (by k_is) cR) Kp.builtin
    (Ev.mono (Ev.ao (v:=.ref a) hn0) (λv h1 k1 e=>e▸⟨a,cv,rfl,isList_stays (ai F.keep k1) Fy,hiv⟩)) LI.av (λv h1 k1 q=>dC q (by omega))) aA
   (λv h1 k1 bV=>by refine aR bV λt e=>by subst e;exact nr)) lG.av (λv h1 k1 q=>um k1 hA2 q h100)) s _ _ (ak _) λv h₁ bg PO PV=>?_) (by rfl))
 refine dj PV λDl acc cc j7 hDl Kj nDl=>?_;clear PV;subst j7;refine OR (by rfl) (hn0.keeps PO) (λh₂ cD aJ=>?_) (by rfl);have new_g:∀b,s.heap.get? b=none->g.get? b=none:=λb e=>by
  cases q:g.get? b with
  |none=>rfl
  |some o=>rw[F.keep _ _ q] at e;cases e
 have LDl:Dl≠L:=λq=>by refine aV hn0 λo _ _ ho _=>?_;clear hn0;rw[q,ho] at nDl;cases nDl
 have PQ:g.StaysIn h₂:=λb o e=>aJ.extBut b o (rf b o e) (PO _ _ (F.keep _ _ e));have zr:IsL h₂ Dl acc cc:=aJ.extBut _ _ LDl hDl;refine OT (Ot (Ev.Nn (w:=w) (A:=B) (env:=nM L) (ak h₂) _ _ _ (ak _) λv h₃ cW PS Pd=>?_) (by rfl));refine dj Pd λDp pl cp j6 hDp Kk GI=>?_;clear Pd;subst j6;refine OR (by rfl) (cD.keeps PS) (λh₄ gh eV=>?_) (by rfl);have zt:h₂.Ns L _:=cD;have LDp:Dp≠L:=λq=>by refine aV zt λo _ _ ho _=>?_;clear zt;rw[q,ho] at GI;cases GI
 have DD:Dl≠Dp:=λq=>by rw[<-q,zr] at GI;cases GI
 have gDp:g.get? Dp=none:=by
  cases q:g.get? Dp with
  |none=>rfl
  |some o=>rw[PQ _ _ q] at GI;cases GI
 have PT:g.StaysIn h₄:=λb o e=>eV.extBut b o (rf b o e) (PS _ _ (PQ _ _ e));have zu:IsL h₄ Dl acc cc:=eV.extBut _ _ LDl (PS _ _ zr);have nN:IsL h₄ Dp pl cp:=eV.extBut _ _ LDp hDp;refine OT (wpAny_For (Ev.ao (w:=w) (A:=B) (v:=.ref a) gh (by rfl) (by rfl) (by rfl) (by decide) _ _ _ (ak _) λv h₅ oU PU sW=>?_));subst sW;refine O1 (isList_stays (ai PT PU) Fy) ?_;generalize hI:h₅.objs.size=I;have In:h₅.get? I=none:=hI▸OL (OM _);have yW:∀{b o},h₅.get? b=some o->b≠I:=λe q=>by rw[q,In] at e;cases e
 have PX:h₅.StaysIn (h₅.push {cls:=.type "list_iterator",data:=.fields #[.ref a,.int 0 0]}):=λb o e=>K' _ e;have DlI:Dl≠I:=yW (PU _ _ zu);have DpI:Dp≠I:=yW (PU _ _ nN);have LI':L≠I:=by refine aV gh λo _ _ ho _=>yW (PU _ _ ho)
 have Kl:∀b o,g.get? b=some o->b≠I:=λb o e=>yW (PU _ _ (PT _ _ e));have Km:∀b o,g.get? b=some o->b≠Dl:=λb o e q=>by rw[q,new_g _ nDl] at e;cases e
 have Kn:∀b o,g.get? b=some o->b≠Dp:=λb o e q=>by rw[q,gDp] at e;cases e
 refine jn (λk s'=>∃h' tk m' j acc cc pl cp,∃lf ps:List Nat,s'=(bp s h' tk)/\h'.IsListIter I a j/\h'.Ns L m'/\m' (sn "left")=some (.ref Dl)/\m' (sn "places")=some (.ref Dp)/\IsL h' Dl acc cc/\IsL h' Dp pl cp/\
   IntsAre acc.toList (cast lf)/\IntsAre pl.toList (cast ps)/\(ps++lf).Perm (List.range ns.length)/\lf.length=ns.length-j/\j<=ns.length/\k=ns.length+1-j/\g.StaysIn h') ?_ (ns.length+1)
  ⟨_,_,_,0,acc,cc,pl,cp,List.range ns.length,[],rfl,⟨_,hI▸OC _ rfl,rfl,rfl⟩,(gh.keeps PU).keeps PX,by rfl,by rfl,PX _ _ (PU _ _ zu),PX _ _ (PU _ _ nN),Kj,Kk,by simp,by simp,PF _,rfl,ai PT (ai PU PX)⟩
 intro I' Rr k s' T En qE JG hI rX wZ;refine CM hI λh' tk m' j acc cc pl cp lf ps j4=>KZ j4 λj5 hit fe ml mp Np Ko Kj Kk vA hlf hj ek keep=>?_;clear hI j4;subst j5;have zv:h'.IsList a cv.toArray:=isList_stays keep Fy;have gY:=Kj.length;have zK:=Kk.length;rw[List.length_map] at gY zK;cases hx:cv[j]? with
 |none=>
  have hjl:j=ns.length:=by have:=List.getElem?_eq_none_iff.mp hx;omega
  refine wpAny_pyNext_list_end hA2 hit zv (by simpa using hx) λh₂ aJ=>rX _ (PD (JG _ _ ?_));refine OT (O3 (Ev.ao (w:=w) (A:=B) (env:=nM L) (h:=h₂) (v:=.ref Dp) (by refine aV fe λo es ep ho r=>⟨o,es,ep,aJ _ _ LI' ho,r⟩) mp (by rfl) (by rfl) (by decide) _ _ _ (ak _) λv h₃ cW PS pQ=>?_));subst pQ;have Nq:lf=[]:=List.length_eq_zero_iff.mp (by omega);subst Nq;rw[List.append_nil] at vA;have Nr:IsL h₃ Dp pl cp:=PS _ _ (aJ _ _ DpI Ko);exact hq (.ref Dp) h₃ cW (ai (λb o e=>aJ b o (Kl b o e) (keep _ _ e)) PS) ⟨ps,vA,Dp,pl.toList,rfl,⟨_,Nr,rfl,cp,by simp⟩,Kk⟩
 |some cvj=>
  refine aN (IntsAre.at hiv j cvj hx) λuq ct j3 hcj=>?_;subst j3;have hjl:j<ns.length:=(List.getElem?_eq_some_iff.mp hcj).1;refine wpAny_pyNext_list_item hit zv (x:=.int uq ct) (by simpa using hx) λh₂ dY aJ=>wZ _ _ λBn hB _=>?_;refine wpAny_of_eq (by rfl:letOwnedTupleGo (.Name (sn "c") _) (.ref I) _=pure ()) ?_;have cD:h₂.Ns L m':=by refine aV fe λo es ep ho r=>⟨o,es,ep,aJ.extBut _ _ LI' ho,r⟩
  refine wpAny_assign_Name (OR (by rfl) cD (λh₃ fK dP=>?_) (by rfl));have fL:g.StaysIn h₃:=λb o e=>dP.extBut b o (rf b o e) (aJ.extBut b o (Kl b o e) (keep _ _ e));have Fz:IsL h₃ Dl acc cc:=dP.extBut _ _ LDl (aJ.extBut _ _ DlI Np);have zw:IsL h₃ Dp pl cp:=dP.extBut _ _ LDp (aJ.extBut _ _ DpI Ko);have FA:h₃.IsListIter I a (j+1):=by refine ar dY λo ho r=>⟨o,dP.extBut _ _ (OS LI') ho,r⟩
  have ncl:sn "left"≠sn "c":=by decide
  have ncp:sn "places"≠sn "c":=by decide
  have Od:acc.toList.length=acc.size:=by simp
  have Oe:pl.toList.length=pl.size:=by simp
  have hlp:0<lf.length:=by omega
  have DN:ps.length<=ns.length:=by have:=vA.length_eq;rw[List.length_append,List.length_range] at this;omega
  refine OT (wpAny_Expr (Call_method1 (by rfl) (by rfl) (by rfl) (Ev.ao (w:=w) (A:=B) (env:=nM L) (v:=.ref Dp) fK (by rw[if_neg ncp];exact mp) (by rfl) (by rfl) (by decide) _ _ _ (ak _) λv h₄ f9 PT mJ=>?_)) (by rfl) (by rfl));subst mJ;have nN:=PT _ _ zw;refine⟨"list","list.append",PySem.F.plainAttrs_list,PySem.F.slot_list_append,PySem.F.type_list_append,⟨_,nN,rfl⟩,(λb e=>by cases e;exact⟨_,nN,rfl⟩),P.append_list ?_⟩;refine Call_method1 (by rfl) (by rfl) (by rfl) (Ev.ao (w:=w) (A:=B) (env:=nM L) (v:=.ref Dl) (fK.keeps PT) (by rw[if_neg ncl];exact ml) (by rfl) (by rfl) (by decide) _ _ _ (ak _) λv h₅ oU PU sW=>?_);subst sW;have k35:=ai PT PU;have qx:=k35 _ _ Fz;refine⟨"list","list.pop",PySem.F.plainAttrs_list,PySem.F.slot_list_pop,PySem.F.type_list_pop,⟨_,qx,rfl⟩,(λb e=>by cases e;exact⟨_,qx,rfl⟩),P.pop_at_list ?_⟩;have G5:Gl w h₅:=Gg.mono (ai fL k35);refine Ev.fmod (w:=w) (A:=B) (h:=h₅) (a:=uq.fdiv 7) (b:=lf.length) (Ev.fdiv (Ev.cS (Ev.ao (v:=.int uq ct) (fK.keeps k35) (by rw[if_pos rfl]))) Ev.int (by decide) (gq (by decide)))
   (Ev.bz (P₁:=ff (.ref Dl)) (Ev.aE G5 (by k_is) cR) Kp.builtin
    (Ev.ao (fK.keeps k35) (by rw[if_neg ncl];exact ml)) aA (λv h1 k1 q=>by obtain rfl:v = .ref Dl:=q;exact mh (its:=acc) ⟨_,k1 _ _ qx,rfl,cc,rfl⟩ (by omega) (by omega))) (by omega) _ _ _ (ak _) λv h₆ iq PX Pk=>?_
  refine aR Pk λti j2=>?_;clear Pk;subst j2;have i0:0<=(uq.fdiv 7).fmod lf.length:=Int.fmod_nonneg_of_pos _ (by omega);have i1:(uq.fdiv 7).fmod lf.length<lf.length:=Int.fmod_lt_of_pos _ (by omega);generalize (uq.fdiv 7).fmod lf.length=i at i0 i1 ⊢;have Of:i.toNat<acc.toList.length:=by omega
  refine aN (IntsAre.at Kj i.toNat (acc.toList[i.toNat]) (by simp)) λk' t' e1 e2=>?_;refine ar (zq e2) λp hp j1=>?_;subst j1;have zx:=PX _ _ qx;refine⟨acc,cc,i,ti,i.toNat,.int p t',by rw[sizeLine_eq];omega,rfl,zx,?_,seqIndex_of i0 (by omega),?_,?_⟩
  ·unfold Builtin.List.listFitsIndex
   simp;omega
  ·rw[<-e1];simp
  have Kq:=ai k35 PX;have up1:=(IsL.update zx (λxs=>xs.eraseIdxIfInBounds i.toNat));have FC:∀b o,b≠Dl->h₆.get? b=some o->(h₆.update Dl (Obj.mapSeq λxs=>xs.eraseIdxIfInBounds i.toNat)).get? b=some o:=λb o hb e=>by rw[Heap.get?_update_other _ _ (Ne.symm hb)];exact e
  generalize h₆.update Dl (Obj.mapSeq λxs=>xs.eraseIdxIfInBounds i.toNat)=h₇ at up1 FC ⊢;generalize (if ((λxs:Array Value=>xs.eraseIdxIfInBounds i.toNat) acc).size==acc.size then cc else cc+1)=cc' at up1;have zy:IsL h₇ Dp pl cp:=FC _ _ (OS DD) (Kq _ _ zw);refine⟨pl,cp,by rw[sizeLine_eq];omega,zy,?_⟩;have E7:=(IsL.update zy (λxs=>xs.push (.int p t')));have FD:∀b o,b≠Dp->h₇.get? b=some o->(h₇.update Dp (Obj.mapSeq λxs=>xs.push (.int p t'))).get? b=some o:=λb o hb e=>by rw[Heap.get?_update_other _ _ (Ne.symm hb)];exact e
  generalize h₇.update Dp (Obj.mapSeq λxs=>xs.push (.int p t'))=h₈ at E7 FD ⊢;generalize (if ((λxs:Array Value=>xs.push (.int p t')) pl).size==pl.size then cp else cp+1)=cp' at E7;have all:∀b o,b≠Dl->b≠Dp->h₃.get? b=some o->h₈.get? b=some o:=λb o b1 b2 e=>FD b o b2 (FC b o b1 (Kq _ _ e));refine PD (hB (ns.length+1-(j+1)) _ (by omega) (qE _ _ ⟨h₈,iq,(λz=>if z=sn "c" then some (.int uq ct) else m' z),j+1,acc.eraseIdxIfInBounds i.toNat,cc',pl.push (.int p t'),cp',lf.eraseIdx i.toNat,ps++[p],rfl,?_,?_,?_,?_,FD _ _ DD up1,E7,?_,?_,wQ vA hp,?_,by omega,rfl,λb o e=>all b o (Km b o e) (Kn b o e) (fL _ _ e)⟩))
  ·refine ar FA λo ho r=>⟨o,all _ _ (OS DlI) (OS DpI) ho,r⟩
  ·refine aV fK λo es ep ho r=>⟨o,es,ep,all _ _ (OS LDl) (OS LDp) ho,r⟩
  ·show (if sn "left"=sn "c" then _ else m' (sn "left"))=_
   rw[if_neg ncl];exact ml
  ·show (if sn "places"=sn "c" then _ else m' (sn "places"))=_
   rw[if_neg ncp];exact mp
  ·rw[toList_erase,<-uo];exact uk Kj _
  ·rw[Array.toList_push,show cast (ps++[p])=cast ps++[(p:Int)] from List.map_append ..];exact IntsAre.append Kk (.cons _ t' .nil)
  ·rw[List.length_eraseIdx]
   rw[if_pos (by omega)];omega
end
noncomputable def lU:Value->Nat
 | .int _ t=>t
 |_=>0
structure qy(lo hi:Nat)(ys:List Value):Prop where
 b:∀y∈ys,lo<=lU y/\lU y<hi
 up:ys.Pairwise λy z=>lU y<lU z
theorem qy.snoc{lo hi eM:Nat}{ys:List Value}{t:Nat}(T:qy lo hi ys)(h1:hi<=t)(h2:t<eM)(h0:lo<=t):qy lo eM (ys++[.int k t]):=by
 refine⟨λy hy=>?_,?_⟩
 ·rcases OG hy with hy|hy
  ·have:=T.b y hy;exact⟨this.1,by omega⟩
  ·rw[List.mem_singleton.mp hy];exact⟨h0,h2⟩
 ·rw[List.pairwise_append]
  refine⟨T.up,by simp,λy hy z hz=>?_⟩;rw[List.mem_singleton.mp hz];have:=T.b y hy;show lU y<t;omega
theorem qy.Kr{lo hi:Nat}{ys:List Value}{ns:List Int}{D:Addr}(T:qy lo hi ys)(h0:1<=lo)(eM:IntsAre ys ns)(il:h.IsList D ys.toArray):bt ns (.ref D) h:=by
 have hlen:=eM.length;have get:∀i,i<ns.length->∃(t:Nat),ys[i]?=some (.int (ns.getD i 0) t):=λi hi=>by refine aN (IntsAre.at eM i (ys[i]'(by omega)) (by simp)) λk t e1 e2=>?_;exact⟨t,by rw[List.getElem?_eq_getElem (by omega),e1];simp[e2]⟩
 have tok:∀i (t:Nat),ys[i]?=some (.int (ns.getD i 0) t)->t=lU (ys.getD i .none):=λi t e=>by simp[e,lU]
 refine⟨D,ys.toArray,λi=>lU (ys.getD i .none),rfl,il,by simp[hlen],λi hi=>?_,λi hi=>?_,λi j hi hj qF=>?_⟩
 ·refine aR (get i hi) λt e=>?_
  show ys.toArray[i]?=some (Value.int (ns.getD i 0) (lU (ys.getD i Value.none)));rw[<-tok i t e];simpa using e
 ·have eM:i<ys.length:=by omega
  have:=(T.b ys[i] (List.getElem_mem eM)).1;have e:ys.getD i .none=ys[i]:=by simp[eM]
  show lU (ys.getD i .none)≠0;rw[e];omega
 ·have eM:i<ys.length:=by omega
  have JX:j<ys.length:=by omega
  have e:ys.getD i .none=ys[i]:=by simp[eM]
  have e':ys.getD j .none=ys[j]:=by simp[JX]
  show lU (ys.getD i .none)≠lU (ys.getD j .none);rw[e,e'];have pw:=List.pairwise_iff_getElem.mp T.up;rcases Nat.lt_or_gt_of_ne qF with h|h
  ·have:=pw i j eM JX h;omega
  ·have:=pw j i JX eM h;omega
def pq(w:World)(A:Around)(h:Heap)(env:Env)(e:Expr)(k:Int):Prop:=
 ∀(s:Shared)(Q E:Value->Shared->Prop),h.StaysIn s.heap->
  (∀(t:Nat) h' (tk:Nat),s.heap.StaysIn h'->s.toks<=t->t<tk->Q (.int k t) (bp s h' tk))->wpAny (model pw w) A (eval e env) Q E s
section
variable{l:Expr}{b:Int}
theorem pq.bin{op:Operator}(Hl:eI w A h env l a)(Hr:eI w A h env r b)(zZ:∀t u (s:Shared)(Q E:Value->Shared->Prop),Q (.int k s.toks) (bp s s.heap (s.toks+1))->wpAny (model pw w) A (binaryOp op (.int a t) (.int b u)) Q E s):pq w A h env (.BinOp l op r pos) k:=λs Q E hs hq=>
 wpAny_BinOp (PJ (OM _) (Hl s _ _ hs λv h₁ bg PO e FE=>by refine aR e λt j2=>?_;clear e;subst j2;refine PJ (n:=s.toks) FE (Hr _ _ _ (ai hs PO) λv h₂ bZ PQ e FG=>?_);refine aR e λu j1=>?_;clear e;subst j1;exact zZ t u _ _ _ (hq bZ h₂ _ (ai PO PQ) FG (OY _))))
theorem pq.add(Hl:eI w A h env l a)(Hr:eI w A h env r b):pq w A h env (.BinOp l .Add r pos) (a+b):=pq.bin Hl Hr λt u s Q E hq=>add_int hq
theorem pq.sub(Hl:eI w A h env l a)(Hr:eI w A h env r b):pq w A h env (.BinOp l .Sub r pos) (a-b):=pq.bin Hl Hr λt u s Q E hq=>sub_int hq
theorem pq.mul(Hl:eI w A h env l a)(Hr:eI w A h env r b)(hm:IntMulOk a b):pq w A h env (.BinOp l .Mult r pos) (a*b):=pq.bin Hl Hr λt u s Q E hq=>mul_int hq hm
end
theorem zA{x:Str}{I D:Addr}{ns:List Int}(g:Nat->Int)(hh:A.handled=none)(hx:cenv.kindOf x=some .local)(hp:(cenv.scope.kind == .class||(cenv.scope.kind == .module&&cenv.locals !=cenv.globals))=false)(kO:D≠cenv.locals)(uc:D≠I)(ud:cenv.locals≠I)(haD:ax≠D)(haC:ax≠cenv.locals)(haI:ax≠I)(hit:s.heap.IsListIter I ax 0)(hl:s.heap.IsList ax vs.toArray)(hi:IntsAre vs ns)(gY:s.heap.PlainList D #[])(hn:s.heap.Ns cenv.locals m)(hsz:ns.length<=100)(pf:∀h':Heap,(∀b o,b≠cenv.locals->b≠I->b≠D->s.heap.get? b=some o->h'.get? b=some o)->h.StaysIn h')(dm:∀i PR t h',i<ns.length->h.StaysIn h'->h'.Ns cenv.locals PR->PR x=some (.int (aO ns i) t)->pq w A h' cenv elt (g i))(hR:∀h' tk m' ys,h'.Ns cenv.locals m'->h'.PlainList D ys->IntsAre ys.toList ((List.range ns.length).map g)->qy s.toks tk ys.toList->s.toks<=tk->
   (∀b o,b≠cenv.locals->b≠I->b≠D->s.heap.get? b=some o->h'.get? b=some o)->R (.ok .next) (bp s h' tk)):
  codeAny (model pw w) A (.compLoop (.ListComp elt [⟨.Name x px,iter,[],0⟩] scope pos) 0 (.ref I) (.ref D) cenv) R s:=by
 refine lh
  (λk s'=>∃h' tk m' ac,∃i:Nat,s'=(bp s h' tk)/\h'.IsListIter I ax i/\h'.PlainList D ac/\h'.Ns cenv.locals m'/\IntsAre ac.toList ((List.range i).map g)/\qy s.toks tk ac.toList/\s.toks<=tk/\i<=ns.length/\k=ns.length+1-i/\
   (∀b o,b≠cenv.locals->b≠I->b≠D->s.heap.get? b=some o->h'.get? b=some o)) (λT En k s' hd hg hI=>?_) (ns.length+1)
  ⟨s.heap,s.toks,m,#[],0,rfl,hit,gY,hn,by simpa using IntsAre.nil,⟨λy hy=>by simp at hy,by simp⟩,Nat.le_refl _,Nat.zero_le _,rfl,λ_ _ _ _ _ e=>e⟩ (λv=>by rfl)
 refine qK hI λH tk m' ac i j2=>vI j2 λj3 AG iA fe hF hT Bs qE j4 hk=>?_;clear hI j2;subst j3;subst j4;have nX:H.IsList ax vs.toArray:=(by refine ar hl λo ho r=>⟨o,hk _ _ haC haI haD ho,r⟩);have hlen:=hi.length;cases hv:vs[i]? with
 |none=>
  have:i=ns.length:=by have:=List.getElem?_eq_none_iff.mp hv;omega
  subst this;refine wpAny_pyNext_list_end hh AG nX (by simpa using hv) λh₁ rh=>hd _ ?_;exact hR h₁ tk m' ac (fe.extBut rh ud) ((by refine aR iA λn e=>⟨n,rh _ _ uc e⟩)) hF hT Bs λb o b1 b2 b3 e=>rh b o b2 (hk b o b1 b2 b3 e)
 |some v=>
  refine aN (IntsAre.at hi i v hv) λk' t j1 e2=>?_;subst j1;have cN:i<ns.length:=(List.getElem?_eq_some_iff.mp e2).1;have a1:k'=aO ns i:=by simp[aO,e2]
  subst a1;refine wpAny_pyNext_list_item AG nX (x:=.int (aO ns i) t) (by simpa using hv) λh₁ FH ie=>hg _ _ λB hB=>?_;refine wpAny_assign_Name (OR hx (fe.sameBut ie ud) (λh₂ cD aJ=>?_) hp);have up:∀b o,b≠cenv.locals->b≠I->H.get? b=some o->h₂.get? b=some o:=λb o b1 b2 e=>aJ.extBut b o b1 (ie.extBut b o b2 e);have all2:∀b o,b≠cenv.locals->b≠I->b≠D->s.heap.get? b=some o->h₂.get? b=some o:=λb o b1 b2 b3 e=>up b o b1 b2 (hk b o b1 b2 b3 e);refine dm i _ t h₂ cN (pf _ all2) cD (by simp) _ _ _ (ak _) λt' h₃ cW PS ht1 ht2=>?_;have zj:=hF.length;have hac:ac.size<=sizeLine:=by
   have:ac.toList.length=ac.size:=by simp
   rw[List.length_map,List.length_range] at zj;rw[sizeLine_eq];omega
  have Og:tk+1<=t':=ht1;refine wpAny_list_append_plain (hsz:=hac) (iA.at λo e=>PS _ o (up D o kO uc e)) λh₄ Ks eV=>?_;refine hB (ns.length+1-(i+1)) _ ⟨h₄,cW,_,ac.push (.int (g i) t'),i+1,rfl,?_,Ks,(cD.keeps PS).sameBut eV (OS kO),?_,?_,by omega,cN,rfl,λb o b1 b2 b3 e=>eV.extBut b o b3 (PS b o (all2 b o b1 b2 b3 e))⟩ (by omega)
  ·refine ar FH λo ho r=>⟨o,eV.extBut _ _ (OS uc) (PS _ _ (aJ.extBut _ _ (OS ud) ho)),r⟩
  ·rw[Array.toList_push,List.range_succ,List.map_append]
   exact IntsAre.append hF (.cons _ t' .nil)
  ·rw[Array.toList_push]
   exact hT.snoc (by omega) ht2 (by omega)
theorem pv{x:Str}{cl:List (Str×Addr)}{ns:List Int}(g:Nat->Int)(hh:A.handled=none){RR:Value->Addr->Result->Shared->Prop}(aQ:∀y∈scope.names,y.2≠.cell)(bK:scope.kind = .function)(hx:scope.names.lookup x=some .local)(hl:aB.heap.IsList ax vs.toArray)(hi:IntsAre vs ns)(hsz:ns.length<=100)(dI:h.StaysIn aB.heap)(dm:∀i C PR t h',i<ns.length->h.StaysIn h'->h'.Ns C PR->PR x=some (.int (aO ns i) t)->pq w A h' (compEnvC scope cl C env) elt (g i))(hRR:∀D C h' tk m' ys,aB.heap.get? D=none->aB.heap.get? C=none->D≠C->h'.Ns C m'->h'.PlainList D ys->IntsAre ys.toList ((List.range ns.length).map g)->qy aB.toks tk ys.toList->aB.toks<=tk->aB.heap.StaysIn h'->RR (.ref D) C (.ok .next) (bp aB h' tk)):
  wpAny (model pw w) A (pyIter (.ref ax)) (λit bN=>wpAny (model pw w) A (newList []) (λacc cq=>wpAny (model pw w) A (newFunctionEnv scope env.globals cl [] env.qual none .none (some env)) (λcenv jE=>
   codeAny (model pw w) A (.compStart (.ListComp elt [⟨.Name x px,iter,[],0⟩] scope pos) 0 it acc {cenv with scope:=relabel scope env}) (RR acc cenv.locals) jE) E cq) E bN) E aB:=by
 refine O1 hl (O5 (wpAny_newFunctionEnv aQ (by intro y hy;simp at hy) (λh₁ qz kT=>?_) bK));dsimp only at qz kT ⊢;refine ar (id hl) λol Gf Nt=>?_;have hax:ax<aB.heap.objs.size:=ON Gf;generalize hH1:aB.heap.push {cls:=.type "list_iterator",data:=.fields #[.ref ax,.int 0 0]}=H1 at qz kT ⊢;have hD:H1.objs.size=aB.heap.objs.size+1:=by rw[<-hH1,Heap.size_push]
 generalize hH2:H1.push {cls:=.type "list",dict:=none,data:=.seq ([]:List Value).toArray}=H2 at qz kT ⊢;have hC:H2.objs.size=aB.heap.objs.size+2:=by rw[<-hH2,Heap.size_push,hD]
 have uc:H1.objs.size≠aB.heap.objs.size:=by rw[hD];exact Nat.succ_ne_self _
 have kO:H1.objs.size≠H2.objs.size:=by rw[hD,hC];exact OI (OY _)
 have hIC:aB.heap.objs.size≠H2.objs.size:=by rw[hC];exact OI (Ox (OY _))
 have below:∀b,b<aB.heap.objs.size->b≠H2.objs.size/\b≠aB.heap.objs.size/\b≠H1.objs.size:=λb hb=>
  ⟨by rw[hC];exact OI (Ox (Ox hb)),OI hb,by rw[hD];exact OI (Ox hb)⟩
 have old:∀b o,aB.heap.get? b=some o->h₁.get? b=some o:=λb o e=>
  kT.extBut b o (below b (ON e)).1 (K' _ (hH2▸K' _ (hH1▸K' _ e)))
 have hit:h₁.IsListIter aB.heap.objs.size ax 0:=
  ⟨_,kT.extBut _ _ hIC (K' _ (hH2▸K' _ (hH1▸OC _ rfl))),rfl,rfl⟩
 have gY:h₁.PlainList H1.objs.size #[]:=⟨_,kT.extBut _ _ kO (K' _ (hH2▸OC _ rfl))⟩;have xM:h₁.IsList ax vs.toArray:=⟨ol,old _ _ Gf,Nt⟩;have fresh:∀a,aB.heap.objs.size<=a->aB.heap.get? a=none:=λa ha=>OL ha;refine codeAny_compStart_list ?loop (wpAny_pyIter_listiter hit ?loop);refine zA (cenv:=compEnvC scope cl H2.objs.size env) (h:=h) g hh (lookup_relabel_local hx) (by simp[compEnvC,relabel,bK]) kO uc (OS hIC) (below ax hax).2.2 (below ax hax).1 (below ax hax).2.1 hit xM hi gY qz hsz
  (λh' k b o e=>let q:=below b (ON (dI _ _ e));k b o q.1 q.2.1 q.2.2 (old b o (dI _ _ e)))
  (λi PR t h' hi k hn hm=>dm i _ PR t h' hi k hn hm) λh' tk m' ys fe nX eM hT Bs k=>?_
 exact hRR _ _ h' tk m' ys (fresh _ (by rw[hD];exact Nat.le_succ _)) (fresh _ (by rw[hC];exact Nat.le_add_right _ 2)) kO fe nX eM hT Bs λb o e=>let q:=below b (ON e);k b o q.1 q.2.1 q.2.2 (old b o e)
section
variable{ex:List Addr}{y:Str}{body:List Stmt}{R:Value->Heap->Prop}{P:Value->Heap->Prop}{b:Bool}
theorem aP.zB{c:Addr}(He:fU n w A ((env,m)::fo) (cs++cso) g env e P x)(fm:cU P)(hk:∀v g',g.StaysIn g'->P v g'->g'.IsCell c (some v)->aP n w A env fo cs' cso ex g' m (rest::bs) R x)(bK:env.scope.kind = .function)(hl:env.kindOf y=some .cell)(hc:env.cells.lookup y=some c)(hm:c∈cs)(gJ:∀b∈cs',b∈cs/\b≠c)(kn:autoParam (swapsWith e (some (.Name y p)) pos.line env=pure false) cH):aP n w A env fo cs cso ex g m ((.Assign [.Name y p] e pos::rest)::bs) R x:=λs gb Q E W tz hs O hq he=>by
 refine Run.cons (PJ tz (Ot (He s gb _ _ tz hs O (λv aB bJ PO aM PW ba=>?_) (λws a s' ex go X _=>he ws a s' m ex (go.body W.L) (go.bP.ns (O.tabs.ns (O.frames _ (.head _)).2.2.2) (O.frames _ (.head _)).2.2.2) X.weak)) kn));refine wpAny_storeName_cell bK hl hc (aM.cells c (OJ _ hm)).2 (λh₂ fF aJ jO=>?_);have ne:∀{L:Addr}{n:Str->Option Value},aB.heap.Ns L n->L≠c:=λhn q=>by refine ar ((aM.cells c (OJ _ hm)).2) λo ho hd=>?_;refine bf hn λo' es ep aW bL _=>?_;clear hn;rw[q,ho] at aW;cases aW;rw[hd] at bL;cases bL
 have kc:bJ.StaysIn h₂:=λb o e=>aJ.extBut b o (λq=>by rw[q,(aM.cells c (List.mem_append_left _ hm)).1] at e;cases e) (aM.stays b o e);have cC:On ((env,m)::fo) (cs'++cso) bJ h₂:=by
  refine⟨kc,λq hq=>?_,λd hd=>?_,aM.tabs.put (λb o n e=>aJ.extBut b o n e) (λo vs e d=>?_),aM.dT⟩
  ·refine eP (aM.frames q hq) λa b d n=>?_
   have:=ne n;refine aV n λo es ep ho r=>?_;clear n;exact⟨a,b,d,o,es,ep,aJ.extBut _ _ this ho,r⟩
  ·have:d∈cs++cso/\d≠c:=by
    rcases OG hd with hd|hd
    ·exact⟨OJ _ (gJ d hd).1,(gJ d hd).2⟩
    ·exact⟨OP _ hd,λq=>(W.c c hm).2 (q▸hd)⟩
   refine cA (aM.cells d this.1) λn j2=>ar j2 λo ho bL=>?_;clear j2;exact⟨n,o,aJ.extBut _ _ this.2 ho,bL⟩
  ·refine ar ((aM.cells c (OJ _ hm)).2) λo' aW bL=>?_
   rw[e] at aW;cases aW;rw[d] at bL;cases bL
 have W':Own env fo cs' cso ex:=⟨W.L,W.Lf,λb hb=>W.c b (gJ b hb).1⟩;have aQ:(hideAll h₂ (fv ((env,m)::fo) (cs'++cso))).IsCell c (some v):=by
  refine ar fF λo ho hd=>?_;clear fF;refine⟨o,OO _ ho λbX=>?_,hd⟩;rcases OG bX with bX|bX
  ·rcases OG bX with bX|bX
   ·refine ar (OF bX) λq hq j1=>?_;subst j1
    exact ne (aM.frames q hq).2.2.2 rfl
   ·rcases OG bX with bX|bX
    ·exact (gJ c bX).2 rfl
    ·exact (W.c c hm).2 bX
  ·exact aM.tabs.cell (aM.cells c (OJ _ hm)).2 bX
 have PY:Go ex (aS fo) s (bp aB h₂ aB.toks):=(PW.body W.L).trans ⟨⟨λb o hb _ _ e=>aJ.extBut b o (λq=>hb (q▸(W.c c hm).1)) e,λb o hb _ _ e=>⟨o.slots,aJ.extBut b o (λq=>hb (q▸(W.c c hm).1)) e⟩,
  λb o ht e=>⟨o,aJ.extBut b o (λq=>aM.tabs.cell (aM.cells c (OJ _ hm)).2 (q▸ht)) e⟩⟩,λh=>h,rfl,rfl⟩
 refine hk v _ (ai hs (ai PO cC.wide)) (fm _ _ _ cC.wide ba) aQ _ _ Q E W' jO (ak _) cC.top (λv s' g' k O' go r=>hq v s' g' (ai PO (ai cC.wide k)) O' (PY.trans go) r) (λws a s' m' ex go n X=>he ws a s' m' ex (PY.trans go) n (X.back ?_));intro b o e;refine aR (PW.bP.cE b o e) λo' xC=>?_;by_cases q:b=c
 ·refine ar fF λo' aW _=>?_;clear fF
  exact⟨o',q▸aW⟩
 ·exact⟨_,aJ.extBut b _ q xC⟩
end
theorem fU.Bt{x:Str}{cl:List (Str×Addr)}{ns:List Int}{ex:Option Str}(g:Nat->Int)(hh:A.handled=none)(cP:closureFor scope env=pure cl)(aQ:∀y∈scope.names,y.2≠.cell)(bK:scope.kind = .function)(cV:∀y∈scope.names,y.2 = .local->scope.names.lookup y.1=some .local)(hx:scope.names.lookup x=some .local)(hsz:ns.length<=100)(hit:∀h',h.StaysIn h'->lj frs h'->Ev w A h' env iter (LI ns))(dm:∀i C PR t h',i<ns.length->h.StaysIn h'->h'.Ns C PR->PR x=some (.int (aO ns i) t)->pq w A h' (compEnvC scope cl C env) elt (g i))(hs:∀x,foldedSetIterable iter env x=pure x:=by intro _;rfl):
  fU 1 w A frs cs h env (.ListComp elt [⟨.Name x px,iter,[],0⟩] scope pos) (bt ((List.range ns.length).map g)) ex:=
 xB.of (λh' k N s Q E tz dI hq=>by rw[eval_ListComp];refine wpAny_comprehension_free (use:=none) rfl hs cP bK cV (PJ tz (hit h' k N s _ _ dI λv h₁ bg PO PV=>?_));intro Bs;refine aG PV λax vs j1 il hi=>?_;clear PV;subst j1;refine pv (h:=h') g hh aQ bK hx il hi hsz (ai dI PO) (λi C PR t f5 hi k' hn hm=>dm i C PR t f5 hi (ai k k') hn hm) λD C h₂ bZ m' ys nD nC kO hn hl eM hT Nu PQ=>⟨m',hn,λf5 mj=>?_⟩;refine hq (.ref D) f5 bZ (λb o e=>mj.extBut b o (λq=>by have:=PO _ _ e;rw[q,nC] at this;cases this) (PQ _ _ (PO _ _ e))) (hT.Kr Bs eM ?_);exact (hl.extBut mj.extBut kO).isList) dZ
theorem ur{x y:Str}{cl:List (Str×Addr)}{Q:Flow->Shared->Prop}(hh:A.handled=none)(kn:swapsWith (.ListComp elt [⟨.Name x px,iter,[],0⟩] scope pos) (some (.Name y py)) vH.line env=pure true)(cP:closureFor scope env=pure cl)(aQ:∀z∈scope.names,z.2≠.cell)(bK:scope.kind = .function)(cV:∀z∈scope.names,z.2 = .local->scope.names.lookup z.1=some .local)(hx:scope.names.lookup x=some .local)(hy:env.kindOf y=some .local)(hp:(env.scope.kind == .class||(env.scope.kind == .module&&env.locals !=env.globals))=false)(h:wpAny (model pw w) A (eval iter env) (λxv aB=>∃ax vs,∃ns:List Int,∃g:Nat->Int,xv = .ref ax/\aB.heap.IsList ax (List.toArray vs)/\IntsAre vs ns/\ns.length<=100/\aB.heap.Ns env.locals m/\
   (∀i C PR t h',i<ns.length->aB.heap.StaysIn h'->h'.Ns C PR->PR x=some (.int (aO ns i) t)->pq w A h' (compEnvC scope cl C env) elt (g i))/\
   (∀D h' tk ys,aB.heap.get? D=none->h'.IsList D (List.toArray ys)->IntsAre ys ((List.range ns.length).map g)->qy aB.toks tk ys->aB.toks<=tk->h'.Ns env.locals (upd m y (.ref D))->
    (∀b o,b≠env.locals->aB.heap.get? b=some o->h'.get? b=some o)->Q .next (bp aB h' (tk+1)))) E s)(hs:∀x,foldedSetIterable iter env x=pure x:=by intro _;rfl):
  wpAny (model pw w) A (exec (.Assign [.Name y py] (.ListComp elt [⟨.Name x px,iter,[],0⟩] scope pos) vH) env) Q E s:=by
 rw[exec_Assign_Name_used _ _ _ _ kn];refine J' (wpAny_standAt (J' ?_));show wpAny _ A (do let _ <-comprehension (.ListComp elt [⟨.Name x px,iter,[],0⟩] scope pos) scope env _ (newList []) false (eval iter env) (some (assign (.Name y py) env))) _ _ s;refine J' (Oj (wpAny_comprehension_free (use:=some (assign (.Name y py) env)) (Q:=λ_ s'=>Q .next s') rfl hs cP bK cV
  (Oj h (λxv aB h₁=>?_) λ_ _ e=>e)) (λ_ s' hq=>OD (OD hq)) λ_ _ e=>e)
 refine nU h₁ λax vs ns g j1=>FV j1 λj2 il hi hsz hn dm hQ=>?_;clear h₁ j1;subst j2;refine pv (h:=aB.heap) g hh aQ bK hx il hi hsz (ak _) dm λD C h' tk m' ys hD hC kO hnC hlD eM hT Bs iX=>?_;have hLC:env.locals≠C:=by rintro rfl;refine aV hn λo _ _ ho _=>?_;clear hn;rw[hC] at ho;cases ho
 have hLD:env.locals≠D:=by rintro rfl;refine aV hn λo _ _ ho _=>?_;clear hn;rw[hD] at ho;cases ho
 show wpAny _ A (assign (.Name y py) env (.ref D)) _ _ _;refine wpAny_assign_Name (OR hy (hn.keeps iX) (λh₂ cD aJ=>?_) hp);refine⟨m',hnC.sameBut aJ (OS hLC),λh₃ dP=>?_⟩;exact hQ D h₃ tk ys.toList hD (by simpa using ((hlD.extBut aJ.extBut (Ne.symm hLD)).extBut dP.extBut kO).isList) eM hT Bs (cD.sameBut dP hLC) λb o D8 e=>
  dP.extBut b o (by rintro rfl;rw[hC] at e;cases e) (aJ.extBut b o D8 (iX b o e))
section
variable{ex:List Addr}{R:Value->Heap->Prop}
theorem aP.kU{x y:Str}{cl:List (Str×Addr)}(Φ:List Int->Prop)(f:List Int->Nat->Int)(hh:A.handled=none)(kn:swapsWith (.ListComp elt [⟨.Name x px,iter,[],0⟩] scope pos) (some (.Name y py)) vH.line env=pure true)(hit:∀h',g.StaysIn h'->h'.Ns env.locals m->Ev w A h' env iter (λv h'=>∃ns,Φ ns/\LI ns v h'))(hsz:∀ns,Φ ns->ns.length<=100)(dm:∀ns,Φ ns->∀i C PR t h',i<ns.length->g.StaysIn h'->h'.Ns C PR->PR x=some (.int (aO ns i) t)->pq w A h' (compEnvC scope cl C env) elt (f ns i))(hk:∀ns,Φ ns->∀D g',g.StaysIn g'->bt ((List.range ns.length).map (f ns)) (.ref D) g'->aP 1 w A env fo cs cso ex g' (upd m y (.ref D)) (rest::bs) R xo)(cP:closureFor scope env=pure cl)(aQ:∀y∈scope.names,y.2≠.cell)(bK:scope.kind = .function)(cV:∀y∈scope.names,y.2 = .local->scope.names.lookup y.1=some .local)(hx:scope.names.lookup x=some .local)(hy:env.kindOf y=some .local)(hp:autoParam ((env.scope.kind == .class||(env.scope.kind == .module&&env.locals !=env.globals))=false) cH)(hs:∀x,foldedSetIterable iter env x=pure x:=by intro _;rfl):
  aP 1 w A env fo cs cso ex g m ((.Assign [.Name y py] (.ListComp elt [⟨.Name x px,iter,[],0⟩] scope pos) vH::rest)::bs) R xo:=λs gb Q E W tz dI O hq he=>by
 have hn0:=(O.frames _ (.head _)).2.2.2;refine Run.cons (ur (m:=m) hh kn cP aQ bK cV hx hy hp (PJ tz (hit s.heap (ai dI O.stays) hn0 s _ _ (ak _) λv h₁ bg PO PV=>?_)) hs);intro Bs;refine ar PV λns hΦ j2=>aG j2 λax vs j3 il hi=>?_;clear PV j2;subst j3;have Lno:∀o vs,s.heap.get? env.locals=some o->o.data≠.fields vs:=λo vs e d=>by refine bf hn0 λo' es ep aW bL _=>?_;clear hn0;dsimp only at aW;rw[e] at aW;cases aW;rw[d] at bL;cases bL
 refine⟨ax,vs,ns,f ns,rfl,il,hi,hsz ns hΦ,hn0.keeps PO,λi C PR t h' eM k hn hm=>dm ns hΦ i C PR t h' eM (ai dI (ai O.stays (ai PO k))) hn hm,λD h' tk ys nD wO eM hT Nu fe iX=>?_⟩;have kept:∀b o,b≠env.locals->s.heap.get? b=some o->h'.get? b=some o:=λb o hb e=>iX b o hb (PO _ _ e);have O':On ((env,upd m y (.ref D))::fo) (cs++cso) gb h':=by
  refine⟨λb o e=>kept b o (λq=>?_) (O.stays b o e),λq hq=>?_,λc hc=>⟨(O.cells c hc).1,?_⟩,O.tabs.put (λb o n e=>kept b o n e) Lno,O.dT⟩
  ·rw[q,(O.frames _ (.head _)).2.2.1] at e;cases e
  ·rcases OA hq with j1|hq<;>(first|(replace j1:=OK j1;subst j1)|skip)
   ·refine eP (O.frames _ (.head _)) λa b c d=>?_
    exact⟨a,b,c,fe⟩
   ·refine eP (O.frames q (.tail _ hq)) λa b c d=>?_
    refine aV d λo es ep ho r=>?_;clear d;exact⟨a,b,c,o,es,ep,kept _ _ (λe=>W.Lf (e▸OE hq)) ho,r⟩
  ·refine ar ((O.cells c hc).2) λo ho hd=>?_
   refine⟨o,kept c o (λq=>?_) ho,hd⟩;refine bf hn0 λo' es ep aW bL _=>?_;clear hn0;dsimp only at aW;rw[<-q,ho] at aW;cases aW;rw[hd] at bL;cases bL
 have PY:Go ex (aS fo) s (bp s h' (tk+1)):=⟨⟨λb o hb _ _ e=>kept b o (λq=>hb (q▸W.L)) e,λb o hb _ _ e=>⟨o.slots,kept b o (λq=>hb (q▸W.L)) e⟩,
  λb o ht e=>⟨o,kept b o (λq=>O.tabs.ns hn0 (q▸ht)) e⟩⟩,λh=>h,rfl,rfl⟩
 refine hk ns hΦ D _ (ai dI O'.wide) (hT.Kr Bs eM (cK (λb hb=>O'.fv hb) wO)) _ _ Q E W (Nat.le_add_left 1 _) (ak _) O'.top (λv s' g' k HX go r=>hq v s' g' (ai O'.wide k) HX (PY.trans go) r) (λws a s' m' ex go n X=>he ws a s' m' ex (PY.trans go) n (X.back ?_));intro b o e;by_cases q:b=env.locals
 ·refine aV fe λo' _ _ aW _=>?_;clear fe
  exact⟨o',q▸aW⟩
 ·exact⟨o,kept b o q e⟩
end
noncomputable def stv(l:List Int)(v:Int):Int:=((l.countP λu=>decide (u<v)):Int)-(l.countP λu=>decide (v<u))
theorem wR(ns:List Int)(p:Nat):bA ns p=stv ns (ns.getD p 0):=rfl
theorem zC{l:List Int}(h:l.Perm l')(v:Int):stv l v=stv l' v:=by unfold stv;rw[h.countP_eq,h.countP_eq]
theorem fQ(f:Int->Int)(q:Int->Bool)(l:List Int):(l.map f).countP q=l.countP λu=>q (f u):=by rw[List.countP_map];rfl
theorem FI{f m:Int}(hf:0<f)(l:List Int)(v:Int):stv (l.map λx=>f*x+m) (f*v+m)=stv l v:=by
 unfold stv;rw[fQ,fQ];have h:∀a b:Int,(f*a+m<f*b+m)<->a<b:=λa b=>by rw[Int.add_lt_add_iff_right];exact Int.mul_lt_mul_left hf
 simp only[h]
theorem zD{f m:Int}(hf:f<0)(l:List Int)(v:Int):stv (l.map λx=>f*x+m) (f*v+m) = - stv l v:=by
 unfold stv;rw[fQ,fQ];have h:∀a b:Int,(f*a+m<f*b+m)<->b<a:=λa b=>by
  rw[Int.add_lt_add_iff_right];have h1:f*a = -((-f)*a):=by rw[Int.neg_mul,Int.neg_neg]
  have h2:f*b = -((-f)*b):=by rw[Int.neg_mul,Int.neg_neg]
  rw[h1,h2,Int.neg_lt_neg_iff];exact Int.mul_lt_mul_left (by omega)
 simp only[h];omega
theorem iF(f:Int->Int):∀l:List Int,preSum (λi=>f (aO l i)) l.length=(l.map f).sum
 | []=>rfl
 |a::l=>by
  rw[List.length_cons,gP];have:(λi=>f (aO (a::l) (i+1)))=λi=>f (aO l i):=by funext i;rw[sh]
  rw[this,iF f l];simp[aO]
theorem gu(ns:List Int):fO ns=(ns.map λv=>stv ns v*stv ns v).sum:=by
 rw[<-iF];exact dw _ λi hi=>by rw[wR];simp[aO]
theorem nO{l:List Int}(h:l.Perm l'):l.sum=l'.sum:=by
 induction h with
 |nil=>rfl
 |cons x _ ih=>simp[ih]
 |swap x y l=>simp;omega
 |trans _ _ ih1 ih2=>exact ih1.trans ih2
theorem zE{l:List Int}(h:l.Perm l'):fO l=fO l':=by
 rw[gu,gu];have:(λv=>stv l v*stv l v)=λv=>stv l' v*stv l' v:=by funext v;rw[zC h]
 rw[this];exact nO (h.map _)
theorem zF{f m:Int}(hf:f≠0)(l:List Int):fO (l.map λx=>f*x+m)=fO l:=by
 rw[gu,gu,List.map_map];congr 1
 refine List.map_congr_left λv _=>?_;show stv _ (f*v+m)*stv _ (f*v+m)=_;rcases Int.lt_or_gt_of_ne hf with h|h
 ·rw[zD h,Int.neg_mul_neg]
 ·rw[FI h]
theorem wU(l:List Int)(v:Int)(h:∀u∈l,u=v):stv l v=0:=by
 unfold stv;have h1:l.countP (λu=>decide (u<v))=0:=List.countP_eq_zero.mpr λu hu=>by rw[h u hu];simp
 have h2:l.countP (λu=>decide (v<u))=0:=List.countP_eq_zero.mpr λu hu=>by rw[h u hu];simp
 rw[h1,h2];rfl
theorem iG(f:α->Int):∀l:List α,(∀v∈l,f v=0)->(l.map f).sum=0
 | [],_=>rfl
 |a::l,h=>by rw[List.map_cons,List.sum_cons,h a (.head _),iG f l λv hv=>h v (.tail _ hv)];rfl
theorem pA(l:List Int)(c:Int)(h:∀u∈l,u=c):fO l=0:=by
 rw[gu];exact iG _ _ λv hv=>by have:v=c:=h v hv;rw[this,wU l c h];rfl
theorem eG(f:α->Int):∀l:List α,(∀v∈l,0<=f v)->(l.map f).sum=0->∀v∈l,f v=0
 | [],_,_=>λv hv=>by cases hv
 |a::l,h,e=>by
  rw[List.map_cons,List.sum_cons] at e;have h1:=h a (.head _);have h2:∀l:List α,(∀v∈l,0<=f v)->0<=(l.map f).sum:=by
   intro l;induction l with
   |nil=>intro _;exact Int.le_refl _
   |cons b l ih=>intro h;rw[List.map_cons,List.sum_cons];have:=h b (.head _);have:=ih λv hv=>h v (.tail _ hv);omega
  have h3:=h2 l λv hv=>h v (.tail _ hv);intro v hv;rcases OA hv with j1|hv<;>(first|(replace j1:=OK j1;subst j1)|skip)
  ·omega
  ·exact eG f l (λv hv=>h v (.tail _ hv)) (by omega) v hv
theorem vB(h:a*a=0):a=0:=by rcases Int.mul_eq_zero.mp h with h|h<;>exact h
theorem zG:∀l:List Int,l≠[]->∃m∈l,∀u∈l,u<=m
 | [],h=>absurd rfl h
 | [a],_=>⟨a,.head _,λu hu=>by rw[List.mem_singleton.mp hu];exact Int.le_refl _⟩
 |a::b::l,_=>by
  refine ar (zG (b::l) (by simp)) λm hm hu=>?_;by_cases h:a<=m
  ·exact⟨m,.tail _ hm,λu qI=>by
    rcases OA qI with j2|qI<;>(first|(replace j2:=OK j2;subst j2)|skip)
    ·exact h
    ·exact hu u qI⟩
  ·exact⟨a,.head _,λu qI=>by
    rcases OA qI with j1|qI<;>(first|(replace j1:=OK j1;subst j1)|skip)
    ·exact Int.le_refl _
    ·have:=hu u qI;omega⟩
theorem qA{l:List Int}(hl:l≠[])(h:fO l=0):∃c,∀u∈l,u=c:=by
 refine ar (zG l hl) λm hm hu=>?_;refine⟨m,λu qI=>?_⟩;rw[gu] at h;have h1:=vB (eG _ l (λv _=>bQ _) h m hm);unfold stv at h1;have h2:l.countP (λu=>decide (m<u))=0:=List.countP_eq_zero.mpr λu qI=>by have:=hu u qI;simp;omega
 rw[h2] at h1;have h3:l.countP (λu=>decide (u<m))=0:=by omega
 have:=List.countP_eq_zero.mp h3 u qI;have h4:=hu u qI;simp at this;omega
theorem iH(l:List Int)(m:Int):bD l l m m=(l.map λx=>(x-m)*(x-m)).sum:=by rw[<-iF];rfl
theorem pB:∀l:List Int,(∀u∈l,u=c)->l.sum=c*l.length
 | [],_=>by simp
 |a::l,h=>by rw[List.sum_cons,pB l λu hu=>h u (.tail _ hu),h a (.head _),List.length_cons];push_cast;rw[Int.mul_add,Int.mul_one];omega
theorem FJ{l:List Int}(h:bD l l 0 0=0):fO l=0:=by
 rw[iH] at h;exact pA l 0 λu hu=>by have:=vB (eG _ l (λv _=>bQ _) h u hu);omega
theorem FK{l:List Int}(hs:l.sum=0)(h:bD l l 0 0≠0):0<fO l:=by
 have h0:0<=fO l:=dH _ _ λi hi=>bQ _;rcases Int.lt_or_eq_of_le h0 with h1|h1
 ·exact h1
 ·exfalso
  by_cases hl:l=[]
  ·subst hl;exact h rfl
  ·refine aR (qA hl h1.symm) λc hc=>?_
   have:=pB l hc;rw[hs] at this;have hlen:(l.length:Int)≠0:=by have:l.length≠0:=λe=>hl (List.length_eq_zero_iff.mp e);omega
   have hc0:c=0:=by
    rcases Int.mul_eq_zero.mp this.symm with h|h
    ·exact h
    ·exact absurd h hlen
   apply h;rw[iH];exact iG _ _ λv hv=>by rw[hc v hv,hc0];rfl
theorem fS(f m:Int):∀l:List Int,(l.map λx=>f*x+m).sum=f*l.sum+m*l.length
 | []=>by simp
 |a::l=>by rw[List.map_cons,List.sum_cons,fS f m l,List.sum_cons,List.length_cons];push_cast;rw[Int.mul_add,Int.mul_add,Int.mul_one];omega
theorem pC(l:List Int):(List.range l.length).map (aO l)=l:=by
 apply List.ext_getElem?;intro i;rw[List.getElem?_map];by_cases h:i<l.length
 ·rw[List.getElem?_range h,List.getElem?_eq_getElem h]
  simp[aO,h]
 ·rw[List.getElem?_eq_none (by simp;omega),List.getElem?_eq_none (by omega)];rfl
theorem wV{ps:List Nat}{l:List Int}(h:ps.Perm (List.range l.length)):(ps.map (aO l)).Perm l:=by have:=h.map (aO l);rw[pC] at this;exact this
theorem nP{B:Int}:∀l:List Int,(∀u∈l,u<=B)->l.sum<=B*l.length
 | [],_=>by simp
 |a::l,h=>by rw[List.sum_cons,List.length_cons];have:=nP l λu hu=>h u (.tail _ hu);have h1:=h a (.head _);push_cast;rw[Int.mul_add,Int.mul_one];omega
theorem nQ{B:Int}:∀l:List Int,(∀u∈l,B<=u)->B*l.length<=l.sum
 | [],_=>by simp
 |a::l,h=>by rw[List.sum_cons,List.length_cons];have:=nQ l λu hu=>h u (.tail _ hu);have h1:=h a (.head _);push_cast;rw[Int.mul_add,Int.mul_one];omega
theorem vC{l:List Int}(h:i<l.length):aO l i∈l:=by rw[show aO l i=l[i] by simp[aO,h]];exact List.getElem_mem h
theorem sD(a b:Int):∀l:List Int,(l.map λv=>(a*v-b)*(a*v-b)).sum=a*a*(l.map λv=>v*v).sum-2*(a*b*l.sum)+b*b*l.length
 | []=>by simp
 |v::l=>by
  rw[List.map_cons,List.sum_cons,sD a b l,List.map_cons,List.sum_cons,List.sum_cons,List.length_cons];push_cast;have e:(a*v-b)*(a*v-b)=a*a*(v*v)-2*(a*b*v)+b*b:=by
   rw[Int.sub_mul,Int.mul_sub,Int.mul_sub];have e1:a*v*(a*v)=a*a*(v*v):=by rw[Int.mul_assoc,Int.mul_left_comm v a v,<-Int.mul_assoc a a]
   have e2:a*v*b=a*b*v:=Int.mul_right_comm a v b;have e3:b*(a*v)=a*b*v:=by rw[Int.mul_comm];exact e2
   rw[e1,e2,e3];omega
  rw[e,Int.mul_add,Int.mul_add,Int.mul_add (b*b),Int.mul_add,Int.mul_one];omega
noncomputable abbrev dO(us:List Int):List Int:=us.map λu=>(us.length-1)*(us.length*u-us.sum)
noncomputable abbrev uu(us:List Int)(ps:List Nat)(f mid:Int):List Int:=ps.map λp=>f*aO (dO us) p+mid
noncomputable abbrev Bu(ws:List Int)(mid:Int):List Int:=ws.map λw=>(ws.length-1)*ws.length*w+mid
theorem qB(us:List Int):(dO us).sum=0:=by
 have e:dO us=us.map λu=>((us.length-1)*us.length:Int)*u+(-((us.length-1)*us.sum)):=by refine List.map_congr_left λu _=>?_;rw[Int.mul_sub,Int.mul_assoc];omega
 rw[e,fS,Int.mul_assoc,Int.neg_mul,Int.mul_assoc,Int.mul_comm us.sum];omega
theorem vD(us:List Int)(ps:List Nat)(f mid:Int):uu us ps f mid=(ps.map (aO (dO us))).map λx=>f*x+mid:=by rw[List.map_map];rfl
section
variable{us ws:List Int}{ps:List Nat}{f:Int} (h2:2<=us.length) (h6:us.length<=6) (hu:∀u∈us,-16<=u/\u<=15) (hw:∀w∈ws,-512<=w/\w<=511) (hl:ws.length=us.length)
 (hp:ps.Perm (List.range us.length)) (hf:f.natAbs<=4) (hm:mid.natAbs<=2^20)
include h2 h6 hu
theorem Kt(i:Nat)(hi:i<us.length):aO (dO us) i=(us.length-1)*(us.length*aO us i-us.sum):=jZ _ hi
theorem Bv(i:Nat)(hi:i<us.length):(aO (dO us) i).natAbs<=930:=by
 rw[Kt h2 h6 hu i hi];have a:=hu _ (vC hi);have s1:=nP us λu h=>(hu u h).2;have s2:=nQ us λu h=>(hu u h).1;generalize aO us i=u at *;generalize us.sum=S at *;refine cA a λa1 a2=>?_;clear a;have b1:(us.length:Int)*u<=15*us.length:=by rw[Int.mul_comm];exact Int.mul_le_mul_of_nonneg_right a2 (by omega)
 have b2: -16*(us.length:Int)<=us.length*u:=by rw[Int.mul_comm (us.length:Int) u];exact Int.mul_le_mul_of_nonneg_right a1 (by omega)
 generalize (us.length:Int)*u=nu at *;have c:(nu-S).natAbs<=186:=by omega
 exact aY (A:=5) (B:=186) (by omega) c (by decide)
theorem kW:(dO us).length=us.length:=List.length_map _
theorem CG(ys:List Int)(my:Int):bD (dO us) ys 0 my=(preSum (λi=>(us.length*aO us i-us.sum)*(aO ys i-my)) us.length)*((dO us).length-1):=by unfold bD;rw[kW h2 h6 hu,Int.mul_comm,<-cO];exact dw _ λi hi=>by rw[Kt h2 h6 hu i hi,Int.sub_zero,Int.mul_assoc]
theorem spread:(bD (dO us) (dO us) 0 0).natAbs<=1297350:=by
 have e1:bD (dO us) (dO us) 0 0=(us.map λu=>(((us.length:Int)-1)*(us.length-1))*((us.length*u-us.sum)*(us.length*u-us.sum))+0).sum:=by
  rw[iH,List.map_map];congr 1
  refine List.map_congr_left λu _=>?_;show ((us.length-1)*(us.length*u-us.sum)-0)*((us.length-1)*(us.length*u-us.sum)-0)=_;rw[Int.sub_zero,Int.add_zero,Int.mul_assoc,Int.mul_left_comm ((us.length:Int)*u-us.sum),Int.mul_assoc]
 have e2:(us.map λu=>(((us.length:Int)-1)*(us.length-1))*((us.length*u-us.sum)*(us.length*u-us.sum))+0)=(us.map λu=>(us.length*u-us.sum)*(us.length*u-us.sum)).map λy=>(((us.length:Int)-1)*(us.length-1))*y+0:=by rw[List.map_map];rfl
 rw[e1,e2,fS,Int.zero_mul,Int.add_zero];have e3:4*(us.map λu=>(us.length*u-us.sum)*(us.length*u-us.sum)).sum=((us.map λu=>2*u+1).map λv=>((us.length:Int)*v-(us.map λu=>2*u+1).sum)*(us.length*v-(us.map λu=>2*u+1).sum)).sum:=by
  rw[fS 2 1,List.map_map];have:((λv=>((us.length:Int)*v-(2*us.sum+1*us.length))*(us.length*v-(2*us.sum+1*us.length)))∘λu=>2*u+1)=λu=>4*((us.length*u-us.sum)*(us.length*u-us.sum))+0:=by
   funext u
   show ((us.length:Int)*(2*u+1)-(2*us.sum+1*us.length))*(us.length*(2*u+1)-(2*us.sum+1*us.length))=_;have:(us.length:Int)*(2*u+1)-(2*us.sum+1*us.length)=2*(us.length*u-us.sum):=by rw[Int.mul_add,Int.mul_left_comm];omega
   rw[this,Int.mul_assoc,Int.mul_left_comm ((us.length:Int)*u-us.sum)];generalize ((us.length:Int)*u-us.sum)*(us.length*u-us.sum)=q;omega
  rw[this];have e4:(us.map λu=>4*((us.length*u-us.sum)*(us.length*u-us.sum))+0)=(us.map λu=>(us.length*u-us.sum)*(us.length*u-us.sum)).map λy=>4*y+0:=by rw[List.map_map];rfl
  rw[e4,fS,Int.zero_mul,Int.add_zero]
 have e5:=sD (us.length:Int) (us.map λu=>2*u+1).sum (us.map λu=>2*u+1);rw[e5] at e3;have hQ:=nP (B:=961) ((us.map λu=>2*u+1).map λv=>v*v) λq hq=>by refine ar (OF hq) λv hv j3=>?_;subst j3;refine ar (OF hv) λu qI j2=>?_;subst j2;have:=hu u qI;have:=aY (a:=2*u+1) (b:=2*u+1) (A:=31) (B:=31) (C:=961) (by omega) (by omega) (by decide);omega
 have hV:=bQ (us.map λu=>2*u+1).sum;have hD:0<=(us.map λu=>(us.length*u-us.sum)*(us.length*u-us.sum)).sum:=by
  have:=nQ (B:=0) (us.map λu=>(us.length*u-us.sum)*(us.length*u-us.sum)) λq hq=>by refine ar (OF hq) λu _ j1=>?_;subst j1;exact bQ _
  rw[Int.zero_mul] at this;exact this
 rw[List.length_map,List.length_map] at hQ;rw[List.length_map] at e3;generalize (us.map λu=>(us.length*u-us.sum)*(us.length*u-us.sum)).sum=DD at *;generalize ((us.map λu=>2*u+1).map λv=>v*v).sum=QQ at *;generalize (us.map λu=>2*u+1).sum=VV at *;rw[Int.mul_assoc (us.length:Int) VV] at e3;rw[Int.mul_comm (VV*VV)] at e3;generalize VV*VV=V2 at *;have hn:us.length=2∨us.length=3∨us.length=4∨us.length=5∨us.length=6:=by omega
 rcases hn with hn|hn|hn|hn|hn<;>rw[hn] at e3 hQ ⊢<;>omega
include hp hf hm
theorem FL:(uu us ps f mid).length=(dO us).length:=by rw[List.length_map,kW h2 h6 hu,hp.length_eq,List.length_range]
theorem vE:(ps.map (aO (dO us))).Perm (dO us):=wV (by rw[kW h2 h6 hu];exact hp)
theorem zH:∃c,c8 (dO us) (uu us ps f mid) mid c:=by
 have lx:=kW h2 h6 hu;have ly:=FL h2 h6 hu hp hf hm;refine⟨_,ly,by omega,by omega,qB us,?_,λi hi=>OB (Bv h2 h6 hu i (by omega)) (by decide),λi hi=>?_,OB hm (by decide),CG h2 h6 hu _ _⟩
 ·rw[vD,fS,nO (vE h2 h6 hu hp hf hm),qB,Int.mul_zero,Int.zero_add,List.length_map,hp.length_eq,List.length_range,lx]
 ·have eM:i<ps.length:=by rw[hp.length_eq,List.length_range];omega
  have e:aO (uu us ps f mid) i=f*aO (dO us) ps[i]+mid:=by simp[aO,eM]
  have yL:ps[i]<us.length:=by have:=hp.mem_iff.mp (List.getElem_mem eM);simpa using this
  rw[e,Int.add_sub_cancel];exact aY (A:=4) (B:=930) hf (Bv h2 h6 hu _ yL) (by decide)
theorem Bx:∃c,fP (dO us) (uu us ps f mid) mid c f:=by
 refine aR (zH h2 h6 hu hp hf hm) λc D=>?_;have pm:=vE h2 h6 hu hp hf hm;refine⟨c,D,hf,?_,?_,λhf0=>?_,λhf0=>?_,λe=>FJ e,λe=>FK (qB us) e⟩
 ·rw[iH,vD,List.map_map,iH]
  have e:((λx=>(x-mid)*(x-mid))∘λx=>f*x+mid)=λx=>(f*f)*(x*x)+0:=by
   funext x
   show (f*x+mid-mid)*(f*x+mid-mid)=_;rw[Int.add_sub_cancel,Int.mul_assoc,Int.mul_left_comm x f x,Int.mul_assoc,Int.add_zero]
  have e2:(λx:Int=>(x-0)*(x-0))=λx=>x*x:=by funext x;rw[Int.sub_zero]
  rw[e,e2];have e3:((ps.map (aO (dO us))).map λx=>(f*f)*(x*x)+0)=((ps.map (aO (dO us))).map λx=>x*x).map λy=>(f*f)*y+0:=by rw[List.map_map,List.map_map,List.map_map];rfl
  rw[e3,fS,Int.zero_mul,Int.add_zero,nO (pm.map _)]
 ·have hB:=spread h2 h6 hu
  have:=Nat.mul_le_mul hf hB;omega
 ·rw[vD,zF hf0]
  exact zE pm
 ·refine pA _ mid λu qI=>?_
  rw[vD] at qI;refine ar (OF qI) λx _ j1=>?_;subst j1;rw[hf0,Int.zero_mul,Int.zero_add]
end
section
variable{us ws:List Int} (h2:2<=us.length) (h6:us.length<=6) (hu:∀u∈us,-16<=u/\u<=15) (hw:∀w∈ws,-512<=w/\w<=511) (hl:ws.length=us.length) (hm:mid.natAbs<=2^20)
include h2 h6 hu hw hl hm
theorem FN:∃c,c8 (dO us) (Bu ws mid) ((us.length-1)*ws.sum+mid) c:=by
 have lx:=kW h2 h6 hu;have lz:(Bu ws mid).length=(dO us).length:=by rw[List.length_map,lx,hl]
 have s1:=nP ws λu h=>(hw u h).2;have s2:=nQ ws λu h=>(hw u h).1;refine⟨_,lz,by omega,by omega,qB us,?_,λi hi=>OB (Bv h2 h6 hu i (by omega)) (by decide),λi hi=>?_,?_,CG h2 h6 hu _ _⟩
 ·rw[fS,lx,hl,Int.add_mul,Int.mul_assoc,Int.mul_assoc,Int.mul_comm ws.sum]
 ·have eM:i<ws.length:=by omega
  rw[jZ _ eM,hl];have a:=hw _ (vC eM);generalize aO ws i=v at *;generalize ws.sum=S at *;refine cA a λa1 a2=>?_;clear a;rw[hl] at s1 s2;have b1:(us.length:Int)*v<=511*us.length:=by rw[Int.mul_comm];exact Int.mul_le_mul_of_nonneg_right a2 (by omega)
  have b2: -512*(us.length:Int)<=us.length*v:=by rw[Int.mul_comm (us.length:Int) v];exact Int.mul_le_mul_of_nonneg_right a1 (by omega)
  have e:(us.length-1)*us.length*v+mid-((us.length-1)*S+mid)=((us.length:Int)-1)*(us.length*v-S):=by rw[Int.mul_sub,Int.mul_assoc];omega
  rw[e];generalize (us.length:Int)*v=nv at *;have c:(nv-S).natAbs<=6138:=by omega
  exact aY (A:=5) (B:=6138) (by omega) c (by decide)
 ·rw[hl] at s1 s2
  have c:ws.sum.natAbs<=3072:=by omega
  have d:(((us.length:Int)-1)*ws.sum).natAbs<=15360:=aY (A:=5) (B:=3072) (by omega) c (by decide);omega
end
section
variable{ns ms:List Int}
theorem nR{lo hi:Option Expr}{l u:Option Int}(He:Ev w A h env e (LI ns))(hz:ns.length<=100)(Hl:∀(s:Shared)(Q E:Value->Shared->Prop),h.StaysIn s.heap->(∀v tk,IsPart v l->Q v (bp s s.heap tk))->wpAny (model pw w) A (evalPart lo env) Q E s)(Hu:∀(s:Shared)(Q E:Value->Shared->Prop),h.StaysIn s.heap->(∀v tk,IsPart v u->Q v (bp s s.heap tk))->wpAny (model pw w) A (evalPart hi env) Q E s)(hp:∀vs:List Value,IntsAre vs ns->IntsAre (slicePick vs.toArray l u none).toList ms)(ht:∀o r,letTemporaryGo e o r=pure ():=by intro _ _;rfl):
  Ev w A h env (.Subscript e (.Slice lo hi none p) pos) (LI ms):=λs Q E hs hq=>by
 refine wpAny_Subscript_list_slice (He s _ _ hs λv h₁ bg gp q=>?_) ht;refine aG q λa vs j1 il hi=>?_;clear q;subst j1;refine Hl _ _ _ (ai hs gp) λvl tl pl=>Hu _ _ _ (ai hs gp) λvu tu pu=>?_;refine⟨a,vs.toArray,l,u,rfl,il,by rw[sizeLine_eq,List.size_toArray,hi.length];omega,pl,pu,?_⟩;refine hq _ _ tu (ai gp λb o e=>K' _ (K' _ e)) ⟨_,(slicePick vs.toArray l u none).toList,rfl,⟨{cls:=.type "list",data:=.seq (slicePick vs.toArray l u none)},?_,rfl,0,by simp⟩,hp vs hi⟩;have e1:=OC (h₁.push {cls:=.type "slice",data:=.fields #[vl,vu,.none]}) (o:={cls:=.type "list",data:=.seq (slicePick vs.toArray l u none)}) rfl;rw[Heap.size_push] at e1;exact e1
theorem pD(s:Shared)(Q E:Value->Shared->Prop)(hs:h.StaysIn s.heap)(hq:∀v tk,IsPart v none->Q v (bp s s.heap tk)):wpAny (model pw w) A (evalPart none env) Q E s:=wpAny_evalPart_none (hq _ s.toks .none)
theorem ke{i:Int}(s:Shared)(Q E:Value->Shared->Prop)(hs:h.StaysIn s.heap)(hq:∀v tk,IsPart v (some i)->Q v (bp s s.heap tk)):wpAny (model pw w) A (evalPart (some (.Constant (.int i) k1 p1)) env) Q E s:=
 wpAny_evalPart_some (wpAny_Constant_int (hq _ (s.toks+1) (.int i _)))
theorem Ev.Nv{i:Int}(He:Ev w A h env e (LI ns))(hz:ns.length<=100)(hi:0<=i)(ht:∀o r,letTemporaryGo e o r=pure ():=by intro _ _;rfl):Ev w A h env (.Subscript e (.Slice none (some (.Constant (.int i) k1 p1)) none p) pos) (LI (ns.take i.toNat)):=
 nR He hz pD ke (λvs h=>slice_ints_uptoW h hi) ht
theorem Ev.from{i:Int}(He:Ev w A h env e (LI ns))(hz:ns.length<=100)(hi:0<=i)(ht:∀o r,letTemporaryGo e o r=pure ():=by intro _ _;rfl):Ev w A h env (.Subscript e (.Slice (some (.Constant (.int i) k1 p1)) none none p) pos) (LI (ns.drop i.toNat)):=
 nR He hz ke pD (λvs h=>slice_ints_fromW h hi) ht
theorem Ev.between{i j:Int}(He:Ev w A h env e (LI ns))(hz:ns.length<=100)(ht:∀o r,letTemporaryGo e o r=pure ():=by intro _ _;rfl):Ev w A h env (.Subscript e (.Slice (some (.Constant (.int i) k1 p1)) (some (.Constant (.int j) k2 p2)) none p) pos) (LI ((ns.drop (clipAt ns.length i)).take (clipAt ns.length j-clipAt ns.length i))):=
 nR He hz ke (ke (k1:=k2) (p1:=p2)) (λvs h=>slice_ints_plain h i j) ht
theorem vF(n:Nat)(l:List Int):((l.drop (clipAt n 1)).take (clipAt n 5-clipAt n 1)).length<=4:=by have h1:=clipAt_min (n:=n) (y:=1) (by decide);have h5:=clipAt_min (n:=n) (y:=5) (by decide);rw[List.length_take];refine OB (Nat.min_le_left _ _) ?_;generalize clipAt n 1=a at h1;generalize clipAt n 5=c at h5;split at h1<;>split at h5<;>omega
theorem CH{l:Expr}{bs:List Int}(Hl:aF w A frs cs h env l (LI as) x)(Hr:aF w A frs cs h env r (LI bs) x)(hz:as.length+bs.length<=100):aF w A frs cs h env (.BinOp l .Add r pos) (LI (as++bs)) x:=
 aF.bin Hl LI.av Hr λu v h1 k1 bV za=>by refine aG bV λa vs e il hi=>?_;clear bV;refine aG za λb ws e' wO eM=>?_;clear za;subst e;subst e';exact (J6 il wO (by rw[hi.length,eM.length];exact hz)).mono λv h' _ bV=>by refine ar bV λd e il=>⟨d,vs++ws,e,il,IntsAre.append hi eM⟩
end
theorem iV(f:Int->Int)(l:List Int):(List.range l.length).map (λi=>f (aO l i))=l.map f:=by have:(λi=>f (aO l i))=f∘aO l:=rfl;rw[this,<-List.map_map,pC]
theorem nS(a:Int){b:Int}(hb:0<b):0<=a.fmod b/\a.fmod b<b:=⟨Int.fmod_nonneg_of_pos _ hb,Int.fmod_lt_of_pos _ hb⟩
section
variable{a b c d:Expr}{y:Str}{P₄ R:Value->Heap->Prop}
theorem aF.Ku(Hf:aF w A frs cs h env (.Name y p) (λu _=>u=f) x)(kp:Kp w h f)(Ha:aF w A frs cs h env a P₁ x)(fm:cU P₁)(Hb:aF w A frs cs h env b P₂ x)(jD:cU P₂)(Hc:aF w A frs cs h env c P₃ x)(qM:cU P₃)(Hd:aF w A frs cs h env d P₄ x)(Kv:cU P₄)(hc:∀v u z t h₁,h.StaysIn h₁->P₁ v h₁->P₂ u h₁->P₃ z h₁->P₄ t h₁->df w A frs cs h₁ f [v,u,z,t] [] R x)(bE:autoParam (starEach [a,b,c,d] env=[(false,eval a env),(false,eval b env),(false,eval c env),(false,eval d env)]) cH)(cQ:autoParam (starEach [b,c,d] env=[(false,eval b env),(false,eval c env),(false,eval d env)]) cH)(fB:autoParam (starEach [c,d] env=[(false,eval c env),(false,eval d env)]) cH)(sE:autoParam (starEach [d] env=[(false,eval d env)]) cH):
  aF w A frs cs h env (.Call (.Name y p) [a,b,c,d] [] pos) R x:=
 aF.fA Hf kp (cw.cons Ha fm (cw.cons Hb jD (cw.cons Hc qM (cw.one Hd Kv sE) (by rw[fB,sE])) (by rw[cQ,fB])) (by rw[bE,cQ])) (by rw[bE];rfl) (λvs h₁ k q=>by refine aG q ?_;clear q;intro v _ j1 q j2;refine aG j2 λu _ j3 q' j4=>aG j4 λz _ j5 HK j6=>ar j6 λt j7 Pd=>?_;clear j2 j4 j6;subst j7;subst j5;subst j3;subst j1;exact hc v u z t h₁ k q q' HK Pd) rfl (λh=>by rw[bE] at h ⊢;exact PH h)
end
noncomputable abbrev e8(L:Addr):Env:=envOfC (sn "law") HF L 482 (.ref 481)
section
variable{a:Addr}{ns:List Int}
theorem FO(G:Gl w h)(hA:A.frames=some (frs.map (·.1)))(hl:LI ns (.ref a) h)(hz:ns.length<=64)(hh:A.handled=none)(hd:A.depth+12<=320)(hu:A.units<=20):
  df w A frs cso h (.ref 482) [.ref a] [] (iN true) x:=by
 have uO:400<recursionLimit:=by decide
 have wH:100<cLine:=by decide
 refine df.def (binds:=[(sn "script",.ref a)]) G hA (by k_is) rfl (by k_is) (by omega) (λs _=>.of_eq rfl) rfl (by decide) (λL g hg aQ=>?_);clear aQ;show aP _ _ _ (e8 L) _ [L+5,L+4,L+3,L+2,L+1] _ [L,L+5,L+4,L+3,L+2,L+1] _ (upd (λ_=>none) (sn "script") (.ref a)) _ _ _;have jz:∀{m:Str->Option Value},(A.deeper (e8 L)).frames=some (((e8 L,m)::frs).map (·.1)):=by intro m;exact Ow hA
 have hA2:(A.deeper (e8 L)).handled=none:=hh;have hA3:(A.deeper (e8 L)).depth=A.depth+1:=rfl;have hA4:(A.deeper (e8 L)).units=A.units+3:=rfl;generalize A.deeper (e8 L)=B at *;have Gg:=G.mono hg;have Fy:=LI.av _ _ _ hg hl;have S:∀{h':Heap}{m:Str->Option Value}{p:Pos},g.StaysIn h'->h'.Ns L m->m (sn "script")=some (.ref a)->Ev w B h' (e8 L) (.Name (sn "script") p) (LI ns):=λk hn hm=>Ev.mono (Ev.ao (v:=.ref a) hn hm) λv h1 k1 e=>e▸LI.av _ _ _ (ai k k1) Fy;have hlh:(ns.take 1).length+(ns.drop 5).length<=100:=by rw[List.length_take,List.length_drop];exact OB (Nat.add_le_add (Nat.min_le_left _ _) (Nat.sub_le _ _)) (by omega)
 refine aP.assign (P:=iO (ns.take 1++ns.drop 5).sum) (aF.bz (f:=.builtin "sum") (aF.of (λh' k N=>Ev.aE (Gg.mono k) (by k_is) kR) aj) Kp.builtin
  (CH (aF.of (λh' k N=>Ev.Nv (S k (N _ (.head _)) (by rfl)) (by omega) (by decide)) c5) (aF.of (λh' k N=>Ev.from (S k (N _ (.head _)) (by rfl)) (by omega) (by decide)) c5) hlh) LI.av
  (λv h1 k1 q=>df.of (λh' k=>km hA2 (LI.av _ _ _ k q)) aj)) (λv g1 k1 hv=>?_) (by rfl)
 refine aR hv λth iY=>?_;clear hv;subst iY;generalize (ns.take 1++ns.drop 5).sum=H;have hf1:=nS H (b:=9) (by decide);refine aP.dU (c:=L+1) (cs':=[L+5,L+4,L+3,L+2]) (P:=iO (H.fmod 9-4)) (aF.of (λh' k N=>Ev.sub (Ev.fmod (Ev.cS (Ev.ao (v:=.int H th) (N _ (.head _)))) Ev.int (by decide)) Ev.int) aj) aA (λv g2 k2 hv cf=>?_) (by rfl) (by rfl) (by rfl) (by simp) (by simp);refine aR hv λtf eR=>?_;clear hv;subst eR;have hm1:=nS (H.fdiv 9) (b:=2097152) (by decide);refine aP.dU (c:=L+2) (cs':=[L+5,L+4,L+3]) (P:=iO ((H.fdiv 9).fmod 2097152-1048576)) (aF.of (λh' k N=>Ev.sub (Ev.fmod (Ev.fdiv (Ev.cS (Ev.ao (v:=.int H th) (N _ (.head _)))) Ev.int (by decide) (gq (by decide))) Ev.int (by decide)) Ev.int) aj) aA (λv g3 k3 hv cm=>?_) (by rfl) (by rfl) (by rfl) (by simp) (by simp);refine aR hv λtm ib=>?_;clear hv;subst ib;have hfb:(H.fmod 9-4).natAbs<=4:=KN (by omega) (by omega);have hmb:((H.fdiv 9).fmod 2097152-1048576).natAbs<=2^20:=KN (by omega) (by omega);generalize H.fmod 9-4=f at *;generalize (H.fdiv 9).fmod 2097152-1048576=mid at *;have k03:=ai k1 (ai k2 k3);refine aP.assign (P:=LI ((ns.drop (clipAt ns.length 1)).take (clipAt ns.length 5-clipAt ns.length 1)++[70,3+H])) (CH (aF.of (λh' k N=>Ev.between (S (ai k03 k) (N _ (.head _)) (by rfl)) (by omega)) c5)
  (aF.listI (cw.sk (aF.of (λh' k N=>Ev.int) aj) (cw.sk (aF.of (λh' k N=>Ev.add Ev.int (Ev.cS (Ev.ao (v:=.int H th) (N _ (.head _))))) aj) cw.J8)) (by simp)) (by have:=vF ns.length ns;simp only[List.length_cons,List.length_nil];omega)) (λv g4 k4 hv=>?_) (by rfl)
 have hc4:=vF ns.length ns;generalize (ns.drop (clipAt ns.length 1)).take (clipAt ns.length 5-clipAt ns.length 1)=ms at hv hc4;have Nw:(ms++[70,3+H]).length=ms.length+2:=by simp
 generalize ms++[70,3+H]=cells at hv Nw;refine aG hv λac vcs eS ilc hic=>?_;clear hv;subst eS;have lc:LI cells (.ref ac) g4:=⟨ac,vcs,rfl,ilc,hic⟩;have G4:=Gg.mono (ai k03 k4);have cf4:=aq (ai k3 k4) cf;have cm4:=aq k4 cm;have h2:2<=cells.length:=by omega
 have h6:cells.length<=6:=by omega
 clear S Fy;have C:∀{h':Heap}{m:Str->Option Value}{p:Pos},g4.StaysIn h'->h'.Ns L m->m (sn "cells")=some (.ref ac)->Ev w B h' (e8 L) (.Name (sn "cells") p) (LI cells):=λk hn hm=>Ev.mono (Ev.ao (v:=.ref ac) hn hm) λv h1 k1 e=>e▸LI.av _ _ _ (ai k k1) lc;refine aP.dU (c:=L+3) (cs':=[L+5,L+4]) (P:=iO cells.length) (aF.of (λh' k N=>Ev.bz (Ev.aE (G4.mono k) (by k_is) cR) Kp.builtin (C k (N _ (.head _)) (by rfl)) LI.av (λv h1 k1 q=>dC q (by omega))) aj) aA (λv g5 k5 hv cn=>?_) (by rfl) (by rfl) (by rfl) (by simp) (by simp);refine aR hv λtn j9=>?_;clear hv;subst j9;have hnn:(cells.length:Int)≠0:=by omega
 have k05:=k5;refine aP.dU (c:=L+4) (cs':=[L+5]) (P:=LI (cells.map λc=>c.fmod 32-16)) (aF.of (λh' k N=>Ev.mono (Ev.mf (x:=sn "c") (cl:=[]) (ns:=cells) (λ_=>true) (λc=>c.fmod 32-16) (C (ai k5 k) (N _ (.head _)) (by rfl)) (by rw[sizeLine_eq];omega) hA2 (λ_ _ _ _ _ _ _ _ _=>.inl ⟨rfl,rfl⟩)
  (λj hj _ C' t m h' k2 hn hm=>Ev.sub (Ev.fmod (Ev.cS (Ev.ao hn hm)) Ev.int (by decide)) Ev.int) (by rfl) (by decide) (by rfl) (by decide) (by rfl)) (λv h' _ q=>by rw[List.filter_eq_self.mpr λ_ _=>rfl] at q;exact q)) c5) LI.av (λv g6 k6 hv cr=>?_) (by rfl) (by rfl) (by rfl) (by simp) (by simp)
 have hul:(cells.map λc=>c.fmod 32-16).length=cells.length:=List.length_map _;have CJ:∀u∈cells.map (λc=>c.fmod 32-16),-16<=u/\u<=15:=λu hu=>by refine ar (OF hu) λc _ j8=>?_;subst j8;have:=nS c (b:=32) (by decide);omega
 generalize cells.map (λc=>c.fmod 32-16)=us at hv hul CJ;refine aG hv λau vus j7 ilu hiu=>?_;clear hv;subst j7;have lu:LI us (.ref au) g6:=⟨au,vus,rfl,ilu,hiu⟩;have k56:=ai k5 k6;refine aP.kU (x:=sn "c") (cl:=[]) (λl=>l=cells) (λl i=>((aO l i).fdiv 32).fmod 1024-512) hA2 (by rfl) (λh' k hn=>Ev.mono (C (ai k56 k) hn (by rfl)) λv h' _ q=>⟨cells,rfl,q⟩) (λl e=>by subst e;omega)
  (λl e i C' PR t h' hi k hn hm=>pq.sub (Ev.fmod (Ev.fdiv (Ev.cS (Ev.ao hn hm)) Ev.int (by decide) (gq (by decide))) Ev.int (by decide)) Ev.int)
  (λl e aw g7 k7 hw=>?_) (by rfl) (by decide) (by rfl) (by decide) (by rfl) (by rfl)
 subst e;rw[iV (λc=>(c.fdiv 32).fmod 1024-512)] at hw;have GJ:(l.map λc=>(c.fdiv 32).fmod 1024-512).length=l.length:=List.length_map _;have hwb:∀u∈l.map (λc=>(c.fdiv 32).fmod 1024-512),-512<=u/\u<=511:=λu hu=>by refine ar (OF hu) λc _ j6=>?_;subst j6;have:=nS (c.fdiv 32) (b:=1024) (by decide);omega
 generalize l.map (λc=>(c.fdiv 32).fmod 1024-512)=ws at hw GJ hwb;rw[<-hul] at GJ;have lw:=bt.li hw;have k67:=k7;have cn7:=aq (ai k6 k7) cn;have cr7:=aq k7 cr;have lu7:=LI.av _ _ _ k7 lu;have G7:=G4.mono (ai k56 k7);have cf7:=aq (ai k56 k7) cf4;have cm7:=aq (ai k56 k7) cm4;rw[<-hul] at cn7;have hu2:2<=us.length:=by omega
 have hu6:us.length<=6:=by omega
 have hus:us.sum.natAbs<=96:=by have s1:=nP us λu h=>(CJ u h).2;have s2:=nQ us λu h=>(CJ u h).1;omega
 refine aP.zB (c:=L+5) (cs':=[]) (P:=bt ((List.range us.length).map λi=>(us.length-1)*(us.length*aO us i-us.sum))) (fU.Bt (x:=sn "u") (cl:=[(sn "rests",L+4),(sn "n",L+3)]) (ns:=us) (λi=>(us.length-1)*(us.length*aO us i-us.sum)) hA2 (by rfl) (by decide) (by rfl) (by decide) (by rfl) (by omega)
  (λh' k N=>Ev.mono (Ev.bj (v:=.ref au) (c:=L+4) (aq k cr7)) λv h1 k1 e=>e▸LI.av _ _ _ (ai k k1) lu7)
  (λi C' PR t h' hi k hn hm=>pq.mul (Ev.sub (Ev.cS (Ev.bj (v:=.int us.length tn) (c:=L+3) (aq k cn7))) Ev.int)
   (Ev.sub (Ev.mul (Ev.cS (Ev.bj (v:=.int us.length tn) (c:=L+3) (aq k cn7))) (Ev.cS (Ev.ao hn hm)) (fM (by omega)))
    (Ev.bz (P₁:=LI us) (Ev.aE (G7.mono k) (by k_is) kR) Kp.builtin (Ev.mono (Ev.bj (v:=.ref au) (c:=L+4) (aq k cr7)) λv h1 k1 e=>e▸LI.av _ _ _ (ai k k1) lu7) LI.av (λv h1 k1 q=>km hA2 q))) (fM (by omega)))) bt.av (λv g8 k8 hx cx=>?_) (by rfl) (by rfl) (by rfl) (by simp) (by simp)
 rw[iV (λu=>(us.length-1)*(us.length*u-us.sum))] at hx;obtain⟨ax,hxe⟩:∃ax,v = .ref ax:=(by refine aV hx λda _ _ e _=>⟨da,e⟩);subst hxe;have hx:bt (dO us) (.ref ax) g8:=hx;have lx:=bt.li hx;have hxl:=kW hu2 hu6 CJ;have hxb:=Bv hu2 hu6 CJ;have k78:=ai k7 k8;have G8:=G7.mono k8;refine aP.kU (x:=sn "p") (cl:=[(sn "x",L+5),(sn "middle",L+2),(sn "factor",L+1)]) (λd=>∃ps:List Nat,ps.Perm (List.range us.length)/\d=cast ps) (λd i=>f*aO (dO us) (aO d i).toNat+mid) hA2 (by rfl)
  (λh' k hn=>Ev.mono (P':=λv h'=>∃d,(∃ps:List Nat,ps.Perm (List.range us.length)/\d=cast ps)/\LI d v h') (Ev.bz (f:=.ref 477) (P₁:=LI l) (R:=λv h'=>∃ps:List Nat,ps.Perm (List.range l.length)/\LI (cast ps) v h') (Ev.aD (G8.mono k) (by k_is)) (Kp.K (G8.mono k) (by k_is)) (C (ai k56 (ai k78 k)) hn (by rfl)) LI.av (λv h1 k1 q=>by refine aN (id q) λac' vs j5 q'=>?_;subst j5;exact Br ((G8.mono k).mono k1) q (by omega) hA2 (by omega))) λv h' _ bV=>by refine ar bV λps hp q=>⟨cast ps,⟨ps,by rw[hul];exact hp,rfl⟩,q⟩)
  (λd bV=>by refine ar bV λps hp e=>by rw[e,List.length_map,hp.length_eq,List.length_range];omega)
  (λd e i C' PR t h' hi k hn hm=>?_)
  (λd e ay g9 k9 hy=>?_) (by rfl) (by decide) (by rfl) (by decide) (by rfl) (by rfl)
 ·refine ar e λps hp j4=>?_;clear e;subst j4
  have eM:i<ps.length:=by rw[List.length_map] at hi;exact hi
  have e0:aO (cast ps) i=(ps[i]:Nat):=by simp[aO,eM]
  have yL:ps[i]<us.length:=by have:=hp.mem_iff.mp (List.getElem_mem eM);simpa using this
  have hb:=hxb _ yL;rw[e0] at hm ⊢;rw[Int.toNat_natCast];refine pq.add (Ev.mul (Ev.cS (Ev.bj (v:=.int f tf) (c:=L+1) (aq (ai k8 k) cf7))) (Ev.item (ns:=dO us) (k:=(ps[i]:Nat)) ?_ (Ev.cS (Ev.ao hn hm)) (by omega) (by omega) ?_) (fM (by omega)))
   (Ev.cS (Ev.bj (v:=.int mid tm) (c:=L+2) (aq (ai k8 k) cm7)))
  ·exact Ev.mono (Ev.bj (v:=.ref ax) (c:=L+5) (aq k cx)) λv h1 k1 e=>e▸LI.av _ _ _ (ai k k1) lx
  ·rw[Int.toNat_natCast]
   have cN:ps[i]<(dO us).length:=by rw[hxl];exact yL
   rw[List.getElem?_eq_getElem cN];simp only[aO,List.getElem?_eq_getElem cN,Option.getD_some]
 refine ar e λps hp j3=>?_;clear e;subst j3;have hye:((List.range (cast ps).length).map λi=>f*aO (dO us) (aO (cast ps) i).toNat+mid)=uu us ps f mid:=by rw[iV (λk=>f*aO (dO us) k.toNat+mid),List.map_map];refine List.map_congr_left λp _=>?_;show f*aO (dO us) ((p:Nat):Int).toNat+mid=_;rw[Int.toNat_natCast]
 rw[hye] at hy;have ly:=bt.li hy;have cn9:=aq (ai k8 k9) cn7;have cm9:=aq (ai k8 k9) cm7;have lw9:=LI.av _ _ _ (ai k8 k9) lw;refine aP.kU (x:=sn "w") (cl:=[(sn "n",L+3),(sn "middle",L+2)]) (λd=>d=ws) (λd i=>(us.length-1)*us.length*aO d i+mid) hA2 (by rfl)
  (λh' k hn=>Ev.mono (Ev.ao (v:=.ref aw) hn) λv h1 k1 e=>(⟨ws,rfl,by rw[show v = .ref aw from e];exact LI.av _ _ _ (ai k k1) lw9⟩:∃ns,ns=ws/\LI ns v h1))
  (λd e=>by subst e;omega)
  (λd e i C' PR t h' hi k hn hm=>pq.add (Ev.mul (Ev.mul (Ev.sub (Ev.cS (Ev.bj (v:=.int us.length tn) (c:=L+3) (aq k cn9))) Ev.int) (Ev.cS (Ev.bj (v:=.int us.length tn) (c:=L+3) (aq k cn9))) (fM (by omega))) (Ev.cS (Ev.ao hn hm)) (fM ?_))
   (Ev.cS (Ev.bj (v:=.int mid tm) (c:=L+2) (aq k cm9))))
  (λd e az g10 k10 xP=>?_) (by rfl) (by decide) (by rfl) (by decide) (by rfl) (by rfl)
 ·exact OV (aY (A:=5) (B:=6) (C:=30) (by omega) (by omega) (by decide)) (by decide)
 subst e;rw[iV (λv=>(us.length-1)*us.length*v+mid)] at xP;have hze:(d.map λv=>((us.length:Int)-1)*us.length*v+mid)=Bu d mid:=by refine List.map_congr_left λv _=>?_;show _=(d.length-1)*d.length*v+mid;rw[GJ]
 rw[hze] at xP;have lz:=bt.li xP;have zR:=G8.mono (ai k9 k10);have Nx:=aq k10 cn9;have Kw:=aq k10 cm9;have Ny:=LI.av _ _ _ k10 lw9;refine aP.assign (P:=iO ((us.length-1)*d.sum+mid)) (aF.of (λh' k N=>Ev.add (Ev.mul (Ev.sub (Ev.cS (Ev.bj (v:=.int us.length tn) (c:=L+3) (aq k Nx))) Ev.int)
  (Ev.bz (P₁:=LI d) (Ev.aE (zR.mono k) (by k_is) kR) Kp.builtin (Ev.mono (Ev.ao (v:=.ref aw) (N _ (.head _))) λv h1 k1 e=>e▸LI.av _ _ _ (ai k k1) Ny) LI.av (λv h1 k1 q=>km hA2 q)) (fM (by omega)))
  (Ev.cS (Ev.bj (v:=.int mid tm) (c:=L+2) (aq k Kw)))) aj) (λv g11 k11 hv=>?_) (by rfl)
 refine aR hv λtg j2=>?_;clear hv;subst j2;refine aR (zH hu2 hu6 CJ hp hfb hmb) λc1 D1=>?_;refine aR (FN hu2 hu6 CJ hwb GJ hmb) λc2 D2=>?_;refine aR (Bx hu2 hu6 CJ hp hfb hmb) λc3 D3=>?_;have hyl:=D1.len;have hzl:=D2.len;have hhb:=D2.bm;generalize ((us.length:Int)-1)*d.sum+mid=high at *;generalize uu us ps f mid=ys at *;generalize Bu d mid=zs at *;have NZ:=D1.two;have N0:=D1.six;have k8':=ai k9 (ai k10 k11);have oK:=zR.mono k11;have zI:=bt.av _ _ _ k8' hx;have FP:=bt.av _ _ _ (ai k10 k11) hy;have FQ:=bt.av _ _ _ k11 xP;have Nz:=aq k8' cx;have NA:=aq k11 Kw;have NB:=aq k8' (aq k8 cf7);generalize dO us=xs at *;have XX:∀{g':Heap}{m:Str->Option Value}{p:Pos},g11.StaysIn g'->aF w B ((e8 L,m)::frs) ([]++cso) g' (e8 L) (.Name (sn "x") p) (ff (.ref ax)) x:=λk0=>aF.of (λh' k N=>Ev.bj (c:=L+5) (aq (ai k0 k) Nz)) aj;have MM:∀{g':Heap}{m:Str->Option Value}{p:Pos},g11.StaysIn g'->aF w B ((e8 L,m)::frs) ([]++cso) g' (e8 L) (.Name (sn "middle") p) (ff (.int mid tm)) x:=λk0=>aF.of (λh' k N=>Ev.bj (c:=L+2) (aq (ai k0 k) NA)) aj;have FF:∀{g':Heap}{m:Str->Option Value}{p:Pos},g11.StaysIn g'->aF w B ((e8 L,m)::frs) ([]++cso) g' (e8 L) (.Name (sn "factor") p) (ff (.int f tf)) x:=λk0=>aF.of (λh' k N=>Ev.bj (c:=L+1) (aq (ai k0 k) NB)) aj;have N1:=nS H (b:=5) (by decide);refine aP.ret (P:=iN true) (aF.and (b₁:=true) (b₂:=true) ?_ λq1 r1 _=>aF.and (b₁:=true) (b₂:=true) ?_ λq2 r2 _=>aF.and (b₁:=true) (b₂:=true) ?_ λq3 r3 _=>aF.and (b₁:=true) (b₂:=true) ?_ λq4 r4 _=>aF.and (b₁:=true) (b₂:=true) ?_ λq5 r5 _=>aF.and (b₁:=true) (b₂:=true) ?_ λq6 r6 _=>aF.and1 ?_) (λv h' _ p=>p)
 ·refine aF.uv (f:=.ref 460) (P₂:=ff (.ref ay)) (aF.of (λh' k N=>Ev.aD (oK.mono k) (by k_is)) aj) (Kp.K oK (by k_is)) (XX (ak _)) aA (aF.of (λh' k N=>Ev.ao (N _ (.head _))) aj) aA (MM (ak _)) aA (λv u z h1 k1 e1 e2 e3=>?_)
  obtain rfl:v = .ref ax:=e1;obtain rfl:u = .ref ay:=e2;obtain rfl:z = .int mid tm:=e3;exact lH (oK.mono k1) jz (LI.av _ _ _ k1 (bt.li zI)) (LI.av _ _ _ k1 (bt.li FP)) D1 hA2 (by omega) (by omega) (by omega)
 ·refine aF.uv (f:=.ref 460) (P₂:=ff (.ref az)) (P₃:=ff (.int high tg)) (aF.of (λh' k N=>Ev.aD ((oK.mono r1).mono k) (by k_is)) aj) (Kp.K (oK.mono r1) (by k_is)) (XX r1) aA (aF.of (λh' k N=>Ev.ao (N _ (.head _))) aj) aA (aF.of (λh' k N=>Ev.ao (N _ (.head _))) aj) aA (λv u z h1 k1 e1 e2 e3=>?_)
  obtain rfl:v = .ref ax:=e1;obtain rfl:u = .ref az:=e2;obtain rfl:z = .int high tg:=e3;have kk:=ai r1 k1;exact lH (oK.mono kk) jz (LI.av _ _ _ kk (bt.li zI)) (LI.av _ _ _ kk (bt.li FQ)) D2 hA2 (by omega) (by omega) (by omega)
 ·have rr:=ai r1 r2
  refine aF.uv (f:=.ref 465) (P₂:=ff (.ref ay)) (aF.of (λh' k N=>Ev.aD ((oK.mono rr).mono k) (by k_is)) aj) (Kp.K (oK.mono rr) (by k_is)) (XX rr) aA (aF.of (λh' k N=>Ev.ao (N _ (.head _))) aj) aA (FF rr) aA (λv u z h1 k1 e1 e2 e3=>?_);obtain rfl:v = .ref ax:=e1;obtain rfl:u = .ref ay:=e2;obtain rfl:z = .int f tf:=e3;have kk:=ai rr k1;exact oJ (oK.mono kk) jz (bt.av _ _ _ kk zI) (bt.av _ _ _ kk FP) D3 hA2 (by omega) (by omega)
 ·have rr:=ai r1 (ai r2 r3)
  refine aF.Ku (f:=.ref 470) (P₂:=ff (.ref az)) (P₃:=ff (.int high tg)) (P₄:=iO (1+H.fmod 5)) (aF.of (λh' k N=>Ev.aD ((oK.mono rr).mono k) (by k_is)) aj) (Kp.K (oK.mono rr) (by k_is)) (XX rr) aA (aF.of (λh' k N=>Ev.ao (N _ (.head _))) aj) aA (aF.of (λh' k N=>Ev.ao (N _ (.head _))) aj) aA
   (aF.of (λh' k N=>Ev.add Ev.int (Ev.fmod (Ev.cS (Ev.ao (v:=.int H th) (N _ (.head _)))) Ev.int (by decide))) aj) aA (λv u z o h1 k1 e1 e2 e3 e4=>?_)
  obtain rfl:v = .ref ax:=e1;obtain rfl:u = .ref az:=e2;obtain rfl:z = .int high tg:=e3;refine aR e4 λt4 j1=>?_;clear e4;subst j1;have kk:=ai rr k1;exact nK (oK.mono kk) jz (LI.av _ _ _ kk (bt.li zI)) (LI.av _ _ _ kk (bt.li FQ)) D2 (by omega) (by omega) hA2 (by omega) (by omega) (by omega)
 ·have rr:=ai r1 (ai r2 (ai r3 r4))
  refine aF.call2 (f:=.ref 453) (aF.of (λh' k N=>Ev.aD ((oK.mono rr).mono k) (by k_is)) aj) (Kp.K (oK.mono rr) (by k_is)) (XX rr) aA (MM rr) aA (λv u h1 k1 e1 e2=>?_);obtain rfl:v = .ref ax:=e1;obtain rfl:u = .int mid tm:=e2;exact gN (oK.mono (ai rr k1)) jz hA2 (by omega) (by omega) (bt.av _ _ _ (ai rr k1) zI) (by omega) (by omega) (by omega)
 ·have rr:=ai r1 (ai r2 (ai r3 (ai r4 r5)))
  refine aF.call2 (f:=.ref 453) (P₁:=ff (.ref ay)) (aF.of (λh' k N=>Ev.aD ((oK.mono rr).mono k) (by k_is)) aj) (Kp.K (oK.mono rr) (by k_is)) (aF.of (λh' k N=>Ev.ao (N _ (.head _))) aj) aA (FF rr) aA (λv u h1 k1 e1 e2=>?_);obtain rfl:v = .ref ay:=e1;obtain rfl:u = .int f tf:=e2;exact gN (oK.mono (ai rr k1)) jz hA2 (by omega) (by omega) (bt.av _ _ _ (ai rr k1) FP) (by omega) (by omega) (by omega)
 ·have rr:=ai r1 (ai r2 (ai r3 (ai r4 (ai r5 r6))))
  refine aF.call2 (f:=.ref 453) (P₁:=ff (.ref az)) (aF.of (λh' k N=>Ev.aD ((oK.mono rr).mono k) (by k_is)) aj) (Kp.K (oK.mono rr) (by k_is)) (aF.of (λh' k N=>Ev.ao (N _ (.head _))) aj) aA (MM rr) aA (λv u h1 k1 e1 e2=>?_);obtain rfl:v = .ref az:=e1;obtain rfl:u = .int mid tm:=e2;exact gN (oK.mono (ai rr k1)) jz hA2 (by omega) (by omega) (bt.av _ _ _ (ai rr k1) FQ) (by omega) (by omega) (by omega)
end
theorem lookup_mem{K:Frag}:∀{a:Addr}{o:Obj},K.lookup a=some o->(a,o)∈K:=by
 induction K with
 |nil=>intro a o h;cases h
 |cons q K ih=>
  intro a o h;rw[List.lookup_cons] at h;split at h
  ·rename_i e
   have:a=q.1:=by simpa using e
   cases h;rw[this];exact .head _
  ·exact .tail _ (ih h)
theorem Kx(p:Params):(K p).all (λq=>!(gA.contains q.1))=true:=by kernel_rfl
theorem kh{l:List Addr}(hn:h.Ns L m)(hl:L∉l):(hideAll h l).Ns L m:=(by refine aV hn λo es ep ho r=>⟨o,es,ep,OO _ ho hl,r⟩)
theorem e9{c P:Addr}(C:CodeHd h c P):isCodeTable h P:=by refine CK C λo vs _ _ _ _ _ _ _ j1=>nV j1 λh1 h2 h3 h4 _=>?_;clear C j1;exact⟨c,o,vs,h1,h2,h3,h4⟩
theorem By{p:Params}(X:(K p).In h){P:Addr}(hP:P∈gA):isCodeTable h P:=by
 simp only[gA,TT,List.map_cons,List.map_nil,List.mem_cons,List.not_mem_nil,or_false] at hP;rcases hP with j1|j1|j1|j1|j1<;>(replace j1:=OK j1;subst j1)
 ·exact e9 (s9 X)
 ·exact e9 (yg X)
 ·exact e9 (qt X)
 ·exact e9 (zp X)
 ·exact e9 (CE X)
section
variable{fa:Addr}{mb:Str->Option Value}{oE:ExcName->Option Value}{ns:List Int}{a:Addr}
theorem join(X:(K w.params).In aB.heap)(TB:∀q∈gA,aB.heap.get? q=some (tabObj #[]))(T:Top prog loose oE mg mb aB.heap)(hmg:mg "law"=some (.ref fa))(hl:aB.heap.IsList a vs.toArray)(hi:IntsAre vs ns)(hz:ns.length<=64)(hg:aB.gens = #[]):
  wpAny (model pw w) callerA (call (.ref fa) [.ref a]) (λv s'=>v = .bool true/\OldK aB.heap s'.heap/\s'.os=aB.os/\PyProof.Rows.AllBare s'.gens) E aB:=by
 have hT:cJ aB.heap:=λq hq=>⟨#[],TB _ (OE hq),trivial,λpos cv f=>by cases f⟩;refine ar T.nodigits λmc hmc DE=>?_;refine oM T.bmain λbm ob j2=>BC j2 λb1 b2 b3 b4 b5 b6=>?_;clear j2;have hbG:bm≠mainGlobals:=λq=>by refine bf T.g λo es ep e hd _=>?_;rw[q,e] at b3;cases b3;rw[hd] at b6;cases b6
 have hbt:bm∉gA:=λhm=>by rw[TB _ hm] at b3;cases b3;cases b4
 have Ky:∀{L:Addr}{m:Str->Option Value},aB.heap.Ns L m->L∉gA:=λhn=>hT.ns hn;have G:Gl w (hideAll aB.heap gA):=by
  refine⟨λb o e=>OO _ (X b o e) λhm=>?_,⟨mg,mb,kh T.g (Ky T.g),kh T.b (Ky T.b),T.builtins⟩,⟨mg,bm,ob,kh T.g (Ky T.g),b1,b2,hbG,OO _ b3 hbt,b4,b5,b6⟩,?_,⟨mc,kh hmc (Ky hmc),DE⟩⟩
  ·have:=List.all_eq_true.mp (Kx w.params) (b,o) (lookup_mem e)
   rw[show gA.contains b=true from List.contains_iff_mem.mpr hm] at this;cases this
  ·refine ar T.nolimit λmn hn hnn=>?_
   exact⟨mn,kh hn (Ky hn),hnn⟩
 have cN:a∉gA:=λhm=>by refine bl hl λo ho _ j1=>aR j1 λn hd=>?_;clear hl j1;rw[TB _ hm] at ho;cases ho;cases hd
 have L:LI ns (.ref a) (hideAll aB.heap gA):=by refine ar hl λo ho r=>?_;clear hl;exact⟨a,vs,rfl,⟨o,OO _ ho cN,r⟩,hi⟩
 have Kh:fa=482:=by have e:mg "law"=some (.ref 482):=mg_of X T.g (by k_is);rw[hmg] at e;cases e;rfl
 subst Kh;have O:On [] [] (hideAll aB.heap gA) aB.heap:=⟨λ_ _ e=>OW _ e,(λp hp=>by cases hp),(λc hc=>by cases hc),hT,λP hP=>Oo _ hP⟩;refine FO (x:=none) (A:=callerA) (frs:=[]) (cso:=[]) G rfl L hz rfl (by decide) (by decide) aB _ _ _ (ak _) O (λv s' eJ k O' go p=>?_) (λws b s' e=>by cases e);refine⟨p,⟨λb o e=>?_,λb o e=>go.bP.cE b o e⟩,go.os,go.gens (by rw[hg];intro y hy;simp at hy)⟩;by_cases hb:b∈gA
 ·rw[TB _ hb] at e;cases e
  refine aR (O'.tabs.tab hb) λps e'=>?_;refine .inr (.inl ⟨By X hb,rfl,#[],ps,rfl,?_⟩);rw[e'];simp
 ·exact .inl (go.bP.off b o (by simp) (by simp) hb e)
end
theorem Kz{γ δ ε:Type}{x:Option α}{f:α->β×γ×δ×ε}{b:β×γ×δ×ε}{g:α->Bool}(h1:x.map (λs=>(f s).1)=some b.1)(h2:x.map (λs=>(g s,(f s).2.1))=some (true,b.2.1))(h3:x.map (λs=>(f s).2.2.1)=some b.2.2.1)(h4:x.map (λs=>(f s).2.2.2)=some b.2.2.2):x.map (λs=>(g s,f s))=some (true,b):=by
 cases x with
 |none=>cases h1
 |some a=>
  simp only[Option.map_some,Option.some.injEq,Prod.mk.injEq] at h1 h2 h3 h4 ⊢;exact⟨h2.1,Prod.ext h1 (Prod.ext h2.2 (Prod.ext h3 h4))⟩
theorem KA(w:World):((H0 w.params).isNs mainGlobals&&(Array.mk []:Array GenState).size==0,(H0 w.params).objs.size,(H0 w.params).nsMap mainGlobals "__annotations__")=(true,39,some (.ref 6)):=by kernel_rfl
theorem KC(w:World)(os:OsState):(tR w os).map (λs=>(staticsOk (importedModules PySem.Challenge.pw_kl0025_01.main.body) (H0 w.params) s.heap&&namesBound PySem.Challenge.pw_kl0025_01 s.heap&&gensDone s&&laidKept (H0 w.params) s.heap,oS s))=some (true,openGood vw lo):=by have h1:=L4 w os;have h2:=L3 w os;have h3:=L5 w os;have h4:=L6 w os;revert h1 h2 h3 h4;generalize tR w os=x;intro h1 h2 h3 h4;exact Kz (f:=λs=>oS s) (b:=(expectedOf vw,bltViewBooted,true,true,pinGoodD (drecsOf vw),plainGoodE vw (looseW vw lo),plainGoodD vw lo,wideGood vw,clsGoodW vw lo)) (g:=λs=>staticsOk (importedModules PySem.Challenge.pw_kl0025_01.main.body) (H0 w.params) s.heap&&namesBound PySem.Challenge.pw_kl0025_01 s.heap&&gensDone s&&laidKept (H0 w.params) s.heap) h1 h2 h3 h4
theorem KD(w:World)(os:OsState):(tR w os).map (λs=>(staticsOk (importedModules PySem.Challenge.pw_kl0025_01.main.body) (H0 w.params) s.heap&&namesBound PySem.Challenge.pw_kl0025_01 s.heap&&gensDone s&&laidKept (H0 w.params) s.heap,oS s,obsZ aH s))=some (true,openGood vw lo,valZ KH 483 1066 w):=by
 have h1:=KC w os;have h2:=L2 w os;revert h1 h2;generalize tR w os=x;intro h1 h2;cases x with
 |none=>cases h1
 |some a=>
  simp only[Option.map_some,Option.some.injEq,Prod.mk.injEq] at h1 h2 ⊢;exact⟨h1.1,h1.2,h2⟩
theorem left:LeftO PySem.Challenge.pw_kl0025_01 vw lo XtM (obsZ aH) (valZ KH 483 1066) 7340:=by
 refine xb (g0:=true) (H₀:=H0) (gs₀:=Array.mk []) (d₀:={}) (k₀:=386) (m₀:=39) (ann:=some (.ref 6)) ?_ ?_ ?_
 ·exact HG
 ·exact KA
 ·exact KD
theorem pE:∀{F:Frag},AllIn h F->∀{a:Addr}{o:Obj},(a,o)∈F->h.get? a=some o:=by
 intro F;induction F with
 |nil=>intro _ a o m;cases m
 |cons p F ih=>
  intro H a o m;rcases OA m with e|m
  ·cases e;exact H.1
  ·exact ih H.2 m
theorem N2:PySem.Challenge.rw_kl0025_01.Holds:=by
 w_on
 refine holds_law (by rw[PySem.W.Fast.te9446332074065402090];kernel_rfl) λOh=>?_;refine holds_openX (q:=vw) (loose:=lo) (Xt:=XtM) (XP:=XL vw []) (Yf:=obsZ aH) (Ya:=valZ KH 483 1066) (N:=7340) left (λs e=>xl_of s (Bool.and_eq_true_iff.mp e).1) XL.keeps (by rfl) (by rfl) (by rfl) (λs e=>recFacts_of (Bool.and_eq_true_iff.mp e).2) (by rfl) (by first|assumption|decide+kernel) (by decide+kernel) ⟨rfl,rfl,rfl,rfl,rfl,by decide+kernel⟩ ?hw ?hc
 case hw=>w_witness2
 intro w s₀ aB mg mb G y fa o pm cd doc dV kV ho hd qC hD hmg hg args vals as L ND NF hrd GJ BL;have F:=z_facts HH y;have ZK:=Laid.keeps L;have X:(K w.params).In aB.heap:=λa o e=>ZK _ _ (pE F.1 (OJ _ (lookup_mem e)));have TB:∀q∈gA,aB.heap.get? q=some (tabObj #[]):=λq hq=>ZK _ _ (pE F.1 (OP _ (OE hq)));have ZN:=F.2.2.1;refine Ground.open G ?_;intro T B D TE TW
 wrow_args ND NF hrd GJ BL
 obtain⟨hat,hsz⟩:=script_at L;rw[ZN] at hat;subst hat;refine Oj (join X TB T hmg (by assumption) (by assumption) (by omega) hg) ?Q (λ_ _ x=>x)
 case Q=>
  rintro v s' ⟨rfl,k,o,b⟩
  exact⟨.inl ⟨_,_,[],rfl,λ_=>rfl,.bool true,by first|rfl|wrow_post,λ_=>⟨List.nodup_nil,λ_ hm=>by cases hm⟩⟩,k,o,b⟩
end Mine

theorem PySem.Challenge.cw_kl0025_01_holds : PySem.Challenge.rw_kl0025_01.Holds :=
  Mine.N2
