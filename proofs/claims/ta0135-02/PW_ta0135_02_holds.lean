import PyProof.Rows.All
import Wide.All
import OpenK.AllK
import Wide.FinOn
import KE.KFromBytes
import KE.KSuperObj
import KE.KSetInts
import KE.KRevIter
import KE.KSetDisp
import KE.KItemsList
import PyProof.GenObj
import PyProof.GenQ
import KE.KSortKey
import KE.KSortTup
import KE.KLam
import Lean
import PySem.Challenge.RW_ta0135_02
@[elab_as_elim] theorem Mine.rwRight {α : Sort u} {b : α} {p : α → Prop} {a : α} (h : a = b) (x : p b) : p a := h ▸ x
@[elab_as_elim] theorem Mine.rwLeft {α : Sort u} {b : α} {p : α → Prop} {a : α} (h : b = a) (x : p b) : p a := h ▸ x
local macro_rules
  | `(tactic| rw [$rs,*]) => do
    let mut ts : Array (Lean.TSyntax `tactic) := #[]
    for r in rs.getElems do
      match r with
      | `(Lean.Parser.Tactic.rwRule| ← $e:term) => ts := ts.push (← `(tactic| first | refine Mine.rwLeft $e ?_ | rewrite [← $e]))
      | `(Lean.Parser.Tactic.rwRule| $e:term) => ts := ts.push (← `(tactic| first | refine Mine.rwRight $e ?_ | rewrite [$e:term]))
      | _ => Lean.Macro.throwUnsupported
    `(tactic| (($[$ts];*); try with_reducible rfl))
set_option genSizeOf false
set_option genInjectivity false
set_option tactic.hygienic false
set_option bootstrap.genMatcherCode false
set_option genCtorIdx false
set_option Elab.async false
set_option linter.all false
set_option maxRecDepth 100000
section
open PySem PySem.W PyProof.Rows
namespace Mine.Internal
end Mine.Internal
end
noncomputable section
open PySem PySem.W PyProof.Rows
set_option backward.match.sparseCases false
namespace Mine.Internal
/-! yT -/
theorem xa{α:Type _}{a:α}{P:Prop}(h:none=some a):P:=nomatch h
theorem xb{α:Type _}{a:α}{P:Prop}(h:some a=none):P:=nomatch h
theorem xc{P:Prop}(h:false=true):P:=nomatch h
theorem xd{P:Prop}(h:true=false):P:=nomatch h
theorem xl{α:Type _}{a:α}{l:List α}{P:Prop}(h:[]=a::l):P:=nomatch h
theorem xm{α:Type _}{a:α}{l:List α}{P:Prop}(h:a::l=[]):P:=nomatch h
theorem xi{α:Type _}(f:α->Nat){a b:α}{P:Prop}(h:a=b)(k:Nat.beq (f a) (f b)=false):P:=by subst h;exact absurd ((Nat.beq_refl _).symm.trans k) (fun q=>xd q)
theorem tells{β:Type}{o:Option β}{r:β}{P:β->Prop}(k:o.elim True P)(h:o=some r):P r:=by subst h;exact k
/-! obtain,told at once -/
theorem cJ{A1:Prop}{Z:Prop}{P:Prop}(h:A1/\Z)(k:A1->Z->P):P:=h.elim fun a0 h=>k a0 h
theorem cG{A1:Prop}{A2:Prop}{Z:Prop}{P:Prop}(h:A1/\A2/\Z)(k:A1->A2->Z->P):P:=h.elim fun a0 h=>h.elim fun a1 h=>k a0 a1 h
theorem bW{A1:Prop}{A2:Prop}{A3:Prop}{Z:Prop}{P:Prop}(h:A1/\A2/\A3/\Z)(k:A1->A2->A3->Z->P):P:=h.elim fun a0 h=>h.elim fun a1 h=>h.elim fun a2 h=>k a0 a1 a2 h
theorem jo{A1:Prop}{A2:Prop}{A3:Prop}{A4:Prop}{Z:Prop}{P:Prop}(h:A1/\A2/\A3/\A4/\Z)(k:A1->A2->A3->A4->Z->P):P:=h.elim fun a0 h=>h.elim fun a1 h=>h.elim fun a2 h=>h.elim fun a3 h=>k a0 a1 a2 a3 h
theorem dg{A1:Prop}{A2:Prop}{A3:Prop}{A4:Prop}{A5:Prop}{Z:Prop}{P:Prop}(h:A1/\A2/\A3/\A4/\A5/\Z)(k:A1->A2->A3->A4->A5->Z->P):P:=h.elim fun a0 h=>h.elim fun a1 h=>h.elim fun a2 h=>h.elim fun a3 h=>h.elim fun a4 h=>k a0 a1 a2 a3 a4 h
theorem jE{α1:Sort _}{α2:Sort _}{A1:Prop}{A2:Prop}{A3:α1->α2->Prop}{Z:α1->α2->Prop}{P:Prop}(h:A1/\A2/\∃x1,∃x2,A3 x1 x2/\Z x1 x2)(k:A1->A2->∀x1,∀x2,A3 x1 x2->Z x1 x2->P):P:=h.elim fun a0 h=>h.elim fun a1 h=>h.elim fun x1 h=>h.elim fun x2 h=>h.elim fun a4 h=>k a0 a1 x1 x2 a4 h
theorem tP{α1:Sort _}{A1:Prop}{Z:α1->Prop}{P:Prop}(h:A1/\∃x1,Z x1)(k:A1->∀x1,Z x1->P):P:=h.elim fun a0 h=>h.elim fun x1 h=>k a0 x1 h
theorem dS{α1:Sort _}{A1:Prop}{A2:α1->Prop}{Z:α1->Prop}{P:Prop}(h:A1/\∃x1,A2 x1/\Z x1)(k:A1->∀x1,A2 x1->Z x1->P):P:=h.elim fun a0 h=>h.elim fun x1 h=>h.elim fun a2 h=>k a0 x1 a2 h
theorem bY{α1:Sort _}{α2:Sort _}{A1:Prop}{A2:α1->α2->Prop}{A3:α1->α2->Prop}{A4:α1->α2->Prop}{A5:α1->α2->Prop}{A6:α1->α2->Prop}{Z:α1->α2->Prop}{P:Prop}(h:A1/\∃x1,∃x2,A2 x1 x2/\A3 x1 x2/\A4 x1 x2/\A5 x1 x2/\A6 x1 x2/\Z x1 x2)(k:A1->∀x1,∀x2,A2 x1 x2->A3 x1 x2->A4 x1 x2->A5 x1 x2->A6 x1 x2->Z x1 x2->P):P:=h.elim fun a0 h=>h.elim fun x1 h=>h.elim fun x2 h=>h.elim fun a3 h=>h.elim fun a4 h=>h.elim fun a5 h=>h.elim fun a6 h=>h.elim fun a7 h=>k a0 x1 x2 a3 a4 a5 a6 a7 h
theorem bK{α1:Sort _}{Z:α1->Prop}{P:Prop}(h:∃x1,Z x1)(k:∀x1,Z x1->P):P:=h.elim fun x1 h=>k x1 h
theorem av{α1:Sort _}{A1:α1->Prop}{Z:α1->Prop}{P:Prop}(h:∃x1,A1 x1/\Z x1)(k:∀x1,A1 x1->Z x1->P):P:=h.elim fun x1 h=>h.elim fun a1 h=>k x1 a1 h
theorem bN{α1:Sort _}{A1:α1->Prop}{A2:α1->Prop}{Z:α1->Prop}{P:Prop}(h:∃x1,A1 x1/\A2 x1/\Z x1)(k:∀x1,A1 x1->A2 x1->Z x1->P):P:=h.elim fun x1 h=>h.elim fun a1 h=>h.elim fun a2 h=>k x1 a1 a2 h
theorem fH{α1:Sort _}{A1:α1->Prop}{A2:α1->Prop}{A3:α1->Prop}{A4:α1->Prop}{Z:α1->Prop}{P:Prop}(h:∃x1,A1 x1/\A2 x1/\A3 x1/\A4 x1/\Z x1)(k:∀x1,A1 x1->A2 x1->A3 x1->A4 x1->Z x1->P):P:=h.elim fun x1 h=>h.elim fun a1 h=>h.elim fun a2 h=>h.elim fun a3 h=>h.elim fun a4 h=>k x1 a1 a2 a3 a4 h
theorem cK{α1:Sort _}{α2:Sort _}{α3:Sort _}{A1:α1->Prop}{A2:α1->Prop}{A3:α1->α2->α3->Prop}{Z:α1->α2->α3->Prop}{P:Prop}(h:∃x1,A1 x1/\A2 x1/\∃x2,∃x3,A3 x1 x2 x3/\Z x1 x2 x3)(k:∀x1,A1 x1->A2 x1->∀x2,∀x3,A3 x1 x2 x3->Z x1 x2 x3->P):P:=h.elim fun x1 h=>h.elim fun a1 h=>h.elim fun a2 h=>h.elim fun x2 h=>h.elim fun x3 h=>h.elim fun a5 h=>k x1 a1 a2 x2 x3 a5 h
theorem gY{α1:Sort _}{α2:Sort _}{Z:α1->α2->Prop}{P:Prop}(h:∃x1,∃x2,Z x1 x2)(k:∀x1,∀x2,Z x1 x2->P):P:=h.elim fun x1 h=>h.elim fun x2 h=>k x1 x2 h
theorem cU{α1:Sort _}{α2:Sort _}{A1:α1->α2->Prop}{Z:α1->α2->Prop}{P:Prop}(h:∃x1,∃x2,A1 x1 x2/\Z x1 x2)(k:∀x1,∀x2,A1 x1 x2->Z x1 x2->P):P:=h.elim fun x1 h=>h.elim fun x2 h=>h.elim fun a2 h=>k x1 x2 a2 h
theorem aI{α1:Sort _}{α2:Sort _}{A1:α1->α2->Prop}{A2:α1->α2->Prop}{Z:α1->α2->Prop}{P:Prop}(h:∃x1,∃x2,A1 x1 x2/\A2 x1 x2/\Z x1 x2)(k:∀x1,∀x2,A1 x1 x2->A2 x1 x2->Z x1 x2->P):P:=h.elim fun x1 h=>h.elim fun x2 h=>h.elim fun a2 h=>h.elim fun a3 h=>k x1 x2 a2 a3 h
theorem bu{α1:Sort _}{α2:Sort _}{A1:α1->α2->Prop}{A2:α1->α2->Prop}{A3:α1->α2->Prop}{Z:α1->α2->Prop}{P:Prop}(h:∃x1,∃x2,A1 x1 x2/\A2 x1 x2/\A3 x1 x2/\Z x1 x2)(k:∀x1,∀x2,A1 x1 x2->A2 x1 x2->A3 x1 x2->Z x1 x2->P):P:=h.elim fun x1 h=>h.elim fun x2 h=>h.elim fun a2 h=>h.elim fun a3 h=>h.elim fun a4 h=>k x1 x2 a2 a3 a4 h
theorem fJ{α1:Sort _}{α2:Sort _}{α3:Sort _}{Z:α1->α2->α3->Prop}{P:Prop}(h:∃x1,∃x2,∃x3,Z x1 x2 x3)(k:∀x1,∀x2,∀x3,Z x1 x2 x3->P):P:=h.elim fun x1 h=>h.elim fun x2 h=>h.elim fun x3 h=>k x1 x2 x3 h
theorem jq{α1:Sort _}{α2:Sort _}{α3:Sort _}{A1:α1->α2->α3->Prop}{Z:α1->α2->α3->Prop}{P:Prop}(h:∃x1,∃x2,∃x3,A1 x1 x2 x3/\Z x1 x2 x3)(k:∀x1,∀x2,∀x3,A1 x1 x2 x3->Z x1 x2 x3->P):P:=h.elim fun x1 h=>h.elim fun x2 h=>h.elim fun x3 h=>h.elim fun a3 h=>k x1 x2 x3 a3 h
theorem aX{α1:Sort _}{α2:Sort _}{α3:Sort _}{A1:α1->α2->α3->Prop}{A2:α1->α2->α3->Prop}{Z:α1->α2->α3->Prop}{P:Prop}(h:∃x1,∃x2,∃x3,A1 x1 x2 x3/\A2 x1 x2 x3/\Z x1 x2 x3)(k:∀x1,∀x2,∀x3,A1 x1 x2 x3->A2 x1 x2 x3->Z x1 x2 x3->P):P:=h.elim fun x1 h=>h.elim fun x2 h=>h.elim fun x3 h=>h.elim fun a3 h=>h.elim fun a4 h=>k x1 x2 x3 a3 a4 h
theorem bw{α1:Sort _}{α2:Sort _}{α3:Sort _}{A1:α1->α2->α3->Prop}{A2:α1->α2->α3->Prop}{A3:α1->α2->α3->Prop}{Z:α1->α2->α3->Prop}{P:Prop}(h:∃x1,∃x2,∃x3,A1 x1 x2 x3/\A2 x1 x2 x3/\A3 x1 x2 x3/\Z x1 x2 x3)(k:∀x1,∀x2,∀x3,A1 x1 x2 x3->A2 x1 x2 x3->A3 x1 x2 x3->Z x1 x2 x3->P):P:=h.elim fun x1 h=>h.elim fun x2 h=>h.elim fun x3 h=>h.elim fun a3 h=>h.elim fun a4 h=>h.elim fun a5 h=>k x1 x2 x3 a3 a4 a5 h
theorem bP{α1:Sort _}{α2:Sort _}{α3:Sort _}{A1:α1->α2->α3->Prop}{A2:α1->α2->α3->Prop}{A3:α1->α2->α3->Prop}{A4:α1->α2->α3->Prop}{A5:α1->α2->α3->Prop}{Z:α1->α2->α3->Prop}{P:Prop}(h:∃x1,∃x2,∃x3,A1 x1 x2 x3/\A2 x1 x2 x3/\A3 x1 x2 x3/\A4 x1 x2 x3/\A5 x1 x2 x3/\Z x1 x2 x3)(k:∀x1,∀x2,∀x3,A1 x1 x2 x3->A2 x1 x2 x3->A3 x1 x2 x3->A4 x1 x2 x3->A5 x1 x2 x3->Z x1 x2 x3->P):P:=h.elim fun x1 h=>h.elim fun x2 h=>h.elim fun x3 h=>h.elim fun a3 h=>h.elim fun a4 h=>h.elim fun a5 h=>h.elim fun a6 h=>h.elim fun a7 h=>k x1 x2 x3 a3 a4 a5 a6 a7 h
theorem aV{α1:Sort _}{α2:Sort _}{α3:Sort _}{A1:α1->α2->α3->Prop}{A2:α1->α2->α3->Prop}{A3:α1->α2->α3->Prop}{A4:α1->α2->α3->Prop}{A5:α1->α2->α3->Prop}{A6:α1->α2->α3->Prop}{Z:α1->α2->α3->Prop}{P:Prop}(h:∃x1,∃x2,∃x3,A1 x1 x2 x3/\A2 x1 x2 x3/\A3 x1 x2 x3/\A4 x1 x2 x3/\A5 x1 x2 x3/\A6 x1 x2 x3/\Z x1 x2 x3)(k:∀x1,∀x2,∀x3,A1 x1 x2 x3->A2 x1 x2 x3->A3 x1 x2 x3->A4 x1 x2 x3->A5 x1 x2 x3->A6 x1 x2 x3->Z x1 x2 x3->P):P:=h.elim fun x1 h=>h.elim fun x2 h=>h.elim fun x3 h=>h.elim fun a3 h=>h.elim fun a4 h=>h.elim fun a5 h=>h.elim fun a6 h=>h.elim fun a7 h=>h.elim fun a8 h=>k x1 x2 x3 a3 a4 a5 a6 a7 a8 h
theorem mE{α1:Sort _}{α2:Sort _}{α3:Sort _}{vd:Sort _}{A1:α1->α2->α3->vd->Prop}{Z:α1->α2->α3->vd->Prop}{P:Prop}(h:∃x1,∃x2,∃x3,∃x4,A1 x1 x2 x3 x4/\Z x1 x2 x3 x4)(k:∀x1,∀x2,∀x3,∀x4,A1 x1 x2 x3 x4->Z x1 x2 x3 x4->P):P:=h.elim fun x1 h=>h.elim fun x2 h=>h.elim fun x3 h=>h.elim fun x4 h=>h.elim fun a4 h=>k x1 x2 x3 x4 a4 h
theorem iO{α1:Sort _}{α2:Sort _}{α3:Sort _}{vd:Sort _}{A1:α1->α2->α3->vd->Prop}{A2:α1->α2->α3->vd->Prop}{A3:α1->α2->α3->vd->Prop}{Z:α1->α2->α3->vd->Prop}{P:Prop}(h:∃x1,∃x2,∃x3,∃x4,A1 x1 x2 x3 x4/\A2 x1 x2 x3 x4/\A3 x1 x2 x3 x4/\Z x1 x2 x3 x4)(k:∀x1,∀x2,∀x3,∀x4,A1 x1 x2 x3 x4->A2 x1 x2 x3 x4->A3 x1 x2 x3 x4->Z x1 x2 x3 x4->P):P:=h.elim fun x1 h=>h.elim fun x2 h=>h.elim fun x3 h=>h.elim fun x4 h=>h.elim fun a4 h=>h.elim fun a5 h=>h.elim fun a6 h=>k x1 x2 x3 x4 a4 a5 a6 h
theorem cV{α1:Sort _}{α2:Sort _}{α3:Sort _}{vd:Sort _}{A1:α1->α2->α3->vd->Prop}{A2:α1->α2->α3->vd->Prop}{A3:α1->α2->α3->vd->Prop}{A4:α1->α2->α3->vd->Prop}{A5:α1->α2->α3->vd->Prop}{Z:α1->α2->α3->vd->Prop}{P:Prop}(h:∃x1,∃x2,∃x3,∃x4,A1 x1 x2 x3 x4/\A2 x1 x2 x3 x4/\A3 x1 x2 x3 x4/\A4 x1 x2 x3 x4/\A5 x1 x2 x3 x4/\Z x1 x2 x3 x4)(k:∀x1,∀x2,∀x3,∀x4,A1 x1 x2 x3 x4->A2 x1 x2 x3 x4->A3 x1 x2 x3 x4->A4 x1 x2 x3 x4->A5 x1 x2 x3 x4->Z x1 x2 x3 x4->P):P:=h.elim fun x1 h=>h.elim fun x2 h=>h.elim fun x3 h=>h.elim fun x4 h=>h.elim fun a4 h=>h.elim fun a5 h=>h.elim fun a6 h=>h.elim fun a7 h=>h.elim fun a8 h=>k x1 x2 x3 x4 a4 a5 a6 a7 a8 h
/-! what a last Lc tells,at once -/
theorem af{α:Type _}{P:α->Prop}{a x:α}(h:some a=some x)(k:P a):P x:=Option.some.inj h▸k
theorem q8{α β:Type _}{P:α->β->Prop}{a x:α}{b y:β}(h:some (a,b)=some (x,y))(k:P a b):P x y:=af (P:=fun p=>P p.1 p.2) h k
theorem yU{α β γ:Type _}{P:α->β->γ->Prop}{a x:α}{b y:β}{c z:γ}(h:some (a,b,c)=some (x,y,z))(k:P a b c):P x y z:=af (P:=fun p=>P p.1 p.2.1 p.2.2) h k
theorem w_eq{α:Type}{M:Model}{A:Around}{t t':Sem α}{Q:α->Shared->Prop}{E:Value->Shared->Prop}{s:Shared}(h:t=t')(k:wpAny M A t' Q E s):wpAny M A t Q E s:=h▸k
/-! values:trees. own,iY,eH stand in a OS slots alone:an object Ld iZ frame alone Sq -/
set_option genCtorIdx true in
inductive Bf where
 |len|range|iter|next|bytes|sorted|tuple|chr|ord|list|set
 deriving DecidableEq
noncomputable def Bf.val:Bf->Value
 | .len=>.builtin "len"
 | .range=>.type "range"
 | .iter=>.builtin "iter"
 | .next=>.builtin "next"
 | .bytes=>.type "bytes"
 | .sorted=>.builtin "sorted"
 | .tuple=>.type "tuple"
 | .chr=>.builtin "chr"
 | .ord=>.builtin "ord"
 | .list=>.type "list"
 | .set=>.type "set"
set_option genCtorIdx true in
inductive L0 where
 |none|bool(b:Bool)|int(i:Int)|str(s:Str)|bytes(b:Array UInt8)|fn(b:Bf)|ad(a:Addr)|gd(a:Addr)
set_option genCtorIdx true in
inductive Sp where
 |jC(a b c:Int)|gone|wr|CO|bm|wm(f:Addr)|sset(xs:List Str)
set_option genCtorIdx true in
inductive V where
 |c(k:L0)|sp(x:Sp)|list(l:List V)|tup(l:List V)|dict(es:List (Str×V))|inst(C:Addr)(es:List (Str×V))
set_option genCtorIdx true in
inductive SL where
 |no|v(x:V)|own(l:List V)|iY(C:Addr)(es:List (Str×V))|eH(b:Array UInt8)(p:Nat)|yL(xs:List Str)
inductive At where
 |v(x:V)|own(i:Nat)(l:List V)
structure eS(P:Params)(n:Nat)(t:SetTable):Prop where
 fits:t.fits n=true
 led:P.followText "set-order"=false->t.led=true
 mask:7<=t.mask
 OT:t.dummies=#[]
noncomputable def cQ {α β:Type} (R:α->β->Prop):List α->List β->Prop
 |[],m=>m=[]
 |a::l,m=>∃b r,m=b::r/\R a b/\cQ R l r
theorem cQ.nil{α β:Type}{R:α->β->Prop}:cQ R [] []:=rfl
theorem cQ.cons{α β:Type}{R:α->β->Prop}{a:α}{b:β}{l:List α}{m:List β}(h:R a b)(t:cQ R l m):cQ R (a::l) (b::m):=⟨b,m,rfl,h,t⟩
noncomputable def l6 (P:Params) (xs:List Str) (ob:Obj):Prop:=∃(l:List Str) (es:Array (Int×Value)) (ep:Nat) (t:SetTable),ob={cls:=.type "set",data:=.set es ep t}/\l.Perm xs/\
 cQ (fun x (e:Int×Value)=>e.1=PyData.keyHash P x/\∃tk,e.2= .str x tk) l es.toList/\eS P es.size t/\(xs≠[]->t.plain=false)
structure Ph where
 P:Params
 f:Addr->Option Obj
 mu:Addr->Prop
 lg:Option Addr
 wa:Option (Addr×Addr)
 lam:Option Addr
 ow:Nat->Option Addr
structure Ph.Le(φ ψ:Ph):Prop where
 P:φ.P=ψ.P
 f:∀b o,φ.f b=some o->ψ.f b=some o
 mu:∀b,φ.mu b->ψ.mu b
 lg:∀a,φ.lg=some a->ψ.lg=some a
 wa:∀a,φ.wa=some a->ψ.wa=some a
 lam:∀a,φ.lam=some a->ψ.lam=some a
 ow:∀i a,φ.ow i=some a->ψ.ow i=some a
theorem Ph.Le.refl(φ:Ph):φ.Le φ:=⟨rfl,fun u' u' h=>h,fun u' h=>h,fun u' h=>h,fun u' h=>h,fun u' h=>h,fun u' u' h=>h⟩
theorem Ph.Le.trans{φ ψ χ:Ph}(x:φ.Le ψ)(y:ψ.Le χ):φ.Le χ:=
 ⟨x.P.trans y.P,fun b o h=>y.f b o (x.f b o h),fun b h=>y.mu b (x.mu b h),fun a h=>y.lg a (x.lg a h),fun a h=>y.wa a (x.wa a h),fun a h=>y.lam a (x.lam a h),fun i a h=>y.ow i a (x.ow i a h)⟩
noncomputable abbrev lo (vs:Array Value) (n:Nat):Obj:={cls:=.type "list",data:=.seq vs n}
noncomputable abbrev to (vs:Array Value) (n:Nat):Obj:={cls:=.type "tuple",data:=.seq vs n}
noncomputable abbrev gh (ds:Array DictEntry) (n:Nat):Obj:={cls:=.type "dict",data:=.dict ds n}
noncomputable abbrev q9 (C:Addr) (d:Addr):Obj:={cls:=.ref C,dict:=some d,data:=.plain}
noncomputable def LR:L0->Value->Prop
 | .none,v=>v= .none
 | .bool b,v=>v= .bool b
 | .int i,v=>∃t,v= .int i t
 | .str s,v=>∃t,v= .str s t
 | .bytes b,v=>∃t,v= .bytes b t
 | .fn b,v=>v=b.val
 | .ad a,v=>v= .ref a
 | .gd a,v=>v= .ref a
noncomputable def Lf (φ:Ph):Sp->Value->Prop
 | .jC a b c,v=>∃x t u w,v= .ref x/\φ.f x=some {cls:=.type "range",data:=.fields #[.int a t,.int b u,.int c w]}
 | .gone,v=>∃a o,v= .ref a/\φ.f a=some o
 | .wr,v=>∃p,v= .ref p.1/\φ.wa=some p
 | .CO,v=>∃a,v= .ref a/\φ.lg=some a
 | .bm,v=>∃a x,v= .ref a/\φ.lg=some x/\φ.f a=some {cls:=.type "builtin_function_or_method",data:=.fields #[.builtin "list.append",.ref x]}
 | .wm f,v=>∃a p,v= .ref a/\φ.wa=some p/\φ.f a=some {cls:=.type "method",data:=.fields #[.ref f,.ref p.1]}
 | .sset xs,v=>∃a o,v= .ref a/\φ.f a=some o/\l6 φ.P xs o
theorem Lf.mono{φ ψ:Ph}(h:φ.Le ψ):∀{x:Sp} {v:Value},Lf φ x v->Lf ψ x v
 | .jC _ _ _,_,x=>x.imp fun u' x=>x.imp fun u' x=>x.imp fun u' x=>x.imp fun u' x=>x.imp id (h.f _ _)
 | .gone,_,x=>x.imp fun u' x=>x.imp fun u' x=>x.imp id (h.f _ _)
 | .wr,_,x=>x.imp fun u' x=>x.imp id (h.wa _)
 | .CO,_,x=>x.imp fun u' x=>x.imp id (h.lg _)
 | .bm,_,x=>x.imp fun u' x=>x.imp fun u' x=>x.imp id fun x=>x.imp (h.lg _) (h.f _ _)
 | .wm _,_,x=>x.imp fun u' x=>x.imp fun u' x=>x.imp id fun x=>x.imp (h.wa _) (h.f _ _)
 | .sset _,_,x=>x.imp fun u' x=>x.imp fun u' x=>x.imp id fun x=>x.imp (h.f _ _) fun r=>h.P▸r
mutual
noncomputable def VR (φ:Ph):V->Value->Prop
 | .c k,v=>LR k v
 | .sp x,v=>Lf φ x v
 | .list l,v=>∃a vs n,v= .ref a/\φ.f a=some (lo vs n)/\bz φ l vs.toList
 | .tup l,v=>∃a vs n,v= .ref a/\φ.f a=some (to vs n)/\bz φ l vs.toList
 | .dict es,v=>∃a ds n,v= .ref a/\(a==sysModules)=false/\φ.f a=some (gh ds n)/\i9 φ es ds.toList
 | .inst C es,v=>∃a d ds n,v= .ref a/\φ.f a=some (q9 C d)/\φ.f d=some (gh ds n)/\i9 φ es ds.toList
noncomputable def bz (φ:Ph):List V->List Value->Prop
 |[],vs=>vs=[]
 |x::l,vs=>∃c r,vs=c::r/\VR φ x c/\bz φ l r
noncomputable def i9 (φ:Ph):List (Str×V)->List DictEntry->Prop
 |[],ds=>ds=[]
 |e::l,ds=>∃d r,ds=d::r/\(d.hash=PyData.keyHash φ.P e.1/\(∃t,d.key= .str e.1 t)/\VR φ e.2 d.val)/\i9 φ l r
end
mutual
theorem VR.mono{φ ψ:Ph}(h:φ.Le ψ):∀{v:V} {c:Value},VR φ v c->VR ψ v c
 | .c _,_,x=>x
 | .sp _,_,x=>Lf.mono h x
 | .list _,_,x=>x.imp fun u' x=>x.imp fun u' x=>x.imp fun u' x=>x.imp id fun x=>x.imp (h.f _ _) (bz.mono h)
 | .tup _,_,x=>x.imp fun u' x=>x.imp fun u' x=>x.imp fun u' x=>x.imp id fun x=>x.imp (h.f _ _) (bz.mono h)
 | .dict _,_,x=>x.imp fun u' x=>x.imp fun u' x=>x.imp fun u' x=>x.imp id fun x=>x.imp id fun x=>x.imp (h.f _ _) (i9.mono h)
 | .inst _ _,_,x=>x.imp fun u' x=>x.imp fun u' x=>x.imp fun u' x=>x.imp fun u' x=>x.imp id fun x=>x.imp (h.f _ _) fun x=>x.imp (h.f _ _) (i9.mono h)
theorem bz.mono{φ ψ:Ph}(h:φ.Le ψ):∀{v:List V} {c:List Value},bz φ v c->bz ψ v c
 |[],_,x=>x
 |_::_,_,x=>x.imp fun u' x=>x.imp fun u' x=>x.imp id fun x=>x.imp (VR.mono h) (bz.mono h)
theorem i9.mono{φ ψ:Ph}(h:φ.Le ψ):∀{v:List (Str×V)} {c:List DictEntry},i9 φ v c->i9 ψ v c
 |[],_,x=>x
 |_::_,_,x=>x.imp fun u' x=>x.imp fun u' x=>x.imp id fun x=>x.imp (fun x=>x.imp (fun e=>e.trans (by rw[h.P])) fun x=>x.imp id (VR.mono h)) (i9.mono h)
end
section
variable{φ ψ:Ph}
theorem bz.nil:bz φ [] []:=rfl
theorem bz.cons{x:V}{c:Value}{l:List V}{m:List Value}(h:VR φ x c)(t:bz φ l m):bz φ (x::l) (c::m):=⟨c,m,rfl,h,t⟩
theorem bz.one{x:V}{c:Value}(h:VR φ x c):bz φ [x] [c]:=.cons h .nil
theorem bz.length:∀{l:List V} {m:List Value},bz φ l m->l.length=m.length
 |[],_,x=>by obtain rfl:=x;rfl
 |_::_,_,x=>by refine aI (x) fun c r PJ u' b=>?_;(clear x;subst PJ);simp[bz.length b]
theorem bz.append:∀{l l':List V} {m m':List Value},bz φ l m->bz φ l' m'->bz φ (l++l') (m++m')
 |[],_,_,_,x,y=>by obtain rfl:=x;exact y
 |_::_,_,_,_,x,y=>by refine aI (x) fun c r PK a b=>?_;(clear x;subst PK);exact .cons a (b.append y)
theorem bz.get:∀{l:List V} {m:List Value},bz φ l m->∀{i:Nat} {v:V},l[i]?=some v->∃c,m[i]?=some c/\VR φ v c
 |[],_,_,i,v,e=>by simp at e
 |_::_,_,x,i,v,e=>by
  refine aI (x) fun c r Lg a b=>?_;(clear x;subst Lg);rcases i with _|i
  ·simp at e;subst e;exact⟨c,by simp,a⟩
  ·simp at e;refine av (b.get e) fun d e' h=>?_;exact⟨d,by simpa using e',h⟩
theorem bz.get_none{l:List V}{m:List Value}(x:bz φ l m){i:Nat}(e:l[i]?=Option.none):m[i]?=Option.none:=by rw[List.getElem?_eq_none_iff]at e⊢;rw[<-x.length];exact e
theorem bz.set:∀{l:List V} {m:List Value} {i:Nat} {v:V} {c:Value},bz φ l m->VR φ v c->bz φ (l.set i v) (m.set i c)
 |[],_,_,_,_,x,_=>by obtain rfl:=x;rfl
 |_::_,_,i,_,_,x,y=>by
  refine aI (x) fun c r Lh a b=>?_;(clear x;subst Lh);rcases i with _|i
  ·exact .cons y b
  ·exact .cons a (b.set y)
theorem bz.take:∀{l:List V} {m:List Value} (n:Nat),bz φ l m->bz φ (l.take n) (m.take n)
 |[],_,n,x=>by obtain rfl:=x;simp;exact .nil
 |_::_,_,n,x=>by
  refine aI (x) fun c r GU a b=>?_;(clear x;subst GU);rcases n with _|n
  ·exact .nil
  ·exact .cons a (b.take n)
theorem bz.drop:∀{l:List V} {m:List Value} (n:Nat),bz φ l m->bz φ (l.drop n) (m.drop n)
 |[],_,n,x=>by obtain rfl:=x;simp;exact .nil
 |_::_,_,n,x=>by
  refine aI (x) fun c r Li a b=>?_;(clear x;subst Li);rcases n with _|n
  ·exact .cons a b
  ·exact b.drop n
theorem bz.flat{l:List V}{m:List Value}(x:bz φ l m):∀n:Nat,bz φ (List.replicate n l).flatten (List.replicate n m).flatten
 |0=>.nil
 |n+1=>by simp only[List.replicate_succ,List.flatten_cons];exact x.append (x.flat n)
theorem bz.size{l:List V}{vs:Array Value}(r:bz φ l vs.toList):vs.size=l.length:=by rw[<-Array.length_toList];exact r.length.symm
end
structure Base where
 P:Params
 h:Heap
 tb:Addr
 t0:Array Value
 os:OsState
 fl:List Env
 lp:Pos
 lq:Str
 wc:Addr
 sf:Addr
noncomputable def Base.at (B:Base) (l:List Env) (a:Addr):Base:={B with fl:=l,sf:=a}
noncomputable def Base.frs (B:Base):List Addr:=B.fl.filterMap (·.frame)
noncomputable def eB (o:Obj):Prop:=∃es n,o.data= .dict es n
noncomputable def OL (φ:Ph) (h:Heap) (a:Addr) (l:List V):Prop:=∃vs n,h.get? a=some (lo vs n)/\bz φ l vs.toList
noncomputable def AR (φ:Ph) (h:Heap):At->Value->Prop
 | .own i l,v=>∃a,v= .ref a/\φ.mu a/\φ.ow i=some a/\OL φ h a l
 | .v x,v=>VR φ x v
noncomputable def ri (φ:Ph) (h:Heap):List (Str×At)->List DictEntry->Prop
 |[],ds=>ds=[]
 |e::l,ds=>∃d r,ds=d::r/\(d.hash=PyData.keyHash φ.P e.1/\(∃t,d.key= .str e.1 t)/\AR φ h e.2 d.val)/\ri φ h l r
noncomputable def At.dh:At->Bool
 | .own _ _=>true
 |_=>false
noncomputable def gj:List (Str×At)->List DictEntry->List Value
 |e::l,d::r=>if e.2.dh then d.val::gj l r else gj l r
 |_,_=>[]
theorem rj(e:Str×At)(l:List (Str×At))(d:DictEntry)(r:List DictEntry):gj (e::l) (d::r)=if e.2.dh then d.val::gj l r else gj l r:=rfl
structure Gs where
 wr:Option (List (Str×At))
 log:Option (List V)
 cnt:Nat
structure WR(B:Base)(φ:Ph)(G:Gs)(h:Heap):Prop where
 log:∀l,G.log=some l->∃a,φ.lg=some a/\φ.mu a/\OL φ h a l
 wr:∀es,G.wr=some es->∃p ds n,φ.wa=some p/\φ.f p.1=some (q9 B.wc p.2)/\φ.mu p.2/\h.get? p.2=some (gh ds n)/\ri φ h es ds.toList/\(gj es ds.toList).Nodup/\∀a,φ.lg=some a->Value.ref a∉gj es ds.toList
 l7:G.log=none->φ.lg=none
 CP:G.wr=none->φ.wa=none
 cn:∀i a,φ.ow i=some a->i<G.cnt
structure Inv(B:Base)(φ:Ph)(G:Gs)(s:Shared):Prop where
 P:φ.P=B.P
 keep:∀b o,φ.f b=some o->s.heap.get? b=some o
 base:∀b o,B.h.get? b=some o->φ.f b=some o
 tab:∃more,s.heap.get? B.tb=some (tabObj (B.t0++more))/\match φ.lam with
  |none=>more=#[]
  |some c=>more=#[rawInt B.lp.line,rawInt B.lp.col,.ref c]/\∃o vs t,φ.f c=some o/\o.data= .fields vs/\vs[1]?=some (.str B.lq t)
 tN:φ.f B.tb=none
 qZ:¬φ.mu B.tb
 mT:∀b,φ.mu b->φ.f b=none/\∃o,s.heap.get? b=some o
 gens:AllBare s.gens
 os:s.os=B.os
 frs:∀env∈B.fl,env.scope.kind≠ .module/\∃L o,env.frame=some L/\φ.f L=none/\¬φ.mu L/\L≠B.tb/\s.heap.get? L=some o/\eB o
 tk:1<=s.toks
 wr:WR B φ G s.heap
noncomputable def GK (a b:Array GenState):Prop:=∀(g:Nat) (x:GenState),a[g]?=some x->b[g]?=some x
theorem GK.refl(a:Array GenState):GK a a:=fun u' u' h=>h
theorem GK.trans{a b c:Array GenState}(x:GK a b)(y:GK b c):GK a c:=fun g z h=>y g z (x g z h)
noncomputable def KX (B:Base) (h:Heap) (b:Addr) (o:Obj):Prop:=(∃sl,h.get? b=some {o with slots:=sl})/\(b∉B.frs->h.get? b=some o)
structure Step(B:Base)(X:Addr->Prop)(φ:Ph)(s:Shared)(az:Ph)(G':Gs)(s':Shared):Prop where
 le:φ.Le az
 inv:Inv B az G' s'
 kept:∀b o,s.heap.get? b=some o->¬X b->b≠B.tb->¬az.mu b->KX B s'.heap b o
 live:∀b o,s.heap.get? b=some o->∃o',s'.heap.get? b=some o'/\(o.data= .plain->o'=o)
 new:∀b o,az.f b=some o->φ.f b=some o\/s.heap.get? b=none\/X b
 yM:∀b,az.mu b->φ.mu b\/s.heap.get? b=none\/X b
 gk:GK s.gens s'.gens
noncomputable abbrev No:Addr->Prop:=fun _=>False
section
variable{B:Base}{X Y:Addr->Prop}{φ az l8:Ph}{G G' ja:Gs}{s s' s'':Shared}
theorem gZ{h:Heap}{b:Addr}{o:Obj}(e:h.get? b=some o):KX B h b o:=⟨⟨o.slots,e⟩,fun _=>e⟩
theorem KX.trans{h h':Heap}{b:Addr}{o:Obj}(x:KX B h b o)(y:∀o',h.get? b=some o'->KX B h' b o'):KX B h' b o:=
 let⟨⟨_,e⟩,f⟩:=x
 let⟨⟨sl2,e2⟩,_⟩:=y _ e
 ⟨⟨sl2,e2⟩,fun hp=>(y o (f hp)).2 hp⟩
theorem Inv.fr(I:Inv B φ G s){L:Addr}(h:L∈B.frs):φ.f L=none/\¬φ.mu L/\L≠B.tb/\∃o,s.heap.get? L=some o/\eB o:=by refine av (List.mem_filterMap.mp h) fun env h1 h2=>?_;refine bY (I.frs env h1) fun u' L' o h3 h4 h5 h6 h7 h8=>?_;rw[h3]at h2;(revert h;apply af (h2);intro h);exact⟨h4,h5,h6,o,h7,h8⟩
theorem Step.refl(I:Inv B φ G s):Step B X φ s φ G s:=⟨.refl _,I,fun u' u' e u' u' _=>gZ e,fun u' o e=>⟨o,e,fun _=>rfl⟩,fun u' u' h=>.inl h,fun u' h=>.inl h,GK.refl _⟩
theorem Step.hide(x:Step B X φ s az G' s')(y:Step B Y az s' l8 ja s'')(hy:∀b,Y b->X b\/s.heap.get? b=none):Step B X φ s l8 ja s'':=by
 have dead:∀b,s'.heap.get? b=none->s.heap.get? b=none:=fun b h=>by
  cases z:s.heap.get? b with
  |none=>rfl
  |some o=>obtain⟨o',e',_⟩:=x.live b o z;rw[h]at e';exact xa e'
 refine⟨x.le.trans y.le,y.inv,fun b o e h1 h2 h3=>(x.kept b o e h1 h2 fun q=>h3 (y.le.mu b q)).trans fun o' e'=>y.kept b o' e' (fun q=>?_) h2 h3,fun b o e=>let⟨o',e',p⟩:=x.live b o e;(y.live b o' e').imp fun VT q=>⟨q.1,fun z=>(q.2 (p z▸z)).trans (p z)⟩,fun b o h=>?_,fun b h=>?_,x.gk.trans y.gk⟩
 ·rcases hy b q with q|q
  ·exact h1 q
  ·rw[e]at q;exact xb q
 ·rcases y.new b o h with q|q|q
  ·exact x.new b o q
  ·exact .inr (.inl (dead b q))
  ·rcases hy b q with q|q
   ·exact .inr (.inr q)
   ·exact .inr (.inl q)
 ·rcases y.yM b h with q|q|q
  ·exact x.yM b q
  ·exact .inr (.inl (dead b q))
  ·rcases hy b q with q|q
   ·exact .inr (.inr q)
   ·exact .inr (.inl q)
theorem Step.trans(x:Step B X φ s az G' s')(y:Step B X az s' l8 ja s''):Step B X φ s l8 ja s'':=x.hide y fun u' h=>.inl h
theorem Step.weak(x:Step B Y φ s az G' s')(h:∀b,Y b->X b):Step B X φ s az G' s':=
 ⟨x.le,x.inv,fun b o e h2 h3 h4=>x.kept b o e (fun q=>h2 (h _ q)) h3 h4,x.live,fun b o e=>(x.new b o e).imp id (·.imp id (h b)),fun b e=>(x.yM b e).imp id (·.imp id (h b)),x.gk⟩
theorem Step.dead(x:Step B X φ s az G' s'){b:Addr}(h:s'.heap.get? b=none):s.heap.get? b=none:=by
 cases z:s.heap.get? b with
 |none=>rfl
 |some o=>obtain⟨o',e',_⟩:=x.live b o z;rw[h]at e';exact xa e'
theorem Step.data(x:Step B X φ s az G' s'){b:Addr}{o:Obj}(e:s.heap.get? b=some o)(h2:¬X b)(h3:b≠B.tb)(h4:¬φ.mu b):∃o',s'.heap.get? b=some o'/\o'.data=o.data/\o'.cls=o.cls/\o'.dict=o.dict:=by
 refine cJ (x.kept b o e h2 h3 fun q=>by
  rcases x.yM b q with q|q|q
  ·exact h4 q
  ·rw[e]at q;exact xb q
  ·exact h2 q) fun Li _=>?_;obtain⟨sl,e'⟩:=Li
 exact⟨_,e',rfl,rfl,rfl⟩
theorem Step.rm(x:Step B X φ s az G' s'){b:Addr}{o:Obj}(e:s.heap.get? b=some o)(h1:φ.f b=none)(h2:¬X b):az.f b=none:=by
 cases z:az.f b with
 |none=>rfl
 |some o'=>
  rcases x.new b o' z with q|q|q
  ·rw[h1]at q;exact xa q
  ·rw[e]at q;exact xb q
  ·exact absurd q h2
theorem Step.di(x:Step B X φ s az G' s'){b:Addr}{o:Obj}(e:s.heap.get? b=some o)(h1:¬φ.mu b)(h2:¬X b):¬az.mu b:=fun z=>by
 rcases x.yM b z with q|q|q
 ·exact h1 q
 ·rw[e]at q;exact xb q
 ·exact h2 q
theorem OL.keep{h h':Heap}{a:Addr}{l:List V}(x:OL φ h a l)(le:φ.Le az)(k:∀o,h.get? a=some o->h'.get? a=some o):OL az h' a l:=x.imp fun u' x=>x.imp fun u' x=>x.imp (k _) (bz.mono le)
theorem AR.keep{h h':Heap}(le:φ.Le az)(k:∀b o,φ.mu b->h.get? b=some o->h'.get? b=some o):∀{x:At} {v:Value},AR φ h x v->AR az h' x v
 | .own i l,v,x=>x.imp fun a x=>x.imp id fun x=>⟨le.mu _ x.1,le.ow _ _ x.2.1,x.2.2.keep le fun o e=>k a o x.1 e⟩
 | .v x,_,r=>VR.mono le r
theorem ri.keep{h h':Heap}(le:φ.Le az)(k:∀b o,φ.mu b->h.get? b=some o->h'.get? b=some o):∀{es:List (Str×At)} {ds:List DictEntry},ri φ h es ds->ri az h' es ds
 |[],_,x=>x
 |_::_,_,x=>x.imp fun u' x=>x.imp fun u' x=>x.imp id fun x=>x.imp (fun x=>x.imp (fun e=>e.trans (by rw[le.P])) fun x=>x.imp id (AR.keep le k)) (ri.keep le k)
theorem WR.keep{h h':Heap}(x:WR B φ G h)(le:φ.Le az)(hl:az.lg=φ.lg)(hw:az.wa=φ.wa)(ho:az.ow=φ.ow)(k:∀b o,φ.mu b->h.get? b=some o->h'.get? b=some o):WR B az G h':=
 ⟨fun l e=>(x.log l e).imp fun a x=>x.imp (le.lg _) fun x=>⟨le.mu _ x.1,x.2.keep le fun o e=>k a o x.1 e⟩,
  fun es e=>(x.wr es e).imp fun p x=>x.imp fun ds x=>x.imp fun n x=>x.imp (le.wa _) fun x=>x.imp (le.f _ _) fun x=>⟨le.mu _ x.1,k _ _ x.1 x.2.1,x.2.2.1.keep le k,x.2.2.2.1,hl▸x.2.2.2.2⟩,fun e=>hl.trans (x.l7 e),fun e=>hw.trans (x.CP e),fun i a e=>x.cn i a (ho▸e)⟩
theorem Inv.ext(I:Inv B φ G s){h':Heap}{t:Tok}{d:Drawn}{g:Array GenState}(hg:AllBare g)(k:∀b o,s.heap.get? b=some o->((φ.f b).isSome=true\/φ.mu b\/b=B.tb)->h'.get? b=some o)
  (lv:∀b∈B.frs,∀o,s.heap.get? b=some o->∃o',h'.get? b=some o'/\(eB o->eB o'))(ht:s.toks<=t):Inv B φ G ⟨h',g,d,t,s.os⟩:=by
 refine⟨I.P,fun b o e=>k b o (I.keep b o e) (.inl (by rw[e];rfl)),I.base,?_,I.tN,I.qZ,fun b m=>?_,hg,I.os,fun env he=>?_,Nat.le_trans I.tk ht,I.wr.keep (.refl _) rfl rfl rfl fun b o m e=>k b o e (.inr (.inl m))⟩
 ·refine av (I.tab) fun m e r=>?_
  exact⟨m,k _ _ e (.inr (.inr rfl)),r⟩
 ·refine tP (I.mT b m) fun h1 o h2=>?_
  exact⟨h1,o,k b o h2 (.inr (.inl m))⟩
 ·refine bY (I.frs env he) fun q L o h1 h2 h3 h4 h5 h6=>?_
  refine av (lv L (List.mem_filterMap.mpr ⟨env,he,h1⟩) o h5) fun o' e' hd=>?_;exact⟨q,L,o',h1,h2,h3,h4,e',hd h6⟩
theorem Step.ext(I:Inv B φ G s){h':Heap}{t:Tok}{d:Drawn}{g:Array GenState}(hg:AllBare g)(k:∀b o,s.heap.get? b=some o->(¬X b\/(φ.f b).isSome=true\/φ.mu b\/b=B.tb)->h'.get? b=some o)
  (lv:∀b,X b->∀o,s.heap.get? b=some o->∃o',h'.get? b=some o'/\(eB o->eB o')/\(o.data= .plain->o'=o))(ht:s.toks<=t)(CQ:GK s.gens g):Step B X φ s φ G ⟨h',g,d,t,s.os⟩:=by
 have lv':∀b o,s.heap.get? b=some o->∃o',h'.get? b=some o'/\(eB o->eB o')/\(o.data= .plain->o'=o):=fun b o e=>by
  by_cases h:X b
  ·exact lv b h o e
  ·exact⟨o,k b o e (.inl h),fun h=>h,fun _=>rfl⟩
 exact⟨.refl _,I.ext hg (fun b o e z=>k b o e (.inr z)) (fun b u' o e=>(lv' b o e).imp fun o' y=>⟨y.1,y.2.1⟩) ht,fun b o e h u' _=>gZ (k b o e (.inl h)),fun b o e=>(lv' b o e).imp fun o' y=>⟨y.1,y.2.2⟩,fun u' u' h=>.inl h,fun u' h=>.inl h,CQ⟩
theorem Step.more(I:Inv B φ G s){h':Heap}{t:Tok}{d:Drawn}(k:∀b o,s.heap.get? b=some o->h'.get? b=some o)(ht:s.toks<=t):Step B X φ s φ G ⟨h',s.gens,d,t,s.os⟩:=
 Step.ext I I.gens (fun b o e _=>k b o e) (fun b u' o e=>⟨o,k b o e,fun h=>h,fun _=>rfl⟩) ht (GK.refl _)
theorem Step.toks(I:Inv B φ G s){t:Tok}(ht:s.toks<=t):Step B X φ s φ G {s with toks:=t}:=Step.more I (fun u' u' e=>e) ht
theorem Step.push(I:Inv B φ G s)(o:Obj){t:Tok}(ht:s.toks<=t):Step B X φ s φ G {s with heap:=s.heap.push o,toks:=t}:=Step.more I (fun u' u' e=>Heap.get?_push_of_some _ e) ht
noncomputable def Ph.put (φ:Ph) (a:Addr) (o:Obj):Ph:={φ with f:=fun b=>if b=a then some o else φ.f b}
theorem aR{a:Addr}{o:Obj}:(φ.put a o).f a=some o:=if_pos rfl
theorem bQ{a b:Addr}{o:Obj}(h:b≠a):(φ.put a o).f b=φ.f b:=if_neg h
theorem dj{a b:Addr}{o p:Obj}(h:(φ.put a o).f b=some p):(b=a/\p=o)\/φ.f b=some p:=by
 by_cases q:b=a
 ·subst q;exact .inl ⟨rfl,(Option.some.inj (aR.symm.trans h)).symm⟩
 ·exact .inr ((bQ q).symm.trans h)
theorem Ph.bD{a:Addr}{o:Obj}(h:φ.f a=none):φ.Le (φ.put a o):=⟨rfl,fun b p e=>(bQ fun q=>by subst q;rw[h]at e;exact xa e).trans e,fun u' h=>h,fun u' h=>h,fun u' h=>h,fun u' h=>h,fun u' u' h=>h⟩
theorem Inv.put(I:Inv B φ G s){a:Addr}{o:Obj}(ha:s.heap.get? a=some o)(hf:φ.f a=none)(hm:¬φ.mu a)(ht:a≠B.tb)(hF:a∉B.frs):Inv B (φ.put a o) G s where
 P:=I.P
 keep b p e:=(dj e).elim (fun q=>q.1▸q.2▸ha) (I.keep b p)
 base b p e:=(Ph.bD hf).f _ _ (I.base b p e)
 tab:=I.tab.imp fun m x=>x.imp id fun r=>by
  show match φ.lam with|none=>_|some c=>_
  split at r
  ·exact r
  ·exact r.imp id fun r=>r.imp fun x r=>r.imp fun vs r=>r.imp fun t r=>r.imp ((Ph.bD hf).f _ _) id
 tN:=(bQ (Ne.symm ht)).trans I.tN
 qZ:=I.qZ
 mT b m:=(I.mT b m).imp ((bQ fun q:b=a=>hm (q▸m)).trans) id
 gens:=I.gens
 os:=I.os
 frs env he:=(I.frs env he).imp id fun x=>x.imp fun L x=>x.imp fun p x=>⟨x.1,(bQ (fun z:L=a=>hF (z▸List.mem_filterMap.mpr ⟨env,he,x.1⟩))).trans x.2.1,x.2.2⟩
 tk:=I.tk
 wr:=I.wr.keep (Ph.bD hf) rfl rfl rfl fun u' u' u' e=>e
set_option tactic.hygienic true in
theorem Inv.free(I:Inv B φ G s){a:Addr}(h:s.heap.get? a=none):φ.f a=none/\¬φ.mu a/\a≠B.tb/\a∉B.frs:=by
 refine⟨?_,fun m=>?_,fun q=>?_,fun q=>?_⟩
 ·cases z:φ.f a with
  |none=>rfl
  |some o=>rw[I.keep a o z]at h;exact xb h
 ·obtain⟨_,o,e⟩:=I.mT a m;rw[h]at e;(rename_i aH;clear aH;exact xa e)
 ·obtain⟨m,e,_⟩:=I.tab;rw[q,e]at h;exact xb h
 ·obtain⟨_,_,_,o,e,_⟩:=I.fr q;rw[h]at e;(rename_i aH _ _ _;clear aH;exact xa e)
end
theorem wq{α:Type}{M:Model}{A:Around}{m:Sem α}{Q:α->Shared->Prop}{E:Value->Shared->Prop}{s:Shared}(h:∀(Q':α->Shared->Prop) (E':Value->Shared->Prop),(∀r s',Q r s'->Q' r s')->(∀r s',E r s'->E' r s')->wpAny M A m Q' E' s):wpAny M A m Q E s:=h Q E (fun u' _=>id) fun u' _=>id
end Mine.Internal
end
noncomputable section
open PySem PySem.W PyProof.Rows
set_option backward.match.sparseCases false
namespace Mine.Internal
noncomputable def ix:List Str->Str->Option Nat
 |[],_=>none
 |y::l,x=>if y=x then some 0 else(ix l x).map (· +1)
theorem jr:∀{l:List Str} {x:Str} {i:Nat},ix l x=some i->l[i]?=some x
 |[],_,_,h=>by exact xa h
 |y::l,x,i,h=>by
  unfold ix at h;by_cases e:y=x
  ·rw[if_pos e]at h;(apply af (h));subst e;rfl
  ·rw[if_neg e]at h
   refine av (Option.map_eq_some_iff.mp h) fun j q PL=>?_;(clear h e;subst PL);simpa using jr q
theorem gm{l:List Str}{x y:Str}{i:Nat}(h:ix l x=some i)(h':ix l y=some i):x=y:=Option.some.inj ((jr h).symm.trans (jr h'))
theorem rq{l:List Str}{x:Str}{i:Nat}(h:ix l x=some i):i<l.length:=(List.getElem?_eq_some_iff.mp (jr h)).1
noncomputable abbrev En:=List SL
noncomputable def sl (e:En) (i:Nat):SL:=e.getD i .no
theorem dm{e:En}{i:Nat}{z:SL}(h:i<e.length):sl (e.set i z) i=z:=by unfold sl;rw[List.getD_eq_getElem?_getD,List.getElem?_set_self h];rfl
theorem cL{e:En}{i j:Nat}{z:SL}(h:i≠j):sl (e.set i z) j=sl e j:=by unfold sl;rw[List.getD_eq_getElem?_getD,List.getD_eq_getElem?_getD,List.getElem?_set_ne h]
structure dP(B:Base)(φ:Ph)(L a:Addr):Prop where
 f:φ.f a=none
 mu:¬φ.mu a
 tb:a≠B.tb
 fr:a∉B.frs
 L:a≠L
noncomputable def rt (P:Params) (xs:List Str) (ob:Obj):Prop:=∃(es:Array (Int×Value)) (ep:Nat) (t:SetTable),ob={cls:=.type "set",data:=.set es ep t}/\
 (∀e∈es.toList,∃k tk,e.2= .str k tk/\e.1=PyData.keyHash P k)/\(∀k,k∈xs↔∃e∈es.toList,∃tk,e.2= .str k tk)/\es.size<=xs.length/\t.fits es.size=true
noncomputable def SR (B:Base) (φ:Ph) (L:Addr) (h:Heap):SL->Option Value->Prop
 | .no,v=>v=none
 | .v x,v=>∃c,v=some c/\VR φ x c
 | .own l,v=>∃a,v=some (.ref a)/\dP B φ L a/\OL φ h a l
 | .iY C es,v=>∃a d ds n,v=some (.ref a)/\dP B φ L a/\dP B φ L d/\h.get? a=some (q9 C d)/\h.get? d=some (gh ds n)/\i9 φ es ds.toList
 | .eH b p,v=>∃a o t,v=some (.ref a)/\dP B φ L a/\h.get? a=some o/\o.cls= .type "bytes_iterator"/\o.data= .fields #[.bytes b t,.int p 0]/\o.dict=none
 | .yL xs,v=>∃a o,v=some (.ref a)/\dP B φ L a/\h.get? a=some o/\rt φ.P xs o
noncomputable def SL.tQ:SL->Bool
 | .own _=>true
 |_=>false
noncomputable def SL.pS:SL->Bool
 | .iY _ _=>true
 | .eH _ _=>true
 |_=>false
noncomputable def gW (z:SL) (v:Option Value) (h:Heap) (a:Addr):Prop:=(∀u,z≠ .v u)/\∃a0,v=some (.ref a0)/\(a=a0\/∃o,h.get? a0=some o/\o.dict=some a)
theorem SR.keep{B B':Base}{φ ψ:Ph}{L:Addr}{h h':Heap}(le:φ.Le ψ):∀{z:SL} {v:Option Value},(∀a o,dP B φ L a->gW z v h a->h.get? a=some o->(∀v,o.data≠ .cell v)->dP B' ψ L a/\h'.get? a=some o)->SR B φ L h z v->SR B' ψ L h' z v
 | .no,_,_,x=>x
 | .v _,_,_,x=>x.imp fun u' x=>x.imp id (VR.mono le)
 | .own _,_,k,x=>x.elim fun a x=>x.2.2.elim fun vs y=>y.elim fun n y=>let r:=k a _ x.2.1 ⟨fun u' e=>(xi SL.ctorIdx e rfl),a,x.1,.inl rfl⟩ y.1 (by intro v e;cases e);⟨a,x.1,r.1,vs,n,r.2,y.2.mono le⟩
 | .iY C _,_,k,x=>x.elim fun a x=>x.elim fun d x=>x.elim fun ds x=>x.elim fun n x=>
   let p:=k a _ x.2.1 ⟨fun u' e=>(xi SL.ctorIdx e rfl),a,x.1,.inl rfl⟩ x.2.2.2.1 (by intro v e;cases e)
   let q:=k d _ x.2.2.1 ⟨fun u' e=>(xi SL.ctorIdx e rfl),a,x.1,.inr ⟨_,x.2.2.2.1,rfl⟩⟩ x.2.2.2.2.1 (by intro v e;cases e)
   ⟨a,d,ds,n,x.1,p.1,q.1,p.2,q.2,x.2.2.2.2.2.mono le⟩
 | .eH _ _,_,k,x=>x.elim fun a x=>x.elim fun o x=>x.elim fun t x=>let p:=k a _ x.2.1 ⟨fun u' e=>(xi SL.ctorIdx e rfl),a,x.1,.inl rfl⟩ x.2.2.1 fun u' e=>(xi Data.ctorIdx (x.2.2.2.2.1.symm.trans e) rfl);⟨a,o,t,x.1,p.1,p.2,x.2.2.2⟩
 | .yL _,_,k,x=>x.elim fun a x=>x.elim fun o x=>x.2.2.2.elim fun es y=>y.elim fun ep y=>y.elim fun t y=>let p:=k a _ x.2.1 ⟨fun u' e=>(xi SL.ctorIdx e rfl),a,x.1,.inl rfl⟩ x.2.2.1 fun u' e=>(xi Data.ctorIdx ((congrArg Obj.data y.1).symm.trans e) rfl);⟨a,o,x.1,p.1,p.2,le.P▸x.2.2.2⟩
noncomputable def isVar (k:Option NameKind):Bool:=k==some .local||k==some .cell||k==some .free
noncomputable def jb (k:Option NameKind):Bool:=k==some .cell||k==some .free
structure Loc(B:Base)(ce:Env)(ns:List Str)(φ:Ph)(e:En)(h:Heap)(m:Str->Option Value):Prop where
 nm:h.Ns ce.locals m
 sr:∀x i,ix ns x=some i->ce.kindOf x=some .local->SR B φ ce.locals h (sl e i) (m x)
 Lj:∀x y i j,ix ns x=some i->ix ns y=some j->ce.kindOf x=some .local->ce.kindOf y=some .local->i≠j->(sl e i).tQ=true->(sl e j).tQ=true->m x≠m y
 s0:∀x,ix ns x=some 0->ce.kindOf x=some .local->(sl e 0).pS=true->m x=some (.ref B.sf)
structure OU(B:Base)(φ:Ph)(L:Addr)(h:Heap)(c:Addr)(z:SL):Prop where
 f:φ.f c=none
 mu:¬φ.mu c
 tb:c≠B.tb
 L:c≠L
 v:∃v,h.IsCell c v/\((z= .no/\v=none)\/∃x u,z= .v x/\v=some u/\VR φ x u)
structure dY(B:Base)(ce:Env)(ns:List Str)(φ:Ph)(e:En)(h:Heap):Prop where
 kind:ce.scope.kind= .function
 tO:ce.globals=mainGlobals
 blt:ce.builtins=builtinsNs
 cd:∃q,B.h.CodeRec ce.code q/\ce.qual=q++".<locals>."
 len:e.length=ns.length
 LF:φ.f ce.locals=none
 LM:¬φ.mu ce.locals
 LT:ce.locals≠B.tb
 loc:∃m,Loc B ce ns φ e h m
 oh:∀x i,ix ns x=some i->jb (ce.kindOf x)=true->∃c,ce.cells.lookup x=some c/\OU B φ ce.locals h c (sl e i)
 inj:∀x y c,ce.cells.lookup x=some c->ce.cells.lookup y=some c->x=y
noncomputable def dw (ce:Env) (ns:List Str) (e:En) (h:Heap) (b:Addr):Prop:=∃m x i,h.Ns ce.locals m/\ix ns x=some i/\ce.kindOf x=some .local/\gW (sl e i) (m x) h b
section
variable{B:Base}{ce:Env}{ns:List Str}{φ az l8:Ph}{G G':Gs}{e:En}{s s':Shared}
theorem gn{h h':Heap}{a:Addr}{m:Str->Option Value}(x:h.Ns a m)(k:∀o,h.get? a=some o->∃o',h'.get? a=some o'/\o'.data=o.data):h'.Ns a m:=
 x.elim fun o x=>x.elim fun es x=>x.elim fun ep x=>(k o x.1).elim fun o' y=>⟨o',es,ep,y.1,y.2.trans x.2.1,x.2.2⟩
theorem xu{h h':Heap}{a:Addr}{v:Option Value}(x:h.IsCell a v)(k:∀o,h.get? a=some o->∃o',h'.get? a=some o'/\o'.data=o.data):h'.IsCell a v:=
 x.elim fun o x=>(k o x.1).elim fun o' y=>⟨o',y.1,y.2.trans x.2⟩
theorem Loc.keep{h h':Heap}{m:Str->Option Value}(x:Loc B ce ns φ e h m)(le:φ.Le az)(kl:∀o,h.get? ce.locals=some o->∃o',h'.get? ce.locals=some o'/\o'.data=o.data)
  (k:∀a o,dP B φ ce.locals a->dw ce ns e h a->h.get? a=some o->(∀v,o.data≠ .cell v)->dP B az ce.locals a/\h'.get? a=some o):Loc B ce ns az e h' m:=
 ⟨gn x.nm kl,fun y i hi kn=>(x.sr y i hi kn).keep le fun a o q z=>k a o q ⟨m,y,i,x.nm,hi,kn,z⟩,x.Lj,x.s0⟩
theorem OU.keep{L:Addr}{h h':Heap}{c:Addr}{z:SL}(x:OU B φ L h c z)(le:φ.Le az)(f:az.f c=none)(mu:¬az.mu c)(k:∀o,h.get? c=some o->∃o',h'.get? c=some o'/\o'.data=o.data):OU B az L h' c z:=
 ⟨f,mu,x.tb,x.L,x.v.imp fun u' y=>⟨xu y.1 k,y.2.imp id fun y=>y.imp fun u' y=>y.imp fun u' y=>⟨y.1,y.2.1,y.2.2.mono le⟩⟩⟩
theorem dY.step(x:dY B ce ns φ e s.heap){X:Addr->Prop}(t:Step B X φ s az G' s')(h1:¬X ce.locals)(h2:∀b,dw ce ns e s.heap b->¬X b)(h3:∀n i c,ix ns n=some i->jb (ce.kindOf n)=true->ce.cells.lookup n=some c->¬X c):dY B ce ns az e s'.heap:=by
 obtain⟨m,hm⟩:=x.loc;obtain⟨o,es,ep,g1,g2⟩:=id hm.nm;refine⟨x.kind,x.tO,x.blt,x.cd,x.len,t.rm g1 x.LF h1,t.di g1 x.LM h1,x.LT,⟨m,hm.keep t.le (fun o ho=>(t.data ho h1 x.LT x.LM).imp fun u' y=>⟨y.1,y.2.1⟩) fun a o q hz ho _=>?_⟩,fun y i hi k=>(x.oh y i hi k).imp fun c y=>⟨y.1,?_⟩,x.inj⟩
 ·exact⟨⟨t.rm ho q.f (h2 a hz),t.di ho q.mu (h2 a hz),q.tb,q.fr,q.L⟩,(t.kept a o ho (h2 a hz) q.tb (t.di ho q.mu (h2 a hz))).2 q.fr⟩
 ·have hc:=h3 _ _ _ hi k y.1
  refine av (y.2.v) fun v PM _=>?_;refine av (PM) fun p hp _=>?_;exact y.2.keep t.le (t.rm hp y.2.f hc) (t.di hp y.2.mu hc) fun o ho=>(t.data ho hc y.2.tb y.2.mu).imp fun u' y=>⟨y.1,y.2.1⟩
theorem dY.ru(x:dY B ce ns φ e s.heap)(t:Step B No φ s az G' s'):dY B ce ns az e s'.heap:=x.step t id (fun u' _=>id) (fun u' u' u' u' u' _=>id)
theorem mU(x:dY B ce ns φ e s.heap):ce.blockKind= .function:=by unfold Env.blockKind;rw[x.kind];rfl
variable{M:Model}{A:Around}{E:Value->Shared->Prop}{Q:Value->Shared->Prop}
set_option tactic.hygienic true in
theorem gp(x:dY B ce ns φ e s.heap){n:Str}{i:Nat}{v:V}(hi:ix ns n=some i)(hk:isVar (ce.kindOf n)=true)(he:sl e i= .v v)(hn:(n==("__classdict__":Str))=false)
  (h:∀cv,VR φ v cv->Q cv s):wpAny M A (loadName ce n) Q E s:=by
 have oh:jb (ce.kindOf n)=true->∃c u,ce.cells.lookup n=some c/\s.heap.IsCell c (some u)/\VR φ v u:=fun q=>by
  refine av (x.oh n i hi q) fun c h1 h2=>?_;refine av (h2.v) fun w h3 h4=>?_;rw[he]at h4;rcases h4 with⟨h4,_⟩|⟨y,u,h4,h5,h6⟩
  ·(rename_i aH;clear aH;cases h4)
  ·cases h4;subst h5;exact⟨c,u,h1,h3,h6⟩
 cases q:ce.kindOf n with
 |none=>rw[q]at hk;exact xc hk
 |some k=>
  cases k with
  |«local»=>refine bK (x.loc) fun m hm=>?_;have :=hm.sr n i hi q;rw[he]at this;refine av (this) fun u h1 h2=>?_;exact wpAny_loadName_local x.kind q hm.nm h1 (h u h2)
  |cell=>refine aI (oh (by rw[q];rfl)) fun c u h1 h2 h3=>?_;exact wpAny_loadName_cell x.kind q h1 h2 (h u h3)
  |free=>refine aI (oh (by rw[q];rfl)) fun c u h1 h2 h3=>?_;exact wpAny_loadName_free x.kind q h1 h2 (h u h3) hn
  |globalExplicit=>rw[q]at hk;exact xc hk
  |globalImplicit=>rw[q]at hk;exact xc hk
theorem ld_own(x:dY B ce ns φ e s.heap){n:Str}{i:Nat}{l:List V}(hi:ix ns n=some i)(hk:ce.kindOf n=some .local)(he:sl e i= .own l)
  (h:∀a,dP B φ ce.locals a->OL φ s.heap a l->Q (.ref a) s):wpAny M A (loadName ce n) Q E s:=by
 refine bK (x.loc) fun m hm=>?_;have :=hm.sr n i hi hk;rw[he]at this;refine bN (this) fun a h1 h2 h3=>?_;exact wpAny_loadName_local x.kind hk hm.nm h1 (h a h2 h3)
structure yV(B:Base)(mg mb:Str->Option Value):Prop where
 g:B.h.Ns mainGlobals mg
 b:B.h.Ns builtinsNs mb
 lim:B.h.NoLimit
 bi:∀x:Str,x≠"__name__"->mb x=bootBuiltins x
theorem Inv.kb(I:Inv B φ G s):∀b o,B.h.get? b=some o->s.heap.get? b=some o:=fun b o e=>I.keep b o (I.base b o e)
theorem gq{h h':Heap}{a:Addr}{m:Str->Option Value}(x:h.Ns a m)(k:∀b o,h.get? b=some o->h'.get? b=some o):h'.Ns a m:=gn x fun o e=>⟨o,k _ _ e,rfl⟩
theorem yV.limit{mg mb:Str->Option Value}(g:yV B mg mb)(I:Inv B φ G s):s.heap.NoLimit:=g.lim.imp fun u' y=>⟨gq y.1 I.kb,y.2⟩
theorem fV(x:dY B ce ns φ e s.heap){n:Str}(hk:ce.kindOf n=some .globalImplicit):loadName ce n=loadGlobal ce n:=loadName_read x.kind hk
theorem GV{mg mb:Str->Option Value}(g:yV B mg mb)(I:Inv B φ G s)(x:dY B ce ns φ e s.heap){n:Str}{v:Value}(hk:ce.kindOf n=some .globalImplicit)(hv:mg n=some v)
  (h:Q v s):wpAny M A (loadName ce n) Q E s:=by
 rw[fV x hk];unfold loadGlobal;refine wpAny_bind (wpAny_nsGet (m:=mg) (by rw[x.tO];exact gq g.g I.kb) ?_);rw[hv];exact wpAny_pure h
theorem yW{mg mb:Str->Option Value}(g:yV B mg mb)(I:Inv B φ G s)(x:dY B ce ns φ e s.heap){n:Str}{v:Value}(hk:ce.kindOf n=some .globalImplicit)(hg:mg n=none)(hn:n≠("__name__":Str))(hv:bootBuiltins n=some v)
  (h:Q v s):wpAny M A (loadName ce n) Q E s:=by
 rw[fV x hk];unfold loadGlobal;refine wpAny_bind (wpAny_nsGet (m:=mg) (by rw[x.tO];exact gq g.g I.kb) ?_);rw[hg];refine wpAny_bind (wpAny_nsGet (m:=mb) (by rw[x.blt];exact gq g.b I.kb) ?_);rw[g.bi n hn,hv];exact wpAny_pure h
noncomputable def FX (ce:Env) (ns:List Str) (e:En) (h:Heap) (b:Addr):Prop:=b=ce.locals\/(∃x,x∈ns/\jb (ce.kindOf x)=true/\ce.cells.lookup x=some b)\/dw ce ns e h b
theorem bR{h:Heap}{a:Addr}{m m':Str->Option Value}(x:h.Ns a m)(y:h.Ns a m'):m=m':=by
 obtain⟨o,es,ep,h1,h2,_,h4⟩:=x;obtain⟨o',es',Lk,g1,g2,_,g4⟩:=y;have q:es=es':=by
  have q0:=h2.symm.trans ((congrArg Obj.data (Option.some.inj (h1.symm.trans g1))).trans g2);exact congrArg (fun d=>match d with| .dict es _=>es|_=>es) q0
 rw[<-q]at g4;funext n;exact(h4 n).symm.trans (g4 n)
noncomputable def St (ce:Env) (n:Str) (b:Addr):Prop:=(ce.kindOf n=some .local/\b=ce.locals)\/(ce.kindOf n=some .cell/\ce.cells.lookup n=some b)
theorem St.fx{n:Str}{i:Nat}{b:Addr}{h:Heap}(hi:ix ns n=some i)(x:St ce n b):FX ce ns e h b:=x.elim (fun x=>.inl x.2) fun x=>.inr (.inl ⟨n,List.mem_of_getElem? (jr hi),by rw[x.1];rfl,x.2⟩)
theorem mV{Q:Unit->Shared->Prop}(I:Inv B φ G s)(x:dY B ce ns φ e s.heap){n:Str}{i:Nat}{z:SL}{cv:Value}(hi:ix ns n=some i)(hk:ce.kindOf n=some .local\/(ce.kindOf n=some .cell/\∃v,z= .v v))(hz:SR B φ ce.locals s.heap z (some cv))
  (hd:z.tQ=true->∀m y j,Loc B ce ns φ e s.heap m->ix ns y=some j->ce.kindOf y=some .local->i≠j->(sl e j).tQ=true->m y≠some cv)
  (h0:z.pS=true->i=0->cv= .ref B.sf)
  (h:∀s',Step B (St ce n) φ s φ G s'->dY B ce ns φ (e.set i z) s'.heap->(∀b o,s.heap.get? b=some o->(∀v,o.data≠ .cell v)->b≠ce.locals->s'.heap.get? b=some o)->(∀m,s.heap.Ns ce.locals m->∃m',s'.heap.Ns ce.locals m'/\(∀y,y≠n->m' y=m y)/\(ce.kindOf n=some .local->m' n=some cv))->Q () s'):wpAny M A (storeName ce n cv) Q E s:=by
 have hil:i<e.length:=by rw[x.len];exact rq hi
 refine bK (x.loc) fun m hm=>?_;have self:∀{y j},ix ns y=some j->y≠n->i≠j:=fun hj z w=>z (gm hj (w▸hi));have xw:∀{y j},ix ns y=some j->y=n->i=j:=fun hj z=>Option.some.inj ((z▸hi).symm.trans hj);rcases hk with q|⟨q,v,rfl⟩
 ·refine wpAny_storeName_local q hm.nm (fun h' hn hs=>?_) (by rw[x.kind];rfl)
  have kp:∀b o,b≠ce.locals->s.heap.get? b=some o->h'.get? b=some o:=fun b o hb e=>(hs.2 b hb).trans e;have ko:∀a o,dP B φ ce.locals a->s.heap.get? a=some o->(∀v,o.data≠ .cell v)->dP B φ ce.locals a/\h'.get? a=some o:=fun a o q ho _=>⟨q,kp a o q.L ho⟩;refine h _ (Step.ext I I.gens (fun b o e z=>kp b o (fun z'=>?_) e) (fun b hb o e=>?_) (Nat.le_succ _) (GK.refl _)) ⟨x.kind,x.tO,x.blt,x.cd,by rw[List.length_set];exact x.len,x.LF,x.LM,x.LT,⟨_,hn,fun y j hj kj=>?_,fun y y' j j' hj hj' kj Fy ne o1 o2=>?_,fun y hj kj o1=>?_⟩,fun y j hj kj=>?_,x.inj⟩ (fun b o e u' hb=>kp b o hb e) fun m2 hm2=>⟨_,hn,fun y hy=>(if_neg hy).trans (congrFun (bR hm.nm hm2) y),fun _=>if_pos rfl⟩
  ·subst z'
   rcases z with z|z|z|z
   ·exact z (.inl ⟨q,rfl⟩)
   ·rw[x.LF]at z;exact xc z
   ·exact x.LM z
   ·exact x.LT z
  ·by_cases hb':b=ce.locals
   ·subst hb'
    refine aX (hn) fun o' es ep z zd _=>?_;refine aX (hm.nm) fun o2 VU VV z2 T5 _=>?_;obtain rfl:=Option.some.inj (z2.symm.trans e);exact⟨o',z,fun _=>⟨es,ep,zd⟩,fun q=>xi Data.ctorIdx (T5.symm.trans q) rfl⟩
   ·exact⟨o,kp b o hb' e,fun h=>h,fun _=>rfl⟩
  ·by_cases z:y=n
   ·have ej:i=j:=xw hj z
    rw[<-ej,dm hil,if_pos z];exact hz.keep (.refl _) fun a o q _=>ko a o q
   ·rw[if_neg z,cL (self hj z)]
    exact(hm.sr y j hj kj).keep (.refl _) fun a o q _=>ko a o q
  ·by_cases z:y=n
   ·have ej:i=j:=xw hj z
    have nj:i≠j':=fun w=>ne (ej.symm.trans w);rw[<-ej,dm hil]at o1;rw[cL nj]at o2;rw[if_pos z,if_neg fun w=>nj (xw hj' w)];exact Ne.symm (hd o1 m y' j' hm hj' Fy nj o2)
   ·rw[cL (self hj z)]at o1
    by_cases z':y'=n
    ·have ej:i=j':=xw hj' z'
     rw[<-ej,dm hil]at o2;rw[if_pos z',if_neg z];exact hd o2 m y j hm hj kj (self hj z) o1
    ·rw[cL (self hj' z')]at o2
     rw[if_neg z,if_neg z'];exact hm.Lj y y' j j' hj hj' kj Fy ne o1 o2
  ·by_cases z':y=n
   ·have ej:i=0:=xw hj z'
    rw[<-ej,dm hil]at o1;rw[if_pos z',h0 o1 ej]
   ·rw[cL (self hj z')]at o1
    rw[if_neg z'];exact hm.s0 y hj kj o1
  ·refine av (x.oh y j hj kj) fun c h1 h2=>?_
   refine⟨c,h1,?_⟩;simp only[cL (self hj fun w=>by rw[w,q]at kj;exact xc kj)];exact h2.keep (.refl _) h2.f h2.mu fun o ho=>⟨o,kp c o h2.L ho,rfl⟩
 ·refine av (x.oh n i hi (by rw[q];rfl)) fun c h1 h2=>?_
  refine av (h2.v) fun w hw _=>?_;refine av (hz) fun u e1 hu=>?_
  (revert hu;apply af (e1);intro hu)
  refine wpAny_storeName_cell x.kind q h1 hw (fun h' hn hs=>?_);have kp:∀b o,b≠c->s.heap.get? b=some o->h'.get? b=some o:=fun b o hb e=>(hs.2 b hb).trans e;have nc:∀b o,s.heap.get? b=some o->(∀v,o.data≠ .cell v)->b≠c:=fun b o ho hc z=>by
   (clear xw hz h0 e1 hs;obtain rfl:=z)
   obtain⟨p,hp,hd⟩:=hw;rw[ho]at hp;(revert hd;apply af (hp);intro hd);exact hc _ hd
  have hmem:St ce n c:=.inr ⟨q,h1⟩;refine h _ (Step.ext I I.gens (fun b o e z=>kp b o (fun z'=>?_) e) (fun b hb o e=>?_) (Nat.le_refl _) (GK.refl _)) ⟨x.kind,x.tO,x.blt,x.cd,by rw[List.length_set];exact x.len,x.LF,x.LM,x.LT,⟨m,?_,fun y j hj kj=>?_,fun y y' j j' hj hj' kj Fy ne o1 o2=>?_,fun y hj kj o1=>?_⟩,fun y j hj kj=>?_,x.inj⟩ (fun b o e hc _=>kp b o (nc b o e hc) e) fun m2 hm2=>⟨m2,gn hm2 fun o ho=>⟨o,kp _ o (Ne.symm h2.L) ho,rfl⟩,fun u' _=>rfl,fun z=>nomatch q.symm.trans z⟩
  ·(clear I xw hz hd h0 e1 hs;subst z')
   rcases z with z|z|z|z
   ·exact z hmem
   ·rw[h2.f]at z;exact xc z
   ·exact h2.mu z
   ·exact h2.tb z
  ·by_cases hb':b=c
   ·(clear I xw hz hd h0 e1 hs hmem hb;subst hb')
    refine av (hn) fun o' z _=>?_;refine av (hw) fun o2 z2 zd=>?_;rw[e]at z2;(revert zd;apply af (z2);intro zd);exact⟨o',z,fun bE=>gY bE fun u' u' q=>(xi Data.ctorIdx (zd.symm.trans q) rfl),fun q=>xi Data.ctorIdx (zd.symm.trans q) rfl⟩
   ·exact⟨o,kp b o hb' e,fun h=>h,fun _=>rfl⟩
  ·exact gn hm.nm fun o ho=>⟨o,kp _ o (Ne.symm h2.L) ho,rfl⟩
  ·rw[cL (self hj fun w=>by rw[w,q]at kj;(clear I xw hz hd h0 h hw e1 hs hmem;cases kj))]
   exact(hm.sr y j hj kj).keep (.refl _) fun a o p u' ho hc=>⟨p,kp a o (nc a o ho hc) ho⟩
  ·rw[cL (self hj fun w=>by rw[w,q]at kj;(clear I xw hz hd h0 h hw e1 hs nc hmem;cases kj))]at o1
   rw[cL (self hj' fun w=>by rw[w,q]at Fy;(clear I xw hz hd h0 h hw e1 hs nc hmem;cases Fy))]at o2;exact hm.Lj y y' j j' hj hj' kj Fy ne o1 o2
  ·rw[cL (self hj fun w=>by rw[w,q]at kj;(clear I xw q hz hd h0 h hw e1 hs nc hmem;cases kj))]at o1
   exact hm.s0 y hj kj o1
  ·by_cases z:y=n
   ·(clear I hm xw q hz hd h0 h hw e1 hs nc hmem;obtain rfl:=z)
    rw[hi]at hj;(apply af (hj));refine⟨c,h1,h2.f,h2.mu,h2.tb,h2.L,some cv,hn,?_⟩;rw[dm hil];exact .inr ⟨v,cv,rfl,rfl,hu⟩
   ·refine av (x.oh y j hj kj) fun c' g1 g2=>?_
    refine⟨c',g1,?_⟩;rw[cL (self hj z)];exact g2.keep (.refl _) g2.f g2.mu fun o ho=>⟨o,kp c' o (fun w=>z (x.inj y n c (w▸g1) h1)) ho,rfl⟩
end
end Mine.Internal
end
noncomputable section
open PySem PySem.W PyProof.Rows
set_option backward.match.sparseCases false
namespace Mine.Internal
/-! elimination without a motive over iZ whole goal -/
theorem bindC{α β:Type}{P:Prop}{o:Option α}{f:α->Option β}{b:β}(h:o.bind f=some b)(k:∀a,o=some a->f a=some b->P):P:=(Option.bind_eq_some_iff.mp h).elim fun a x=>k a x.1 x.2
theorem ay{α β:Type}{P:Prop}{o:Option α}{f:α->β}{b:β}(h:o.map f=some b)(k:∀a,o=some a->f a=b->P):P:=(Option.map_eq_some_iff.mp h).elim fun a x=>k a x.1 x.2
theorem ak{α:Type}{P:Prop}{c:Prop}[Decidable c]{x:Option α}{b:α}(h:(if c then x else none)=some b)(k:c->x=some b->P):P:=by
 by_cases q:c
 ·rw[if_pos q]at h;exact k q h
 ·rw[if_neg q]at h;exact xa h
theorem dU{α:Type}{P:α->Prop}{a b:α}(h:some a=some b)(x:P a):P b:=Option.some.inj h▸x
noncomputable def lim:Nat:=1048576
theorem bG:lim<=sizeLine:=by rw[sizeLine_eq];decide
noncomputable def sm (a:Int):Bool:=decide (a.natAbs<1152921504606846976)
noncomputable def truthy:V->Option Bool
 | .c .none=>some false
 | .c (.bool b)=>some b
 | .c (.int i)=>some (decide (i≠0))
 | .c (.str s)=>if s.length<=lim then some (decide (s.length≠0))else none
 | .list xs=>if xs.length<=lim then some (!xs.isEmpty)else none
 | .dict es=>if es.length<=lim/\(es.map (·.1)).Nodup then some (!es.isEmpty)else none
 |_=>none
noncomputable def bF:V->Option Int
 | .c (.int a)=>some a
 |_=>none
noncomputable def aY:V->Option Str
 | .c (.str a)=>some a
 |_=>none
noncomputable def bH:V->Option (List V)
 | .list a=>some a
 |_=>none
noncomputable def i2 (f:Int->Int->Option V) (x y:V):Option V:=(bF x).bind fun a=>(bF y).bind (f a)
noncomputable def s2 (f:Str->Str->Option V) (x y:V):Option V:=(aY x).bind fun a=>(aY y).bind (f a)
noncomputable def xy (x y:V):Option V:=(i2 (fun a b=>some (.c (.int (a+b)))) x y).or (s2 (fun a b=>if a.length+b.length<=lim then some (.c (.str (a++b)))else none) x y)
noncomputable def Ll (x y:V):Option V:=(xy x y).or ((bH x).bind fun a=>(bH y).bind fun b=>if a.length+b.length<=lim then some (.list (a++b))else none)
noncomputable def Lm (x y:V):Option V:=(bF y).bind fun n=>((bF x).bind fun a=>if(sm a||sm n)=true then some (V.c (.int (a*n)))else none).or
 (((aY x).bind fun a=>if 0<=n/\n<=1000/\a.length<=1000 then some (V.c (.str (Txt.mul a n)))else none).or
 ((bH x).bind fun a=>if 0<=n/\n<=1000/\a.length<=1000 then some (V.list (List.replicate n.toNat a).flatten)else none))
noncomputable def binop:Operator->V->V->Option V
 | .Add=>Ll
 | .Mult=>Lm
 | .Sub=>i2 fun a b=>some (.c (.int (a -b)))
 | .FloorDiv=>i2 fun a b=>if b.natAbs<1073741824/\b≠0 then some (.c (.int (a.fdiv b)))else none
 | .Mod=>i2 fun a b=>if b≠0 then some (.c (.int (a.fmod b)))else none
 | .BitAnd=>i2 fun a b=>some (.c (.int (Builtin.bitAnd a b)))
 |_=>fun u' _=>none
section
variable{B:Base}{X:Addr->Prop}{φ az:Ph}{G:Gs}{s s':Shared}
noncomputable def KV(B:Base)(φ:Ph)(G:Gs)(s:Shared)(r:V)(Q:Value->Shared->Prop):Prop:=∀c az s',VR az r c->Step B No φ s az G s'->Q c s'
theorem Step.make(I:Inv B φ G s){h':Heap}{t:Tok}{d:Drawn}{a:Addr}{ob:Obj}(k:∀b o,s.heap.get? b=some o->h'.get? b=some o)(hn:s.heap.get? a=none)(ha:h'.get? a=some ob)(ht:s.toks<=t):
  Step B X φ s (φ.put a ob) G ⟨h',s.gens,d,t,s.os⟩:=by
 have st:Step B X φ s φ G ⟨h',s.gens,d,t,s.os⟩:=Step.more I k ht;refine bW (I.free hn) fun f mu tb fr=>?_;exact⟨Ph.bD f,st.inv.put ha f mu tb fr,st.kept,st.live,fun b o e=>(dj e).elim (fun q=>.inr (.inl (q.1▸hn))) .inl,st.yM,st.gk⟩
theorem Inv.bL(s:Shared):s.heap.get? s.heap.objs.size=none:=by
 cases z:s.heap.get? s.heap.objs.size with
 |none=>rfl
 |some o=>exact absurd (Heap.lt_size z) (Nat.lt_irrefl _)
theorem Step.mW(I:Inv B φ G s){t:Tok}{ob:Obj}(hf:ob.isFreed=false)(ht:s.toks<=t):Step B X φ s (φ.put s.heap.objs.size ob) G {s with heap:=s.heap.push ob,toks:=t}:=
 Step.make I (fun u' u' e=>Heap.get?_push_of_some _ e) (Inv.bL s) (Heap.get?_push_size _ hf) ht
theorem tR(I:Inv B φ G s)(o:Obj):φ.Le (φ.put s.heap.objs.size o):=Ph.bD (I.free (Inv.bL s)).1
theorem jF(I:Inv B φ G s){Q:Value->Shared->Prop}{l:List V}{vs:Array Value}{t:Tok}(r:bz φ l vs.toList)(h:KV B φ G s (.list l) Q)(ht:s.toks<=t):
  Q (.ref s.heap.objs.size) {s with heap:=s.heap.push (lo vs 0),toks:=t}:=h _ _ _ ⟨_,vs,0,rfl,aR,r.mono (tR I _)⟩ (Step.mW I rfl ht)
theorem yX(I:Inv B φ G s){Q:Value->Shared->Prop}{k:L0}{c:Value}{t:Tok}(r:LR k c)(h:KV B φ G s (.c k) Q)(ht:s.toks<=t):Q c {s with toks:=t}:=h c _ _ r (Step.toks I ht)
theorem cH(I:Inv B φ G s){Q:Value->Shared->Prop}{k:Int}{t t':Tok}(h:KV B φ G s (.c (.int k)) Q)(ht:s.toks<=t'):Q (.int k t) {s with toks:=t'}:=yX I (k:=.int k) ⟨t,rfl⟩ h ht
theorem g9(I:Inv B φ G s){Q:Value->Shared->Prop}{k:Str}{t t':Tok}(h:KV B φ G s (.c (.str k)) Q)(ht:s.toks<=t'):Q (.str k t) {s with toks:=t'}:=yX I (k:=.str k) ⟨t,rfl⟩ h ht
theorem ve(I:Inv B φ G s){Q:Value->Shared->Prop}{r:V}{c:Value}(x:VR φ r c)(h:KV B φ G s r Q):Q c s:=h c _ _ x (Step.refl I)
variable{prog:Program}{w:World}{A:Around}{E:Value->Shared->Prop}{Q:Value->Shared->Prop}
theorem vf{a:Int}(h:sm a=true):Builtin.Int.intBits a<=64:=by have :=of_decide_eq_true h;exact intBits_le_64 (by omega) (by omega)
theorem GW{a b:Int}(h:(sm a||sm b)=true):IntMulOk a b:=((Bool.or_eq_true ..).mp h).elim (fun h=>.of_left (vf h)) (fun h=>.of_right (vf h))
theorem GX{a:Int}(h:sm a=true):a.natAbs<2 ^ 64:=Nat.lt_trans (of_decide_eq_true h) (by decide)
theorem GY{n:Int}(h:n<=1000):n<=1000000:=Int.le_trans h (by decide)
theorem ry{x:Str}{n:Int}(h0:0<=n)(h1:n<=1000)(h2:x.length<=1000):MulOk x n:=by
 have hl:x.length*n.toNat<=1000*1000:=Nat.mul_le_mul h2 (Int.toNat_le.mpr h1);refine⟨?_,fun hn _=>?_,fun u' _=>?_⟩
 ·simp;omega
 ·have :(1000:Int)<=(2 ^ 63 -1) / n:=(Int.le_ediv_iff_mul_le (by omega)).mpr (by omega)
  omega
 ·show decide _=false
  rw[sizeLine_eq];exact decide_eq_false (by omega)
theorem rA{α:Type}(n:Nat)(xs:Array α):(List.foldl (fun x1 x2=>x1++x2) #[] (List.replicate n xs):Array α).toList=(List.replicate n xs.toList).flatten:=by
 have key:∀(n:Nat) (acc:Array α),(List.foldl (fun x1 x2=>x1++x2) acc (List.replicate n xs)).toList=acc.toList++(List.replicate n xs.toList).flatten:=by
  intro n
  induction n with
  |zero=>intro acc;simp
  |succ n ih=>intro acc;simp only[List.replicate_succ,List.foldl_cons,ih,Array.toList_append,List.flatten_cons,List.append_assoc]
 simpa using key n #[]
theorem gu{α:Type}{P:Prop}{a b:Option α}{r:α}(h:a.or b=some r)(k:a=some r->P)(k':b=some r->P):P:=(Option.or_eq_some_iff.mp h).elim k fun x=>k' x.2
theorem fh{x:V}{a:Int}(h:bF x=some a):x= .c (.int a):=tells (P:=fun a=>x= .c (.int a)) (by rcases x with⟨⟨⟩⟩|_ <;> first|rfl|trivial) h
theorem bh{x:V}{a:Str}(h:aY x=some a):x= .c (.str a):=tells (P:=fun a=>x= .c (.str a)) (by rcases x with⟨⟨⟩⟩|_ <;> first|rfl|trivial) h
theorem iP{x:V}{a:List V}(h:bH x=some a):x= .list a:=tells (P:=fun a=>x= .list a) (by rcases x with⟨⟩ <;> first|rfl|trivial) h
theorem jH{α:Type}{P:Value->Prop}{f:Int->Option α}{x:V}{r:α}{cx:Value}(hx:VR φ x cx)(e:(bF x).bind f=some r)(k:∀a t,f a=some r->P (.int a t)):P cx:=bindC e fun a h e=>by rw[fh h]at hx;exact hx.elim fun t q=>q▸k a t e
theorem jI{α:Type}{P:Value->Prop}{f:Str->Option α}{x:V}{r:α}{cx:Value}(hx:VR φ x cx)(e:(aY x).bind f=some r)(k:∀a t,f a=some r->P (.str a t)):P cx:=bindC e fun a h e=>by rw[bh h]at hx;exact hx.elim fun t q=>q▸k a t e
theorem Fz{P:Value->Value->Prop}{f:Int->Int->Option V}{x y r:V}{cx cy:Value}(hx:VR φ x cx)(hy:VR φ y cy)(e:i2 f x y=some r)(k:∀a b t u,f a b=some r->P (.int a t) (.int b u)):P cx cy:=
 jH (P:=fun cx=>P cx cy) hx e fun a t e=>jH (P:=P _) hy e fun b u e=>k a b t u e
theorem Ss{P:Value->Value->Prop}{f:Str->Str->Option V}{x y r:V}{cx cy:Value}(hx:VR φ x cx)(hy:VR φ y cy)(e:s2 f x y=some r)(k:∀a b t u,f a b=some r->P (.str a t) (.str b u)):P cx cy:=
 jI (P:=fun cx=>P cx cy) hx e fun a t e=>jI (P:=P _) hy e fun b u e=>k a b t u e
theorem jc{α:Type}(I:Inv B φ G s){P:Value->Prop}{f:List V->Option α}{x:V}{r:α}{cx:Value}(hx:VR φ x cx)(e:(bH x).bind f=some r)
  (k:∀l a vs n,s.heap.get? a=some (lo vs n)->φ.f a=some (lo vs n)->bz φ l vs.toList->f l=some r->P (.ref a)):P cx:=bindC e fun l h e=>by
 rw[iP h]at hx;exact hx.elim fun a y=>y.elim fun vs y=>y.elim fun n y=>y.1▸k l a vs n (I.keep _ _ y.2.1) y.2.1 y.2.2 e
theorem GZ(I:Inv B φ G s){x y r:V}{cx cy:Value}(hx:VR φ x cx)(hy:VR φ y cy)(e:xy x y=some r)(h:KV B φ G s r Q):wpAny (model prog w) A (binaryOp .Add cx cy) Q E s:=
 gu e (fun e=>Fz (P:=fun cx cy=>wpAny _ _ (binaryOp .Add cx cy) _ _ _) hx hy e fun a b t u e=>add_int (cH I (Option.some.inj e▸h) (Nat.le_add_right _ _)))
  fun e=>Ss (P:=fun cx cy=>wpAny _ _ (binaryOp .Add cx cy) _ _ _) hx hy e fun a b t u e=>ak e fun c e=>wpAny_with_toks (Nat.le_refl _) (add_str (fun t' tk ht=>g9 I (Option.some.inj e▸h) ht) (Nat.le_trans c bG))
theorem G5(I:Inv B φ G s){x y r:V}{cx cy:Value}(hx:VR φ x cx)(hy:VR φ y cy)(e:Ll x y=some r)(h:KV B φ G s r Q):wpAny (model prog w) A (binaryOp .Add cx cy) Q E s:=
 gu e (fun e=>GZ I hx hy e h) fun e=>jc I (P:=fun cx=>wpAny _ _ (binaryOp .Add cx cy) _ _ _) hx e fun l a vs n g1 u' v1 e=>jc I (P:=fun cy=>wpAny _ _ (binaryOp .Add _ cy) _ _ _) hy e fun l' b us m g2 u' v2 e=>ak e fun c e=>
  have hl:vs.size+us.size<=sizeLine:=by rw[v1.size,v2.size];exact Nat.le_trans c bG
  concat_meets ⟨_,g1,rfl⟩ ⟨_,g2,rfl⟩ noFill_list_add seq_list_add PySem.F.slot_list_add PySem.F.entry_list_add (PySem.F.args_list_add_2 _ _) (list_addW a b vs us n m none none #[] #[] (by simpa using hl)) ⟨g1,g2,jF I (by rw[Array.toList_append];exact v1.append v2) (Option.some.inj e▸h) (Nat.le_refl _)⟩
theorem G7(I:Inv B φ G s){x y r:V}{cx cy:Value}(hx:VR φ x cx)(hy:VR φ y cy)(e:Lm x y=some r)(h:KV B φ G s r Q):wpAny (model prog w) A (binaryOp .Mult cx cy) Q E s:=
 jH (P:=fun cy=>wpAny _ _ (binaryOp .Mult _ cy) _ _ _) hy e fun n u e=>gu e
  (fun e=>jH (P:=fun cx=>wpAny _ _ (binaryOp .Mult cx _) _ _ _) hx e fun a t e=>ak e fun c e=>mul_int (cH I (Option.some.inj e▸h) (Nat.le_add_right _ _)) (GW c)) fun e=>gu e
  (fun e=>jI (P:=fun cx=>wpAny _ _ (binaryOp .Mult cx _) _ _ _) hx e fun a t e=>ak e fun c e=>wpAny_with_toks (Nat.le_refl _) (SB.mul (ry c.1 c.2.1 c.2.2) (fun t' tk ht=>g9 I (Option.some.inj e▸h) ht)))
  fun e=>jc I (P:=fun cx=>wpAny _ _ (binaryOp .Mult cx _) _ _ _) hx e fun l a vs k g1 u' v1 e=>ak e fun c e=>by
  have h3:n.toNat<=1000:=Int.toNat_le.mpr c.2.1;have hsz:vs.size<=1000:=by rw[v1.size];exact c.2.2
  have hl:vs.size*n.toNat<=1000*1000:=Nat.mul_le_mul hsz h3;refine wpAny_binaryOp_repeat_ref (T:="list") (U:="int") (by decide) ⟨_,g1,rfl⟩ (fun s'=>typeIs_int s' n u) noFill_list_mul F.fills_int_mul F.slot_int_rmul repeat_list F.slot_int_index.lookup
   (call_meets F.slot_int_rmul (typeIs_int s n u) F.entry_int_rmul (F.args_int_rmul_2 _ _) (int___rmul___int_list n u a vs k)
    ⟨g1,rfl,⟨_,g1,rfl⟩,call_meets F.slot_list_mul ⟨_,g1,rfl⟩ F.entry_list_mul (F.args_list_mul_2 _ _)
     (AutoListH.list___mul___list_int_3 a vs k n u (by simp[Builtin.List.listFitsIndex];omega) (by omega) (by simp[Builtin.List.listTooLong,sizeLine];omega))
     ⟨g1,jF I ?_ (Option.some.inj e▸h) (Nat.le_refl _)⟩⟩)
  rw[rA];by_cases he:vs.isEmpty=true
  ·rw[if_pos he]
   have q:vs.toList=[]:=by simpa using he
   rw[q]at v1⊢;rw[List.length_eq_zero_iff.mp v1.length];simp;exact .nil
  ·rw[if_neg he]
   exact v1.flat _
theorem CS(I:Inv B φ G s){op:Operator}{x y r:V}{cx cy:Value}(hx:VR φ x cx)(hy:VR φ y cy)(e:binop op x y=some r)(h:KV B φ G s r Q):wpAny (model prog w) A (binaryOp op cx cy) Q E s:=by
 cases op with
 |Add=>exact G5 I hx hy e h
 |Mult=>exact G7 I hx hy e h
 |Sub=>exact Fz (P:=fun cx cy=>wpAny _ _ (binaryOp .Sub cx cy) _ _ _) hx hy e fun a b t u e=>sub_int (cH I (Option.some.inj e▸h) (Nat.le_add_right _ _))
 |FloorDiv=>exact Fz (P:=fun cx cy=>wpAny _ _ (binaryOp .FloorDiv cx cy) _ _ _) hx hy e fun a b t u e=>ak e fun c e=>floordiv_int c.2 (cH I (Option.some.inj e▸h) (Nat.le_add_right _ _)) (.inl (PyProof.noPylong_small c.1))
 |Mod=>exact Fz (P:=fun cx cy=>wpAny _ _ (binaryOp .Mod cx cy) _ _ _) hx hy e fun a b t u e=>ak e fun c e=>mod_int' c (cH I (Option.some.inj e▸h) (Nat.le_add_right _ _))
 |BitAnd=>exact Fz (P:=fun cx cy=>wpAny _ _ (binaryOp .BitAnd cx cy) _ _ _) hx hy e fun a b t u e=>and_int (cH I (Option.some.inj e▸h) (Nat.le_add_right _ _))
 |MatMult=>exact xa e
 |Div=>exact xa e
 |RShift=>exact xa e
 |BitXor=>exact xa e
 |Pow=>exact xa e
 |BitOr=>exact xa e
 |LShift=>exact xa e
noncomputable def xA:Operator->V->V->Option V
 | .Add=>xy
 | .BitOr=>i2 fun a b=>some (.c (.int (Builtin.bitOr a b)))
 | .LShift=>i2 fun a n=>if sm a=true/\0<=n/\n<=1000 then some (.c (.int (a*2 ^ n.toNat)))else none
 |_=>fun u' _=>none
theorem G8(I:Inv B φ G s){op:Operator}{x y r:V}{cx cy:Value}(hx:VR φ x cx)(hy:VR φ y cy)(e:xA op x y=some r)(h:KV B φ G s r Q):wpAny (model prog w) A (inplaceOp op cx cy) Q E s:=by
 cases op with
 |Add=>exact gu e (fun e=>Fz (P:=fun cx cy=>wpAny _ _ (inplaceOp .Add cx cy) _ _ _) hx hy e fun a b t u e=>iadd_int (cH I (Option.some.inj e▸h) (Nat.le_add_right _ _))) fun e=>Ss (P:=fun cx cy=>wpAny _ _ (inplaceOp .Add cx cy) _ _ _) hx hy e fun a b t u e=>ak e fun c e=>wpAny_with_toks (Nat.le_refl _) (iadd_str (fun t' tk ht=>g9 I (Option.some.inj e▸h) ht) (Nat.le_trans c bG))
 |Sub=>exact xa e
 |FloorDiv=>exact xa e
 |BitOr=>exact Fz (P:=fun cx cy=>wpAny _ _ (inplaceOp .BitOr cx cy) _ _ _) hx hy e fun a b t u e=>ior_int (cH I (Option.some.inj e▸h) (Nat.le_add_right _ _))
 |LShift=>exact Fz (P:=fun cx cy=>wpAny _ _ (inplaceOp .LShift cx cy) _ _ _) hx hy e fun a n t u e=>ak e fun c e=>ilshift_int_small c.2.1 (GY c.2.2) (GX c.1) (cH I (Option.some.inj e▸h) (Nat.le_add_right _ _))
 |Mult=>exact xa e
 |MatMult=>exact xa e
 |Div=>exact xa e
 |Mod=>exact xa e
 |Pow=>exact xa e
 |RShift=>exact xa e
 |BitXor=>exact xa e
 |BitAnd=>exact xa e
end
end Mine.Internal
end
noncomputable section
open PySem PySem.W PyProof.Rows
set_option backward.match.sparseCases false
namespace Mine.Internal
mutual
noncomputable def toPy:V->Option PyData
 | .c .none=>some .none
 | .c (.bool b)=>some (.bool b)
 | .c (.int i)=>some (.int i)
 | .c (.str x)=>some (.str x)
 | .list l=>(jJ l).map .list
 | .tup l=>(jJ l).map .tuple
 |_=>none
noncomputable def jJ:List V->Option (List PyData)
 |[]=>some []
 |x::l=>(toPy x).bind fun d=>(jJ l).map (d:: ·)
end
noncomputable def L0.OW:L0->Option Bool
 | .none=>some true
 | .bool _=>some false
 | .int _=>some false
 | .str _=>some false
 | .bytes _=>Option.none
 | .fn _=>Option.none
 | .ad _=>Option.none
 | .gd _=>Option.none
noncomputable def Ln:V->Option L0
 | .c k=>some k
 |_=>none
noncomputable def L0.bo:L0->Option Bool
 | .bool b=>some b
 |_=>Option.none
noncomputable def same (x y:V):Option Bool:=(Ln x).bind fun k=>(Ln y).bind fun l=>(l.OW.bind fun t=>if t=true then k.OW else none).or (k.bo.bind fun a=>l.bo.bind fun b=>some (a==b))
noncomputable def b2 (f:Int->Int->Bool) (x y:V):Option Bool:=(bF x).bind fun a=>(bF y).bind fun b=>some (f a b)
noncomputable def l9 (x y:V):Option Bool:=(b2 (fun a b=>a==b) x y).or (((aY x).bind fun a=>(aY y).bind fun b=>some (a==b)).or
 ((toPy x).bind fun a=>(toPy y).bind fun b=>if SeqAt.shaped a=true/\SeqAt.shaped b=true then some (PyData.eqv a b)else none))
noncomputable def Lo (x y:V):Option Bool:=(aY y).bind fun b=>(aY x).bind fun a=>some !(Builtin.Str.occurrences b a 0 b.length 1).isEmpty
noncomputable def rB:CmpOp->V->V->Option Bool
 | .Lt=>b2 fun a b=>decide (a<b)
 | .LtE=>b2 fun a b=>decide (a<=b)
 | .Gt=>b2 fun a b=>decide (b<a)
 | .GtE=>b2 fun a b=>decide (b<=a)
 | .Eq=>l9
 | .NotEq=>fun x y=>(l9 x y).map not
 | .Is=>same
 | .IsNot=>fun x y=>(same x y).map not
 | .In=>Lo
 | .NotIn=>fun u' _=>none
section
variable{B:Base}{X:Addr->Prop}{φ az:Ph}{G:Gs}{s s':Shared}
mutual
theorem jt(I:Inv B φ G s):∀{v:V} {d:PyData} {cv:Value},toPy v=some d->VR φ v cv->∃as,Reads s.heap cv d as
 | .c .none,_,_,e,r=>by(apply af (e));obtain rfl:=r;exact⟨_,.none⟩
 | .c (.bool _),_,_,e,r=>by(apply af (e));obtain rfl:=r;exact⟨_,.bool _⟩
 | .c (.int _),_,_,e,r=>by(apply af (e));exact r.elim fun t q=>q▸⟨_,.int _ _⟩
 | .c (.str _),_,_,e,r=>by(apply af (e));exact r.elim fun t q=>q▸⟨_,.str _ _⟩
 | .list _,_,_,e,r=>ay e fun ds e q=>q▸r.elim fun a r=>r.elim fun vs r=>r.elim fun n r=>r.1▸(ia I e r.2.2).imp' _ fun as ra=>Reads.list (I.keep _ _ r.2.1) rfl rfl ra
 | .tup _,_,_,e,r=>ay e fun ds e q=>q▸r.elim fun a r=>r.elim fun vs r=>r.elim fun n r=>r.1▸(ia I e r.2.2).imp' _ fun as ra=>Reads.tuple (I.keep _ _ r.2.1) rfl rfl ra
 | .c (.bytes _),_,_,e,_=>xa e
 | .c (.fn _),_,_,e,_=>xa e
 | .c (.ad _),_,_,e,_=>xa e
 | .c (.gd _),_,_,e,_=>xa e
 | .sp _,_,_,e,_=>xa e
 | .dict _,_,_,e,_=>xa e
 | .inst _ _,_,_,e,_=>xa e
theorem ia(I:Inv B φ G s):∀{v:List V} {d:List PyData} {cv:List Value},jJ v=some d->bz φ v cv->∃as,ReadsAll s.heap cv d as
 |[],_,_,e,r=>by(apply af (e));obtain rfl:=r;exact⟨[],.nil⟩
 |x::l,_,_,e,r=>bindC e fun d h e=>ay e fun ds e q=>q▸r.elim fun c r=>r.elim fun m r=>r.1▸(jt I h r.2.1).elim fun as ra=>(ia I e r.2.2).elim fun bs rb=>⟨_,.cons ra rb⟩
end
variable{prog:Program}{w:World}{A:Around}{E:Value->Shared->Prop}{Q:Value->Shared->Prop}
theorem pT{x:V}{k:L0}(h:Ln x=some k):x= .c k:=tells (P:=fun k=>x= .c k) (by rcases x with⟨⟩ <;> first|rfl|trivial) h
theorem FA{k:L0}{b:Bool}(h:k.bo=some b):k= .bool b:=tells (P:=fun b=>k= .bool b) (by rcases k with⟨⟩ <;> first|rfl|trivial) h
theorem G9{k:L0}{c:Value}{b:Bool}(h:k.OW=some b)(r:LR k c):PySem.plainIs c .none=true/\(c== .none)=b:=by
 rcases k with _|a|a|a|_|_|_|_
 ·(apply af (h));obtain rfl:=r;exact⟨rfl,by decide⟩
 ·(apply af (h));obtain rfl:=r;exact⟨rfl,by rw[beq_eq_false_iff_ne];intro z;cases z⟩
 ·(apply af (h));refine bK (r) fun t Lh=>?_;subst Lh;exact⟨rfl,by rw[beq_eq_false_iff_ne];intro z;cases z⟩
 ·(apply af (h));refine bK (r) fun t GU=>?_;subst GU;exact⟨rfl,by rw[beq_eq_false_iff_ne];intro z;cases z⟩
 ·exact xa h
 ·exact xa h
 ·exact xa h
 ·exact xa h
theorem yY{k:L0}(h:k.OW=some true):k= .none:=by rcases k with⟨⟩ <;> first|rfl|cases h
theorem pU{x y:V}{cx cy:Value}{b:Bool}(hx:VR φ x cx)(hy:VR φ y cy)(e:same x y=some b):PySem.plainIs cx cy=true/\(cx==cy)=b:=bindC e fun k hk e=>bindC e fun l hl e=>by
 rw[pT hk]at hx;rw[pT hl]at hy;refine gu e (fun e=>bindC e fun t ht e=>ak e fun q e=>?_) fun e=>bindC e fun a ha e=>bindC e fun b hb e=>?_
 ·(clear hk hl;subst q)
  rw[yY ht]at hy
  (rename_i aH bI bS eN i6;clear aH bI bS eN i6;obtain rfl:=hy)
  exact G9 e hx
 ·rw[FA ha]at hx
  rw[FA hb]at hy
  (obtain rfl:=hx);(obtain rfl:=hy);(obtain rfl:=Option.some.inj e)
  refine⟨rfl,?_⟩
  (rcases a with⟨⟩) <;> ((clear hk hl hb ha e;cases b)) <;> rfl
theorem Lp{P:Value->Value->Prop}{f:Int->Int->Bool}{x y:V}{r:Bool}{cx cy:Value}(hx:VR φ x cx)(hy:VR φ y cy)(e:b2 f x y=some r)(k:∀a b t u,f a b=r->P (.int a t) (.int b u)):P cx cy:=
 jH (P:=fun cx=>P cx cy) hx e fun a t e=>jH (P:=P _) hy e fun b u e=>k a b t u (Option.some.inj e)
theorem yZ(I:Inv B φ G s){x y:V}{cx cy:Value}{b:Bool}(hu:A.units+64<cLine)(hx:VR φ x cx)(hy:VR φ y cy)(e:l9 x y=some b):
  (Q (.bool b) s->wpAny (model prog w) A (compareOp .Eq cx cy) Q E s)/\(Q (.bool (!b)) s->wpAny (model prog w) A (compareOp .NotEq cx cy) Q E s):=
 gu e (fun e=>Lp (P:=fun cx cy=>(Q (.bool b) s->wpAny _ _ (compareOp .Eq cx cy) _ _ _)/\(Q (.bool (!b)) s->wpAny _ _ (compareOp .NotEq cx cy) _ _ _)) hx hy e fun x y t u q=>q▸⟨eq_int,ne_int⟩) fun e=>gu e
  (fun e=>jI (P:=fun cx=>(Q (.bool b) s->wpAny _ _ (compareOp .Eq cx cy) _ _ _)/\(Q (.bool (!b)) s->wpAny _ _ (compareOp .NotEq cx cy) _ _ _)) hx e fun x t e=>
   jI (P:=fun cy=>(Q (.bool b) s->wpAny _ _ (compareOp .Eq _ cy) _ _ _)/\(Q (.bool (!b)) s->wpAny _ _ (compareOp .NotEq _ cy) _ _ _)) hy e fun y u e=>(Option.some.inj e:(x==y)=b)▸⟨eq_str,ne_str⟩)
  fun e=>bindC e fun dx h1 e=>bindC e fun dy h2 e=>ak e fun c e=>(jt I h1 hx).elim fun as r1=>(jt I h2 hy).elim fun bs r2=>Option.some.inj e▸⟨eq_dataH r1 r2 c.1 c.2 hu,ne_dataH r1 r2 c.1 c.2 hu⟩
theorem Hf{x y:V}{cx cy:Value}{b:Bool}(hx:VR φ x cx)(hy:VR φ y cy)(e:Lo x y=some b)(h:Q (.bool b) s):wpAny (model prog w) A (compareOp .In cx cy) Q E s:=
 jI (P:=fun cy=>wpAny _ _ (compareOp .In cx cy) _ _ _) hy e fun y t e=>jI (P:=fun cx=>wpAny _ _ (compareOp .In cx _) _ _ _) hx e fun x u e=>in_str ((Option.some.inj e:(!(Builtin.Str.occurrences y x 0 y.length 1).isEmpty)=b)▸h)
theorem vg(I:Inv B φ G s){op:CmpOp}{x y:V}{r:Bool}{cx cy:Value}(hu:A.units+66<cLine)(hx:VR φ x cx)(hy:VR φ y cy)(e:rB op x y=some r)(h:Q (.bool r) s):wpAny (model prog w) A (compareOp op cx cy) Q E s:=by
 have Su:A.units+64<cLine:=Nat.lt_of_succ_lt (Nat.lt_of_succ_lt hu);cases op with
 |Lt=>exact Lp (P:=fun cx cy=>wpAny _ _ (compareOp .Lt cx cy) _ _ _) hx hy e fun a b t u q=>lt_int (q▸h)
 |LtE=>exact Lp (P:=fun cx cy=>wpAny _ _ (compareOp .LtE cx cy) _ _ _) hx hy e fun a b t u q=>le_int (q▸h)
 |Gt=>exact Lp (P:=fun cx cy=>wpAny _ _ (compareOp .Gt cx cy) _ _ _) hx hy e fun a b t u q=>gt_int (q▸h)
 |GtE=>exact Lp (P:=fun cx cy=>wpAny _ _ (compareOp .GtE cx cy) _ _ _) hx hy e fun a b t u q=>ge_int (q▸h)
 |Eq=>exact(yZ I Su hx hy e).1 h
 |NotEq=>exact ay e fun b e q=>(yZ I Su hx hy e).2 (q▸h)
 |Is=>exact wpAny_is_plain (pU hx hy e).1 ((pU hx hy e).2▸h)
 |IsNot=>exact ay e fun b e q=>wpAny_isNot_plain (pU hx hy e).1 ((pU hx hy e).2▸q▸h)
 |In=>exact Hf hx hy e h
 |NotIn=>exact xa e
end
end Mine.Internal
end
noncomputable section
open PySem PySem.W PyProof.Rows
set_option backward.match.sparseCases false
namespace Mine.Internal
/-! iZ oH text. U a args G:a Sw value,what its first slot holds at its end,iZ writer -/
noncomputable abbrev aE:=Addr->List SL->Gs->Option (V×SL×Gs)
noncomputable abbrev Cv:=Gs->Option (V×Gs)
noncomputable def bd {α β:Type} (f:Gs->Option (α×Gs)) (g:α->Gs->Option (β×Gs)):Gs->Option (β×Gs):=fun G=>(f G).bind fun r=>g r.1 r.2
noncomputable def re {α:Type} (o:Option α):Gs->Option (α×Gs):=fun G=>o.map fun r=>(r,G)
set_option genCtorIdx true in
inductive Lv where
 |var(i:Nat)|at_(n:Str)
inductive X where
 |sem(f:aE->En->Cv)
 |c(v:V)
 |v(i:Nat)
 |bin(op:Operator)(a b:X)
 |neg(a:X)
 |not(a:X)
 |and(l:List X)
 |cmp(op:CmpOp)(a b:X)
 |tT(t a b:X)
 |list(l:List X)
 |tup(l:List X)
 |dict(ks:List Str)(l:List X)
 |sub(a i:X)
 |slc(a:X)(lo hi:Option X)
 |attr(a:X)(n:Str)
 |sat(n:Str)
 |call(f:X)(l:List X)
 |bB(a:X)(n:Str)(l:List X)
 |comp(tw:Bool)(elt src:X)(ifs:List X)
 |repl(a:X)(y z:Str)
 |fmt(a:X)
 |mX(l:List X)
 |gX(l:Lv)
 |mY(l:Lv)(e:X)
 |y9(l:Lv)
 |vh(f:X)(l:Lv)
 |FD(x:Str)(l:Lv)
 |items(q6:Bool)(a:X)
 |CT(a b:X)
 |xB(a:X)(i:Nat)
 |bad
inductive xC where
 |one(i:Nat)|two(i j:Nat)
set_option genCtorIdx true in
inductive Fl where
 |aS|ret(v:V)
inductive S where
 |bad
 |sem(f:aE->En->Gs->Option (Fl×En×Gs))
 |asg(i:Nat)(e:X)
 |CU(is:List Nat)(e:X)
 |tU(is:List Nat)(e:X)
 |CV(i j:Nat)(a b:X)
 |dQ(n:Str)(e:X)
 |aug(i:Nat)(op:Operator)(e:X)
 |ite(t:X)(a b:List S)
 |rC(t:X)(b:List S)
 |eE(t:xC)(src:X)(b:List S)
 |ret(e:X)
 |expr(e:X)
 |ju(told:Nat)(f:X)(s:Nat)
 |tryAll(b:List S)
 |fz(is:List Nat)
 |om(i:Nat)(l:List X)
 |tV(i:Nat)(e:X)
 |oset(i:Nat)(k e:X)
 |eF(l:Lv)(e:X)
 |xD(l:Lv)
 |CW(n:Str)
 |anew(n:Str)(l:List X)
 |rE(i:Nat)(e:X)
 |oK(i j:Nat)
 |CX(i:Nat)
 |CY(i:Nat)
 |za(i:Nat)(e:X)
 |oM(m n:Str)(t:xC)(b:List S)
 |Hg(i:Nat)(lp:Pos)(sep:Str)(src elt:X)
structure aM where
 oN:List (Addr×List (Str×V))
 ic:List (Addr×Str×Addr)
 rF:List (Addr×Str×V)
 eU:List (Addr×Addr)
 jD:List (Addr×Str×Unit)
 pv:Addr
 jn:Addr
 wc:Addr
 aF:List Str
 gf:Addr
 lp:Pos
noncomputable def look {α:Type}:List (Str×α)->Str->Option α
 |[],_=>none
 |e::l,x=>if e.1=x then some e.2 else look l x
theorem iQ{α:Type}(e:Str×α)(l:List (Str×α))(x:Str):look (e::l) x=if e.1=x then some e.2 else look l x:=rfl
noncomputable def cB {α:Type}:List (Addr×α)->Addr->Option α
 |[],_=>none
 |e::l,x=>match Nat.beq e.1 x with|true=>some e.2|false=>cB l x
noncomputable def aW {α:Type}:List (Addr×Str×α)->Addr->Str->Option α
 |[],_,_=>none
 |e::l,x,y=>match Nat.beq e.1 x with
  |true=>if e.2.1=y then some e.2.2 else aW l x y
  |false=>aW l x y
noncomputable def putD {α:Type} (n:Str) (v:α):List (Str×α)->List (Str×α)
 |[]=>[(n,v)]
 |e::r=>if e.1=n then(n,v)::r else e::putD n v r
theorem kO{α:Type}(n:Str)(v:α)(e:Str×α)(r:List (Str×α)):putD n v (e::r)=if e.1=n then(n,v)::r else e::putD n v r:=rfl
noncomputable def pair {α:Type}:List α->Option (α×α)
 |[a,b]=>some (a,b)
 |_=>none
theorem dz{α:Type}{l:List α}{r:α×α}(h:pair l=some r):l=[r.1,r.2]:=by
 match l,h with
 |[_,_],h=>(rename_i aH _ _;clear aH;apply af (h));rfl
noncomputable def jd:V->Option (List V)
 | .tup l=>some l
 |_=>none
noncomputable def dR {α:Type}:List α->Option α
 |[a]=>some a
 |_=>none
theorem aZ{α:Type}{l:List α}{a:α}(h:dR l=some a):l=[a]:=by
 match l,h with
 |[_],h=>(rename_i aH _;clear aH;apply af (h));rfl
noncomputable def zb (v:V):Option (V×V):=(jd v).bind pair
noncomputable def aA {α β:Type} (f:α->Option β):List α->Option (List β)
 |[]=>some []
 |x::l=>(f x).bind fun y=>(aA f l).map (y:: ·)
noncomputable def FE:List V->Option (List Int):=aA bF
noncomputable def lK:List V->Option (List Str):=aA aY
noncomputable def Hh:List Int->Option (List UInt8):=aA fun i=>if 0<=i/\i<256 then some i.toNat.toUInt8 else none
noncomputable def one {α:Type} (f:V->Option α):List V->Option α
 |[x]=>f x
 |_=>none
noncomputable def two {α:Type} (f:V->V->Option α):List V->Option α
 |[x,y]=>f x y
 |_=>none
noncomputable def mZ (a b c:Int):Bool:=decide (c=1)&&decide (0<=a)&&decide (a<=1048576)&&decide (0<=b)&&decide (b<=1048576)
noncomputable def vj (a b:Str):Bool:=decide (a.cps.toList<b.cps.toList)
noncomputable def tW {α:Type} (n:Nat) (lt:Nat->Nat->Bool):KasT α->Option α
 | .ret a=>some a
 | .ask i j k=>if i<n/\j<n then tW n lt (k (lt i j))else none
noncomputable def m6 (n:Nat) (lt:Nat->Nat->Bool):Option (List Nat):=(tW n lt (kas_sort n)).map (·.toList)
noncomputable def FF (l:List V) (ss:List Str):Option V:=if l.length<64 then(if 2<=l.length then(m6 l.length fun i j=>vj (ss.getD i ⟨#[]⟩) (ss.getD j ⟨#[]⟩)).map fun p=>.list (p.map fun i=>l.getD i (.c .none))else some (.list l))else none
noncomputable def Hi:V->Option Int
 | .c (.str s)=>if s.length<=lim then some s.length else none
 | .list l=>if l.length<=lim then some l.length else none
 | .tup l=>if l.length<=lim then some l.length else none
 |_=>none
noncomputable def Hj (a b:Int):Option V:=if mZ a b 1=true then some (.sp (.jC a b 1))else none
noncomputable def ie:Bf->List V->Option V
 | .len,vs=>one (fun x=>(Hi x).map fun n=>.c (.int n)) vs
 | .range,vs=>(one (fun x=>(bF x).bind fun b=>Hj 0 b) vs).or (two (fun x y=>(bF x).bind fun a=>(bF y).bind fun b=>Hj a b) vs)
 | .chr,vs=>one (fun x=>(bF x).bind fun i=>if 0<=i/\i<=1114111 then some (.c (.str ⟨#[i.toNat]⟩))else none) vs
 | .ord,vs=>one (fun x=>(aY x).bind fun s=>if s.length=1 then some (.c (.int ((s.cps.getD 0 0:Nat):Int)))else none) vs
 | .tuple,vs=>one (fun x=>(bH x).bind fun l=>if l.length<=lim then some (.tup l)else none) vs
 | .bytes,vs=>one (fun x=>(bH x).bind fun l=>((FE l).bind Hh).bind fun b=>if b.length<=lim then some (.c (.bytes b.toArray))else none) vs
 | .sorted,vs=>one (fun x=>(bH x).bind fun l=>(lK l).bind (FF l)) vs
 |_,_=>none
noncomputable def lM (x:Str) (l:List V):Option V:=(lK l).bind fun l=>if JoinOk x l=true then some (.c (.str (Txt.join x l)))else none
noncomputable def pV (x:Str) (n:Str) (vs:List V):Option V:=
 if n="join" then one (fun y=>(bH y).bind (lM x)) vs
 else if n="split" then one (fun y=>(aY y).bind fun y=>if y.length≠0/\x.length<=1000000 then some (.list ((Txt.split x y).map fun z=>.c (.str z)))else none) vs
 else if n="index" then one (fun y=>(aY y).bind fun y=>((Builtin.Str.occurrences x y 0 x.length 1).head?).map fun(i:Nat)=>V.c (.int (i:Int))) vs
 else none
noncomputable def mget (es:List (Str×V)) (vs:List V):Option V:=(one (fun k=>(aY k).map fun k=>(look es k).getD (.c .none)) vs).or (two (fun k d=>(aY k).map fun k=>(look es k).getD d) vs)
noncomputable def ig (k:Int) (n:Nat):Option Nat:=if 0<=k then(if k<n then some k.toNat else none)else if -(n:Int)<=k then some (k+n).toNat else none
noncomputable def idx (l:List V) (y:V):Option V:=(bF y).bind fun k=>if l.length<=lim then(ig k l.length).bind fun j=>l[j]? else none
noncomputable def gv (T:aM) (x y:V):Option V:=match x with
 | .c (.str s)=>(bF y).bind fun k=>if s.length<=lim then((ig k s.length).bind fun j=>s.cps[j]?).map fun c=>.c (.str ⟨#[c]⟩)else none
 | .list l=>idx l y
 | .tup l=>idx l y
 | .c (.gd a)=>(aY y).bind fun k=>(cB T.oN a).bind fun es=>look es k
 | .dict es=>(aY y).bind (look es)
 |_=>none
noncomputable def part:Option V->Option (Option Int)
 |none=>some none
 |some x=>(bF x).map some
noncomputable def cut {α:Type} (l:List α) (lo hi:Option Int):List α:=(l.drop (lo.elim 0 (clipAt l.length))).take (hi.elim l.length (clipAt l.length) -lo.elim 0 (clipAt l.length))
noncomputable def jK (x:V) (lo hi:Option V):Option V:=(part lo).bind fun a=>(part hi).bind fun b=>((aY x).bind fun s=>if s.length<=lim then some (V.c (.str (Txt.slice s a b)))else none).or ((bH x).bind fun l=>if l.length<=lim then some (.list (cut l a b))else none)
noncomputable def OX (G:Gs) (n:Str):Option At:=G.wr.bind fun es=>look es n
noncomputable def At.PN:At->Option V
 | .v y=>some y
 | .own _ _=>none
noncomputable def rH (T:aM) (x:V) (n:Str):Cv:=fun G=>match x with
 | .c (.ad C)=>(aW T.rF C n).map fun v=>(v,G)
 | .inst C es=>(aW T.jD C n).bind fun _=>(look es n).map fun v=>(v,G)
 | .sp .CO=>if n="append"/\G.log.isSome=true then some (.sp .bm,G)else none
 | .sp .wr=>(aW T.jD T.wc n).elim (G.wr.bind fun es=>((aW T.ic T.wc n).bind fun f=>if(look es n).isNone=true then some f else none).map fun f=>(.sp (.wm f),G)) fun _=>(OX G n).bind fun z=>z.PN.map fun y=>(y,G)
 |_=>none
noncomputable def m7 (U:aE) (a:Addr) (vs:List V):Cv:=fun G=>(U a (vs.map .v) G).map fun r=>(r.1,r.2.2)
noncomputable def Lq (v:V) (G:Gs):Option (V×Gs):=match v with
 | .c .none=>some (.sp .wr,G)
 |_=>none
noncomputable def Hl (a:Addr) (v:V) (y:SL) (G:Gs):Option (V×Gs):=match v,y with
 | .c .none,.iY C es=>if C=a then some (.inst a es,G)else none
 |_,_=>none
noncomputable def zc (T:aM) (U:aE) (a fi:Addr) (vs:List V):Cv:=fun G=>
 if a=T.wc then G.wr.elim ((U fi (.v (.sp .wr)::vs.map .v) {G with wr:=some []}).bind fun r=>Lq r.1 r.2.2) fun _=>none
 else(U fi (.iY a []::vs.map .v) G).bind fun r=>Hl a r.1 r.2.1 r.2.2
noncomputable def jL (T:aM) (U:aE) (f:V) (vs:List V):Cv:=fun G=>match f with
 | .c (.fn b)=>(ie b vs).map fun v=>(v,G)
 | .c (.ad a)=>(cB T.eU a).elim (m7 U a vs G) fun fi=>zc T U a fi vs G
 | .sp (.wm f)=>m7 U f (.sp .wr::vs) G
 | .sp .bm=>one (fun v=>G.log.bind fun l=>if l.length<lim then some (.c .none,{G with log:=some (l++[v])})else none) vs
 |_=>none
inductive Mt where
 |str(x n:Str)|get(es:List (Str×V))|met(f:Addr)(o:V)|val(y:V)
noncomputable def FG (n:Str):Bool:=decide (n="join")||decide (n="split")||decide (n="index")
noncomputable def getM (T:aM) (o:V) (n:Str) (G:Gs):Option (Mt×Gs):=match o with
 | .c (.str x)=>if FG n=true then some (.str x n,G)else none
 | .c (.gd a)=>if n="get" then(cB T.oN a).map fun es=>(.get es,G)else none
 | .dict es=>if n="get" then some (.get es,G)else none
 | .inst C es=>(aW T.ic C n).bind fun f=>if(look es n).isNone=true then some (.met f o,G)else none
 | .sp .wr=>G.wr.bind fun es=>(aW T.ic T.wc n).elim ((look es n).bind fun z=>z.PN.bind fun y=>(aW T.jD T.wc n).map fun _=>(.val y,G)) fun f=>if(look es n).isNone=true then some (.met f o,G)else none
 |_=>none
noncomputable def vm (T:aM) (U:aE) (m:Mt) (vs:List V):Cv:=fun G=>match m with
 | .str x n=>(pV x n vs).map fun v=>(v,G)
 | .get es=>(mget es vs).map fun v=>(v,G)
 | .met f o=>m7 U f (o::vs) G
 | .val y=>jL T U y vs G
inductive IK where
 |list(l:List V)|jC(a b c:Int)|str(x:Str)|gd(a:Addr)(es:List (Str×V))
noncomputable def mh (T:aM):V->Option IK
 | .c (.str s)=>some (.str s)
 | .c (.gd a)=>(cB T.oN a).map (IK.gd a)
 | .list l=>some (.list l)
 | .sp (.jC a b c)=>if mZ a b c=true then some (.jC a b c)else none
 |_=>none
noncomputable def tX (a b c:Int):Int:=Builtin.Range.rangeSize a b c
noncomputable def aS (K:IK) (k:Nat):Option V:=match K with
 | .str s=>(s.cps[k]?).map fun c=>.c (.str ⟨#[c]⟩)
 | .gd _ es=>(es[k]?).map fun e=>.c (.str e.1)
 | .list l=>l[k]?
 | .jC a b c=>if(k:Int)<tX a b c then some (.c (.int (a+c*k)))else none
noncomputable def CZ:SL->Option (List V)
 | .own l=>some l
 |_=>none
noncomputable def yN:SL->Option V
 | .v x=>some x
 |_=>none
noncomputable def Hp:V->Bool
 | .sp .wr=>true
 |_=>false
noncomputable def At.T6:At->Option (List V)
 | .own _ l=>some l
 | .v _=>none
noncomputable def fj (T:aM) (e:En) (G:Gs):Lv->Option (List V)
 | .var i=>CZ (sl e i)
 | .at_ n=>if(yN (sl e 0)).any Hp=true/\T.aF.contains n=true then(OX G n).bind At.T6 else none
noncomputable def oO:V->Bool
 | .sp .CO=>true
 |_=>false
noncomputable def PO:V->Option Addr
 | .c (.ad a)=>some a
 |_=>none
noncomputable def Sx:X->Option Addr
 | .c v=>PO v
 |_=>none
noncomputable def Hq:SL->Option (Array UInt8×Nat)
 | .eH b p=>some (b,p)
 |_=>none
noncomputable def Hr (e:En):Lv->Bool
 | .var i=>(yN (sl e i)).any oO
 | .at_ _=>false
noncomputable def Hs (G:Gs) (x:V):Option (List V):=if oO x=true then G.log else bH x
noncomputable def mj (T:aM) (e:En) (G:Gs) (l:Lv):Option (List V):=(fj T e G l).or (match l with
 | .var i=>match sl e i with| .v x=>Hs G x|_=>none
 | .at_ _=>none)
noncomputable def rI (G:Gs):Lv->Option Nat
 | .var _=>none
 | .at_ n=>(OX G n).bind fun z=>match z with| .own i _=>some i| .v _=>none
noncomputable def oQ (e:En) (G:Gs) (l:List V):Lv->En×Gs
 | .var i=>(e.set i (.own l),G)
 | .at_ n=>(e,{G with wr:=G.wr.map (putD n (.own ((rI G (.at_ n)).getD 0) l))})
noncomputable def front (tw:Bool) (v:V):Option (List SL):=match tw with
 |false=>some [.v v]
 |true=>(zb v).map fun p=>[.v p.1,.v p.2]
noncomputable def gQ {β γ:Type} (K:IK) (tw:Bool) (test:En->Gs->Option (Bool×Gs)) (elt:En->Gs->Option (β×Gs)) (add:γ->β->Option γ) (e:En):Nat->Nat->γ->Gs->Option (γ×Gs)
 |0,_,_=>fun _=>none
 |n+1,k,out=>fun G=>(aS K k).elim (some (out,G)) fun v=>(front tw v).bind fun zs=>bd (test (zs++e)) (fun t=>match t with
   |true=>bd (elt (zs++e)) fun y=>bd (re (add out y)) fun out=>gQ K tw test elt add e n (k+1) out
   |false=>gQ K tw test elt add e n (k+1) out) G
noncomputable def C0 (out:List V) (y:V):Option (List V):=if out.length<lim then some (out++[y])else none
noncomputable def Lr (es:List (Str×V)) (p:Str×V):Option (List (Str×V)):=if es.length<=100/\(look es p.1).isNone=true then some (es++[p])else none
noncomputable def fuel:Nat:=1000000
noncomputable def tY:V->Option (List (Str×V))
 | .dict es=>some es
 |_=>none
noncomputable def PR:V->Option Addr
 | .c (.gd a)=>some a
 |_=>none
noncomputable def zg (T:aM) (x:V):Option (List (Str×V)):=(tY x).or ((PR x).bind (cB T.oN))
noncomputable def Ht (q6:Bool) (es:List (Str×V)):Option V:=if es.length<=(if q6=true then 1 else 100)/\(es.map (·.1)).Nodup then some (.list (es.map fun e=>.tup [.c (.str e.1),e.2]))else none
noncomputable def Ls (x y:V):Option V:=(aY x).bind fun v=>(tY y).bind fun es=>if es.length<=1/\(look es v).isNone=true then some (.sp (.sset (es.map (·.1)++[v])))else none
noncomputable def Lu (x:V) (xs:List Str):Option V:=(aY x).bind fun c=>if xs.length<=8 then some (.c (.bool !(xs.contains c)))else none
noncomputable def Hu:V->Option (List Str)
 | .sp (.sset xs)=>some xs
 |_=>none
noncomputable def vo (sep:Str) (x:V):Option (List V):=(Hu x).bind fun xs=>if(xs.all fun y=>(Builtin.Str.occurrences y sep 0 y.length 1).isEmpty)=true then
  ((dR xs).map fun a=>[.c (.str a)]).or ((pair xs).map fun p=>if vj p.1 p.2=true then[.c (.str p.1),.c (.str p.2)]else[.c (.str p.2),.c (.str p.1)])else none
noncomputable def isNil:V->Bool
 | .list []=>true
 |_=>false
noncomputable def Hv (l:List V):Option V:=l.head?.bind fun x=>if l.tail.all isNil=true then(bH x).bind dR else none
mutual
noncomputable def aq (T:aM) (U:aE):X->En->Cv
 | .bad,_=>fun _=>none
 | .sem f,e=>f U e
 | .c v,_=>fun G=>some (v,G)
 | .v i,e=>match sl e i with
  | .v x=>fun G=>some (x,G)
  |_=>fun _=>none
 | .bin op a b,e=>bd (aq T U a e) fun x=>bd (aq T U b e) fun y=>re (binop op x y)
 | .neg a,e=>bd (aq T U a e) fun x=>re ((bF x).map fun i=>.c (.int (-i)))
 | .not a,e=>bd (aq T U a e) fun x=>re ((truthy x).map fun b=>.c (.bool (!b)))
 | .and l,e=>rJ T U l e
 | .cmp op a b,e=>bd (aq T U a e) fun x=>bd (aq T U b e) fun y=>re ((rB op x y).map fun r=>.c (.bool r))
 | .tT t a b,e=>bd (aq T U t e) fun x=>bd (re (truthy x)) fun q=>match q with
   |true=>aq T U a e
   |false=>aq T U b e
 | .list l,e=>bd (fk T U l e) fun r=>re (if r.length<=lim then some (.list r)else none)
 | .tup l,e=>bd (fk T U l e) fun r=>re (if r.length<=lim then some (.tup r)else none)
 | .dict ks l,e=>bd (fk T U l e) fun r=>re (some (.dict (ks.zip r)))
 | .sub a i,e=>bd (aq T U a e) fun x=>bd (aq T U i e) fun y=>re (gv T x y)
 | .slc a lo hi,e=>bd (aq T U a e) fun x=>bd (yO T U lo e) fun y=>bd (yO T U hi e) fun z=>re (jK x y z)
 | .attr a n,e=>bd (aq T U a e) fun x=>rH T x n
 | .sat n,e=>match sl e 0 with
  | .iY C es=>re ((aW T.jD C n).bind fun _=>look es n)
  | .v x=>rH T x n
  |_=>fun _=>none
 | .call f l,e=>bd (aq T U f e) fun x=>bd (fk T U l e) fun r=>jL T U x r
 | .bB a n l,e=>bd (aq T U a e) fun x=>bd (getM T x n) fun m=>bd (fk T U l e) fun r=>vm T U m r
 | .comp tw elt src ifs,e=>bd (aq T U src e) fun x=>bd (re (mh T x)) fun K=>bd (gQ K tw (fun e=>jM T U ifs e) (fun e=>aq T U elt e) C0 e fuel 0 []) fun l=>re (some (.list l))
 | .repl a y z,e=>bd (aq T U a e) fun x=>re ((aY x).bind fun s=>if s.length<=1048576/\y≠z/\z.length<=14 then some (.c (.str (Txt.replace s y z)))else none)
 | .fmt a,e=>bd (aq T U a e) fun x=>re ((aY x).bind fun s=>if s.length<=lim then some x else none)
 | .mX l,e=>bd (fk T U l e) fun r=>re ((lK r).bind fun ss=>if(ss.foldl (· ++ ·) Str.empty).length<=lim then some (.c (.str (ss.foldl (· ++ ·) Str.empty)))else none)
 | .gX l,e=>fun G=>(mj T e G l).bind fun l=>if l.length<=lim then some (.c (.int l.length),G)else none
 | .mY l i,e=>fun G=>if Hr e l=false then(mj T e G l).bind fun l=>bd (aq T U i e) (fun y=>re (idx l y)) G else none
 | .y9 l,e=>fun G=>(mj T e G l).bind fun l=>if l.length<=lim then some (.c (.bool (!l.isEmpty)),G)else none
 | .vh f l,e=>bd (aq T U f e) fun x=>fun G=>(mj T e G l).bind fun l=>match x with
  | .c (.ad a)=>if a=T.jn then(lM ⟨#[]⟩ l).map fun v=>(v,G)else none
  |_=>none
 | .FD x l,e=>fun G=>(mj T e G l).bind fun l=>(lM x l).map fun v=>(v,G)
 | .items q6 a,e=>bd (aq T U a e) fun x=>re ((zg T x).bind (Ht q6))
 | .CT a b,e=>bd (aq T U a e) fun x=>bd (aq T U b e) fun y=>re (Ls x y)
 | .xB a i,e=>bd (aq T U a e) fun x=>re (match sl e i with
  | .yL xs=>Lu x xs
  |_=>none)
noncomputable def fk (T:aM) (U:aE):List X->En->Gs->Option (List V×Gs)
 |[],_=>fun G=>some ([],G)
 |x::l,e=>bd (aq T U x e) fun r=>bd (fk T U l e) fun q=>re (some (r::q))
noncomputable def yO (T:aM) (U:aE):Option X->En->Gs->Option (Option V×Gs)
 |none,_=>fun G=>some (none,G)
 |some x,e=>bd (aq T U x e) fun r=>re (some (some r))
noncomputable def rJ (T:aM) (U:aE):List X->En->Cv
 |[],_=>fun _=>none
 |x::l,e=>bd (aq T U x e) fun r=>match l with
  |[]=>re (some r)
  |_::_=>bd (re (truthy r)) fun t=>match t with
   |true=>rJ T U l e
   |false=>re (some r)
noncomputable def jM (T:aM) (U:aE):List X->En->Gs->Option (Bool×Gs)
 |[],_=>fun G=>some (true,G)
 |x::l,e=>bd (aq T U x e) fun r=>bd (re (truthy r)) fun t=>match t with
  |true=>jM T U l e
  |false=>re (some false)
end
noncomputable def fK:List Nat->List V->En->Option En
 |[],[],e=>some e
 |i::is,v::vs,e=>fK is vs (e.set i (.v v))
 |_,_,_=>none
noncomputable abbrev Cs:=En->Gs->Option (Fl×En×Gs)
noncomputable def rK (test:En->Gs->Option (Bool×Gs)) (body:Cs):Nat->Cs
 |0,_,_=>none
 |n+1,e,G=>(test e G).bind fun t=>match t.1 with
  |true=>(body e t.2).bind fun r=>match r.1 with
   | .aS=>rK test body n r.2.1 r.2.2
   | .ret v=>some (.ret v,r.2.1,r.2.2)
  |false=>some (.aS,e,t.2)
noncomputable def xC.put:xC->V->En->Option En
 | .one i,v,e=>some (e.set i (.v v))
 | .two i j,v,e=>(zb v).map fun p=>(e.set i (.v p.1)).set j (.v p.2)
noncomputable def forL (K:IK) (t:xC) (body:Cs):Nat->Nat->Cs
 |0,_,_,_=>none
 |n+1,k,e,G=>(aS K k).elim (some (.aS,e,G)) fun v=>(t.put v e).bind fun e=>(body e G).bind fun r=>match r.1 with
   | .aS=>forL K t body n (k+1) r.2.1 r.2.2
   | .ret v=>some (.ret v,r.2.1,r.2.2)
noncomputable def SL.kd:SL->Nat
 | .own _=>1
 | .iY _ _=>2
 | .eH _ _=>3
 | .yL _=>4
 |_=>0
noncomputable def lone (e:En) (i:Nat):Bool:=(e.set i .no).all fun z=> !Nat.beq z.kd (sl e i).kd
noncomputable def PS (T:aM) (n:Str) (v:V) (e:En) (G:Gs):SL->Option (En×Gs)
 | .iY C es=>(aW T.jD C n).bind fun _=>if es.length<=900/\lone e 0=true then some (e.set 0 (.iY C (putD n v es)),G)else none
 | .v (.sp .wr)=>(aW T.jD T.wc n).bind fun _=>if T.aF.contains n=true then none else G.wr.bind fun es=>if es.length<=900 then some (e,{G with wr:=some (putD n (.v v) es)})else none
 |_=>none
noncomputable def xE (T:aM) (n:Str) (v:V) (e:En) (G:Gs):Option (En×Gs):=PS T n v e G (sl e 0)
noncomputable def C1 (e:En) (i:Nat):En:=match sl e i with
 | .own l=>e.set i (.v (.list l))
 |_=>e
noncomputable def Lw (T:aM) (e:En) (G:Gs) (m n:Str):Option V:=if(yN (sl e 0)).any Hp=true/\aW T.ic T.wc m=some T.gf then G.wr.bind fun es=>if(look es m).isNone=true then(fj T e G (.at_ n)).bind Hv else none else none
noncomputable def Lx (f:En->Cv) (e:En) (G:Gs):Option ((Str×V)×Gs):=((yN (sl e 0)).bind aY).bind fun k=>(f e G).map fun r=>((k,r.1),r.2)
mutual
noncomputable def fY (T:aM) (U:aE):S->Cs
 | .bad,_,_=>none
 | .sem f,e,G=>f U e G
 | .asg i x,e,G=>(aq T U x e G).map fun r=>(.aS,e.set i (.v r.1),r.2)
 | .CU is x,e,G=>(aq T U x e G).bind fun r=>(fK is (is.map fun _=>r.1) e).map fun e'=>(.aS,e',r.2)
 | .tU is x,e,G=>(aq T U x e G).bind fun r=>match r.1 with
  | .tup vs=>(fK is vs e).map fun e'=>(.aS,e',r.2)
  |_=>none
 | .CV i j a b,e,G=>(aq T U a e G).bind fun x=>(aq T U b e x.2).map fun y=>(.aS,(e.set i (.v x.1)).set j (.v y.1),y.2)
 | .dQ n x,e,G=>(aq T U x e G).bind fun r=>(xE T n r.1 e r.2).map fun q=>(.aS,q.1,q.2)
 | .aug i op x,e,G=>match sl e i with
  | .v v=>(aq T U x e G).bind fun r=>(xA op v r.1).map fun y=>(.aS,e.set i (.v y),r.2)
  |_=>none
 | .ite t a b,e,G=>(aq T U t e G).bind fun x=>(truthy x.1).bind fun q=>match q with
   |true=>aN T U a e x.2
   |false=>aN T U b e x.2
 | .rC t b,e,G=>rK (fun e G=>(aq T U t e G).bind fun x=>(truthy x.1).map fun q=>(q,x.2)) (fun e G=>aN T U b e G) fuel e G
 | .eE t x b,e,G=>(aq T U x e G).bind fun r=>(mh T r.1).bind fun K=>forL K t (fun e G=>aN T U b e G) fuel 0 e r.2
 | .ret x,e,G=>(aq T U x e G).map fun r=>(.ret r.1,e,r.2)
 | .expr x,e,G=>(aq T U x e G).map fun r=>(.aS,e,r.2)
 | .ju t f s,e,G=>(Hq (sl e s)).bind fun z=>(CZ (sl e t)).bind fun l=>(z.1[z.2]?).elim
   ((Sx f).bind fun pv=>if pv=T.pv/\lone e s=true then some (.ret (.list l),(e.set s (.v (.sp .gone))).set t (.v (.list l)),G)else none)
   fun _=>(aq T U f e G).bind fun x=>(PO x.1).bind fun a=>(U a [.eH z.1 z.2] x.2).bind fun r=>(Hq r.2.1).bind fun w=>if l.length<lim/\lone e s=true then some (.aS,(e.set s (.eH w.1 w.2)).set t (.own (l++[r.1])),r.2.2)else none
 | .tryAll b,e,G=>aN T U b e G
 | .fz is,e,G=>some (.aS,is.foldl C1 e,G)
 | .om i l,e,G=>(fk T U l e G).bind fun r=>if r.1.length<=lim then some (.aS,e.set i (.own r.1),r.2)else none
 | .tV i x,e,G=>match sl e i with
  | .own l=>(aq T U x e G).bind fun r=>(bH r.1).bind fun m=>if l.length+m.length<=lim then some (.aS,e.set i (.own (l++m)),r.2)else none
  |_=>none
 | .oset i k x,e,G=>(aq T U x e G).bind fun r=>match sl e i with
  | .own l=>(aq T U k e r.2).bind fun y=>(bF y.1).bind fun k=>if 0<=k/\k<l.length/\l.length<=lim then some (.aS,e.set i (.own (l.set k.toNat r.1)),y.2)else none
  |_=>none
 | .eF l x,e,G=>(fj T e G l).bind fun l0=>(aq T U x e G).bind fun r=>(fj T e r.2 l).bind fun l1=>if l1.length<lim/\rI G l=rI r.2 l then some (.aS,oQ e r.2 (l1++[r.1]) l)else none
 | .xD l,e,G=>(fj T e G l).bind fun l0=>if l0.length<=lim/\l0≠[]then some (.aS,oQ e G l0.dropLast l)else none
 | .CW n,e,G=>(fj T e G (.at_ n)).bind fun l0=>if l0.length<=lim then some (.aS,oQ e G [] (.at_ n))else none
 | .anew n l,e,G=>match sl e 0 with
  | .v (.sp .wr)=>(fk T U l e G).bind fun r=>if T.aF.contains n=true/\r.1.length<=lim then(aW T.jD T.wc n).bind fun _=>r.2.wr.bind fun es=>if es.length<=900 then some (.aS,e,{r.2 with wr:=some (putD n (.own r.2.cnt r.1) es),cnt:=r.2.cnt+1})else none else none
  |_=>none
 | .rE i x,e,G=>(aq T U x e G).bind fun r=>match r.1 with
  | .c (.bytes b)=>some (.aS,e.set i (.eH b 0),r.2)
  |_=>none
 | .oK i j,e,G=>match sl e j with
  | .eH b p=>if lone e j=true then(b[p]?).map fun c=>(.aS,(e.set j (.eH b (p+1))).set i (.v (.c (.int (c.toNat:Int)))),G)else none
  |_=>none
 | .CX i,e,G=>if G.log.isNone=true then some (.aS,e.set i (.v (.sp .CO)),{G with log:=some []})else none
 | .CY i,e,G=>some (.aS,e.set i (.yL []),G)
 | .za i x,e,G=>(aq T U x e G).bind fun r=>match sl e i with
  | .yL xs=>(aY r.1).bind fun v=>if xs.length<=6/\lone e i=true then some (.aS,e.set i (.yL (v::xs)),r.2)else none
  |_=>none
 | .oM m n t b,e,G=>(Lw T e G m n).bind fun v=>(t.put v e).bind fun e=>(aN T U b e G).bind fun r=>match r.1 with
  | .aS=>some (.aS,r.2.1,r.2.2)
  |_=>none
 | .Hg i lp sep x y,e,G=>if T.lp=lp then(aq T U x e G).bind fun r=>(vo sep r.1).bind fun l=>(gQ (.list l) false (fun u' G=>some (true,G)) (Lx fun e=>aq T U y e) Lr e fuel 0 [] r.2).map fun q=>(.aS,e.set i (.v (.dict q.1)),q.2)else none
noncomputable def aN (T:aM) (U:aE):List S->Cs
 |[],e,G=>some (.aS,e,G)
 |s::l,e,G=>(fY T U s e G).bind fun r=>match r.1 with
  | .aS=>aN T U l r.2.1 r.2.2
  |f=>some (f,r.2.1,r.2.2)
end
structure Fn where
 ns:List Str
 np:Nat
 df:List V
 kd:List V
 o0:Bool
 body:List S
noncomputable def fL (f:Fn) (args:List SL):Option En:=
 if f.np<=args.length+f.df.length/\args.length<=f.np/\(f.o0|| !(sl args 0).pS)=true then some (args++((f.df.drop (args.length+f.df.length -f.np)++f.kd).map .v++List.replicate (f.ns.length -(f.np+f.kd.length)) .no))else none
noncomputable def aj (T:aM) (F:Addr->Option Fn):Nat->aE
 |0=>fun u' u' _=>none
 |n+1=>fun a args G=>(F a).bind fun f=>(fL f args).bind fun e=>(aN T (aj T F n) f.body e G).bind fun r=>match r.1 with
   | .aS=>some (.c .none,sl r.2.1 0,r.2.2)
   | .ret v=>some (v,sl r.2.1 0,r.2.2)
end Mine.Internal
end
noncomputable section
open PySem PySem.W PyProof.Rows
set_option backward.match.sparseCases false
namespace Mine.Internal
/-! from iZ PT syntax to iZ oH -/
noncomputable abbrev bf:=Str->Option V
noncomputable def xF (scope outer:Scope):Scope:={scope with names:=scope.names.map fun(n,k)=>if k== .free&&outer.kind== .function&&outer.names.lookup n==some .cell then(n,.cell)else(n,k)}
noncomputable def ao (n:Str):Bool:= !(n==("__debug__":Str))&& !(n==("__classdict__":Str))
inductive EV where
 |name(x:Str)(p:Pos)|const(c:Const)(n:Nat)(p:Pos)|call(f:Expr)(as:List Expr)(p:Pos)|attr(o:Expr)(a:Str)(p:Pos)|sub(v i:Expr)(p:Pos)
 |list(es:List Expr)(p:Pos)|tup(es:List Expr)(n:Nat)(p:Pos)|bin(l:Expr)(op:Operator)(r:Expr)(p:Pos)|un(op:UnaryOp)(e:Expr)(p:Pos)
 |slice(lo hi:Option Expr)(p:Pos)|star(e:Expr)(p:Pos)|lam(ps:Arguments)(b:Expr)(s:Scope)(p:Pos)|key(f:Expr)(as:List Expr)(ks:List Keyword)(p:Pos)|dc(k v:Expr)(gs:List Comprehension)(s:Scope)(p:Pos)|no
noncomputable def Ly (f:Expr) (as:List Expr) (p:Pos):List Keyword->EV
 |[]=>.call f as p
 |k::ks=>.key f as (k::ks) p
noncomputable def Lz (lo hi:Option Expr) (p:Pos):Option Expr->EV
 |none=>.slice lo hi p
 |some _=>.no
noncomputable def view:Expr->EV
 | .Name x p=>.name x p
 | .Constant c n p=>.const c n p
 | .Call f as ks p=>Ly f as p ks
 | .Attribute o a p=>.attr o a p
 | .Subscript v i p=>.sub v i p
 | .List es p=>.list es p
 | .Tuple es n p=>.tup es n p
 | .BinOp l op r p=>.bin l op r p
 | .UnaryOp op e p=>.un op e p
 | .Slice lo hi st p=>Lz lo hi p st
 | .Starred e p=>.star e p
 | .Lambda ps b s p=>.lam ps b s p
 | .DictComp k v gs s p=>.dc k v gs s p
 |_=>.no
noncomputable def EV.ex:EV->Option Expr
 | .name x p=>some (.Name x p)
 | .const c n p=>some (.Constant c n p)
 | .call f as p=>some (.Call f as [] p)
 | .attr o a p=>some (.Attribute o a p)
 | .sub v i p=>some (.Subscript v i p)
 | .list es p=>some (.List es p)
 | .tup es n p=>some (.Tuple es n p)
 | .bin l op r p=>some (.BinOp l op r p)
 | .un op e p=>some (.UnaryOp op e p)
 | .slice lo hi p=>some (.Slice lo hi none p)
 | .star e p=>some (.Starred e p)
 | .lam ps b s p=>some (.Lambda ps b s p)
 | .key f as ks p=>some (.Call f as ks p)
 | .dc k v gs s p=>some (.DictComp k v gs s p)
 | .no=>none
set_option tactic.hygienic true in
theorem C2(e:Expr):(view e).ex=none\/(view e).ex=some e:=by
 rcases e with⟨⟩ <;> first|exact .inr rfl|exact .inl rfl|skip
 ·rename_i ks _;rcases ks with⟨⟩ <;> exact .inr rfl
 ·rename_i st _;rcases st with⟨⟩
  ·exact .inr rfl
  ·exact .inl rfl
theorem fM{α:Type}{e:Expr}{mk:α->Expr}{r:α}{f:EV->Option α}(k:∀v,(f v).elim True fun r=>v.ex=some (mk r))(h:f (view e)=some r):e=mk r:=by
 have :=k (view e);rw[h]at this;rcases C2 e with q|q
 ·exact xa (q.symm.trans this)
 ·exact Option.some.inj (q.symm.trans this)
noncomputable def EV.asName:EV->Option (Str×Pos)
 | .name x p=>some (x,p)
 |_=>none
noncomputable def EV.jO:EV->Option (Const×Nat×Pos)
 | .const c n p=>some (c,n,p)
 |_=>none
noncomputable def EV.cR:EV->Option (Expr×List Expr×Pos)
 | .call f as p=>some (f,as,p)
 |_=>none
noncomputable def EV.dF:EV->Option (Expr×Str×Pos)
 | .attr o a p=>some (o,a,p)
 |_=>none
noncomputable def EV.oR:EV->Option (Expr×Expr×Pos)
 | .sub v i p=>some (v,i,p)
 |_=>none
noncomputable def EV.bH:EV->Option (List Expr×Pos)
 | .list es p=>some (es,p)
 |_=>none
noncomputable def EV.jd:EV->Option (List Expr×Nat×Pos)
 | .tup es n p=>some (es,n,p)
 |_=>none
noncomputable def EV.zh:EV->Option (Expr×Operator×Expr×Pos)
 | .bin l op r p=>some (l,op,r,p)
 |_=>none
noncomputable def EV.Hw:EV->Option (UnaryOp×Expr×Pos)
 | .un op e p=>some (op,e,p)
 |_=>none
noncomputable def EV.vp:EV->Option (Option Expr×Option Expr×Pos)
 | .slice lo hi p=>some (lo,hi,p)
 |_=>none
noncomputable def EV.zj:EV->Option (Expr×Pos)
 | .star e p=>some (e,p)
 |_=>none
noncomputable def EV.FH:EV->Option (Arguments×Expr×Scope×Pos)
 | .lam ps b s p=>some (ps,b,s,p)
 |_=>none
noncomputable def EV.FI:EV->Option (Expr×List Expr×List Keyword×Pos)
 | .key f as ks p=>some (f,as,ks,p)
 |_=>none
noncomputable def EV.LA:EV->Option (Expr×Expr×List Comprehension×Scope×Pos)
 | .dc k v gs s p=>some (k,v,gs,s,p)
 |_=>none
theorem dZ{e:Expr}{r:Str×Pos}(h:(view e).asName=some r):e= .Name r.1 r.2:=fM (mk:=fun r:Str×Pos=>.Name r.1 r.2) (f:=EV.asName) (fun v=>by rcases v with⟨⟩ <;> first|rfl|trivial) h
theorem m8{e:Expr}{r:Const×Nat×Pos}(h:(view e).jO=some r):e= .Constant r.1 r.2.1 r.2.2:=fM (mk:=fun r:Const×Nat×Pos=>.Constant r.1 r.2.1 r.2.2) (f:=EV.jO) (fun v=>by rcases v with⟨⟩ <;> first|rfl|trivial) h
theorem dG{e:Expr}{r:Expr×List Expr×Pos}(h:(view e).cR=some r):e= .Call r.1 r.2.1 [] r.2.2:=fM (mk:=fun r:Expr×List Expr×Pos=>.Call r.1 r.2.1 [] r.2.2) (f:=EV.cR) (fun v=>by rcases v with⟨⟩ <;> first|rfl|trivial) h
theorem d8{e:Expr}{r:Expr×Str×Pos}(h:(view e).dF=some r):e= .Attribute r.1 r.2.1 r.2.2:=fM (mk:=fun r:Expr×Str×Pos=>.Attribute r.1 r.2.1 r.2.2) (f:=EV.dF) (fun v=>by rcases v with⟨⟩ <;> first|rfl|trivial) h
theorem sub_eq{e:Expr}{r:Expr×Expr×Pos}(h:(view e).oR=some r):e= .Subscript r.1 r.2.1 r.2.2:=fM (mk:=fun r:Expr×Expr×Pos=>.Subscript r.1 r.2.1 r.2.2) (f:=EV.oR) (fun v=>by rcases v with⟨⟩ <;> first|rfl|trivial) h
theorem list_eq{e:Expr}{r:List Expr×Pos}(h:(view e).bH=some r):e= .List r.1 r.2:=fM (mk:=fun r:List Expr×Pos=>.List r.1 r.2) (f:=EV.bH) (fun v=>by rcases v with⟨⟩ <;> first|rfl|trivial) h
theorem pW{e:Expr}{r:List Expr×Nat×Pos}(h:(view e).jd=some r):e= .Tuple r.1 r.2.1 r.2.2:=fM (mk:=fun r:List Expr×Nat×Pos=>.Tuple r.1 r.2.1 r.2.2) (f:=EV.jd) (fun v=>by rcases v with⟨⟩ <;> first|rfl|trivial) h
theorem Hx{e:Expr}{r:Expr×Operator×Expr×Pos}(h:(view e).zh=some r):e= .BinOp r.1 r.2.1 r.2.2.1 r.2.2.2:=fM (mk:=fun r:Expr×Operator×Expr×Pos=>.BinOp r.1 r.2.1 r.2.2.1 r.2.2.2) (f:=EV.zh) (fun v=>by rcases v with⟨⟩ <;> first|rfl|trivial) h
theorem LB{e:Expr}{r:UnaryOp×Expr×Pos}(h:(view e).Hw=some r):e= .UnaryOp r.1 r.2.1 r.2.2:=fM (mk:=fun r:UnaryOp×Expr×Pos=>.UnaryOp r.1 r.2.1 r.2.2) (f:=EV.Hw) (fun v=>by rcases v with⟨⟩ <;> first|rfl|trivial) h
noncomputable def cStr:Const->Option Str
 | .str s=>some s
 |_=>none
theorem C3{c:Const}{s:Str}(h:cStr c=some s):c= .str s:=tells (P:=fun s=>c= .str s) (by rcases c with⟨⟩ <;> first|rfl|trivial) h
noncomputable def cInt:Const->Option Int
 | .int s=>some s
 |_=>none
theorem vq{c:Const}{s:Int}(h:cInt c=some s):c= .int s:=tells (P:=fun s=>c= .int s) (by rcases c with⟨⟩ <;> first|rfl|trivial) h
noncomputable def noStar (e:Expr):Bool:= !Nat.beq e.ctorIdx 22
noncomputable def tZ (e:Expr):Option (Option Expr×Option Expr×Pos):=(view e).vp
theorem oS{e:Expr}{r:Option Expr×Option Expr×Pos}(h:tZ e=some r):e= .Slice r.1 r.2.1 none r.2.2:=fM (mk:=fun r:Option Expr×Option Expr×Pos=>.Slice r.1 r.2.1 none r.2.2) (f:=EV.vp) (fun v=>by rcases v with⟨⟩ <;> first|rfl|trivial) h
noncomputable def xG (e:Expr):Option (Str×Nat×Pos):=(view e).jO.bind fun r=>(cStr r.1).map fun s=>(s,r.2)
theorem jP{e:Expr}{r:Str×Nat×Pos}(h:xG e=some r):e= .Constant (.str r.1) r.2.1 r.2.2:=by
 refine av (Option.bind_eq_some_iff.mp h) fun a h1 h2=>?_;refine av (Option.map_eq_some_iff.mp h2) fun b h3 h4=>?_
 (clear h h2;subst h4)
 rw[m8 h1,C3 h3]
noncomputable def ir (o:Option Expr):Option Str:=o.bind fun e=>(xG e).map (·.1)
noncomputable def bJ (e:Expr):Bool:=(view e).cR.any fun r=>(view r.1).asName.isSome&&r.2.1.isEmpty
noncomputable def bM (e:Expr):Bool:=(view e).dF.isSome
noncomputable def dH (e:Expr):Bool:=Nat.beq e.ctorIdx 26
noncomputable def m9 (sc scope:Scope) (ns xs:List Str):Bool:=decide (scope.kind= .function)&&scope.names.all (fun y=> !(y.2== .local)||(scope.names.lookup y.1==some .local))&&xs.all (fun x=>scope.names.lookup x==some .local||scope.names.lookup x==some .cell)&&
 !xs.contains (".0":Str)&& !ns.contains (".0":Str)&&scope.names.all fun y=>(y.2== .local&&(xs.contains y.1||y.1==(".0":Str)))||(y.2== .cell&&xs==[y.1])||(y.2== .free&&jb (sc.names.lookup y.1)&&ns.contains y.1)||y.2== .globalImplicit
noncomputable def distinct:List Str->Bool
 |[]=>true
 |x::l=> !l.contains x&&distinct l
noncomputable def zm (a:Str) (args:List Expr):Option ((Str×Nat×Pos)×(Str×Nat×Pos)):=(pair args).bind fun r=>(xG r.1).bind fun y=>(xG r.2).bind fun z=>if a="replace" then some (y,z)else none
noncomputable def fb (o:Option X):X:=o.getD .bad
noncomputable def cO (f:Expr->Option X):Option Expr->Option (Option X)
 |none=>some none
 |some e=>(f e).map some
noncomputable def jQ (sc:Scope) (e:Expr):Option (Str×Pos):=(view e).asName.bind fun r=>if ao r.1=true/\sc.names.lookup r.1=some .local then some r else none
noncomputable def kP (sc:Scope) (ns:List Str) (e:Expr):Bool:=(view e).asName.any fun r=>ao r.1&&(sc.names.lookup r.1==some .local||sc.names.lookup r.1==some .cell)&&ix ns r.1==some 0
noncomputable def ng (M:List Str) (sc:Scope) (ns:List Str) (e:Expr):Option Nat:=(jQ sc e).bind fun r=>if M.contains r.1=true then ix ns r.1 else none
noncomputable def oq (aF M:List Str) (sc:Scope) (ns:List Str) (e:Expr):Option Lv:=((ng M sc ns e).map .var).or ((view e).dF.bind fun r=>if aF.contains r.2.1=true/\kP sc ns r.1=true then some (.at_ r.2.1)else none)
noncomputable def cC:Const->Option V
 | .none=>some (.c .none)
 | .bool b=>some (.c (.bool b))
 | .int i=>some (.c (.int i))
 | .str s=>some (.c (.str s))
 |_=>none
noncomputable def LC:V->Option Bf
 | .c (.fn b)=>some b
 |_=>none
noncomputable def jR (g:bf) (b:Bf) (sc:Scope) (e:Expr):Bool:=(view e).asName.any fun r=>decide ((g r.1).bind LC=some b)&&sc.names.lookup r.1==some .globalImplicit&&ao r.1
noncomputable def LD:UnaryOp->Bool
 | .USub=>true
 |_=>false
noncomputable def LG (e:Expr):Option Int:=(view e).Hw.bind fun r=>(view r.2.1).jO.bind fun c=>if LD r.1=true then cInt c.1 else none
noncomputable def Lv.t8:Lv->Option Str
 | .at_ n=>some n
 | .var _=>none
noncomputable def zo (aF M:List Str) (g:bf) (cX:Expr->Option X) (sc:Scope) (ns:List Str) (e:Expr):Option X:=
 ((view e).cR.bind fun r=>(dR r.2.1).bind fun a=>(oq aF M sc ns a).bind fun l=>
  ((view r.1).dF.bind fun t=>(xG t.1).bind fun s=>if t.2.1="join"/\(t.2.2.endLine==r.2.2.line)=true then some (.FD s.1 l)else none).or
  (if jR g .len sc r.1=true then some (.gX l)else if bM r.1=true then none else l.t8.bind fun n=>(cX r.1).map fun x=>.vh x (.at_ n))).or
 ((view e).oR.bind fun r=>if dH r.2.1=true then none else(oq aF M sc ns r.1).bind fun l=>l.t8.elim ((cX r.2.1).map fun y=>.mY l y) fun n=>(LG r.2.1).map fun j=>.mY l (.neg (.c (.c (.int j)))))
noncomputable def FJ (cX:Expr->Option X) (f:Expr) (args:List Expr) (pos:Pos):Option X:=if args.all noStar=true/\args.length<20 then
  ((view f).dF.elim ((cX f).bind fun x=>(aA cX args).map fun l=>.call x l) fun t=>if bJ t.1=false/\(t.2.2.endLine==pos.line)=true then(cX t.1).bind fun x=>(zm t.2.1 args).elim ((aA cX args).map fun l=>.bB x t.2.1 l) fun yz=>some (.repl x yz.1.1 yz.2.1)
   else none)
 else none
noncomputable def iu (e:Expr):Bool:=Nat.beq e.ctorIdx 7
noncomputable def Sy (e:Expr):Option (List Str):=((view e).asName.map fun r=>[r.1]).or ((view e).jd.bind fun r=>(pair r.1).bind fun p=>(view p.1).asName.bind fun a=>(view p.2).asName.bind fun b=>if a.1≠b.1 then some [a.1,b.1]else none)
noncomputable def pX (gs:List Comprehension):Option (List Str×Comprehension):=(dR gs).bind fun c=>(Sy c.target).bind fun r=>if c.is_async=0 then some (r,c)else none
noncomputable def isNotIn:CmpOp->Bool
 | .NotIn=>true
 |_=>false
noncomputable def PU (op:CmpOp) (sc:Scope) (ns:List Str) (r:Expr):Option Nat:=if isNotIn op=true then(jQ sc r).bind fun z=>if z.1="prefixes_seen" then ix ns z.1 else none else none
noncomputable def FL (e:Expr):Option (Expr×Pos):=(view e).zj
theorem zq{e:Expr}{r:Expr×Pos}(h:FL e=some r):e= .Starred r.1 r.2:=fM (mk:=fun r:Expr×Pos=>.Starred r.1 r.2) (f:=EV.zj) (fun v=>by rcases v with⟨⟩ <;> first|rfl|trivial) h
noncomputable def zu (g:bf) (cX:Expr->Option X) (sc:Scope) (e:Expr):Option X:=(view e).cR.bind fun r=>(dR r.2.1).bind fun a=>(view a).cR.bind fun q=>(view q.1).dF.bind fun t=>
 if t.2.1="items"/\q.2.1.isEmpty=true/\(t.2.2.endLine==q.2.2.line)=true/\bJ t.1=false then
  (if jR g .list sc r.1=true then(cX t.1).map (.items false)else none).or (if jR g .sorted sc r.1=true then(cX t.1).map (.items true)else none)else none
noncomputable def cE (g:bf) (sc:Scope) (ns:List Str) (f fi:Expr->Option X) (fc:Scope->List Str->Expr->Option X):Expr->Option X
 | .Constant k _ _=>(cC k).map .c
 | .Name x _=>if ao x=true then(if isVar (sc.names.lookup x)=true then(ix ns x).map X.v else if sc.names.lookup x=some .globalImplicit then(g x).map X.c else none)else none
 | .BinOp l op r _=>(f l).bind fun a=>(f r).map fun b=>.bin op a b
 | .UnaryOp op x _=>(f x).bind fun a=>match op with
  | .USub=>some (.neg a)
  | .Not=>some (.not a)
  |_=>none
 | .BoolOp op vs _=>(aA (fun e=>some (fb (f e))) vs).bind fun l=>match op with
  | .And=>some (.and l)
  | .Or=>none
 | .Compare l ops rs _=>(dR ops).bind fun op=>(dR rs).bind fun r=>if behindInMarks op r=false then(f l).bind fun a=>(PU op sc ns r).elim ((f r).map fun b=>.cmp op a b) fun i=>some (.xB a i)else none
 | .IfExp t b o _=>(f t).map fun x=>.tT x (fb (f b)) (fb (f o))
 | .List es _=>if es.all noStar=true then(aA (f) es).map .list else none
 | .Tuple es _ _=>if es.all noStar=true then(aA (f) es).map .tup else none
 | .Dict ks vs _=>(aA ir ks).bind fun l=>if distinct l=true/\l.length<=15/\l.length=vs.length then(aA (f) vs).map (.dict l)else none
 | .Subscript v i _=>(f v).bind fun a=>if dH i=true then(tZ i).bind fun t=>(cO (f) t.1).bind fun b=>(cO (f) t.2.1).map fun c=>.slc a b c
  else(f i).map fun b=>.sub a b
 | .Attribute v a _=>if bJ v=false then(if kP sc ns v=true then some (.sat a)else(f v).map fun x=>.attr x a)else none
 | .FormattedValue v c none _=>if c= -1 then(f v).map .fmt else none
 | .JoinedStr l _=>if 2<=l.length then(aA (f) l).map .mX else none
 | .Call fn args [] pos=>FJ f fn args pos
 | .Set es k _=>(pair es).bind fun p=>(FL p.2).bind fun b=>if k=0/\noStar p.1=true then(f p.1).bind fun x=>(f b.1).map fun y=>.CT x y else none
 | .ListComp elt gens scope _=>(pX gens).bind fun t=>if iu t.2.iter=false/\m9 sc scope ns t.1=true then
   (fi t.2.iter).bind fun s=>(fc (xF scope sc) (t.1++ns) elt).bind fun y=>(aA (fc (xF scope sc) (t.1++ns)) t.2.ifs).map fun l=>.comp (Nat.beq t.1.length 2) y s l
  else none
 |_=>none
noncomputable def cX (aF M:List Str) (g:bf):Nat->Scope->List Str->Expr->Option X
 |0,_,_,_=>none
 |n+1,sc,ns,e=>(zo aF M g (cX aF M g n sc ns) sc ns e).or ((zu g (cX aF M g n sc ns) sc e).or (cE g sc ns (cX aF M g n sc ns) (cX aF [] g n sc ns) (cX [] [] g n) e))
noncomputable def nh (e:Expr):Bool:=Nat.beq e.ctorIdx 25
noncomputable def jS (e:Expr):Bool:=Nat.ble 8 e.ctorIdx&&Nat.ble e.ctorIdx 10
noncomputable def fm (sc:Scope) (ns:List Str) (e:Expr):Option Nat:=(view e).asName.bind fun r=>if ao r.1=true/\(sc.names.lookup r.1=some .local\/sc.names.lookup r.1=some .cell)then ix ns r.1 else none
noncomputable def cT (aF M:List Str) (g:bf) (sc:Scope) (ns:List Str) (e:Expr):Option X:=((oq aF M sc ns e).bind Lv.t8).elim (cX aF M g 40 sc ns e) fun n=>some (.y9 (.at_ n))
inductive SV where
 |expr(e:Expr)(p:Pos)|ret(e:Option Expr)(p:Pos)|asg(ts:List Expr)(v:Expr)(p:Pos)|aug(t:Expr)(op:Operator)(v:Expr)(p:Pos)|ifs(t:Expr)(a b:List Stmt)(p:Pos)
 |rC(t:Expr)(b:List Stmt)(p:Pos)|eE(v it:Expr)(b:List Stmt)(p:Pos)|brk(p:Pos)|del(ts:List Expr)(p:Pos)|zw(b:List Stmt)(hs:List ExceptHandler)(p:Pos)|no
noncomputable def fN:Stmt->SV
 | .Expr e p=>.expr e p
 | .Return e p=>.ret e p
 | .Assign ts v p=>.asg ts v p
 | .AugAssign t op v p=>.aug t op v p
 | .If t a b p=>.ifs t a b p
 | .While t b o p=>if o.isEmpty then .rC t b p else .no
 | .For v it b o p=>if o.isEmpty then .eE v it b p else .no
 | .Break p=>.brk p
 | .Delete ts p=>.del ts p
 | .Try b hs o f p=>if o.isEmpty&&f.isEmpty then .zw b hs p else .no
 |_=>.no
noncomputable def SV.st:SV->Option Stmt
 | .expr e p=>some (.Expr e p)
 | .ret e p=>some (.Return e p)
 | .asg ts v p=>some (.Assign ts v p)
 | .aug t op v p=>some (.AugAssign t op v p)
 | .ifs t a b p=>some (.If t a b p)
 | .rC t b p=>some (.While t b [] p)
 | .eE v it b p=>some (.For v it b [] p)
 | .brk p=>some (.Break p)
 | .del ts p=>some (.Delete ts p)
 | .zw b hs p=>some (.Try b hs [] [] p)
 | .no=>none
set_option tactic.hygienic true in
theorem rM(st:Stmt):(fN st).st=none\/(fN st).st=some st:=by
 rcases st with⟨⟩ <;> first|exact .inr rfl|exact .inl rfl|skip
 ·rename_i o _;rcases o with⟨⟩
  ·exact .inr rfl
  ·exact .inl rfl
 ·rename_i o _;rcases o with⟨⟩
  ·exact .inr rfl
  ·exact .inl rfl
 ·rename_i o f _;rcases o with⟨⟩
  ·rcases f with⟨⟩
   ·exact .inr rfl
   ·exact .inl rfl
  ·exact .inl rfl
noncomputable def FN:SV->Bool
 | .ret _ _=>true
 | .asg ts _ _=>(dR ts).any bM
 |_=>false
noncomputable def PV:SV->Option Expr
 | .ifs e _ _ _=>some e
 |_=>none
noncomputable def Hy (M:List Str) (sc:Scope) (ns:List Str) (st:Stmt):List Nat:=if FN (fN st)=true then M.filterMap fun x=>if sc.names.lookup x=some .local then ix ns x else none else((PV (fN st)).bind (ng M sc ns)).toList
noncomputable def Hz (cX:Expr->Option X) (g:bf) (sc:Scope) (i:Nat) (f a:Expr):Option S:=if jR g .iter sc f=true/\Nat.beq i 0=false then(cX a).map (.rE i)else none
noncomputable def HA (g:bf) (sc:Scope) (ns:List Str) (i:Nat) (f a:Expr):Option S:=if jR g .next sc f=true then(jQ sc a).bind fun z=>(ix ns z.1).bind fun j=>if Nat.beq i j=false then some (.oK i j)else none else none
noncomputable def FO (aF M:List Str) (g:bf) (sc:Scope) (ns:List Str) (i:Nat) (t v:Expr):Option S:=(view v).cR.bind fun r=>(dR r.2.1).bind fun a=>if(jQ sc t).isSome=true/\noStar a=true then
  (Hz (cX aF M g 40 sc ns) g sc i r.1 a).or (HA g sc ns i r.1 a)else none
noncomputable def isAdd:Operator->Bool
 | .Add=>true
 |_=>false
noncomputable def LH (g:bf) (sc:Scope) (i:Nat) (t v:Expr):Option S:=(view v).cR.bind fun r=>if r.2.1.isEmpty=true/\jR g .set sc r.1=true/\(jQ sc t).isSome=true/\Nat.beq i 0=false then some (.CY i)else none
noncomputable def nameA:Arg->Str:=fun a=>a.arg
noncomputable def vt (ps:Arguments):Option Arg:=if ps.posonlyargs.isEmpty&&ps.vararg.isNone&&ps.kwonlyargs.isEmpty&&ps.kwarg.isNone&&ps.defaults.isEmpty&&ps.kw_defaults.isEmpty then dR ps.args else none
noncomputable def FP (e:Expr):Option (Int×Nat×Pos):=(view e).jO.bind fun r=>(cInt r.1).map fun i=>(i,r.2)
noncomputable def PW (b:Expr):Option ((Str×Pos)×(Str×Pos)×List Expr×Pos):=(view b).cR.bind fun r=>(view r.1).dF.bind fun t=>(view t.1).asName.map fun x=>(x,t.2,r.2)
noncomputable def PX (l:List Expr):Option ((Str×Nat×Pos)×Int×Nat×Pos):=(pair l).bind fun p=>(xG p.1).bind fun sep=>(FP p.2).map fun k=>(sep,k)
noncomputable def LI (a:Arg) (s:Scope) (p:Pos) (t:Str×Pos) (x sep:Str) (k:Int):Option (Str×Str):=
 if(x=nameA a/\x="n")/\t.1="split"/\k=1/\(t.2.endLine==p.line)=true/\s.names.lookup x=some .local/\(s.names.all fun y=> !(y.2== .cell)&& !(y.2== .free))=true/\s.kind= .function/\s.isCoroutine=false/\s.isGenerator=false/\ao x=true/\sep.length≠0 then some (x,sep)else none
noncomputable def LJ (ps:Arguments) (b:Expr) (s:Scope):Option (Str×Str):=(vt ps).bind fun a=>(PW b).bind fun m=>(PX m.2.2.1).bind fun n=>LI a s m.2.2.2 m.2.1 m.1.1 n.1.1 n.2.1
noncomputable def LK (e:Expr):Option (Arguments×Expr×Scope×Pos):=(view e).FH
theorem C4{e:Expr}{r:Arguments×Expr×Scope×Pos}(h:LK e=some r):e= .Lambda r.1 r.2.1 r.2.2.1 r.2.2.2:=fM (mk:=fun r:Arguments×Expr×Scope×Pos=>.Lambda r.1 r.2.1 r.2.2.1 r.2.2.2) (f:=EV.FH) (fun v=>by rcases v with⟨⟩ <;> first|rfl|trivial) h
noncomputable def LN (e:Expr):Option (Expr×List Expr×List Keyword×Pos):=(view e).FI
theorem C5{e:Expr}{r:Expr×List Expr×List Keyword×Pos}(h:LN e=some r):e= .Call r.1 r.2.1 r.2.2.1 r.2.2.2:=fM (mk:=fun r:Expr×List Expr×List Keyword×Pos=>.Call r.1 r.2.1 r.2.2.1 r.2.2.2) (f:=EV.FI) (fun v=>by rcases v with⟨⟩ <;> first|rfl|trivial) h
noncomputable def Sz (e:Expr):Option (Expr×Expr×List Comprehension×Scope×Pos):=(view e).LA
theorem HB{e:Expr}{r:Expr×Expr×List Comprehension×Scope×Pos}(h:Sz e=some r):e= .DictComp r.1 r.2.1 r.2.2.1 r.2.2.2.1 r.2.2.2.2:=fM (mk:=fun r:Expr×Expr×List Comprehension×Scope×Pos=>.DictComp r.1 r.2.1 r.2.2.1 r.2.2.2.1 r.2.2.2.2) (f:=EV.LA) (fun v=>by rcases v with⟨⟩ <;> first|rfl|trivial) h
noncomputable def SA (e:Expr):Option (Expr×Expr×Keyword×Pos):=(LN e).bind fun r=>(dR r.2.1).bind fun a=>(dR r.2.2.1).map fun k=>(r.1,a,k,r.2.2.2)
noncomputable def PY (g:bf) (cX:Expr->Option X) (sc:Scope) (m:Expr×Expr×Keyword×Pos) (sep:Str) (lp:Pos):Option (X×Str×Pos):=if jR g .sorted sc m.1=true/\noStar m.2.1=true/\m.2.2.1.arg=some "key" then(cX m.2.1).map fun x=>(x,sep,lp)else none
noncomputable def T7 (g:bf) (cX:Expr->Option X) (sc:Scope) (e:Expr):Option (X×Str×Pos):=(SA e).bind fun m=>(LK m.2.2.1.value).bind fun l=>(LJ l.1 l.2.1 l.2.2.1).bind fun sp=>PY g cX sc m sp.2 l.2.2.2
noncomputable def HC (g:bf) (sc:Scope) (ns:List Str) (i:Nat) (r:Expr×Expr×List Comprehension×Scope×Pos) (z:Str×Pos) (q:List Str×Comprehension) (k:X×Str×Pos) (kx:Str×Pos):Option S:=
 if z.1="parsed_qnames"/\q.2.ifs.isEmpty=true/\m9 sc r.2.2.2.1 ns q.1=true/\(z.2.line==r.2.2.2.2.line)=true/\(r.2.2.2.1.names.any fun y=>y.1==z.1&&(y.2== .local||y.2== .cell))=false/\q.1=[kx.1]/\ao kx.1=true then
  (cX [] [] g 40 (xF r.2.2.2.1 sc) (q.1++ns) r.2.1).map fun y=>.Hg i k.2.2 k.2.1 k.1 y else none
noncomputable def zx (aF M:List Str) (g:bf) (sc:Scope) (ns:List Str) (i:Nat) (t v:Expr):Option S:=(Sz v).bind fun r=>(jQ sc t).bind fun z=>(pX r.2.2.1).bind fun q=>(T7 g (cX aF M g 40 sc ns) sc q.2.iter).bind fun k=>(view r.1).asName.bind fun kx=>HC g sc ns i r z q k kx
noncomputable def zy (cX:Expr->Option X) (ns:List Str) (i:Nat) (l:List Expr):Option S:=if ix ns "pieces"=some i/\l.isEmpty=true then some (.CX i)else(aA cX l).map (.om i)
noncomputable def LP (M:List Str) (cX:Expr->Option X) (sc:Scope) (ns:List Str) (i:Nat) (v:Expr):Option S:=(view v).zh.bind fun r=>if isAdd r.2.1=true/\ng M sc ns r.1=some i then(cX r.2.2.1).map (.tV i)else none
noncomputable def vz (M:List Str) (cX:Expr->Option X) (sc:Scope) (ns:List Str) (i:Nat) (v:Expr):Option S:=
 ((view v).bH.bind fun r=>if r.1.all noStar=true then zy cX ns i r.1 else none).or (LP M cX sc ns i v)
noncomputable def HD (sc:Scope) (ns:List Str) (ts:List Expr):Option ((Str×Pos)×(Str×Pos)×Nat×Nat):=(pair ts).bind fun t=>(jQ sc t.1).bind fun a=>(jQ sc t.2).bind fun b=>(ix ns a.1).bind fun i=>(ix ns b.1).map fun j=>(a,b,i,j)
noncomputable def C6 (cX:Expr->Option X) (sc:Scope) (ns:List Str) (ts vs:List Expr):Option S:=(HD sc ns ts).bind fun n=>(pair vs).bind fun v=>
 if n.1.1≠n.2.1.1/\(n.1.2.line==n.2.1.2.line)=true/\noStar v.1=true/\noStar v.2=true/\foldedForSure 8 v.1=false/\constantsAlone 8 v.1=false then(cX v.1).bind fun x=>(cX v.2).map fun y=>.CV n.2.2.1 n.2.2.2 x y else none
noncomputable def LQ (cX:Expr->Option X) (sc:Scope) (ns:List Str) (l:List Expr) (v:Expr):Option S:=(view v).jd.bind fun q=>C6 cX sc ns l q.1
noncomputable def LS (cX:Expr->Option X) (sc:Scope) (ns:List Str) (l:List Expr) (v:Expr):Option S:=(aA (fm sc ns) l).bind fun l=>(cX v).map fun e=>.tU l e
noncomputable def vA (cX:Expr->Option X) (sc:Scope) (ns:List Str) (t v:Expr):Option S:=(view t).jd.bind fun r=>if nh v=true then LQ cX sc ns r.1 v else LS cX sc ns r.1 v
noncomputable def LU (cX:Expr->Option X) (i:Nat) (q v:Expr):Option S:=(cX v).bind fun e=>if dH q=true then none else(cX q).map fun y=>.oset i y e
noncomputable def vB (M:List Str) (cX:Expr->Option X) (sc:Scope) (ns:List Str) (t v:Expr):Option S:=(view t).oR.bind fun r=>(ng M sc ns r.1).bind fun i=>LU cX i r.2.1 v
noncomputable def LV (cX:Expr->Option X) (n:Str) (v:Expr):Option S:=(view v).bH.bind fun q=>if q.1.all noStar=true then(aA cX q.1).map (.anew n)else none
noncomputable def zz (aF:List Str) (cX:Expr->Option X) (sc:Scope) (ns:List Str) (t v:Expr):Option S:=(view t).dF.bind fun r=>if kP sc ns r.1=true then(if aF.contains r.2.1=true then LV cX r.2.1 v else(cX v).map (.dQ r.2.1))else none
noncomputable def LW (cX:Expr->Option X) (i:Nat) (v:Expr):Option S:=(cX v).map fun e=>.asg i e
noncomputable def LX (aF M:List Str) (g:bf) (sc:Scope) (ns:List Str) (t v:Expr):Option S:=(fm sc ns t).bind fun i=>(FO aF M g sc ns i t v).or ((LH g sc i t v).or ((zx aF M g sc ns i t v).or (LW (cX aF M g 40 sc ns) i v)))
noncomputable def zA (aF M:List Str) (cX:Expr->Option X) (sc:Scope) (ns:List Str) (t v:Expr):Option S:=(zz aF cX sc ns t v).or ((vB M cX sc ns t v).or (vA cX sc ns t v))
noncomputable def LY (aF M:List Str) (g:bf) (sc:Scope) (ns:List Str) (t v:Expr):Option S:=
 ((ng M sc ns t).elim (LX aF M g sc ns t v) fun i=>vz M (cX aF M g 40 sc ns) sc ns i v).or (zA aF M (cX aF M g 40 sc ns) sc ns t v)
noncomputable def LZ (cX:Expr->Option X) (sc:Scope) (ns:List Str) (e:Expr):Option S:=(view e).cR.bind fun r=>(view r.1).dF.bind fun t=>(dR r.2.1).bind fun a=>(jQ sc t.1).bind fun z=>(ix ns z.1).bind fun i=>if t.2.1="add"/\(t.2.2.endLine==r.2.2.line)=true/\noStar a=true then(cX a).map (.za i)else none
noncomputable def L1 (f:Expr->Option X) (l:Lv) (m:Str) (as:List Expr):Option S:=(dR as).bind fun a=>if m="append"/\noStar a=true then(f a).map (S.eF l)else none
noncomputable def PZ (l:Lv) (m:Str) (as:List Expr):Option S:=if m="pop"/\as.isEmpty=true then l.t8.map fun n=>S.xD (.at_ n)else none
noncomputable def zB (aF M:List Str) (f:Expr->Option X) (sc:Scope) (ns:List Str) (e:Expr):Option S:=(view e).cR.bind fun r=>(view r.1).dF.bind fun t=>(oq aF M sc ns t.1).bind fun l=>if(t.2.2.endLine==r.2.2.line)=true then(L1 f l t.2.1 r.2.1).or (PZ l t.2.1 r.2.1)else none
noncomputable def HE (f:Expr->Option X) (e:Expr):Option S:=if jS e=false then(f e).map S.expr else none
noncomputable def FQ (aF M:List Str) (g:bf) (sc:Scope) (ns:List Str) (e:Expr):Option S:=(zB aF M (cX aF M g 40 sc ns) sc ns e).or ((LZ (cX aF M g 40 sc ns) sc ns e).or (HE (cX aF M g 40 sc ns) e))
noncomputable def SV.zC:SV->Option (Expr×Pos)
 | .expr e p=>some (e,p)
 |_=>none
noncomputable def SV.FT:SV->Option (Expr×Pos)
 | .ret (some e) p=>some (e,p)
 |_=>none
noncomputable def FU (st:Stmt):Option (Expr×Pos):=(fN st).zC
noncomputable def retS (st:Stmt):Option (Expr×Pos):=(fN st).FT
noncomputable def zD:ExceptHandler->Option (Expr×List Stmt×Pos)
 | .ExceptHandler (some e) none b p=>some (e,b,p)
 |_=>none
noncomputable def zE (sc:Scope) (ns:List Str) (t:Expr):Option xC:=((fm sc ns t).map .one).or ((view t).jd.bind fun r=>(pair r.1).bind fun p=>(fm sc ns p.1).bind fun i=>(fm sc ns p.2).map fun j=>.two i j)
noncomputable def P0 (aF:List Str) (sc:Scope) (ns:List Str) (e:Expr):Option (Str×Str):=(view e).cR.bind fun r=>(view r.1).dF.bind fun t=>(dR r.2.1).bind fun a=>(oq aF [] sc ns a).bind fun l=>l.t8.bind fun n=>if kP sc ns t.1=true/\(t.2.2.endLine==r.2.2.line)=true then some (t.2.1,n)else none
noncomputable def FW (e:Expr):Option ((Expr×Str×Pos)×Expr×Pos):=(view e).cR.bind fun c=>(view c.1).dF.bind fun a=>(dR c.2.1).map fun x=>(a,x,c.2.2)
noncomputable def FY (sc:Scope) (e:Expr):Option (Expr×(Str×Pos)×Pos):=(view e).cR.bind fun c=>(dR c.2.1).bind fun x=>(jQ sc x).map fun s=>(c.1,s,c.2.2)
noncomputable def L3 (sc:Scope) (b:List Stmt):Option ((Str×Pos)×(Pos×Pos×Pos)×Expr×(Str×Pos)×Pos):=(dR b).bind fun st=>(FU st).bind fun e=>(FW e.1).bind fun c=>(jQ sc c.1.1).bind fun t=>(FY sc c.2.1).bind fun d=>
 if c.1.2.1="append"/\(c.1.2.2.endLine==c.2.2.line)=true/\bM d.1=false then some (t,(c.1.2.2,c.2.2,e.2),d)else none
noncomputable def L4 (sc:Scope) (hs:List ExceptHandler):Option ((Str×Pos)×Pos×Pos×Pos):=(dR hs).bind fun h=>(zD h).bind fun hh=>(view hh.1).asName.bind fun ex=>(dR hh.2.1).bind fun rs=>(retS rs).bind fun re=>(jQ sc re.1).bind fun t=>
 if ex.1="StopIteration"/\sc.names.lookup ("StopIteration":Str)=some .globalImplicit then some (t,ex.2,re.2,hh.2.2)else none
noncomputable def HG (aF M:List Str) (g:bf) (sc:Scope) (ns:List Str) (b:List Stmt) (hs:List ExceptHandler):Option S:=(L3 sc b).bind fun r=>(L4 sc hs).bind fun q=>if q.1.1=r.1.1 then(ix ns r.1.1).bind fun i=>(ix ns r.2.2.2.1.1).bind fun j=>(cX aF M g 40 sc ns r.2.2.1).map fun x=>.ju i x j else none
noncomputable def L5 (aF M:List Str) (sc:Scope) (ns:List Str) (ts:List Expr):Option S:=(dR ts).bind fun t=>(view t).oR.bind fun r=>(tZ r.2.1).bind fun q=>if(q.1.isNone&&q.2.1.isNone)=true then((oq aF M sc ns r.1).bind Lv.t8).map .CW else none
noncomputable def P1 (hs:List ExceptHandler):Bool:=(dR hs).any fun h=>(zD h).any fun r=>nh r.1
mutual
noncomputable def cS (aF M:List Str) (g:bf):Nat->Scope->List Str->SV->Option S
 |0,_,_,_=>none
 |n+1,sc,ns,v=>match v with
  | .asg ts v _=>match ts with
   |[t]=>LY aF M g sc ns t v
   |t::t'::ts=>(aA (fm sc ns) (t::t'::ts)).bind fun l=>(cX aF M g 40 sc ns v).map fun e=>.CU l e
   |[]=>none
  | .aug t op v _=>(fm sc ns t).bind fun i=>(cX aF M g 40 sc ns v).map fun e=>.aug i op e
  | .ifs t a b _=>(cT aF M g sc ns t).bind fun x=>(zF aF M g n sc ns a).bind fun y=>(zF aF M g n sc ns b).map fun z=>.ite x y z
  | .rC t b _=>(cX aF M g 40 sc ns t).bind fun x=>(zF aF M g n sc ns b).map fun y=>.rC x y
  | .eE v it b _=>(zE sc ns v).bind fun t=>(zF aF M g n sc ns b).bind fun y=>(P0 aF sc ns it).elim (if iu it=true then none else(cX aF M g 40 sc ns it).map fun x=>.eE t x y) fun r=>some (.oM r.1 r.2 t y)
  | .brk _=>none
  | .del ts _=>L5 aF M sc ns ts
  | .ret e _=>match e with
   |some e=>(cX aF M g 40 sc ns e).map .ret
   |none=>some (.ret (.c (.c .none)))
  | .expr e _=>FQ aF M g sc ns e
  | .zw b hs _=>(HG aF M g sc ns b hs).or (if P1 hs=true then(zF aF M g n sc ns b).map .tryAll else none)
  | .no=>none
noncomputable def zF (aF M:List Str) (g:bf):Nat->Scope->List Str->List Stmt->Option (List S)
 |0,_,_,_=>none
 |n+1,sc,ns,l=>match l with
  |[]=>some []
  |s::r=>(zF aF M g n sc ns r).map fun y=>.fz (Hy M sc ns s)::(cS aF M g n sc ns (fN s)).getD .bad::y
end
noncomputable def t9 (args:List Str) (sc:Scope):List Str:=args++(sc.names.filterMap fun(n,k)=>if(k== .local||k== .cell||k== .free)&& !args.contains n then some n else none)
noncomputable def P4 (e:Expr):List Str:=((view e).cR.bind fun r=>(view r.1).dF.bind fun t=>(view t.1).asName.bind fun x=>if t.2.1="append"\/t.2.1="pop" then some x.1 else none).toList
mutual
noncomputable def P5:Nat->SV->List Str
 |0,_=>[]
 |n+1,st=>match st with
  | .expr e _=>P4 e
  | .asg ts _ _=>((dR ts).bind fun t=>(view t).oR.bind fun r=>(view r.1).asName.map fun x=>x.1).toList
  | .ifs _ a b _=>lN n a++lN n b
  | .rC _ a _=>lN n a
  | .eE _ _ a _=>lN n a
  | .zw a _ _=>lN n a
  |_=>[]
noncomputable def lN:Nat->List Stmt->List Str
 |0,_=>[]
 |n+1,l=>match l with
  |[]=>[]
  |s::r=>P5 n (fN s)++lN n r
end
noncomputable def dedup:List Str->List Str
 |[]=>[]
 |x::l=>if l.contains x then dedup l else x::dedup l
noncomputable def VW (aF:List Str) (g:bf) (params:Arguments) (body:List Stmt) (sc:Scope) (df kd:List V):Option Fn:=
 let ps:=params.args.map (·.arg)
 let ks:=params.kwonlyargs.map (·.arg)
 if params.posonlyargs.isEmpty&&params.vararg.isNone&&params.kwarg.isNone&&decide (sc.kind= .function)&& !sc.isGenerator&& !sc.isCoroutine then
  (zF aF (dedup ("pieces"::lN 100 body)) g 200 sc (t9 (ps++ks) sc) body).map fun b=>⟨t9 (ps++ks) sc,ps.length,df,kd,(t9 (ps++ks) sc).head?.any fun x=>sc.names.lookup x==some .local,b⟩
 else none
end Mine.Internal
end
noncomputable section
open PySem PySem.W PyProof.Rows
namespace Mine.Internal
noncomputable def FZ:Pos:=⟨241,71,241,96⟩
noncomputable def aU:List (Str×V):=[((⟨⟨[33]⟩⟩:Str),(V.c (.int 54))),((⟨⟨[33,61]⟩⟩:Str),(V.c (.int 28))),((⟨⟨[37]⟩⟩:Str),(V.c (.int 24))),((⟨⟨[37,61]⟩⟩:Str),(V.c (.int 40))),((⟨⟨[38]⟩⟩:Str),(V.c (.int 19))),((⟨⟨[38,61]⟩⟩:Str),(V.c (.int 41))),((⟨⟨[40]⟩⟩:Str),(V.c (.int 7))),((⟨⟨[41]⟩⟩:Str),(V.c (.int 8))),((⟨⟨[42]⟩⟩:Str),(V.c (.int 16))),((⟨⟨[42,42]⟩⟩:Str),(V.c (.int 35))),((⟨⟨[42,42,61]⟩⟩:Str),(V.c (.int 46))),((⟨⟨[42,61]⟩⟩:Str),(V.c (.int 38))),((⟨⟨[43]⟩⟩:Str),(V.c (.int 14))),((⟨⟨[43,61]⟩⟩:Str),(V.c (.int 36))),((⟨⟨[44]⟩⟩:Str),(V.c (.int 12))),((⟨⟨[45]⟩⟩:Str),(V.c (.int 15))),((⟨⟨[45,61]⟩⟩:Str),(V.c (.int 37))),((⟨⟨[45,62]⟩⟩:Str),(V.c (.int 51))),((⟨⟨[46]⟩⟩:Str),(V.c (.int 23))),((⟨⟨[46,46,46]⟩⟩:Str),(V.c (.int 52))),((⟨⟨[47]⟩⟩:Str),(V.c (.int 17))),((⟨⟨[47,47]⟩⟩:Str),(V.c (.int 47))),((⟨⟨[47,47,61]⟩⟩:Str),(V.c (.int 48))),((⟨⟨[47,61]⟩⟩:Str),(V.c (.int 39))),((⟨⟨[58]⟩⟩:Str),(V.c (.int 11))),((⟨⟨[58,61]⟩⟩:Str),(V.c (.int 53))),((⟨⟨[59]⟩⟩:Str),(V.c (.int 13))),((⟨⟨[60]⟩⟩:Str),(V.c (.int 20))),((⟨⟨[60,60]⟩⟩:Str),(V.c (.int 33))),((⟨⟨[60,60,61]⟩⟩:Str),(V.c (.int 44))),((⟨⟨[60,61]⟩⟩:Str),(V.c (.int 29))),((⟨⟨[61]⟩⟩:Str),(V.c (.int 22))),((⟨⟨[61,61]⟩⟩:Str),(V.c (.int 27))),((⟨⟨[62]⟩⟩:Str),(V.c (.int 21))),((⟨⟨[62,61]⟩⟩:Str),(V.c (.int 30))),((⟨⟨[62,62]⟩⟩:Str),(V.c (.int 34))),((⟨⟨[62,62,61]⟩⟩:Str),(V.c (.int 45))),((⟨⟨[64]⟩⟩:Str),(V.c (.int 49))),((⟨⟨[64,61]⟩⟩:Str),(V.c (.int 50))),((⟨⟨[91]⟩⟩:Str),(V.c (.int 9))),((⟨⟨[93]⟩⟩:Str),(V.c (.int 10))),((⟨⟨[94]⟩⟩:Str),(V.c (.int 32))),((⟨⟨[94,61]⟩⟩:Str),(V.c (.int 43))),((⟨⟨[123]⟩⟩:Str),(V.c (.int 25))),((⟨⟨[124]⟩⟩:Str),(V.c (.int 18))),((⟨⟨[124,61]⟩⟩:Str),(V.c (.int 42))),((⟨⟨[125]⟩⟩:Str),(V.c (.int 26))),((⟨⟨[126]⟩⟩:Str),(V.c (.int 31)))]
noncomputable def C7:List (Str×V):=[((⟨⟨[104,116,116,112,58,47,47,119,119,119,46,119,51,46,111,114,103,47,88,77,76,47,49,57,57,56,47,110,97,109,101,115,112,97,99,101]⟩⟩:Str),(V.c (.str ⟨⟨[120,109,108]⟩⟩))),((⟨⟨[104,116,116,112,58,47,47,119,119,119,46,119,51,46,111,114,103,47,49,57,57,57,47,120,104,116,109,108]⟩⟩:Str),(V.c (.str ⟨⟨[104,116,109,108]⟩⟩))),((⟨⟨[104,116,116,112,58,47,47,119,119,119,46,119,51,46,111,114,103,47,49,57,57,57,47,48,50,47,50,50,45,114,100,102,45,115,121,110,116,97,120,45,110,115,35]⟩⟩:Str),(V.c (.str ⟨⟨[114,100,102]⟩⟩))),((⟨⟨[104,116,116,112,58,47,47,115,99,104,101,109,97,115,46,120,109,108,115,111,97,112,46,111,114,103,47,119,115,100,108,47]⟩⟩:Str),(V.c (.str ⟨⟨[119,115,100,108]⟩⟩))),((⟨⟨[104,116,116,112,58,47,47,119,119,119,46,119,51,46,111,114,103,47,50,48,48,49,47,88,77,76,83,99,104,101,109,97]⟩⟩:Str),(V.c (.str ⟨⟨[120,115]⟩⟩))),((⟨⟨[104,116,116,112,58,47,47,119,119,119,46,119,51,46,111,114,103,47,50,48,48,49,47,88,77,76,83,99,104,101,109,97,45,105,110,115,116,97,110,99,101]⟩⟩:Str),(V.c (.str ⟨⟨[120,115,105]⟩⟩))),((⟨⟨[104,116,116,112,58,47,47,112,117,114,108,46,111,114,103,47,100,99,47,101,108,101,109,101,110,116,115,47,49,46,49,47]⟩⟩:Str),(V.c (.str ⟨⟨[100,99]⟩⟩)))]
noncomputable def aa:aM:=⟨[(112,aU),(120,C7)],
 [(100,⟨⟨[95,95,105,110,105,116,95,95]⟩⟩,55),(100,⟨⟨[105,110,100,101,110,116,95,108,101,118,101,108]⟩⟩,69),(100,⟨⟨[101,113,117,97,108]⟩⟩,76),(226,⟨⟨[95,95,105,110,105,116,95,95]⟩⟩,143),(226,⟨⟨[95,105,116,101,114,95,110,97,109,101,115,112,97,99,101,115]⟩⟩,151),(226,⟨⟨[95,113,110,97,109,101]⟩⟩,166),(226,⟨⟨[100,97,116,97]⟩⟩,173),(226,⟨⟨[95,102,108,117,115,104]⟩⟩,182),(226,⟨⟨[115,116,97,114,116]⟩⟩,196),(226,⟨⟨[95,115,116,97,114,116]⟩⟩,202),(226,⟨⟨[101,110,100]⟩⟩,209)],
 [(100,⟨⟨[83]⟩⟩,(.c (.str ⟨⟨[32]⟩⟩))),(100,⟨⟨[84]⟩⟩,(.c (.str ⟨⟨[9]⟩⟩)))],
 [(100,55),(226,143)],
 [(100,⟨⟨[114,97,119]⟩⟩,()),(100,⟨⟨[110]⟩⟩,()),(100,⟨⟨[110,116]⟩⟩,()),(100,⟨⟨[110,111,114,109]⟩⟩,()),(100,⟨⟨[105,115,95,115,105,109,112,108,101]⟩⟩,()),(100,⟨⟨[95,119,114,105,116,101]⟩⟩,()),(100,⟨⟨[95,100,97,116,97]⟩⟩,()),(100,⟨⟨[95,119,105,116,104,95,99,111,109,109,101,110,116,115]⟩⟩,()),(100,⟨⟨[95,115,116,114,105,112,95,116,101,120,116]⟩⟩,()),(100,⟨⟨[95,101,120,99,108,117,100,101,95,97,116,116,114,115]⟩⟩,()),(100,⟨⟨[95,101,120,99,108,117,100,101,95,116,97,103,115]⟩⟩,()),(100,⟨⟨[95,114,101,119,114,105,116,101,95,112,114,101,102,105,120,101,115]⟩⟩,()),(100,⟨⟨[95,113,110,97,109,101,95,97,119,97,114,101,95,116,97,103,115]⟩⟩,()),(100,⟨⟨[95,102,105,110,100,95,113,110,97,109,101,95,97,119,97,114,101,95,97,116,116,114,115]⟩⟩,()),(100,⟨⟨[95,100,101,99,108,97,114,101,100,95,110,115,95,115,116,97,99,107]⟩⟩,()),(100,⟨⟨[95,110,115,95,115,116,97,99,107]⟩⟩,()),(100,⟨⟨[95,112,114,101,102,105,120,95,109,97,112]⟩⟩,()),(100,⟨⟨[95,112,114,101,115,101,114,118,101,95,115,112,97,99,101]⟩⟩,()),(100,⟨⟨[95,112,101,110,100,105,110,103,95,115,116,97,114,116]⟩⟩,()),(100,⟨⟨[95,114,111,111,116,95,115,101,101,110]⟩⟩,()),(100,⟨⟨[95,114,111,111,116,95,100,111,110,101]⟩⟩,()),(100,⟨⟨[95,105,103,110,111,114,101,100,95,100,101,112,116,104]⟩⟩,()),(226,⟨⟨[114,97,119]⟩⟩,()),(226,⟨⟨[110]⟩⟩,()),(226,⟨⟨[110,116]⟩⟩,()),(226,⟨⟨[110,111,114,109]⟩⟩,()),(226,⟨⟨[105,115,95,115,105,109,112,108,101]⟩⟩,()),(226,⟨⟨[95,119,114,105,116,101]⟩⟩,()),(226,⟨⟨[95,100,97,116,97]⟩⟩,()),(226,⟨⟨[95,119,105,116,104,95,99,111,109,109,101,110,116,115]⟩⟩,()),(226,⟨⟨[95,115,116,114,105,112,95,116,101,120,116]⟩⟩,()),(226,⟨⟨[95,101,120,99,108,117,100,101,95,97,116,116,114,115]⟩⟩,()),(226,⟨⟨[95,101,120,99,108,117,100,101,95,116,97,103,115]⟩⟩,()),(226,⟨⟨[95,114,101,119,114,105,116,101,95,112,114,101,102,105,120,101,115]⟩⟩,()),(226,⟨⟨[95,113,110,97,109,101,95,97,119,97,114,101,95,116,97,103,115]⟩⟩,()),(226,⟨⟨[95,102,105,110,100,95,113,110,97,109,101,95,97,119,97,114,101,95,97,116,116,114,115]⟩⟩,()),(226,⟨⟨[95,100,101,99,108,97,114,101,100,95,110,115,95,115,116,97,99,107]⟩⟩,()),(226,⟨⟨[95,110,115,95,115,116,97,99,107]⟩⟩,()),(226,⟨⟨[95,112,114,101,102,105,120,95,109,97,112]⟩⟩,()),(226,⟨⟨[95,112,114,101,115,101,114,118,101,95,115,112,97,99,101]⟩⟩,()),(226,⟨⟨[95,112,101,110,100,105,110,103,95,115,116,97,114,116]⟩⟩,()),(226,⟨⟨[95,114,111,111,116,95,115,101,101,110]⟩⟩,()),(226,⟨⟨[95,114,111,111,116,95,100,111,110,101]⟩⟩,()),(226,⟨⟨[95,105,103,110,111,114,101,100,95,100,101,112,116,104]⟩⟩,())],
 111,174,226,[⟨⟨[95,100,97,116,97]⟩⟩,⟨⟨[95,100,101,99,108,97,114,101,100,95,110,115,95,115,116,97,99,107]⟩⟩,⟨⟨[95,110,115,95,115,116,97,99,107]⟩⟩,⟨⟨[95,112,114,101,115,101,114,118,101,95,115,112,97,99,101]⟩⟩],151,FZ⟩
noncomputable def cM:Fn:=⟨[⟨⟨[115,101,108,102]⟩⟩,⟨⟨[119,115]⟩⟩,⟨⟨[83]⟩⟩,⟨⟨[84]⟩⟩,⟨⟨[99,111,117,110,116]⟩⟩,⟨⟨[98]⟩⟩,⟨⟨[110]⟩⟩,⟨⟨[110,116]⟩⟩,⟨⟨[99,104]⟩⟩],2,[],[],true,[
 (.fz [4]),
 (.dQ ⟨⟨[114,97,119]⟩⟩ (.v 1)),
 (.fz []),
 (.CV 2 3 (.attr (.c (.c (.ad 100))) ⟨⟨[83]⟩⟩) (.attr (.c (.c (.ad 100))) ⟨⟨[84]⟩⟩)),
 (.fz []),
 (.om 4 []),
 (.fz []),
 (.CU [5,6,7] (.c (.c (.int 0)))),
 (.fz []),
 (.eE (.one 8) (.sat ⟨⟨[114,97,119]⟩⟩) [(.fz []),(.ite (.cmp .Eq (.v 8) (.v 2)) [(.fz []),(.asg 6 (.bin .Add (.v 6) (.c (.c (.int 1))))),(.fz []),(.asg 5 (.bin .Add (.v 5) (.c (.c (.int 1)))))] [(.fz []),(.ite (.cmp .Eq (.v 8) (.v 3)) [(.fz []),(.asg 6 (.bin .Add (.v 6) (.c (.c (.int 1))))),(.fz []),(.asg 7 (.bin .Add (.v 7) (.c (.c (.int 1))))),(.fz []),(.ite (.cmp .GtE (.v 5) (.gX (.var 4))) [(.fz []),(.tV 4 (.bin .Mult (.list [(.c (.c (.int 0)))]) (.bin .Add (.bin .Sub (.v 5) (.gX (.var 4))) (.c (.c (.int 1))))))] []),(.fz []),(.oset 4 (.v 5) (.bin .Add (.mY (.var 4) (.v 5)) (.c (.c (.int 1))))),(.fz []),(.asg 5 (.c (.c (.int 0))))] [(.fz []),.bad])])]),
 (.fz [4]),
 (.dQ ⟨⟨[110]⟩⟩ (.v 6)),
 (.fz [4]),
 (.dQ ⟨⟨[110,116]⟩⟩ (.v 7)),
 (.fz [4]),
 (.dQ ⟨⟨[110,111,114,109]⟩⟩ (.tup [(.call (.c (.c (.fn .tuple))) [(.v 4)]),(.v 5)])),
 (.fz [4]),
 (.dQ ⟨⟨[105,115,95,115,105,109,112,108,101]⟩⟩ (.cmp .LtE (.gX (.var 4)) (.c (.c (.int 1)))))]⟩
noncomputable def fP:Fn:=⟨[⟨⟨[115,101,108,102]⟩⟩,⟨⟨[116,97,98,115,105,122,101]⟩⟩,⟨⟨[99,111,117,110,116]⟩⟩,⟨⟨[116,114,97,105,108,105,110,103]⟩⟩,⟨⟨[105,108]⟩⟩,⟨⟨[105]⟩⟩],2,[],[],true,[
 (.fz []),
 (.tU [2,3] (.sat ⟨⟨[110,111,114,109]⟩⟩)),
 (.fz []),
 (.asg 4 (.c (.c (.int 0)))),
 (.fz []),
 (.eE (.one 5) (.call (.c (.c (.fn .range))) [(.v 1),(.call (.c (.c (.fn .len))) [(.v 2)])]) [(.fz []),(.asg 4 (.bin .Add (.v 4) (.bin .Mult (.bin .FloorDiv (.v 5) (.v 1)) (.sub (.v 2) (.v 5)))))]),
 (.fz []),
 (.ret (.bin .Add (.v 3) (.bin .Mult (.v 1) (.bin .Add (.v 4) (.sat ⟨⟨[110,116]⟩⟩)))))]⟩
noncomputable def ni:Fn:=⟨[⟨⟨[115,101,108,102]⟩⟩,⟨⟨[111,116,104,101,114]⟩⟩],2,[],[],true,[
 (.fz []),
 (.ret (.cmp .Eq (.sat ⟨⟨[110,111,114,109]⟩⟩) (.attr (.v 1) ⟨⟨[110,111,114,109]⟩⟩)))]⟩
noncomputable def ou:Fn:=⟨[⟨⟨[115,101,108,102]⟩⟩,⟨⟨[119,114,105,116,101]⟩⟩,⟨⟨[119,105,116,104,95,99,111,109,109,101,110,116,115]⟩⟩,⟨⟨[115,116,114,105,112,95,116,101,120,116]⟩⟩,⟨⟨[114,101,119,114,105,116,101,95,112,114,101,102,105,120,101,115]⟩⟩,⟨⟨[113,110,97,109,101,95,97,119,97,114,101,95,116,97,103,115]⟩⟩,⟨⟨[113,110,97,109,101,95,97,119,97,114,101,95,97,116,116,114,115]⟩⟩,⟨⟨[101,120,99,108,117,100,101,95,97,116,116,114,115]⟩⟩,⟨⟨[101,120,99,108,117,100,101,95,116,97,103,115]⟩⟩],2,[],[(.c (.bool false)),(.c (.bool false)),(.c (.bool false)),(.c .none),(.c .none),(.c .none),(.c .none)],true,[
 (.fz []),
 (.dQ ⟨⟨[95,119,114,105,116,101]⟩⟩ (.v 1)),
 (.fz []),
 (.anew ⟨⟨[95,100,97,116,97]⟩⟩ []),
 (.fz []),
 (.dQ ⟨⟨[95,119,105,116,104,95,99,111,109,109,101,110,116,115]⟩⟩ (.v 2)),
 (.fz []),
 (.dQ ⟨⟨[95,115,116,114,105,112,95,116,101,120,116]⟩⟩ (.v 3)),
 (.fz []),
 (.dQ ⟨⟨[95,101,120,99,108,117,100,101,95,97,116,116,114,115]⟩⟩ (.tT (.v 7) (.call (.c (.c (.fn .set))) [(.v 7)]) (.c (.c .none)))),
 (.fz []),
 (.dQ ⟨⟨[95,101,120,99,108,117,100,101,95,116,97,103,115]⟩⟩ (.tT (.v 8) (.call (.c (.c (.fn .set))) [(.v 8)]) (.c (.c .none)))),
 (.fz []),
 (.dQ ⟨⟨[95,114,101,119,114,105,116,101,95,112,114,101,102,105,120,101,115]⟩⟩ (.v 4)),
 (.fz []),
 (.ite (.v 5) [(.fz []),(.dQ ⟨⟨[95,113,110,97,109,101,95,97,119,97,114,101,95,116,97,103,115]⟩⟩ (.call (.c (.c (.fn .set))) [(.v 5)]))] [(.fz []),(.dQ ⟨⟨[95,113,110,97,109,101,95,97,119,97,114,101,95,116,97,103,115]⟩⟩ (.c (.c .none)))]),
 (.fz []),
 (.ite (.v 6) [(.fz []),(.dQ ⟨⟨[95,102,105,110,100,95,113,110,97,109,101,95,97,119,97,114,101,95,97,116,116,114,115]⟩⟩ (.attr (.call (.c (.c (.fn .set))) [(.v 6)]) ⟨⟨[105,110,116,101,114,115,101,99,116,105,111,110]⟩⟩))] [(.fz []),(.dQ ⟨⟨[95,102,105,110,100,95,113,110,97,109,101,95,97,119,97,114,101,95,97,116,116,114,115]⟩⟩ (.c (.c .none)))]),
 (.fz []),
 (.anew ⟨⟨[95,100,101,99,108,97,114,101,100,95,110,115,95,115,116,97,99,107]⟩⟩ [(.list [(.tup [(.c (.c (.str ⟨⟨[104,116,116,112,58,47,47,119,119,119,46,119,51,46,111,114,103,47,88,77,76,47,49,57,57,56,47,110,97,109,101,115,112,97,99,101]⟩⟩))),(.c (.c (.str ⟨⟨[120,109,108]⟩⟩)))])])]),
 (.fz []),
 (.anew ⟨⟨[95,110,115,95,115,116,97,99,107]⟩⟩ []),
 (.fz []),
 (.ite (.not (.v 4)) [(.fz []),(.eF (.at_ ⟨⟨[95,110,115,95,115,116,97,99,107]⟩⟩) (.items false (.c (.c (.gd 120)))))] []),
 (.fz []),
 (.eF (.at_ ⟨⟨[95,110,115,95,115,116,97,99,107]⟩⟩) (.list [])),
 (.fz []),
 (.dQ ⟨⟨[95,112,114,101,102,105,120,95,109,97,112]⟩⟩ (.dict [] [])),
 (.fz []),
 (.anew ⟨⟨[95,112,114,101,115,101,114,118,101,95,115,112,97,99,101]⟩⟩ [(.c (.c (.bool false)))]),
 (.fz []),
 (.dQ ⟨⟨[95,112,101,110,100,105,110,103,95,115,116,97,114,116]⟩⟩ (.c (.c .none))),
 (.fz []),
 (.dQ ⟨⟨[95,114,111,111,116,95,115,101,101,110]⟩⟩ (.c (.c (.bool false)))),
 (.fz []),
 (.dQ ⟨⟨[95,114,111,111,116,95,100,111,110,101]⟩⟩ (.c (.c (.bool false)))),
 (.fz []),
 (.dQ ⟨⟨[95,105,103,110,111,114,101,100,95,100,101,112,116,104]⟩⟩ (.c (.c (.int 0))))]⟩
noncomputable def rN:Fn:=⟨[⟨⟨[115,101,108,102]⟩⟩,⟨⟨[113,110,97,109,101]⟩⟩,⟨⟨[117,114,105]⟩⟩,⟨⟨[116,97,103]⟩⟩,⟨⟨[112,114,101,102,105,120,101,115,95,115,101,101,110]⟩⟩,⟨⟨[117]⟩⟩,⟨⟨[112,114,101,102,105,120]⟩⟩],3,[(.c .none)],[],true,[
 (.fz []),
 (.ite (.cmp .Is (.v 2) (.c (.c .none))) [(.fz []),(.tU [2,3] (.tT (.cmp .Eq (.slc (.v 1) none (some (.c (.c (.int 1))))) (.c (.c (.str ⟨⟨[123]⟩⟩)))) (.bB (.slc (.v 1) (some (.c (.c (.int 1)))) none) ⟨⟨[114,115,112,108,105,116]⟩⟩ [(.c (.c (.str ⟨⟨[125]⟩⟩))),(.c (.c (.int 1)))]) (.tup [(.c (.c (.str ⟨⟨[]⟩⟩))),(.v 1)])))] [(.fz []),(.asg 3 (.v 1))]),
 (.fz []),
 (.CY 4),
 (.fz []),
 (.oM ⟨⟨[95,105,116,101,114,95,110,97,109,101,115,112,97,99,101,115]⟩⟩ ⟨⟨[95,100,101,99,108,97,114,101,100,95,110,115,95,115,116,97,99,107]⟩⟩ (.two 5 6) [(.fz []),(.ite (.and [(.cmp .Eq (.v 5) (.v 2)),(.xB (.v 6) 4)]) [(.fz []),(.ret (.tup [(.tT (.v 6) (.mX [(.fmt (.v 6)),(.c (.c (.str ⟨⟨[58]⟩⟩))),(.fmt (.v 3))]) (.v 3)),(.v 3),(.v 2)]))] []),(.fz []),(.za 4 (.v 6))]),
 (.fz []),
 (.ite (.sat ⟨⟨[95,114,101,119,114,105,116,101,95,112,114,101,102,105,120,101,115]⟩⟩) [(.fz []),(.ite (.cmp .In (.v 2) (.sat ⟨⟨[95,112,114,101,102,105,120,95,109,97,112]⟩⟩)) [(.fz []),(.asg 6 (.sub (.sat ⟨⟨[95,112,114,101,102,105,120,95,109,97,112]⟩⟩) (.v 2)))] [(.fz []),.bad]),(.fz []),(.expr (.bB (.mY (.at_ ⟨⟨[95,100,101,99,108,97,114,101,100,95,110,115,95,115,116,97,99,107]⟩⟩) (.neg (.c (.c (.int 1))))) ⟨⟨[97,112,112,101,110,100]⟩⟩ [(.tup [(.v 2),(.v 6)])])),(.fz []),(.ret (.tup [(.mX [(.fmt (.v 6)),(.c (.c (.str ⟨⟨[58]⟩⟩))),(.fmt (.v 3))]),(.v 3),(.v 2)]))] []),
 (.fz []),
 (.ite (.and [(.not (.v 2)),(.xB (.c (.c (.str ⟨⟨[]⟩⟩))) 4)]) [(.fz []),(.ret (.tup [(.v 3),(.v 3),(.v 2)]))] []),
 (.fz []),
 (.oM ⟨⟨[95,105,116,101,114,95,110,97,109,101,115,112,97,99,101,115]⟩⟩ ⟨⟨[95,110,115,95,115,116,97,99,107]⟩⟩ (.two 5 6) [(.fz []),(.ite (.cmp .Eq (.v 5) (.v 2)) [(.fz []),(.expr (.bB (.mY (.at_ ⟨⟨[95,100,101,99,108,97,114,101,100,95,110,115,95,115,116,97,99,107]⟩⟩) (.neg (.c (.c (.int 1))))) ⟨⟨[97,112,112,101,110,100]⟩⟩ [(.tup [(.v 2),(.v 6)])])),(.fz []),(.ret (.tup [(.tT (.v 6) (.mX [(.fmt (.v 6)),(.c (.c (.str ⟨⟨[58]⟩⟩))),(.fmt (.v 3))]) (.v 3)),(.v 3),(.v 2)]))] [])]),
 (.fz []),
 (.ite (.not (.v 2)) [(.fz []),(.ret (.tup [(.v 3),(.v 3),(.v 2)]))] []),
 (.fz []),
 .bad]⟩
noncomputable def xH:Fn:=⟨[⟨⟨[115,101,108,102]⟩⟩,⟨⟨[100,97,116,97]⟩⟩],2,[],[],true,[
 (.fz []),
 (.ite (.not (.sat ⟨⟨[95,105,103,110,111,114,101,100,95,100,101,112,116,104]⟩⟩)) [(.fz []),(.eF (.at_ ⟨⟨[95,100,97,116,97]⟩⟩) (.v 1))] [])]⟩
noncomputable def rO:Fn:=⟨[⟨⟨[115,101,108,102]⟩⟩,⟨⟨[95,106,111,105,110,95,116,101,120,116]⟩⟩,⟨⟨[100,97,116,97]⟩⟩,⟨⟨[97,114,103,115]⟩⟩,⟨⟨[113,110,97,109,101,95,116,101,120,116]⟩⟩],2,[(.c (.ad 174))],[],true,[
 (.fz []),
 (.asg 2 (.vh (.v 1) (.at_ ⟨⟨[95,100,97,116,97]⟩⟩))),
 (.fz []),
 (.CW ⟨⟨[95,100,97,116,97]⟩⟩),
 (.fz []),
 (.ite (.and [(.sat ⟨⟨[95,115,116,114,105,112,95,116,101,120,116]⟩⟩),(.not (.mY (.at_ ⟨⟨[95,112,114,101,115,101,114,118,101,95,115,112,97,99,101]⟩⟩) (.neg (.c (.c (.int 1))))))]) [(.fz []),(.asg 2 (.bB (.v 2) ⟨⟨[115,116,114,105,112]⟩⟩ []))] []),
 (.fz []),
 (.ite (.cmp .IsNot (.sat ⟨⟨[95,112,101,110,100,105,110,103,95,115,116,97,114,116]⟩⟩) (.c (.c .none))) [(.fz []),.bad,(.fz []),(.asg 4 (.tT (.and [(.v 2),.bad]) (.v 2) (.c (.c .none)))),(.fz []),.bad,(.fz []),(.ite (.cmp .IsNot (.v 4) (.c (.c .none))) [(.fz []),(.ret (.c (.c .none)))] [])] []),
 (.fz []),
 (.ite (.and [(.v 2),(.sat ⟨⟨[95,114,111,111,116,95,115,101,101,110]⟩⟩)]) [(.fz []),(.expr (.bB (.v 0) ⟨⟨[95,119,114,105,116,101]⟩⟩ [(.call (.c (.c (.ad 237))) [(.v 2)])]))] [])]⟩
noncomputable def ua:Fn:=⟨[⟨⟨[115,101,108,102]⟩⟩,⟨⟨[116,97,103]⟩⟩,⟨⟨[97,116,116,114,115]⟩⟩,⟨⟨[110,101,119,95,110,97,109,101,115,112,97,99,101,115]⟩⟩],3,[],[],true,[
 (.fz []),
 (.ite (.and [(.cmp .IsNot (.sat ⟨⟨[95,101,120,99,108,117,100,101,95,116,97,103,115]⟩⟩) (.c (.c .none))),.bad]) [(.fz []),.bad,(.fz []),(.ret (.c (.c .none)))] []),
 (.fz []),
 (.ite (.y9 (.at_ ⟨⟨[95,100,97,116,97]⟩⟩)) [(.fz []),(.expr (.bB (.v 0) ⟨⟨[95,102,108,117,115,104]⟩⟩ []))] []),
 (.fz []),
 (.asg 3 (.list [])),
 (.fz []),
 (.eF (.at_ ⟨⟨[95,100,101,99,108,97,114,101,100,95,110,115,95,115,116,97,99,107]⟩⟩) (.v 3)),
 (.fz []),
 (.ite (.and [(.cmp .IsNot (.sat ⟨⟨[95,113,110,97,109,101,95,97,119,97,114,101,95,116,97,103,115]⟩⟩) (.c (.c .none))),(.cmp .In (.v 1) (.sat ⟨⟨[95,113,110,97,109,101,95,97,119,97,114,101,95,116,97,103,115]⟩⟩))]) [(.fz []),(.dQ ⟨⟨[95,112,101,110,100,105,110,103,95,115,116,97,114,116]⟩⟩ (.tup [(.v 1),(.v 2),(.v 3)])),(.fz []),(.ret (.c (.c .none)))] []),
 (.fz []),
 (.expr (.bB (.v 0) ⟨⟨[95,115,116,97,114,116]⟩⟩ [(.v 1),(.v 2),(.v 3)]))]⟩
noncomputable def cW:Fn:=⟨[⟨⟨[115,101,108,102]⟩⟩,⟨⟨[116,97,103]⟩⟩,⟨⟨[97,116,116,114,115]⟩⟩,⟨⟨[110,101,119,95,110,97,109,101,115,112,97,99,101,115]⟩⟩,⟨⟨[113,110,97,109,101,95,116,101,120,116]⟩⟩,⟨⟨[107]⟩⟩,⟨⟨[118]⟩⟩,⟨⟨[113,110,97,109,101,115]⟩⟩,⟨⟨[114,101,115,111,108,118,101,100,95,110,97,109,101,115]⟩⟩,⟨⟨[113,110,97,109,101]⟩⟩,⟨⟨[113,97,116,116,114,115]⟩⟩,⟨⟨[97,116,116,114,95,110,97,109,101]⟩⟩,⟨⟨[118,97,108,117,101]⟩⟩,⟨⟨[112,97,114,115,101,95,113,110,97,109,101]⟩⟩,⟨⟨[112,97,114,115,101,100,95,113,110,97,109,101,115]⟩⟩,⟨⟨[117,114,105]⟩⟩,⟨⟨[97,116,116,114,95,108,105,115,116]⟩⟩,⟨⟨[97,116,116,114,95,113,110,97,109,101]⟩⟩,⟨⟨[115,112,97,99,101,95,98,101,104,97,118,105,111,117,114]⟩⟩,⟨⟨[119,114,105,116,101]⟩⟩],5,[(.c .none)],[],false,[
 (.fz []),
 (.ite (.and [(.cmp .IsNot (.sat ⟨⟨[95,101,120,99,108,117,100,101,95,97,116,116,114,115]⟩⟩) (.c (.c .none))),(.v 2)]) [(.fz []),.bad] []),
 (.fz []),
 (.asg 7 (.CT (.v 1) (.v 2))),
 (.fz []),
 (.asg 8 (.dict [] [])),
 (.fz []),
 (.ite (.cmp .IsNot (.v 4) (.c (.c .none))) [(.fz []),.bad,(.fz []),(.za 7 (.v 9))] []),
 (.fz []),
 (.ite (.and [(.cmp .IsNot (.sat ⟨⟨[95,102,105,110,100,95,113,110,97,109,101,95,97,119,97,114,101,95,97,116,116,114,115]⟩⟩) (.c (.c .none))),(.v 2)]) [(.fz []),(.asg 10 (.bB (.v 0) ⟨⟨[95,102,105,110,100,95,113,110,97,109,101,95,97,119,97,114,101,95,97,116,116,114,115]⟩⟩ [(.v 2)])),(.fz []),(.ite (.v 10) [(.fz []),(.eE (.one 11) (.v 10) [(.fz []),(.asg 12 (.sub (.v 2) (.v 11))),(.fz []),.bad])] [(.fz []),(.asg 10 (.c (.c .none)))])] [(.fz []),(.asg 10 (.c (.c .none)))]),
 (.fz []),
 (.asg 13 (.sat ⟨⟨[95,113,110,97,109,101]⟩⟩)),
 (.fz []),
 (.Hg 14 FZ ⟨⟨[125]⟩⟩ (.v 7) (.call (.v 14) [(.v 0)])),
 (.fz []),
 (.ite (.v 3) [(.fz []),.bad,(.fz []),(.expr (.bB (.v 16) ⟨⟨[115,111,114,116]⟩⟩ []))] [(.fz []),(.om 16 [])]),
 (.fz []),
 (.ite (.v 2) [(.fz []),(.eE (.two 5 6) (.items true (.v 2)) [(.fz []),(.ite (.and [(.cmp .IsNot (.v 10) (.c (.c .none))),(.cmp .In (.v 5) (.v 10)),(.cmp .In (.v 6) (.v 8))]) [(.fz []),(.asg 6 (.sub (.sub (.v 14) (.sub (.v 8) (.v 6))) (.c (.c (.int 0)))))] []),(.fz []),(.tU [17,11,15] (.sub (.v 14) (.v 5))),(.fz []),(.eF (.var 16) (.tup [(.tT (.v 15) (.v 17) (.v 11)),(.v 6)]))])] []),
 (.fz []),
 (.asg 18 (.bB (.v 2) ⟨⟨[103,101,116]⟩⟩ [(.c (.c (.str ⟨⟨[123,104,116,116,112,58,47,47,119,119,119,46,119,51,46,111,114,103,47,88,77,76,47,49,57,57,56,47,110,97,109,101,115,112,97,99,101,125,115,112,97,99,101]⟩⟩)))])),
 (.fz []),
 (.eF (.at_ ⟨⟨[95,112,114,101,115,101,114,118,101,95,115,112,97,99,101]⟩⟩) (.tT (.v 18) (.cmp .Eq (.v 18) (.c (.c (.str ⟨⟨[112,114,101,115,101,114,118,101]⟩⟩)))) (.mY (.at_ ⟨⟨[95,112,114,101,115,101,114,118,101,95,115,112,97,99,101]⟩⟩) (.neg (.c (.c (.int 1))))))),
 (.fz []),
 (.asg 19 (.sat ⟨⟨[95,119,114,105,116,101]⟩⟩)),
 (.fz []),
 (.expr (.call (.v 19) [(.bin .Add (.c (.c (.str ⟨⟨[60]⟩⟩))) (.sub (.sub (.v 14) (.v 1)) (.c (.c (.int 0)))))])),
 (.fz [16]),
 (.ite (.v 16) [(.fz []),(.expr (.call (.v 19) [(.bB (.c (.c (.str ⟨⟨[]⟩⟩))) ⟨⟨[106,111,105,110]⟩⟩ [(.comp true (.mX [(.c (.c (.str ⟨⟨[32]⟩⟩))),(.fmt (.v 0)),(.c (.c (.str ⟨⟨[61,34]⟩⟩))),(.fmt (.call (.c (.c (.ad 244))) [(.v 1)])),(.c (.c (.str ⟨⟨[34]⟩⟩)))]) (.v 16) [])])]))] []),
 (.fz []),
 (.expr (.call (.v 19) [(.c (.c (.str ⟨⟨[62]⟩⟩)))])),
 (.fz []),
 (.ite (.cmp .IsNot (.v 4) (.c (.c .none))) [(.fz []),(.expr (.call (.v 19) [(.call (.c (.c (.ad 237))) [(.sub (.sub (.v 14) (.sub (.v 8) (.v 4))) (.c (.c (.int 0))))])]))] []),
 (.fz [16]),
 (.dQ ⟨⟨[95,114,111,111,116,95,115,101,101,110]⟩⟩ (.c (.c (.bool true)))),
 (.fz []),
 (.eF (.at_ ⟨⟨[95,110,115,95,115,116,97,99,107]⟩⟩) (.list []))]⟩
noncomputable def zH:Fn:=⟨[⟨⟨[115,101,108,102]⟩⟩,⟨⟨[116,97,103]⟩⟩],2,[],[],true,[
 (.fz []),
 (.ite (.sat ⟨⟨[95,105,103,110,111,114,101,100,95,100,101,112,116,104]⟩⟩) [(.fz []),.bad,(.fz []),(.ret (.c (.c .none)))] []),
 (.fz []),
 (.ite (.y9 (.at_ ⟨⟨[95,100,97,116,97]⟩⟩)) [(.fz []),(.expr (.bB (.v 0) ⟨⟨[95,102,108,117,115,104]⟩⟩ []))] []),
 (.fz []),
 (.expr (.bB (.v 0) ⟨⟨[95,119,114,105,116,101]⟩⟩ [(.mX [(.c (.c (.str ⟨⟨[60,47]⟩⟩))),(.fmt (.sub (.bB (.v 0) ⟨⟨[95,113,110,97,109,101]⟩⟩ [(.v 1)]) (.c (.c (.int 0))))),(.c (.c (.str ⟨⟨[62]⟩⟩)))])])),
 (.fz []),
 (.xD (.at_ ⟨⟨[95,112,114,101,115,101,114,118,101,95,115,112,97,99,101]⟩⟩)),
 (.fz []),
 (.dQ ⟨⟨[95,114,111,111,116,95,100,111,110,101]⟩⟩ (.cmp .Eq (.gX (.at_ ⟨⟨[95,112,114,101,115,101,114,118,101,95,115,112,97,99,101]⟩⟩)) (.c (.c (.int 1))))),
 (.fz []),
 (.xD (.at_ ⟨⟨[95,100,101,99,108,97,114,101,100,95,110,115,95,115,116,97,99,107]⟩⟩)),
 (.fz []),
 (.xD (.at_ ⟨⟨[95,110,115,95,115,116,97,99,107]⟩⟩))]⟩
noncomputable def cA:Fn:=⟨[⟨⟨[105,116,101,114,97,116,111,114]⟩⟩,⟨⟨[98]⟩⟩,⟨⟨[118,97,108]⟩⟩],1,[],[],true,[
 (.fz []),
 (.oK 1 0),
 (.fz []),
 (.asg 2 (.bin .BitAnd (.v 1) (.c (.c (.int 63))))),
 (.fz []),
 (.rC (.bin .BitAnd (.v 1) (.c (.c (.int 64)))) [(.fz []),(.aug 2 .LShift (.c (.c (.int 6)))),(.fz []),(.oK 1 0),(.fz []),(.aug 2 .BitOr (.bin .BitAnd (.v 1) (.c (.c (.int 63)))))]),
 (.fz []),
 (.ret (.v 2))]⟩
noncomputable def bq:Fn:=⟨[⟨⟨[116,101,120,116]⟩⟩],1,[],[],true,[
 (.fz []),
 (.tryAll [(.fz []),(.ite (.cmp .In (.c (.c (.str ⟨⟨[38]⟩⟩))) (.v 0)) [(.fz []),(.asg 0 (.repl (.v 0) ⟨⟨[38]⟩⟩ ⟨⟨[38,97,109,112,59]⟩⟩))] []),(.fz []),(.ite (.cmp .In (.c (.c (.str ⟨⟨[60]⟩⟩))) (.v 0)) [(.fz []),(.asg 0 (.repl (.v 0) ⟨⟨[60]⟩⟩ ⟨⟨[38,108,116,59]⟩⟩))] []),(.fz []),(.ite (.cmp .In (.c (.c (.str ⟨⟨[62]⟩⟩))) (.v 0)) [(.fz []),(.asg 0 (.repl (.v 0) ⟨⟨[62]⟩⟩ ⟨⟨[38,103,116,59]⟩⟩))] []),(.fz []),(.ite (.cmp .In (.c (.c (.str ⟨⟨[13]⟩⟩))) (.v 0)) [(.fz []),(.asg 0 (.repl (.v 0) ⟨⟨[13]⟩⟩ ⟨⟨[38,35,120,68,59]⟩⟩))] []),(.fz []),(.ret (.v 0))])]⟩
noncomputable def aQ:Fn:=⟨[⟨⟨[116,101,120,116]⟩⟩],1,[],[],true,[
 (.fz []),
 (.tryAll [(.fz []),(.ite (.cmp .In (.c (.c (.str ⟨⟨[38]⟩⟩))) (.v 0)) [(.fz []),(.asg 0 (.repl (.v 0) ⟨⟨[38]⟩⟩ ⟨⟨[38,97,109,112,59]⟩⟩))] []),(.fz []),(.ite (.cmp .In (.c (.c (.str ⟨⟨[60]⟩⟩))) (.v 0)) [(.fz []),(.asg 0 (.repl (.v 0) ⟨⟨[60]⟩⟩ ⟨⟨[38,108,116,59]⟩⟩))] []),(.fz []),(.ite (.cmp .In (.c (.c (.str ⟨⟨[34]⟩⟩))) (.v 0)) [(.fz []),(.asg 0 (.repl (.v 0) ⟨⟨[34]⟩⟩ ⟨⟨[38,113,117,111,116,59]⟩⟩))] []),(.fz []),(.ite (.cmp .In (.c (.c (.str ⟨⟨[9]⟩⟩))) (.v 0)) [(.fz []),(.asg 0 (.repl (.v 0) ⟨⟨[9]⟩⟩ ⟨⟨[38,35,120,57,59]⟩⟩))] []),(.fz []),(.ite (.cmp .In (.c (.c (.str ⟨⟨[10]⟩⟩))) (.v 0)) [(.fz []),(.asg 0 (.repl (.v 0) ⟨⟨[10]⟩⟩ ⟨⟨[38,35,120,65,59]⟩⟩))] []),(.fz []),(.ite (.cmp .In (.c (.c (.str ⟨⟨[13]⟩⟩))) (.v 0)) [(.fz []),(.asg 0 (.repl (.v 0) ⟨⟨[13]⟩⟩ ⟨⟨[38,35,120,68,59]⟩⟩))] []),(.fz []),(.ret (.v 0))])]⟩
noncomputable def kQ:Fn:=⟨[⟨⟨[110,117,109,98,101,114]⟩⟩,⟨⟨[111,112,101,114,97,116,111,114]⟩⟩],1,[],[],true,[
 (.fz []),
 (.eE (.one 1) (.c (.c (.gd 112))) [(.fz []),(.ite (.cmp .Eq (.sub (.c (.c (.gd 112))) (.v 1)) (.v 0)) [(.fz []),(.ret (.v 1))] [])]),
 (.fz []),
 (.ret (.c (.c (.str ⟨⟨[]⟩⟩))))]⟩
noncomputable def je:Fn:=⟨[⟨⟨[120]⟩⟩],1,[],[],true,[
 (.fz []),
 (.ret (.sub (.list [(.c (.c (.str ⟨⟨[]⟩⟩))),(.c (.c (.str ⟨⟨[9]⟩⟩))),(.c (.c (.str ⟨⟨[32,9]⟩⟩))),(.c (.c (.str ⟨⟨[9,32,9]⟩⟩))),(.c (.c (.str ⟨⟨[32,9,9]⟩⟩))),(.c (.c (.str ⟨⟨[32,9,32,9]⟩⟩))),(.c (.c (.str ⟨⟨[32,32,32,9]⟩⟩)))]) (.bin .Mod (.bin .FloorDiv (.v 0) (.c (.c (.int 786432)))) (.c (.c (.int 7))))))]⟩
noncomputable def iw:Fn:=⟨[⟨⟨[102,114,111,110,116]⟩⟩,⟨⟨[110,117,109,98,101,114]⟩⟩,⟨⟨[98,97,114,101]⟩⟩,⟨⟨[101,110,100,101,100]⟩⟩,⟨⟨[115,105,122,101]⟩⟩,⟨⟨[97,116]⟩⟩,⟨⟨[115,105,103,110]⟩⟩],2,[],[],true,[
 (.fz []),
 (.om 2 []),
 (.fz []),
 (.om 3 []),
 (.fz []),
 (.eE (.one 4) (.list [(.c (.c (.int 7))),(.c (.c (.int 8))),(.c (.c (.int 9))),(.c (.c (.int 11)))]) [(.fz []),(.asg 5 (.c (.c (.int 0)))),(.fz []),(.eE (.one 6) (.v 0) [(.fz []),(.asg 5 (.tT (.cmp .Eq (.v 6) (.c (.c (.str ⟨⟨[32]⟩⟩)))) (.bin .Add (.v 5) (.c (.c (.int 1)))) (.bin .Mult (.bin .Add (.bin .FloorDiv (.v 5) (.v 4)) (.c (.c (.int 1)))) (.v 4))))]),(.fz []),(.eF (.var 2) (.bin .Add (.v 5) (.v 1))),(.fz []),(.eF (.var 3) (.bin .Add (.v 5) (.bin .Mult (.bin .Add (.bin .FloorDiv (.v 1) (.v 4)) (.c (.c (.int 1)))) (.v 4))))]),
 (.fz [2,3]),
 (.ret (.bin .Add (.v 2) (.v 3)))]⟩
noncomputable def jT:Fn:=⟨[⟨⟨[115,112,97,99,101]⟩⟩,⟨⟨[101,110,100,101,100]⟩⟩],2,[],[],false,[
 (.fz []),
 (.ret (.bin .Add (.comp false (.bB (.v 1) ⟨⟨[105,110,100,101,110,116,95,108,101,118,101,108]⟩⟩ [(.v 0)]) (.list [(.c (.c (.int 7))),(.c (.c (.int 8))),(.c (.c (.int 9))),(.c (.c (.int 11)))]) []) (.comp false (.bB (.v 2) ⟨⟨[105,110,100,101,110,116,95,108,101,118,101,108]⟩⟩ [(.v 0)]) (.list [(.c (.c (.int 7))),(.c (.c (.int 8))),(.c (.c (.int 9))),(.c (.c (.int 11)))]) [])))]⟩
noncomputable def jf:Fn:=⟨[⟨⟨[110,117,109,98,101,114,115]⟩⟩,⟨⟨[115,105,103,110,115]⟩⟩,⟨⟨[110,117,109,98,101,114]⟩⟩],1,[],[],true,[
 (.fz []),
 (.om 1 []),
 (.fz []),
 (.eE (.one 2) (.v 0) [(.fz []),(.ite (.cmp .Gt (.v 2) (.c (.c (.int 63)))) [(.fz []),(.eF (.var 1) (.call (.c (.c (.fn .chr))) [(.bin .Add (.c (.c (.int 64))) (.bin .FloorDiv (.v 2) (.c (.c (.int 64)))))]))] []),(.fz []),(.eF (.var 1) (.call (.c (.c (.fn .chr))) [(.bin .Mod (.v 2) (.c (.c (.int 64))))]))]),
 (.fz [1]),
 (.ret (.FD ⟨⟨[]⟩⟩ (.var 1)))]⟩
noncomputable def rP:Fn:=⟨[⟨⟨[110,117,109,98,101,114]⟩⟩],1,[],[],false,[
 (.fz []),
 (.ret (.comp false (.bin .Sub (.v 0) (.bin .Mod (.v 1) (.v 0))) (.list [(.c (.c (.int 7))),(.c (.c (.int 8))),(.c (.c (.int 9))),(.c (.c (.int 11)))]) []))]⟩
noncomputable def gR:Fn:=⟨[⟨⟨[115,116,101,112,115]⟩⟩,⟨⟨[120]⟩⟩,⟨⟨[119,104,101,114,101]⟩⟩],2,[],[],true,[
 (.fz []),
 (.asg 2 (.bin .Mod (.bin .FloorDiv (.v 1) (.c (.c (.int 48)))) (.c (.c (.int 4))))),
 (.fz []),
 (.ret (.bin .Add (.bin .Add (.slc (.v 0) none (some (.v 2))) (.list [(.bin .Mod (.bin .FloorDiv (.v 1) (.c (.c (.int 192)))) (.c (.c (.int 4096))))])) (.slc (.v 0) (some (.bin .Add (.v 2) (.c (.c (.int 1))))) none)))]⟩
noncomputable def gT:Fn:=⟨[⟨⟨[116,101,120,116]⟩⟩,⟨⟨[110,97,109,101,115]⟩⟩],2,[],[],true,[
 (.fz []),
 (.ret (.bB (.c (.c (.str ⟨⟨[]⟩⟩))) ⟨⟨[106,111,105,110]⟩⟩ [(.comp false (.bB (.v 2) ⟨⟨[103,101,116]⟩⟩ [(.v 0),(.v 0)]) (.v 0) [])]))]⟩
noncomputable def gw:Fn:=⟨[⟨⟨[118,97,108,117,101,115]⟩⟩,⟨⟨[111,112,101,114,97,116,111,114,115]⟩⟩,⟨⟨[119,105,116,104,105,110]⟩⟩,⟨⟨[98,101,116,119,101,101,110]⟩⟩,⟨⟨[116,111,108,100]⟩⟩,⟨⟨[107]⟩⟩],2,[],[],true,[
 (.fz []),
 (.asg 2 (.dict [⟨⟨[38]⟩⟩,⟨⟨[60]⟩⟩,⟨⟨[34]⟩⟩,⟨⟨[9]⟩⟩,⟨⟨[10]⟩⟩,⟨⟨[13]⟩⟩] [(.c (.c (.str ⟨⟨[38,97,109,112,59]⟩⟩))),(.c (.c (.str ⟨⟨[38,108,116,59]⟩⟩))),(.c (.c (.str ⟨⟨[38,113,117,111,116,59]⟩⟩))),(.c (.c (.str ⟨⟨[38,35,120,57,59]⟩⟩))),(.c (.c (.str ⟨⟨[38,35,120,65,59]⟩⟩))),(.c (.c (.str ⟨⟨[38,35,120,68,59]⟩⟩)))])),
 (.fz []),
 (.asg 3 (.dict [⟨⟨[38]⟩⟩,⟨⟨[60]⟩⟩,⟨⟨[62]⟩⟩] [(.c (.c (.str ⟨⟨[38,97,109,112,59]⟩⟩))),(.c (.c (.str ⟨⟨[38,108,116,59]⟩⟩))),(.c (.c (.str ⟨⟨[38,103,116,59]⟩⟩)))])),
 (.fz []),
 (.asg 4 (.c (.c (.str ⟨⟨[60,114,62]⟩⟩)))),
 (.fz []),
 (.eE (.one 5) (.call (.c (.c (.fn .range))) [(.c (.c (.int 2)))]) [(.fz []),(.aug 4 .Add (.bin .Add (.bin .Add (.bin .Add (.bin .Add (.c (.c (.str ⟨⟨[60,98,32,118,61,34]⟩⟩))) (.call (.c (.c (.ad 294))) [(.sub (.v 0) (.v 5)),(.v 2)])) (.c (.c (.str ⟨⟨[34,62]⟩⟩)))) (.call (.c (.c (.ad 294))) [(.sub (.v 1) (.v 5)),(.v 3)])) (.c (.c (.str ⟨⟨[60,47,98,62]⟩⟩)))))]),
 (.fz []),
 (.ret (.bin .Add (.v 4) (.c (.c (.str ⟨⟨[60,47,114,62]⟩⟩)))))]⟩
noncomputable def eX:Fn:=⟨[⟨⟨[118,97,108,117,101,115]⟩⟩,⟨⟨[111,112,101,114,97,116,111,114,115]⟩⟩,⟨⟨[112,105,101,99,101,115]⟩⟩,⟨⟨[119,114,105,116,101,114]⟩⟩,⟨⟨[107]⟩⟩],2,[],[],true,[
 (.fz []),
 (.CX 2),
 (.fz []),
 (.asg 3 (.call (.c (.c (.ad 226))) [(.attr (.v 2) ⟨⟨[97,112,112,101,110,100]⟩⟩)])),
 (.fz []),
 (.expr (.bB (.v 3) ⟨⟨[115,116,97,114,116]⟩⟩ [(.c (.c (.str ⟨⟨[114]⟩⟩))),(.dict [] [])])),
 (.fz []),
 (.eE (.one 4) (.call (.c (.c (.fn .range))) [(.c (.c (.int 2)))]) [(.fz []),(.expr (.bB (.v 3) ⟨⟨[115,116,97,114,116]⟩⟩ [(.c (.c (.str ⟨⟨[98]⟩⟩))),(.dict [⟨⟨[118]⟩⟩] [(.sub (.v 0) (.v 4))])])),(.fz []),(.expr (.bB (.v 3) ⟨⟨[100,97,116,97]⟩⟩ [(.sub (.v 1) (.v 4))])),(.fz []),(.expr (.bB (.v 3) ⟨⟨[101,110,100]⟩⟩ [(.c (.c (.str ⟨⟨[98]⟩⟩)))]))]),
 (.fz []),
 (.expr (.bB (.v 3) ⟨⟨[101,110,100]⟩⟩ [(.c (.c (.str ⟨⟨[114]⟩⟩)))])),
 (.fz [2]),
 (.ret (.FD ⟨⟨[]⟩⟩ (.var 2)))]⟩
noncomputable def jg:Fn:=⟨[⟨⟨[116,101,120,116]⟩⟩,⟨⟨[110,97,109,101,100]⟩⟩,⟨⟨[115,105,103,110,115]⟩⟩,⟨⟨[97,116]⟩⟩,⟨⟨[102,105,114,115,116]⟩⟩],1,[],[],true,[
 (.fz []),
 (.asg 1 (.dict [⟨⟨[97,109,112]⟩⟩,⟨⟨[108,116]⟩⟩,⟨⟨[103,116]⟩⟩,⟨⟨[113,117,111,116]⟩⟩,⟨⟨[35,120,57]⟩⟩,⟨⟨[35,120,65]⟩⟩,⟨⟨[35,120,68]⟩⟩] [(.c (.c (.str ⟨⟨[38]⟩⟩))),(.c (.c (.str ⟨⟨[60]⟩⟩))),(.c (.c (.str ⟨⟨[62]⟩⟩))),(.c (.c (.str ⟨⟨[34]⟩⟩))),(.c (.c (.str ⟨⟨[9]⟩⟩))),(.c (.c (.str ⟨⟨[10]⟩⟩))),(.c (.c (.str ⟨⟨[13]⟩⟩)))])),
 (.fz []),
 (.om 2 []),
 (.fz []),
 (.asg 3 (.c (.c (.int 0)))),
 (.fz []),
 (.rC (.cmp .Lt (.v 3) (.call (.c (.c (.fn .len))) [(.v 0)])) [(.fz []),(.ite (.cmp .Eq (.bB (.c (.c (.gd 112))) ⟨⟨[103,101,116]⟩⟩ [(.sub (.v 0) (.v 3))]) (.c (.c (.int 19)))) [(.fz []),(.asg 4 (.bin .Add (.v 3) (.c (.c (.int 1))))),(.fz []),(.rC (.cmp .NotEq (.bB (.c (.c (.gd 112))) ⟨⟨[103,101,116]⟩⟩ [(.sub (.v 0) (.v 3))]) (.c (.c (.int 13)))) [(.fz []),(.aug 3 .Add (.c (.c (.int 1))))]),(.fz []),(.eF (.var 2) (.bB (.v 1) ⟨⟨[103,101,116]⟩⟩ [(.slc (.v 0) (some (.v 4)) (some (.v 3))),(.c (.c (.str ⟨⟨[]⟩⟩)))]))] [(.fz []),(.eF (.var 2) (.sub (.v 0) (.v 3)))]),(.fz []),(.aug 3 .Add (.c (.c (.int 1))))]),
 (.fz [2]),
 (.ret (.FD ⟨⟨[]⟩⟩ (.var 2)))]⟩
noncomputable def gU:Fn:=⟨[⟨⟨[111,99,116,101,116,115]⟩⟩,⟨⟨[115,116,114,101,97,109]⟩⟩,⟨⟨[116,111,108,100]⟩⟩],1,[],[],true,[
 (.fz []),
 (.rE 1 (.call (.c (.c (.fn .bytes))) [(.v 0)])),
 (.fz []),
 (.om 2 []),
 (.fz []),
 (.rC (.cmp .LtE (.gX (.var 2)) (.call (.c (.c (.fn .len))) [(.v 0)])) [(.fz []),(.ju 2 (.c (.c (.ad 111))) 1)]),
 (.fz [2]),
 (.ret (.list []))]⟩
noncomputable def jh:Fn:=⟨[⟨⟨[115,116,101,112,115]⟩⟩,⟨⟨[110,117,109,98,101,114]⟩⟩,⟨⟨[100,117,101]⟩⟩],2,[],[],false,[
 (.fz []),
 (.asg 2 (.call (.c (.c (.ad 282))) [(.v 1)])),
 (.fz []),
 (.ret (.call (.c (.c (.fn .len))) [(.comp false (.v 0) (.call (.c (.c (.fn .range))) [(.c (.c (.int 4)))]) [(.cmp .Eq (.sub (.v 1) (.v 0)) (.sub (.v 3) (.v 0)))])]))]⟩
noncomputable def nk:Fn:=⟨[⟨⟨[115,99,114,105,112,116]⟩⟩,⟨⟨[100,114,97,119,110]⟩⟩,⟨⟨[110,117,109,98,101,114,115]⟩⟩,⟨⟨[111,112,101,114,97,116,111,114,115]⟩⟩,⟨⟨[102,114,111,110,116,115]⟩⟩,⟨⟨[107]⟩⟩,⟨⟨[108,101,97,100,115]⟩⟩,⟨⟨[101,110,100,101,100]⟩⟩,⟨⟨[108,101,118,101,108,115]⟩⟩,⟨⟨[115,116,101,112,115]⟩⟩,⟨⟨[118,97,108,117,101,115]⟩⟩,⟨⟨[100,117,101]⟩⟩,⟨⟨[112,97,103,101]⟩⟩,⟨⟨[112,97,114,116,115]⟩⟩,⟨⟨[114,101,97,100]⟩⟩,⟨⟨[116,101,120,116]⟩⟩,⟨⟨[102,111,117,110,100]⟩⟩,⟨⟨[115,97,109,101]⟩⟩,⟨⟨[114,117,110,115]⟩⟩],1,[],[],true,[
 (.fz []),
 (.asg 1 (.bin .Add (.slc (.v 0) none (some (.c (.c (.int 2))))) (.slc (.list [(.c (.c (.int 3932165))),(.c (.c (.int 474422)))]) (some (.call (.c (.c (.fn .len))) [(.v 0)])) none))),
 (.fz []),
 (.asg 2 (.comp false (.bin .Add (.bin .Mod (.v 0) (.c (.c (.int 48)))) (.c (.c (.int 7)))) (.v 1) [])),
 (.fz []),
 (.asg 3 (.comp false (.call (.c (.c (.ad 251))) [(.v 0)]) (.v 2) [])),
 (.fz []),
 (.asg 4 (.comp false (.call (.c (.c (.ad 258))) [(.v 0)]) (.v 1) [])),
 (.fz []),
 (.asg 6 (.comp false (.bin .Add (.sub (.v 5) (.v 0)) (.bin .Mult (.c (.c (.str ⟨⟨[32]⟩⟩))) (.sub (.v 3) (.v 0)))) (.call (.c (.c (.fn .range))) [(.c (.c (.int 2)))]) [])),
 (.fz []),
 (.asg 7 (.comp false (.call (.c (.c (.ad 100))) [(.bin .Add (.v 0) (.c (.c (.str ⟨⟨[9]⟩⟩))))]) (.v 6) [])),
 (.fz []),
 (.asg 8 (.comp false (.call (.c (.c (.ad 270))) [(.call (.c (.c (.ad 100))) [(.sub (.v 7) (.v 0))]),(.sub (.v 8) (.v 0))]) (.call (.c (.c (.fn .range))) [(.c (.c (.int 2)))]) [])),
 (.fz []),
 (.ite (.cmp .NotEq (.v 8) (.comp false (.call (.c (.c (.ad 265))) [(.sub (.v 5) (.v 0)),(.sub (.v 3) (.v 0))]) (.call (.c (.c (.fn .range))) [(.c (.c (.int 2)))]) [])) [(.fz []),(.ret (.c (.c (.bool false))))] []),
 (.fz []),
 (.asg 9 (.comp false (.comp false (.bin .Sub (.sub (.v 1) (.bin .Add (.v 0) (.c (.c (.int 4))))) (.sub (.v 1) (.v 0))) (.call (.c (.c (.fn .range))) [(.c (.c (.int 4)))]) []) (.v 8) [])),
 (.fz []),
 (.asg 10 (.comp false (.call (.c (.c (.ad 277))) [(.call (.c (.c (.ad 289))) [(.sub (.v 10) (.v 0)),(.sub (.v 2) (.v 0))])]) (.call (.c (.c (.fn .range))) [(.c (.c (.int 2)))]) [])),
 (.fz []),
 (.asg 11 (.comp false (.call (.c (.c (.ad 277))) [(.call (.c (.c (.ad 289))) [(.call (.c (.c (.ad 282))) [(.sub (.v 3) (.v 0))]),(.sub (.v 2) (.v 0))])]) (.call (.c (.c (.fn .range))) [(.c (.c (.int 2)))]) [])),
 (.fz []),
 (.asg 12 (.call (.c (.c (.ad 308))) [(.v 10),(.v 3)])),
 (.fz []),
 (.ite (.cmp .NotEq (.v 12) (.call (.c (.c (.ad 301))) [(.v 11),(.v 3)])) [(.fz []),(.ret (.c (.c (.bool false))))] []),
 (.fz []),
 (.asg 13 (.bB (.v 12) ⟨⟨[115,112,108,105,116]⟩⟩ [(.c (.c (.str ⟨⟨[34]⟩⟩)))])),
 (.fz []),
 (.asg 14 (.call (.c (.c (.ad 322))) [(.comp false (.call (.c (.c (.fn .ord))) [(.v 0)]) (.call (.c (.c (.ad 315))) [(.bin .Add (.sub (.v 13) (.c (.c (.int 1)))) (.sub (.v 13) (.c (.c (.int 3)))))]) [])])),
 (.fz []),
 (.ite (.cmp .NotEq (.call (.c (.c (.fn .len))) [(.v 14)]) (.c (.c (.int 8)))) [(.fz []),(.ret (.c (.c (.bool false))))] []),
 (.fz []),
 (.eE (.one 5) (.call (.c (.c (.fn .range))) [(.c (.c (.int 2)))]) [(.fz []),(.asg 15 (.call (.c (.c (.ad 315))) [(.slc (.sub (.v 13) (.bin .Add (.bin .Mult (.c (.c (.int 2))) (.v 5)) (.c (.c (.int 2))))) (some (.c (.c (.int 1)))) (some (.bB (.sub (.v 13) (.bin .Add (.bin .Mult (.c (.c (.int 2))) (.v 5)) (.c (.c (.int 2))))) ⟨⟨[105,110,100,101,120]⟩⟩ [(.c (.c (.str ⟨⟨[60]⟩⟩)))])))])),(.fz []),(.asg 16 (.comp false (.sub (.c (.c (.gd 112))) (.v 0)) (.c (.c (.gd 112))) [(.cmp .GtE (.call (.c (.c (.ad 327))) [(.slc (.v 15) (some (.bin .Mult (.c (.c (.int 4))) (.v 6))) (some (.bin .Add (.bin .Mult (.c (.c (.int 4))) (.v 6)) (.c (.c (.int 4)))))),(.sub (.c (.c (.gd 112))) (.v 0))]) (.c (.c (.int 3))))])),(.fz []),(.ite (.cmp .NotEq (.v 16) (.list [(.bB (.c (.c (.gd 112))) ⟨⟨[103,101,116]⟩⟩ [(.v 15)])])) [(.fz []),(.ret (.c (.c (.bool false))))] [])]),
 (.fz []),
 (.asg 17 (.cmp .Eq (.sub (.v 2) (.c (.c (.int 0)))) (.sub (.v 2) (.c (.c (.int 1)))))),
 (.fz []),
 (.ite (.and [(.not (.v 17)),(.cmp .Gt (.call (.c (.c (.fn .len))) [(.comp false (.v 0) (.call (.c (.c (.fn .range))) [(.c (.c (.int 4)))]) [(.cmp .Eq (.sub (.sub (.v 10) (.c (.c (.int 0)))) (.v 0)) (.sub (.sub (.v 10) (.c (.c (.int 1)))) (.v 0)))])]) (.c (.c (.int 1))))]) [(.fz []),(.ret (.c (.c (.bool false))))] []),
 (.fz []),
 (.asg 18 (.comp false (.call (.c (.c (.fn .sorted))) [(.bB (.v 0) ⟨⟨[115,112,108,105,116]⟩⟩ [(.c (.c (.str ⟨⟨[9]⟩⟩)))])]) (.v 4) [])),
 (.fz []),
 (.ret (.cmp .Is (.bB (.sub (.v 7) (.c (.c (.int 0)))) ⟨⟨[101,113,117,97,108]⟩⟩ [(.sub (.v 7) (.c (.c (.int 1))))]) (.and [(.v 17),(.cmp .Eq (.sub (.v 18) (.c (.c (.int 0)))) (.sub (.v 18) (.c (.c (.int 1)))))])))]⟩
noncomputable def C8:List (Addr×Fn):=[(55,cM),(69,fP),(76,ni),(143,ou),(166,rN),(173,xH),(182,rO),(196,ua),(202,cW),(209,zH),(111,cA),(237,bq),(244,aQ),(251,kQ),(258,je),(265,iw),(270,jT),(277,jf),(282,rP),(289,gR),(294,gT),(301,gw),(308,eX),(315,jg),(322,gU),(327,jh),(332,nk)]
noncomputable def aG:Addr->Option Fn:=cB C8
noncomputable def F1:List (Str×V):=[(("_wall":Str),V.c (.ad 38)),(("Whitespace":Str),V.c (.ad 100)),(("_parse_varint":Str),V.c (.ad 111)),(("EXACT_TOKEN_TYPES":Str),V.c (.gd 112)),(("_namespace_map":Str),V.c (.gd 120)),(("_raise_serialization_error":Str),V.c (.ad 127)),(("C14NWriterTarget":Str),V.c (.ad 226)),(("_escape_cdata_c14n":Str),V.c (.ad 237)),(("_escape_attrib_c14n":Str),V.c (.ad 244)),(("_law_operator":Str),V.c (.ad 251)),(("_law_front":Str),V.c (.ad 258)),(("_law_levels":Str),V.c (.ad 265)),(("_law_seen":Str),V.c (.ad 270)),(("_law_signs":Str),V.c (.ad 277)),(("_law_due":Str),V.c (.ad 282)),(("_law_smeared":Str),V.c (.ad 289)),(("_law_spelled":Str),V.c (.ad 294)),(("_law_told":Str),V.c (.ad 301)),(("_law_page":Str),V.c (.ad 308)),(("_law_plain":Str),V.c (.ad 315)),(("_law_numbers":Str),V.c (.ad 322)),(("_law_right":Str),V.c (.ad 327)),(("len":Str),V.c (.fn .len)),(("range":Str),V.c (.fn .range)),(("iter":Str),V.c (.fn .iter)),(("next":Str),V.c (.fn .next)),(("bytes":Str),V.c (.fn .bytes)),(("sorted":Str),V.c (.fn .sorted)),(("tuple":Str),V.c (.fn .tuple)),(("chr":Str),V.c (.fn .chr)),(("ord":Str),V.c (.fn .ord)),(("list":Str),V.c (.fn .list)),(("set":Str),V.c (.fn .set))]
noncomputable def L6:bf:=look F1
end Mine.Internal
end
noncomputable section
open PySem PySem.W PyProof.Rows
namespace Mine.Internal
noncomputable def zI (h:Heap) (n tb:Nat):Frag:=(List.range n).filterMap fun a=>if Nat.beq a tb=true then none else(h.get? a).map fun o=>(a,o)
noncomputable def T8:Data->Option FuncData
 | .func fd=>some fd
 |_=>none
noncomputable def fdOf (o:Obj):Option FuncData:=T8 o.data
noncomputable def C9 (b:FuncBody):Option (List Stmt):=match b with
 | .stmts l=>some l
 |_=>none
noncomputable def ji (sc:Scope) (x:Str):Bool:=sc.names.lookup x==some .local
noncomputable def vE (v:Value):Option Addr:=match v with
 | .ref a=>some a
 |_=>none
noncomputable abbrev vF:Str:="C14NWriterTarget._start"
noncomputable def L7 (K:Frag) (tb:Addr) (fd:FuncData):Bool:= !(ji fd.scope "parsed_qnames")||(vE fd.code).any fun c=>codeHdIn K c tb&&decide (fd.qualname=vF)
noncomputable def zJ (K:Frag) (tb a:Addr) (f:Fn) (fd:FuncData):Bool:=
 (fnIn K a&&codeIn K fd.code fd.qualname)&&((fd.closure.isEmpty&& !fd.scope.isCoroutine)&&((!fd.scope.isGenerator&&decide (fd.scope.kind= .function))&&((Nat.beq fd.globals mainGlobals&&Nat.beq fd.builtins builtinsNs)&&
 ((fd.scope.names.all (fun p=> !(p.2== .free))&&Nat.ble (f.np+f.kd.length) f.ns.length)&&((distinct (f.ns.take (f.np+f.kd.length))&&f.ns.all fun x=>ji fd.scope x||fd.scope.names.lookup x==some .cell)&&((!f.o0||(f.ns.head?.all fun x=>ji fd.scope x))&&L7 K tb fd))))))
noncomputable def Dc (v:V):Option Value:=(Ln v).bind fun k=>match k with
 | .none=>some .none
 | .bool b=>some (.bool b)
 | .ad a=>some (.ref a)
 |_=>none
noncomputable def L8 (K:Frag) (f:Fn) (fd:FuncData) (S:Setting) (v:Nat->Value):List (Option (List (Str×Value))):=(List.range (f.df.length+1)).map fun j=>peek K S (bindArgs fd ⟨(List.range (f.np -f.df.length+j)).map v,[]⟩)
noncomputable def Ma (f:Fn) (dv kv:List Value) (S:Setting) (v:Nat->Value):List (Option (List (Str×Value))):=(List.range (f.df.length+1)).map fun j=>some ((f.ns.take (f.np+f.kd.length)).zip ((List.range (f.np -f.df.length+j)).map v++dv.drop j++kv))
noncomputable def Mb (aF:List Str) (g:bf) (K:Frag) (tb a:Addr) (f:Fn):Option (Option (List S)×(Setting->(Nat->Value)->List (Option (List (Str×Value))))):=
 (K.lookup a).bind fun o=>(fdOf o).bind fun fd=>(C9 fd.body).bind fun b=>if zJ K tb a f fd=true then some (zF aF (dedup ("pieces"::lN 100 b)) g 200 fd.scope f.ns b,L8 K f fd)else none
noncomputable def Dd (f:Fn):Option (Option (List S)×(Setting->(Nat->Value)->List (Option (List (Str×Value))))):=(aA Dc f.df).bind fun dv=>(aA Dc f.kd).bind fun kv=>if f.df.length<=f.np then some (some f.body,Ma f dv kv)else none
noncomputable def HH (x:Option (Option Value)) (s:String):Bool:=(x.bind id).any fun v=>v== .builtin s
noncomputable def HJ (x:Option (Option Value)) (a:Addr):Bool:=(x.bind id).any fun v=>v== .ref a
noncomputable def HK (x:Option (Option Value)):Bool:=x.any (·.isNone)
noncomputable def zK (K:Frag) (l:List (Addr×Str×Unit)):Bool:=l.all fun p=>(plainGet K p.1 p.2.1&&hasDictIn K p.1)&&((HK (findIn K (.ref p.1) p.2.1)&&plainOver K p.1)&&(HK (takerIn K p.1 p.2.1)&&HH (findIn K (.ref p.1) "__setattr__") "object.__setattr__"))
noncomputable def vG (K:Frag) (l:List (Addr×Str×Addr)):Bool:=l.all fun p=>((plainGet K p.1 p.2.1&&HJ (findIn K (.ref p.1) p.2.1) p.2.2)&&(isFn K (.ref p.2.2)&&fnIn K p.2.2))&&((hasDictIn K p.1&&HH (specialIn K (.ref p.2.2) "__get__") "function.__get__")&&((takesIn K (.ref p.2.2)==some false)&& !copiedNames.contains p.2.1))
noncomputable def zL (x:Option CFound):Option Str:=match x with
 |some (.val (.str t _))=>some t
 |_=>none
noncomputable def vH (K:Frag) (l:List (Addr×Str×V)):Bool:=l.all fun p=>readsIn K p.1 (.type "type")&&(aY p.2.2).any fun s=>zL (findCls K (.ref p.1) (.type "type") p.2.1)==some s
noncomputable def rQ (K:Frag) (l:List (Addr×Addr)):Bool:=l.all fun p=>(makesIn K p.1&&HJ (findIn K (.ref p.1) "__init__") p.2)&&((typeIn K (.ref p.2)==some (.type "function"))&&(keepIn K (.ref p.1)&&fnIn K p.2))
noncomputable def T9:Data->Option (Array DictEntry×Nat)
 | .dict es n=>some (es,n)
 |_=>none
noncomputable def De (o:Obj):Option (Array DictEntry×Nat):=T9 o.data
noncomputable def Mc (v:Value):Option V:=match v with
 | .int i _=>some (.c (.int i))
 | .str s _=>some (.c (.str s))
 |_=>none
noncomputable def HL (v:Value):Option Str:=match v with
 | .str s _=>some s
 |_=>none
noncomputable def F2 (d:DictEntry):Option (Int×Str×V):=(HL d.key).bind fun k=>(Mc d.val).map fun v=>(d.hash,k,v)
noncomputable def zM (o:Obj) (c:String):Bool:=(o.cls== .type c)&&(o.dict.isNone&&o.slots.isEmpty)
noncomputable def pY (K:Frag) (a:Addr):Option (List (Int×Str×V)):=(K.lookup a).bind fun o=>(De o).bind fun r=>if zM o "dict"=true then aA F2 r.1.toList else none
noncomputable def P6 (K:Frag):Option (Array DictEntry×Nat):=(K.lookup mainGlobals).bind De
noncomputable def zN (es:Array DictEntry) (p:Str×V):Bool:=((Ln p.2).bind fun k=>match k with
 | .ad a=>some (nsFind es p.1==some (.ref a))
 | .gd a=>some (nsFind es p.1==some (.ref a))
 | .fn f=>some ((nsFind es p.1).isNone&&(decide (p.1≠("__name__":Str))&&(bootBuiltins p.1==some f.val)))
 |_=>none)==some true
noncomputable def Ua:Data->Option (Array Value)
 | .fields vs=>some vs
 |_=>none
noncomputable def zO (o:Obj):Option (Array Value):=Ua o.data
noncomputable def Ub:Data->Bool
 | .plain=>true
 |_=>false
noncomputable def HM (o:Obj):Bool:=Ub o.data
noncomputable def P7 (o:Obj):Bool:=(o.cls== .type "builtin_function_or_method")&&((zO o).any fun vs=>(pair vs.toList).any fun p=>(p.1== .builtin "str.join")&&(HL p.2==some ⟨#[]⟩))
noncomputable def F3 (K:Frag) (a:Addr) (fd:FuncData):Bool:=
 (fnIn K a&&codeIn K fd.code fd.qualname)&&((fd.closure.isEmpty&& !fd.scope.isCoroutine)&&((fd.scope.isGenerator&&decide (fd.scope.kind= .function))&&((fd.scope.names.all (fun p=> !(p.2== .cell))&&ji fd.scope "namespaces")&&(ji fd.scope "_reversed"&&(ji fd.scope "ns_stack"&&ji fd.scope "self")))))
noncomputable def zP (K:Frag) (a:Addr):Option (List Stmt×(Setting->Value->Value->Option (List (Str×Value)))):=
 (K.lookup a).bind fun o=>(fdOf o).bind fun fd=>(C9 fd.body).bind fun b=>if F3 K a fd=true then some (b,fun S x y=>peek K S (bindArgs fd ⟨[x,y],[]⟩))else none
noncomputable def zQ (p1 p2 p3 p4 p5 p6 p7 p8 p9 CE:Pos):List Stmt:=[.For (.Name "namespaces" p1) (.Call (.Name "_reversed" p2) [.Name "ns_stack" p3] [] p4) [.If (.Name "namespaces" p5) [.Expr (.YieldFrom (.Name "namespaces" p6) p7) p8] [] p9] [] CE]
noncomputable def F4 (K:Frag) (a:Addr):Option (Option Stmt×Bool):=(K.lookup a).bind fun o=>(fdOf o).bind fun fd=>(C9 fd.body).bind fun b=>some (b.head?,ji fd.scope "iterator"&&(fd.scope.names.lookup ("next":Str)==some NameKind.globalImplicit))
noncomputable def F5 (bp np ip cp ap:Pos):Stmt:=.Assign [.Name "b" bp] (.Call (.Name "next" np) [.Name "iterator" ip] [] cp) ap
end Mine.Internal
end
noncomputable section
open PySem PySem.W PyProof.Rows PySem.Calls
namespace Mine.Internal
section
variable{tb:String->Option Builtin}{p:Program}{w:World}{n₀:Nat}{ann:Option Value}
noncomputable def Df(ok:Thread->Bool)(st:SharedT->Thread->Option (SharedT×Thread)):Nat->SharedT->Thread->Option SharedT
 |0,_,_=>none
 |n+1,s,t=>match through t with
  |true=>some s
  |false=>match ok t with
   |false=>none
   |true=>match st s t with
    |some r=>Df ok st n r.1 r.2
    |none=>none
theorem oU:∀(n:Nat) (s:SharedT) (t:Thread) (s₁:SharedT),Df (stepOk n₀ ann) (stepT (denote tb) p w) n s t=some s₁->topRun tb p w n₀ ann n s.abs t=some s₁.abs
 |0,_,_,_,h=>nomatch h
 |n+1,s,t,s₁,h=>by
  unfold Df at h;unfold topRun;cases ht:through t with
  |true=>rw[ht]at h;obtain rfl:=Option.some.inj h;rfl
  |false=>
   rw[ht]at h;cases hk:stepOk n₀ ann t with
   |false=>rw[hk]at h;cases h
   |true=>
    rw[hk]at h;cases hs:stepT (denote tb) p w s t with
    |none=>rw[hs]at h;cases h
    |some r=>rw[hs]at h;rw[stepT_spec hs];exact oU n r.1 r.2 s₁ h
noncomputable def treeOf:List Obj->Nat->BT->Option BT
 |[],_,t=>some t
 |o::l,n,t=>match((t.ins n o).get n).isSome with
  |true=>treeOf l (n+1) (t.ins n o)
  |false=>none
theorem lO{life:Life}:∀(l:List Obj) (n:Nat) (t r:BT),treeOf l n t=some r->absHeap r (n+l.length) life=⟨(absHeap t n life).objs++l.toArray,life⟩
 |[],n,t,r,h=>by obtain rfl:=Option.some.inj h;simp only[List.length_nil,Nat.add_zero,Array.append_empty];rfl
 |o::l,n,t,r,h=>by
  unfold treeOf at h;cases hg:((t.ins n o).get n).isSome with
  |false=>rw[hg]at h;cases h
  |true=>rw[hg]at h;have :=lO (life:=life) l (n+1) _ r h;rw[List.length_cons,show n+(l.length+1)=n+1+l.length by omega,this,absHeap_ins hg];congr 1;show(absHeap t n life).objs.push o++_=_;simp
theorem uc{h:Heap}{r:BT}(e:treeOf h.objs.toList 0 .nil=some r):absHeap r h.objs.size h.life=h:=by have :=lO (life:=h.life) _ _ _ _ e;rw[Nat.zero_add,Array.length_toList]at this;rw[this];obtain⟨objs,life⟩:=h;simp[absHeap,BT.list]
end
noncomputable section
noncomputable def zR (p:Program) (w:World):SharedT->Thread->Option (SharedT×Thread):=Fast.tw10156331382660048174 (Fast.tw11892475500146522536 Fast.tw14364793385576792824) p w
theorem zS{p:Program}{w:World}:zR p w=stepT (denote treeTable) p w:=by unfold zR;rw[<-Fast.te10156331382660048174,<-Fast.te11892475500146522536,<-Fast.te14364793385576792824]
noncomputable def P8 (n:Nat) (ann:Option Value):Thread->Bool:=Fast.tw6613529449190102663 n ann
theorem HN{n:Nat}{ann:Option Value}:P8 n ann=stepOk n ann:=by unfold P8;rw[<-Fast.te6613529449190102663]
noncomputable def lP (p q:Program) (loose:List Str) (Xt:Shared->Bool) {α:Type} (Yf:Shared->α) (g0:Bool) (w:World) (N:Nat) (s:Shared):=
 match s.heap.isNs mainGlobals&&s.gens.size==0 with
 |true=>match treeOf s.heap.objs.toList 0 .nil with
  |some t=>match Df (P8 s.heap.objs.size (s.heap.nsMap mainGlobals "__annotations__")) (zR p w) N ⟨t,s.heap.objs.size,s.heap.life,s.gens,s.drawn,s.toks,s.os⟩ (topStub p)with
   |some r=>match staticsOk (importedModules p.main.body) s.heap r.abs.heap&&namesBound p r.abs.heap&&gensDone r.abs&&laidKept s.heap r.abs.heap with
    |true=>some (Fast.tw4187177175401517315 q loose (Fast.tw5923862056798008813 p.main.body) Xt g0 r.abs,Yf r.abs)
    |false=>none
   |none=>none
  |none=>none
 |false=>none
set_option tactic.hygienic true in
theorem vI{p q:Program}{loose:List Str}{Xt:Shared->Bool}{α:Type}{Yf:Shared->α}{g0:Bool}{w:World}{N:Nat}{s:Shared}{r}(h:lP p q loose Xt Yf g0 w N s=some r):
  (topFrom treeTable p w N s).map (fun s=>(openSeen q loose (importedModules p.main.body) Xt g0 s,Yf s))=some r:=by
 unfold lP at h;unfold topFrom;split at h
 case h_2=>cases h
 rename_i h0;rw[h0];split at h
 case h_2=>cases h
 rename_i t ht;split at h
 case h_2=>cases h
 rename_i s1 hs;split at h
 case h_2=>cases h
 rename_i hc;rw[zS,HN]at hs;have :=oU _ _ _ _ hs;have e:(SharedT.mk t s.heap.objs.size s.heap.life s.gens s.drawn s.toks s.os).abs=s:=by unfold SharedT.abs;rw[uc ht]
 rw[e]at this;show Option.map _ (Option.bind (topRun treeTable p w s.heap.objs.size (s.heap.nsMap mainGlobals "__annotations__") N s (topStub p)) _)=_;rw[this];show Option.map _ (match staticsOk (importedModules p.main.body) s.heap s1.abs.heap&&namesBound p s1.abs.heap&&gensDone s1.abs&&laidKept s.heap s1.abs.heap with|true=>some s1.abs|false=>none)=_
 rw[hc];rw[<-Fast.te4187177175401517315,<-Fast.te5923862056798008813]at h;exact h
noncomputable def gx (p:Program) (w:World) (N:Nat):Option Shared:=
 (Fast.tw10274390034422433532 Fast.tw14364793385576792824 (opening p) w N (Fast.tw1435165496053646825 (opening p)).1 (Fast.tw1435165496053646825 (opening p)).2).bind (Fast.tw14289696077712309145 p)
theorem ud{p:Program}{w:World}{N:Nat}:gx p w N=fencedOpening treeTable p w N:=by unfold gx fencedOpening;rw[<-Fast.te10274390034422433532,<-Fast.te14364793385576792824,<-Fast.te1435165496053646825,<-Fast.te14289696077712309145]
theorem Dg{p q:Program}{loose:List Str}{Xt:Shared->Bool}{α:Type}{Yf:Shared->α}{Ya:World->α}{N:Nat}{g0:Bool}(row:String)
  (h:∀w:World,(gx p w N).map (fun s=>(lP p q loose Xt Yf g0 (w.withFollow row false) N s,lP p q loose Xt Yf g0 (w.withFollow row true) N s))=some (some (openGood q loose,Ya (w.withFollow row false)),some (openGood q loose,Ya (w.withFollow row true)))):
  LeftO p q loose Xt Yf Ya N g0:=LeftO.of_split row fun w=>by
 obtain⟨s,a,b⟩:=Option.map_eq_some_iff.mp (h w);obtain⟨b1,b2⟩:=Prod.mk.inj b;rw[ud]at a;rw[a];exact congrArg some (Prod.ext (vI b1) (vI b2))
end
end Mine.Internal
end
noncomputable section
open PySem PySem.W PyProof.Rows PySem.Calls
namespace Mine.Internal
noncomputable abbrev Me:List Stmt:=zQ ⟨148,12,148,22⟩ ⟨148,26,148,35⟩ ⟨148,36,148,44⟩ ⟨148,26,148,45⟩ ⟨149,15,149,25⟩ ⟨150,27,150,37⟩ ⟨150,16,150,37⟩ ⟨150,16,150,37⟩ ⟨149,12,150,37⟩ ⟨148,8,150,37⟩
noncomputable abbrev P9:Stmt:=F5 ⟨55,4,55,5⟩ ⟨55,8,55,12⟩ ⟨55,13,55,21⟩ ⟨55,8,55,22⟩ ⟨55,4,55,22⟩
noncomputable def KK (s:Shared):Frag:=zI s.heap 333 199
noncomputable def Mf (K:Frag):Bool:=((K.lookup sysModules).isSome&&(K.lookup aa.jn).any P7)&&((zK K aa.jD&&vG K aa.ic)&&(vH K aa.rF&&rQ K aa.eU))
noncomputable def Qa (K:Frag):Bool:=(P6 K).any fun r=>(F1.all (zN r.1)&&((nsFind r.1 "next").isNone&&(nsFind r.1 "StopIteration").isNone))&&((nsFind r.1 "law"==some (.ref 332))&&(nsFind r.1 "__builtins__"==some (.ref 4)))
noncomputable def Qc (K:Frag):Bool:=(K.lookup 4).any fun o=>(o.cls== .type "module")&&((o.dict==some builtinsNs)&&HM o)
noncomputable def Mg (s:Shared):Bool:=(((s.heap.get? 199).any fun o=>(o.cls== .none)&&((o.dict.isNone&&o.slots.isEmpty)&&(zO o).any fun vs=>vs.isEmpty))&&((s.heap.get? 201).any fun o=>(o.cls== .type "code")&&(zO o).any fun vs=>vs[11]?==some (.ref 199)))&&(Nat.ble 1 s.toks&&Nat.ble 200 s.heap.objs.size)
noncomputable abbrev Mh:=List (Option (Option (List S)×(Setting->(Nat->Value)->List (Option (List (Str×Value))))))×List (Option (List (Int×Str×V)))×Option (List Stmt×(Setting->Value->Value->Option (List (Str×Value))))×Option (Option Stmt×Bool)×Bool
noncomputable def HO (s:Shared):Mh:=(C8.map fun p=>Mb aa.aF L6 (KK s) 199 p.1 p.2,aa.oN.map fun p=>pY (KK s) p.1,zP (KK s) 151,F4 (KK s) 111,(Mf (KK s)&&Qa (KK s))&&(Qc (KK s)&&Mg s))
noncomputable def exp2 (w:World):Mh:=(C8.map fun p=>Dd p.2,aa.oN.map fun p=>some (p.2.map fun e=>(PyData.keyHash w.params e.1,e.1,e.2)),some (Me,fun u' x y=>some [(("self":Str),x),(("ns_stack":Str),y),(("_reversed":Str),Value.type "reversed")]),some (some P9,true),true)
end Mine.Internal
end
noncomputable section
open PySem PySem.W PyProof.Rows PySem.Calls
namespace Mine.Internal
theorem zT{p q:Program}{loose:List Str}{Xt:Shared->Bool}{α:Type}{Yf:Shared->α}{Ya:World->α}{N:Nat}{g0:Bool}(row:String)
  (h1:∀w:World,(gx p w N).map (fun s=>lP p q loose Xt Yf g0 (w.withFollow row false) N s)=some (some (openGood q loose,Ya (w.withFollow row false))))
  (h2:∀w:World,(gx p w N).map (fun s=>lP p q loose Xt Yf g0 (w.withFollow row true) N s)=some (some (openGood q loose,Ya (w.withFollow row true)))):
  LeftO p q loose Xt Yf Ya N g0:=Dg row fun w=>by
 obtain⟨s,a,b1⟩:=Option.map_eq_some_iff.mp (h1 w);obtain⟨s',a',b2⟩:=Option.map_eq_some_iff.mp (h2 w);rw[a]at a';cases a';rw[a];exact congrArg some (Prod.ext b1 b2)
noncomputable section
noncomputable abbrev pw:=PySem.Challenge.pw_ta0135_02
noncomputable def qw:Program:=PySem.W.view pw [77]
noncomputable def loose:List PySem.Str:=(pw.main.scope.names.map (·.1)).filter fun x=>x !=Str.ofString "law"
noncomputable def xt (s:Shared):Bool:=xlAt qw [] s&&recOk [] s
theorem Mi:∀w:World,(gx pw w 6888).map (fun s=>lP pw qw loose xt HO true (w.withFollow "special-get-raises" false) 6888 s)=some (some (openGood qw loose,exp2 (w.withFollow "special-get-raises" false))):=fun w=>by kernel_rfl
end
end Mine.Internal
end
noncomputable section
open PySem PySem.W PyProof.Rows PySem.Calls
namespace Mine.Internal
noncomputable section
theorem HP:∀w:World,(gx pw w 6888).map (fun s=>lP pw qw loose xt HO true (w.withFollow "special-get-raises" true) 6888 s)=some (some (openGood qw loose,exp2 (w.withFollow "special-get-raises" true))):=fun w=>by kernel_rfl
end
end Mine.Internal
end
noncomputable section
open PySem PySem.W PyProof.Rows
namespace Mine.Internal
structure dK(B:Base)(T:aM):Prop where
 sys:∃o,B.h.get? sysModules=some o
 wc:B.wc=T.wc
 aF:∀n,T.aF.contains n=true->∃u,aW T.jD T.wc n=some u
 oN:∀a es,cB T.oN a=some es->(a==sysModules)=false/\(es.map (·.1)).Nodup/\∃ds n,B.h.get? a=some (gh ds n)/\∀φ,φ.P=B.P->i9 φ es ds.toList
 jn:∃ob t,B.h.get? T.jn=some ob/\ob.cls= .type "builtin_function_or_method"/\ob.data= .fields #[.builtin "str.join",.str ⟨#[]⟩ t]
section
variable{B:Base}{T:aM}{φ az:Ph}{G:Gs}{s s':Shared}
variable{prog:Program}{w:World}{A:Around}{E:Value->Shared->Prop}{Q:Value->Shared->Prop}
noncomputable def mq(φ:Ph):List (Str×V)->List (Str×Value)->Prop
 |[],kvs=>kvs=[]
 |e::l,kvs=>∃c r,kvs=(e.1,c)::r/\VR φ e.2 c/\mq φ l r
theorem mq.keys:∀{es:List (Str×V)} {kvs:List (Str×Value)},mq φ es kvs->kvs.map (·.1)=es.map (·.1)
 |[],_,h=>h▸rfl
 |_::_,_,h=>h.elim fun c h=>h.elim fun r h=>h.1▸congrArg (List.cons _) (mq.keys h.2.2)
theorem mq.len{es:List (Str×V)}{kvs:List (Str×Value)}(h:mq φ es kvs):kvs.length=es.length:=by simpa using congrArg List.length h.keys
theorem mq.get:∀{es:List (Str×V)} {kvs:List (Str×Value)},mq φ es kvs->∀{k:Nat} {p:Str×V},es[k]?=some p->∃c,kvs[k]?=some (p.1,c)/\VR φ p.2 c
 |[],_,_,k,p,e=>by simp at e
 |_::_,_,h,k,p,e=>h.elim fun c h=>h.elim fun r h=>by
  rw[h.1];rcases k with _|k
  ·simp at e;subst e;exact⟨c,by simp,h.2.1⟩
  ·simp at e;exact(mq.get h.2.2 e).imp fun c y=>⟨by simpa using y.1,y.2⟩
theorem nq(hP:φ.P=w.params):∀{es:List (Str×V)} {ds:List DictEntry},i9 φ es ds->∃kvs:List (Str×Value),Pairs (strKind prog w) ds kvs/\mq φ es kvs/\∀d∈ds,∃k,(strKind prog w).is k d.key=true/\d.hash=(strKind prog w).hash k
 |[],_,h=>by obtain rfl:=h;exact⟨[],.nil,rfl,fun u' h=>by cases h⟩
 |e::es,_,h=>by
  refine aI (h) fun d r HQ Dh h4=>?_;(clear h;subst HQ);refine cG (Dh) fun h1 PL h3=>?_;obtain⟨t,h2⟩:=PL;refine bN (nq hP h4) fun kvs p q k=>?_;have hk:(strKind prog w).is e.1 d.key=true:=by rw[h2];exact strKind_is prog w _ _
  refine⟨(e.1,d.val)::kvs,.cons hk rfl p,⟨_,_,rfl,h3,q⟩,fun d' hd=>?_⟩;clear Dh h4 h3 h2 p q;rcases List.mem_cons.mp hd with rfl|hd
  ·exact⟨e.1,hk,by rw[h1,hP];rfl⟩
  ·exact k d' hd
theorem cY(hP:φ.P=w.params){h:Heap}{a:Addr}{es:List (Str×V)}{ds:Array DictEntry}{n:Nat}(g:h.get? a=some (gh ds n))(r:i9 φ es ds.toList)(hn:(es.map (·.1)).Nodup):
  ∃kvs:List (Str×Value),h.DictAt (strKind prog w) a kvs n/\mq φ es kvs:=by
 refine bN (nq (prog:=prog) hP r) fun kvs p q k=>?_;exact⟨kvs,⟨_,ds,g,⟨rfl,rfl,rfl⟩,rfl,fun e he=>k e (Array.mem_toList_iff.mpr he),p,by rw[q.keys];exact hn⟩,q⟩
theorem ue{x y:Str}{t:Tok}(h:x≠y):Value.isStrOf x (.str y t)=false:=beq_eq_false_iff_ne.mpr fun e=>h e.symm
noncomputable def Tells (φ:Ph) (o:Option V) (c:Option Value):Prop:=match o with
 |some v=>∃cv,c=some cv/\VR φ v cv
 |none=>c=none
theorem oV(k:Str):∀{es:List (Str×V)} {ds:List DictEntry},i9 φ es ds->Tells φ (look es k) ((ds.find? (fun e=>Value.isStrOf k e.key)).map (·.val))
 |[],_,h=>by obtain rfl:=h;rfl
 |e::es,_,h=>by
  refine aI (h) fun d r HR HS h4=>?_;(clear h;subst HR);refine cG (HS) fun h1 PM h3=>?_;obtain⟨t,h2⟩:=PM;rw[iQ];by_cases q:e.1=k
  ·rw[if_pos q,List.find?_cons_of_pos (by rw[h2,<-q];simp[Value.isStrOf])]
   exact⟨_,rfl,h3⟩
  ·rw[if_neg q,List.find?_cons_of_neg (by rw[h2];rw[ue (Ne.symm q)];decide)]
   exact oV k h4
theorem nu(hP:φ.P=w.params){h:Heap}{a:Addr}{es:List (Str×V)}{ds:Array DictEntry}{n:Nat}(g:h.get? a=some (gh ds n))(r:i9 φ es ds.toList):∃f,h.MapOf (strKind prog w) a f/\∀k,Tells φ (look es k) (f k):=by
 refine bN (nq (prog:=prog) hP r) fun kvs p q hk=>?_;refine⟨fun k=>findBy (strKind prog w).is ds k,⟨_,ds,n,g,⟨rfl,rfl,rfl⟩,rfl,fun e he=>hk e (Array.mem_toList_iff.mpr he),fun _=>rfl⟩,fun k=>?_⟩;have e:findBy (strKind prog w).is ds k=(ds.toList.find? fun e=>Value.isStrOf k e.key).map (·.val):=by rw[Array.find?_toList];rfl
 simp only[e];exact oV k r
theorem Tells.getD{o:Option V}{c:Option Value}{d:V}{cd:Value}(h:Tells φ o c)(hd:VR φ d cd):VR φ (o.getD d) (c.getD cd):=by
 rcases o with _|v
 ·obtain rfl:=h;exact hd
 ·exact h.elim fun cv q=>q.1▸q.2
theorem F6(O:dK B T)(I:Inv B φ G s){a:Addr}{es:List (Str×V)}(q:cB T.oN a=some es):(a==sysModules)=false/\(es.map (·.1)).Nodup/\∃ds n,s.heap.get? a=some (gh ds n)/\i9 φ es ds.toList:=
 let h:=O.oN a es q
 ⟨h.1,h.2.1,h.2.2.imp fun ds h=>h.imp fun n h=>⟨I.kb _ _ h.1,h.2 φ I.P⟩⟩
/-! what a function of iZ machine has answered,case by case -/
theorem xJ{P:V->Bool->Prop}{x:V}{b:Bool}(e:truthy x=some b)(h0:P (.c .none) false)(h1:∀b,P (.c (.bool b)) b)(h2:∀i:Int,P (.c (.int i)) (decide (i≠0)))(h3:∀s:Str,s.length<=lim->P (.c (.str s)) (decide (s.length≠0)))
  (h4:∀xs:List V,xs.length<=lim->P (.list xs) (!xs.isEmpty))(h5:∀es:List (Str×V),es.length<=lim/\(es.map (·.1)).Nodup->P (.dict es) (!es.isEmpty)):P x b:=by
 rcases x with k|_|l|_|es|_
 ·rcases k with _|b|i|s|_|_|_|_ <;> try(exact xa e)
  ·exact dU e h0
  ·exact dU e (h1 _)
  ·exact dU e (h2 _)
  ·exact ak e fun c e=>dU e (h3 _ c)
 ·exact xa e
 ·exact ak e fun c e=>dU e (h4 _ c)
 ·exact xa e
 ·exact ak e fun c e=>dU e (h5 _ c)
 ·exact xa e
theorem Di{P:V->Prop}{T:aM}{x y r:V}(e:gv T x y=some r)(h0:∀s:Str,((bF y).bind fun k=>if s.length<=lim then((ig k s.length).bind fun j=>s.cps[j]?).map fun c=>V.c (.str ⟨#[c]⟩)else none)=some r->P (.c (.str s)))(h1:∀l,idx l y=some r->P (.list l))(h2:∀l,idx l y=some r->P (.tup l))
  (h3:∀a,((aY y).bind fun k=>(cB T.oN a).bind fun es=>look es k)=some r->P (.c (.gd a)))(h4:∀es,(aY y).bind (look es)=some r->P (.dict es)):P x:=by
 rcases x with k|_|l|l|es|_
 ·rcases k with _|_|_|s|_|_|_|a <;> try(exact xa e)
  ·exact h0 _ e
  ·exact h3 _ e
 ·exact xa e
 ·exact h1 _ e
 ·exact h2 _ e
 ·exact h4 _ e
 ·exact xa e
theorem vJ{x:V}(h:Hp x=true):x= .sp .wr:=by
 rcases x with _|x|_|_|_|⟨_,_⟩ <;> try(exact xc h)
 rcases x with⟨⟩ <;> first|rfl|exact xc h
theorem kR{z:SL}{x:V}(h:yN z=some x):z= .v x:=by rcases z with⟨⟩ <;> first|exact xa h|exact congrArg SL.v (Option.some.inj h)
theorem zU{z:At}{y:V}(h:z.PN=some y):z= .v y:=by
 rcases z with _|_
 ·exact congrArg At.v (Option.some.inj h)
 ·exact xa h
theorem vK{v:V}{G:Gs}{r:V×Gs}(h:Lq v G=some r):v= .c .none/\(.sp .wr,G)=r:=by
 rcases v with k|_|_|_|_|_ <;> try(exact xa h)
 rcases k with⟨⟩ <;> first|exact⟨rfl,Option.some.inj h⟩|exact xa h
theorem Dj{a:Addr}{v:V}{y:SL}{G:Gs}{r:V×Gs}(h:Hl a v y G=some r):∃es,v= .c .none/\y= .iY a es/\(.inst a es,G)=r:=by
 rcases v with k|_|_|_|_|_ <;> try(exact xa h)
 rcases k with⟨⟩ <;> try(exact xa h)
 rcases y with⟨⟩ <;> try(exact xa h)
 exact ak h fun c h=>⟨_,rfl,by rw[c],Option.some.inj h⟩
theorem gV{α β:Type}{P:Prop}{o:Option α}{d:Option β}{f:α->Option β}{b:β}(h:o.elim d f=some b)(k0:o=none->d=some b->P)(k:∀a,o=some a->f a=some b->P):P:=by
 rcases o with _|a
 ·exact k0 rfl h
 ·exact k a rfl h
theorem elim_some{α β:Type}{o:Option α}{d:Option β}{f:α->Option β}{z:β}{v:α}(hn:o=some v)(h:o.elim d f=some z):f v=some z:=by subst hn;exact h
theorem elim_none{α β:Type}{o:Option α}{d:Option β}{f:α->Option β}{z:β}(hn:o=none)(h:o.elim d f=some z):d=some z:=by subst hn;exact h
theorem zV{P:V×Gs->Prop}{T:aM}{U:aE}{a fi:Addr}{vs:List V}{G:Gs}{r:V×Gs}(e:zc T U a fi vs G=some r)(b3:a=T.wc->G.wr=none->∀q,U fi (.v (.sp .wr)::vs.map .v) {G with wr:=some []}=some q->q.1= .c .none->P (.sp .wr,q.2.2))
  (b4:∀q es,U fi (.iY a []::vs.map .v) G=some q->q.1= .c .none->q.2.1= .iY a es->P (.inst a es,q.2.2)):P r:=by
 unfold zc at e;by_cases hw:a=T.wc
 ·rw[if_pos hw]at e
  exact gV e (fun hG e=>bindC e fun z h1 e=>(vK e).2▸b3 hw hG z h1 (vK e).1) fun u' u' e=>xa e
 ·rw[if_neg hw]at e
  exact bindC e fun z h1 e=>(Dj e).elim fun es q=>q.2.2▸b4 z es h1 q.1 q.2.1
theorem Dk{P:V->V×Gs->Prop}{T:aM}{x:V}{n:Str}{G:Gs}{r:V×Gs}(e:rH T x n G=some r)(h0:∀C v,aW T.rF C n=some v->P (.c (.ad C)) (v,G))(h1:∀C es u v,aW T.jD C n=some u->look es n=some v->P (.inst C es) (v,G))(h2:n="append"/\G.log.isSome=true->P (.sp .CO) (.sp .bm,G))
  (h3:∀u es y,aW T.jD T.wc n=some u->G.wr=some es->look es n=some (.v y)->P (.sp .wr) (y,G))(h4:∀es f,aW T.jD T.wc n=none->G.wr=some es->aW T.ic T.wc n=some f->(look es n).isNone=true->P (.sp .wr) (.sp (.wm f),G)):P x r:=by
 rcases x with k|x|_|_|_|⟨C,es⟩
 ·rcases k with _|_|_|_|_|_|C|_ <;> try(exact xa e)
  exact ay e fun v q e=>e▸h0 _ _ q
 ·clear h0
  rcases x with _|_|_|_|_|_|_ <;> try(exact xa e)
  ·exact gV e (fun q e=>bindC e fun es hm e=>ay e fun f hf e=>bindC hf fun f' h5 hf=>ak hf fun c hf=>e▸dU (P:=fun f=>P (.sp .wr) (.sp (.wm f),G)) hf (h4 _ _ q hm h5 c))
    fun u q e=>bindC e fun z hz e=>ay e fun y hy e=>bindC hz fun es he hl=>e▸h3 u es y q he (hl.trans (congrArg some (zU hy)))
  ·exact ak e fun c e=>dU e (h2 c)
 ·exact xa e
 ·exact xa e
 ·exact xa e
 ·exact bindC e fun u q e=>ay e fun v hl e=>e▸h1 _ _ _ _ q hl
theorem Dl{P:V->Mt×Gs->Prop}{T:aM}{o:V}{n:Str}{G:Gs}{r:Mt×Gs}(e:getM T o n G=some r)(h0:∀x,FG n=true->P (.c (.str x)) (.str x n,G))(h1:∀a es,n="get"->cB T.oN a=some es->P (.c (.gd a)) (.get es,G))(h2:∀es,n="get"->P (.dict es) (.get es,G))
  (h3:∀C es f,aW T.ic C n=some f->look es n=none->P (.inst C es) (.met f (.inst C es),G))(h4:∀es f,G.wr=some es->aW T.ic T.wc n=some f->look es n=none->P (.sp .wr) (.met f (.sp .wr),G))(h5:∀es y u,G.wr=some es->look es n=some (.v y)->aW T.jD T.wc n=some u->P (.sp .wr) (.val y,G)):P o r:=by
 rcases o with k|x|_|_|_|⟨C,es⟩
 ·rcases k with _|_|_|_|_|_|_|a <;> try(exact xa e)
  ·exact ak e fun c e=>dU e (h0 _ c)
  ·exact ak e fun c e=>ay e fun es q e=>e▸h1 _ _ c q
 ·clear h0 h1
  rcases x with _|_|_|_|_|_|_ <;> try(exact xa e)
  exact bindC e fun es he e=>gV e (fun q e=>bindC e fun z hl e=>bindC e fun y hy e=>ay e fun u hu e=>e▸h5 _ _ _ he (hl.trans (congrArg some (zU hy))) hu) fun f q e=>ak e fun c e=>dU e (h4 _ _ he q (Option.isNone_iff_eq_none.mp c))
 ·exact xa e
 ·exact xa e
 ·exact ak e fun c e=>dU e (h2 _ c)
 ·exact bindC e fun f q e=>ak e fun c e=>dU e (h3 _ _ _ q (Option.isNone_iff_eq_none.mp c))
theorem rR{P:V->V×Gs->Prop}{T:aM}{U:aE}{f:V}{vs:List V}{G:Gs}{r:V×Gs}(e:jL T U f vs G=some r)(b1:∀b v,ie b vs=some v->P (.c (.fn b)) (v,G))(b2:∀a,m7 U a vs G=some r->P (.c (.ad a)) r)
  (b3:∀fi q,cB T.eU T.wc=some fi->G.wr=none->U fi (.v (.sp .wr)::vs.map .v) {G with wr:=some []}=some q->q.1= .c .none->P (.c (.ad T.wc)) (.sp .wr,q.2.2))
  (b4:∀a fi q es,cB T.eU a=some fi->U fi (.iY a []::vs.map .v) G=some q->q.1= .c .none->q.2.1= .iY a es->P (.c (.ad a)) (.inst a es,q.2.2))(b5:∀g,m7 U g (.sp .wr::vs) G=some r->P (.sp (.wm g)) r)
  (b6:jL T U (.sp .bm) vs G=some r->P (.sp .bm) r):P f r:=by
 rcases f with k|x|_|_|_|_
 ·rcases k with _|_|_|_|_|b|a|_ <;> try(exact xa e)
  ·exact ay e fun v q e=>e▸b1 _ _ q
  ·exact gV e (fun u' e=>b2 _ e) fun fi q e=>zV (P:=P (.c (.ad a))) e (fun hw hG z h1 h2=>hw▸b3 fi z (hw▸q) hG h1 h2) fun z es h1 h2 h3=>b4 a fi z es q h1 h2 h3
 ·clear b1 b2 b3 b4
  rcases x with _|_|_|_|_|g|_ <;> try(exact xa e)
  ·exact b6 e
  ·exact b5 _ e
 ·exact xa e
 ·exact xa e
 ·exact xa e
 ·exact xa e
theorem Dm{P:V->IK->Prop}{T:aM}{x:V}{K:IK}(e:mh T x=some K)(h0:∀s,P (.c (.str s)) (.str s))(h1:∀a es,cB T.oN a=some es->P (.c (.gd a)) (.gd a es))(h2:∀l,P (.list l) (.list l))(h3:∀a b c,mZ a b c=true->P (.sp (.jC a b c)) (.jC a b c)):P x K:=by
 rcases x with k|x|l|_|_|_
 ·rcases k with _|_|_|_|_|_|_|_ <;> try(exact xa e)
  ·exact dU e (h0 _)
  ·exact ay e fun es q e=>e▸h1 _ _ q
 ·clear h0 h1
  rcases x with _|_|_|_|_|_|_ <;> try(exact xa e)
  exact ak e fun c e=>dU e (h3 _ _ _ c)
 ·exact dU e (h2 _)
 ·exact xa e
 ·exact xa e
 ·exact xa e
theorem nv{n:Nat}(h:n<=lim):(n:Int)<2 ^ 63:=by unfold lim at h;omega
theorem Mj(n:Nat):n<=n+1+1:=Nat.le_add_right n 2
set_option tactic.hygienic true in
theorem jU(hh:A.handled=none)(hP:B.P=w.params)(O:dK B T)(I:Inv B φ G s){x:V}{cx:Value}{b:Bool}{Q:Bool->Shared->Prop}(hx:VR φ x cx)(e:truthy x=some b)(h:∀s',Step B No φ s φ G s'->Q b s'):wpAny (model prog w) A (PySem.truthy cx) Q E s:=by
 refine xJ (P:=fun x b=>VR φ x cx->(∀s',Step B No φ s φ G s'->Q b s')->wpAny (model prog w) A (PySem.truthy cx) Q E s) e (fun hx h=>?_) (fun b hx h=>?_) (fun i hx h=>?_) (fun x c hx h=>?_) (fun l c hx h=>?_) (fun es c hx h=>?_) hx h
 ·(clear hh O e;obtain rfl:=hx);exact fun u' u' _=>h s (Step.refl I)
 ·(clear hh O e;obtain rfl:=hx);exact wpAny_truthy_bool (h s (Step.refl I))
 ·refine bK (hx) fun t PJ=>?_;(clear hh O e;subst PJ)
  have q:(i !=0)=decide (i≠0):=by by_cases q:i=0 <;> simp[q]
  exact P.truthy_int (q▸h s (Step.refl I))
 ·refine bK (hx) fun t PK=>?_;(clear hh O e;subst PK)
  have q:((x.length:Int)!=0)=decide (x.length≠0):=by by_cases q:x.length=0 <;> simp[q]
  exact P.truthy_str (by unfold lim at c;omega) (q▸h _ (Step.toks I (Mj _)))
 ·refine aX (hx) fun a vs n HT g r=>?_;(clear hh O e;subst HT)
  have q:(!vs.isEmpty)= !l.isEmpty:=by
   rw[<-Array.isEmpty_toList];rcases l with _|⟨x,l⟩
   ·rw[show vs.toList=[]from r];rfl
   ·refine cU (r) fun u' u' q _=>?_;rw[q];rfl
  exact wpAny_truthy_list ⟨_,I.keep _ _ g,rfl,_,rfl⟩ (nv (r.size▸c)) (q▸h _ (Step.toks I (Mj _)))
 ·refine bw (hx) fun a ds n HU ns g r=>?_;(clear hh O hx e;subst HU)
  refine av (cY (prog:=prog) (I.P.trans hP) (I.keep _ _ g) r c.2) fun kvs hm hk=>?_;have q:(!kvs.isEmpty)= !es.isEmpty:=by
   clear hP g r hx;rcases es with _|⟨x,l⟩
   ·rw[show kvs=[]from hk];rfl
   ·refine cU (hk) fun u' u' q _=>?_;rw[q];rfl
  exact wpAny_truthy_dict ns hm.dictOf (nv (hk.len▸c.1)) (q▸h _ (Step.toks I (Mj _)))
theorem ny{k:Int}{n j:Nat}(h:ig k n=some j):seqIndex? k n=some j/\ -(n:Int)<=k/\k<n/\((0<=k/\j=k.toNat)\/(k<0/\j=(k+n).toNat)):=by
 unfold ig at h;unfold seqIndex?;by_cases h0:0<=k
 ·rw[if_pos h0]at h
  refine ak h fun h1 e=>?_
  (revert h;apply af (e);intro h)
  simp[Int.not_lt.mpr h0,h0,h1];omega
 ·rw[if_neg h0]at h
  refine ak h fun h1 e=>?_
  (revert h;apply af (e);intro h)
  have h2:k<0:=by omega
  simp only[h2,if_true];have h3:0<=k+n:=by omega
  have h4:k+n<n:=by omega
  simp[h3,h4];omega
theorem zW{l:List V}{y r:V}{cy:Value}{a:Addr}{vs:Array Value}{n:Nat}(g:s.heap.get? a=some (lo vs n))(rl:bz φ l vs.toList)(hy:VR φ y cy)(e:idx l y=some r)(h:∀c,VR φ r c->Q c s):wpAny (model prog w) A (getItem (.ref a) cy) Q E s:=
 jH (P:=fun cy=>wpAny _ _ (getItem _ cy) _ _ _) hy e fun k t e=>ak e fun c e=>bindC e fun j q1 q2=>by
  refine bW (ny q1) fun b0 b1 b2 b3=>?_;refine av (rl.get q2) fun cv h1 h2=>?_;have hz:=rl.size;unfold lim at c;rcases b3 with⟨k0,rfl⟩|⟨k0,rfl⟩
  ·exact wpAny_getItem_list ⟨_,g,rfl,_,rfl⟩ k0 (by omega) (x:=cv) (by simpa using h1) (h _ h2)
  ·exact wpAny_getItem_list_neg ⟨_,g,rfl,_,rfl⟩ k0 (by rw[hz];exact b1) (by omega) (x:=cv) (by rw[hz];simpa using h1) (h _ h2)
set_option tactic.hygienic true in
theorem w_getI(hP:B.P=w.params)(O:dK B T)(I:Inv B φ G s){x y r:V}{cx cy:Value}(hx:VR φ x cx)(hy:VR φ y cy)(e:gv T x y=some r)(h:KV B φ G s r Q):wpAny (model prog w) A (getItem cx cy) Q E s:=by
 refine Di (P:=fun x=>VR φ x cx->wpAny (model prog w) A (getItem cx cy) Q E s) e (fun x e hx=>?_) (fun l e hx=>?_) (fun l e hx=>?_) (fun a e hx=>?_) (fun es e hx=>?_) hx
 ·refine bK (hx) fun t Lg=>?_;subst Lg
  refine jH (P:=fun cy=>wpAny _ _ (getItem _ cy) _ _ _) hy e fun k u e=>ak e fun c e=>ay e fun ch q e=>bindC q fun j q1 q2=>?_;refine bW (ny q1) fun b0 b1 b2 b3=>?_;unfold lim at c;refine getItem_str (c:=ch) ?_ (b0▸q2) (g9 I (e▸h) (Nat.le_add_right _ _));have a1:¬k< -(2 ^ 63:Int):=by omega
  have a2:¬k≥2 ^ 63:=by omega
  simp only[decide_eq_false a1,decide_eq_false a2];rfl
 ·refine aX (hx) fun a vs n HV g rl=>?_;subst HV
  exact zW (I.keep _ _ g) rl hy e fun c hc=>ve I hc h
 ·refine aX (hx) fun a vs n HW g rl=>?_;subst HW
  refine jH (P:=fun cy=>wpAny _ _ (getItem _ cy) _ _ _) hy e fun k t e=>ak e fun c e=>bindC e fun j q1 q2=>?_;refine bW (ny q1) fun b0 b1 b2 b3=>?_;refine av (rl.get q2) fun cv h1 h2=>?_;have hz:=rl.size;unfold lim at c;exact P.getItem_tuple (I.keep _ _ g) (by omega) (by omega) (hz▸b0) (by simpa using h1) (ve I h2 h)
 ·obtain rfl:=hx
  refine jI (P:=fun cy=>wpAny _ _ (getItem _ cy) _ _ _) hy e fun k t e=>bindC e fun es q e=>?_;refine jE (F6 O I q) fun h1 h2 ds n h3 h4=>?_;refine av (nu (prog:=prog) (I.P.trans hP) h3 h4) fun f hm hf=>?_;have hk:=hf k;rw[e]at hk;exact hk.elim fun cv q=>wpAny_getItem_of (strKind_is prog w k t) hm q.1 (h _ _ _ q.2 (Step.toks I (Nat.le_succ _)))
 ·refine bw (hx) fun a ds n Qd ns g rl=>?_;(clear O hx ns;subst Qd)
  refine jI (P:=fun cy=>wpAny _ _ (getItem _ cy) _ _ _) hy e fun k t e=>?_;refine av (nu (prog:=prog) (I.P.trans hP) (I.keep _ _ g) rl) fun f hm hf=>?_;have hk:=hf k;rw[e]at hk;exact hk.elim fun cv q=>wpAny_getItem_of (strKind_is prog w k t) hm q.1 (h _ _ _ q.2 (Step.toks I (Nat.le_succ _)))
end
end Mine.Internal
end
noncomputable section
open PySem PySem.W PyProof.Rows
namespace Mine.Internal
theorem oW{α:Type}{cmp:Nat->Nat->(Bool->Shared->Prop)->Shared->Prop}{n:Nat}{lt:Nat->Nat->Bool}{Q:α->Shared->Prop}{s:Shared}(h:∀i j (C:Bool->Shared->Prop),i<n->j<n->C (lt i j) s->cmp i j C s):
  ∀(t:KasT α) (a:α),tW n lt t=some a->Q a s->t.kasWp cmp Q s
 | .ret a,_,e,q=>by(revert q;apply af (e);intro q);exact q
 | .ask i j k,a,e,q=>by exact ak e fun c e=>h i j _ c.1 c.2 (oW h (k (lt i j)) a e q)
section
variable{prog:Program}{w:World}{A:Around}{E:Value->Shared->Prop}{s:Shared}{vs:List Value}{T:Value}{lt:Nat->Nat->Bool}{pm:List Nat}
theorem nA{a:Addr}{n:Nat}{P:PySem.Fin->Shared->Prop}(ho:s.heap.get? a=some (seqObj "list" vs.toArray n))
  (nB:m6 vs.length lt=some pm)(h2:2<=vs.length)(h64:vs.length<64)(hT1:(T !=Value.type "tuple")=true)(hT2:(T==T)=true)
  (hT:∀h',(∀b o,b≠a->s.heap.get? b=some o->h'.get? b=some o)->∀v∈vs,Looks (model prog w) h' (typeOf v) T)
  (hc:∀h',(∀b o,b≠a->s.heap.get? b=some o->h'.get? b=some o)->∀i j (C:Bool->Shared->Prop),i<vs.length->j<vs.length->C (lt i j) {s with heap:=h'}->kas_ask prog w A oneType' vs i j C {s with heap:=h'})
  (h:∀h' c,(∀b o,b≠a->s.heap.get? b=some o->h'.get? b=some o)->h'.get? a=some (seqObj "list" (List.toArray (pm.map fun i=>vs.getD i Value.none)) c)->P (.done (.ret .none)) {s with heap:=h'}):
  wpAny (model prog w) A (Builtin.«list.sort» ⟨[.ref a],[]⟩) P E s:=by
 have ha:a<s.heap.objs.size:=Heap.lt_size ho;have s1:=Heap.SameBut.update s.heap a (Obj.mapSeq fun _=>(#[]:Array Value));obtain⟨e1,Dn⟩:∃e1,(s.heap.update a (Obj.mapSeq fun _=>(#[]:Array Value))).get? a=some (seqObj "list" #[] e1):=⟨_,get?_update_seq ho fun _=>#[]⟩;have k3:∀b o,b≠a->s.heap.get? b=some o->(((s.heap.update a (Obj.mapSeq fun _=>(#[]:Array Value))).push (seqObj "tuple" vs.toArray 0)).push (seqObj "list" #[] 0)).get? b=some o:=fun b o hb e=>
  Heap.get?_push_of_some _ (Heap.get?_push_of_some _ ((s1.2 b hb).trans e))
 have F7:(((s.heap.update a (Obj.mapSeq fun _=>(#[]:Array Value))).push (seqObj "tuple" vs.toArray 0)).push (seqObj "list" #[] 0)).get? a=some (seqObj "list" #[] e1):=Heap.get?_push_of_some _ (Heap.get?_push_of_some _ Dn);refine av (Option.map_eq_some_iff.mp nB) fun pa hpa hpl=>?_;have ask:(kas_sort vs.length).kasWp (kas_ask prog w A oneType' vs) (fun p s'=>p.toList=pm/\s'={s with heap:=((s.heap.update a (Obj.mapSeq fun _=>(#[]:Array Value))).push (seqObj "tuple" vs.toArray 0)).push (seqObj "list" #[] 0)})
   {s with heap:=((s.heap.update a (Obj.mapSeq fun _=>(#[]:Array Value))).push (seqObj "tuple" vs.toArray 0)).push (seqObj "list" #[] 0)}:=oW (hc _ k3) _ pa hpa ⟨hpl,rfl⟩
 simp only[kas_ask_eq]at ask;rw[list_sort_plain];refine wpAny_bind (listItems_at ho rfl ?_);refine wpAny_bind (listUpdate_at ho rfl ?_ (by rw[List.size_toArray,sizeLine_eq];omega) (Nat.zero_le _));refine wpAny_bind (seqEpoch_at Dn rfl ?_);refine wpAny_bind (wpAny_newTuple ?_ (by show vs.length<=_;rw[sizeLine_eq];omega));refine wpAny_bind (wpAny_newList ?_ (Nat.zero_le _));refine wpAny_holding ?_;have hn2:¬vs.toArray.size<2:=by rw[List.size_toArray];omega
 refine w_eq (by rw[if_neg hn2,if_neg hn2]) ?_;refine wpAny_bind (kas_kind h2 (hT _ k3) hT1 hT2 ?_);have Uc:SortSt.mk' oneType' (vs.toArray.zip vs.toArray) #[] 7 none=kas_st oneType' (pairsOf vs) (List.toArray (List.range vs.length)):=by have e:=kas_range (pairsOf vs);rw[pairsOf_size]at e;show SortSt.mk' oneType' (pairsOf vs) #[] 7 none=SortSt.mk' oneType' ((List.toArray (List.range vs.length)).map (kas_item (pairsOf vs))) #[] 7 none;rw[e]
 have run:=kas_runs (E:=E) (Q:=fun u' st' s'=>∃p:Array Nat,p.size=vs.length/\arrOf st'=p.map (kas_item (pairsOf vs))/\failedOf st'=none/\p.toList=pm/\s'={s with heap:=((s.heap.update a (Obj.mapSeq fun _=>(#[]:Array Value))).push (seqObj "tuple" vs.toArray 0)).push (seqObj "list" #[] 0)})
  h2 h64 (fun p' st' s' a1 a2 a3 a4=>⟨p',a1,a2,a3,a4⟩) ask
 simp only[<-Uc]at run;refine wpAny_bind (wpAny_mono run ?_ fun u' u' e=>e);rintro⟨⟨⟩,st'⟩ s' ⟨p,hp,har,hf,rfl,rfl⟩;dsimp only;have hout:(arrOf st').map (·.2)=List.toArray (p.toList.map fun i=>vs.getD i Value.none):=by apply Array.toList_inj.mp;rw[har,Array.map_map,Array.toList_map];exact List.map_congr_left fun i _=>by show(kas_item (pairsOf vs) i).2=_;rw[kas_item_eq]
 have hsz:(List.toArray (p.toList.map fun i=>vs.getD i Value.none)).size=vs.length:=by simp only[List.size_toArray,List.length_map,Array.length_toList,hp]
 rw[hout];refine wpAny_bind (seqEpoch_at F7 rfl ?_);refine wpAny_bind (listUpdate_at F7 rfl ?_ (Nat.zero_le _) (Nat.le_trans (Nat.le_of_eq hsz) (by rw[sizeLine_eq];omega)));rw[hf];simp only[bne_self_eq_false,Bool.false_eq_true,if_false];have s2:=Heap.SameBut.update (((s.heap.update a (Obj.mapSeq fun _=>(#[]:Array Value))).push (seqObj "tuple" vs.toArray 0)).push (seqObj "list" #[] 0)) a (Obj.mapSeq fun _=>List.toArray (p.toList.map fun i=>vs.getD i Value.none));exact wpAny_pure (h _ _ (fun b o hb e=>(s2.2 b hb).trans (k3 b o hb e)) (get?_update_seq F7 fun _=>List.toArray (p.toList.map fun i=>vs.getD i Value.none)))
theorem rS{l:Addr}{Q:Value->Shared->Prop}(hl:s.heap.IsList l vs.toArray)(nB:m6 vs.length lt=some pm)(h2:2<=vs.length)(h64:vs.length<64)(hT1:(T !=Value.type "tuple")=true)(hT2:(T==T)=true)
  (hT:∀h',(∀b o,s.heap.get? b=some o->h'.get? b=some o)->∀v∈vs,Looks (model prog w) h' (typeOf v) T)
  (hc:∀h',(∀b o,s.heap.get? b=some o->h'.get? b=some o)->∀i j (C:Bool->Shared->Prop),i<vs.length->j<vs.length->C (lt i j) {s with heap:=h'}->kas_ask prog w A.in1.in1 oneType' vs i j C {s with heap:=h'})
  (h:∀h' c,(∀b o,s.heap.get? b=some o->h'.get? b=some o)->h'.get? (s.heap.objs.size+1)=some (seqObj "list" (List.toArray (pm.map fun i=>vs.getD i Value.none)) c)->Q (.ref (s.heap.objs.size+1)) {s with heap:=h'}):
  wpAny (model prog w) A (call (.builtin "sorted") [.ref l]) Q E s:=by
 refine Calls.call_function_entry kind_sorted plain_sorted entry_sorted (args_sorted1 _) ?_;refine wpAny_bind (m:=checkCount "sorted" 1 1 _) (wpAny_pure ?_);refine wpAny_bind (collect_list hl ?_ (by rw[sizeLine_eq];omega));refine wpAny_bind (wpAny_newList ?_ (by rw[sizeLine_eq];omega));have hsz:((s.heap.push (seqObj "list" #[] 0)).update s.heap.objs.size (Obj.mapSeq (· ++vs.toArray))).objs.size=s.heap.objs.size+1:=by simp only[Heap.size_update,size_push']
 have hk:∀b o,s.heap.get? b=some o->(((s.heap.push (seqObj "list" #[] 0)).update s.heap.objs.size (Obj.mapSeq (· ++vs.toArray))).push (seqObj "list" vs.toArray 0)).get? b=some o:=fun b o e=>by have hb:=Heap.lt_size e;refine Heap.get?_push_of_some _ ?_;rw[Heap.get?_update_other _ _ (Nat.ne_of_gt hb)];exact Heap.get?_push_of_some _ e
 have Mk:(((s.heap.push (seqObj "list" #[] 0)).update s.heap.objs.size (Obj.mapSeq (· ++vs.toArray))).push (seqObj "list" vs.toArray 0)).get? (s.heap.objs.size+1)=some (seqObj "list" vs.toArray 0):=by rw[<-hsz];exact Heap.get?_push_size _ rfl
 show wpAny _ _ _ _ _ {s with heap:=((s.heap.push (seqObj "list" #[] 0)).update s.heap.objs.size (Obj.mapSeq (· ++vs.toArray))).push (seqObj "list" vs.toArray 0)};rw[hsz];have off:∀b o,s.heap.get? b=some o->b≠s.heap.objs.size+1:=fun b o e=>Nat.ne_of_lt (Nat.lt_succ_of_lt (Heap.lt_size e));refine wpAny_bind (wpAny_holding (wpAny_call_entry slot_list_sort ⟨_,Mk,rfl⟩ entry_list_sort (nA Mk nB h2 h64 hT1 hT2 (fun h' k=>hT h' fun b o e=>k b o (off b o e) (hk b o e)) (fun h' k=>hc h' fun b o e=>k b o (off b o e) (hk b o e)) fun h' c k e=>⟨_,rfl,?_⟩) (args_list_sort _)));exact wpAny_pure ⟨_,rfl,h h' c (fun b o e=>k b o (off b o e) (hk b o e)) e⟩
end
end Mine.Internal
end
noncomputable section
open PySem PySem.W PyProof.Rows
set_option backward.match.sparseCases false
namespace Mine.Internal
theorem mw{α:Type}{φ:Ph}{P:List Value->Prop}{f:V->Option α}{vs:List V}{r:α}{aP:List Value}(hv:bz φ vs aP)(e:one f vs=some r)(k:∀x c,VR φ x c->f x=some r->P [c]):P aP:=by
 unfold one at e;split at e
 ·obtain⟨c,m,rfl,h1,h2⟩:=hv
  subst h2;exact k _ c h1 e
 ·exact xa e
theorem Ml{α:Type}{φ:Ph}{P:List Value->Prop}{f:V->V->Option α}{vs:List V}{r:α}{aP:List Value}(hv:bz φ vs aP)(e:two f vs=some r)(k:∀x y c d,VR φ x c->VR φ y d->f x y=some r->P [c,d]):P aP:=by
 unfold two at e;split at e
 ·obtain⟨c,m,rfl,h1,d,m',rfl,h2,h3⟩:=hv
  subst h3;exact k _ _ c d h1 h2 e
 ·exact xa e
theorem aD{α β:Type}{P:Prop}{f:α->Option β}{x:α}{l:List α}{r:List β}(h:aA f (x::l)=some r)(k:∀y q,f x=some y->aA f l=some q->r=y::q->P):P:=bindC h fun y h1 h=>ay h fun q h2 h=>k y q h1 h2 h.symm
section
variable{B:Base}{T:aM}{φ az:Ph}{G:Gs}{s s':Shared}
variable{prog:Program}{w:World}{A:Around}{E:Value->Shared->Prop}{Q:Value->Shared->Prop}
theorem ints_of:∀{l:List V} {vs:List Value} {ns:List Int},bz φ l vs->FE l=some ns->IntsAre vs ns
 |[],_,_,r,e=>by obtain rfl:=r;(apply af (e));exact .nil
 |x::l,_,_,r,e=>aD e fun n q h1 h2 h=>r.elim fun c r=>r.elim fun m r=>by rw[fh h1]at r;simp only[h,r.1];exact r.2.1.elim fun t z=>z▸ .cons _ _ (ints_of r.2.2 h2)
theorem mF:∀{l:List V} {vs:List Value} {ss:List Str},bz φ l vs->lK l=some ss->∃ts:List (Str×Tok),vs=strValues ts/\ts.map (·.1)=ss
 |[],_,_,r,e=>by obtain rfl:=r;(apply af (e));exact⟨[],rfl,rfl⟩
 |x::l,_,_,r,e=>aD e fun n q h1 h2 h=>r.elim fun c r=>r.elim fun m r=>by rw[bh h1]at r;rw[h,r.1];exact r.2.1.elim fun t z=>(mF r.2.2 h2).elim fun ts y=>⟨(n,t)::ts,by rw[z,y.1];rfl,by simp[y.2]⟩
theorem oX:∀(l:List (Str×Tok)),bz φ ((l.map (·.1)).map fun x=>V.c (.str x)) (strValues l)
 |[]=>.nil
 |(x,t)::l=>.cons ⟨t,rfl⟩ (oX l)
theorem vL:∀{ns:List Int} {b:List UInt8},Hh ns=some b->(∀n∈ns,0<=n/\n<256)/\b=ns.map fun n=>n.toNat.toUInt8
 |[],_,e=>by(apply af (e));exact⟨fun _ h=>(nomatch h),rfl⟩
 |n::l,_,e=>aD e fun y q h1 h2 h=>ak h1 fun c h1=>by
  refine cJ (vL h2) fun i1 i2=>?_
  (rename_i aH;clear aH;revert h;apply af (h1);intro h)
  exact⟨fun m hm=>(List.mem_cons.mp hm).elim (fun q=>q▸c) (i1 m),by rw[h,i2];rfl⟩
theorem mG:∀{l:List V} {vs:List Value} {ss:List Str},bz φ l vs->lK l=some ss->∀{k:Nat},k<vs.length->∃t,vs[k]?=some (Value.str (ss.getD k ⟨#[]⟩) t)
 |[],_,_,r,e,k,hk=>by obtain rfl:=r;cases hk
 |x::l,_,_,r,e,k,hk=>aD e fun n q h1 h2 h=>r.elim fun c r=>r.elim fun m r=>by
  rw[bh h1]at r;rw[r.1]at hk⊢;rw[h];rcases k with _|k
  ·exact r.2.1.imp fun t z=>by rw[z];rfl
  ·exact(mG r.2.2 h2 (Nat.lt_of_succ_lt_succ hk)).imp fun t z=>by simpa using z
theorem oY:∀{l:List V} {vs:List Value} {ss:List Str},lK l=some ss->StrsAre vs ss->bz φ l vs
 |[],_,_,e,r=>by(revert r;apply af (e);intro r);cases r;exact .nil
 |x::l,_,_,e,r=>aD e fun n q h1 h2 h=>by
  (clear e;subst h)
  cases r with
  |cons y t r=>rw[bh h1];exact .cons ⟨t,rfl⟩ (oY h2 r)
theorem nC{l:List V}{vs:List Value}(r:bz φ l vs):∀(p:List Nat),bz φ (p.map fun i=>l.getD i (.c .none)) (p.map fun i=>vs.getD i Value.none)
 |[]=>.nil
 |i::p=>by
  refine .cons ?_ (nC r p);simp only[List.getD_eq_getElem?_getD,List.getD_eq_getElem?_getD];cases h:l[i]? with
  |none=>rw[r.get_none h];rfl
  |some v=>exact(r.get h).elim fun cv q=>by rw[q.1];exact q.2
theorem Dp(I:Inv B φ G s){a:Addr}{vs:Array Value}{n:Nat}{l:List V}{ss:List Str}{r:V}(g:s.heap.get? a=some (lo vs n))(rl:bz φ l vs.toList)(hs:lK l=some ss)(e:FF l ss=some r)(h:KV B φ G s r Q):wpAny (model prog w) A (call (.builtin "sorted") [.ref a]) Q E s:=by
 have lz:vs.toList.length=l.length:=rl.length.symm;refine ak e fun c e=>?_;by_cases h2:2<=l.length
 ·rw[if_pos h2]at e
  refine ay e fun pm nB e=>?_;subst e;refine rS (vs:=vs.toList) (T:=.type "str") ⟨_,g,rfl,n,rfl⟩ (lz▸nB) (lz▸h2) (lz▸c) rfl rfl (fun h' _ v hv=>?_) (fun h' _ i j C hi hj hC=>?_) fun h' c k g=>?_
  ·refine bK (List.getElem?_of_mem hv) fun k hk=>?_
   refine bK (mG rl hs (List.getElem?_eq_some_iff.mp hk).1) fun t ht=>?_;rw[hk]at ht
   (rename_i aH _;clear aH;(clear nB hv hk;obtain rfl:=Option.some.inj ht))
   exact Looks.of_pure rfl
  ·refine bK (mG rl hs hi) fun t ht=>?_
   refine bK (mG rl hs hj) fun u hu=>?_;unfold kas_ask;refine w_eq (by rw[List.getD_eq_getElem?_getD,List.getD_eq_getElem?_getD,ht,hu]) ?_;exact kas_lt_str hC
  ·exact h _ (φ.put _ _) {s with heap:=h'} ⟨_,_,_,rfl,aR,by rw[List.toList_toArray];exact(nC rl _).mono (Ph.bD (I.free (Heap.get?_none_of_le (Nat.le_succ _))).1)⟩ (Step.make I k (Heap.get?_none_of_le (Nat.le_succ _)) g (Nat.le_refl _))
 ·rw[if_neg h2]at e
  (rename_i aH;clear aH;revert h;apply af (e);intro h)
  have hS:StrsAre vs.toList ss:=(mF rl hs).elim fun ts y=>by rw[y.1,<-y.2];exact strsAre_of_values ts
  refine sorted_strs (vs:=vs.toList) ⟨_,g,rfl,n,rfl⟩ hS (lz▸c) fun out ss' a1 a2 a3=>?_;refine bK (sortedAll_at s.heap vs.toList out) fun e3 he=>?_;have l3:ss.length=l.length:=hS.len_eq.symm.trans lz;have hss:ss'=ss:=by
   have l1:=a2.length_eq
   match ss,ss',a2 with
   |[],[],_=>rfl
   |[x],[y],a2=>rw[List.perm_singleton.mp a2]
   |[],_::_,_=>(clear g rl lz c a2 hS a3;cases l1)
   |_::_,[],_=>(clear g rl lz c a2 hS a3;cases l1)
   |[_],_::_::_,_=>(clear g rl lz c a2 hS a3;cases l1)
   |_::_::_,_,_=>exact absurd (l3▸Nat.le_add_left 2 _) h2
  (clear g rl lz c h2 hS a2 a3 l3;subst hss)
  exact h _ (φ.put _ _) {s with heap:=sortedAll s.heap vs.toList out} ⟨_,_,_,rfl,aR,(oY hs a1).mono (Ph.bD (I.free (Heap.get?_none_of_le (Nat.le_succ _))).1)⟩ (Step.make I (fun b o e=>sortedAll_old e) (Heap.get?_none_of_le (Nat.le_succ _)) he (Nat.le_refl _))
end
end Mine.Internal
end
noncomputable section
open PySem PySem.W PyProof.Rows
namespace Mine.Internal
section
variable{B:Base}{T:aM}{φ az:Ph}{G:Gs}{s s':Shared}
variable{prog:Program}{w:World}{A:Around}{E:Value->Shared->Prop}{Q:Value->Shared->Prop}
theorem HY(I:Inv B φ G s){x:V}{cx:Value}{n:Int}(hx:VR φ x cx)(e:Hi x=some n)(h:KV B φ G s (.c (.int n)) Q):wpAny (model prog w) A (call (.builtin "len") [cx]) Q E s:=by
 unfold Hi at e;split at e
 ·refine bK (hx) fun t HU=>?_;subst HU
  exact ak e fun c e=>len_str (Int.not_le.mpr (nv c)) (cH I (Option.some.inj e▸h) (Nat.le_add_right _ 2))
 ·refine aX (hx) fun a vs n HZ g r=>?_;subst HZ
  exact ak e fun c e=>Calls.call_len_list ⟨_,I.keep _ _ g,rfl,_,rfl⟩ (nv (r.size▸c)) (cH I (by rw[r.size];exact Option.some.inj e▸h) (Nat.le_add_right _ 2))
 ·refine aX (hx) fun a vs n H6 g r=>?_;subst H6
  exact ak e fun c e=>P.len_tuple (I.keep _ _ g) (Int.not_le.mpr (nv (r.size▸c))) (cH I (by rw[r.size];exact Option.some.inj e▸h) (Nat.le_add_right _ 2))
 ·exact xa e
theorem zX(I:Inv B φ G s){a b:Int}{r:V}{t u v t':Tok}(e:Hj a b=some r)(h:KV B φ G s r Q)(ht:s.toks<=t'):Q (.ref s.heap.objs.size) {s with heap:=s.heap.push {cls:=.type "range",data:=.fields #[.int a t,.int b u,.int 1 v]},toks:=t'}:=
 ak e fun c e=>h _ _ _ (Option.some.inj e▸⟨_,t,u,v,rfl,aR⟩) (Step.mW I rfl ht)
theorem Dq(I:Inv B φ G s)(hh:A.handled=none){b:Bf}{vs:List V}{aP:List Value}{r:V}(hv:bz φ vs aP)(e:ie b vs=some r)(h:KV B φ G s r Q):wpAny (model prog w) A (call b.val aP) Q E s:=by
 cases b with
 |len=>exact mw (P:=fun aP=>wpAny _ _ (call (.builtin "len") aP) _ _ _) hv e fun x c hx e=>ay e fun n e q=>HY I hx e (q▸h)
 |range=>
  exact gu e (fun e=>mw (P:=fun aP=>wpAny _ _ (call (.type "range") aP) _ _ _) hv e fun x c hx e=>jH (P:=fun c=>wpAny _ _ (call (.type "range") [c]) _ _ _) hx e fun n t e=>call_range_1 (zX I e h (Nat.le_add_right _ 2)))
   fun e=>Ml (P:=fun aP=>wpAny _ _ (call (.type "range") aP) _ _ _) hv e fun x y c d hx hy e=>jH (P:=fun c=>wpAny _ _ (call (.type "range") [c,d]) _ _ _) hx e fun n t e=>jH (P:=fun d=>wpAny _ _ (call (.type "range") [_,d]) _ _ _) hy e fun m u e=>call_range_2 (zX I e h (Nat.le_succ _))
 |chr=>exact mw (P:=fun aP=>wpAny _ _ (call (.builtin "chr") aP) _ _ _) hv e fun x c hx e=>jH (P:=fun c=>wpAny _ _ (call (.builtin "chr") [c]) _ _ _) hx e fun n t e=>ak e fun c e=>chr_of_range c.1 c.2 (g9 I (Option.some.inj e▸h) (Nat.le_add_right _ _))
 |ord=>exact mw (P:=fun aP=>wpAny _ _ (call (.builtin "ord") aP) _ _ _) hv e fun x c hx e=>jI (P:=fun c=>wpAny _ _ (call (.builtin "ord") [c]) _ _ _) hx e fun n t e=>ak e fun c e=>ord_of_one c (cH I (Option.some.inj e▸h) (Nat.le_add_right _ _))
 |tuple=>refine mw (P:=fun aP=>wpAny _ _ (call (.type "tuple") aP) _ _ _) hv e fun x c hx e=>jc I (P:=fun c=>wpAny _ _ (call (.type "tuple") [c]) _ _ _) hx e fun l a vs n g u' rl e=>ak e fun c e=>call_tuple_list ⟨_,g,rfl,_,rfl⟩ (fun h' hk=>?_) (Nat.le_trans (Nat.le_of_eq rl.length.symm) (Nat.le_trans c bG));have st:Step B No φ s φ G {s with heap:=h'}:=Step.more I hk (Nat.le_refl _);exact h _ _ _ (Option.some.inj e▸⟨_,_,0,rfl,aR,rl.mono (tR st.inv _)⟩) (st.trans (Step.mW st.inv rfl (Nat.le_refl _)))
 |bytes=>
  refine mw (P:=fun aP=>wpAny _ _ (call (.type "bytes") aP) _ _ _) hv e fun x c hx e=>jc I (P:=fun c=>wpAny _ _ (call (.type "bytes") [c]) _ _ _) hx e fun l a vs n g u' rl e=>bindC e fun b q e=>bindC q fun ns q1 q2=>ak e fun c e=>?_;refine cJ (vL q2) fun o1 o2=>?_;have hI:=ints_of rl q1;have hz:vs.toList.length<=sizeLine:=by
   have h2:b.length=ns.length:=by rw[o2];simp
   simp only[hI.length,<-h2];exact Nat.le_trans c bG
  refine wpAny_with_toks (Nat.le_refl _) (call_bytes_ints (vs:=vs.toList) ⟨_,g,rfl,n,rfl⟩ hI o1 hz hh fun h' t k hk ht=>?_);exact h _ _ {s with heap:=h',toks:=k} (Option.some.inj e▸⟨t,by rw[o2];rfl⟩) (Step.more I hk ht)
 |sorted=>exact mw (P:=fun aP=>wpAny _ _ (call (.builtin "sorted") aP) _ _ _) hv e fun x c hx e=>jc I (P:=fun c=>wpAny _ _ (call (.builtin "sorted") [c]) _ _ _) hx e fun l a vs n g u' rl e=>bindC e fun ss hs e=>Dp I g rl hs e h
 |iter=>exact xa e
 |next=>exact xa e
 |list=>exact xa e
 |set=>exact xa e
theorem vM(I:Inv B φ G s){x:Str}{t:Tok}{a:Addr}{vs:Array Value}{n:Nat}{l:List V}{r:V}(g:s.heap.get? a=some (lo vs n))(rl:bz φ l vs.toList)(e:lM x l=some r)(h:KV B φ G s r Q):wpAny (model prog w) A (call (.builtin "str.join") [.str x t,.ref a]) Q E s:=
 bindC e fun ss q e=>ak e fun c e=>(mF rl q).elim fun ts y=>wpAny_with_toks (Nat.le_refl _) (SC.join (l:=ts) (texts:=ss) (by rw[<-y.1];exact⟨_,g,rfl,_,rfl⟩) y.2 c fun t' k ht=>g9 I (Option.some.inj e▸h) ht)
open PySem.Builtin PySem.Builtin.Str in
theorem Dr{x y:Str}{t u:Tok}{Q:Value->Shared->Prop}(hy:(y.length==0)=false)(hx:x.length<=1000000)
  (h:∀(l:List (Str×Tok)) k,s.toks<=k->l.map (·.1)=Txt.split x y->Q (.ref s.heap.objs.size) {s with heap:=s.heap.push (lo (strValues l).toArray 0),toks:=k}):
  wpAny (model prog w) A (call (.builtin "str.split") [.str x t,.str y u]) Q E s:=by
 have hn:(partsBetween x (occurrences x y 0 x.length (x.length+1)) y.length).length<=sizeLine:=by have e1:=StrLaws.occ_length_le x y 0 x.length (x.length+1);rw[length_partsBetween,sizeLine_eq];omega
 unfold Txt.split at h;cases h1:(decide (x.length<y.length)||decide (strKind x<strKind y))
 ·rw[if_neg (ne_true_of_eq_false h1)]at h
  cases hf:(occurrences x y 0 x.length (x.length+1)).isEmpty
  ·rw[if_neg (ne_true_of_eq_false hf)]at h
   refine call_meets PySem.F.slot_str_split (typeIs_str _ _ _) PySem.F.entry_str_split (PySem.F.args_str_split_2 _ _) (meets_str_split_sep x y t u h1 hy hf (by rw[sizeLine_eq];omega) hn) ?_;show wants Q E _ {s with toks:=_,heap:=s.heap.push {cls:=.type "list",data:=.seq (strsFrom s.toks (partsBetween x (occurrences x y 0 x.length (x.length+1)) y.length)).toArray}};rw[strsFrom_eq];exact h (numbered s.toks _) _ (Nat.le_add_right _ _) (numbered_texts _ _)
  ·rw[if_pos hf]at h
   exact call_meets PySem.F.slot_str_split (typeIs_str _ _ _) PySem.F.entry_str_split (PySem.F.args_str_split_2 _ _) (meets_str_split_not_found x y t u h1 hy hf) (h [(x,t)] s.toks (Nat.le_refl _) rfl)
 ·rw[if_pos h1]at h
  exact call_meets PySem.F.slot_str_split (typeIs_str _ _ _) PySem.F.entry_str_split (PySem.F.args_str_split_2 _ _) (meets_str_split_cannot_occur x y t u h1) (h [(x,t)] s.toks (Nat.le_refl _) rfl)
noncomputable def mid (n:Str):String:=if n="join" then "str.join" else if n="split" then "str.split" else if n="index" then "str.index" else ""
theorem H7(I:Inv B φ G s){x n:Str}{t:Tok}{vs:List V}{aP:List Value}{r:V}(hv:bz φ vs aP)(e:pV x n vs=some r)(h:KV B φ G s r Q):wpAny (model prog w) A (call (.builtin (mid n)) (.str x t::aP)) Q E s:=by
 unfold pV at e;unfold mid;by_cases h1:n="join"
 ·rw[if_pos h1]at e⊢
  exact mw (P:=fun aP=>wpAny _ _ (call _ (_::aP)) _ _ _) hv e fun y c hy e=>jc I (P:=fun c=>wpAny _ _ (call _ [_,c]) _ _ _) hy e fun l a vs n g _ rl e=>vM I g rl e h
 rw[if_neg h1]at e⊢;by_cases h2:n="split"
 ·rw[if_pos h2]at e⊢
  exact mw (P:=fun aP=>wpAny _ _ (call _ (_::aP)) _ _ _) hv e fun y c hy e=>jI (P:=fun c=>wpAny _ _ (call _ [_,c]) _ _ _) hy e fun y u e=>ak e fun c e=>Dr (by simpa using c.1) c.2 fun l k hk hl=>
   jF I (l:=(Txt.split x y).map fun z=>.c (.str z)) (by rw[List.toList_toArray,<-hl];exact oX l) (Option.some.inj e▸h) hk
 rw[if_neg h2]at e⊢;by_cases h3:n="index"
 ·rw[if_pos h3]at e⊢
  refine mw (P:=fun aP=>wpAny _ _ (call _ (_::aP)) _ _ _) hv e fun y c hy e=>jI (P:=fun c=>wpAny _ _ (call _ [_,c]) _ _ _) hy e fun y u e=>ay e fun i ho e=>?_;obtain⟨rest,ho⟩:∃rest,Builtin.Str.occurrences x y 0 x.length 1=i::rest:=by
   cases q:Builtin.Str.occurrences x y 0 x.length 1 with
   |nil=>rw[q]at ho;(rename_i aH _ bS eN;clear aH bS eN;exact xa ho)
   |cons a l=>rw[q]at ho;(rename_i aH _ bS eN;clear aH bS eN;revert e;apply af (ho);intro e);exact⟨l,rfl⟩
  exact SC.index ho (cH I (e▸h) (Nat.le_add_right _ _))
 ·rw[if_neg h3]at e;exact xa e
theorem H8(I:Inv B φ G s)(hP:B.P=w.params){a:Addr}{ds:Array DictEntry}{m:Nat}{es:List (Str×V)}(ns:(a==sysModules)=false)(g:s.heap.get? a=some (gh ds m))(rl:i9 φ es ds.toList){vs:List V}{aP:List Value}{r:V}(hv:bz φ vs aP)(e:mget es vs=some r)(h:KV B φ G s r Q):
  wpAny (model prog w) A (call (.builtin "dict.get") (.ref a::aP)) Q E s:=by
 refine av (nu (prog:=prog) (I.P.trans hP) g rl) fun f hm hf=>?_;refine gu e (fun e=>mw (P:=fun aP=>wpAny _ _ (call _ (_::aP)) _ _ _) hv e fun y c hy e=>ay e fun k hk e=>?_) fun e=>Ml (P:=fun aP=>wpAny _ _ (call _ (_::aP)) _ _ _) hv e fun y d c cd hy hd e=>ay e fun k hk e=>?_
 ·rw[bh hk]at hy
  refine bK (hy) fun t HV=>?_;subst HV;exact call_meetsIn F.slot_dict_get hm.typeIs F.entry_dict_get (F.args_dict_get_2 _ _) (meets_dict_get (strKind prog w) a (strKind_is prog w k t) ns) ⟨f,hm,h _ _ _ (e▸(hf k).getD (d:=.c .none) rfl) (Step.toks I (Nat.le_succ _))⟩
 ·rw[bh hk]at hy
  refine bK (hy) fun t HW=>?_;subst HW;exact call_meetsIn F.slot_dict_get hm.typeIs F.entry_dict_get (F.args_dict_get_3 _ _ _) (meets_dict_get_default (strKind prog w) a (strKind_is prog w k t) ns cd) ⟨f,hm,h _ _ _ (e▸(hf k).getD hd) (Step.toks I (Nat.le_succ _))⟩
noncomputable def OV (φ:Ph):Option V->Value->Prop
 |some v,cv=>VR φ v cv
 |none,cv=>cv= .none
theorem part_of{o:Option V}{p:Option Int}(e:part o=some p){cv:Value}(hv:OV φ o cv):IsPart cv p/\∃l:Option (Int×Tok),cv=partValue l/\l.map (·.1)=p:=by
 rcases o with _|v
 ·(apply af (e));obtain rfl:=hv;exact⟨.none,none,rfl,rfl⟩
 ·refine ay e fun k hk e=>?_
  subst e;rw[fh hk]at hv;refine bK (hv) fun t Qd=>?_;subst Qd;exact⟨.int _ _,some (_,t),rfl,rfl⟩
theorem w_getS(I:Inv B φ G s){x r:V}{lo' hi:Option V}{cx cl cu:Value}(hx:VR φ x cx)(hl:OV φ lo' cl)(hu:OV φ hi cu)(e:jK x lo' hi=some r){sl:Addr}(hs:s.heap.IsSliceOf sl cl cu .none)(h:KV B φ G s r Q):wpAny (model prog w) A (getItem cx (.ref sl)) Q E s:=by
 refine bindC e fun p e1 e=>bindC e fun q e2 e=>?_;refine dS (part_of e1 hl) fun pl l H9 l2=>?_;subst H9;refine dS (part_of e2 hu) fun pu u Ia u2=>?_;subst Ia;refine gu e (fun e=>jI (P:=fun cx=>wpAny _ _ (getItem cx _) _ _ _) hx e fun x t e=>ak e fun hz e=>?_) fun e=>jc I (P:=fun cx=>wpAny _ _ (getItem cx _) _ _ _) hx e fun l a vs n g _ rl e=>ak e fun hz e=>?_
 ·(rename_i aH bI bS eN i6;clear aH bI bS eN i6;revert h;apply af (e);intro h)
  refine wpAny_getItem_str_slice (l:=l) (u:=u) (st:=none) hs rfl ?_;have hle:=Txt.slice_le x p q;subst l2 u2
  delta sliceMade slicePicked
  unfold Txt.slice at h hle;by_cases hc:((1:Int)==1&&(Builtin.Str.strSliceIndices (l.map (·.1)) (u.map (·.1)) 1 x.length).length==x.length)=true
  ·rw[if_pos hc]at h
   exact(if_pos hc).symm▸h _ _ _ ⟨t,rfl⟩ (Step.refl I)
  ·rw[if_neg hc]at h hle
   exact(if_neg hc).symm▸⟨Nat.le_trans hle (Nat.le_trans hz bG),h _ _ _ ⟨_,rfl⟩ (Step.toks I (Nat.le_succ _))⟩
 ·refine wpAny_getItem_list_slice ⟨_,g,rfl,_,rfl⟩ hs pl pu .none (by decide) ?_ (by rw[rl.size];exact Nat.le_trans hz bG)
  refine jF I ?_ (Option.some.inj e▸h) (Nat.le_refl _);rw[slicePick_plain,List.toList_toArray,rl.size];exact(rl.drop _).take _
end
end Mine.Internal
end
noncomputable section
open PySem PySem.W PyProof.Rows
namespace Mine.Internal
/-! a method of a SD-in kind as a value -/
theorem lQ:Slot "method_descriptor" "__get__" "method_descriptor.__get__":=
 .of (owner:="method_descriptor") (n:="__get__") (by rw[typeLookup_type,builtinLookup_eq_fast];kernel_rfl) (by decide+kernel) (by decide+kernel) (by decide+kernel)
  (by first|exact .inl (by decide+kernel)|exact .inr (by decide+kernel)) (by rw[isSubtype_type];kernel_rfl)
theorem pZ:entryFor table "method_descriptor.__get__"=some Builtin.«method_descriptor.__get__»:=entryFor_of_tree (by kernel_rfl)
theorem rT(a b c:Value):argsOk "method_descriptor.__get__" ⟨[a,b,c],[]⟩:=by unfold argsOk;kernel_rfl
theorem entry_list_ga:entryFor table "list.__getattribute__"=some Builtin.«object.__getattribute__»:=
 entryFor_alias (id':="object.__getattribute__") (by kernel_rfl) (by decide+kernel) (by decide+kernel) (by kernel_rfl)
theorem zY:typeLookup (.type "method_descriptor") "__set__"=pure none:=by rw[typeLookup_type,builtinLookup_eq_fast];kernel_rfl
theorem zZ:typeLookup (.type "method_descriptor") "__delete__"=pure none:=by rw[typeLookup_type,builtinLookup_eq_fast];kernel_rfl
noncomputable def rU (id:String) (a:Addr):Obj:={cls:=.type "builtin_function_or_method",data:=.fields #[.builtin id,.ref a]}
section
variable{prog:Program}{w:World}{A:Around}{E:Value->Shared->Prop}{s:Shared}{a:Addr}{o:Obj}
theorem Ib{Q:Fin->Shared->Prop}(ho:s.heap.get? a=some o)(hc:o.cls= .type "list")(h:Q (.done (.ret (.ref s.heap.objs.size))) {s with heap:=s.heap.push (rU "list.append" a)}):
  wpAny (model prog w) A (Builtin.«method_descriptor.__get__» ⟨[.builtin "list.append",.ref a,.type "list"],[]⟩) Q E s:=by
 have hT:s.TypeIs (.ref a) "list":=⟨o,ho,hc⟩;refine wpAny_bind (wpAny_of_eq (a:=(.builtin "list.append",some (.ref a),some (.type "list"))) (by first|rfl|kernel_rfl) ?_);dsimp only;rw[if_neg (by decide+kernel)];have h1:∀(P:Unit->Shared->Prop),P () s->wpAny (model prog w) A ((kfb_private% "checkInstance") (.builtin "list.append") (.ref a)) P E s:=fun P hp=>by
  refine wpAny_bind (wpAny_of_eq (a:=((Str.ofString "append",Value.type "list"):Str×Value)) ?_ ?_)
  ·show pure (Str.ofString ((kfb_private% "ownerAndName") "list.append").2,Value.type ((kfb_private% "ownerAndName") "list.append").1)=_
   rw[show(kfb_private% "ownerAndName") "list.append"=("list","append") by first|decide+kernel|kernel_rfl]
  ·refine wpAny_bind (wpAny_isInstance (T:="list") (b:=true) hT (by rw[isSubtype_type];kernel_rfl) ?_)
   exact wpAny_pure hp
 refine wpAny_bind (h1 _ ?_);refine wpAny_bind (wpAny_newObj_type ?_);exact wpAny_pure h
theorem xM{Q:Fin->Shared->Prop}{tk:Tok}{us:Array Value}{n:Nat}(ho:s.heap.get? a=some {cls:=.type "list",data:=.seq us n})(h:Q (.done (.ret (.ref s.heap.objs.size))) {s with heap:=s.heap.push (rU "list.append" a)}):
  wpAny (model prog w) A (Builtin.«object.__getattribute__» ⟨[.ref a,.str "append" tk],[]⟩) Q E s:=by
 have hT:s.TypeIs (.ref a) "list":=⟨_,ho,rfl⟩;refine wpAny_bind (wpAny_of_eq (a:=(Value.ref a,[Value.str "append" tk])) (by first|rfl|kernel_rfl) ?_);refine wpAny_bind (wpAny_of_eq (a:=("append":Str)) rfl ?_);refine wpAny_bind (wpAny_typeOf hT ?_);refine wpAny_bind (wpAny_bind (wpAny_of_eq PySem.F.slot_list_append.lookup ?_));have hmd:∀n,s.TypeIs (.builtin "list.append") n->True:=fun u' _=>trivial;have hspec:∀(n:Str) (r:Option Value),typeLookup (.type "method_descriptor") n=pure r->specialOf (.builtin "list.append") n=pure r:=fun n r e=>by unfold specialOf;rw[type_list_append];exact e
 refine wpAny_bind (wpAny_of_eq (a:=some (.builtin "method_descriptor.__get__")) (hspec _ _ lQ.lookup) ?_);refine wpAny_bind (wpAny_bind (wpAny_of_eq (a:=false) ?_ ?_))
 ·unfold Builtin.ObjectAttr.takesStores
  rw[hspec _ _ zY,hspec _ _ zZ];rfl
 ·refine wpAny_pure ?_
  dsimp only;unfold Builtin.ObjectAttr.ownThenClass Builtin.ObjectAttr.inOwnDict;refine wpAny_bind (wpAny_bind (wpAny_bind (wpAny_loadPart ho ?_)));unfold instanceDict;refine wpAny_bind (wpAny_loadPart ho ?_);refine wpAny_pure (a:=none) (wpAny_pure (a:=none) ?_);refine wpAny_bind (wpAny_of_eq (a:=()) ?_ ?_)
  ·unfold Builtin.ObjectAttr.copiedAttributeGuard
   dsimp only;rw[if_neg (by decide+kernel)]
  ·unfold Builtin.ObjectAttr.byTheClass
   refine wpAny_bind (wpAny_rule (wpAny_pure ?_));dsimp only;unfold Builtin.ObjectAttr.bindTo;refine wpAny_bind (wpAny_holding ?_);refine wpAny_call_entry lQ (T:="method_descriptor") type_list_append pZ ?_ (rT _ _ _);exact Ib ho rfl ⟨_,rfl,wpAny_pure h⟩
theorem rV{Q:Value->Shared->Prop}{us:Array Value}{n:Nat}{ex:Bool}(ho:s.heap.get? a=some {cls:=.type "list",data:=.seq us n})(h:Q (.ref s.heap.objs.size) {s with heap:=s.heap.push (rU "list.append" a),toks:=s.toks+1}):
  wpAny (model prog w) A (getAttr (.ref a) "append" ex) Q E s:=by
 have hT:∀t,({s with toks:=t}:Shared).TypeIs (.ref a) "list":=fun t=>⟨_,ho,rfl⟩;refine wpAny_bind (wpAny_mkText (wpAny_holding (wpAny_bind (wpAny_typeOf (hT _) (wpAny_bind (wpAny_of_eq PySem.F.slot_list_getattribute.lookup ?_))))))
 delta getAttrByItsOwn hookBefore callGetattribute boundAndCalled
 refine wpAny_bind (wpAny_of_eq (show(if onTheHeap (.type "list")then typeLookup (.type "list") "__getattr__" else pure none)=pure none from rfl) ?_)
 refine wpAny_bind (wpAny_attempt (wpAny_holding ?_));have hx:∀{α:Type} (x y:Sem α),(if(ex&&onTheHeap (.builtin "list.__getattribute__"))=true then x else y)=y:=fun x y=>if_neg (by rcases ex with⟨⟩ <;> decide)
 refine w_eq (by rw[hx]) ?_;refine wpAny_bind (wpAny_of_eq (PySem.F.slot_list_getattribute.bind _) ?_);refine wpAny_mono (Q:=fun v s'=>v= .ref s.heap.objs.size/\s'={s with heap:=s.heap.push (rU "list.append" a),toks:=s.toks+1}) (E:=fun u' _=>False)
  (wpAny_call_entry PySem.F.slot_list_getattribute (hT _) entry_list_ga (xM (s:={s with toks:=s.toks+1}) ho ⟨_,rfl,rfl,rfl⟩) (PySem.F.args_list_getattribute_2 _ _)) (fun v s' hv=>?_) fun u' u' z=>z.elim
 refine cJ (hv) fun HT HR=>?_;subst HT;subst HR;exact wpAny_pure h
theorem uf{t:Tok}{D:Addr}:checkBoundCall "str.join" ⟨[.str ⟨#[]⟩ t,.ref D],[]⟩=pure ():=by kernel_rfl
theorem ug:Manifest.signature? "list.append"=some ⟨.oneArg,"list.append","append",.self,[⟨"object",.posOnly,true⟩]⟩:=by kernel_rfl
theorem rW:builtinKind "list.append"=some .method:=by kernel_rfl
theorem nE:isSubtype (.type "list") (.type "module")=pure false:=by rw[isSubtype_type];kernel_rfl
theorem qa{M:Model}{A:Around}{E:Value->Shared->Prop}{s:Shared}{a:Addr}{x:Value}{us:Array Value}{n:Nat}{Q:Unit->Shared->Prop}(ho:s.heap.get? a=some {cls:=.type "list",data:=.seq us n})(h:Q () s):wpAny M A (checkBoundCall "list.append" ⟨[.ref a,x],[]⟩) Q E s:=by have hT:s.TypeIs (.ref a) "list":=⟨_,ho,rfl⟩;unfold checkBoundCall;rw[ug];rw[rW];dsimp only;rw[if_neg (by decide+kernel)];refine wpAny_bind (wpAny_isInstance hT nE ?_);rw[if_neg (by decide+kernel)];refine wpAny_bind ?_;unfold isType;refine wpAny_bind (wpAny_loadPart ho (wpAny_pure ?_));rw[if_neg Bool.false_ne_true];refine wpAny_bind (wpAny_typeOf hT ?_);exact wpAny_of_eq (by kernel_rfl) h
section
variable{prog:Program}{w:World}{A:Around}{E:Value->Shared->Prop}{s:Shared}{u:Addr}{ob:Obj}{Q:Value->Shared->Prop}
theorem vN{id:String}{x:Value}{b:Builtin}{args:List Value}(hp:plainId id=true)(he:entryFor table id=some b)(ho:s.heap.get? u=some ob)(hc:ob.cls= .type "builtin_function_or_method")(hd:ob.data= .fields #[.builtin id,x])
  (hck:∀P:Unit->Shared->Prop,P () s->wpAny (model prog w) A.in1 (checkBoundCall id ⟨x::args,[]⟩) P (fun e s'=>E e s') s)
  (h:codeAny (model prog w) A (.builtin id ⟨x::args,[]⟩) (wants Q E) s):wpAny (model prog w) A (call (.ref u) args) Q E s:=by
 refine wpAny_call (codeAny_of_tree ?_);refine wpAny_bind (wpAny_load ho ?_);rw[hd,hc];dsimp only;rw[if_pos (by decide+kernel)];refine wpAny_bind (hck _ ?_);refine wpAny_pure ⟨plainId_quiet hp _,?_⟩;exact h
end
end
end Mine.Internal
end
noncomputable section
open PySem PySem.W PyProof.Rows
namespace Mine.Internal
structure dM(B:Base)(T:aM)(K:Frag):Prop where
 uh:K.In B.h
 jD:∀C n u,aW T.jD C n=some u->plainGet K C n=true/\hasDictIn K C=true/\findIn K (.ref C) n=some none/\plainOver K C=true/\takerIn K C n=some none/\findIn K (.ref C) "__setattr__"=some (some (.builtin "object.__setattr__"))
 ic:∀C n f,aW T.ic C n=some f->plainGet K C n=true/\findIn K (.ref C) n=some (some (.ref f))/\isFn K (.ref f)=true/\fnIn K f=true
 bnd:∀C n f,aW T.ic C n=some f->hasDictIn K C=true/\specialIn K (.ref f) "__get__"=some (some (.builtin "function.__get__"))/\takesIn K (.ref f)=some false/\copiedNames.contains n=false
 rF:∀C n v,aW T.rF C n=some v->∃cv mc,(∀φ,VR φ v cv)/\readsIn K C mc=true/\findCls K (.ref C) mc n=some (.val cv)/\handedIn cv=true
 eU:∀C f,cB T.eU C=some f->makesIn K C=true/\findIn K (.ref C) "__init__"=some (some (.ref f))/\typeIn K (.ref f)=some (.type "function")/\keepIn K (.ref C)=true/\fnIn K f=true
noncomputable def jk {α:Type} (P:Params) (R:α->Value->Prop):List (Str×α)->List DictEntry->Prop
 |[],ds=>ds=[]
 |e::l,ds=>∃d r,ds=d::r/\(d.hash=PyData.keyHash P e.1/\(∃t,d.key= .str e.1 t)/\R e.2 d.val)/\jk P R l r
section
variable{B:Base}{T:aM}{K:Frag}{φ az:Ph}{G G':Gs}{s s':Shared}
theorem i9.dr:∀{es:List (Str×V)} {ds:List DictEntry},i9 φ es ds->jk φ.P (VR φ) es ds
 |[],_,x=>x
 |_::_,_,x=>x.imp fun u' x=>x.imp fun u' x=>x.imp id fun x=>x.imp id i9.dr
theorem jk.er:∀{es:List (Str×V)} {ds:List DictEntry},jk φ.P (VR φ) es ds->i9 φ es ds
 |[],_,x=>x
 |_::_,_,x=>x.imp fun u' x=>x.imp fun u' x=>x.imp id fun x=>x.imp id jk.er
theorem ri.dr{h:Heap}:∀{es:List (Str×At)} {ds:List DictEntry},ri φ h es ds->jk φ.P (AR φ h) es ds
 |[],_,x=>x
 |_::_,_,x=>x.imp fun u' x=>x.imp fun u' x=>x.imp id fun x=>x.imp id ri.dr
theorem jk.ar{h:Heap}:∀{es:List (Str×At)} {ds:List DictEntry},jk φ.P (AR φ h) es ds->ri φ h es ds
 |[],_,x=>x
 |_::_,_,x=>x.imp fun u' x=>x.imp fun u' x=>x.imp id fun x=>x.imp id jk.ar
section
variable{α:Type}{P:Params}{R:α->Value->Prop}
theorem jk.len:∀{es:List (Str×α)} {ds:List DictEntry},jk P R es ds->ds.length=es.length
 |[],_,x=>by obtain rfl:=x;rfl
 |_::_,_,x=>x.elim fun u' x=>x.elim fun u' x=>x.1▸congrArg (· +1) x.2.2.len
theorem jk.ref:∀{es:List (Str×α)} {ds:List DictEntry},jk P R es ds->ds.any (·.refKey)=false
 |[],_,x=>by obtain rfl:=x;rfl
 |_::_,_,x=>x.elim fun d x=>x.elim fun r x=>by simp only[x.1,List.any_cons,x.2.2.ref,Bool.or_false];exact x.2.1.2.1.elim fun t q=>by simp[DictEntry.refKey,q]
theorem oZ(name:Str)(hsh:Int)(key v:Value)(e:DictEntry)(r:List DictEntry):putL name hsh key v (e::r)=if e.key.isStr name then⟨e.hash,e.key,v⟩::r else e::putL name hsh key v r:=rfl
theorem jk.find(n:Str):∀{es:List (Str×α)} {ds:List DictEntry},jk P R es ds->(look es n=none->ds.find? (fun e=>e.key.isStr n)=none)/\∀z,look es n=some z->∃d,ds.find? (fun e=>e.key.isStr n)=some d/\R z d.val
 |[],_,x=>by obtain rfl:=x;exact⟨fun _=>rfl,fun u' e=>(xa e)⟩
 |e::es,_,x=>x.elim fun d x=>x.elim fun r x=>by
  refine cG (x) fun h0 Ic h4=>?_;refine cG (Ic) fun h1 HQ h3=>?_;obtain⟨t,h2⟩:=HQ;rw[h0];rw[iQ];have e2:d.key.isStr n=decide (e.1=n):=by rw[h2];show(e.1==n)=_;by_cases q:e.1=n <;> rfl
  by_cases q:e.1=n
  ·rw[if_pos q,List.find?_cons_of_pos (by rw[e2];exact decide_eq_true q)]
   exact⟨fun e=>(xb e),fun z e=>⟨d,rfl,Option.some.inj e▸h3⟩⟩
  ·rw[if_neg q,List.find?_cons_of_neg (by rw[e2];simpa using q)]
   exact h4.find n
theorem jk.put{n:Str}{v:α}{key cv:Value}(hk:∃t,key= .str n t)(hv:R v cv):∀{es:List (Str×α)} {ds:List DictEntry},jk P R es ds->jk P R (putD n v es) (putL n (PyData.keyHash P n) key cv ds)
 |[],_,x=>by obtain rfl:=x;exact⟨_,_,rfl,⟨rfl,hk,hv⟩,rfl⟩
 |e::es,_,x=>x.elim fun d x=>x.elim fun r x=>by
  refine cG (x) fun h0 Ie h4=>?_;refine cG (Ie) fun h1 HS h3=>?_;obtain⟨t,h2⟩:=HS;rw[h0];rw[kO,oZ];have e2:d.key.isStr n=decide (e.1=n):=by rw[h2];show(e.1==n)=_;by_cases q:e.1=n <;> rfl
  by_cases q:e.1=n
  ·rw[if_pos q,e2,if_pos (decide_eq_true q)]
   exact⟨_,_,rfl,⟨q▸h1,⟨t,q▸h2⟩,hv⟩,h4⟩
  ·rw[if_neg q,e2,if_neg (by simpa using q)]
   exact⟨_,_,rfl,⟨h1,⟨t,h2⟩,h3⟩,h4.put hk hv⟩
theorem jk.none{n:Str}{es:List (Str×α)}{ds:Array DictEntry}{m:Nat}(r:jk P R es ds.toList)(hl:look es n=none):lookIn n (gh ds m)=some none:=by unfold lookIn;simp only[(r.find n).1 hl,r.ref];rfl
theorem jk.some{n:Str}{v:α}{es:List (Str×α)}{ds:Array DictEntry}{m:Nat}(r:jk P R es ds.toList)(hl:look es n=some v):∃cv,lookIn n (gh ds m)=some (some cv)/\R v cv:=
 ((r.find n).2 v hl).elim fun d y=>⟨d.val,by unfold lookIn;simp only[y.1],y.2⟩
end
theorem iR{v:V}{cv:Value}(h:VR φ v cv):handedIn cv=true:=by
 have rf:∀{a:Addr},cv= .ref a->handedIn cv=true:=fun e=>e▸rfl;rcases v with k|x|_|_|_|⟨_,_⟩
 ·rcases k with _|_|_|_|_|b|_|_
  ·obtain rfl:=h;rfl
  ·obtain rfl:=h;rfl
  ·obtain⟨t,rfl⟩:=h;rfl
  ·obtain⟨t,rfl⟩:=h;rfl
  ·obtain⟨t,rfl⟩:=h;rfl
  ·obtain rfl:=h;cases b <;> decide+kernel
  ·obtain rfl:=h;rfl
  ·obtain rfl:=h;rfl
 ·rcases x with⟨_,_,_⟩|_|_|_|_|_|_
  ·obtain⟨_,_,_,_,e,_⟩:=h;exact rf e
  ·obtain⟨_,_,e,_⟩:=h;exact rf e
  ·obtain⟨_,e,_⟩:=h;exact rf e
  ·obtain⟨_,e,_⟩:=h;exact rf e
  ·obtain⟨_,_,e,_⟩:=h;exact rf e
  ·obtain⟨_,_,e,_⟩:=h;exact rf e
  ·obtain⟨_,_,e,_⟩:=h;exact rf e
 ·obtain⟨_,_,_,e,_⟩:=h;exact rf e
 ·obtain⟨_,_,_,e,_⟩:=h;exact rf e
 ·obtain⟨_,_,_,e,_⟩:=h;exact rf e
 ·obtain⟨_,_,_,_,e,_⟩:=h;exact rf e
theorem gy{h:Heap}{a C dx:Addr}{od:Obj}(g:h.get? a=some (q9 C dx))(g2:h.get? dx=some od):InstAt h a (q9 C dx) C (some od):=⟨g,rfl,rfl,g2⟩
theorem Inv.rX(I:Inv B φ G s){co:Value}(ho:VR φ (.sp .wr) co){es:List (Str×At)}(e:G.wr=some es):∃p ds n,co= .ref p.1/\φ.wa=some p/\s.heap.get? p.1=some (q9 B.wc p.2)/\φ.mu p.2/\s.heap.get? p.2=some (gh ds n)/\ri φ s.heap es ds.toList/\(gj es ds.toList).Nodup/\∀a,φ.lg=some a->Value.ref a∉gj es ds.toList:=
 by
 refine av (ho) fun p' h1 h2=>?_;refine aX (I.wr.wr es e) fun p ds n x1 x2 x3=>?_;obtain rfl:=Option.some.inj (x1.symm.trans h2);exact⟨_,ds,n,h1,x1,I.keep _ _ x2,x3⟩
variable{prog:Program}{w:World}{A:Around}{E:Value->Shared->Prop}{Q:Value->Shared->Prop}
theorem z0{α:Type}{P:Params}{R:α->Value->Prop}{ex:Bool}(C:dM B T K)(I:Inv B φ G s){a dx D:Addr}{ds:Array DictEntry}{m:Nat}{n:Str}{u:Unit}{es:List (Str×α)}{v:α}(g:s.heap.get? a=some (q9 D dx))(g2:s.heap.get? dx=some (gh ds m))(q:aW T.jD D n=some u)
  (r:jk P R es ds.toList)(hl:look es n=some v)(hR:∀cv,R v cv->handedIn cv=true)(h:∀cv,R v cv->Q cv {s with toks:=s.toks+1}):wpAny (model prog w) A (getAttr (.ref a) n ex) Q E s:=by
 refine dg (C.jD _ _ _ q) fun c1 c2 c3 c4 c5 c6=>?_;refine av (r.some (m:=m) hl) fun cv h1 h2=>?_;exact get_value (C.uh.keeps I.kb) (gy g g2) (plainGet_of c1).1 (findObj_own c2 c3 rfl h1) (hR _ h2) (h _ h2)
theorem Ig{pl:Sem Bool}{Q:Value×List Value->Shared->Prop}{α:Type}{P:Params}{R:α->Value->Prop}(C:dM B T K)(I:Inv B φ G s){a dx D:Addr}{ds:Array DictEntry}{m:Nat}{n:Str}{u:Unit}{es:List (Str×α)}{v:α}(g:s.heap.get? a=some (q9 D dx))(g2:s.heap.get? dx=some (gh ds m))(q:aW T.jD D n=some u)
  (r:jk P R es ds.toList)(hl:look es n=some v)(hR:∀cv,R v cv->handedIn cv=true)(h:∀cv,R v cv->Q (cv,[]) {s with toks:=s.toks+1}):wpAny (model prog w) A (getMethod (.ref a) n pl) Q E s:=by
 refine dg (C.jD _ _ _ q) fun c1 c2 c3 c4 c5 c6=>?_;have X:=C.uh.keeps I.kb;refine cJ (plainGet_of c1) fun p1 p2=>?_;refine av (r.some (m:=m) hl) fun cv h1 h2=>?_;exact method_usual X (gy g g2) p1 p2 c3 rfl (get_value X (gy g g2) p1 (findObj_own c2 c3 rfl h1) (hR _ h2) (h _ h2))
theorem z6{pl:Sem Bool}{Q:Value×List Value->Shared->Prop}{α:Type}{P:Params}{R:α->Value->Prop}(C:dM B T K)(I:Inv B φ G s){a dx D f:Addr}{ds:Array DictEntry}{m:Nat}{n:Str}{es:List (Str×α)}(g:s.heap.get? a=some (q9 D dx))(g2:s.heap.get? dx=some (gh ds m))(q:aW T.ic D n=some f)
  (r:jk P R es ds.toList)(hl:look es n=none)(h:Q (.ref f,[.ref a]) s):wpAny (model prog w) A (getMethod (.ref a) n pl) Q E s:=by
 refine bW (C.ic _ _ _ q) fun c1 c2 c3 c4=>?_;refine cJ (plainGet_of c1) fun p1 p2=>?_;exact method_fn (C.uh.keeps I.kb) (gy g g2) p1 p2 c2 (beq_iff_eq.mp c3) (by show(lookIn n _).map _=_;rw[r.none hl];rfl) h
set_option tactic.hygienic true in
theorem z7{ex:Bool}(C:dM B T K)(O:dK B T)(I:Inv B φ G s){n:Str}{o r:V}{co:Value}(ho:VR φ o co)(e:rH T o n G=some (r,G'))(h:KV B φ G' s r Q):wpAny (model prog w) A (getAttr co n ex) Q E s:=by
 refine Dk (P:=fun o r=>VR φ o co->KV B φ r.2 s r.1 Q->wpAny (model prog w) A (getAttr co n ex) Q E s) e (fun D v q ho h=>?_) (fun D es u v q hl ho h=>?_) (fun c ho h=>?_) (fun u es y hq he hl ho h=>?_) (fun es f hq hm q hl ho h=>?_) ho h
 ·obtain rfl:=ho
  refine bu (C.rF _ _ _ q) fun cv mc h1 h2 h3 h4=>?_;exact cls_value (C.uh.keeps I.kb) h2 h3 h4 (h _ _ _ (h1 φ) (Step.toks I (Nat.le_succ _)))
 ·refine iO (ho) fun a d ds m Ih g g2 rl=>?_;subst Ih
  exact z0 C I (I.keep _ _ g) (I.keep _ _ g2) q rl.dr hl (fun _=>iR) fun cv hc=>h _ _ _ hc (Step.toks I (Nat.le_succ _))
 ·refine av (ho) fun a Ii ha=>?_;subst Ii
  refine bK (Option.isSome_iff_exists.mp c.2) fun l hl=>?_;refine cK (I.wr.log l hl) fun b b1 b2 vs m g _=>?_;obtain rfl:=Option.some.inj (ha.symm.trans b1);rw[c.1];exact rV g (h _ _ _ ⟨_,a,rfl,(Ph.bD (I.free (Inv.bL s)).1).lg _ ha,aR⟩ (Step.mW (t:=s.toks+1) (ob:=rU "list.append" a) I rfl (Nat.le_succ _)))
 ·refine aV (I.rX ho he) fun p ds m Ij h1 h2 h3 h4 h5 _=>?_;subst Ij
  exact z0 C I (O.wc▸h2) h4 hq h5.dr hl (fun _=>iR) fun cv hc=>h _ _ _ hc (Step.toks I (Nat.le_succ _))
 ·refine aV (I.rX ho hm) fun p ds m Ik h1 h2 h3 h4 h5 _=>?_;subst Ik
  refine bW (C.ic _ _ _ q) fun c1 c2 c3 c4=>?_;refine bW (C.bnd _ _ _ q) fun b1 b2 b3 b4=>?_;refine cJ (plainGet_of c1) fun p1 p2=>?_;have X:=C.uh.keeps I.kb;exact get_bind X (gy (O.wc▸h2) h4) p1 (findObj_fn b1 c2 b2 b3 b4 (h5.dr.none (Option.isNone_iff_eq_none.mp hl))) p2
     (wpAny_call (fn_get (s:={s with toks:=s.toks+1}) X (beq_iff_eq.mp c3) (handed_on rfl (h _ _ _ ⟨_,p,rfl,(Ph.bD (I.free (Inv.bL s)).1).wa _ h1,aR⟩ (Step.mW (t:=s.toks+1) (ob:={cls:=.type "method",data:=.fields #[.ref f,.ref p.1]}) I rfl (Nat.le_succ _))))))
end
end Mine.Internal
end
noncomputable section
open PySem PySem.W PyProof.Rows
namespace Mine.Internal
structure Rm(B:Base)(A:Around)(k:Nat):Prop where
 h:A.handled=none
 d:A.depth+k<recursionLimit
 u:A.units+8*k+80<cLine
 fr:A.frames=some B.fl
theorem Rm.le{B:Base}{A:Around}{k j:Nat}(r:Rm B A k)(h:j<=k):Rm B A j:=⟨r.h,by have :=r.d;omega,by have :=r.u;omega,r.fr⟩
theorem Rm.deeper{B:Base}{A:Around}{k:Nat}(r:Rm B A (k+1))(env:Env)(sf:Addr):Rm (B.at (env::B.fl) sf) (A.deeper env) k:=
 ⟨r.h,by have :=r.d;show A.depth+1+k<_;omega,by have :=r.u;show A.units+3+8*k+80<_;omega,by show A.frames.map _=_;rw[r.fr];rfl⟩
theorem Rm.make{B:Base}{A:Around}{k:Nat}(r:Rm B A (k+1))(sf C:Addr)(vals:List Value):Rm (B.at B.fl sf) (A.under (.builtin "type.__call__" ⟨.ref C::vals,[]⟩)) k:=
 ⟨r.h,by have :=r.d;show A.depth+1+k<_;omega,by have :=r.u;show A.units+1+8*k+80<_;omega,r.fr⟩
theorem Rm.eq{B:Base}{A:Around}{k:Nat}(r:Rm B A k):A.units+66<cLine:=by have :=r.u;omega
structure rY(B:Base)(φ:Ph)(h:Heap)(zs:List SL)(aP:List Value):Prop where
 sr:∀L,h.get? L=none->cQ (fun z c=>SR B φ L h z (some c)) zs aP
 s0:∀z l,zs=z::l->z.pS=true->∃r,aP= .ref B.sf::r
 tl:∀z l,zs=z::l->((∃v,z= .v v)\/z.pS=true)/\∀y∈l,∃v,y= .v v
noncomputable def z8 (zs:List SL) (sf:Addr) (h:Heap) (b:Addr):Prop:=(∃z l,zs=z::l/\z.pS=true)/\(b=sf\/∃o,h.get? sf=some o/\o.dict=some b)
noncomputable def Mm (B:Base) (φ:Ph) (h:Heap) (z:SL):Prop:=z.pS=true->∃L,SR B φ L h z (some (.ref B.sf))
noncomputable def fq (B0:Base) (prog:Program) (w:World) (K:Frag) (U:aE) (n:Nat):Prop:=∀a zs r z G G',U a zs G=some (r,z,G')->fnIn K a=true/\
 ∀(fl:List Env) (sf:Addr) (A:Around) (R:Result->Shared->Prop) (φ:Ph) (s:Shared) (aP:List Value),Rm (B0.at fl sf) A (2*n+1)->Inv (B0.at fl sf) φ G s->rY (B0.at fl sf) φ s.heap zs aP->
  (∀cv az s',VR az r cv->Step (B0.at fl sf) (z8 zs sf s.heap) φ s az G' s'->Mm (B0.at fl sf) az s'.heap z->R (.ok (.ret cv)) s')->codeAny (model prog w) A (.call (.ref a) ⟨aP,[]⟩) R s
section
variable{B:Base}{X:Addr->Prop}{T:aM}{K:Frag}{U:aE}{n:Nat}{φ az:Ph}{G G':Gs}{s s':Shared}
theorem WR.sf{h:Heap}{l:List Env}{a:Addr}(x:WR B φ G h):WR (B.at l a) φ G h:=⟨x.log,x.wr,x.l7,x.CP,x.cn⟩
theorem Inv.sf(I:Inv B φ G s)(a:Addr):Inv (B.at B.fl a) φ G s:=⟨I.P,I.keep,I.base,I.tab,I.tN,I.qZ,I.mT,I.gens,I.os,I.frs,I.tk,I.wr.sf⟩
theorem Inv.z9{a:Addr}(I:Inv (B.at B.fl a) φ G s):Inv B φ G s:=⟨I.P,I.keep,I.base,I.tab,I.tN,I.qZ,I.mT,I.gens,I.os,I.frs,I.tk,⟨I.wr.log,I.wr.wr,I.wr.l7,I.wr.CP,I.wr.cn⟩⟩
theorem Step.z9{a:Addr}(x:Step (B.at B.fl a) X φ s az G' s'):Step B X φ s az G' s':=⟨x.le,x.inv.z9,x.kept,x.live,x.new,x.yM,x.gk⟩
theorem bz.args:∀{vs:List V} {aP:List Value} {L:Addr} {h:Heap},bz φ vs aP->cQ (fun z c=>SR B φ L h z (some c)) (vs.map .v) aP
 |[],_,_,_,x=>by obtain rfl:=x;exact .nil
 |_::_,_,_,_,x=>x.elim fun c x=>x.elim fun r x=>x.1▸ .cons ⟨c,rfl,x.2.1⟩ x.2.2.args
theorem bz.argsR{vs:List V}{aP:List Value}{h:Heap}(x:bz φ vs aP):rY B φ h (vs.map .v) aP:=
 ⟨fun u' _=>x.args,fun z l e o=>(by cases vs with|nil=>exact xl e|cons v vs=>cases e;exact xc o),fun z l e=>by cases vs with|nil=>exact xl e|cons v vs=>cases e;exact⟨.inl ⟨v,rfl⟩,fun y hy=>(List.mem_map.mp hy).imp fun v q=>q.2.symm⟩⟩
theorem kT{vs:List V}{sf:Addr}{h:Heap}{b:Addr}:¬z8 (vs.map .v) sf h b:=fun⟨⟨z,l,e,o⟩,_⟩=>by cases vs with|nil=>exact xl e|cons v vs=>cases e;exact xc o
variable{prog:Program}{w:World}{A:Around}{E:Value->Shared->Prop}{Q:Value->Shared->Prop}
theorem vO(R:Rm B A (2*n+1))(hU:fq B prog w K U n)(I:Inv B φ G s){a:Addr}{r:V}{vs:List V}{aP:List Value}(hv:bz φ vs aP)(e:m7 U a vs G=some (r,G'))(h:KV B φ G' s r Q):wpAny (model prog w) A (call (.ref a) aP) Q E s:=
 ay e fun q e1 e2=>wpAny_call ((hU a (vs.map .v) q.1 q.2.1 G q.2.2 e1).2 B.fl B.sf A _ φ s aP R I hv.argsR fun cv az s' h1 h2 _=>by(clear R hU I hv e e1;cases e2);exact h _ _ _ h1 (h2.weak fun b q=>kT q))
noncomputable def bA (M:Model) (h:Heap) (f:Value):Prop:=∃k,(k=Keeper.frame\/k=Keeper.machine\/k=Keeper.boundFrame)/\Looks M h (keeperOf f) k
theorem jV{M:Model}{h:Heap}{a:Addr}(X:K.In h)(hf:fnIn K a=true):bA M h (.ref a):=by
 refine keeps_K (K:=K) ?_ h X;unfold fnIn at hf;unfold keepIn;dsimp only;split at hf
 ·rename_i q;rw[q]
 ·exact xc hf
theorem vP{M:Model}{h:Heap}{u:Addr}{ob:Obj}{vs:Array Value}(ho:h.get? u=some ob)(hc:ob.cls= .type "builtin_function_or_method")(hd:ob.data= .fields vs):bA M h (.ref u):=by refine⟨.machine,.inr (.inl rfl),(Looks.ld (part:=none) ho).andThen ?_⟩;rw[hd,hc];exact Looks.of_pure rfl
theorem Qe{u:Addr}{ob:Obj}{t:Tok}{a:Addr}{vs:Array Value}{m:Nat}{l:List V}{r:V}(ho:s.heap.get? u=some ob)(hc:ob.cls= .type "builtin_function_or_method")(hd:ob.data= .fields #[.builtin "str.join",.str ⟨#[]⟩ t])
  (I:Inv B φ G s)(g:s.heap.get? a=some (lo vs m))(rl:bz φ l vs.toList)(e:lM ⟨#[]⟩ l=some r)(h:KV B φ G s r Q):wpAny (model prog w) A (call (.ref u) [.ref a]) Q E s:=
 bindC e fun ss q e=>ak e fun hok e=>(mF rl q).elim fun ts y=>by refine cJ (y) fun h1 Dh=>?_;(clear rl q y;subst Dh);refine wpAny_with_toks (Nat.le_refl _) (vN PySem.F.slot_str_join.plain PySem.F.entry_str_join ho hc hd (fun P hp=>wpAny_of_eq uf hp) (codeAny_builtin PySem.F.entry_str_join ?_));rw[Around.under_plainId PySem.F.slot_str_join.plain _];have hj:=hok;unfold JoinOk at hj;simp only[Bool.not_eq_true']at hj;exact meets_str_join_list ⟨#[]⟩ t a ts hj prog w A _ s ⟨by rw[<-h1];exact⟨_,g,rfl,_,rfl⟩,post_join ts ⟨joinFit_length hj,fun t' k ht=>g9 I (Option.some.inj e▸h) ht⟩⟩
theorem qb{h h':Heap}{a:Addr}(k:∀b o,b≠a->h.get? b=some o->h'.get? b=some o):∀{es:List (Str×At)} {ds:List DictEntry},ri φ h es ds->Value.ref a∉gj es ds->ri φ h' es ds
 |[],_,x,_=>x
 |e::es,_,x,q=>x.elim fun d x=>x.elim fun r x=>by
  refine cG (x) fun h0 Ds h4=>?_;refine cG (Ds) fun h1 h2 h3=>?_
  (clear x Ds;subst h0)
  rw[rj]at q;cases hz:e.2 with
  |v y=>rw[hz]at q h3;exact⟨d,r,rfl,⟨h1,h2,by rw[hz];exact h3⟩,qb k h4 (by simpa[At.dh]using q)⟩
  |own i l=>
   rw[hz]at q h3;have q':Value.ref a∉d.val::gj es r:=by simpa[At.dh]using q
   refine av (h3) fun b e1 SE=>jE SE fun e2 eo vs n e3 e4=>?_;clear SE;refine⟨d,r,rfl,⟨h1,h2,by rw[hz];exact⟨b,e1,e2,eo,vs,n,k b _ (fun w=>q' (by rw[e1,w];exact List.mem_cons_self)) e3,e4⟩⟩,qb k h4 fun w=>q' (List.mem_cons_of_mem _ w)⟩
theorem Step.mu(I:Inv B φ G s){a:Addr}(ha:φ.mu a){o0 o1:Obj}{h':Heap}{t:Tok}(g0:s.heap.get? a=some o0)(hp:o0.data≠ .plain)(g1:h'.get? a=some o1)(k:∀b o,b≠a->s.heap.get? b=some o->h'.get? b=some o)(ht:s.toks<=t)(W:WR B φ G' h'):Step B X φ s φ G' {s with heap:=h',toks:=t}:=by
 have fa:=(I.mT _ ha).1;have ka:∀b o,s.heap.get? b=some o->((φ.f b).isSome=true\/b=B.tb)->h'.get? b=some o:=fun b o e z=>k b o (fun q=>by
  subst q;rcases z with z|z
  ·rw[fa]at z;exact xc z
  ·exact I.qZ (z▸ha)) e
 have lv:∀b o,s.heap.get? b=some o->∃o',h'.get? b=some o'/\(o.data= .plain->o'=o):=fun b o e=>by
  by_cases q:b=a
  ·subst q;obtain rfl:=Option.some.inj (g0.symm.trans e);exact⟨_,g1,fun q=>absurd q hp⟩
  ·exact⟨o,k b o q e,fun _=>rfl⟩
 exact⟨.refl _,⟨I.P,fun b o e=>ka b o (I.keep b o e) (.inl (by rw[e];rfl)),I.base,I.tab.imp fun m x=>⟨ka _ _ x.1 (.inr rfl),x.2⟩,I.tN,I.qZ,fun b hb=>⟨(I.mT b hb).1,(I.mT b hb).2.elim fun o e=>(lv b o e).imp fun u' y=>y.1⟩,I.gens,I.os,fun env he=>(I.frs env he).imp id fun x=>x.imp fun L x=>x.imp fun o x=>⟨x.1,x.2.1,x.2.2.1,x.2.2.2.1,k L o (fun q=>x.2.2.1 (q▸ha)) x.2.2.2.2.1,x.2.2.2.2.2⟩,Nat.le_trans I.tk ht,W⟩,
  fun b o e u' u' h3=>gZ (k b o (fun q=>h3 (q▸ha)) e),lv,fun u' _=>.inl,fun _=>.inl,GK.refl _⟩
theorem Step.told(I:Inv B φ G s){l:List V}{x:V}{cx:Value}(e:G.log=some l)(hx:VR φ x cx){a:Addr}{h':Heap}{vs:Array Value}{m:Nat}(hl:φ.lg=some a)(k:∀b o,b≠a->s.heap.get? b=some o->h'.get? b=some o)(g:h'.get? a=some (lo (vs.push cx) m))(rl:bz φ l vs.toList)
  {t:Tok}(ht:s.toks<=t):Step B X φ s φ {G with log:=some (l++[x])} {s with heap:=h',toks:=t}:=by
 refine cK (I.wr.log l e) fun b' h1 h2 us n g0 _=>?_;cases h1.symm.trans hl;refine Step.mu I h2 g0 (fun q=>xi Data.ctorIdx q rfl) g k ht ⟨fun l' e'=>?_,fun es he=>(I.wr.wr es he).imp fun p x=>x.imp fun ds x=>x.imp fun n' x=>⟨x.1,x.2.1,x.2.2.1,k _ _ (fun q=>?_) x.2.2.2.1,qb k x.2.2.2.2.1 (x.2.2.2.2.2.2 a hl),x.2.2.2.2.2⟩,fun e=>(xb e),I.wr.CP,I.wr.cn⟩
 ·(apply af (e'))
  exact⟨a,hl,h2,_,m,g,by rw[Array.toList_push];exact rl.append (.one hx)⟩
 ·have y:=x.2.2.2.1
  rw[q]at y;exact xi Data.ctorIdx (congrArg Obj.data (Option.some.inj (g0.symm.trans y))) rfl
end
end Mine.Internal
end
noncomputable section
open PySem PySem.W PyProof.Rows
namespace Mine.Internal
section
variable{B:Base}{X:Addr->Prop}{T:aM}{K:Frag}{U:aE}{n:Nat}{φ az:Ph}{G G':Gs}{s s':Shared}
variable{prog:Program}{w:World}{A:Around}{E:Value->Shared->Prop}{Q:Value->Shared->Prop}
theorem Step.Mn(I:Inv B φ G s){l:List V}{x:V}{cx:Value}(e:G.log=some l)(hx:VR φ x cx){a:Addr}{vs:Array Value}{m:Nat}(hl:φ.lg=some a)(g:s.heap.get? a=some (lo vs m))(rl:bz φ l vs.toList):
  Step B X φ s φ {G with log:=some (l++[x])} {s with heap:=s.heap.update a (Obj.mapSeq fun xs=>xs.push cx)}:=
 Step.told I e hx hl (fun b o hb e=>(Heap.get?_update_other _ _ (Ne.symm hb)).trans e) (get?_update_seq (c:="list") g fun xs=>xs.push cx) rl (Nat.le_refl _)
theorem Qf(I:Inv B φ G s){r:V}{cf:Value}{vs:List V}{aP:List Value}(hf:VR φ (.sp .bm) cf)(hv:bz φ vs aP)(e:one (fun v=>G.log.bind fun l=>if l.length<lim then some (V.c .none,{G with log:=some (l++[v])})else none) vs=some (r,G'))
  (h:KV B φ G' s r Q):wpAny (model prog w) A (call cf aP) Q E s:=by
 refine aI (hf) fun u x Il hl ho=>?_;(clear hf;subst Il);refine mw (P:=fun aP=>wpAny _ _ (call _ aP) _ _ _) hv e fun v cv Ud e=>bindC e fun l q e=>ak e fun c e=>?_
 (rename_i aH bI bS;clear aH bI bS;revert h;apply q8 (e);intro h)
 refine cK (I.wr.log l q) fun a h1 h2 us m g rl=>?_;clear hv e h2;cases h1.symm.trans hl;refine vN slot_list_append.plain entry_list_append (I.keep _ _ ho) rfl rfl (fun P hp=>qa g hp) (codeAny_builtin entry_list_append ?_);rw[Around.under_plainId slot_list_append.plain _];show wpAny _ _ (updateSeq x (·.push cv)>>=fun _=>ret .none) _ _ s;have hz1:us.size<=sizeLine:=by rw[rl.size];exact Nat.le_trans (Nat.le_of_lt c) bG
 exact wpAny_bind (wpAny_updateSeq g rfl (wpAny_pure (h _ _ _ rfl (Step.Mn I q Ud hl g rl))) hz1 (by rw[Array.size_push];omega))
set_option tactic.hygienic true in
theorem Aa{f r:V}{cf:Value}{vs:List V}(O:dK B T)(C:dM B T K)(hU:fq B prog w K U n)(I:Inv B φ G s)(hf:VR φ f cf)(e:jL T U f vs G=some (r,G')):bA (model prog w) s.heap cf:=by
 have X:=C.uh.keeps I.kb;have ini:∀a fi,cB T.eU a=some fi->VR φ (.c (.ad a)) cf->bA (model prog w) s.heap cf:=fun a fi q hf=>by (clear O;obtain rfl:=hf);exact keeps_K (C.eU _ _ q).2.2.2.1 s.heap X
 refine rR (P:=fun f _=>VR φ f cf->bA (model prog w) s.heap cf) e (fun b u' u' hf=>?_) (fun a e hf=>?_) (fun fi u' q u' u' _=>ini _ fi q) (fun a fi u' u' q u' u' _=>ini a fi q) (fun g e hf=>?_) (fun u' hf=>?_) hf
 ·(clear O C ini;obtain rfl:=hf);rcases b with⟨⟩ <;> exact⟨.machine,.inr (.inl rfl),Looks.of_pure rfl⟩
 ·(clear O C ini;obtain rfl:=hf)
  exact ay e fun q e1 _=>jV X (hU _ _ _ _ _ _ e1).1
 ·refine aI (hf) fun a p qz h1 h2=>?_;(clear O C ini;subst qz)
  exact ay e fun q e1 _=>keeps_M (hU _ _ _ _ _ _ e1).1 s.heap ⟨I.keep _ _ h2,X⟩
 ·refine aI (hf) fun a x qz h1 h2=>?_;(clear O C hU hf e X ini h1;subst qz)
  exact vP (I.keep _ _ h2) rfl rfl
theorem Im(R:Rm B A (2*n+2))(C:dM B T K)(hU:fq B prog w K U n)(I:Inv B φ G s){D fi:Addr}{q:V×SL×Gs}{es:List (Str×V)}{vs:List V}{aP:List Value}(hq:cB T.eU D=some fi)(hv:bz φ vs aP)
  (e:U fi (.iY D []::vs.map .v) G=some q)(e1:q.1= .c .none)(e2:q.2.1= .iY D es)(h:KV B φ q.2.2 s (.inst D es) Q):wpAny (model prog w) A (call (.ref D) aP) Q E s:=by
 refine jo (C.eU _ _ hq) fun c1 c2 c3 c4 c5=>?_;have X:=C.uh.keeps I.kb
 replace e:=e.trans (congrArg some (show q=(V.c .none,SL.iY D es,q.2.2)from by rw[<-e1,<-e2]))
 clear e1 e2 C hq c4 c5;generalize q.2.2=G' at e h;refine wpAny_call (make_core (makes_of X c1) (looks_findIn X c2) (fun self=>bind_fn X self c3) (.inl rfl) ?_);have hsz:(s.heap.push emptyDict).objs.size=s.heap.objs.size+1:=Heap.size_push _ _;have k2:∀b o,s.heap.get? b=some o->((s.heap.push emptyDict).push (instObj D s.heap.objs.size)).get? b=some o:=fun b o e=>Heap.get?_push_of_some _ (Heap.get?_push_of_some _ e);have s2:Step B No φ s φ G {s with heap:=(s.heap.push emptyDict).push (instObj D s.heap.objs.size)}:=Step.more I k2 (Nat.le_refl _);have n1:s.heap.get? s.heap.objs.size=none:=Inv.bL s;have n2:s.heap.get? (s.heap.objs.size+1)=none:=Heap.get?_none_of_le (Nat.le_succ _);have ga:((s.heap.push emptyDict).push (instObj D s.heap.objs.size)).get? (s.heap.objs.size+1)=some (q9 D s.heap.objs.size):=by rw[<-hsz];exact Heap.get?_push_size _ rfl
 have gd:((s.heap.push emptyDict).push (instObj D s.heap.objs.size)).get? s.heap.objs.size=some (gh #[] 0):=Heap.get?_push_of_some _ (Heap.get?_push_size _ rfl);have own:∀(L b:Addr),s.heap.get? b=none->L≠b->dP (B.at B.fl (s.heap.objs.size+1)) φ L b:=fun L b hb hL=>
  let f:=I.free hb
  ⟨f.1,f.2.1,f.2.2.1,f.2.2.2,Ne.symm hL⟩
 refine(hU fi _ _ _ _ _ e).2 B.fl (s.heap.objs.size+1) _ _ φ _ _ (R.make (s.heap.objs.size+1) D aP) (s2.inv.sf _) ⟨fun L hL=>.cons ?_ hv.args,fun z l e o=>⟨aP,by(rename_i aH;clear aH;cases e);rfl⟩,fun z l e=>by(rename_i aH;clear aH;cases e);exact⟨.inr rfl,fun y hy=>(List.mem_map.mp hy).imp fun v q=>q.2.symm⟩⟩ fun cv az s' h1 h2 h3=>?_
 ·refine⟨s.heap.objs.size+1,s.heap.objs.size,#[],0,rfl,own L _ n2 (fun q=>?_),own L _ n1 (fun q=>?_),ga,gd,rfl⟩
  ·rw[q,ga]at hL;exact xb hL
  ·rw[q,gd]at hL;exact xb hL
 ·clear R hU hv c1 c2 c3 I X hsz k2 gd own
  subst h1;refine bK (h3 rfl) fun L SG=>cV SG fun a dx ds m ea o1 o2 g1 g2 rl=>?_;clear SG;cases ea;refine⟨rfl,?_⟩;have st:Step B No φ s az G' s':=s2.hide h2.z9 fun b hb=>.inr (by
   rcases hb.2 with rfl|⟨o,x1,x2⟩
   ·exact n2
   ·rw[ga]at x1;(revert x2;apply af (x1);intro x2);(revert hb;apply af (x2);intro hb);exact n1)
  refine av (h2.live _ _ ga) fun o' y1 y2=>?_;cases(y2 rfl).symm.trans (Option.some.inj (y1.symm.trans g1));have f2:(az.put (s.heap.objs.size+1) (q9 D s.heap.objs.size)).f s.heap.objs.size=none:=(bQ (Nat.ne_of_lt (Nat.lt_succ_self _))).trans o2.f;have i1:=(h2.z9).inv.put g1 o1.f o1.mu o1.tb o1.fr;have i2:=i1.put (a:=s.heap.objs.size) g2 f2 o2.mu o2.tb o2.fr;refine h _ _ _ ⟨_,_,ds,m,rfl,(Ph.bD f2).f _ _ aR,aR,rl.mono ((Ph.bD o1.f).trans (Ph.bD f2))⟩ ⟨st.le.trans ((Ph.bD o1.f).trans (Ph.bD f2)),i2,st.kept,st.live,fun b o e=>?_,st.yM,st.gk⟩;rcases dj e with⟨rfl,_⟩|e
  ·exact .inr (.inl n1)
  ·rcases dj e with⟨rfl,_⟩|e
   ·exact .inr (.inl n2)
   ·exact st.new b o e
end
end Mine.Internal
end
noncomputable section
open PySem PySem.W PyProof.Rows
namespace Mine.Internal
section
variable{B:Base}{X:Addr->Prop}{T:aM}{K:Frag}{U:aE}{n:Nat}{φ az:Ph}{G G':Gs}{s s':Shared}
variable{prog:Program}{w:World}{A:Around}{E:Value->Shared->Prop}{Q:Value->Shared->Prop}
noncomputable def Ph.KY(φ:Ph)(C a d:Addr):Ph:={φ with f:=(φ.put a (q9 C d)).f,mu:=fun b=>φ.mu b\/b=d,wa:=some (a,d)}
theorem Ph.Io{C a d:Addr}(h:φ.f a=none)(hw:φ.wa=none):φ.Le (φ.KY C a d):=⟨rfl,(Ph.bD h).f,fun _=>.inl,fun u' h=>h,fun u' h=>(xa (hw.symm.trans h)),fun u' h=>h,fun u' u' h=>h⟩
theorem Step.KY(I:Inv B φ G s){h':Heap}{a d:Addr}(e:G.wr=none)(k:∀b o,s.heap.get? b=some o->h'.get? b=some o)(ha:s.heap.get? a=none)(hd:s.heap.get? d=none)(ga:h'.get? a=some (q9 B.wc d))(gd:h'.get? d=some (gh #[] 0))(ne:d≠a):
  Step B X φ s (φ.KY B.wc a d) {G with wr:=some []} ⟨h',s.gens,s.drawn,s.toks,s.os⟩:=by
 have st:Step B X φ s φ G ⟨h',s.gens,s.drawn,s.toks,s.os⟩:=Step.more I k (Nat.le_refl _);refine bW (I.free ha) fun f mu tb fr=>?_;refine bW (I.free hd) fun f2 OY Ip SH=>?_;have hw:=I.wr.CP e;have le:=Ph.Io (C:=B.wc) (d:=d) f hw;have i1:=st.inv.put ga f mu tb fr;have Qg:∀x,φ.lg=some x->x≠d:=fun x hx q=>by
  cases hl:G.log with
  |none=>rw[I.wr.l7 hl]at hx;exact xa hx
  |some l=>obtain⟨x',y1,y2,_⟩:=I.wr.log l hl;(clear ga f mu tb fr hw;obtain rfl:=Option.some.inj (y1.symm.trans hx));exact OY (q▸y2)
 refine⟨le,⟨I.P,i1.keep,i1.base,i1.tab,i1.tN,fun q=>q.elim I.qZ (Ne.symm Ip),fun b hb=>?_,I.gens,I.os,fun env he=>?_,I.tk,⟨fun l hl=>?_,fun es he=>?_,I.wr.l7,fun q=>(xb q),I.wr.cn⟩⟩,fun b o e h1 h2 h3=>st.kept b o e h1 h2 fun q=>h3 (.inl q),st.live,fun b o e=>?_,fun b hb=>(by
  (clear ga st f mu tb fr OY Ip hw Qg;rcases hb with hb|rfl)
  ·exact .inl hb
  ·exact .inr (.inl hd)),GK.refl _⟩
 ·(clear hd ga st f mu tb fr OY Ip hw Qg;rcases hb with hb|rfl)
  ·exact i1.mT b hb
  ·exact⟨(bQ ne).trans f2,_,gd⟩
 ·refine bY (i1.frs env he) fun p1 L o p2 p3 p4 p5 p6 p7=>?_
  exact⟨p1,L,o,p2,p3,fun q=>q.elim p4 fun q=>SH (q▸List.mem_filterMap.mpr ⟨env,he,p2⟩),p5,p6,p7⟩
 ·refine cK (I.wr.log l hl) fun x y1 y2 us m y3 y4=>?_
  exact⟨x,y1,.inl y2,us,m,k _ _ y3,y4.mono le⟩
 ·(apply af (he))
  exact⟨(a,d),#[],0,rfl,aR,.inr rfl,gd,rfl,List.nodup_nil,fun u' u' q=>nomatch q⟩
 ·(clear I k hd ga gd ne st f mu tb fr f2 OY Ip SH hw le i1 Qg;rcases dj e with⟨rfl,_⟩|e)
  ·exact .inr (.inl ha)
  ·exact .inl e
theorem Dt(R:Rm B A (2*n+2))(C:dM B T K)(hU:fq B prog w K U n)(I:Inv B φ G s){fi:Addr}{q:V×SL×Gs}{vs:List V}{aP:List Value}(hq:cB T.eU B.wc=some fi)(hG:G.wr=none)(hv:bz φ vs aP)
  (e:U fi (.v (.sp .wr)::vs.map .v) {G with wr:=some []}=some q)(e1:q.1= .c .none)(h:KV B φ q.2.2 s (.sp .wr) Q):wpAny (model prog w) A (call (.ref B.wc) aP) Q E s:=by
 refine jo (C.eU _ _ hq) fun c1 c2 c3 c4 c5=>?_;have X:=C.uh.keeps I.kb;obtain⟨r,z,G'⟩:=q;dsimp only at e1
 (clear C hq c4 c5;subst e1)
 obtain⟨hp,gs,d,t,os⟩:=s;refine wpAny_call (make_core (makes_of X c1) (looks_findIn X c2) (fun self=>bind_fn X self c3) (.inl rfl) ?_);have hsz:(hp.push emptyDict).objs.size=hp.objs.size+1:=Heap.size_push _ _;have k2:∀b o,hp.get? b=some o->((hp.push emptyDict).push (instObj B.wc hp.objs.size)).get? b=some o:=fun b o e=>Heap.get?_push_of_some _ (Heap.get?_push_of_some _ e);have n1:hp.get? hp.objs.size=none:=Inv.bL ⟨hp,gs,d,t,os⟩;have n2:hp.get? (hp.objs.size+1)=none:=Heap.get?_none_of_le (Nat.le_succ _);have ga:((hp.push emptyDict).push (instObj B.wc hp.objs.size)).get? (hp.objs.size+1)=some (q9 B.wc hp.objs.size):=by rw[<-hsz];exact Heap.get?_push_size _ rfl
 have gd:((hp.push emptyDict).push (instObj B.wc hp.objs.size)).get? hp.objs.size=some (gh #[] 0):=Heap.get?_push_of_some _ (Heap.get?_push_size _ rfl);have s2:Step B No φ ⟨hp,gs,d,t,os⟩ (φ.KY B.wc (hp.objs.size+1) hp.objs.size) {G with wr:=some []} ⟨(hp.push emptyDict).push (instObj B.wc hp.objs.size),gs,d,t,os⟩:=Step.KY I hG k2 n2 n1 ga gd (Nat.ne_of_lt (Nat.lt_succ_self _));have hv':bz (φ.KY B.wc (hp.objs.size+1) hp.objs.size) (.sp .wr::vs) (.ref (hp.objs.size+1)::aP):=.cons ⟨_,rfl,rfl⟩ (hv.mono s2.le);refine(hU fi ((V.sp .wr::vs).map .v) _ _ _ _ e).2 B.fl B.sf _ _ _ _ _ (R.make B.sf B.wc aP) s2.inv hv'.argsR fun cv az s' h1 h2 h3=>?_;clear R hU hG hv c1 c2 c3 e I X hsz k2 n1 n2 ga gd hv' h3;subst h1;refine⟨rfl,h _ _ _ ⟨_,rfl,h2.le.wa _ rfl⟩ (s2.hide (h2.weak fun b q=>kT q) fun u' q=>q.elim)⟩
set_option tactic.hygienic true in
theorem vQ(R:Rm B A (2*n+2))(hP:B.P=w.params)(O:dK B T)(C:dM B T K)(hU:fq B prog w K U n)(I:Inv B φ G s){f r:V}{cf:Value}{vs:List V}{aP:List Value}(hf:VR φ f cf)(hv:bz φ vs aP)
  (e:jL T U f vs G=some (r,G'))(h:KV B φ G' s r Q):wpAny (model prog w) A (call cf aP) Q E s:=by
 refine rR (P:=fun f r=>VR φ f cf->KV B φ r.2 s r.1 Q->wpAny (model prog w) A (call cf aP) Q E s) e (fun b v e1 hf h=>?_) (fun a e hf h=>?_) (fun fi q hq hG e1 e2 hf h=>?_) (fun a fi q es hq e1 e2 e3 hf h=>?_) (fun g e hf h=>?_) (fun e hf h=>Qf I hf hv e h) hf h
 ·(clear hP;subst hf)
  exact Dq I R.h hv e1 h
 ·(clear hP;subst hf)
  exact vO (R.le (Nat.le_succ _)) hU I hv e h
 ·(clear hP;subst hf)
  rw[<-O.wc]at hq⊢;exact Dt R C hU I hq hG hv e1 e2 h
 ·(clear hP O;subst hf)
  exact Im R C hU I hq hv e1 e2 e3 h
 ·refine aI (hf) fun a p Iq h1 h2=>?_;(clear hP O C hf;subst Iq)
  exact wpAny_call (ks_codeAny_call_bound (I.keep _ _ h2) (ay e fun q e1 e2=>(hU _ _ _ _ _ _ e1).2 B.fl B.sf A _ φ s (.ref p.1::aP) (R.le (Nat.le_succ _)) I (bz.argsR (vs:=.sp .wr::vs) (.cons ⟨p,rfl,h1⟩ hv)) fun cv az s' g1 g2 _=>by(clear R hU I hv e h1 h2 hf e1;cases e2);exact h _ _ _ g1 (g2.weak fun b q=>kT (vs:=.sp .wr::vs) q)))
noncomputable def Ir (φ:Ph):Mt->Value->List Value->Prop
 | .str x n,cf,l=>cf= .builtin (mid n)/\∃t,l=[.str x t]
 | .get es,cf,l=>cf= .builtin "dict.get"/\∃a ds m,l=[.ref a]/\(a==sysModules)=false/\φ.f a=some (gh ds m)/\i9 φ es ds.toList
 | .met f o,cf,l=>cf= .ref f/\∃c,l=[c]/\VR φ o c
 | .val y,cf,l=>VR φ y cf/\l=[]
theorem Ir.mono{m:Mt}{cf:Value}{l:List Value}(le:φ.Le az)(x:Ir φ m cf l):Ir az m cf l:=by
 rcases m with⟨_,_⟩|_|⟨_,_⟩|_
 ·exact x
 ·exact x.imp id fun x=>x.imp fun a x=>x.imp fun ds x=>x.imp fun m x=>x.imp id fun x=>x.imp id fun x=>x.imp (le.f _ _) (i9.mono le)
 ·exact x.imp id fun x=>x.imp fun c x=>x.imp id (VR.mono le)
 ·exact x.imp (VR.mono le) id
set_option tactic.hygienic true in
theorem Iu{pl:Sem Bool}{Q:Value×List Value->Shared->Prop}(C:dM B T K)(O:dK B T)(I:Inv B φ G s){n:Str}{o:V}{co:Value}{m:Mt}(ho:VR φ o co)(e:getM T o n G=some (m,G'))
  (h:∀cf l s',Ir φ m cf l->G'=G->Step B No φ s φ G s'->Q (cf,l) s'):wpAny (model prog w) A (getMethod co n pl) Q E s:=by
 refine Dl (P:=fun o r=>VR φ o co->(∀cf l s',Ir φ r.1 cf l->r.2=G->Step B No φ s φ G s'->Q (cf,l) s')->wpAny (model prog w) A (getMethod co n pl) Q E s) e (fun x hn ho h=>?_) (fun a es hn q ho h=>?_) (fun es hn ho h=>?_) (fun D es f q hl ho h=>?_) (fun es f he hq hl ho h=>?_) (fun es y u he hl hu ho h=>?_) ho h
 ·refine bK (ho) fun t H9=>?_;subst H9
  rcases(Bool.or_eq_true ..).mp hn with hn|hn
  ·rcases(Bool.or_eq_true ..).mp hn with hn|hn
   ·obtain rfl:=(of_decide_eq_true hn);exact GM.join (h _ _ _ ⟨rfl,t,rfl⟩ rfl (Step.refl I))
   ·obtain rfl:=(of_decide_eq_true hn);exact GM.split (h _ _ _ ⟨rfl,t,rfl⟩ rfl (Step.refl I))
  ·obtain rfl:=(of_decide_eq_true hn);exact GM.index (h _ _ _ ⟨rfl,t,rfl⟩ rfl (Step.refl I))
 ·subst ho
  subst hn;refine jE (O.oN _ _ q) fun h1 h2 ds m h3 h4=>?_;have g:=I.kb _ _ h3;exact getMethod_builtin ⟨_,g,rfl⟩ PySem.F.plainAttrs_dict PySem.F.slot_dict_get PySem.F.type_dict_get (fun b e=>by obtain rfl:=Value.ref.inj e;exact⟨_,g,rfl⟩) (h _ _ _ ⟨rfl,a,ds,m,rfl,h1,I.base _ _ h3,h4 φ I.P⟩ rfl (Step.refl I))
 ·refine bw (ho) fun a ds m Ab ns g0 r=>?_;subst Ab
  subst hn;have g:=I.keep _ _ g0;exact getMethod_builtin ⟨_,g,rfl⟩ PySem.F.plainAttrs_dict PySem.F.slot_dict_get PySem.F.type_dict_get (fun b e=>by(rename_i aH;clear aH;obtain rfl:=Value.ref.inj e);exact⟨_,g,rfl⟩) (h _ _ _ ⟨rfl,a,ds,m,rfl,ns,g0,r⟩ rfl (Step.refl I))
 ·have ho':=ho
  refine iO (ho) fun a d ds m Iw g g2 rl=>?_;(clear e;subst Iw);exact z6 C I (I.keep _ _ g) (I.keep _ _ g2) q rl.dr hl (h _ _ _ ⟨rfl,_,rfl,ho'⟩ rfl (Step.refl I))
 ·refine aV (I.rX ho he) fun p ds m e0 h1 h2 h3 h4 h5 _=>?_
  (clear e;subst e0)
  exact z6 C I (O.wc▸h2) h4 hq h5.dr hl (h _ _ _ ⟨rfl,_,rfl,ho⟩ rfl (Step.refl I))
 ·refine aV (I.rX ho he) fun p ds m e0 h1 h2 h3 h4 h5 _=>?_
  (clear ho e he h1 h3;subst e0)
  exact Ig C I (O.wc▸h2) h4 hu h5.dr hl (fun _=>iR) fun cv hc=>h _ _ _ ⟨hc,rfl⟩ rfl (Step.toks I (Nat.le_succ _))
theorem Du{m:Mt}{r:V}{cf:Value}{l:List Value}{vs:List V}(O:dK B T)(C:dM B T K)(hU:fq B prog w K U n)(I:Inv B φ G s)(hm:Ir φ m cf l)(e:vm T U m vs G=some (r,G')):bA (model prog w) s.heap cf:=by
 rcases m with⟨_,_⟩|_|⟨f,o⟩|y
 ·exact hm.1▸⟨.machine,.inr (.inl rfl),Looks.of_pure rfl⟩
 ·exact hm.1▸⟨.machine,.inr (.inl rfl),Looks.of_pure rfl⟩
 ·exact ay e fun q e1 _=>hm.1▸jV (C.uh.keeps I.kb) (hU _ _ _ _ _ _ e1).1
 ·exact Aa O C hU I hm.1 e
theorem Dv(R:Rm B A (2*n+2))(hP:B.P=w.params)(O:dK B T)(C:dM B T K)(hU:fq B prog w K U n)(I:Inv B φ G s){m:Mt}{r:V}{cf:Value}{l:List Value}{vs:List V}{aP:List Value}(hm:Ir φ m cf l)(hv:bz φ vs aP)
  (e:vm T U m vs G=some (r,G'))(h:KV B φ G' s r Q):wpAny (model prog w) A (call cf (l++aP)) Q E s:=by
 rcases m with⟨x,nm⟩|es|⟨f,o⟩|y
 ·refine tP (hm) fun Iz t IA=>?_;subst Iz;subst IA
  exact ay e fun v e1 q=>by cases q;exact H7 I hv e1 h
 ·refine cJ (hm) fun IB SI=>bw SI fun a ds m IC ns g rl=>?_;clear SI;subst IB;subst IC
  exact ay e fun v e1 q=>by cases q;exact H8 I hP ns (I.keep _ _ g) rl hv e1 h
 ·refine dS (hm) fun Qh c ID ho=>?_;subst Qh;subst ID
  exact vO (vs:=o::vs) (R.le (Nat.le_succ _)) hU I (.cons ho hv) e h
 ·refine cJ (hm) fun hf Ia=>?_;(clear hm;subst Ia)
  exact vQ R hP O C hU I hf hv e h
end
end Mine.Internal
end
noncomputable section
open PySem PySem.W PyProof.Rows
set_option backward.match.sparseCases false
namespace Mine.Internal
noncomputable def mH (g:bf) (mg:Str->Option Value):Prop:=∀x v,g x=some v->
 (∃cv,mg x=some cv/\∀φ,VR φ v cv)\/(mg x=none/\x≠("__name__":Str)/\∃cv,bootBuiltins x=some cv/\∀φ,VR φ v cv)
structure Ks where
 B:Base
 T:aM
 K:Frag
 prog:Program
 w:World
 U:aE
 n:Nat
 g:bf
 mg:Str->Option Value
 mb:Str->Option Value
structure cD(k:Ks):Prop where
 hP:k.B.P=k.w.params
 O:dK k.B k.T
 C:dM k.B k.T k.K
 G:yV k.B k.mg k.mb
 N:mH k.g k.mg
 hU:fq k.B k.prog k.w k.K k.U k.n
structure kM(k:Ks)(A:Around)(ce:Env)(ns:List Str)(φ:Ph)(G:Gs)(s:Shared)(e:En):Prop where
 R:Rm k.B A (2*k.n+2)
 I:Inv k.B φ G s
 E:dY k.B ce ns φ e s.heap
noncomputable def KQ (k:Ks) {α β:Type} (Rel:Ph->α->β->Prop) (φ:Ph) (s:Shared) (r:α) (G':Gs) (Q:β->Shared->Prop):Prop:=∀c az s',Rel az r c->Step k.B No φ s az G' s'->Q c s'
noncomputable def Ev (k:Ks) {α β:Type} (Rel:Ph->α->β->Prop) (ce:Env) (ns:List Str) (m:Sem β) (f:En->Gs->Option (α×Gs)):Prop:=∀(A:Around) (E:Value->Shared->Prop) (Q:β->Shared->Prop) (φ:Ph) (G:Gs) (s:Shared) (e:En) (r:α) (G':Gs),
 kM k A ce ns φ G s e->f e G=some (r,G')->KQ k Rel φ s r G' Q->wpAny (model k.prog k.w) A m Q E s
noncomputable abbrev bC (k:Ks) (ce:Env) (ns:List Str) (ex:Expr) (x:X):Prop:=Ev k VR ce ns (eval ex ce) (aq k.T k.U x)
noncomputable def Qi (T:aM) (U:aE) (x:X) (e:En):Gs->Option (Bool×Gs):=bd (aq T U x e) fun v=>re (truthy v)
noncomputable abbrev q7 (k:Ks) (ce:Env) (ns:List Str) (ex:Expr) (x:X):Prop:=Ev k (fun u' b c=>b=c) ce ns (isTrue ex ce (eval ex ce)) (Qi k.T k.U x)
noncomputable def Ok (k:Ks) (ce:Env) (ns:List Str) (ex:Expr) (x:X):Prop:=bC k ce ns ex x/\q7 k ce ns ex x
theorem cF{α β:Type}{P:Prop}{f:Gs->Option (α×Gs)}{g:α->Gs->Option (β×Gs)}{G:Gs}{r:β×Gs}(h:bd f g G=some r)(k:∀x G1,f G=some (x,G1)->g x G1=some r->P):P:=bindC h fun a e1 e2=>k a.1 a.2 e1 e2
theorem gz{α:Type}{P:Prop}{o:Option α}{G G':Gs}{r:α}(h:re o G=some (r,G'))(k:o=some r->G=G'->P):P:=ay h fun a e1 e2=>k (e1.trans (congrArg some (congrArg Prod.fst e2))) (congrArg Prod.snd e2)
theorem lR{α:Type}{P:Prop}{a r:α}{G G':Gs}(h:some (a,G)=some (r,G'))(k:a=r->G=G'->P):P:=k (congrArg Prod.fst (Option.some.inj h)) (congrArg Prod.snd (Option.some.inj h))
theorem vR{B:Base}{φ aO:Ph}{G' G1 G2:Gs}{s s1:Shared}{r:V}{Q:Value->Shared->Prop}(q:G2=G')(kk:KV B φ G' s r Q)(t:Step B No φ s aO G1 s1):KV B aO G2 s1 r Q:=fun c az s' h t'=>kk c az s' h (q▸t.trans t')
section
variable{k:Ks}{ce:Env}{ns:List Str}
section
variable{A:Around}{φ az:Ph}{G G':Gs}{s s':Shared}{e:En}
theorem kM.step(c:kM k A ce ns φ G s e)(t:Step k.B No φ s az G' s'):kM k A ce ns az G' s' e:=⟨c.R,t.inv,c.E.ru t⟩
theorem Ev.at{α β:Type}{Rel:Ph->α->β->Prop}{m:Sem β}{f:En->Gs->Option (α×Gs)}(h:Ev k Rel ce ns m f){E:Value->Shared->Prop}{Q:β->Shared->Prop}{r:α}(c:kM k A ce ns φ G s e)(ev:f e G=some (r,G'))(kk:∀c az s',Rel az r c->Step k.B No φ s az G' s'->Q c s'):wpAny (model k.prog k.w) A m Q E s:=h A E Q φ G s e r G' c ev kk
end
theorem fW{T:aM}{U:aE}{x:X}{e:En}{G G1 G':Gs}{v:V}{r:Bool}(h1:aq T U x e G=some (v,G1))(h2:re (truthy v) G1=some (r,G')):Qi T U x e G=some (r,G'):=by unfold Qi bd;rw[h1];exact h2
theorem vC{P:Prop}{T:aM}{U:aE}{i:Nat}{e:En}{G G':Gs}{r:V}(h:aq T U (.v i) e G=some (r,G'))(kk:sl e i= .v r->G=G'->P):P:=by
 have h':(match sl e i with| .v x=>fun G=>some (x,G)|_=>fun _=>none:Cv) G=some (r,G'):=h
 generalize sl e i=z at h' kk;rcases z with _|x|_|⟨_,_⟩|⟨_,_⟩|_
 ·exact xa h'
 ·(revert h kk;apply q8 (h');intro h kk);exact kk rfl rfl
 ·exact xa h'
 ·exact xa h'
 ·exact xa h'
 ·exact xa h'
theorem IE(S:cD k){ex:Expr}{x:X}(h:bC k ce ns ex x)(he:isTrue ex ce (eval ex ce)=(do let v <-eval ex ce;standAt ex.pos;holding [v] (PySem.truthy v))):q7 k ce ns ex x:=
 fun A E Q φ G s e r G' c ev kk=>cF ev fun v G1 e1 ev=>gz ev fun ev q=>wpAny_isTrue_value (h.at c e1 fun cv aO s1 hv t1=>jU c.R.h S.hP S.O t1.inv hv ev fun s2 t2=>kk _ _ _ rfl (q▸t1.trans t2)) he
theorem bO(S:cD k){ex:Expr}{x:X}(h:bC k ce ns ex x)(he:isTrue ex ce (eval ex ce)=(do let v <-eval ex ce;standAt ex.pos;holding [v] (PySem.truthy v))):Ok k ce ns ex x:=⟨h,IE S h he⟩
theorem IF(env:Env):keywordEach [] env=[]:=rfl
theorem rZ{c:Const}{v:V}{n:Nat}{pos:Pos}(h:cC c=some v):bC k ce ns (.Constant c n pos) (.c v):=fun A E Q φ G s e r G' cu ev kk=>by
 obtain⟨rfl,rfl⟩:v=r/\G=G':=lR ev fun a b=>⟨a,b⟩;rcases c with _|_|_|_|⟨_,_⟩|_|_|_
 ·(revert ev kk;apply af (h);intro ev kk);exact wpAny_Constant_none (kk _ _ _ rfl (Step.refl cu.I))
 ·(revert ev kk;apply af (h);intro ev kk);exact wpAny_Constant_bool (kk _ _ _ rfl (Step.refl cu.I))
 ·(revert ev kk;apply af (h);intro ev kk);exact wpAny_Constant_int (cH cu.I kk (Nat.le_add_right _ _))
 ·exact xa h
 ·exact xa h
 ·(revert ev kk;apply af (h);intro ev kk);exact wpAny_Constant_str (g9 cu.I kk (Nat.le_add_right _ _))
 ·exact xa h
 ·exact xa h
theorem ai{x:Str}(h:ao x=true):(x==("__debug__":Str))=false/\(x==("__classdict__":Str))=false:=by unfold ao at h;simp only[Bool.and_eq_true,Bool.not_eq_true']at h;exact h
theorem Ac{x:Str}{pos:Pos}{i:Nat}(hp:ao x=true)(hk:isVar (ce.kindOf x)=true)(hi:ix ns x=some i):bC k ce ns (.Name x pos) (.v i):=
 fun A E Q φ G s e r G' c ev kk=>vC ev fun hv b=>wpAny_Name (gp c.E hi hk hv (ai hp).2 fun cv h=>kk _ _ _ h (b▸Step.refl c.I)) (ai hp).1
theorem Ad(S:cD k){x:Str}{pos:Pos}{v:V}(hp:ao x=true)(hk:ce.kindOf x=some .globalImplicit)(hv:k.g x=some v):bC k ce ns (.Name x pos) (.c v):=fun A E Q φ G s e r G' c ev kk=>lR ev fun a b=>by
 refine wpAny_Name ?_ (ai hp).1;rcases S.N x _ hv with⟨cv,h1,h2⟩|⟨h1,h2,cv,h3,h4⟩
 ·exact GV S.G c.I c.E hk h1 (kk _ _ _ (a▸h2 _) (b▸Step.refl c.I))
 ·exact yW S.G c.I c.E hk h1 h2 h3 (kk _ _ _ (a▸h4 _) (b▸Step.refl c.I))
theorem IG{op:Operator}{l r:Expr}{a b:X}{pos:Pos}(ha:bC k ce ns l a)(hb:bC k ce ns r b):bC k ce ns (.BinOp l op r pos) (.bin op a b):=
 fun A E Q φ G s e r G' c ev kk=>cF ev fun x G1 e1 ev=>cF ev fun y G2 e2 ev=>gz ev fun ev q=>
  wpAny_BinOp (ha.at c e1 fun cx aO s1 h1 t1=>hb.at (c.step t1) e2 fun cy d9 s2 h2 t2=>CS t2.inv (h1.mono t2.le) h2 ev (vR q kk (t1.trans t2)))
theorem II{t b o:Expr}{x y z:X}{pos:Pos}(ht:q7 k ce ns t x)(hb:bC k ce ns b y)(ho:bC k ce ns o z):bC k ce ns (.IfExp t b o pos) (.tT x y z):=
 fun A E Q φ G s e r G' c ev kk=>cF ev fun v G1 e1 ev=>cF ev fun q G2 e2 ev=>wpAny_IfExp (ht.at (r:=q) (G':=G2) c (fW e1 e2) fun b' aO s1 h1 t1=>by
  (clear ht e1 e2;subst h1)
  rename_i kU nG;clear kU nG;rcases q with _|_
  ·exact ho.at (c.step t1) ev (vR rfl kk t1)
  ·exact hb.at (c.step t1) ev (vR rfl kk t1))
theorem Dw{t b o:Expr}{x y z:X}{pos:Pos}(ht:q7 k ce ns t x)(hb:q7 k ce ns b y)(ho:q7 k ce ns o z):q7 k ce ns (.IfExp t b o pos) (.tT x y z):=
 fun A E Q φ G s e r G' c ev kk=>cF ev fun v0 G0 ev CF=>cF ev fun v G1 e1 ev=>cF ev fun q G2 e2 ev=>by
  simp only[arm_isTrue_IfExp];refine wpAny_bind (ht.at (r:=q) (G':=G2) c (fW e1 e2) fun b' aO s1 h1 t1=>?_)
  (clear ht e1 e2;subst h1)
  rename_i kU nG Ae;clear kU nG Ae;rcases q with _|_
  ·exact ho.at (r:=r) (G':=G') (c.step t1) (fW ev CF) fun c d9 s2 h2 t2=>kk c _ _ h2 (t1.trans t2)
  ·exact hb.at (r:=r) (G':=G') (c.step t1) (fW ev CF) fun c d9 s2 h2 t2=>kk c _ _ h2 (t1.trans t2)
theorem Af{x:Expr}{a:X}{pos:Pos}(ha:bC k ce ns x a):bC k ce ns (.UnaryOp .USub x pos) (.neg a):=
 fun A E Q φ G s e r G' c ev kk=>cF ev fun v G1 e1 ev=>gz ev fun ev q=>wpAny_UnaryOp (ha.at c e1 fun cx aO s1 h1 t1=>ay ev fun i hi e2=>by
  rw[fh hi]at h1;exact h1.elim fun t z=>z▸neg_int (cH t1.inv (e2▸vR q kk t1) (Nat.le_add_right _ _)))
theorem IJ(S:cD k){x:Expr}{a:X}{pos:Pos}(ha:bC k ce ns x a):bC k ce ns (.UnaryOp .Not x pos) (.not a):=
 fun A E Q φ G s e r G' c ev kk=>cF ev fun v G1 e1 ev=>gz ev fun ev q=>wpAny_UnaryOp (ha.at c e1 fun cx aO s1 h1 t1=>ay ev fun b hb e2=>by
  refine wpAny_holding ?_;exact wpAny_bind (jU c.R.h S.hP S.O t1.inv h1 hb fun s2 t2=>wpAny_pure (kk _ _ _ (e2▸rfl) (q▸t1.trans t2))))
theorem Dy{x:Expr}{a:X}{pos:Pos}(ha:q7 k ce ns x a):q7 k ce ns (.UnaryOp .Not x pos) (.not a):=
 fun A E Q φ G s e r G' c ev kk=>cF ev fun v0 G0 ev CF=>cF ev fun v G1 e1 ev=>gz ev fun ev q=>ay ev fun b hb e2=>by
  subst e2
  (rename_i aH bI bS;clear aH bI bS;revert kk;apply q8 (CF);intro kk)
  exact wpAny_isTrue_Not (ha.at (r:=b) (G':=G1) c (fW e1 (by rw[hb];rfl)) fun b' aO s1 h1 t1=>kk _ _ _ (h1▸rfl) (q▸t1))
theorem IL{op:CmpOp}{l r:Expr}{a b:X}{pos:Pos}(hm:behindInMarks op r=false)(ha:bC k ce ns l a)(hb:bC k ce ns r b):bC k ce ns (.Compare l [op] [r] pos) (.cmp op a b):=
 fun A E Q φ G s e r G' c ev kk=>cF ev fun x G1 e1 ev=>cF ev fun y G2 e2 ev=>gz ev fun ev q=>ay ev fun d e3 e4=>
  wpAny_Compare1 (ha.at c e1 fun cx aO s1 h1 t1=>hb.at (c.step t1) e2 fun cy d9 s2 h2 t2=>vg t2.inv c.R.eq (h1.mono t2.le) h2 e3 (kk _ _ _ (e4▸rfl) (q▸t1.trans t2))) hm
theorem Dz(S:cD k){op:CmpOp}{l r:Expr}{a b:X}{pos:Pos}(hm:behindInMarks op r=false)(ha:bC k ce ns l a)(hb:bC k ce ns r b):q7 k ce ns (.Compare l [op] [r] pos) (.cmp op a b):=
 fun A E Q φ G s e r G' c ev kk=>cF ev fun v0 G0 ev CF=>gz CF fun CF q0=>cF ev fun x G1 e1 ev=>cF ev fun y G2 e2 ev=>gz ev fun ev q=>ay ev fun d e3 e4=>
  wpAny_isTrue_Compare1 (ha.at c e1 fun cx aO s1 h1 t1=>hb.at (c.step t1) e2 fun cy d9 s2 h2 t2=>vg t2.inv c.R.eq (h1.mono t2.le) h2 e3 (jU (x:=v0) c.R.h S.hP S.O t2.inv (e4▸rfl) CF fun s3 t3=>kk _ _ _ rfl (q0▸q▸(t1.trans t2).trans t3))) hm
noncomputable def r4 (k:Ks) (ce:Env) (ns:List Str) (es:List Expr) (xs:List X):Prop:=Ev k bz ce ns (spliced (es.map fun x=>(false,eval x ce))) (fk k.T k.U xs)
theorem o5(env:Env){x:Expr}(h:noStar x=true)(r:List Expr):starEach (x::r) env=(false,eval x env)::starEach r env:=by rcases x with⟨⟩ <;> first|rfl|exact xc h
theorem au(env:Env)(pos:Pos):∀{es:List Expr},es.all noStar=true->backTo pos (starEach es env)=es.map fun x=>(false,eval x env)
 |[],_=>rfl
 |x::r,h=>by refine cJ (Bool.and_eq_true_iff.mp (List.all_cons▸h)) fun h1 h2=>?_;have ih:=au env pos h2;rw[o5 env h1 r];show(false,eval x env)::backTo pos (starEach r env)=_;rw[ih];rfl
theorem r5{e:Expr}(h:noStar e=true):[e].all noStar=true:=by rw[List.all_cons,h];rfl
theorem call_plain{env:Env}{f:Expr}{args:List Expr}{kws:List Keyword}{pos:Pos}(h:bM f=false)(hs:args.all noStar=true):
  eval (.Call f args kws pos) env=(do callWith pos (<-eval f env) [] (args.map fun x=>(false,eval x env)) (backToKw pos (keywordEach kws env))):=by
 rw[<-au env pos hs];rcases f with⟨⟩ <;> first|rfl|exact xd h
theorem kW(env:Env)(es:List Expr):(es.map fun x=>((false,eval x env):Bool×Sem Value)).any (·.1)=false:=by
 induction es with
 |nil=>rfl
 |cons x r ih=>exact ih
theorem gA{f:Expr->Option X}(h:∀ex x,f ex=some x->bC k ce ns ex x):∀{es:List Expr} {xs:List X},aA f es=some xs->r4 k ce ns es xs
 |[],xs,e=>fun A E Q φ G s en r G' c ev kk=>by
  (revert ev;apply af (e);intro ev)
  exact lR ev fun a b=>Calls.spliced_nil (kk _ _ _ (a▸bz.nil) (b▸Step.refl c.I))
 |ex::es,xs,e=>fun A E Q φ G s en r G' c ev kk=>aD e fun y q h1 h2 h3=>by
  (clear e;subst h3)
  exact cF ev fun v G1 e1 ev=>cF ev fun vs G2 e2 ev=>gz ev fun ev q=>Calls.spliced_cons ((h _ _ h1).at c e1 fun cv aO s1 v1 t1=>(gA h h2).at (c.step t1) e2 fun aP d9 s2 v2 t2=>kk _ _ _ (Option.some.inj ev▸bz.cons (v1.mono t2.le) v2) (q▸t1.trans t2))
theorem DA{es:List Expr}{xs:List X}{pos:Pos}(hs:es.all noStar=true)(h:r4 k ce ns es xs):bC k ce ns (.List es pos) (.list xs):=
 fun A E Q φ G s e r G' c ev kk=>cF ev fun vs G1 e1 ev=>gz ev fun ev q=>ak ev fun hl ev=>wpAny_List (by
  rw[au _ _ hs];exact h.at c e1 fun aP aO s1 v1 t1=>⟨by rw[<-v1.length];exact Nat.le_trans hl bG,jF t1.inv (vs:=aP.toArray) (List.toList_toArray▸v1) (Option.some.inj ev▸vR q kk t1) (Nat.le_refl _)⟩)
theorem IM{es:List Expr}{n:Nat}{xs:List X}{pos:Pos}(hs:es.all noStar=true)(h:r4 k ce ns es xs):bC k ce ns (.Tuple es n pos) (.tup xs):=
 fun A E Q φ G s e r G' c ev kk=>cF ev fun vs G1 e1 ev=>gz ev fun ev q=>ak ev fun hl ev=>wpAny_Tuple (by
  rw[au _ _ hs];exact h.at c e1 fun aP aO s1 v1 t1=>⟨by rw[<-v1.length];exact Nat.le_trans hl bG,vR q kk t1 _ _ _ (Option.some.inj ev▸⟨_,aP.toArray,0,rfl,aR,v1.mono (tR t1.inv _)⟩) (Step.mW (t:=s1.toks) t1.inv rfl (Nat.le_refl _))⟩)
end
end Mine.Internal
end
noncomputable section
open PySem PySem.W PyProof.Rows
namespace Mine.Internal
section
variable{k:Ks}{ce:Env}{ns:List Str}
theorem um(pos:Pos)(x y:Sem Value)(l:List (Sem Value)):boolOp pos .And (x::y::l)=(do
  let v <-x
  standAt pos
  let t <-holding [v] (PySem.truthy v)
  match t with
  |false=>pure v
  |true=>boolOp pos .And (y::l)):=by
 show(do
  let v <-x
  standAt pos
  let t <-holding [v] (PySem.truthy v)
  match BoolOp.And,t with
  | .And,false| .Or,true=>pure v
  |_,_=>boolOp pos .And (y::l))=_
 congr 1;funext v;congr 1;funext _;congr 1;funext t;rcases t with⟨⟩ <;> rfl
noncomputable abbrev Qj (k:Ks) (ce:Env) (ns:List Str) (o:BoolOp) (es:List Expr) (f:En->Cv):Prop:=Ev k (fun u' b c=>b=c) ce ns (allTrue o es ce) fun e=>bd (f e) fun v=>re (truthy v)
theorem Ag(S:cD k){f:Expr->Option X}(h:∀ex x,f ex=some x->Ok k ce ns ex x){pos:Pos}:∀{es:List Expr} {xs:List X},aA f es=some xs->Ev k VR ce ns (boolOp pos .And (evalEach es ce)) (rJ k.T k.U xs)/\Qj k ce ns .And es (rJ k.T k.U xs)
 |[],xs,hx=>by(apply af (hx));exact⟨fun A E Q φ G s e r G' c ev kk=>(xa ev),fun A E Q φ G s e r G' c ev kk=>cF ev fun v G1 ev _=>(xa ev)⟩
 |[ex],xs,hx=>aD hx fun y q h1 h2 h3=>by
  subst h3
  (revert hx;apply af (h2);intro hx)
  refine⟨fun A E Q φ G s e r G' c ev kk=>cF ev fun v G1 e1 ev=>?_,fun A E Q φ G s e r G' c ev kk=>cF ev fun v G1 e1 ev=>cF e1 fun v' G0 e0 e1=>?_⟩
  ·exact gz ev fun a b=>(h _ _ h1).1.at c (Option.some.inj a▸b▸e1) kk
  ·refine gz e1 fun a b=>wpAny_allTrue_And_cons ((h _ _ h1).2.at (r:=r) (G':=G') c (fW e0 (Option.some.inj a▸b▸ev)) fun t aO s1 ht t1=>?_)
   subst ht
   (rename_i aH bI;clear aH bI;rcases r with⟨⟩)
   ·exact kk _ _ _ rfl t1
   ·exact wpAny_allTrue_And_nil (kk _ _ _ rfl t1)
 |ex::Ue::es,xs,hx=>aD hx fun y q h1 h2 h3=>by
  (clear hx;subst h3)
  have ih:=Ag S h (pos:=pos) h2;refine aD h2 fun y2 q2 h3 h4 h5=>?_;clear h3 h4;subst h5;refine⟨fun A E Q φ G s e r G' c ev kk=>cF ev fun v G1 e1 ev=>cF ev fun t G2 e2 ev=>?_,fun A E Q φ G s e r G' c ev kk=>cF ev fun v G1 e1 ev=>cF e1 fun v' G0 e0 e1=>cF e1 fun t G2 e2 e1=>?_⟩
  ·show wpAny _ _ (boolOp pos .And (eval ex ce::eval Ue ce::evalEach es ce)) _ _ _
   rw[um];refine wpAny_bind ((h _ _ h1).1.at c e1 fun cv aO s1 v1 t1=>gz e2 fun e2 q=>wpAny_bind (wpAny_standAt (wpAny_bind (wpAny_holding (jU c.R.h S.hP S.O t1.inv v1 e2 fun s2 t2=>?_)))));have xN:Step k.B No φ s aO G2 s2:=q▸t1.trans t2;rename_i kU nG Ae;clear kU nG Ae;rcases t with _|_
   ·exact gz ev fun a b=>wpAny_pure (kk _ _ _ (Option.some.inj a▸v1) (b▸xN))
   ·exact ih.1.at (c.step xN) ev (vR rfl kk xN)
  ·refine wpAny_allTrue_And_cons ((h _ _ h1).2.at (r:=t) (G':=G2) c (fW e0 e2) fun t' aO s1 ht t1=>?_)
   subst ht;rename_i kU nG Ae;clear kU nG Ae;rcases t with _|_
   ·exact gz e1 fun a b=>gz ev fun ev b2=>gz e2 fun e2 b3=>kk _ _ _ (Option.some.inj (e2.symm.trans ((congrArg truthy (Option.some.inj a)).trans ev))).symm (b2▸b▸t1)
   ·exact ih.2.at (r:=r) (G':=G') (c.step t1) (by show bd _ _ _=_;unfold bd;rw[show rJ k.T k.U (y2::q2) e G2=_ from e1];exact ev) fun c d9 s2 h2 t2=>kk c _ _ h2 (t1.trans t2)
theorem IP(S:cD k){f:Expr->Option X}(h:∀ex x,f ex=some x->Ok k ce ns ex x){pos:Pos}{es:List Expr}{xs:List X}(hx:aA f es=some xs):Ok k ce ns (.BoolOp .And es pos) (.and xs):=
 ⟨fun A E Q φ G s e r G' c ev kk=>by rw[arm_eval_BoolOp];exact(Ag S h hx).1.at c ev kk,fun A E Q φ G s e r G' c ev kk=>wpAny_isTrue_BoolOp ((Ag S h (pos:=pos) hx).2.at c ev kk)⟩
noncomputable abbrev Ah (s:Shared) (cx:Value):Prop:=∃ty id,s.TypeIs cx ty/\typeLookup (.type ty) "__getitem__"=pure (some (.builtin id))
theorem xO(O:dK k.B k.T){φ:Ph}{G:Gs}{s:Shared}(I:Inv k.B φ G s){x y r:V}{cx:Value}(hx:VR φ x cx)(e:gv k.T x y=some r):Ah s cx:=by
 unfold gv at e;split at e
 ·obtain⟨t,rfl⟩:=hx;exact⟨"str",_,typeIs_str _ _ _,F.slot_str_getitem.lookup⟩
 ·obtain⟨a,vs,n,rfl,g,_⟩:=hx;exact⟨"list",_,⟨_,I.keep _ _ g,rfl⟩,slot_list_getitem.lookup⟩
 ·obtain⟨a,vs,n,rfl,g,_⟩:=hx;exact⟨"tuple",_,⟨_,I.keep _ _ g,rfl⟩,F.slot_tuple_getitem.lookup⟩
 ·subst hx
  exact bindC e fun kk u' e=>bindC e fun es q e=>by obtain⟨h1,h2,ds,m,h3,h4⟩:=O.oN _ _ q;exact⟨"dict",_,⟨_,I.kb _ _ h3,rfl⟩,slot_dict_getitem.lookup⟩
 ·(clear O;obtain⟨a,ds,n,rfl,ns,g,_⟩:=hx);exact⟨"dict",_,⟨_,I.keep _ _ g,rfl⟩,slot_dict_getitem.lookup⟩
 ·exact xa e
theorem uo{φ:Ph}{G:Gs}{s:Shared}(I:Inv k.B φ G s){x r:V}{lo hi:Option V}{cx:Value}(hx:VR φ x cx)(e:jK x lo hi=some r):Ah s cx:=
 bindC e fun p u' e=>bindC e fun q u' e=>gu e (fun e=>jI (P:=Ah s) hx e fun a t e=>⟨"str",_,typeIs_str _ _ _,F.slot_str_getitem.lookup⟩)
  fun e=>jc I (P:=Ah s) hx e fun l a vs n g u' u' _=>⟨"list",_,⟨_,g,rfl⟩,slot_list_getitem.lookup⟩
theorem fu{prog:Program}{w:World}{A:Around}{E:Value->Shared->Prop}{s:Shared}{Q:Bool->Shared->Prop}{o:Value}(h0:Ah s o)(h:Q false s):wpAny (model prog w) A (getitemInPython o) Q E s:=by refine cU (h0) fun ty id hT hl=>?_;rw[getitemInPython_of_ne hT.not_modules];refine wpAny_bind (wpAny_specialOf hT hl ?_);exact wpAny_pure h
theorem fQ{sl:Expr}(h:dH sl=false)(o i:Value):subscripted sl false o i=operate [o,i] (getItem o i):=by rcases sl with⟨⟩ <;> first|rfl|exact xd h
theorem IQ(S:cD k){v i:Expr}{a b:X}{pos:Pos}(hs:dH i=false)(ha:bC k ce ns v a)(hb:bC k ce ns i b):bC k ce ns (.Subscript v i pos) (.sub a b):=
 fun A E Q φ G s e r G' c ev kk=>cF ev fun x G1 e1 ev=>cF ev fun y G2 e2 ev=>gz ev fun ev q=>by simp only[eval_Subscript];refine wpAny_bind (ha.at c e1 fun cx aO s1 h1 t1=>wpAny_bind (wpAny_holding (hb.at (c.step t1) e2 fun cy d9 s2 h2 t2=>wpAny_bind (wpAny_standAt (wpAny_bind (fu (xO S.O t2.inv (h1.mono t2.le) ev) ?_))))));rw[fQ hs];exact wpAny_bind (wpAny_operating (w_getI S.hP S.O t2.inv (h1.mono t2.le) h2 ev fun cv uq s3 h3 t3=>wpAny_bind (wpAny_letTemporaryGo (wpAny_pure (kk _ _ _ h3 (q▸(t1.trans t2).trans t3))))))
noncomputable def Qk (k:Ks) (ce:Env) (ns:List Str) (ex:Option Expr) (x:Option X):Prop:=Ev k OV ce ns (evalPart ex ce) (yO k.T k.U x)
theorem Ai{f:Expr->Option X}(h:∀ex x,f ex=some x->bC k ce ns ex x):∀{ex:Option Expr} {x:Option X},cO f ex=some x->Qk k ce ns ex x
 |none,x,hx=>fun A E Q φ G s e r G' c ev kk=>by(revert ev;apply af (hx);intro ev);rw[evalPart_none];exact lR ev fun a b=>wpAny_pure (kk _ _ _ (a▸rfl) (b▸Step.refl c.I))
 |some ex,x,hx=>fun A E Q φ G s e r G' c ev kk=>ay hx fun y h1 h2=>by
  (clear hx;subst h2)
  simp only[evalPart_some];have ev:bd (aq k.T k.U y e) (fun r=>re (some (some r))) G=some (r,G'):=by rw[yO]at ev;exact ev
  exact cF ev fun v G1 e1 ev=>gz ev fun a b=>(h _ _ h1).at c e1 fun cv aO s1 hv t1=>kk _ _ _ (Option.some.inj a▸hv) (b▸t1)
theorem OV.mono{φ az:Ph}(h:φ.Le az):∀{o:Option V} {cv:Value},OV φ o cv->OV az o cv
 |none,_,x=>x
 |some _,_,x=>VR.mono h x
theorem IS{v:Expr}{lo hi:Option Expr}{a:X}{b c:Option X}{p pos:Pos}(ha:bC k ce ns v a)(hb:Qk k ce ns lo b)(hc:Qk k ce ns hi c):bC k ce ns (.Subscript v (.Slice lo hi none p) pos) (.slc a b c):=
 fun A E Q φ G s e r G' cu ev kk=>cF ev fun x G1 e1 ev=>cF ev fun y G2 e2 ev=>cF ev fun z G3 e3 ev=>gz ev fun ev q=>by simp only[eval_Subscript];refine wpAny_bind (ha.at cu e1 fun cx aO s1 h1 t1=>wpAny_bind (wpAny_holding (wpAny_Slice (hb.at (cu.step t1) e2 fun cl d9 s2 h2 t2=>hc.at ((cu.step t1).step t2) e3 fun ch uq s3 h3 t3=>?_))));simp only[evalPart_none];refine wpAny_pure (wpAny_bind (wpAny_standAt ?_));have st:Step k.B No uq s3 uq G3 {s3 with heap:=s3.heap.push {cls:=.type "slice",data:=.fields #[cl,ch,.none]}}:=Step.push t3.inv _ (Nat.le_refl _);have xP:=(h1.mono t2.le).mono t3.le;refine wpAny_bind (fu (uo st.inv xP ev) ?_);exact wpAny_bind (wpAny_operating (w_getS st.inv xP (h2.mono t3.le) h3 ev (Heap.IsSliceOf.new ..) fun cv Ql s4 h4 t4=>wpAny_bind (wpAny_letTemporaryGo (wpAny_pure (kk _ _ _ h4 (q▸((t1.trans t2).trans t3).trans (st.trans t4)))))))
set_option tactic.hygienic true in
theorem aB{o:Expr}(h:bJ o=false)(attr:Str)(env:Env)(whole:Sem Value):attributeBase o attr env whole=whole:=by
 rcases o with⟨⟩ <;> try rfl
 rename_i f as ks p;rcases f with⟨⟩ <;> try rfl
 rcases as with _|_ <;> try rfl
 rcases ks with _|_ <;> try rfl
 exact xd h
theorem DB(S:cD k){v:Expr}{a:X}{name:Str}{pos:Pos}(hs:bJ v=false)(ha:bC k ce ns v a):bC k ce ns (.Attribute v name pos) (.attr a name):=
 fun A E Q φ G s e r G' c ev kk=>cF ev fun x G1 e1 ev=>by rw[arm_eval_Attribute,aB hs];exact wpAny_bind (ha.at c e1 fun cx aO s1 h1 t1=>wpAny_bind (wpAny_standAt (wpAny_bind (wpAny_holding (z7 S.C S.O t1.inv h1 ev fun cv d9 s2 h2 t2=>wpAny_bind (wpAny_letTemporaryGo (wpAny_pure (kk _ _ _ h2 (t1.trans t2)))))))))
theorem jw{es:List Expr}{xs:List X}(h:r4 k ce ns es xs){f:Value}{A:Around}{E:Value->Shared->Prop}{Q:Args->Shared->Prop}{φ:Ph}{G G':Gs}{s:Shared}{e:En}{r:List V}(c:kM k A ce ns φ G s e)
  (ev:fk k.T k.U xs e G=some (r,G'))(kk:∀aP az s',bz az r aP->Step k.B No φ s az G' s'->Q ⟨aP,[]⟩ s'):wpAny (model k.prog k.w) A (evalArgs f true (es.map fun x=>(false,eval x ce)) []) Q E s:=by
 have key:=h.at (E:=E) (Q:=fun vs s'=>Q ⟨vs,[]⟩ s') c ev kk;clear h c ev kk;rcases es with _|⟨a,es⟩
 ·refine wpAny_bind (wpAny_mono key (fun vs s' h'=>wpAny_bind (wpAny_pure ?_)) fun u' u' x=>x)
  refine wpAny_holding ?_;exact wpAny_bind (wpAny_pure (wpAny_bind (wpAny_pure (wpAny_pure h'))))
 ·exact Calls.evalArgs_plain key
theorem DC(S:cD k){f:Expr}{args:List Expr}{x:X}{xs:List X}{pos:Pos}(hs:bM f=false)(hst:args.all noStar=true)(hf:bC k ce ns f x)(ha:r4 k ce ns args xs):bC k ce ns (.Call f args [] pos) (.call x xs):=
 fun A E Q φ G s e r G' c ev kk=>cF ev fun y G1 e1 ev=>cF ev fun vs G2 e2 ev=>by refine w_eq (call_plain hs hst) ?_;refine wpAny_bind (hf.at c e1 fun cf aO s1 h1 t1=>callWith_of (P:=fun hp=>bA (model k.prog k.w) hp cf) (by rw[kW];rfl) (fun u' z=>z) (jw ha (c.step t1) e2 fun aP d9 s2 h2 t2=>?_));exact⟨Aa S.O S.C S.hU t2.inv (h1.mono t2.le) ev,vQ c.R S.hP S.O S.C S.hU t2.inv (h1.mono t2.le) h2 ev (vR rfl kk (t1.trans t2))⟩
theorem xQ{args:List Expr}{pos:Pos}(hl:args.length<20):methodCallForm (args.length+([]:List Keyword).length) (args.map fun x=>((false,eval x ce):Bool×Sem Value)) (backToKw pos (keywordEach [] ce))=true:=by
 unfold methodCallForm;have e1:(args.map fun x=>((false,eval x ce):Bool×Sem Value)).all (fun p=> !p.1)=true:=by rw[List.all_map];exact List.all_eq_true.mpr fun u' _=>rfl
 simp only[e1];simp[IF,backToKw];omega
theorem DE(S:cD k){o:Expr}{name:Str}{apos pos:Pos}{args:List Expr}{x:X}{xs:List X}(hs:bJ o=false)(hp:(apos.endLine==pos.line)=true)(hst:args.all noStar=true)(hl:args.length<20)
  (hf:bC k ce ns o x)(ha:r4 k ce ns args xs):bC k ce ns (.Call (.Attribute o name apos) args [] pos) (.bB x name xs):=
 fun A E Q φ G s e r G' c ev kk=>cF ev fun y G1 e1 ev=>cF ev fun m G2 e2 ev=>cF ev fun vs G3 e3 ev=>by rw[arm_eval_Call,aB hs,au _ _ hst];refine wpAny_bind (hf.at c e1 fun co aO s1 h1 t1=>wpAny_bind (wpAny_standAt ?_));unfold methodCall;rw[xQ hl];refine wpAny_bind (wpAny_holding ?_);unfold calleeOf;refine w_eq (if_pos rfl) ?_;refine Iu S.C S.O t1.inv h1 e2 fun cf l s2 hm q t2=>?_;dsimp only;unfold methodCallPos;rw[hp];have xN:Step k.B No φ s aO G2 s2:=q▸t1.trans t2;refine wpAny_bind (wpAny_pure (callWith_of (P:=fun hp=>bA (model k.prog k.w) hp cf) (by rw[kW];rfl) (fun u' z=>z) (jw ha (c.step xN) e3 fun aP uq s3 h3 t3=>?_)));exact⟨Du S.O S.C S.hU t3.inv (hm.mono t3.le) ev,Dv c.R S.hP S.O S.C S.hU t3.inv (hm.mono t3.le) h3 ev (vR rfl kk (xN.trans t3))⟩
end
end Mine.Internal
end
noncomputable section
open PySem PySem.W PyProof.Rows
set_option backward.match.sparseCases false
namespace Mine.Internal
section
variable{B:Base}{X:Addr->Prop}{φ az:Ph}{G G':Gs}{s s':Shared}
theorem Step.adopt(x:Step B X φ s az G' s'){a:Addr}{o0 ob:Obj}{h':Heap}{t:Tok}{d:Drawn}(hn:s.heap.get? a=none)(hf:az.f a=none)(hm:¬az.mu a)(ht:a≠B.tb)(hF:a∉B.frs)(h0:s'.heap.get? a=some o0)(hd:eB o0->eB ob)(hp:o0.data≠ .plain)
  (k:∀b o,b≠a->s'.heap.get? b=some o->h'.get? b=some o)(ha:h'.get? a=some ob)(htk:s'.toks<=t):Step B X φ s (az.put a ob) G' ⟨h',s'.gens,d,t,s'.os⟩:=by
 have y:Step B (fun b=>b=a) az s' az G' ⟨h',s'.gens,d,t,s'.os⟩:=Step.ext x.inv x.inv.gens (fun b o e z=>k b o (fun q=>by
   (clear k;obtain rfl:=q)
   rcases z with z|z|z|z
   ·exact z rfl
   ·rw[hf]at z;exact xc z
   ·exact hm z
   ·exact ht z) e) (fun b hb o e=>by subst hb;obtain rfl:=Option.some.inj (h0.symm.trans e);exact⟨ob,ha,hd,fun q=>absurd q hp⟩) htk (GK.refl _)
 have z:=x.hide y fun b hb=>.inr (hb▸hn);exact⟨z.le.trans (Ph.bD hf),z.inv.put ha hf hm ht hF,z.kept,z.live,fun b o e=>(dj e).elim (fun q=>.inr (.inl (q.1▸hn))) (z.new b o),z.yM,z.gk⟩
noncomputable def OZ (φ:Ph):List (Str×V)->List (Value×Value)->Prop
 |[],vs=>vs=[]
 |e::l,vs=>∃t c r,vs=(.str e.1 t,c)::r/\VR φ e.2 c/\OZ φ l r
theorem OZ.strs:∀{es:List (Str×V)} {vs:List (Value×Value)},OZ φ es vs->allStrKeys vs=true/\(strPairs vs).map (·.1)=es.map (·.1)/\mq φ es (strPairs vs)
 |[],_,h=>by obtain rfl:=h;exact⟨rfl,rfl,rfl⟩
 |e::es,_,h=>by refine aX (h) fun t c r IT h1 h2=>?_;(clear h;subst IT);exact⟨h2.strs.1,congrArg (List.cons e.1) h2.strs.2.1,c,_,rfl,h1,h2.strs.2.2⟩
theorem ur{prog:Program}{w:World}(hP:φ.P=w.params):∀{es:List (Str×V)} {kvs:List (Str×Value)} {ds:List DictEntry},mq φ es kvs->Pairs (strKind prog w) ds kvs->
  (∀d∈ds,∃k,(strKind prog w).is k d.key=true/\d.hash=(strKind prog w).hash k)->i9 φ es ds
 |[],_,_,h,p,_=>by obtain rfl:=h;cases p;rfl
 |e::es,_,ds,h,p,hk=>by
  obtain⟨c,r,rfl,h1,h2⟩:=h;cases p with
  |@cons d _ ds _ p1 p2 p=>
   refine av (hk d List.mem_cons_self) fun k k1 k2=>?_;have hkk:=(strKind prog w).inj d.key _ _ k1 p1
   (clear k1;subst hkk)
   exact⟨d,ds,rfl,⟨by rw[k2,hP];rfl,Value.isStrOf_shape p1,p2▸h1⟩,ur hP h2 p fun d hd=>hk d (List.mem_cons_of_mem _ hd)⟩
end
section
variable{k:Ks}{ce:Env}{ns:List Str}
theorem DF{o:Expr}{apos pos p1 p2:Pos}{k1 k2:Nat}{x:X}{y z:Str}(hs:bJ o=false)(hp:(apos.endLine==pos.line)=true)(hf:bC k ce ns o x):
  bC k ce ns (.Call (.Attribute o "replace" apos) [.Constant (.str y) k1 p1,.Constant (.str z) k2 p2] [] pos) (.repl x y z):=
 fun A E Q φ G s e r G' c ev kk=>cF ev fun v G1 e1 ev=>gz ev fun ev q=>by have hst:([Expr.Constant (.str y) k1 p1,.Constant (.str z) k2 p2]).all noStar=true:=rfl;refine w_eq (by rw[arm_eval_Call,aB hs,au _ _ hst]) ?_;refine wpAny_bind (hf.at c e1 fun co aO s1 h1 t1=>bindC ev fun t hs ev=>ak ev fun hc ev=>?_);rw[bh hs]at h1;refine bK (h1) fun tk Ik=>?_;(clear hs hf c e1 hst h1;subst Ik);refine wpAny_bind (wpAny_standAt ?_);unfold methodCall;rw[show methodCallForm _ _ _=true from rfl];refine wpAny_bind (wpAny_holding ?_);unfold calleeOf;refine w_eq (if_pos rfl) ?_;refine GM.replace ?_;dsimp only;unfold methodCallPos;rw[hp];refine wpAny_bind (wpAny_pure (callWith_of (P:=fun hp=>bA (model k.prog k.w) hp (.builtin "str.replace")) rfl (fun u' z=>z) (Calls.evalArgs_plain (Calls.spliced_cons (wpAny_Constant_str (Calls.spliced_cons (wpAny_Constant_str (Calls.spliced_nil ⟨⟨.machine,.inr (.inl rfl),Looks.of_pure rfl⟩,?_⟩))))))));have hk:=t1.inv.tk;refine wpAny_with_toks (Nat.le_refl _) (SC.replaceW (Nat.ne_of_gt hk) (Nat.ne_of_gt (Nat.lt_succ_of_lt hk)) (Nat.ne_of_lt (Nat.lt_succ_self _)) (beq_eq_false_iff_ne.mpr hc.2.1) hc.1 hc.2.2 fun t' k' ht=>?_);exact kk _ _ {s1 with toks:=k'} (Option.some.inj ev▸⟨_,rfl⟩) (q▸t1.trans (Step.toks t1.inv (Nat.le_trans (Nat.le_add_right _ 2) ht)))
theorem IU{ex:Expr}{x:X}{pos:Pos}(h:bC k ce ns ex x):bC k ce ns (.FormattedValue ex (-1) none pos) (.fmt x):=
 fun A E Q φ G s e r G' c ev kk=>cF ev fun v G1 e1 ev=>gz ev fun ev q=>wpAny_FormattedValue_plain (h.at c e1 fun co aO s1 h1 t1=>bindC ev fun t hs ev=>ak ev fun hc ev=>by
  rw[bh hs]at h1 ev;refine bK (h1) fun tk HZ=>?_;(clear h c e1 h1 hs;subst HZ);exact wpAny_formatField_str (kk _ _ s1 (Option.some.inj ev▸⟨_,rfl⟩) (q▸t1)) (kk _ _ _ (Option.some.inj ev▸⟨_,rfl⟩) (q▸t1.trans (Step.toks t1.inv (Nat.le_succ _)))) (Nat.le_trans hc bG))
theorem Aj:∀(l:List Str) (a:Str),a.length<=(l.foldl (· ++ ·) a).length
 |[],a=>Nat.le_refl _
 |x::l,a=>Nat.le_trans (strLen_append a x▸Nat.le_add_right _ _) (Aj l (a++x))
theorem r6{f:Expr->Option X}(h:∀ex x,f ex=some x->bC k ce ns ex x):∀{es:List Expr} {xs:List X},aA f es=some xs->∀(acc:Str) {A:Around} {E:Value->Shared->Prop} {Q:Str->Shared->Prop} {φ:Ph} {G:Gs} {s:Shared} {e:En} {r:List V} {ss:List Str} {G':Gs},
  kM k A ce ns φ G s e->fk k.T k.U xs e G=some (r,G')->lK r=some ss->(ss.foldl (· ++ ·) acc).length<=lim->(∀az s',Step k.B No φ s az G' s'->Q (ss.foldl (· ++ ·) acc) s')->Joins (model k.prog k.w) A E (evalEach es ce) acc Q s
 |[],xs,hx,acc,A,E,Q,φ,G,s,e,r,ss,G',c,ev,hs,hl,kk=>by
  (revert ev;apply af (hx);intro ev)
  exact lR ev fun a b=>by subst a;(revert hl kk;apply af (hs);intro hl kk);exact kk _ _ (b▸Step.refl c.I)
 |ex::es,xs,hx,acc,A,E,Q,φ,G,s,e,r,ss,G',c,ev,hs,hl,kk=>aD hx fun y q h1 h2 h3=>by
  (clear hx;subst h3)
  refine cF ev fun v G1 e1 ev=>cF ev fun vs G2 e2 ev=>gz ev fun a b=>?_
  (rename_i aH bI;clear aH bI;revert hs ev;apply af (a);intro hs ev)
  clear a ev;subst b;refine aD hs fun t ss' g1 g2 g3=>?_;subst g3;simp only[arm_evalEach_cons];refine(h _ _ h1).at c e1 fun cv aO s1 hv t1=>?_;rw[bh g1]at hv;refine bK (hv) fun tk H6=>?_;subst H6;exact⟨t,tk,rfl,Nat.le_trans (Aj ss' _) (Nat.le_trans hl bG),r6 h h2 (acc++t) (c.step t1) e2 g2 hl fun d9 s2 t2=>kk _ _ (t1.trans t2)⟩
theorem DG{f:Expr->Option X}(h:∀ex x,f ex=some x->bC k ce ns ex x){v1 v2:Expr}{rest:List Expr}{xs:List X}{pos:Pos}(hx:aA f (v1::v2::rest)=some xs):bC k ce ns (.JoinedStr (v1::v2::rest) pos) (.mX xs):=
 fun A E Q φ G s e r G' c ev kk=>cF ev fun vs G1 e1 ev=>gz ev fun ev q=>bindC ev fun ss e2 ev=>ak ev fun hl ev=>
  wpAny_JoinedStr (r6 h hx Str.empty c e1 e2 hl fun aO s1 t1=>⟨Nat.le_trans hl bG,kk _ _ _ (Option.some.inj ev▸⟨_,rfl⟩) (q▸t1.trans (Step.toks t1.inv (Nat.le_succ _)))⟩)
noncomputable def qc (ce:Env) (pos:Pos):List (Option Expr)->List Expr->List (Sem Value×Sem Value)
 |some k::ks,v::vs=>(eval k ce,do let x <-eval v ce;standAt pos;pure x)::qc ce pos ks vs
 |_,_=>[]
theorem lS{k:Option Expr}{x:Str}(h:ir k=some x):∃a b,k=some (.Constant (.str x) a b):=by refine av (Option.bind_eq_some_iff.mp h) fun e IV h=>?_;subst IV;refine av (Option.map_eq_some_iff.mp h) fun r h1 Qm=>?_;(clear h;subst Qm);exact⟨_,_,congrArg some (jP h1)⟩
theorem jW(pos:Pos):∀{keys:List (Option Expr)} {l:List Str} {values:List Expr},aA ir keys=some l->l.length=values.length->
  (evalEachOpt keys ce).zip ((evalEach values ce).map fun v=>do let x <-v;standAt pos;pure x)=(qc ce pos keys values).map (fun p=>(some p.1,p.2))/\(qc ce pos keys values).length=l.length
 |[],l,values,h,e=>by
  (revert e;apply af (h);intro e)
  rcases values with _|⟨_,_⟩
  ·exact⟨rfl,rfl⟩
  ·cases e
 |k::keys,l,values,h,e=>aD h fun y q h1 h2 h3=>by
  (clear h;subst h3)
  refine gY (lS h1) fun a b Qn=>?_;(clear h1;subst Qn);rcases values with _|⟨v,vs⟩
  ·cases e
  ·refine cJ (jW pos (values:=vs) h2 (by simpa using e)) fun i1 i2=>?_
   exact⟨congrArg (List.cons _) i1,congrArg (· +1) i2⟩
theorem lT{pos:Pos}{f:Expr->Option X}(hf:∀ex x,f ex=some x->bC k ce ns ex x):∀{keys:List (Option Expr)} {l:List Str} {values:List Expr} {xs:List X},aA ir keys=some l->aA f values=some xs->l.length=values.length->
  Ev k (fun φ r vs=>OZ φ (l.zip r) vs/\r.length=l.length) ce ns (evalPairs (qc ce pos keys values)) (fk k.T k.U xs)
 |[],l,values,xs,h,hx,hl=>fun A E Q φ G s e r G' c ev kk=>by
  (revert hl kk;apply af (h);intro hl kk)
  rcases values with _|⟨_,_⟩
  ·(revert ev;apply af (hx);intro ev);exact lR ev fun a b=>wpAny_pure (kk _ _ _ (a▸⟨rfl,rfl⟩) (b▸Step.refl c.I))
  ·cases hl
 |key::keys,l,values,xs,h,hx,hl=>aD h fun y q h1 h2 h3=>by
  (clear h;subst h3)
  refine gY (lS h1) fun a b IW=>?_;(clear h1;subst IW);rcases values with _|⟨v,vs⟩
  ·cases hl
  ·refine aD hx fun x xq h3 h4 h5=>?_
   subst h5;intro A E Q φ G s e r G' c ev kk;refine cF ev fun v1 G1 e1 ev=>cF ev fun v2 G2 e2 ev=>gz ev fun ev q'=>?_;have t0:Step k.B No φ s φ G {s with toks:=s.toks+1}:=Step.toks c.I (Nat.le_succ _);refine wpAny_bind (wpAny_Constant_str (wpAny_bind (wpAny_holding (wpAny_bind ((hf _ _ h3).at (c.step t0) e1 fun cv aO s1 hv t1=>wpAny_bind (wpAny_standAt (wpAny_pure (wpAny_bind (wpAny_holding ?_)))))))));exact(lT hf h2 h4 (Nat.succ.inj hl)).at ((c.step t0).step t1) e2 fun vs' d9 s2 hvs t2=>wpAny_pure (kk _ _ _ (Option.some.inj ev▸⟨⟨_,_,_,rfl,hv.mono t2.le,hvs.1⟩,congrArg (· +1) hvs.2⟩) (q'▸(t0.trans t1).trans t2))
theorem dN:∀{l:List Str},distinct l=true->l.Nodup
 |[],_=>List.nodup_nil
 |x::l,h=>by obtain⟨h1,h2⟩:=Bool.and_eq_true_iff.mp h;simp only[Bool.not_eq_true']at h1;exact List.nodup_cons.mpr ⟨fun q=>(xc (h1.symm.trans (List.contains_iff_mem.mpr q))),dN h2⟩
theorem zip_map{α β:Type}:∀{l:List α} {r:List β},r.length=l.length->(l.zip r).map (·.1)=l
 |[],[],_=>rfl
 |[],_::_,h=>by cases h
 |_::_,[],h=>by cases h
 |a::l,b::r,h=>congrArg (List.cons a) (zip_map (Nat.succ.inj h))
theorem DH(S:cD k){f:Expr->Option X}(hf:∀ex x,f ex=some x->bC k ce ns ex x){keys:List (Option Expr)}{l:List Str}{values:List Expr}{xs:List X}{pos:Pos}(hk:aA ir keys=some l)(hx:aA f values=some xs)
  (hd:distinct l=true)(IX:l.length<=15)(hl:l.length=values.length):bC k ce ns (.Dict keys values pos) (.dict l xs):=fun A E Q φ G s e r G' c ev kk=>cF ev fun v G1 e1 ev=>gz ev fun ev q=>by
 have Mp:∀{s:Shared} {φ:Ph} {G:Gs},Inv k.B φ G s->∀a,s.heap.get? a=none->(a==sysModules)=false:=fun I a ha=>beq_eq_false_iff_ne.mpr fun q=>by obtain⟨o,ho⟩:=S.O.sys;rw[q,I.kb _ _ ho]at ha;(rename_i aH bI _ _ _ _;clear aH bI;exact xb ha)
 have hn:=Inv.bL s;rename_i kU nG;clear kU nG;rcases l with _|⟨l0,l⟩
 ·rcases values with _|⟨_,_⟩
  ·rcases keys with _|⟨k,ks⟩
   ·(revert e1;apply af (hx);intro e1)
    cases e1;obtain rfl:=Option.some.inj ev;obtain rfl:=q;exact wpAny_Dict_empty (kk _ _ _ ⟨_,#[],0,rfl,Mp c.I _ hn,aR,rfl⟩ (Step.mW (t:=s.toks) c.I rfl (Nat.le_refl _)))
   ·exact aD hk fun _ _ _ _ h3=>xl h3
  ·(cases hl)
 ·refine cJ (jW (ce:=ce) pos hk hl) fun O0 Mq=>?_
  refine wpAny_Dict_pairs (knd:=strKind k.prog k.w) O0 (fun q=>by rw[q]at Mq;((clear O0;cases Mq))) (by rw[Mq];exact IX) ?_;have t0:Step k.B No φ s φ G {s with heap:=s.heap.push (gh #[] 0)}:=Step.push c.I _ (Nat.le_refl _);refine(lT hf hk hx hl).at (c.step t0) e1 fun vs d9 s2 hv t2=>?_;refine bW (c.I.free hn) fun n1 n2 n3 n4=>?_;have Mr:(s.heap.push (gh #[] 0)).get? s.heap.objs.size=some (gh #[] 0):=Heap.get?_push_size _ rfl;have f2:=t2.rm Mr n1 id;have m2:=t2.di Mr n2 id;have ga:=(t2.kept _ _ Mr id n3 m2).2 n4;refine cG (hv.1.strs) fun v1 v2 v3=>?_;refine display_done_str v1 (by rw[v2,zip_map hv.2];exact dN hd) ⟨_,#[],0,ga,⟨rfl,rfl,rfl⟩,rfl,fun _ he=>by simp at he,.nil,List.nodup_nil⟩ fun h' hm hs=>?_;refine bP (hm) fun o es ep x0 Ak x4 x5 x6 x7=>?_;refine cG (Ak) fun x1 x2 x3=>?_;have ho:o=gh es ep:=by
   obtain⟨a1,a2,a3,a4⟩:=o;dsimp only at x1 x2 x3 x4
   (clear hf hx e1 hk IX hl O0 Mq hv n1 n2 Mr v1 v2 hm x7 Ak;subst x1 x2 x3 x4);rfl
  (clear hf hx e1 hk IX hl O0 Mq hv n1 n2 Mr v1 v2 hm Ak x4 x7 x1 x2 x3;subst ho)
  have er:i9 d9 ((l0::l).zip v) es.toList:=ur (prog:=k.prog) (t2.inv.P.trans S.hP) v3 x6 fun d hd=>x5 d (Array.mem_toList_iff.mp hd);exact kk _ _ _ (Option.some.inj ev▸⟨_,es,ep,rfl,Mp c.I _ hn,aR,er.mono (Ph.bD f2)⟩) (q▸Step.adopt (t0.trans t2) hn f2 m2 n3 n4 ga (fun _=>⟨es,ep,rfl⟩) (fun q=>xi Data.ctorIdx q rfl) (fun b o hb e=>(hs.2 b hb).trans e) x0 (Nat.le_add_right _ _))
end
end Mine.Internal
end
noncomputable section
open PySem PySem.W PyProof.Rows
set_option backward.match.sparseCases false
namespace Mine.Internal
section
variable{k:Ks}{ce:Env}{ns:List Str}
theorem Qo{P:Prop}{T:aM}{U:aE}{n:Str}{e:En}{G G':Gs}{r:V}(h:aq T U (.sat n) e G=some (r,G'))(k1:∀C es,sl e 0= .iY C es->∀u,aW T.jD C n=some u->look es n=some r->G=G'->P)(k2:∀x,sl e 0= .v x->rH T x n G=some (r,G')->P):P:=by
 have h':(match sl e 0 with| .iY C es=>re ((aW T.jD C n).bind fun _=>look es n)| .v x=>rH T x n|_=>fun _=>none:Cv) G=some (r,G'):=h
 generalize sl e 0=z at h' k1 k2;clear h;rcases z with _|x|_|⟨C,es⟩|⟨_,_⟩|_
 ·exact xa h'
 ·exact k2 x rfl h'
 ·exact xa h'
 ·exact gz h' fun a b=>bindC a fun u q a=>k1 C es rfl u q a b
 ·exact xa h'
 ·exact xa h'
theorem IY{B:Base}{φ:Ph}{e:En}{s:Shared}{M:Model}{A:Around}{E:Value->Shared->Prop}{Q:Value->Shared->Prop}(x:dY B ce ns φ e s.heap){n:Str}{i:Nat}{C:Addr}{es:List (Str×V)}(hi:ix ns n=some i)(hk:ce.kindOf n=some .local\/ce.kindOf n=some .cell)(he:sl e i= .iY C es)
  (h:∀a d ds m,dP B φ ce.locals a->dP B φ ce.locals d->s.heap.get? a=some (q9 C d)->s.heap.get? d=some (gh ds m)->i9 φ es ds.toList->Q (.ref a) s):wpAny M A (loadName ce n) Q E s:=by
 rcases hk with hk|hk
 ·refine bK (x.loc) fun m hm=>?_
  have :=hm.sr n i hi hk;rw[he]at this;refine cV (this) fun a d ds m' h1 h2 h3 h4 h5 h6=>?_;exact wpAny_loadName_local x.kind hk hm.nm h1 (h a d ds m' h2 h3 h4 h5 h6)
 ·refine av (x.oh n i hi (by rw[hk];rfl)) fun c h1 h2=>?_
  refine av (h2.v) fun w h3 h4=>?_;rw[he]at h4;rcases h4 with⟨h4,_⟩|⟨y,u,h4,_⟩ <;> (clear x hi he h hk h1 h2 h3;cases h4)
noncomputable def fR (ce:Env) (ns:List Str) (x:Str):Prop:=ao x=true/\(ce.kindOf x=some .local\/ce.kindOf x=some .cell)/\ix ns x=some 0
theorem anyC{α:Type}{P:Prop}{o:Option α}{f:α->Bool}(h:o.any f=true)(k:∀a,o=some a->f a=true->P):P:=by
 rcases o with _|a
 ·exact xc h
 ·exact k a rfl h
theorem nH{a b:Bool}(h:(a&&b)=true):a=true/\b=true:=Bool.and_eq_true_iff.mp h
theorem iS{e:Expr}(h:kP ce.scope ns e=true):∃x p,e= .Name x p/\fR ce ns x:=
 anyC h fun r hr h=>⟨r.1,r.2,dZ hr,(nH (nH h).1).1,((Bool.or_eq_true ..).mp (nH (nH h).1).2).imp beq_iff_eq.mp beq_iff_eq.mp,beq_iff_eq.mp (nH h).2⟩
theorem fR.var{x:Str}(h:fR ce ns x):isVar (ce.kindOf x)=true:=by rcases h.2.1 with q|q <;> rw[q] <;> rfl
theorem IZ(S:cD k){x name:Str}{p pos:Pos}(hx:fR ce ns x):bC k ce ns (.Attribute (.Name x p) name pos) (.sat name):=fun A E Q φ G s e r G' c ev kk=>by
 simp only[arm_eval_Attribute,aB (o:=.Name x p) rfl];refine Qo ev (fun C es he u q hl b=>?_) fun y he ev=>?_
 ·exact wpAny_bind (wpAny_Name (IY c.E hx.2.2 hx.2.1 he fun a d ds m u' u' g1 g2 rl=>wpAny_bind (wpAny_standAt (wpAny_bind (wpAny_holding (z0 S.C c.I g1 g2 q rl.dr hl (fun _=>iR) fun cv hc=>wpAny_bind (wpAny_letTemporaryGo (wpAny_pure (kk _ _ _ hc (b▸Step.toks c.I (Nat.le_succ _)))))))))) (ai hx.1).1)
 ·exact wpAny_bind (wpAny_Name (gp c.E hx.2.2 hx.var he (ai hx.1).2 fun co h1=>wpAny_bind (wpAny_standAt (wpAny_bind (wpAny_holding (z7 S.C S.O c.I h1 ev fun cv d9 s2 h2 t2=>wpAny_bind (wpAny_letTemporaryGo (wpAny_pure (kk _ _ _ h2 t2)))))))) (ai hx.1).1)
noncomputable def DI (k:Ks) (ce:Env) (ns:List Str) (ex:Expr) (l:Lv):Prop:=∀(A:Around) (E:Value->Shared->Prop) (Q:Value->Shared->Prop) (φ:Ph) (G:Gs) (s:Shared) (e:En) (items:List V),kM k A ce ns φ G s e->mj k.T e G l=some items->
 (∀a vs m t,s.toks<=t->s.heap.get? a=some (lo vs m)->bz φ items vs.toList->(∀i,l= .var i->Hr e l=false->(φ.f a).isSome=true\/dP k.B φ ce.locals a)->Q (.ref a) {s with toks:=t})->wpAny (model k.prog k.w) A (eval ex ce) Q E s
theorem Al{v:V}(h:oO v=true):v= .sp .CO:=by rcases v with _|⟨⟨⟩⟩|_ <;> first|rfl|exact xc h
theorem I2{x:Str}{p:Pos}{i:Nat}(hp:ao x=true)(hk:ce.kindOf x=some .local)(hi:ix ns x=some i):DI k ce ns (.Name x p) (.var i):=fun A E Q φ G s e items c ev kk=>by
 have e0:(match sl e i with| .own l=>some l|_=>none:Option (List V)).or (match sl e i with| .v x=>Hs G x|_=>none)=some items:=ev
 generalize hz:sl e i=z at e0;rcases z with _|y|l|⟨_,_⟩|⟨_,_⟩|_
 ·exact xa e0
 ·refine wpAny_Name (gp c.E hi (by rw[hk];rfl) hz (ai hp).2 fun cv hc=>?_) (ai hp).1
  have e1:Hs G y=some items:=e0;unfold Hs at e1;by_cases q:oO y=true
  ·rw[if_pos q]at e1
   obtain rfl:=Al q;obtain⟨a,rfl,ha⟩:=hc;obtain⟨b,b1,b2,vs,m,g,r⟩:=c.I.wr.log _ e1
   (clear b2;obtain rfl:=Option.some.inj (ha.symm.trans b1))
   exact kk a vs m s.toks (Nat.le_refl _) g r fun j hj hl=>by clear b1;cases hj;exact xd (((congrArg (fun z=>(yN z).any oO) hz).symm.trans hl:true=false))
  ·rw[if_neg q]at e1
   rw[iP e1]at hc
   (clear e1 q;obtain⟨a,vs,m,rfl,g,r⟩:=hc)
   exact kk a vs m s.toks (Nat.le_refl _) (c.I.keep _ _ g) r fun u' u' _=>.inl (by rw[g];rfl)
 ·(revert ev kk;apply af (e0);intro ev kk)
  exact wpAny_Name (ld_own c.E hi hk hz fun a ha ho=>ho.elim fun vs ho=>ho.elim fun m ho=>kk a vs m s.toks (Nat.le_refl _) ho.1 ho.2 fun u' u' _=>.inr ha) (ai hp).1
 ·exact xa e0
 ·exact xa e0
 ·exact xa e0
theorem atC{P:Prop}{T:aM}{e:En}{G:Gs}{n:Str}{l:List V}(h:fj T e G (.at_ n)=some l)(kk:sl e 0= .v (.sp .wr)->T.aF.contains n=true->∀es,G.wr=some es->∀i,look es n=some (.own i l)->P):P:=by
 refine ak h fun c h=>bindC h fun z hw h=>bindC hw fun es he hl=>?_;have hy:sl e 0= .v (.sp .wr):=anyC c.1 fun y q w=>vJ w▸kR q;clear hw;rcases z with _|⟨i,m⟩
 ·exact xa h
 ·exact kk hy c.2 es he i (hl.trans (congrArg (fun l=>some (At.own i l)) (Option.some.inj h)))
theorem I3(S:cD k){A:Around}{E:Value->Shared->Prop}{Q:Value->Shared->Prop}{φ:Ph}{G:Gs}{s:Shared}{e:En}{x n:Str}{p pos:Pos}{l:List V}(hx:fR ce ns x)(c:kM k A ce ns φ G s e)(ev:fj k.T e G (.at_ n)=some l)
  (kk:∀a i,φ.mu a->φ.ow i=some a->OL φ s.heap a l->∀q es ds m,φ.wa=some q->G.wr=some es->look es n=some (.own i l)->s.heap.get? q.2=some (gh ds m)->ri φ s.heap es ds.toList->(∃d,ds.toList.find? (fun e=>e.key.isStr n)=some d/\d.val= .ref a)->Q (.ref a) {s with toks:=s.toks+1}):wpAny (model k.prog k.w) A (eval (.Attribute (.Name x p) n pos) ce) Q E s:=
 atC ev fun hz ho es he i hl=>by
  simp only[arm_eval_Attribute,aB (o:=.Name x p) rfl];refine wpAny_bind (wpAny_Name (gp c.E hx.2.2 hx.var hz (ai hx.1).2 fun co h1=>?_) (ai hx.1).1);refine aV (c.I.rX h1 he) fun q ds m Qp g0 g1 g2 g3 g4 g5=>?_;(clear hx ev hz h1 g2 g5;subst Qp);refine bK (S.O.aF n ho) fun u hu=>?_;refine av ((g4.dr.find n).2 _ hl) fun d f1 f2=>?_;refine bK (f2) fun a SJ=>bW SJ fun a1 a2 a4 a3=>?_;clear SJ;refine dg (S.C.jD _ _ _ hu) fun c1 c2 c3 c4 c5 c6=>?_;have nK:lookIn n (gh ds m)=some (some (.ref a)):=by unfold lookIn;simp only[f1,a1]
  exact wpAny_bind (wpAny_standAt (wpAny_bind (wpAny_holding (get_value (S.C.uh.keeps c.I.kb) (gy (S.O.wc▸g1) g3) (plainGet_of c1).1 (findObj_own c2 c3 rfl nK) rfl
   (wpAny_bind (wpAny_letTemporaryGo (wpAny_pure (kk a i a2 a4 a3 q es ds m g0 he hl g3 g4 ⟨d,f1,a1⟩))))))))
theorem F8(S:cD k){x n:Str}{p pos:Pos}(hx:fR ce ns x):DI k ce ns (.Attribute (.Name x p) n pos) (.at_ n):=fun A E Q φ G s e items c ev kk=>by have e0:fj k.T e G (.at_ n)=some items:=gu ev id fun z=>xa z;exact I3 S hx c e0 fun a u' u' u' ho q es ds m u' u' u' u' u' _=>ho.elim fun vs ho=>ho.elim fun m ho=>kk a vs m (s.toks+1) (Nat.le_succ _) ho.1 ho.2 fun i z=>xi Lv.ctorIdx z rfl
theorem bX{e:Expr}{r:Str×Pos}(h:jQ ce.scope e=some r):e= .Name r.1 r.2/\ao r.1=true/\ce.kindOf r.1=some .local:=
 bindC h fun a ha h=>ak h fun c h=>by(rename_i aH bI;clear aH bI;apply af (h));exact⟨dZ ha,c⟩
theorem iy{M:List Str}{ex:Expr}{i:Nat}(h:ng M ce.scope ns ex=some i):∃x p,ex= .Name x p/\ce.kindOf x=some .local/\ix ns x=some i/\ao x=true:=
 bindC h fun r hr h=>ak h fun u' h=>let q:=bX hr;⟨r.1,r.2,q.1,q.2.2,h,q.2.1⟩
theorem iz{aF M:List Str}{ex:Expr}{l:Lv}(h:oq aF M ce.scope ns ex=some l):(∃x p i,ex= .Name x p/\l= .var i/\ce.kindOf x=some .local/\ix ns x=some i/\ao x=true)\/∃x p n q,ex= .Attribute (.Name x p) n q/\l= .at_ n/\fR ce ns x:=
 gu h (fun h=>ay h fun i hi e=>let⟨x,p,y⟩:=iy hi; .inl ⟨x,p,i,y.1,e.symm,y.2⟩) fun h=>bindC h fun r hr h=>ak h fun c h=>let⟨x,p,y,hx⟩:=iS c.2; .inr ⟨x,p,r.2.1,r.2.2,y▸d8 hr,(Option.some.inj h).symm,hx⟩
theorem vS{P:Expr->Lv->Prop}{aF M:List Str}{ex:Expr}{l:Lv}(h:oq aF M ce.scope ns ex=some l)(h1:∀x p i,ce.kindOf x=some .local->ix ns x=some i->ao x=true->P (.Name x p) (.var i))(h2:∀x p n q,fR ce ns x->P (.Attribute (.Name x p) n q) (.at_ n)):P ex l:=
 (iz h).elim (fun h=>aX h fun x p i e1 e2 h=>e1▸e2▸h1 x p i h.1 h.2.1 h.2.2) fun h=>fJ h fun x p n h=>bN h fun q e1 e2 h=>e1▸e2▸h2 x p n q h
theorem Am(S:cD k){aF M:List Str}{ex:Expr}{l:Lv}(h:oq aF M ce.scope ns ex=some l):DI k ce ns ex l/\bJ ex=false/\noStar ex=true:=by exact vS (P:=fun ex l=>DI k ce ns ex l/\bJ ex=false/\noStar ex=true) h (fun x p i hk hi hp=>⟨I2 hp hk hi,rfl,rfl⟩) fun x p n q hx=>⟨F8 S hx,rfl,rfl⟩
theorem ee{A:Around}{E:Value->Shared->Prop}{Q:Args->Shared->Prop}{s:Shared}{a:Expr}{f:Value}(h:wpAny (model k.prog k.w) A (eval a ce) (fun v s'=>Q ⟨[v],[]⟩ s') E s):wpAny (model k.prog k.w) A (evalArgs f true [(false,eval a ce)] []) Q E s:=
 Calls.evalArgs_plain (Calls.spliced_cons (wpAny_mono h (fun v s' q=>Calls.spliced_nil q) fun u' u' x=>x))
theorem gC{f a:Expr}{pos:Pos}{x:X}{r:V}{A:Around}{E:Value->Shared->Prop}{Q:Value->Shared->Prop}{φ:Ph}{G G':Gs}{s:Shared}{e:En}(ha:bM f=false)(hs:noStar a=true)(hf:bC k ce ns f x)(c:kM k A ce ns φ G s e)(ev:aq k.T k.U x e G=some (r,G'))
  (kk:∀cf aO s1,VR aO r cf->Step k.B No φ s aO G' s1->wpAny (model k.prog k.w) A (callWith pos cf [] [(false,eval a ce)] (backToKw pos (keywordEach [] ce))) Q E s1):wpAny (model k.prog k.w) A (eval (.Call f [a] [] pos) ce) Q E s:=
 w_eq (call_plain ha (r5 hs)) (wpAny_bind (hf.at c ev kk))
theorem DJ(S:cD k){f a:Expr}{l:Lv}{pos:Pos}(hf:bC k ce ns f (.c (.c (.fn .len))))(ha:bM f=false)(hl:DI k ce ns a l)(hs:noStar a=true):bC k ce ns (.Call f [a] [] pos) (.gX l):=fun A E Q φ G s e r G' c ev kk=>bindC ev fun items e1 ev=>ak ev fun hz ev=>by
 refine gC ha hs hf c (G':=G) (r:=.c (.fn .len)) rfl fun cf aO s1 h1 t1=>?_
 (rename_i aH bI;clear aH bI;(clear S hf ha hs;obtain rfl:=h1))
 refine callWith_of (P:=fun hp=>bA (model k.prog k.w) hp (.builtin "len")) rfl (fun _ z=>z) (ee (hl _ _ _ _ _ _ _ _ (c.step t1) e1 fun a vs m t ht g rl _=>⟨⟨.machine,.inr (.inl rfl),Looks.of_pure rfl⟩,?_⟩));clear hl c e1;cases ev;exact Calls.call_len_list ⟨_,g,rfl,_,rfl⟩ (nv (rl.size▸hz)) (vR rfl kk t1 _ _ _ (by rw[rl.size];exact⟨_,rfl⟩) (Step.toks t1.inv (Nat.le_trans ht (Mj _))))
theorem DK(S:cD k){ex:Expr}{n:Str}(hl:DI k ce ns ex (.at_ n))(he:isTrue ex ce (eval ex ce)=(do let v <-eval ex ce;standAt ex.pos;holding [v] (PySem.truthy v))):q7 k ce ns ex (.y9 (.at_ n)):=fun A E Q φ G s e r G' c ev kk=>cF ev fun v G1 e1 ev=>bindC e1 fun items e2 e1=>ak e1 fun hz e1=>gz ev fun mz q=>by
 (rename_i aH bI bS;clear aH bI bS;revert ev mz q;apply q8 (e1);intro ev mz q)
 refine wpAny_isTrue_value (hl _ _ _ _ _ _ _ _ c e2 fun a vs m t ht g rl _=>?_) he;refine wpAny_truthy_list ⟨_,g,rfl,_,rfl⟩ (nv (rl.size▸hz)) (kk _ _ _ ?_ (q▸Step.toks c.I (Nat.le_trans ht (Mj _))));refine(Option.some.inj (mz:some _=some r)).symm.trans ?_;rw[<-Array.isEmpty_toList];clear S hl he c kk e2 hz e1 ev mz ht g;rcases items with _|⟨x,l⟩
 ·rw[show vs.toList=[]from rl];rfl
 ·refine cU (rl) fun _ _ q _=>?_;rw[q];rfl
set_option tactic.hygienic true in
theorem An(S:cD k){f a:Expr}{x:X}{l:Lv}{pos:Pos}(hf:bC k ce ns f x)(ha:bM f=false)(hl:DI k ce ns a l)(hs:noStar a=true):bC k ce ns (.Call f [a] [] pos) (.vh x l):=fun A E Q φ G s e r G' c ev kk=>cF ev fun v G1 e1 ev=>bindC ev fun items e2 ev=>by
 refine gC ha hs hf c e1 fun cf aO s1 h1 t1=>?_;split at ev
 ·refine ak ev fun hj ev=>ay ev fun v mz q=>?_
  (rename_i aH _ _ eN i6;clear aH eN i6;(clear hf ha hs e1;obtain rfl:=h1))
  cases q;subst hj;refine aI (S.O.jn) fun ob tk j1 j2 j3=>?_;refine callWith_of (P:=fun hp=>bA (model k.prog k.w) hp (.ref k.T.jn)) rfl (fun _ z=>z) (ee (hl _ _ _ _ _ _ _ _ (c.step t1) e2 fun a vs m t ht g rl _=>⟨vP (t1.inv.kb _ _ j1) j2 j3,?_⟩));have t2:=Step.toks (X:=No) (t:=t) t1.inv ht;exact Qe (t1.inv.kb _ _ j1) j2 j3 t2.inv g rl mz (vR rfl kk (t1.trans t2))
 ·(rename_i aH bI _ _;clear aH bI;exact xa ev)
theorem I4(S:cD k){a:Expr}{x:Str}{n:Nat}{q apos pos:Pos}{l:Lv}(hp:(apos.endLine==pos.line)=true)(hl:DI k ce ns a l)(hs:noStar a=true):bC k ce ns (.Call (.Attribute (.Constant (.str x) n q) "join" apos) [a] [] pos) (.FD x l):=fun A E Q φ G s e r G' c ev kk=>bindC ev fun items e2 ev=>ay ev fun v mz q=>by
 (rename_i aH;clear aH;(clear S ev;cases q))
 rw[arm_eval_Call,aB (o:=.Constant (.str x) n _) rfl,au _ _ (by rw[List.all_cons,hs];rfl)];refine wpAny_bind (wpAny_Constant_str (wpAny_bind (wpAny_standAt ?_)));unfold methodCall;rw[show methodCallForm _ _ _=true from rfl];refine wpAny_bind (wpAny_holding ?_);unfold calleeOf;refine w_eq (if_pos rfl) ?_;refine GM.join ?_;dsimp only;unfold methodCallPos;rw[hp];have t1:Step k.B No φ s φ G {s with toks:=s.toks+1}:=Step.toks c.I (Nat.le_succ _);refine wpAny_bind (wpAny_pure (callWith_of (P:=fun hp=>bA (model k.prog k.w) hp (.builtin "str.join")) rfl (fun _ z=>z) (ee (hl _ _ _ _ _ _ _ _ (c.step t1) e2 fun a vs m t ht g rl _=>⟨⟨.machine,.inr (.inl rfl),Looks.of_pure rfl⟩,?_⟩))));have t2:=Step.toks (X:=No) (t:=t) t1.inv ht;exact vM t2.inv g rl mz (vR rfl kk (t1.trans t2))
theorem vU(S:cD k){v i:Expr}{l:Lv}{x:X}{pos:Pos}(hs:dH i=false)(hl:DI k ce ns v l)(hx:bC k ce ns i x)(hn:∀n,l= .at_ n->∃j m p q,i= .UnaryOp .USub (.Constant (.int j) m p) q/\x= .neg (.c (.c (.int j)))):bC k ce ns (.Subscript v i pos) (.mY l x):=
 fun A E Q φ G s e r G' c ev kk=>ak ev fun lg ev=>bindC ev fun items e1 ev=>cF ev fun y G1 e2 ev=>gz ev fun ev q=>by
 simp only[eval_Subscript];refine wpAny_bind (hl _ _ _ _ _ _ _ _ c e1 fun a vs m t ht g rl hw=>wpAny_bind (wpAny_holding ?_));have t0:Step k.B No φ s φ G {s with toks:=t}:=Step.toks c.I ht;have fin:∀{cy d9 s2},VR d9 y cy->Step k.B No φ {s with toks:=t} d9 G1 s2->s2.heap.get? a=some (lo vs m)->wpAny (model k.prog k.w) A (do standAt pos;let r <-subscripted i (<-getitemInPython (.ref a)) (.ref a) cy;letTemporaryGo v (.ref a) r;pure r) Q E s2:=fun {cy d9 s2} h2 t2 g2=>by refine wpAny_bind (wpAny_standAt (wpAny_bind (fu ⟨"list",_,⟨_,g2,rfl⟩,slot_list_getitem.lookup⟩ ?_)));rw[fQ hs];exact wpAny_bind (wpAny_operating (zW g2 (rl.mono t2.le) h2 ev fun cv h3=>wpAny_bind (wpAny_letTemporaryGo (wpAny_pure (kk _ _ _ h3 (q▸t0.trans t2))))))
 rename_i kU nG Ae Qq;clear kU nG Ae Qq;rcases l with j|n
 ·exact hx.at (c.step t0) e2 fun cy d9 s2 h2 t2=>fin h2 t2 (by
   (clear S hs hx kk ev ht rl hl e1 h2;rcases hw j rfl lg with w|w)
   ·clear lg hw
    cases z:φ.f a with
   |none=>rw[z]at w;(exact xc w)
   |some o=>exact(t2.inv.keep _ _ (t2.le.f _ _ z)).trans ((c.I.keep _ _ z).symm.trans g)
   ·exact(t2.kept _ _ g id w.tb (t2.di g w.mu id)).2 w.fr)
 ·refine mE (hn n rfl) fun j m' p qq I5 I6=>?_;subst I5;subst I6
  ((clear S c kk ev ht rl hl lg e1 hw hs hx hn;revert q fin);apply q8 (e2);intro q fin)
  exact wpAny_UnaryOp (wpAny_Constant_int (neg_int (fin ⟨_,rfl⟩ (Step.toks (s:={s with toks:=t}) t0.inv (Nat.le_add_right _ 2)) g)))
end
end Mine.Internal
end
noncomputable section
open PySem PySem.W PyProof.Rows
namespace Mine.Internal
structure lU(B:Base)(φ:Ph)(a:Addr):Prop where
 f:φ.f a=none
 mu:¬φ.mu a
 tb:a≠B.tb
 fr:a∉B.frs
section
variable{B:Base}{X:Addr->Prop}{T:aM}{φ az:Ph}{G G':Gs}{s s':Shared}
variable{prog:Program}{w:World}{A:Around}{E:Value->Shared->Prop}
theorem Inv.nM(I:Inv B φ G s){a:Addr}(h:s.heap.get? a=none):lU B φ a:=let f:=I.free h;⟨f.1,f.2.1,f.2.2.1,f.2.2.2⟩
theorem lU.step{a:Addr}{o:Obj}(x:lU B φ a)(t:Step B X φ s az G' s')(e:s.heap.get? a=some o)(h:¬X a):lU B az a/\s'.heap.get? a=some o:=
 ⟨⟨t.rm e x.f h,t.di e x.mu h,x.tb,x.fr⟩,(t.kept a o e h x.tb (t.di e x.mu h)).2 x.fr⟩
theorem lU.own{a L:Addr}(x:lU B φ a)(h:a≠L):dP B φ L a:=⟨x.f,x.mu,x.tb,x.fr,h⟩
theorem Step.bare(Iv:Inv B φ G s){I:Addr}(hI:lU B φ I){h':Heap}{t:Tok}{o ob:Obj}(h0:s.heap.get? I=some o)(ha:h'.get? I=some ob)(hd:eB o->eB ob)(hp:o.data≠ .plain)(k:∀b o,b≠I->s.heap.get? b=some o->h'.get? b=some o)(ht:s.toks<=t):Step B (fun b=>b=I) φ s φ G {s with heap:=h',toks:=t}:=
 Step.ext Iv Iv.gens (fun b o e z=>k b o (fun q=>by
  (clear Iv k;subst q)
  rcases z with z|z|z|z
  ·exact z rfl
  ·rw[hI.f]at z;exact xc z
  ·exact hI.mu z
  ·exact hI.tb z) e) (fun b hb o' e=>by subst hb;obtain rfl:=Option.some.inj (h0.symm.trans e);exact⟨_,ha,hd,fun q=>absurd q hp⟩) ht (GK.refl _)
theorem Step.lose(x:Step B X φ s az G' s'){I:Addr}(hn:s.heap.get? I=none)(hI:lU B az I){h':Heap}{g:Array GenState}(hg:AllBare g)(k:∀b o,b≠I->s'.heap.get? b=some o->h'.get? b=some o)(CQ:GK s.gens g):Step B X φ s az G' {s' with heap:=h',gens:=g}:=by
 have J:=x.inv;have kf:∀b o,az.f b=some o->b≠I:=fun b o e q=>by rw[q,hI.f]at e;exact xa e
 refine⟨x.le,⟨J.P,fun b o e=>k b o (kf b o e) (J.keep b o e),J.base,?_,J.tN,J.qZ,fun b m=>⟨(J.mT b m).1,(J.mT b m).2.imp fun o e=>k b o (fun q=>hI.mu (q▸m)) e⟩,hg,J.os,fun env he=>?_,J.tk,J.wr.keep (.refl _) rfl rfl rfl fun b o m e=>k b o (fun q=>hI.mu (q▸m)) e⟩,fun b o e h1 h2 h3=>(x.kept b o e h1 h2 h3).trans fun o' e'=>gZ (k b o' (fun q=>?_) e'),fun b o e=>(x.live b o e).imp fun o' y=>⟨k b o' (fun q=>?_) y.1,y.2⟩,x.new,x.yM,CQ⟩
 ·refine av (J.tab) fun m e ct=>?_
  exact⟨m,k _ _ (Ne.symm hI.tb) e,ct⟩
 ·refine bY (J.frs env he) fun q L o h1 h2 h3 h4 h5 h6=>?_
  exact⟨q,L,o,h1,h2,h3,h4,k L o (fun z=>hI.fr (z▸List.mem_filterMap.mpr ⟨env,he,h1⟩)) h5,h6⟩
 ·(clear x hI hg k CQ J kf h1 h2 h3 e';subst q);rw[hn]at e;exact xa e
 ·(clear x hI hg k CQ J kf y;subst q);rw[hn]at e;exact xa e
noncomputable def i7 (B:Base) (φ:Ph) (h:Heap) (I:Addr):IK->Nat->Prop
 | .list l,k=>∃a vs n,φ.f a=some (lo vs n)/\bz φ l vs.toList/\h.IsListIter I a k
 | .jC a b c,k=>IsRangeIter h I (a+c*k) (tX a b c -k) c
 | .str x,k=>∃t,h.IsStrIter I (strIterType x) x t k
 | .gd a es,k=>∃ds n,B.h.get? a=some (gh ds n)/\i9 φ es ds.toList/\(es.map (·.1)).Nodup/\h.IsKeyIter I a k es.length n
theorem i7.keep{h h':Heap}{I:Addr}(le:φ.Le az)(e:∀o,h.get? I=some o->h'.get? I=some o):∀{K:IK} {k:Nat},i7 B φ h I K k->i7 B az h' I K k
 | .list l,_,x=>x.imp fun a x=>x.imp fun vs x=>x.imp fun n x=>⟨le.f _ _ x.1,x.2.1.mono le,x.2.2.imp fun o y=>⟨e _ y.1,y.2⟩⟩
 | .jC a b c,_,x=>e _ x
 | .str y,_,x=>x.imp fun t x=>x.imp fun o y=>⟨e _ y.1,y.2⟩
 | .gd a es,_,x=>x.imp fun ds x=>x.imp fun n x=>⟨x.1,x.2.1.mono le,x.2.2.1,x.2.2.2.imp fun o y=>⟨e _ y.1,y.2⟩⟩
theorem i7.fld{h:Heap}{I:Addr}{K:IK}{k:Nat}(x:i7 B φ h I K k):∃o vs,h.get? I=some o/\o.data= .fields vs:=by
 cases K with
 |list l=>exact aX x fun u' u' u' u' u' Ug=>bN Ug fun o h2 u' h4=>⟨o,_,h2,h4⟩
 |jC a b c=>exact⟨_,_,x,rfl⟩
 |str y=>exact aI x fun u' o h2 u' h4=>⟨o,_,h2,h4⟩
 |gd a es=>exact bu x fun u' u' u' u' u' Uh=>bN Uh fun o h2 u' h4=>⟨o,_,h2,h4⟩
theorem i7.cls{h:Heap}{I:Addr}{K:IK}{k:Nat}(x:i7 B φ h I K k):∃o n,h.get? I=some o/\o.cls= .type n/\["enumerate","zip","dict_itemiterator","dict_reverseitemiterator","odict_iterator","itertools.zip_longest","itertools.pairwise"].contains n=false:=by
 cases K with
 |list l=>refine aX (x) fun u' u' u' u' u' SK=>bN SK fun o h2 h3 _=>?_;clear SK;exact⟨o,_,h2,h3,by decide⟩
 |jC a b c=>exact⟨_,_,x,rfl,by decide⟩
 |str y=>
  refine aI (x) fun u' o h2 h3 _=>?_;unfold strIterType at h3;split at h3
  ·exact⟨o,_,h2,h3,by decide⟩
  ·exact⟨o,_,h2,h3,by decide⟩
 |gd a es=>refine bu (x) fun u' u' u' u' u' SM=>bN SM fun o h2 h3 _=>?_;clear SM;exact⟨o,_,h2,h3,by decide⟩
theorem jX{x:Int}(h0:0<=x)(h1:x<=2097152):Builtin.Range.rangeFitsLong x=true:=by unfold Builtin.Range.rangeFitsLong;simp only[Bool.and_eq_true,decide_eq_true_eq];omega
theorem Ao{a b:Int}(h1:0<=a)(h4:b<=1048576):0<=Builtin.Range.rangeSize a b 1/\Builtin.Range.rangeSize a b 1<=1048576:=by
 unfold Builtin.Range.rangeSize;rw[if_pos (by decide),Int.ediv_one];split
 ·omega
 ·exact⟨Int.le_refl _,by decide⟩
theorem xR{a b c:Int}(h:mZ a b c=true):Builtin.Range.small a b c=true:=by unfold mZ at h;simp only[Bool.and_eq_true,decide_eq_true_eq]at h;obtain⟨⟨⟨⟨rfl,h1⟩,h2⟩,h3⟩,h4⟩:=h;obtain⟨s1,s2⟩:=Ao h1 h4;have lt:∀{x:Int},x<=1048576->x<=2097152:=fun h=>Int.le_trans h (by decide);unfold Builtin.Range.small;rw[jX h1 (lt h2),jX h3 (lt h4),jX (by decide) (by decide),jX s1 (lt s2)];simp only[Bool.and_self,Bool.true_and,Bool.or_eq_true];refine .inr ?_;rw[if_pos (by decide)];show Builtin.Range.rangeFitsLong (b+0)=true;rw[Int.add_zero];exact jX h3 (lt h4)
set_option tactic.hygienic true in
theorem Aq(hP:B.P=w.params)(O:dK B T)(I:Inv B φ G s){x:V}{cx:Value}{K:IK}{Q:Value->Shared->Prop}(hx:VR φ x cx)(e:mh T x=some K)
  (h:∀it s',Step B No φ s φ G s'->s.heap.get? it=none->i7 B φ s'.heap it K 0->Q (.ref it) s'):wpAny (model prog w) A (pyIter cx) Q E s:=by
 refine Dm (P:=fun x K=>VR φ x cx->(∀it s',Step B No φ s φ G s'->s.heap.get? it=none->i7 B φ s'.heap it K 0->Q (.ref it) s')->wpAny (model prog w) A (pyIter cx) Q E s) e (fun y hx h=>?_) (fun a es q hx h=>?_) (fun l hx h=>?_) (fun x y z hr hx h=>?_) hx h
 ·refine bK (hx) fun t Ii=>?_;(clear e;subst Ii)
  exact wpAny_pyIter_strU (h _ _ (Step.push I _ (Nat.le_refl _)) (Inv.bL s) ⟨t,_,Heap.get?_push_size _ rfl,rfl,rfl⟩)
 ·(clear e;subst hx)
  refine jE (O.oN _ es q) fun h1 h2 ds n h3 h4=>?_;refine av (cY (prog:=prog) (I.P.trans hP) (I.kb _ _ h3) (h4 φ I.P) h2) fun kvs d r=>?_;refine wpAny_pyIter_dict h1 d (h _ _ (Step.push I _ (Nat.le_refl _)) (Inv.bL s) ⟨ds,n,h3,h4 φ I.P,h2,_,Heap.get?_push_size _ rfl,rfl,?_⟩);rw[r.len];rfl
 ·refine aX (hx) fun a vs n Qs g r=>?_;(clear hP O e;subst Qs)
  exact wpAny_pyIter_list ⟨_,I.keep _ _ g,rfl,_,rfl⟩ (h _ _ (Step.push I _ (Nat.le_refl _)) (Inv.bL s) ⟨a,vs,n,g,r,_,Heap.get?_push_size _ rfl,rfl,rfl⟩)
 ·refine mE (hx) fun a t u v Qt g=>?_;(clear hP O hx e;subst Qt)
  refine wpAny_pyIter_range (I.keep _ _ g) (xR hr) (h _ _ (Step.push I _ (Nat.le_refl _)) (Inv.bL s) ?_);show IsRangeIter _ _ (x+z*((0:Nat):Int)) (tX x y z -((0:Nat):Int)) z;simp only[Int.natCast_zero,Int.mul_zero,Int.add_zero,Int.sub_zero];exact Heap.get?_push_size _ rfl
theorem qd{I:Addr}{Q:Value->Shared->Prop}(h:Q (.ref I) s){K:IK}{k:Nat}(x:i7 B φ s.heap I K k):wpAny (model prog w) A (pyIter (.ref I)) Q E s:=by
 rcases K with l|⟨a,b,c⟩|y|⟨a,es⟩
 ·exact x.elim fun u' x=>x.elim fun u' x=>x.elim fun u' x=>wpAny_pyIter_listiter x.2.2 h
 ·exact wpAny_pyIter_rangeiter x h
 ·refine x.elim fun t h2=>?_
  unfold strIterType at h2;split at h2
  ·exact wpAny_pyIter_striter_ascii h2 h
  ·exact wpAny_pyIter_striter_wide h2 h
 ·exact x.elim fun u' x=>x.elim fun u' x=>wpAny_pyIter_keyiter x.2.2.2 h
theorem w_next(hP:B.P=w.params)(hh:A.handled=none)(Iv:Inv B φ G s){I:Addr}{K:IK}{k:Nat}{Q:Option Value->Shared->Prop}(hI:lU B φ I)(x:i7 B φ s.heap I K k)
  (hs:∀v cv s',aS K k=some v->VR φ v cv->Step B (fun b=>b=I) φ s φ G s'->i7 B φ s'.heap I K (k+1)->Q (some cv) s')
  (hn:∀h',aS K k=none->(∀b o,b≠I->s.heap.get? b=some o->h'.get? b=some o)->Q none {s with heap:=h'}):wpAny (model prog w) A (pyNext (.ref I)) Q E s:=by
 refine cU (x.fld) fun o0 fs ho hd=>?_;have nd:¬eB o0:=fun bE=>gY bE fun _ _ q=>xi Data.ctorIdx (hd.symm.trans q) rfl;have np:o0.data≠ .plain:=fun q=>xi Data.ctorIdx (hd.symm.trans q) rfl;have go:∀{h':Heap} {t:Tok} {ob:Obj},h'.get? I=some ob->Heap.SameBut I s.heap h'->s.toks<=t->Step B (fun b=>b=I) φ s φ G {s with heap:=h',toks:=t}:=fun z1 z2 ht=>Step.bare Iv hI ho z1 (fun q=>absurd q nd) np (fun b o hb e=>(z2.2 b hb).trans e) ht;rcases K with l|⟨a,b,c⟩|y|⟨a,es⟩
 ·have none_:l[k]?=none->aS (.list l) k=none:=fun q=>q
  have Ms:∀{v},l[k]?=some v->aS (.list l) k=some v:=fun q=>q;refine aX (x) fun a vs n g rl x=>?_;cases q:l[k]? with
  |none=>exact wpAny_pyNext_list_end hh x ⟨_,Iv.keep _ _ g,rfl,_,rfl⟩ (by have :=rl.get_none q;simpa using this) fun h' z=>hn h' (none_ q) z
  |some v=>refine av (rl.get q) fun cv q' h1=>?_;exact wpAny_pyNext_list_item x ⟨_,Iv.keep _ _ g,rfl,_,rfl⟩ (by simpa using q') fun h' z1 z2=>z1.elim fun o z1=>hs v cv {s with heap:=h'} (Ms q) h1 (go z1.1 z2 (Nat.le_refl _)) ⟨a,vs,n,g,rl,o,z1⟩
 ·by_cases q:(k:Int)<tX a b c
  ·refine wpAny_pyNext_range_item x (by omega) fun h' z1 z2=>hs (.c (.int (a+c*k))) _ _ (if_pos q) ⟨_,rfl⟩ (go z1 z2 (Nat.le_succ _)) ?_
   show IsRangeIter _ _ (a+c*((k+1:Nat):Int)) (tX a b c -((k+1:Nat):Int)) c;have e1:a+c*((k+1:Nat):Int)=a+c*(k:Int)+c:=by rw[Int.natCast_add];simp[Int.mul_add];omega
   have e2:tX a b c -((k+1:Nat):Int)=tX a b c -(k:Int) -1:=by omega
   simp only[e1,e2];exact z1
  ·exact wpAny_pyNext_range_end hh x (by omega) fun h' z=>hn h' (if_neg q) z
 ·refine bK (x) fun t x=>?_
  cases q:y.cps[k]? with
  |none=>
   have q':aS (.str y) k=none:=by show(y.cps[k]?).map _=none;rw[q];rfl
   unfold strIterType at x;split at x
   ·exact wpAny_pyNext_ascii_end hh x q fun h' z=>hn h' q' z
   ·exact wpAny_pyNext_wide_end hh x q fun h' z=>hn h' q' z
  |some c=>
   have key:∀h',h'.IsStrIter I (strIterType y) y t (k+1)->Heap.SameBut I s.heap h'->Q (some (.str ⟨#[c]⟩ s.toks)) {s with heap:=h',toks:=s.toks+1}:=fun h' z1 z2=>by refine av (z1) fun o z3 z4=>?_;exact hs (.c (.str ⟨#[c]⟩)) _ _ (by show(y.cps[k]?).map _=_;rw[q];rfl) ⟨_,rfl⟩ (go z3 z2 (Nat.le_succ _)) ⟨t,o,z3,z4⟩
   unfold strIterType at x key;split at x
   ·rename_i hc;simp only[hc,if_true]at key;exact wpAny_pyNext_ascii_item x q key
   ·rename_i hc;simp only[hc]at key;exact wpAny_pyNext_wide_item x q key
 ·refine bu (x) fun ds n g r Mu x=>?_
  refine av (cY (prog:=prog) (Iv.P.trans hP) (Iv.kb _ _ g) r Mu) fun kvs d rr=>?_;simp only[<-rr.len]at x;cases q:es[k]? with
  |none=>exact wpAny_pyNext_dict_end hh x d (by rw[List.getElem?_eq_none_iff]at q⊢;rw[rr.len];exact q) fun h' z=>hn h' (by show(es[k]?).map _=none;rw[q];rfl) z
  |some p=>refine av (rr.get q) fun c q' h1=>?_;refine wpAny_pyNext_dict_item x d q' fun key h' z1 z2 z3=>?_;refine bK (Value.isStrOf_shape z1) fun t Ij=>?_;(clear hP hh Iv hI ho hd nd np x hn d q' h1 z1;subst Ij);refine av (z2) fun o z4 z5=>?_;refine hs (.c (.str p.1)) _ _ (by show(es[k]?).map _=_;rw[q];rfl) ⟨t,rfl⟩ (go z4 z3 (by first|exact Nat.le_refl _|exact Nat.le_succ _)) ⟨ds,n,g,r,Mu,o,z4,?_⟩;rw[<-rr.len];exact z5
end
end Mine.Internal
end
noncomputable section
open PySem PySem.W PyProof.Rows
namespace Mine.Internal
/-! a yP scope -/
noncomputable def fG (cells:List (Str×Addr)):List (Str×NameKind)->List (Str×Addr)->List (Str×Addr)
 |[],acc=>acc
 |(y,k)::r,acc=>if(k==NameKind.free)=true then fG cells r ((y,(cells.lookup y).getD 0)::acc)else fG cells r acc
theorem e9(cells:List (Str×Addr))(y:Str)(k:NameKind)(r:List (Str×NameKind))(acc:List (Str×Addr)):fG cells ((y,k)::r) acc=if(k==NameKind.free)=true then fG cells r ((y,(cells.lookup y).getD 0)::acc)else fG cells r acc:=rfl
theorem uu{scope:Scope}{ce:Env}(h:∀p∈scope.names,p.2= .free->∃c,ce.cells.lookup p.1=some c):closureFor scope ce=pure (fG ce.cells scope.names []):=by
 unfold closureFor;generalize scope.names=l at h;have key:∀(l:List (Str×NameKind)) (acc:List (Str×Addr)),(∀p∈l,p.2= .free->∃c,ce.cells.lookup p.1=some c)->
   (forIn l acc (fun(p:Str×NameKind) r=>(match p with|(name,kind)=>if(kind==NameKind.free)=true then(do let c <-cellOf ce name;pure (ForInStep.yield ((name,c)::r)))else pure (ForInStep.yield r):Sem (ForInStep (List (Str×Addr))))):Sem (List (Str×Addr)))=pure (fG ce.cells l acc):=by
  intro l
  induction l with
  |nil=>intro acc _;rfl
  |cons p l ih=>
   intro acc h;obtain⟨y,k⟩:=p;rw[List.forIn_cons];dsimp only;by_cases hk:(k==NameKind.free)=true
   ·rw[if_pos hk]
    refine bK (h (y,k) List.mem_cons_self (eq_of_beq hk)) fun c hc=>?_;have :cellOf ce y=pure c:=by unfold cellOf;rw[hc]
    rw[this];have i:=ih ((y,c)::acc) fun p hp=>h p (List.mem_cons_of_mem _ hp);show(forIn l ((y,c)::acc) _:Sem (List (Str×Addr)))=_;simp only[i];have hc':ce.cells.lookup y=some c:=hc;rw[e9,if_pos hk,hc'];rfl
   ·rw[if_neg hk]
    have i:=ih acc fun p hp=>h p (List.mem_cons_of_mem _ hp);show(forIn l acc _:Sem (List (Str×Addr)))=_;rw[i];rw[e9,if_neg hk]
 have :=key l [] h
 first
  |exact this
  |(rw[bind_pure];exact this)
  |(show(do let r <-forIn l [] _;pure r)=_;rw[this];rfl)
theorem uv{cells:List (Str×Addr)}:∀{l:List (Str×NameKind)} {acc:List (Str×Addr)},(∀p∈l,p.2= .free->∃c,cells.lookup p.1=some c)->(∀p∈acc,cells.lookup p.1=some p.2)->∀p∈fG cells l acc,cells.lookup p.1=some p.2
 |[],acc,_,h,p,hp=>h p hp
 |(y,k)::l,acc,h0,h,p,hp=>by
  rw[e9]at hp;split at hp
  ·rename_i hk
   refine bK (h0 (y,k) List.mem_cons_self (eq_of_beq hk)) fun c hc=>?_;refine uv (fun p hp=>h0 p (List.mem_cons_of_mem _ hp)) (fun q hq=>?_) p hp
   (clear hk;rcases List.mem_cons.mp hq with rfl|hq)
   ·have hc':cells.lookup y=some c:=hc
    rw[hc'];rfl
   ·exact h q hq
  ·exact uv (fun p hp=>h0 p (List.mem_cons_of_mem _ hp)) h p hp
theorem qh{cells:List (Str×Addr)}{y:Str}:∀{l:List (Str×NameKind)} {acc:List (Str×Addr)},(∃p∈acc,p.1=y)->∃p∈fG cells l acc,p.1=y
 |[],acc,h=>h
 |(z,k)::l,acc,h=>by
  rw[e9];split
  ·refine av (h) fun p h1 h2=>?_
   exact qh ⟨p,List.mem_cons_of_mem _ h1,h2⟩
  ·exact qh h
theorem uw{cells:List (Str×Addr)}{y:Str}:∀{l:List (Str×NameKind)} {acc:List (Str×Addr)},(y,NameKind.free)∈l->∃p∈fG cells l acc,p.1=y
 |[],acc,h=>by cases h
 |(z,k)::l,acc,h=>by
  rw[e9];rcases List.mem_cons.mp h with h|h
  ·cases h
   rw[if_pos (by rfl)];exact qh ⟨_,List.mem_cons_self,rfl⟩
  ·split
   ·exact uw h
   ·exact uw h
theorem lookup_mem{α:Type}{y:Str}{v:α}:∀{l:List (Str×α)},l.lookup y=some v->(y,v)∈l
 |[],h=>by exact xa h
 |(z,u)::l,h=>by
  simp only[List.lookup_cons]at h;by_cases q:(y==z)=true
  ·rw[q]at h;(apply af (h));rw[eq_of_beq q];exact List.mem_cons_self
  ·rw[Bool.not_eq_true]at q;rw[q]at h;exact List.mem_cons_of_mem _ (lookup_mem h)
theorem mem_lookup{α:Type}{y:Str}:∀{l:List (Str×α)},(∃p∈l,p.1=y)->∃v,l.lookup y=some v
 |[],h=>by refine av (h) fun p h _=>?_;cases h
 |(z,u)::l,h=>by
  simp only[List.lookup_cons];by_cases q:(y==z)=true
  ·rw[q];exact⟨u,rfl⟩
  ·simp only[Bool.not_eq_true]at q;rw[q]
   refine av (h) fun p h1 h2=>?_
   (clear h;rcases List.mem_cons.mp h1 with rfl|h1)
   ·subst h2;simp at q
   ·exact mem_lookup ⟨p,h1,h2⟩
theorem kX{cells:List (Str×Addr)}{l:List (Str×NameKind)}(h0:∀p∈l,p.2= .free->∃c,cells.lookup p.1=some c){y:Str}:
  (∀c,(fG cells l []).lookup y=some c->cells.lookup y=some c)/\((y,NameKind.free)∈l->(fG cells l []).lookup y=cells.lookup y):=by
 have a:∀c,(fG cells l []).lookup y=some c->cells.lookup y=some c:=fun c h=>uv h0 (fun u' h=>absurd h List.not_mem_nil) _ (lookup_mem h);refine⟨a,fun hm=>?_⟩;refine bK (mem_lookup (uw (cells:=cells) (acc:=([]:List (Str×Addr))) hm)) fun c hc=>?_;simp only[hc,a c hc]
theorem bZ(ce:Env)(scope:Scope)(y:Str):(relabel scope ce).names.lookup y=(scope.names.lookup y).map fun k=>if(k== .free&&ce.scope.kind== .function&&ce.kindOf y==some .cell)=true then .cell else k:=by
 show(scope.names.map _).lookup y=_;generalize scope.names=l
 induction l with
 |nil=>rfl
 |cons p l ih=>
  obtain⟨z,k⟩:=p;have e:(if(k==NameKind.free&&ce.scope.kind== .function&&ce.kindOf z==some .cell)=true then(z,NameKind.cell)else(z,k))=(z,if(k==NameKind.free&&ce.scope.kind== .function&&ce.kindOf z==some .cell)=true then NameKind.cell else k):=by split <;> rfl
  rw[List.map_cons];simp only[e,List.lookup_cons,List.lookup_cons,ih];by_cases q:(y==z)=true
  ·simp only[q];rw[eq_of_beq q];rfl
  ·simp only[Bool.not_eq_true]at q;rw[q]
structure jx(sc scope:Scope)(ns xs:List Str):Prop where
 kind:scope.kind= .function
 loc:∀x∈xs,scope.names.lookup x=some .local\/scope.names.lookup x=some .cell
 dot:(".0":Str)∉xs
 nd:ix ns (".0":Str)=none
 nl:∀p∈scope.names,p.2= .local->scope.names.lookup p.1=some .local
 all:∀p∈scope.names,(p.2= .local/\(p.1∈xs\/p.1=(".0":Str)))\/(p.2= .cell/\xs=[p.1])\/(p.2= .free/\jb (sc.names.lookup p.1)=true/\∃i,ix ns p.1=some i)\/p.2= .globalImplicit
theorem fZ{y:Str}:∀{names:List (Str×NameKind)} {n:Nat} {acc:List (Str×Addr)},(y,NameKind.cell)∉names->(cellsFrom n names acc).lookup y=acc.lookup y
 |[],_,_,_=>rfl
 |(z,k)::r,n,acc,h=>by
  unfold cellsFrom;have hr:(y,NameKind.cell)∉r:=fun q=>h (List.mem_cons_of_mem _ q);split
  ·rename_i hk
   simp only[fZ hr,List.lookup_cons];have :(y==z)=false:=by rw[beq_eq_false_iff_ne];rintro rfl;exact h (eq_of_beq hk▸List.mem_cons_self)
   rw[this]
  ·exact fZ hr
theorem iT{y:Str}{lo:Nat}:∀{names:List (Str×NameKind)} {h:Heap} {acc:List (Str×Addr)},lo<=h.objs.size->(y,NameKind.cell)∈names->
  ∃c,(cellsFrom h.objs.size names acc).lookup y=some c/\(pushCells h names).IsCell c none/\lo<=c
 |[],h,acc,_,e=>by cases e
 |(z,k)::r,h,acc,hlo,e=>by
  unfold cellsFrom pushCells;by_cases hk:(k==NameKind.cell)=true
  ·rw[if_pos hk,if_pos hk]
   by_cases hr:(y,NameKind.cell)∈r
   ·have :=iT (h:=h.push {cls:=.type "cell",data:=.cell none}) (acc:=(z,h.objs.size)::acc) (lo:=lo) (by rw[Heap.size_push];omega) hr
    rwa[Heap.size_push]at this
   ·rcases List.mem_cons.mp e with e|e
    ·cases e
     refine⟨h.objs.size,?_,?_,hlo⟩
     ·simp only[fZ hr,List.lookup_cons,beq_self_eq_true]
     ·exact Heap.IsCell.keeps (h:=h.push {cls:=.type "cell",data:=.cell none}) ⟨_,Heap.get?_push_size _ rfl,rfl⟩ (pushCells_keeps r _)
    ·exact absurd e hr
  ·rw[if_neg hk,if_neg hk]
   rcases List.mem_cons.mp e with e|e
   ·cases e;exact absurd rfl hk
   ·exact iT hlo e
theorem xS{M:Model}{A:Around}{E:Value->Shared->Prop}{s:Shared}{scope:Scope}{globals:Addr}{closure:List (Str×Addr)}{qual:Str}{func:Option Addr}{code:Value}{outer:Env}{builtins:Addr}{Q:Env->Shared->Prop}
  (hQ:Q (newEnv scope s.heap.objs.size globals (cellsFrom (s.heap.objs.size+1) scope.names closure) qual func code (some outer) builtins) {s with heap:=pushCells (s.heap.push {cls:=.type "dict",data:=.dict #[]}) scope.names}):
  wpAny M A (newFunctionEnv scope globals closure [] qual func code (some outer) builtins) Q E s:=by
 simp only[newFunctionEnv,Option.isSome_some,if_true];refine wpAny_bind (wpAny_alloc ?_);refine wpAny_bind (wpAny_layCells _ (fun name kind cells=>by cases hkc:kind==NameKind.cell <;> rfl) _ _ _ _ ?_);rw[show({s with heap:=s.heap.push {cls:=.type "dict",data:=.dict #[]}}:Shared).heap.objs.size=s.heap.objs.size+1 from Heap.size_push ..];refine wpAny_bind ?_;simp only[List.forIn_nil];exact wpAny_pure (wpAny_pure hQ)
theorem qi{l:List Str}{x:Str}(h:l.contains x=false):ix l x=none:=by
 induction l with
 |nil=>rfl
 |cons y l ih=>rw[List.contains_cons,Bool.or_eq_false_iff]at h;unfold ix;rw[if_neg (fun e=>by subst e;simp at h),ih h.2];rfl
theorem vV{l:List Str}{x:Str}(h:l.contains x=true):∃i,ix l x=some i:=by
 induction l with
 |nil=>exact xc h
 |cons y l ih=>
  unfold ix;by_cases q:y=x
  ·exact⟨0,if_pos q⟩
  ·rw[if_neg q]
   rw[List.contains_cons,Bool.or_eq_true]at h;rcases h with h|h
   ·exact absurd (eq_of_beq h).symm q
   ·refine bK (ih h) fun i hi=>?_;exact⟨i+1,by rw[hi];rfl⟩
theorem kY{sc scope:Scope}{ns xs:List Str}(h:m9 sc scope ns xs=true):jx sc scope ns xs:=by
 unfold m9 at h;simp only[Bool.and_eq_true,Bool.or_eq_true,decide_eq_true_eq,beq_iff_eq,Bool.not_eq_true']at h;obtain⟨⟨⟨⟨⟨h1,h6⟩,h2⟩,h3⟩,h4⟩,h5⟩:=h;refine⟨h1,fun x hx=>?_,fun q=>(xc (h3.symm.trans (List.contains_iff_mem.mpr q))),qi h4,fun p hp hl=>?_,fun p hp=>?_⟩
 ·have :=List.all_eq_true.mp h2 x hx
  simpa only[Bool.or_eq_true,beq_iff_eq]using this
 ·have :=List.all_eq_true.mp h6 p hp
  simp only[Bool.or_eq_true,Bool.not_eq_true',beq_iff_eq,beq_eq_false_iff_ne,ne_eq]at this;rcases this with this|this
  ·exact absurd hl this
  ·exact this
 have :=List.all_eq_true.mp h5 p hp;simp only[Bool.or_eq_true,Bool.and_eq_true,beq_iff_eq,List.contains_iff_mem]at this;rcases this with((⟨a,b⟩|⟨a,b⟩)|⟨⟨a,b⟩,c⟩)|a
 ·exact .inl ⟨a,b⟩
 ·exact .inr (.inl ⟨a,b⟩)
 ·exact .inr (.inr (.inl ⟨a,b,vV (List.contains_iff_mem.mpr c)⟩))
 ·exact .inr (.inr (.inr a))
theorem qj{cells:List (Str×Addr)}{y:Str}:∀{l:List (Str×NameKind)} {acc:List (Str×Addr)},(∃p∈fG cells l acc,p.1=y)->(∃p∈acc,p.1=y)\/(y,NameKind.free)∈l
 |[],acc,h=>.inl h
 |(z,k)::l,acc,h=>by
  rw[e9]at h;split at h
  ·rename_i hk
   rcases qj h with⟨p,h1,h2⟩|h
   ·rcases List.mem_cons.mp h1 with rfl|h1
    ·subst h2;rw[eq_of_beq hk];exact .inr List.mem_cons_self
    ·exact .inl ⟨p,h1,h2⟩
   ·exact .inr (List.mem_cons_of_mem _ h)
  ·rcases qj h with h|h
   ·exact .inl h
   ·exact .inr (List.mem_cons_of_mem _ h)
section
variable{B:Base}{ce:Env}{ns:List Str}{φ az:Ph}{G G':Gs}{e:En}{h:Heap}{s s':Shared}{scope:Scope}{xs:List Str}
theorem o6(c:jx ce.scope scope ns xs)(En:dY B ce ns φ e h):∀p∈scope.names,p.2= .free->∃c,ce.cells.lookup p.1=some c:=fun p hp hf=>by
 rcases c.all p hp with⟨a,_⟩|⟨a,_⟩|⟨_,b,i,hi⟩|a
 ·exact xi NameKind.ctorIdx (hf.symm.trans a) rfl
 ·exact xi NameKind.ctorIdx (hf.symm.trans a) rfl
 ·exact(En.oh p.1 i hi b).imp fun c y=>y.1
 ·exact xi NameKind.ctorIdx (hf.symm.trans a) rfl
theorem vW(c:jx ce.scope scope ns xs){y:Str}{d:Addr}(h:(fG ce.cells scope.names []).lookup y=some d)(h0:∀p∈scope.names,p.2= .free->∃c,ce.cells.lookup p.1=some c):
  ∃i,ix ns y=some i/\jb (ce.kindOf y)=true/\ce.cells.lookup y=some d:=by
 rcases qj ⟨_,lookup_mem h,rfl⟩with⟨p,h1,_⟩|hf
 ·cases h1
 ·rcases c.all _ hf with⟨a,_⟩|⟨a,_⟩|⟨_,b,i,hi⟩|a
  ·(clear c hf;cases a)
  ·(clear c hf;cases a)
  ·exact⟨i,hi,b,(kX h0).1 d h⟩
  ·(clear c h h0 hf;cases a)
theorem xT{C:Addr}{m:Str->Option Value}(x:h.Ns C m):∀v,¬h.IsCell C v:=fun v hc=>by obtain⟨o,es,ep,h1,h2,_⟩:=x;obtain⟨o',h3,h4⟩:=hc;rw[h1]at h3;(revert h4;apply af (h3);intro h4);rw[h2]at h4;(clear h1 h2 h3;cases h4)
theorem dO(y:Str)(l:List Str)(x:Str):ix (y::l) x=if y=x then some 0 else(ix l x).map (· +1):=rfl
theorem Ar:∀{l:List Str} {x:Str},x∈l->∀ns,∃i,ix (l++ns) x=some i/\i<l.length
 |y::l,x,h,ns=>by
  simp only[List.cons_append,dO];by_cases q:y=x
  ·exact⟨0,if_pos q,Nat.succ_pos _⟩
  ·refine av (Ar ((List.mem_cons.mp h).resolve_left fun e=>q e.symm) ns) fun i h1 h2=>?_
   exact⟨i+1,by rw[if_neg q,h1];rfl,Nat.succ_lt_succ h2⟩
theorem ux:∀{l:List Str} {x:Str},x∉l->∀ns,ix (l++ns) x=(ix ns x).map (· +l.length)
 |[],x,_,ns=>by show ix ns x=_;cases ix ns x <;> rfl
 |y::l,x,h,ns=>by
  rw[List.mem_cons,not_or]at h;rw[List.cons_append,dO,if_neg (Ne.symm h.1),ux h.2 ns]
  (clear h;cases ix ns x) <;> rfl
set_option tactic.hygienic true in
theorem r7(c:jx ce.scope scope ns xs){C:Addr}{cs:List (Str×Addr)}:∀y i,ix (xs++ns) y=some i->(compEnvC scope cs C ce).kindOf y=some .local->i<xs.length:=fun y i hy hk=>by
  rw[show(compEnvC scope cs C ce).kindOf y=_ from bZ ce scope y]at hk;refine ay hk fun k q hk=>?_;have hk':k= .local:=by
   split at hk
   ·(rename_i aH _;clear aH;cases hk)
   ·exact hk
  subst hk';rcases c.all _ (lookup_mem q)with⟨_,a|a⟩|⟨a,_⟩|⟨a,_⟩|a
  ·obtain⟨j,h1,h2⟩:=Ar a ns
   (rename_i aH _;clear aH;obtain rfl:=Option.some.inj (h1.symm.trans hy))
   exact h2
  ·have a:y=".0":=a
   subst a;rw[ux c.dot,c.nd]at hy;(rename_i aH _;clear aH;exact xa hy)
  ·(rename_i aH _;clear aH;cases a)
  ·(rename_i aH _;clear aH;cases a)
  ·(rename_i aH;clear aH;cases a)
noncomputable def KZ (xs:List Str):List SL:=xs.map fun _=>.no
theorem I7{zs:List SL}{e:En}{i:Nat}:sl (zs++e) (i+zs.length)=sl e i:=by unfold sl;simp only[List.getD_eq_getElem?_getD,List.getD_eq_getElem?_getD,List.getElem?_append_right (Nat.le_add_left _ _),Nat.add_sub_cancel]
theorem As{zs:List SL}{e:En}{i:Nat}(h:i<zs.length):sl (zs++e) i∈zs:=by unfold sl;simp only[List.getD_eq_getElem?_getD,List.getElem?_append_left h,List.getElem?_eq_getElem h];exact List.getElem_mem h
theorem uy{xs:List Str}{e:En}{i:Nat}(h:i<xs.length):sl (KZ xs++e) i= .no:=by refine av (List.mem_map.mp (As (zs:=KZ xs) (e:=e) ((List.length_map (as:=xs) fun _=>SL.no).symm▸h))) fun u' u' q=>?_;exact q.symm
theorem dY.comp(c:jx ce.scope scope ns xs)(En:dY B ce ns φ e h){C:Addr}{cs:List (Str×Addr)}(hC:lU B φ C)(hm:h.Ns C fun _=>none)
  (h1:∀y,(y,NameKind.cell)∉scope.names->cs.lookup y=(fG ce.cells scope.names []).lookup y)
  (h2:∀y,(y,NameKind.cell)∈scope.names->∃d,cs.lookup y=some d/\h.IsCell d none/\lU B φ d/\d≠C/\∀z,(fG ce.cells scope.names []).lookup z≠some d):
  dY B (compEnvC scope cs C ce) (xs++ns) φ (KZ xs++e) h:=by
 have h0:=o6 c En;have nl:(KZ xs).length=xs.length:=List.length_map _;have kind:∀y,(compEnvC scope cs C ce).kindOf y=(scope.names.lookup y).map fun k=>if(k== .free&&ce.scope.kind== .function&&ce.kindOf y==some .cell)=true then .cell else k:=bZ ce scope
 have nc:∀y,(y,NameKind.cell)∈scope.names->xs=[y]:=fun y hy=>by
  rcases c.all _ hy with⟨a,_⟩|⟨_,a⟩|⟨a,_⟩|a
  ·cases a
  ·exact a
  ·cases a
  ·cases a
 have SN:∀y d,(fG ce.cells scope.names []).lookup y=some d->ce.cells.lookup y=some d:=fun y d q=>(kX h0).1 d q;have loc:=r7 (ce:=ce) (C:=C) (cs:=cs) c;refine⟨c.kind,En.tO,En.blt,En.cd,by rw[List.length_append,List.length_append,nl,En.len],hC.f,hC.mu,hC.tb,⟨_,hm,fun y i hy hk=>?_,fun y z i j hy hz ky kz ne o=>?_,fun y hy hk o=>?_⟩,fun y i hy hk=>?_,fun y z a q1 q2=>?_⟩
 ·rw[uy (loc y i hy hk)];rfl
 ·rw[uy (loc y i hy ky)]at o;exact xc o
 ·rw[uy (loc y 0 hy hk)]at o;exact xc o
 ·rw[kind]at hk
  cases q:scope.names.lookup y with
  |none=>rw[q]at hk;exact xc hk
  |some k=>
   rw[q]at hk;rcases c.all _ (lookup_mem q)with⟨a,_⟩|⟨a,b⟩|⟨a,b,i',hi'⟩|a
   ·dsimp only at a;(clear hC kind;subst a);exact xc hk
   ·dsimp only at a b
    subst a;subst b;simp only[List.singleton_append,dO,if_pos rfl]at hy
    (apply af (hy))
    refine fH (h2 _ (lookup_mem q)) fun d hd w1 w2 w3 _=>?_;exact⟨d,hd,w2.f,w2.mu,w2.tb,w3,none,w1,.inl ⟨rfl,rfl⟩⟩
   ·dsimp only at a b hi'
    (clear hC kind;subst a)
    have hyx:y∉xs:=fun z=>by rcases c.loc y z with w|w <;> rw[w]at q <;> cases q
    rw[ux hyx,hi']at hy
    (apply af (hy))
    refine av (En.oh y i' hi' b) fun a q1 q2=>?_;refine⟨a,?_,q2.f,q2.mu,q2.tb,fun z=>q2.v.elim fun v w=>xT hm v (by have z':a=C:=z;rw[<-z'];exact w.1),?_⟩
    ·show cs.lookup y=_
     rw[h1 y fun w=>hyx (by rw[nc y w];exact List.mem_singleton.mpr rfl)];exact((kX h0).2 (lookup_mem q)).trans q1
    ·rw[<-nl,I7];exact q2.v
   ·dsimp only at a;(clear c hC hm h0 nl kind loc q;subst a);exact xc hk
 ·have yQ:cs.lookup y=some a:=q1
  have F9:cs.lookup z=some a:=q2;by_cases hy:(y,NameKind.cell)∈scope.names <;> by_cases hz:(z,NameKind.cell)∈scope.names
  ·exact(List.cons.inj ((nc y hy).symm.trans (nc z hz))).1
  ·rw[h1 z hz]at F9
   obtain⟨d,hd,_,_,_,w⟩:=h2 y hy;rw[hd]at yQ;(revert q1 q2 F9;apply af (yQ);intro q1 q2 F9);exact absurd F9 (w z)
  ·rw[h1 y hy]at yQ
   obtain⟨d,hd,_,_,_,w⟩:=h2 z hz;rw[hd]at F9;(revert q1 q2 yQ;apply af (F9);intro q1 q2 yQ);exact absurd yQ (w y)
  ·rw[h1 y hy]at yQ
   rw[h1 z hz]at F9;exact En.inj y z a (SN _ _ yQ) (SN _ _ F9)
end
end Mine.Internal
end
noncomputable section
open PySem PySem.W PyProof.Rows
namespace Mine.Internal
theorem o7(cenv:Env):∀(l:List Expr),(forIn l false fun c r=>if r=true then do let ok <-isTrue c cenv (eval c cenv);pure (ForInStep.yield ok)else pure (ForInStep.yield r):Sem Bool)=pure false
 |[]=>rfl
 |c::l=>by have ih:=o7 cenv l;rw[List.forIn_cons];exact ih
noncomputable def uz (cx target iter:Expr) (ifs:List Expr) (it acc:Value) (env:Env) (el:Sem Unit):Sem Fin:=do
 standAt iter.pos
 match<-pyNext it with
 |none=>pure (.done .next)
 |some v=>
  letOwnedTupleGo target it v
  assign target env v
  let mut ok:=true
  for c in ifs do
   if ok then ok <-isTrue c env (eval c env)
  if ok then el
  again (.compLoop cx 0 it acc env)
structure qk(prog:Program)(w:World)(cx:Expr):Prop where
 l:∀it acc env,(model prog w).den (.compLoop cx 0 it acc env)=(compTurn cx 0 it acc env).onRaise fun x=>do noteFrame x env;theTreesLotGoes x
 lu:∀(A:Around) it acc env,A.under (.compLoop cx 0 it acc env)=A
 s:∀it acc env,(model prog w).den (.compStart cx 0 it acc env)=(compStart cx 0 it acc env).onRaise fun x=>do noteFrame x env;standAt theWindowsPlace
 su:∀(A:Around) it acc env,A.under (.compStart cx 0 it acc env)=A
noncomputable def Ga (M:Model) (A:Around) (target:Expr) (ifs:List Expr) (it:Value) (env:Env) (el:Sem Unit) (E:Value->Shared->Prop) (Q:Unit->Shared->Prop) (v:Value) (s:Shared):Prop:=
 wpAny M A (letOwnedTupleGo target it v) (fun u' s₂=>wpAny M A (assign target env v) (fun u' s₃=>
  wpAny M A (forIn ifs true fun c r=>if r=true then do let ok <-isTrue c env (eval c env);pure (ForInStep.yield ok)else pure (ForInStep.yield r)) (fun ok s₄=>cond ok (wpAny M A el Q E s₄) (Q () s₄)) E s₃) E s₂) E s
theorem ql{prog:Program}{w:World}{A:Around}{R:Result->Shared->Prop}{s:Shared}{cx target iter:Expr}{ifs:List Expr}{it acc:Value}{env:Env}{el:Sem Unit}(pc:qk prog w cx)(heq:compTurn cx 0 it acc env=uz cx target iter ifs it acc env el)(I:Nat->Shared->Prop)
  (turn:∀n s,I n s->∀(E:Value->Shared->Prop) (Q:Unit->Shared->Prop),(∀m s',m<n->I m s'->Q () s')->wpAny (model prog w) A (pyNext it) (fun r s₁=>r.elim (R (.ok .next) s₁) fun v=>Ga (model prog w) A target ifs it env el E Q v s₁) E s)
  (n:Nat)(h:I n s):codeAny (model prog w) A (.compLoop cx 0 it acc env) R s:=by
 refine codeAny_loop rfl I (fun n s hI=>?_) n h;rw[pc.l,pc.lu];refine wpAny_noted ?_;rw[heq];refine wpAny_bind (wpAny_standAt (wpAny_bind (wpAny_mono (turn n s hI _ (fun u' s₅=>∃m,m<n/\I m s₅) fun m s' a b=>⟨m,a,b⟩) (fun r s₁ h₁=>?_) fun u' u' h'=>h')));clear pc heq turn h hI;rcases r with _|v
 ·exact wpAny_pure h₁
 ·refine wpAny_bind (wpAny_mono h₁ (fun u' s₂ h₂=>wpAny_bind (wpAny_mono h₂ (fun u' s₃ h₃=>wpAny_bind (wpAny_mono h₃ (fun ok s₄ h₄=>?_) fun u' u' h'=>h')) fun u' u' h'=>h')) fun u' u' h'=>h')
  rcases ok with _|_
  ·exact wpAny_pure ⟨rfl,h₄⟩
  ·exact wpAny_bind (wpAny_mono h₄ (fun u' s₅ h₅=>wpAny_pure ⟨rfl,h₅⟩) fun u' u' h'=>h')
theorem oz{prog:Program}{w:World}{A:Around}{R:Result->Shared->Prop}{s:Shared}{cx:Expr}{c:Comprehension}(pc:qk prog w cx)(hc:clausesOf cx=[c])(h1:c.is_async=0){it acc:Value}{env:Env}(h0:codeAny (model prog w) A (.compLoop cx 0 it acc env) R s)
  (h:wpAny (model prog w) A (pyIter it) (fun it' s'=>codeAny (model prog w) A (.compLoop cx 0 it' acc env) R s') (notedBy (model prog w) A env fun x s'=>R (.error x) s') s):codeAny (model prog w) A (.compStart cx 0 it acc env) R s:=by
 refine codeAny_of_tree ?_;rw[pc.s,pc.su];refine wpAny_notedAt ?_;unfold compStart;rw[hc];rw[if_neg (by show ¬(c.is_async !=0)=true;rw[h1];decide)];show wpAny _ _ (ask>>=_) _ _ s;refine wpAny_bind (wpAny_askSetting ?_);split
 ·exact wpAny_pure ⟨rfl,h0⟩
 ·exact wpAny_bind (wpAny_rule (wpAny_bind (wpAny_standAt (wpAny_bind (wpAny_mono h (fun it' s' h'=>wpAny_pure ⟨rfl,h'⟩) fun u' u' h'=>h')))))
section
variable{k:Ks}{ce cenv:Env}{ns:List Str}
theorem vX{f:Expr->Option X}(hf:∀ex x,f ex=some x->q7 k cenv ns ex x):∀{es:List Expr} {xs:List X},aA f es=some xs->
  Ev k (fun _ b c=>b=c) cenv ns (forIn es true fun c r=>if r=true then do let ok <-isTrue c cenv (eval c cenv);pure (ForInStep.yield ok)else pure (ForInStep.yield r)) (jM k.T k.U xs)
 |[],xs,hx=>fun A E Q φ G s e r G' c ev kk=>by(revert ev;apply af (hx);intro ev);exact lR ev fun a b=>wpAny_pure (kk _ _ _ a.symm (b▸Step.refl c.I))
 |ex::es,xs,hx=>fun A E Q φ G s e r G' c ev kk=>aD hx fun y q h1 h2 h3=>by
  (clear hx;subst h3)
  refine cF ev fun v G1 e1 ev=>cF ev fun t G2 e2 ev=>?_;simp only[List.forIn_cons,if_true];refine wpAny_bind (wpAny_bind ((hf _ _ h1).at (r:=t) (G':=G2) c (fW e1 e2) fun t' aO s1 ht t1=>wpAny_pure ?_));clear h1 e1 e2;subst ht;rename_i kU nG;clear kU nG;rcases t with _|_
  ·show wpAny _ _ (forIn es false _) _ _ _
   rw[o7];exact gz ev fun a b=>wpAny_pure (kk _ _ _ (Option.some.inj a).symm (b▸t1))
  ·exact(vX hf h2).at (r:=r) (G':=G') (c.step t1) ev fun c d9 s2 h2 t2=>kk _ _ _ h2 (t1.trans t2)
theorem noOwn{e:En}{h:Heap}(hp:∀y i,ix ns y=some i->cenv.kindOf y=some .local->(∃v,sl e i= .v v)\/sl e i= .no){φ:Ph}(En:dY k.B cenv ns φ e h):∀b,¬dw cenv ns e h b:=fun b bE=>bw bE fun m y i hm hi hk SO=>dS SO fun h1 a h2 _=>by
 clear bE SO;rcases hp y i hi hk with⟨v,q⟩|q
 ·exact h1 v q
 ·obtain⟨m',hm'⟩:=En.loc
  have :=hm'.sr y i hi hk;rw[q,bR hm'.nm hm]at this;exact xa ((show m y=none from this).symm.trans h2)
noncomputable def qm (target:Expr) (xs:List Str):Prop:=(∃x p,target= .Name x p/\xs=[x])\/∃x p y q n r,target= .Tuple [.Name x p,.Name y q] n r/\xs=[x,y]/\x≠y
theorem qm.len{target:Expr}{xs:List Str}(tg:qm target xs):(if Nat.beq xs.length 2=true then 2 else 1)=xs.length:=tg.elim (fun h=>cU h fun x p u' h=>h▸rfl) fun h=>h.elim fun u' h=>h.elim fun u' h=>h.elim fun u' h=>h.elim fun u' h=>aI h fun u' u' u' h _=>h▸rfl
theorem Au{tw:Bool}{v:V}{zs:List SL}(h:front tw v=some zs):(∀z∈zs,∃v,z= .v v)/\zs.length=if tw=true then 2 else 1:=by
 rcases tw with _|_
 ·(apply af (h));exact⟨fun z hz=>⟨v,List.mem_singleton.mp hz⟩,rfl⟩
 ·refine ay h fun p _ e=>?_
  (rename_i aH;clear aH;(clear h;obtain rfl:=e))
  as_aux_lemma=>
  exact⟨fun z hz=>by
   rcases List.mem_cons.mp hz with rfl|hz
   ·exact⟨_,rfl⟩
   ·exact⟨_,List.mem_singleton.mp hz⟩,rfl⟩
theorem r8{v:V}{l:List V}(h:jd v=some l):v= .tup l:=tells (P:=fun l=>v= .tup l) (by rcases v with⟨⟩ <;> first|rfl|trivial) h
theorem r9{v:V}{p:V×V}(h:zb v=some p):v= .tup [p.1,p.2]:=bindC h fun l hl h=>(r8 hl).trans (by rw[dz h])
theorem DL{B:Base}{prog:Program}{w:World}{A:Around}{E:Value->Shared->Prop}{Q:Unit->Shared->Prop}{φ:Ph}{G:Gs}{s:Shared}{target:Expr}{xs:List Str}{zs zs':List SL}{e:En}{v:V}{cv:Value}(tg:qm target xs)(hh:A.handled=none)
  (hx:∀x∈xs,cenv.kindOf x=some .local\/cenv.kindOf x=some .cell)(I:Inv B φ G s)(En:dY B cenv (xs++ns) φ (zs++e) s.heap)(hl:zs.length=xs.length)(hv:VR φ v cv)(hf:front (Nat.beq xs.length 2) v=some zs')
  (kk:∀s',Step B (fun b=>∃x∈xs,St cenv x b) φ s φ G s'->dY B cenv (xs++ns) φ (zs'++e) s'.heap->Q () s'):wpAny (model prog w) A (assign target cenv cv) Q E s:=by
 rcases tg with⟨x,p,rfl,rfl⟩|⟨x,p,y,q,n,r,rfl,rfl,hne⟩
 ·(revert kk;apply af (hf);intro kk)
  match zs,hl with
  |[z],_=>exact wpAny_assign_Name (mV (i:=0) (z:=.v v) I En (by show ix (x::_) x=_;rw[dO,if_pos rfl]) ((hx x List.mem_cons_self).imp id fun q=>⟨q,v,rfl⟩) ⟨cv,rfl,hv⟩ (fun q=>xc q) (fun q=>xc q) fun s3 t3 I8 u' _=>kk s3 (t3.weak fun b hb=>⟨x,List.mem_cons_self,hb⟩) I8)
 ·refine ay hf fun pr hp e'=>?_
  (clear hf;subst e')
  rw[r9 hp]at hv;refine aX (hv) fun ad us m Qu gg rr=>?_;(clear hv hp;subst Qu);refine aI (rr) fun c1 r1 q1 v1 Mv=>aI Mv fun c2 r2 Qv v2 q3=>?_;clear Mv;subst Qv;subst q3;refine wpAny_assign_Tuple hh ⟨_,I.keep _ _ gg,rfl,m,rfl⟩ (by rw[<-Array.length_toList,q1];rfl) rfl fun h' hx'=>?_;simp only[q1];have st:Step B No φ s φ G {s with heap:=h'}:=Step.more I (fun b o hb=>hx' b o (fun q=>by rw[q,Inv.bL s]at hb;exact xa hb) hb) (Nat.le_refl _)
  match zs,hl with
  |[z1,z2],_=>refine assignInOrder_cons (wpAny_assign_Name (mV (i:=0) (z:=.v pr.1) st.inv (En.ru st) (by show ix (x::_) x=_;rw[dO,if_pos rfl]) ((hx x List.mem_cons_self).imp id fun q=>⟨q,pr.1,rfl⟩) ⟨c1,rfl,v1⟩ (fun q=>xc q) (fun q=>xc q) fun s3 t3 I8 u' _=>?_));refine assignInOrder_cons (wpAny_assign_Name (mV (i:=1) (z:=.v pr.2) t3.inv I8 (by show ix (x::y::_) y=_;rw[dO,if_neg hne,dO,if_pos rfl];rfl) ((hx y (List.mem_cons_of_mem _ List.mem_cons_self)).imp id fun q=>⟨q,pr.2,rfl⟩) ⟨c2,rfl,v2⟩ (fun q=>xc q) (fun q=>xc q) fun s4 t4 vY u' _=>assignInOrder_nil ?_));exact kk s4 (((st.weak fun b q=>q.elim).trans (t3.weak fun b hb=>⟨x,List.mem_cons_self,hb⟩)).trans (t4.weak fun b hb=>⟨y,List.mem_cons_of_mem _ List.mem_cons_self,hb⟩)) vY
theorem vZ{B:Base}{M:Model}{A:Around}{E:Value->Shared->Prop}{Q:Unit->Shared->Prop}{φ:Ph}{s:Shared}{target:Expr}{I:Addr}{KK:IK}{n:Nat}{v:Value}(It:i7 B φ s.heap I KK n)(h:Q () s):wpAny M A (letOwnedTupleGo target (.ref I) v) Q E s:=by
 refine aI (It.cls) fun o c g hc hn=>?_;have key:wpAny M A (do
  let(.ref r,.ref a):=(Value.ref I,v)|return
  let o <-load r
  match o.cls,o.data with
  | .type n,.fields vs=>
   if["enumerate","zip","dict_itemiterator","dict_reverseitemiterator","odict_iterator","itertools.zip_longest","itertools.pairwise"].contains n&&vs[0]?==some (rawInt a)then
    rule "for.unpacks-the-owned-tuple"
    updateField r 0 .none
  |_,_=>pure ()) Q E s:=by
  clear It;rcases v with _|_|_|_|⟨_,_⟩|⟨_,_⟩|⟨_,_⟩|⟨_,_⟩|_|_|a
  ·exact wpAny_pure h
  ·exact wpAny_pure h
  ·exact wpAny_pure h
  ·exact wpAny_pure h
  ·exact wpAny_pure h
  ·exact wpAny_pure h
  ·exact wpAny_pure h
  ·exact wpAny_pure h
  ·exact wpAny_pure h
  ·exact wpAny_pure h
  ·refine wpAny_bind (wpAny_load g ?_)
   rw[hc];rcases o.data with⟨⟩ <;> first|exact wpAny_pure h|(dsimp only;rw[hn];exact wpAny_pure h)
 clear It g hc hn;rcases target with⟨⟩ <;> first|exact wpAny_pure h|exact key
structure Gb(γ:Type) where
 ob:Obj
 out:γ
 val:γ->V
 CR:Ph->Heap->Addr->γ->Prop
structure sd{γ:Type}(g:Gb γ):Prop where
 keep:∀{φ ψ:Ph} {h h':Heap} {D:Addr} {o:γ},g.CR φ h D o->φ.Le ψ->(∀p,h.get? D=some p->h'.get? D=some p)->g.CR ψ h' D o
 live:∀{φ:Ph} {h:Heap} {D:Addr} {o:γ},g.CR φ h D o->∃p,h.get? D=some p/\p.data≠ .plain/\∀ψ:Ph,φ.Le ψ->ψ.f D=some p->(D==sysModules)=false->VR ψ (g.val o) (.ref D)
 new:∀{φ:Ph} {h:Heap} {D:Addr},h.get? D=some g.ob->g.CR φ h D g.out
 nf:g.ob.isFreed=false
noncomputable def Av (k:Ks) (cenv:Env) (ns:List Str) {β γ:Type} (g:Gb γ) (D:Addr) (el:Sem Unit) (elt:En->Gs->Option (β×Gs)) (add:γ->β->Option γ):Prop:=∀(A:Around) (E:Value->Shared->Prop) (Q:Unit->Shared->Prop) (φ:Ph) (G:Gs) (s:Shared) (e:En) (y:β) (G':Gs) (o o':γ),
 kM k A cenv ns φ G s e->elt e G=some (y,G')->add o y=some o'->g.CR φ s.heap D o->lU k.B φ D->(∀az s',Step k.B (fun b=>b=D) φ s az G' s'->g.CR az s'.heap D o'->lU k.B az D->Q () s')->wpAny (model k.prog k.w) A el Q E s
noncomputable def XL (cenv:Env) (xs:List Str) (I D:Addr) (b:Addr):Prop:=b=I\/b=D\/∃x∈xs,St cenv x b
structure O1{γ:Type}(k:Ks)(cenv:Env)(ns xs:List Str)(I D:Addr)(KK:IK)(e:En)(g:Gb γ)(φ:Ph)(s:Shared)(kk:Nat)(zs:List SL)(o:γ):Prop where
 en:dY k.B cenv (xs++ns) φ (zs++e) s.heap
 z:∀z∈zs,(∃v,z= .v v)\/z= .no
 zl:zs.length=xs.length
 it:i7 k.B φ s.heap I KK kk
 fI:lU k.B φ I
 fD:lU k.B φ D
 d:g.CR φ s.heap D o
inductive CB{β γ:Type}(elt:En->Gs->Option (β×Gs))(add:γ->β->Option γ)(e:En)(W:γ->Gs->Prop)(out:γ):Bool->Gs->Prop
 |off{G:Gs}(h:W out G):CB elt add e W out false G
 |on{G:Gs}(u:β)(G3:Gs)(out':γ)(h1:elt e G=some (u,G3))(h2:add out u=some out')(h:W out' G3):CB elt add e W out true G
theorem uA{P:Prop}{β γ:Type}{K:IK}{tw:Bool}{test:En->Gs->Option (Bool×Gs)}{elt:En->Gs->Option (β×Gs)}{add:γ->β->Option γ}{e:En}{n k:Nat}{out:γ}{G:Gs}{z:γ×Gs}{v:V}(h:gQ K tw test elt add e (n+1) k out G=some z)(hn:aS K k=some v)
  (kk:∀zs t G2,front tw v=some zs->test (zs++e) G=some (t,G2)->CB elt add (zs++e) (fun out G=>gQ K tw test elt add e n (k+1) out G=some z) out t G2->P):P:=by
 have h:=elim_some hn h;refine bindC h fun zs' hz e1=>cF e1 fun t G2 e2 e1=>kk zs' t G2 hz e2 ?_;clear h hn kk hz e2;rcases t with _|_
 ·exact .off e1
 ·exact cF e1 fun u G3 e3 e1=>cF e1 fun out' G4 e4 e1=>gz e4 fun a4 q4=>.on u G3 out' e3 a4 (q4▸e1)
theorem uB{β γ:Type}{K:IK}{tw:Bool}{test:En->Gs->Option (Bool×Gs)}{elt:En->Gs->Option (β×Gs)}{add:γ->β->Option γ}{e:En}{n k:Nat}{out:γ}{G:Gs}{z:γ×Gs}(h:gQ K tw test elt add e (n+1) k out G=some z)(hn:aS K k=none):(out,G)=z:=by exact Option.some.inj (elim_none hn h)
theorem xU{β γ:Type}{g:Gb γ}(gk:sd g){target:Expr}{ifs:List Expr}{xs:List Str}{I D:Addr}{e:En}{l:List X}{f:Expr->Option X}{A:Around}{aO:Ph}{G1:Gs}{s1 s2:Shared}{KK:IK}{zs:List SL}{out:γ}{el:Sem Unit}{elt:En->Gs->Option (β×Gs)}{add:γ->β->Option γ}{n:Nat}{v:V}{cv:Value}{zs':List SL}{t:Bool}{G2:Gs}{W:γ->Gs->Prop}{E:Value->Shared->Prop}{Q:Unit->Shared->Prop}
  (tg:qm target xs)(hx:∀x∈xs,cenv.kindOf x=some .local\/cenv.kindOf x=some .cell)(plain:∀{zs:List SL},(∀z∈zs,(∃v,z= .v v)\/z= .no)->zs.length=xs.length->∀y i,ix (xs++ns) y=some i->cenv.kindOf y=some .local->(∃v,sl (zs++e) i= .v v)\/sl (zs++e) i= .no)
  (CG:I≠D)(Gd:I≠cenv.locals)(I9:D≠cenv.locals)(nI:∀x∈xs,¬St cenv x I)(nD:∀x∈xs,¬St cenv x D)(Mw:∀n c,cenv.cells.lookup n=some c->c≠I)(O2:∀n c,cenv.cells.lookup n=some c->c≠D)
  (hf:∀ex x',f ex=some x'->q7 k cenv (xs++ns) ex x')(he:Av k cenv (xs++ns) g D el elt add)(hl:aA f ifs=some l)(Ja:Rm k.B A (2*k.n+2)){kk:Nat}(L:O1 k cenv ns xs I D KK e g aO s1 kk zs out)
  (hv:VR aO v cv)(st2:Step k.B (fun b=>b=I) aO s1 aO G1 s2)(Mx:i7 k.B aO s2.heap I KK n)(hz:front (Nat.beq xs.length 2) v=some zs')(e2:jM k.T k.U l (zs'++e) G1=some (t,G2))(cb:CB elt add (zs'++e) W out t G2)
  (again:∀az G' zs o s',Step k.B (XL cenv xs I D) aO s1 az G' s'->O1 k cenv ns xs I D KK e g az s' n zs o->W o G'->Q () s'):Ga (model k.prog k.w) A target ifs (.ref I) cenv el E Q cv s2:=by
 refine vZ Mx ?_;have fr:=Au hz;have Qx:zs'.length=xs.length:=fr.2.trans tg.len;have zv:∀z∈zs',(∃v,z= .v v)\/z= .no:=fun z hz=>.inl (fr.1 z hz);have CH:dY k.B cenv (xs++ns) aO (zs++e) s2.heap:=L.en.step st2 (Ne.symm Gd) (fun b hb _=>noOwn (plain L.z L.zl) L.en b hb) fun n u' c u' u' h=>Mw n c h;refine bN (gk.live L.d) fun oD gD pD _=>?_;refine cJ (L.fD.step st2 gD (Ne.symm CG)) fun My O3=>?_;have d2:=gk.keep (h':=s2.heap) L.d (.refl _) fun p e=>(L.fD.step st2 e (Ne.symm CG)).2;refine DL tg Ja.h hx st2.inv CH L.zl hv hz fun s3 t3 I8=>?_;have Mz:=Mx.keep (h':=s3.heap) (.refl _) fun o e=>(L.fI.step t3 e fun bE=>av bE fun x hx q=>nI x hx q).2;have d3:=gk.keep (h':=s3.heap) d2 (.refl _) fun p e=>(My.step t3 e fun bE=>av bE fun x hx q=>nD x hx q).2;refine(vX hf hl).at (r:=t) (G':=G2) (e:=zs'++e) ⟨Ja,t3.inv,I8⟩ e2 fun t' Ql s4 ht t4=>?_
 (clear tg hx Gd nI nD Mw hf hl hv Mx hz e2 fr CH gD pD My O3 d2;subst ht)
 have Jb:Step k.B (XL cenv xs I D) aO s1 Ql G2 s4:=((st2.weak fun b q=>.inl q).trans (t3.weak fun b q=>.inr (.inr q))).trans (t4.weak fun b q=>q.elim);have K0:=Mz.keep (h':=s4.heap) t4.le fun o e=>(L.fI.step t4 e id).2;refine cU (Mz.fld) fun o3 VX SP _=>?_;refine cJ (L.fI.step t4 SP id) fun Qy Ui=>?_;refine av (gk.live d3) fun p3 Jc _=>?_;refine cJ (L.fD.step t4 Jc id) fun SS Uj=>?_;have d4:=gk.keep (h':=s4.heap) d3 t4.le fun p e=>(L.fD.step t4 e id).2;have vY:=I8.ru t4;clear gk L st2 t3 I8 Mz d3 SP Jc Uj;rcases cb with e1|⟨u,G3,out',e3,a4,e1⟩
 ·exact again Ql _ zs' out s4 Jb ⟨vY,zv,Qx,K0,Qy,SS,d4⟩ e1
 ·refine he A _ _ _ _ _ (zs'++e) u G3 out out' ⟨Ja,t4.inv,vY⟩ e3 a4 d4 SS fun MA s5 t5 d5 CI=>?_
  exact again MA G3 zs' out' s5 (Jb.trans (t5.weak fun b q=>.inr (.inl q))) ⟨vY.step t5 (Ne.symm I9) (fun b hb _=>noOwn (plain zv Qx) vY b hb) fun n u' c u' u' h=>O2 n c h,zv,Qx,K0.keep (h':=s5.heap) t5.le fun o e=>(Qy.step t5 e CG).2,(Qy.step t5 Ui CG).1,CI,d5⟩ e1
theorem xV(S:cD k){β γ:Type}{g:Gb γ}(gk:sd g){cx target iter:Expr}{ifs:List Expr}{xs:List Str}{I D:Addr}{e:En}{l:List X}{f:Expr->Option X}{R:Result->Shared->Prop}{A:Around}{o8:Ph}{G0 Ge:Gs}{s0:Shared}{KK:IK}{res:γ}{Qz:List SL}{el:Sem Unit}{elt:En->Gs->Option (β×Gs)}{add:γ->β->Option γ}
  (pc:qk k.prog k.w cx)(heq:compTurn cx 0 (.ref I) (.ref D) cenv=uz cx target iter ifs (.ref I) (.ref D) cenv el)(tg:qm target xs)(hx:∀x∈xs,cenv.kindOf x=some .local\/cenv.kindOf x=some .cell)(hloc:∀y i,ix (xs++ns) y=some i->cenv.kindOf y=some .local->i<xs.length)
  (CG:I≠D)(Gd:I≠cenv.locals)(I9:D≠cenv.locals)(nI:∀x∈xs,¬St cenv x I)(nD:∀x∈xs,¬St cenv x D)(Mw:∀n c,cenv.cells.lookup n=some c->c≠I)(O2:∀n c,cenv.cells.lookup n=some c->c≠D)
  (hf:∀ex x',f ex=some x'->q7 k cenv (xs++ns) ex x')(he:Av k cenv (xs++ns) g D el elt add)(hl:aA f ifs=some l)(Ja:Rm k.B A (2*k.n+2))(I0:Inv k.B o8 G0 s0)(L0:O1 k cenv ns xs I D KK e g o8 s0 0 Qz g.out)
  (ev:gQ KK (Nat.beq xs.length 2) (fun e=>jM k.T k.U l e) elt add e fuel 0 g.out G0=some (res,Ge))
  (hR:∀az s' h',Step k.B (XL cenv xs I D) o8 s0 az Ge s'->lU k.B az I->lU k.B az D->az.f cenv.locals=none->¬az.mu cenv.locals->g.CR az s'.heap D res->(∃m,s'.heap.Ns cenv.locals m)->(∀b o,b≠I->s'.heap.get? b=some o->h'.get? b=some o)->R (.ok .next) {s' with heap:=h'}):
  codeAny (model k.prog k.w) A (.compLoop cx 0 (.ref I) (.ref D) cenv) R s0:=by
 refine ql pc heq (fun nf s'=>∀P:Prop,(∀kk az G' zs o,Step k.B (XL cenv xs I D) o8 s0 az G' s'->O1 k cenv ns xs I D KK e g az s' kk zs o->gQ KK (Nat.beq xs.length 2) (fun e=>jM k.T k.U l e) elt add e nf kk o G'=some (res,Ge)->P)->P) (fun nf s1 h E Q again=>h _ fun kk aO G1 zs out st L mz=>?_) fuel fun P h=>h 0 o8 G0 Qz g.out (Step.refl I0) L0 ev;rcases nf with _|nf
 ·exact xa mz
 ·refine w_next S.hP Ja.h st.inv L.fI L.it (fun v cv s2 hn hv st2 Mx=>uA mz hn fun zs' t G2 hz e2 cb=>xU gk tg hx (fun hz hn y i hi hk=>hz _ (As (hn▸hloc y i hi hk))) CG Gd I9 nI nD Mw O2 hf he hl Ja L hv st2 Mx hz e2 cb fun az G' zs o s' t L w=>again nf s' (Nat.lt_succ_self _) fun P h=>h _ az G' zs o (st.trans t) L w) (fun h' hn hk=>?_)
  (clear S gk pc heq tg hx hloc CG Gd I9 nI nD Mw O2 hf he hl Ja I0 L0 ev h again;cases uB mz hn)
  exact bK (L.en.loc) fun m' hm'=>hR aO s1 h' st L.fI L.fD L.en.LF L.en.LM L.d ⟨m',hm'.nm⟩ hk
end
end Mine.Internal
end
noncomputable section
open PySem PySem.W PyProof.Rows
namespace Mine.Internal
theorem gE{ex:Expr}(h:iu ex=false)(env:Env)(x:Value):foldedSetIterable ex env x=pure x:=by rcases ex with⟨⟩ <;> first|rfl|exact xd h
section
variable{k:Ks}{ce:Env}{ns:List Str}
set_option tactic.hygienic true in
theorem kZ(S:cD k){β γ:Type}{g:Gb γ}(gk:sd g){cx target iter:Expr}{ifs:List Expr}{xs:List Str}{scope:Scope}{pp:Pos}{l:List X}{f:Expr->Option X}{use:Option (Value->Sem Unit)}{mk:Sem Value}{src:En->Cv}{el:Addr->Env->Sem Unit}{elt:En->Gs->Option (β×Gs)}{add:γ->β->Option γ}
  (Jd:∀{A:Around} {E:Value->Shared->Prop} {Q:Value->Shared->Prop} {s:Shared},Q (.ref s.heap.objs.size) {s with heap:=s.heap.push g.ob}->wpAny (model k.prog k.w) A mk Q E s)
  (pc:qk k.prog k.w cx)(hc:clausesOf cx=[⟨target,iter,ifs,0⟩])(heq:∀I D cenv,compTurn cx 0 (.ref I) (.ref D) cenv=uz cx target iter ifs (.ref I) (.ref D) cenv (el D cenv))
  (tg:qm target xs)(c:jx ce.scope scope ns xs)(hns:iu iter=false)(nN:Ev k VR ce ns (eval iter ce) src)
  (hf:∀C cs,∀ex x',f ex=some x'->q7 k (compEnvC scope cs C ce) (xs++ns) ex x')(he:∀C cs D,Av k (compEnvC scope cs C ce) (xs++ns) g D (el D (compEnvC scope cs C ce)) elt add)(hl:aA f ifs=some l)
  {A:Around}{E:Value->Shared->Prop}{Q:Value->Shared->Prop}{φ:Ph}{G G1:Gs}{s:Shared}{e:En}{v:V}{KK:IK}{res:γ}{G':Gs}(cu:kM k A ce ns φ G s e)(e1:src e G=some (v,G1))(e2:mh k.T v=some KK)
  (e3:gQ KK (Nat.beq xs.length 2) (fun e=>jM k.T k.U l e) elt add e fuel 0 g.out G1=some (res,G'))
  (hQ:∀D C az s5 m,VR az (g.val res) (.ref D)->Step k.B No φ s az G' s5->s.heap.get? C=none->lU k.B az C->s5.heap.Ns C m->compPost (model k.prog k.w) A E use Q (.ref D) C (.ok .next) s5):
  wpAny (model k.prog k.w) A (comprehension cx scope ce pp mk false (eval iter ce) use) Q E s:=by
 have h0:=o6 c cu.E;refine wpAny_comprehension_free (cl:=fG ce.cells scope.names []) hc (gE hns ce) (uu h0) c.kind c.nl ?_;refine nN.at cu e1 fun cv aO s1 h1 t1=>Aq S.hP S.O t1.inv h1 e2 fun it s2 st2 hit It=>Jd (xS ?_);generalize DM:s2.heap.push g.ob=H3;have z3:H3.objs.size=s2.heap.objs.size+1:=by rw[<-DM];exact Heap.size_push _ _
 have Jc:H3.get? s2.heap.objs.size=some g.ob:=by rw[<-DM];exact Heap.get?_push_size _ gk.nf
 have QA:∀b o,s2.heap.get? b=some o->H3.get? b=some o:=fun b o e=>by rw[<-DM];exact Heap.get?_push_of_some _ e
 generalize DN:pushCells (H3.push {cls:=.type "dict",dict:=none,data:=.dict #[]}) scope.names=h4;have O4:∀b o,H3.get? b=some o->h4.get? b=some o:=fun b o e=>by rw[<-DN];exact pushCells_keeps _ _ _ _ (Heap.get?_push_of_some _ e)
 have Je:h4.Ns H3.objs.size fun _=>none:=by rw[<-DN];exact(Heap.Ns.new H3 (.type "dict")).keeps (pushCells_keeps _ _)
 have Jb:Step k.B No aO s2 aO G1 {s2 with heap:=h4}:=Step.more st2.inv (fun b o e=>O4 b o (QA b o e)) (Nat.le_refl _);have Gf:∀d:Addr,s2.heap.objs.size<=d->s2.heap.get? d=none:=fun d hd=>by
  cases z:s2.heap.get? d with
  |none=>rfl
  |some o=>exact absurd (Heap.lt_size z) (Nat.not_lt.mpr hd)
 have Gg:s2.heap.objs.size<=H3.objs.size:=z3▸Nat.le_succ _;have CH:=(cu.step (t1.trans st2)).E;have vY:=CH.ru Jb;generalize hcs:cellsFrom (H3.objs.size+1) scope.names (fG ce.cells scope.names [])=cs;have se:∀y,(y,NameKind.cell)∈scope.names->∃d,cs.lookup y=some d/\h4.IsCell d none/\H3.objs.size<d:=fun y hy=>by have :=iT (y:=y) (lo:=H3.objs.size+1) (h:=H3.push {cls:=.type "dict",dict:=none,data:=.dict #[]}) (names:=scope.names) (acc:=fG ce.cells scope.names []) (by rw[Heap.size_push];exact Nat.le_refl _) hy;rw[Heap.size_push,hcs,DN]at this;exact this
 have MB:∀z d,(fG ce.cells scope.names []).lookup z=some d->d<s2.heap.objs.size:=fun z d hz=>by obtain⟨i,hi,hk,hl⟩:=vW c hz h0;obtain⟨a,q1,q2⟩:=CH.oh z i hi hk;obtain⟨v',⟨o,q3,_⟩,_⟩:=q2.v;rw[hl]at q1;(rename_i aH _ _;clear aH;revert q2 q3;apply af (q1);intro q2 q3);exact Heap.lt_size q3
 have fC:lU k.B aO H3.objs.size:=st2.inv.nM (Gf _ Gg);have inner:dY k.B (compEnvC scope cs H3.objs.size ce) (xs++ns) aO (KZ xs++e) h4:=vY.comp (cs:=cs) c fC Je (fun y hy=>by rw[<-hcs];exact fZ hy) fun y hy=>by refine bN (se y hy) fun d d1 d2 d3=>?_;exact⟨d,d1,d2,st2.inv.nM (Gf d (Nat.le_trans Gg (Nat.le_of_lt d3))),Nat.ne_of_gt d3,fun z hz=>absurd (MB z d hz) (Nat.not_lt.mpr (Nat.le_trans Gg (Nat.le_of_lt d3)))⟩
 have hx:∀x∈xs,(compEnvC scope cs H3.objs.size ce).kindOf x=some .local\/(compEnvC scope cs H3.objs.size ce).kindOf x=some .cell:=fun x hm=>by
  have kx:(compEnvC scope cs H3.objs.size ce).kindOf x=_:=bZ ce scope x;rcases c.loc x hm with q|q
  ·exact .inl (by rw[kx,q];rfl)
  ·exact .inr (by rw[kx,q];rfl)
 have Aw:∀x∈xs,∀b,St (compEnvC scope cs H3.objs.size ce) x b->H3.objs.size<=b:=fun x hm b hb=>by
  (clear Jd hns nN e1 e2 h1 DM DN Je vY;rcases hb with⟨_,rfl⟩|⟨q,hb⟩)
  ·exact Nat.le_refl _
  ·have hb:cs.lookup x=some b:=hb
   rcases c.loc x hm with w|w
   ·exact absurd ((bZ ce scope x).symm.trans q) (by rw[w];intro z;(rename_i aH;clear aH;cases z))
   ·obtain⟨d,d1,_,d3⟩:=se x (lookup_mem w)
    (rename_i aH _;clear aH;obtain rfl:=Option.some.inj (d1.symm.trans hb))
    exact Nat.le_of_lt d3
 refine cU (It.fld) fun oI fs gI dI=>?_;have o9:∀b,s2.heap.objs.size<=b->it≠b:=fun b hb q=>by rw[q,Gf b hb]at gI;exact xa gI
 have CG:=o9 _ (Nat.le_refl _);have Gd:=o9 _ Gg;have I9:s2.heap.objs.size≠H3.objs.size:=z3▸Nat.ne_of_lt (Nat.lt_succ_self _);have cells:∀n d,cs.lookup n=some d->(H3.objs.size<d)\/(d<s2.heap.objs.size/\∃v,s2.heap.IsCell d v):=fun n d hd=>by
  by_cases hy:(n,NameKind.cell)∈scope.names
  ·refine bN (se n hy) fun d' d1 _ d3=>?_
   (clear Jd hns nN e1 e2 h1 DM DN Je vY se;obtain rfl:=Option.some.inj (d1.symm.trans hd))
   exact .inl d3
  ·rw[<-hcs,fZ hy]at hd
   refine bN (vW c hd h0) fun i hi hk hl=>?_;refine av (CH.oh n i hi hk) fun a q1 q2=>?_
   (rename_i aH;clear aH;(clear Jd hns nN e1 e2 h0 h1 DM DN Je CH vY hcs se hy hi hk;obtain rfl:=Option.some.inj (q1.symm.trans hl)))
   exact .inr ⟨MB _ _ hd,q2.v.imp fun _ y=>y.1⟩
 have sj:∀b,s2.heap.objs.size<=b->s1.heap.get? b=none:=fun b hb=>st2.dead (Gf b hb);have loop:codeAny (model k.prog k.w) A (.compLoop cx 0 (.ref it) (.ref s2.heap.objs.size) (compEnvC scope cs H3.objs.size ce))
   (compPost (model k.prog k.w) A E use Q (.ref s2.heap.objs.size) H3.objs.size) {s2 with heap:=h4}:=by
  refine xV (cenv:=compEnvC scope cs H3.objs.size ce) (s0:={s2 with heap:=h4}) (o8:=aO) (Qz:=KZ xs) S gk pc (heq _ _ _) tg hx (r7 c) CG Gd I9 (fun x hm q=>o9 _ (Nat.le_trans Gg (Aw x hm _ q)) rfl) (fun x hm q=>Nat.not_lt.mpr (Aw x hm _ q) (z3▸Nat.lt_succ_self _)) (fun n d hd q=>?_) (fun n d hd q=>?_) (hf _ _) (he _ _ _) hl cu.R Jb.inv
   ⟨inner,fun z hz=>.inr ((List.mem_map.mp hz).elim fun _ q=>q.2.symm),List.length_map _,It.keep (.refl _) fun o e=>O4 _ _ (QA _ _ e),t1.inv.nM hit,st2.inv.nM (Gf _ (Nat.le_refl _)),gk.new (O4 _ _ Jc)⟩ e3 fun az s5 h5 SW Uk CI lf lm SX SY QB=>?_
  ·(clear Jd heq tg c hns nN hf he hl e1 e2 e3 h0 h1 DM Jc DN Je Gf CH vY hcs se MB inner hx;subst q)
   rcases cells n d hd with q|⟨_,v,o,q1,q2⟩
   ·exact o9 _ (Nat.le_trans Gg (Nat.le_of_lt q)) rfl
   ·obtain rfl:=Option.some.inj (q1.symm.trans gI)
    exact xi Data.ctorIdx (q2.symm.trans dI) rfl
  ·(clear Jd heq tg c hns nN hf he hl e1 e2 e3 h0 h1 DM Jc DN Je Gf CH vY hcs se MB inner hx gI dI o9;subst q)
   rcases cells n _ hd with q|q
   ·exact Nat.lt_asymm q (z3▸Nat.lt_succ_self _)
   ·exact Nat.lt_irrefl _ q.1
  ·refine bN (gk.live SX) fun ob O5 pD vD=>?_
   refine mE (SY) fun m5 oo es ep m1 m2=>?_;have t5:Step k.B No aO s1 az G' s5:=(st2.trans Jb).hide SW fun b hb=>.inr (by
    (clear Jd heq tg c hns nN hf he hl e1 e2 e3 h0 h1 st2 DM z3 Jc DN Je Jb Gf CH vY hcs se MB inner hx gI dI o9 cells SX SY;rcases hb with rfl|rfl|⟨x,hm,hb⟩)
    ·exact hit
    ·exact sj _ (Nat.le_refl _)
    ·exact sj _ (Nat.le_trans Gg (Aw x hm b hb)))
   have t6:Step k.B No aO s1 az G' {s5 with heap:=h5}:=t5.lose (g:=s5.gens) hit Uk SW.inv.gens QB t5.gk;have S0:h5.get? s2.heap.objs.size=some ob:=QB _ _ (Ne.symm CG) O5;have t7:Step k.B No aO s1 (az.put s2.heap.objs.size ob) G' {s5 with heap:=h5}:=Step.adopt t6 (sj _ (Nat.le_refl _)) CI.f CI.mu CI.tb CI.fr S0 id pD (fun _ _ _ e=>e) S0 (Nat.le_refl _);refine hQ _ _ _ _ m5 (vD _ (Ph.bD CI.f) aR (beq_eq_false_iff_ne.mpr fun q=>?_)) (t1.trans t7) (t1.dead (sj _ Gg)) ⟨(bQ (Ne.symm I9)).trans lf,lm,fC.tb,fC.fr⟩ ⟨oo,es,ep,QB _ _ (Ne.symm Gd) m1,m2⟩;obtain⟨o,ho⟩:=S.O.sys;have :=cu.I.kb _ _ ho;rw[<-q,t1.dead (sj _ (Nat.le_refl _))]at this;exact xa this
 exact oz pc hc rfl loop (qd (s:={s2 with heap:=h4}) loop (It.keep (h':=h4) (.refl _) fun o e=>O4 _ _ (QA _ _ e)))
noncomputable def Ax:Gb (List V):=⟨lo #[] 0,[],.list,fun φ h D l=>∃vs m,h.get? D=some (lo vs m)/\bz φ l vs.toList⟩
theorem sq:sd Ax:=
 ⟨fun x le k=>x.imp fun vs x=>x.imp fun m x=>⟨k _ x.1,x.2.mono le⟩,fun x=>x.elim fun vs x=>x.elim fun m x=>⟨_,x.1,(fun q=>xi Data.ctorIdx q rfl),fun ψ le e _=>⟨_,vs,m,rfl,e,x.2.mono le⟩⟩,fun e=>⟨#[],0,e,bz.nil⟩,rfl⟩
theorem Ay{ns:List Str}{cenv:Env}{D:Addr}{elt:Expr}{y:X}(hy:bC k cenv ns elt y):Av k cenv ns Ax D (do let _ <-call (.builtin "list.append") [.ref D,<-eval elt cenv]) (fun e=>aq k.T k.U y e) C0:=
 fun A E Q φ G s e v G' o o' c ev ea d fD kk=>ak ea fun hl ea=>by
  (rename_i aH;clear aH;revert kk;apply af (ea);intro kk)
  refine cU (d) fun vs m gD rD=>?_;refine wpAny_bind (hy.at c ev fun cu MA s5 h5 t5=>?_);refine cJ (fD.step t5 gD id) fun CI O5=>?_;have S1:=rD.mono t5.le;refine wpAny_bind (wpAny_list_append_plain ⟨m,O5⟩ (fun h' h1 h2=>wpAny_pure ?_) (by rw[S1.size];exact Nat.le_trans (Nat.le_of_lt hl) bG));refine bK (h1) fun m' h1=>?_;have t6:Step k.B (fun b=>b=D) MA s5 MA G' {s5 with heap:=h'}:=Step.bare t5.inv CI O5 h1 (fun bE=>gY bE fun _ _ q=>xi Data.ctorIdx q rfl) (fun q=>xi Data.ctorIdx q rfl) (fun b o hb e=>(h2.2 b hb).trans e) (Nat.le_refl _);exact kk MA _ ((t5.weak fun b q=>q.elim).trans t6) ⟨_,m',h1,by rw[Array.toList_push];exact S1.append (.one h5)⟩ CI
theorem Gh{tw:Bool}{y sx:X}{l:List X}{e:En}{G:Gs}{r:V}{G':Gs}{P:Prop}(ev:aq k.T k.U (.comp tw y sx l) e G=some (r,G'))
  (kk:∀v G1 KK res,aq k.T k.U sx e G=some (v,G1)->mh k.T v=some KK->gQ KK tw (fun e=>jM k.T k.U l e) (fun e=>aq k.T k.U y e) C0 e fuel 0 [] G1=some (res,G')->r= .list res->P):P:=
 cF ev fun v G1 e1 ev=>cF ev fun KK G2 e2 ev=>gz e2 fun QC q2=>cF ev fun res G3 e3 ev=>gz ev fun mz q3=>by
  (clear ev e2;subst q2 q3)
  exact kk v _ KK res e1 QC e3 (Option.some.inj mz).symm
theorem DO(S:cD k){elt target iter:Expr}{ifs:List Expr}{xs:List Str}{scope:Scope}{pos:Pos}{y sx:X}{l:List X}{f:Expr->Option X}(tg:qm target xs)
  (c:jx ce.scope scope ns xs)(hns:iu iter=false)(nN:bC k ce ns iter sx)
  (hf:∀C cs,∀ex x',f ex=some x'->Ok k (compEnvC scope cs C ce) (xs++ns) ex x')(hy:f elt=some y)(hl:aA f ifs=some l):
  bC k ce ns (.ListComp elt [⟨target,iter,ifs,0⟩] scope pos) (.comp (Nat.beq xs.length 2) y sx l):=fun A E Q φ G s e r G' cu ev kk=>Gh ev fun v G1 KK res e1 e2 e3 er=>by
 simp only[eval_ListComp];refine kZ S sq (fun h=>wpAny_newObj_type (T:="list") (data:=.seq ([]:List Value).toArray) h) ⟨fun u' u' _=>rfl,fun u' u' u' _=>rfl,fun u' u' _=>rfl,fun u' u' u' _=>rfl⟩ rfl (fun u' u' _=>rfl) tg c hns nN (fun C cs ex x' h=>(hf C cs ex x' h).2) (fun C cs D=>Ay (hf C cs _ _ hy).1) hl cu e1 e2 e3 fun D C az s5 m hv t hC fC hm=>⟨m,hm,fun h' hs=>?_⟩;exact kk _ _ _ (er▸hv) (t.lose (g:=s5.gens) hC fC t.inv.gens (fun b o hb e=>(hs.2 b hb).trans e) t.gk)
end
end Mine.Internal
end
noncomputable section
open PySem PySem.W PyProof.Rows
namespace Mine.Internal
/-! sets of strs -/
theorem eS.Az{P:Params}{n:Nat}{t:SetTable}(x:eS P n t):eS P n {t with plain:=false}:=⟨SetTable.fits_plain_off x.fits,x.led,x.mask,x.OT⟩
theorem eS.DP{P:Params}{n:Nat}{t:SetTable}(x:eS P n t)(h:n<=4):t.tooFull=false:=by
 have hf:=x.fits;unfold SetTable.fits at hf;rw[Bool.and_eq_true,beq_iff_eq]at hf
 delta SetTable.tooFull SetTable.fill
 simp only[x.OT,hf.1];have :=x.mask;simp;omega
theorem Jf{t:SetTable}(h:t.dummies=#[])(j:Nat):(t.put j).1.led=t.led/\(t.put j).1.mask=t.mask/\(t.put j).1.dummies=#[]:=by
 refine⟨rfl,rfl,?_⟩;unfold SetTable.put;dsimp only;rw[h];split
 ·rename_i q
  exact absurd q (by trivial)
 ·rfl
theorem qn{t:SetTable}(n:Nat)(h:t.dummies=#[])(hm:7<=t.mask)(hn:1<=n):(t.orStandIn n).led=t.led/\7<=(t.orStandIn n).mask/\(t.orStandIn n).dummies=#[]:=by
 unfold SetTable.orStandIn;split
 ·exact⟨rfl,hm,h⟩
 ·exact⟨rfl,by show 7<=4*n+4;omega,rfl⟩
set_option tactic.hygienic true in
theorem xW{P:Params}{t:SetTable}{es:Array (Int×Value)}(x:eS P es.size t)(h:Int)(v:Value):eS P (layNew t es h v).1.size (layNew t es h v).2.1:=by
 have MC:=layNew_fits t es h v;have key:(layNew t es h v).2.1.led=t.led/\7<=(layNew t es h v).2.1.mask/\(layNew t es h v).2.1.dummies=#[]:=by
  unfold layNew;split
  ·rename_i slot wd _
   refine cG (Jf x.OT slot) fun h1 h2 h3=>?_;have :=qn (t:=(t.put slot).1) (SetTable.insertAt es (t.put slot).2 (h,v)).size h3 (by rw[h2];exact x.mask) (by unfold SetTable.insertAt;simp;omega);simp only[h1]at this;exact this
  ·exact⟨rfl,by show 7<=4*(es.size+1)+4;omega,rfl⟩
 exact⟨MC,fun q=>by rw[key.1];exact x.led q,key.2.1,key.2.2⟩
section
variable{α β:Type}{R:α->β->Prop}
theorem cQ.app:∀{l l':List α} {m m':List β},cQ R l m->cQ R l' m'->cQ R (l++l') (m++m')
 |[],_,_,_,x,y=>by obtain rfl:=x;exact y
 |_::_,_,_,_,x,y=>by refine aI (x) fun c r QD a b=>?_;(clear x;subst QD);exact .cons a (b.app y)
theorem cQ.len:∀{l:List α} {m:List β},cQ R l m->l.length=m.length
 |[],_,x=>by obtain rfl:=x;rfl
 |_::_,_,x=>by refine aI (x) fun c r QE u' b=>?_;(clear x;subst QE);exact congrArg (· +1) b.len
theorem xX{l:List α}{m m':List β}(h:cQ R l m)(p:m.Perm m'):∃l',l'.Perm l/\cQ R l' m':=by
 induction p generalizing l with
 |nil=>exact⟨l,List.Perm.refl _,h⟩
 |cons x _ ih=>
  match l,h with
  |[],h=>exact xm h
  |a::l,⟨_,_,e,h1,h2⟩=>cases e;refine av (ih h2) fun l' q1 q2=>?_;exact⟨a::l',q1.cons _,.cons h1 q2⟩
 |swap x y m=>
  match l,h with
  |[],h=>exact xm h
  |[a],⟨_,_,e,h1,h2⟩=>cases e;exact xm h2
  |a::b::l,⟨_,_,e,h1,_,_,e',h2,h3⟩=>cases e;cases e';exact⟨b::a::l,List.Perm.swap _ _ _,.cons h2 (.cons h1 h3)⟩
 |trans _ _ ih1 ih2=>refine av (ih1 h) fun l1 h1 h2=>?_;refine av (ih2 h2) fun l2 h3 h4=>?_;exact⟨l2,h3.trans h1,h4⟩
end
section
variable{prog:Program}{w:World}{A:Around}{E:Value->Shared->Prop}{s:Shared}
theorem AA{Q:Value->Shared->Prop}(h:∀ob,l6 w.params [] ob->Q (.ref s.heap.objs.size) {s with heap:=s.heap.push ob}):wpAny (model prog w) A (newSet (.type "set")) Q E s:=by refine wpAny_bind (wpAny_bind (wpAny_askSetting (wpAny_pure ?_)));dsimp only;rw[newObj];refine wpAny_bind (wpAny_alloc (wpAny_pure (h _ ⟨[],#[],0,_,rfl,.nil,.nil,⟨rfl,fun hl=>?_,Nat.le_refl _,rfl⟩,fun h=>absurd rfl h⟩)));have :(model prog w).w.params.followText "set-order"=false:=hl;rw[this];rfl
theorem sy:∀{l:List Str} {es:List (Int×Value)},cQ (fun x (e:Int×Value)=>e.1=PyData.keyHash w.params x/\∃tk,e.2= .str x tk) l es->ElemsOf (strKind prog w) es
 |[],_,h=>by obtain rfl:=h;exact fun u' h=>nomatch h
 |x::_,_,⟨e,es,q,h,t⟩=>by
  subst q;intro y hy;rcases List.mem_cons.mp hy with rfl|hy
  ·refine tP (h) fun h1 tk h2=>?_
   exact⟨⟨x,by rw[h2];exact strKind_is prog w x tk,h1⟩,by rw[h2];rfl⟩
  ·exact sy t y hy
theorem nP{x:Str}:∀{l:List Str} {es:List (Int×Value)},cQ (fun x (e:Int×Value)=>e.1=PyData.keyHash w.params x/\∃tk,e.2= .str x tk) l es->x∉l->List.findIdx? (fun e=>(strKind prog w).is x e.2) es=none
 |[],_,h,_=>by obtain rfl:=h;rfl
 |y::_,_,⟨e,es,q,h,t⟩,hx=>by
  subst q;rw[List.mem_cons,not_or]at hx;rw[List.findIdx?_cons,nP t hx.2];refine tP (h) fun h1 tk h2=>?_;rw[h2];cases q:(strKind prog w).is x (Value.str y tk)with
  |false=>rfl
  |true=>exact absurd ((strKind prog w).inj _ _ _ q (strKind_is prog w y tk)) hx.1
theorem sA{a:Addr}{o:Obj}{xs:List Str}{x:Str}{tk:Tok}{Q:Bool->Shared->Prop}(ho:s.heap.get? a=some o)(r:l6 w.params xs o)(hx:x∉xs)(hl:xs.length<=3)
  (h:∀h' o',h'.get? a=some o'->l6 w.params (x::xs) o'->Heap.SameBut a s.heap h'->Q true {s with heap:=h'}):wpAny (model prog w) A (setAddHashed a (.str x tk) (PyData.keyHash w.params x)) Q E s:=by
 refine fJ (r) fun l es ep MD=>fH MD fun t QF hp hes tb hpl=>?_;clear MD;subst QF;have hn:es.size=xs.length:=by rw[<-Array.length_toList,<-hes.len,hp.length_eq]
 have hel:ElemsOf (strKind prog w) es.toList:=sy hes;have hkey:(strKind prog w).is x (Value.str x tk)=true:=strKind_is prog w x tk;have hb:es.size<scanBound:=by rw[hn];unfold scanBound;omega
 refine wpAny_holding (wpAny_bind (wpAny_setState_of ho rfl tb.fits ?_));dsimp only;rw[byScan_of (knd:=strKind prog w) rfl hb hel];simp only[↓reduceIte];refine wpAny_bind (wpAny_bind (wpAny_rule ?_));refine wpAny_bind (wpAny_setScan_of (knd:=strKind prog w) hkey ho rfl tb.fits hel ?_);refine w_eq (by rw[nP hes fun q=>hx (hp.mem_iff.mp q)]) ?_;have Ul:∀(b:Bool) {s₁:Shared} {Q':Unit->Shared->Prop},Q' () s₁->wpAny (model prog w) A (match b with|true=>rule "set.scan.the-table-gave-way"|false=>pure ()) Q' E s₁:=
  fun b s₁ Q' hq=>by rcases b with⟨⟩ <;> first|exact wpAny_pure hq|exact wpAny_rule hq
 have v5:=layNew_perm t es (PyData.keyHash w.params x) (.str x tk);have QG:=xW tb (PyData.keyHash w.params x) (.str x tk);generalize hL:layNew t es (PyData.keyHash w.params x) (.str x tk)=L at v5 QG⊢;obtain⟨es1,t1,wasDummy,Um⟩:=L;simp only[Array.toList_push]at v5;have hsz1:es1.size=xs.length+1:=by rw[<-Array.length_toList,v5.length_eq,List.length_append,Array.length_toList,hn];rfl
 -- iZ strs in S2 new order
 obtain⟨l1,hl1,hp1⟩:∃l1,cQ (fun x (e:Int×Value)=>e.1=PyData.keyHash w.params x/\∃tk,e.2= .str x tk) l1 es1.toList/\l1.Perm (x::xs):=by refine av (xX (hes.app (l':=[x]) (m':=[(PyData.keyHash w.params x,Value.str x tk)]) (.cons ⟨rfl,tk,rfl⟩ .nil)) v5.symm) fun l1 h1 h2=>?_;exact⟨l1,h2,h1.trans (List.perm_append_comm.trans (hp.cons x))⟩
 have fin:∀t2:SetTable,eS w.params es1.size t2->t2.plain=false->wpAny (model prog w) A (storeSet a es1 t2>>=fun _=>if(!wasDummy&&t2.tooFull)=true then(do(match(relayAll t2 es1 (SetTable.grown es1.size)).2.2 with|true=>rule "set.scan.the-table-gave-way"|false=>pure ());storeSet a (relayAll t2 es1 (SetTable.grown es1.size)).1 (relayAll t2 es1 (SetTable.grown es1.size)).2.1;pure (some true))else pure (some true))
   (fun r s'=>wpAny (model prog w) A (match r with|some added=>pure added|none=>setAddHashedIn a (.str x tk) (PyData.keyHash w.params x) 99999) Q E s') E s:=fun t2 Ip hp2=>by
  refine wpAny_bind (wpAny_storeSet_of ho rfl ?_ (by rw[hsz1,sizeLine_eq];omega));refine w_eq (by rw[Ip.DP (by rw[hsz1];omega),Bool.and_false,if_neg Bool.false_ne_true]) ?_;refine wpAny_pure (wpAny_pure ?_);refine h _ _ (Heap.get?_update_self (Obj.putSet es1 t2) ho (by rw[putSet_of es1 t2 rfl];rfl)) ?_ (Heap.SameBut.update ..);rw[putSet_of es1 t2 rfl];exact⟨l1,es1,ep+1,t2,rfl,hp1,hl1,Ip,fun _=>hp2⟩
 refine wpAny_bind (Ul _ ?_);split
 ·refine wpAny_bind ?_
  refine w_eq (hashByValue_scannable 8 rfl) ?_;refine wpAny_pure ?_;exact fin _ QG.Az rfl
 ·rename_i hpf
  refine wpAny_bind (wpAny_pure ?_);simp only[↓reduceIte];exact fin _ QG (by simpa using hpf)
theorem pe{a:Addr}{o:Obj}{xs:List Str}{x:Str}{tk:Tok}{Q:Bool->Shared->Prop}(ho:s.heap.get? a=some o)(r:l6 w.params xs o)(hx:x∉xs)(hl:xs.length<=3)
  (h:∀h' o' t,s.toks<=t->h'.get? a=some o'->l6 w.params (x::xs) o'->Heap.SameBut a s.heap h'->Q true {s with heap:=h',toks:=t}):wpAny (model prog w) A (setAdd a (.str x tk)) Q E s:=by
 unfold setAdd;refine wpAny_holding (wpAny_bind ((strKind prog w).pyHash (strKind_is prog w x tk) ?_));exact sA (s:={s with toks:=s.toks+1}) ho r hx hl fun h' o' h1 h2 h3=>h h' o' _ (Nat.le_succ _) h1 h2 h3
theorem xY{S I d:Addr}{ep:Nat}{kvs:List (Str×Value)}(hSI:S≠I)(hSd:S≠d)(hId:I≠d)(hh:A.handled=none){R:Result->Shared->Prop}:∀(m i:Nat) (s:Shared) (cur:List Str) (o:Obj),kvs.length -i=m->i<=kvs.length->
  s.heap.IsKeyIter I d i kvs.length ep->s.heap.DictAt (strKind prog w) d kvs ep->s.heap.get? S=some o->l6 w.params cur o->(∀x∈(kvs.drop i).map (·.1),x∉cur)->((kvs.drop i).map (·.1)).Nodup->cur.length+m<=4->
  (∀h' tk o',s.toks<=tk->h'.get? S=some o'->l6 w.params (((kvs.drop i).map (·.1)).reverse++cur) o'->(∀b ob,b≠S->b≠I->s.heap.get? b=some ob->h'.get? b=some ob)->R (.ok (.ret .none)) {s with heap:=h',toks:=tk})->
  codeAny (model prog w) A (.builtin "set.update.loop" ⟨[.ref S,.ref I],[]⟩) R s:=by
 intro m
 induction m with
 |zero=>
  intro i s cur o hm hi hit hd ho r hn hnd hl hR;have he:i=kvs.length:=by omega
  refine codeAny_builtin PyProof.Rows.F.entry_set_update_loop ?_;rw[Around.under_plainId PyProof.Rows.F.plain_set_update_loop _];refine wpAny_bind (wpAny_pyNext_dict_end (knd:=strKind prog w) (kvs:=kvs) hh hit hd (by rw[he];simp) fun h' hx=>?_);refine wpAny_pure (hR h' s.toks o (Nat.le_refl _) (hx S o hSI ho) ?_ fun b ob u' h2 e=>hx b ob h2 e);rw[he,List.drop_length];exact r
 |succ m ih=>
  intro i s cur o hm hi hit hd ho r hn hnd hl hR;have hlt:i<kvs.length:=by omega
  obtain⟨⟨k,v⟩,hkv⟩:∃p,kvs[i]?=some p:=⟨_,List.getElem?_eq_getElem hlt⟩;have hdr:kvs.drop i=(k,v)::kvs.drop (i+1):=by rw[List.drop_eq_getElem_cons hlt];rw[List.getElem?_eq_getElem hlt]at hkv;rw[Option.some.inj hkv]
  rw[hdr]at hn hnd hR;rw[List.map_cons,List.nodup_cons]at hnd;refine codeAny_builtin PyProof.Rows.F.entry_set_update_loop ?_;rw[Around.under_plainId PyProof.Rows.F.plain_set_update_loop _];refine wpAny_bind (wpAny_pyNext_dict_item (knd:=strKind prog w) hit hd hkv fun key h1 hk Jg hs1=>?_);refine bK (Value.isStrOf_shape hk) fun tk Ih=>?_;subst Ih;refine wpAny_bind (wpAny_holding ?_);have e1:∀b ob,b≠I->s.heap.get? b=some ob->h1.get? b=some ob:=fun b ob hb e=>(hs1.2 b hb).trans e;refine pe (s:={s with heap:=h1}) (e1 S o hSI ho) r (hn k (by simp)) (by omega) fun h2 o2 t ht g2 r2 hs2=>?_;have e2:∀b ob,b≠S->h1.get? b=some ob->h2.get? b=some ob:=fun b ob hb e=>(hs2.2 b hb).trans e;have hd1:h1.DictAt (strKind prog w) d kvs ep:=let⟨od,es,q⟩:=hd;⟨od,es,e1 d _ (Ne.symm hId) q.1,q.2⟩;refine wpAny_pure ⟨plainId_quiet PyProof.Rows.F.plain_set_update_loop _,?_⟩;refine ih (i+1) {s with heap:=h2,toks:=t} (k::cur) o2 (by omega) hlt ?_ ?_ g2 r2 (fun x hx hc=>?_) hnd.2 (by simp only[List.length_cons];omega) fun h' tk' o' ht' g' r' e'=>?_
  ·refine av (Jg) fun oi q1 q2=>?_
   exact⟨oi,e2 I oi (Ne.symm hSI) q1,q2⟩
  ·refine cU (hd1) fun od es q1 q2=>?_
   exact⟨od,es,e2 d od (Ne.symm hSd) q1,q2⟩
  ·rcases List.mem_cons.mp hc with rfl|hc
   ·exact hnd.1 hx
   ·exact hn x (by rw[List.map_cons];exact List.mem_cons_of_mem _ hx) hc
  ·refine hR h' tk' o' (Nat.le_trans ht ht') g' ?_ fun b ob b1 b2 e=>e' b ob b1 b2 (e2 b ob b1 (e1 b ob b2 e))
   have :((((k,v)::kvs.drop (i+1)).map (·.1)).reverse++cur)=((kvs.drop (i+1)).map (·.1)).reverse++k::cur:=by simp
   rw[this];exact r'
theorem Jh{f:Nat->PUnit->Sem (ForInStep PUnit)}:(forIn [:0] PUnit.unit f:Sem PUnit)=pure PUnit.unit:=by
 first
  |rfl
  |rw[Std.Legacy.Range.forIn_eq_forIn_range'];rfl
theorem Ji{f:Nat->PUnit->Sem (ForInStep PUnit)}:(forIn [:1] PUnit.unit f:Sem PUnit)=(do match<-f 0 PUnit.unit with| .done b=>pure b| .yield b=>pure b):=by
 first
  |rfl
  |(simp[Std.Legacy.Range.forIn_eq_forIn_range'];congr 1;funext x;rcases x with⟨⟩ <;> rfl)
theorem sub_dict_set:isSubtype (.type "dict") (.type "set")=pure false:=by rw[isSubtype_type];kernel_rfl
theorem sub_dict_frozenset:isSubtype (.type "dict") (.type "frozenset")=pure false:=by rw[isSubtype_type];kernel_rfl
theorem Jj{S d:Addr}{ep:Nat}{kvs:List (Str×Value)}{cur:List Str}{o:Obj}{Q:Unit->Shared->Prop}(hSd:S≠d)(hds:(d==sysModules)=false)(hh:A.handled=none)(hd:s.heap.DictAt (strKind prog w) d kvs ep)(ho:s.heap.get? S=some o)(r:l6 w.params cur o)
  (hn:∀x∈kvs.map (·.1),x∉cur)(hl:cur.length<=2)(h1:kvs.length<=1)
  (h:∀h' tk o',s.toks<=tk->h'.get? S=some o'->l6 w.params ((kvs.map (·.1)).reverse++cur) o'->(∀b ob,b≠S->s.heap.get? b=some ob->h'.get? b=some ob)->Q () {s with heap:=h',toks:=tk}):
  wpAny (model prog w) A (setDisplayStar S (.ref d)) Q E s:=by
 have hT:s.TypeIs (.ref d) "dict":=hd.dictOf.typeIs;refine gY (id hd) fun od es ME=>dg ME fun g1 g2 g3 g4 g5 hnd=>?_;clear ME;have hnS:S<s.heap.objs.size:=Heap.lt_size ho;have hnd':d<s.heap.objs.size:=Heap.lt_size g1;refine wpAny_bind (wpAny_isInstance hT sub_dict_set ?_);rw[if_neg Bool.false_ne_true];refine wpAny_bind (wpAny_isInstance hT sub_dict_frozenset ?_);refine wpAny_bind (wpAny_askSetting ?_);dsimp only;rcases(model prog w).w.params.followText "set-display-star-reads-storage" with _|_
 ·simp only[Bool.false_eq_true, ↓reduceIte]
  refine wpAny_bind (wpAny_typeOf hT ?_);rw[if_pos (by decide)];refine wpAny_bind (wpAny_rule ?_);rw[if_neg (by rw[hds];exact Bool.false_ne_true)];refine wpAny_bind (wpAny_dictEpoch g1 g3 ?_);refine wpAny_bind (wpAny_dictEntries g1 g3 ?_);have ho':=ho;refine fJ (id r) fun l Un VY MF=>fH MF fun t QH hp hes tb hpl=>?_;clear MF;subst QH;have hn0:Un.size=cur.length:=by rw[<-Array.length_toList,<-hes.len,hp.length_eq]
  have hz:es.size=kvs.length:=by rw[<-Array.length_toList];exact g5.length
  have hroom:t.roomFor es.size=none:=by
   have hf:=tb.fits;unfold SetTable.fits at hf;rw[Bool.and_eq_true,beq_iff_eq]at hf
   delta SetTable.roomFor SetTable.fill
   rw[tb.OT,hf.1];have :=tb.mask;rw[if_neg (by simp;omega)]
  refine wpAny_bind (wpAny_bind (wpAny_setState_of ho rfl tb.fits ?_));simp only[hroom];refine wpAny_pure ?_;rcases kvs with _|⟨kv,kvs⟩
  ·have :es.size=0:=hz
   rw[this];rw[Jh];refine wpAny_bind (wpAny_pure (wpAny_pure ?_));exact h s.heap s.toks _ (Nat.le_refl _) ho' r fun b ob u' e=>e
  ·have :es.size=1:=by rw[hz];simp at h1⊢;exact h1
   rw[this];rw[Ji];have hkv:kvs=[]:=by
    rcases kvs with _|⟨_,_⟩
    ·rfl
    ·simp at h1
   subst hkv;obtain⟨k,v⟩:=kv;obtain⟨e0,O6⟩:∃e0,es.toList=[e0]:=by
    have :=g5.length
    match hq:es.toList with
    |[]=>rw[hq]at this;simp at this
    |[e0]=>exact⟨e0,rfl⟩
    |_::_::_=>rw[hq]at this;simp at this
   have QI:es=#[e0]:=by rw[<-Array.toArray_toList (xs:=es),O6]
   subst QI;cases g5 with
   |cons hk hv _=>
    refine bK (Value.isStrOf_shape hk) fun tk hkey=>?_;have MG:e0.hash=PyData.keyHash w.params k:=by obtain⟨k',q1,q2⟩:=g4 e0 (by simp);have :=(strKind prog w).inj _ _ _ q1 hk;subst this;exact q2
    refine wpAny_bind (wpAny_bind (wpAny_bind (wpAny_dictEntries g1 g3 ?_)));show wpAny _ _ (holding [e0.key] (setAddHashed S e0.key e0.hash>>=fun _=>pure ())>>=_) _ _ _;rw[hkey,MG];refine wpAny_bind (wpAny_holding (wpAny_bind (sA ho' r (hn k (by simp)) (by omega) fun h' o' q1 q2 q3=>wpAny_pure ?_)));refine wpAny_bind (wpAny_dictEpoch ((q3.2 d (Ne.symm hSd)).trans g1) g3 ?_);rw[if_neg (by simp)];refine wpAny_pure (wpAny_pure (wpAny_pure ?_));exact h h' s.toks o' (Nat.le_refl _) q1 q2 fun b ob hb e=>(q3.2 b hb).trans e
 ·simp only[↓reduceIte]
  refine wpAny_bind (wpAny_pyIter_dict hds hd ?_);refine wpAny_bind (wpAny_runValue ?_);have g0:(s.heap.push {cls:=.type "dict_keyiterator",data:=.fields #[.ref d,.int 0 0,.int kvs.length 0,.int ep 0]}).get? S=some o:=Heap.get?_push_of_some _ ho;refine xY (Nat.ne_of_lt hnS) hSd (Nat.ne_of_gt hnd') hh (kvs.length -0) 0 _ cur o rfl (Nat.zero_le _)
   ⟨_,Heap.get?_push_size _ rfl,rfl,rfl⟩ ⟨od,es,Heap.get?_push_of_some _ g1,g2,g3,g4,g5,hnd⟩ g0 r (by simpa using hn) (by simpa using hnd) (by omega) fun h' tk o' ht g' r' e'=>?_
  refine wpAny_pure (h h' tk o' ht g' (by simpa using r') fun b ob hb e=>e' b ob hb (fun q=>?_) (Heap.get?_push_of_some _ e));exact Nat.lt_irrefl _ (q▸Heap.lt_size e)
end
end Mine.Internal
end
noncomputable section
open PySem PySem.W PyProof.Rows
set_option backward.match.sparseCases false
namespace Mine.Internal
theorem pg{v:V}{l:List (Str×V)}(h:tY v=some l):v= .dict l:=tells (P:=fun l=>v= .dict l) (by rcases v with⟨⟩ <;> first|rfl|trivial) h
theorem k9{α:Type}{x:Str}:∀{es:List (Str×α)},look es x=none->x∉es.map (·.1)
 |[],_=>List.not_mem_nil
 |e::es,h=>by
  rw[iQ]at h;by_cases q:e.1=x
  ·rw[if_pos q]at h;exact xb h
  ·rw[if_neg q]at h
   rw[List.map_cons,List.mem_cons,not_or];exact⟨Ne.symm q,k9 h⟩
theorem Jk{α:Type}{l:List α}(h:l.length<=1):l.Nodup:=by
 match l,h with
 |[],_=>exact List.nodup_nil
 |[a],_=>exact List.nodup_cons.mpr ⟨List.not_mem_nil,List.nodup_nil⟩
theorem QJ{α:Type}{l:List α}(h:l.length<=1):l.reverse=l:=by
 match l,h with
 |[],_=>rfl
 |[a],_=>rfl
section
variable{k:Ks}{ce:Env}{ns:List Str}
theorem Jl{M:Model}{A:Around}{E:Value->Shared->Prop}{s:Shared}{env:Env}{q:Str}{Q:Bool->Shared->Prop}(hc:s.heap.CodeRec env.code q)(h:∀b,Q b s):wpAny M A (inMainModule env) Q E s:=by
 obtain⟨c,o,vs,t,e,ho,hd,_⟩:=hc;unfold inMainModule
 try dsimp only
 rw[e];split
 ·exact wpAny_pure (h _)
 ·refine wpAny_bind (wpAny_fieldsOf ho hd ?_)
  split
  ·exact wpAny_bind (wpAny_askSetting (wpAny_pure (h _)))
  ·exact wpAny_pure (h _)
theorem pn{α:Type}{x:α}{f:α->PUnit->Sem (ForInStep PUnit)}:(forIn [x] PUnit.unit f:Sem PUnit)=(f x PUnit.unit>>=fun r=>match r with| .done b=>pure b| .yield b=>pure b):=by rw[List.forIn_cons];congr 1;funext r;rcases r with⟨⟩ <;> rfl
theorem xZ{P:Params}{xs:List Str}{o:Obj}(h:l6 P xs o):∃es ep t,o.data= .set es ep t:=h.elim fun u' h=>h.elim fun es h=>h.elim fun ep h=>h.elim fun t h=>⟨es,ep,t,by rw[h.1]⟩
theorem DQ(S:cD k){a b:Expr}{bp pos:Pos}{x y:X}(ha:noStar a=true)(hx:bC k ce ns a x)(hy:bC k ce ns b y):bC k ce ns (.Set [a,.Starred b bp] 0 pos) (.CT x y):=fun A E Q φ G s e r G' c ev kk=>cF ev fun va G1 e1 ev=>cF ev fun vb G2 e2 ev=>gz ev fun ev q=>bindC ev fun v hv ev=>bindC ev fun es he ev=>ak ev fun cc ev=>by
 (rename_i aH bI bS eN i6 DR;clear aH bI bS eN i6 DR;revert kk;apply af (ev);intro kk)
 (clear ev;subst q)
 rw[bh hv]at e1;rw[pg he]at e2;simp only[arm_eval_Set];refine av (c.E.cd) fun cq QK _=>?_;refine wpAny_bind (wpAny_standAt (wpAny_bind (Jl (QK.keeps c.I.kb) fun bm=>?_)));have hse:starEach [a,.Starred b bp] ce=[(false,eval a ce),(true,eval b ce)]:=by have :=o5 ce ha [.Starred b bp];rw[this];rfl
 rw[hse];unfold setDisplay
 try dsimp only
 rw[show displayRoad 0 [a,.Starred b bp]=DisplayRoad.oneByOne from rfl];rw[if_neg (by decide)];refine wpAny_bind (AA fun ob hob=>?_);refine wpAny_bind (wpAny_holding ?_);have hS:=Inv.bL s;have fS:=c.I.nM hS;have t0:Step k.B No φ s φ G {s with heap:=s.heap.push ob}:=Step.push c.I ob (Nat.le_refl _);have g0:(s.heap.push ob).get? s.heap.objs.size=some ob:=Heap.get?_push_size _ (by(clear ha hv he QK hse;obtain⟨_,_,_,_,h,_⟩:=hob);rw[h];rfl);show wpAny _ _ (evalAll [eval a ce>>=fun v=>standAt pos>>=fun _=>pure v] >>=_) _ _ _;refine wpAny_bind ?_;refine wpAny_bind (wpAny_bind (hx.at (c.step t0) e1 fun cv aO s1 h1 t1=>?_));refine bK (h1) fun tk Ds=>?_;(clear ha hx e1 hv he QK hse h1;subst Ds);refine wpAny_bind (wpAny_standAt (wpAny_pure ?_));refine wpAny_bind (wpAny_holding (wpAny_pure (wpAny_pure ?_)));refine wpAny_bind (wpAny_holding ?_);rw[pn];refine cJ (fS.step t1 g0 id) fun f1 k1=>?_;refine wq fun Qw Ew Uo _=>?_;refine wpAny_bind (wpAny_bind (wpAny_bind (pe (xs:=[]) k1 (S.hP▸hob) List.not_mem_nil (Nat.zero_le _) fun h2 o2 t2 K1 g2 Jm hs2=>wpAny_pure (wpAny_pure ?_))));refine w_eq (if_neg (by decide)) ?_;refine wpAny_pure ?_;refine Uo _ _ ?_;show wpAny _ _ (forIn [((true,eval b ce>>=fun v=>standAt pos>>=fun _=>pure v):Bool×Sem Value)] PUnit.unit _>>=_) _ _ _;have nd:∀{o:Obj} {xs:List Str},l6 k.w.params xs o->¬eB o/\o.data≠ .plain:=fun h=>let⟨_,_,_,h⟩:=xZ h;⟨fun bE=>gY bE fun _ _ q=>(xi Data.ctorIdx (h.symm.trans q) rfl),fun q=>xi Data.ctorIdx (h.symm.trans q) rfl⟩;have tS:=Step.bare (t:=t2) t1.inv f1 k1 g2 (fun q=>absurd q (nd hob).1) (nd hob).2 (fun b o hb e=>(hs2.2 b hb).trans e) K1;have T2:=(t0.trans t1).hide tS fun b hb=>.inr (hb▸hS);rw[pn];refine wpAny_bind (wpAny_bind ?_);refine wpAny_bind (wpAny_bind (m:=eval b ce) (hy.at (c.step T2) e2 fun cd uq s3 h3 t3=>wpAny_bind (wpAny_standAt (wpAny_pure ?_))));refine w_eq (if_pos rfl) ?_;refine cJ (f1.step t3 g2 id) fun f3 k3=>?_;refine bw (h3) fun ad ds m QL hds gd rl=>?_;subst QL;have hlen:(es.map (·.1)).length<=1:=by rw[List.length_map];exact cc.1
 refine av (cY (prog:=k.prog) (t3.inv.P.trans S.hP) (t3.inv.keep _ _ gd) rl (Jk hlen)) fun kvs dd rk=>?_;refine wpAny_bind (wpAny_holding ?_);refine Jj (fun z=>by rw[<-z,f3.f]at gd;exact xa gd) hds c.R.h dd k3 Jm (fun z hz hm=>?_) (Nat.le_succ _) (by rw[rk.len];exact cc.1) fun h' tk' o' ht q1 q2 q3=>wpAny_pure (wpAny_pure (wpAny_pure (wpAny_pure ?_)))
 ·simp only[rk.keys,List.mem_singleton.mp hm]at hz
  exact k9 (Option.isNone_iff_eq_none.mp cc.2) hz
 ·have X3:=T2.trans t3
  refine kk _ _ _ ?_ (X3.adopt hS f3.f f3.mu f3.tb f3.fr k3 (fun q=>absurd q (nd Jm).1) (nd Jm).2 q3 q1 ht);refine⟨_,o',rfl,aR,?_⟩;rw[rk.keys,QJ hlen]at q2;exact(X3.inv.P.trans S.hP).symm▸q2
/-! sets of known strs -/
theorem v7{P:Params}{prog:Program}{w:World}(hP:P=w.params){h:Heap}{a:Addr}{ob:Obj}{xs:List Str}(g:h.get? a=some ob)(r:rt P xs ob)(hl:xs.length<=8):∃m,m<=xs.length/\h.SetOf (strKind prog w) a (fun k=>decide (k∈xs)) m:=by
 refine gY (r) fun es ep MH=>fH MH fun t QM h1 h2 h3 h4=>?_;clear MH;subst QM;refine⟨es.size,h3,_,es,ep,t,g,⟨rfl,rfl,rfl⟩,rfl,fun e he=>?_,fun k=>?_,by unfold scanBound;omega,h4,rfl⟩
 ·refine cU (h1 e he) fun k tk e1 e2=>?_
  exact⟨⟨k,by rw[e1];exact strKind_is prog w k tk,by rw[e2,hP];rfl⟩,by rw[e1];rfl⟩
 ·rw[decide_eq_true_iff,h2]
  constructor
  ·rintro⟨e,he,tk,e1⟩
   exact⟨e,he,by rw[e1];exact strKind_is prog w k tk⟩
  ·rintro⟨e,he,e1⟩
   refine bK (Value.isStrOf_shape e1) fun tk e2=>?_;exact⟨e,he,tk,e2⟩
theorem DS{P:Params}{prog:Program}{w:World}(hP:P=w.params){h:Heap}{a:Addr}{xs:List Str}{S:Str->Bool}{m:Nat}(x:h.SetOf (strKind prog w) a S m)(hS:∀k,S k=true↔k∈xs)(hm:m<=xs.length):∃ob,h.get? a=some ob/\rt P xs ob:=by
 refine iO (x) fun o es ep t g Jo hd MI=>jo MI fun hel hmem u' hf hn=>?_;clear MI;refine cG (Jo) fun c1 c2 c3=>?_;refine⟨o,g,es,ep,t,?_,fun e he=>?_,fun k=>?_,by omega,hf⟩
 ·rcases o with⟨⟩;simp only at c1 c2 c3 hd;(clear x hm hf hn g Jo;subst c1 c2 c3 hd);rfl
 ·refine cJ (hel e he) fun Ic _=>?_;(clear x hm g Jo hd hel hf hn c1 c2 c3;obtain⟨k,e1,e2⟩:=Ic)
  refine bK (Value.isStrOf_shape e1) fun tk e3=>?_;exact⟨k,tk,e3,by rw[e2,hP];rfl⟩
 ·rw[<-hS k,hmem]
  constructor
  ·rintro⟨e,he,e1⟩
   refine bK (Value.isStrOf_shape e1) fun tk e2=>?_;exact⟨e,he,tk,e2⟩
  ·rintro⟨e,he,tk,e1⟩
   exact⟨e,he,by rw[e1];exact strKind_is prog w k tk⟩
theorem MJ{α:Type}{P:Prop}{z:SL}{f:List Str->Option α}{r:α}(h:(match z with| .yL xs=>f xs|_=>none)=some r)(kk:∀xs,z= .yL xs->f xs=some r->P):P:=by
 rcases z with _|_|_|⟨_,_⟩|⟨_,_⟩|xs
 ·exact xa h
 ·exact xa h
 ·exact xa h
 ·exact xa h
 ·exact xa h
 ·exact kk xs rfl h
theorem v8(S:cD k){l:Expr}{a:X}{x:Str}{p:Pos}{i:Nat}(hp:ao x=true)(hk:ce.kindOf x=some .local)(hi:ix ns x=some i)(ha:bC k ce ns l a){A:Around}{E:Value->Shared->Prop}{Q:Value->Shared->Prop}{φ:Ph}{G G':Gs}{s:Shared}{e:En}{r:V}
  (c:kM k A ce ns φ G s e)(ev:aq k.T k.U (.xB a i) e G=some (r,G'))(kk:∀b az s',r= .c (.bool b)->Step k.B No φ s az G' s'->Q (.bool b) s'):
  wpAny (model k.prog k.w) A (eval l ce) (fun cx s1=>wpAny (model k.prog k.w) A (eval (.Name x p) ce) (fun cy s2=>wpAny (model k.prog k.w) A (compareOp .NotIn cx cy) Q E s2) E s1) E s:=
 cF ev fun v G1 e1 ev=>gz ev fun ev q=>MJ (f:=fun xs=>Lu v xs) ev fun xs hz ev=>bindC ev fun t ht ev=>ak ev fun hl ev=>ha.at c e1 fun cx aO s1 h1 t1=>by
  (rename_i aH bI bS eN i6;clear aH bI bS eN i6;revert kk;apply af (ev);intro kk)
  rw[bh ht]at h1;refine bK (h1) fun tk Ie=>?_;(clear ha e1 ht ev h1;subst Ie);have E1:=(c.step t1).E;refine bK (E1.loc) fun m hm=>?_;have sr:=hm.sr x i hi hk;simp only[hz]at sr;refine bu (sr) fun ad ob m1 o1 g hob=>?_;refine wpAny_Name (wpAny_loadName_local E1.kind hk hm.nm m1 ?_) (ai hp).1;refine av (v7 (prog:=k.prog) (t1.inv.P.trans S.hP) g hob hl) fun n _ hS=>?_;refine wpAny_notInSet_of (strKind_is k.prog k.w t tk) rfl hS (kk _ _ _ ?_ (q▸t1.trans (Step.toks t1.inv (Nat.le_succ _))));congr 2;rw[Bool.eq_iff_iff];simp
end
end Mine.Internal
end
noncomputable section
open PySem PySem.W PyProof.Rows
namespace Mine.Internal
theorem DT{vs:List Value}(h:vs.length<2):(vs.toArray.zip vs.toArray).map (·.2)=vs.toArray:=by
 rcases vs with _|⟨v,r⟩
 ·simp
 ·rcases r with _|⟨u,r⟩
  ·simp
  ·exact absurd h (Nat.not_lt_of_le (Nat.le_add_left 2 _))
section
variable{prog:Program}{w:World}{A:Around}{E:Value->Shared->Prop}{s:Shared}{vs:List Value}
theorem AB{a:Addr}{n:Nat}{P:PySem.Fin->Shared->Prop}(ho:s.heap.get? a=some (seqObj "list" vs.toArray n))(h2:vs.length<2)
  (h:∀h' c,(∀b o,b≠a->s.heap.get? b=some o->h'.get? b=some o)->h'.get? a=some (seqObj "list" vs.toArray c)->P (.done (.ret .none)) {s with heap:=h'}):
  wpAny (model prog w) A (Builtin.«list.sort» ⟨[.ref a],[]⟩) P E s:=by
 have s1:=Heap.SameBut.update s.heap a (Obj.mapSeq fun _=>(#[]:Array Value));obtain⟨e1,Dn⟩:∃e1,(s.heap.update a (Obj.mapSeq fun _=>(#[]:Array Value))).get? a=some (seqObj "list" #[] e1):=⟨_,get?_update_seq ho fun _=>#[]⟩;rw[list_sort_plain];refine wpAny_bind (listItems_at ho rfl ?_);refine wpAny_bind (listUpdate_at ho rfl ?_ (by rw[List.size_toArray,sizeLine_eq];omega) (Nat.zero_le _));refine wpAny_bind (seqEpoch_at Dn rfl ?_);refine wpAny_bind (wpAny_newTuple ?_ (by show vs.length<=_;rw[sizeLine_eq];omega));refine wpAny_bind (wpAny_newList ?_ (Nat.zero_le _));refine wpAny_holding ?_;show wpAny (model prog w) A _ P E {s with heap:=((s.heap.update a (Obj.mapSeq fun _=>(#[]:Array Value))).push (seqObj "tuple" vs.toArray 0)).push (seqObj "list" #[] 0)};have k3:∀b o,b≠a->s.heap.get? b=some o->(((s.heap.update a (Obj.mapSeq fun _=>(#[]:Array Value))).push (seqObj "tuple" vs.toArray 0)).push (seqObj "list" #[] 0)).get? b=some o:=fun b o hb e=>
  Heap.get?_push_of_some _ (Heap.get?_push_of_some _ ((s1.2 b hb).trans e))
 have F7:(((s.heap.update a (Obj.mapSeq fun _=>(#[]:Array Value))).push (seqObj "tuple" vs.toArray 0)).push (seqObj "list" #[] 0)).get? a=some (seqObj "list" #[] e1):=Heap.get?_push_of_some _ (Heap.get?_push_of_some _ Dn);generalize ((s.heap.update a (Obj.mapSeq fun _=>(#[]:Array Value))).push (seqObj "tuple" vs.toArray 0)).push (seqObj "list" #[] 0)=H at k3 F7;dsimp only;have hn2:vs.toArray.size<2:=by rw[List.size_toArray];exact h2
 rw[if_pos hn2,if_pos hn2];refine wpAny_bind (wpAny_pure ?_);rw[StateT.run_pure];refine wpAny_bind (wpAny_pure ?_);dsimp only;refine wpAny_bind (seqEpoch_at F7 rfl ?_);have hout:((arrOf (SortSt.mk' general' (vs.toArray.zip vs.toArray) #[] 7 none)).map (·.2))=vs.toArray:=by exact DT h2
 rw[hout];refine wpAny_bind (listUpdate_at F7 rfl ?_ (Nat.zero_le _) (by rw[List.size_toArray,sizeLine_eq];omega));have s2:=Heap.SameBut.update H a (Obj.mapSeq fun _=>vs.toArray);simp only[bne_self_eq_false,Bool.false_eq_true,if_false];exact wpAny_pure (h _ _ (fun b o hb e=>(s2.2 b hb).trans (k3 b o hb e)) (get?_update_seq F7 fun _=>vs.toArray))
end
theorem mq.mono{φ ψ:Ph}(h:φ.Le ψ):∀{es:List (Str×V)} {kvs:List (Str×Value)},mq φ es kvs->mq ψ es kvs
 |[],_,x=>x
 |_::_,_,x=>x.imp fun u' x=>x.imp fun u' x=>⟨x.1,x.2.1.mono h,mq.mono h x.2.2⟩
theorem lV{B:Base}{φ:Ph}{G:Gs}{s s':Shared}(hf:∀a,s.heap.get? a=none->lU B φ a){prog:Program}{w:World}:∀{es:List (Str×V)} {kvs:List (Str×Value)} {as:List Addr} {o8:Ph},mq o8 es kvs->as.length=kvs.length->as.Pairwise (· < ·)->(∀a∈as,s.heap.get? a=none/\o8.f a=none/\¬o8.mu a)->
  (∀(j:Nat) (a:Addr),as[j]?=some a->∃key k x,kvs[j]?=some (k,x)/\(strKind prog w).is k key=true/\s'.heap.get? a=some {cls:=.type "tuple",data:=.seq #[key,x]})->Step B No φ s o8 G s'->
  ∃aO,o8.Le aO/\Step B No φ s aO G s'/\bz aO (es.map fun e=>.tup [.c (.str e.1),e.2]) (as.map .ref)/\(∀b,b∉as->aO.f b=o8.f b)/\aO.mu=o8.mu
 |[],kvs,as,o8,r,hl,_,_,_,st=>by subst r;obtain rfl:=(List.length_eq_zero_iff.mp hl);exact⟨o8,.refl _,st,.nil,fun u' _=>rfl,rfl⟩
 |e::es,kvs,as,o8,r,hl,hp,hd,hj,st=>by
  refine aI (r) fun c kvs QN r1 r2=>?_;(clear r;subst QN)
  match as,hl with
  |a::as,hl=>refine aX (hj 0 a rfl) fun key k x q1 q2 q3=>?_;cases Option.some.inj q1;refine cG (hd a List.mem_cons_self) fun h1 h2 h3=>?_;have f:=hf a h1;have lt:=List.pairwise_cons.mp hp;have st1:=st.adopt (t:=s'.toks) (d:=s'.drawn) h1 h2 h3 f.tb f.fr q3 id (fun q=>xi Data.ctorIdx q rfl) (fun u' u' u' e=>e) q3 (Nat.le_refl _);have QO:o8.Le (o8.put a {cls:=.type "tuple",data:=.seq #[key,c]}):=Ph.bD h2;refine fH (lV (prog:=prog) (w:=w) hf (mq.mono QO r2) (Nat.succ.inj hl) lt.2 (fun b hb=>let q:=hd b (List.mem_cons_of_mem _ hb);⟨q.1,(bQ (Nat.ne_of_gt (lt.1 b hb))).trans q.2.1,q.2.2⟩) (fun j b hb=>hj (j+1) b hb) st1) fun aO p1 p2 p3 p4 p5=>?_;refine bK (Value.isStrOf_shape q2) fun tk Il=>?_;(clear hf st r2 hl hp hd hj q2 q3 q1 h1 h2 h3 lt st1;subst Il);refine⟨aO,QO.trans p1,p2,.cons ⟨a,#[_,c],0,rfl,p1.f _ _ aR,.cons ⟨tk,rfl⟩ (.one (r1.mono (QO.trans p1)))⟩ p3,fun b hb=>?_,p5⟩;rw[List.mem_cons,not_or]at hb;exact(p4 b hb.2).trans (bQ hb.1)
end Mine.Internal
end
noncomputable section
open PySem PySem.W PyProof.Rows
namespace Mine.Internal
section
variable{B:Base}{T:aM}{φ:Ph}{G:Gs}{s:Shared}{prog:Program}{w:World}{A:Around}{E:Value->Shared->Prop}{Q:Value->Shared->Prop}
theorem sC(I:Inv B φ G s)(hP:B.P=w.params){es:List (Str×V)}{kvs:List (Str×Value)}(rk:mq φ es kvs){h':Heap}{tk:Tok}{as:List Addr}(ht:s.toks<=tk)(k:∀b o,s.heap.get? b=some o->h'.get? b=some o)(hl:as.length=kvs.length)(hG:KdxG (strKind prog w) kvs s.heap.objs.size h' as){D:Addr}{acc:Array Value}{c:Nat}(hD:s.heap.get? D=none)(Up:D∉as)(gD:h'.get? D=some (lo acc c))(ha:acc.toList=as.map Value.ref)
  (h:KV B φ G s (.list (es.map fun e=>.tup [.c (.str e.1),e.2])) Q):Q (.ref D) {s with heap:=h',toks:=tk}:=by
 have dead:∀a∈as,s.heap.get? a=none:=fun a q=>Heap.get?_none_of_le (Nat.le_of_lt (hG.above a q));refine fH (lV (s':={s with heap:=h',toks:=tk}) (prog:=prog) (w:=w) (fun a q=>I.nM q) rk hl hG.rise (fun a q=>let f:=I.nM (dead a q);⟨dead a q,f.f,f.mu⟩) hG.pairs (Step.more I k ht)) fun aO p1 p2 p3 p4 p5=>?_;have f:=I.nM hD;have hf:aO.f D=none:=(p4 D Up).trans f.f;exact h _ _ _ ⟨D,acc,c,rfl,aR,by rw[ha];exact p3.mono (Ph.bD hf)⟩ (p2.adopt (t:=tk) (d:=s.drawn) hD hf (p5▸f.mu) f.tb f.fr gD id (fun q=>xi Data.ctorIdx q rfl) (fun u' u' u' e=>e) gD (Nat.le_refl _))
theorem MK{P:Prop}(O:dK B T)(I:Inv B φ G s){x:V}{cx:Value}{es:List (Str×V)}(hx:VR φ x cx)(e:zg T x=some es)(kk:∀a ds n,cx= .ref a->(a==sysModules)=false->s.heap.get? a=some (gh ds n)->i9 φ es ds.toList->P):P:=
 gu e (fun e=>by
  rw[pg e]at hx;obtain⟨a,ds,n,h1,h2,h3,h4⟩:=hx;exact kk a ds n h1 h2 (I.keep _ _ h3) h4) fun e=>bindC e fun a ha e=>by
  have :x= .c (.gd a):=tells (P:=fun a=>x= .c (.gd a)) (by
   rename_i kU nG;clear kU nG;rcases x with k|_|_|_|_|⟨_,_⟩
   ·(cases k) <;> first|rfl|trivial
   ·trivial
   ·trivial
   ·trivial
   ·trivial
   ·trivial) ha
  rw[this]at hx;obtain⟨h1,_,ds,n,h3,h4⟩:=F6 O I e;exact kk a ds n hx h1 h3 h4
theorem AD(I:Inv B φ G s)(hP:B.P=w.params)(hh:A.handled=none){r d:Addr}{es:List (Str×V)}{ds:Array DictEntry}{n:Nat}(hv:s.heap.IsItemsView r d)(g:s.heap.get? d=some (gh ds n))(rl:i9 φ es ds.toList)(hn:(es.map (·.1)).Nodup)(hl:es.length<=100)
  (h:KV B φ G s (.list (es.map fun e=>.tup [.c (.str e.1),e.2])) Q):wpAny (model prog w) A (call (.type "list") [.ref r]) Q E s:=by
 refine av (cY (prog:=prog) (I.P.trans hP) g rl hn) fun kvs dd rk=>?_;refine wpAny_with_toks (Nat.le_refl _) (kdx_call hh hv dd (by rw[rk.len,sizeLine_eq];omega) fun h' tk acc c as k gD hl' hG ha ht=>?_);exact sC I hP rk ht k hl' hG (Inv.bL s) (fun q=>Nat.lt_irrefl _ (hG.above _ q)) gD ha h
theorem AE(I:Inv B φ G s)(hP:B.P=w.params)(hh:A.handled=none){r d:Addr}{es:List (Str×V)}{ds:Array DictEntry}{n:Nat}(hv:s.heap.IsItemsView r d)(g:s.heap.get? d=some (gh ds n))(rl:i9 φ es ds.toList)(hn:(es.map (·.1)).Nodup)(hl:es.length<=1)
  (h:KV B φ G s (.list (es.map fun e=>.tup [.c (.str e.1),e.2])) Q):wpAny (model prog w) A (call (.builtin "sorted") [.ref r]) Q E s:=by
 refine av (cY (prog:=prog) (I.P.trans hP) g rl hn) fun kvs dd rk=>?_;have hk:kvs.length<=1:=by rw[rk.len];exact hl
 refine wpAny_with_toks (Nat.le_refl _) (Calls.call_function_entry kind_sorted plain_sorted entry_sorted (args_sorted1 _) ?_);refine wpAny_bind (m:=checkCount "sorted" 1 1 _) (wpAny_pure ?_);refine wpAny_bind (kdx_collect (A:=A.in1) hh hv dd (by rw[sizeLine_eq];omega) fun h' tk as k hl' hG=>?_);have ll:(as.map Value.ref).length<2:=by rw[List.length_map,hl'];omega
 refine wpAny_bind (wpAny_newList ?_ (by rw[sizeLine_eq];omega));have gL:(h'.push (seqObj "list" (as.map Value.ref).toArray 0)).get? h'.objs.size=some (seqObj "list" (as.map Value.ref).toArray 0):=Heap.get?_push_size _ rfl;refine wpAny_bind (wpAny_holding (wpAny_call_entry slot_list_sort ⟨_,gL,rfl⟩ entry_list_sort (AB (s:={s with heap:=h'.push (seqObj "list" (as.map Value.ref).toArray 0),toks:=tk}) gL ll fun h2 c k2 g2=>⟨_,rfl,?_⟩) (args_list_sort _)));have up:∀b o,h'.get? b=some o->h2.get? b=some o:=fun b o e=>k2 b o (Nat.ne_of_lt (Heap.lt_size e)) (Heap.get?_push_of_some _ e);refine wpAny_pure ⟨_,rfl,fun ht=>?_⟩;have dD:s.heap.get? h'.objs.size=none:=by
  cases z:s.heap.get? h'.objs.size with
  |none=>rfl
  |some o=>exact absurd (Heap.lt_size (k _ _ z)) (Nat.lt_irrefl _)
 exact sC I hP rk ht (fun b o e=>up b o (k b o e)) hl' ⟨hG.rise,hG.above,fun j a e=>(hG.pairs j a e).imp fun key x=>x.imp fun kk x=>x.imp fun y x=>⟨x.1,x.2.1,up _ _ x.2.2⟩⟩ dD (fun q=>Nat.lt_irrefl _ (hG.there q)) g2 rfl h
end
end Mine.Internal
end
noncomputable section
open PySem PySem.W PyProof.Rows
namespace Mine.Internal
section
variable{k:Ks}{ce:Env}{ns:List Str}
noncomputable def QS(q6:Bool):Bf:=match q6 with
 |true=>.sorted
 |false=>.list
theorem sD(S:cD k){f o:Expr}{ap cp pos:Pos}{x:X}{q6:Bool}(hf:bC k ce ns f (.c (.c (.fn (QS q6)))))(ha:bM f=false)(hs:bJ o=false)(hp:(ap.endLine==cp.line)=true)(hx:bC k ce ns o x):
  bC k ce ns (.Call f [.Call (.Attribute o "items" ap) [] [] cp] [] pos) (.items q6 x):=fun A E Q φ G s e r G' c ev kk=>cF ev fun v G1 e1 ev=>gz ev fun ev q=>bindC ev fun es he ev=>ak ev fun cc ev=>by
 (rename_i aH bI bS eN;clear aH bI bS eN;revert kk;apply af (ev);intro kk)
 refine gC ha rfl hf c (G':=G) (r:=.c (.fn (QS q6))) rfl fun cf aO s1 h1 t1=>?_
 (clear hf ha ev;subst h1)
 refine callWith_of (P:=fun hp=>bA (model k.prog k.w) hp (QS q6).val) rfl (fun _ z=>z) (ee ?_);refine w_eq (by rw[arm_eval_Call,aB hs,au _ _ rfl]) ?_;refine wpAny_bind (hx.at (c.step t1) e1 fun co d9 s2 h2 t2=>wpAny_bind (wpAny_standAt ?_));unfold methodCall;refine w_eq (by rw[show methodCallForm _ _ _=true from rfl]) ?_;refine wpAny_bind (wpAny_holding ?_);unfold calleeOf;simp only[if_pos rfl];refine MK S.O t2.inv h2 he fun a ds n e0 hsys g rl=>?_;clear hs hx e1 he h2;subst e0;refine getMethod_builtin ⟨_,g,rfl⟩ PySem.F.plainAttrs_dict PySem.F.slot_dict_items PySem.F.type_dict_items (fun b e=>by obtain rfl:=Value.ref.inj e;exact⟨_,g,rfl⟩) ?_;unfold methodCallPos;refine w_eq (by rw[hp]) ?_;refine wpAny_bind (wpAny_pure (callWith_of (P:=fun hp=>bA (model k.prog k.w) hp (.builtin "dict.items")) rfl (fun _ z=>z) (PySem.evalArgs_none ⟨⟨.machine,.inr (.inl rfl),Looks.of_pure rfl⟩,?_⟩)));refine av (cY (prog:=k.prog) (t2.inv.P.trans S.hP) g rl cc.2) fun kvs dd rk=>?_;refine call_meetsIn PySem.F.slot_dict_items ⟨_,g,rfl⟩ PySem.F.entry_dict_items (PySem.F.args_dict_items_1 _) (meets_dict_items (strKind k.prog k.w) a hsys) ⟨⟨kvs,dd.dictOf⟩,?_⟩;have t3:Step k.B No d9 s2 d9 G1 {s2 with heap:=s2.heap.push {cls:=.type "dict_items",data:=.fields #[.ref a]}}:=Step.push t2.inv _ (Nat.le_refl _);have T:=(t1.trans t2).trans t3;have hv:(s2.heap.push {cls:=.type "dict_items",data:=.fields #[.ref a]}).IsItemsView s2.heap.objs.size a:=⟨_,Heap.get?_push_size _ rfl,rfl,rfl⟩;have g3:=Heap.get?_push_of_some {cls:=.type "dict_items",data:=.fields #[.ref a]} g;rcases q6 with _|_
 ·exact⟨⟨.machine,.inr (.inl rfl),Looks.of_pure rfl⟩,AD t3.inv S.hP c.R.h hv g3 rl cc.2 cc.1 (vR q kk T)⟩
 ·exact⟨⟨.machine,.inr (.inl rfl),Looks.of_pure rfl⟩,AE t3.inv S.hP c.R.h hv g3 rl cc.2 cc.1 (vR q kk T)⟩
theorem DU(S:cD k){l:Expr}{a:X}{x:Str}{p pos:Pos}{i:Nat}(hm:behindInMarks .NotIn (.Name x p)=false)(hp:ao x=true)(hk:ce.kindOf x=some .local)(hi:ix ns x=some i)(ha:bC k ce ns l a):Ok k ce ns (.Compare l [.NotIn] [.Name x p] pos) (.xB a i):=
 ⟨fun A E Q φ G s e r G' c ev kk=>wpAny_Compare1 (v8 S hp hk hi ha c ev fun b az s' hr t=>kk _ _ _ (hr▸rfl) t) hm,
  fun A E Q φ G s e r G' c ev kk=>cF ev fun v G1 ev mz=>gz mz fun mz q=>wpAny_isTrue_Compare1 (v8 S hp hk hi ha c ev fun b az s' hr t=>by
   subst hr
   (rename_i aH bI;clear aH bI;revert kk;apply af (mz);intro kk)
   exact wpAny_truthy_bool (kk _ _ _ rfl (q▸t))) hm⟩
end
end Mine.Internal
end
noncomputable section
open PySem PySem.W PyProof.Rows
namespace Mine.Internal
section
variable{k:Ks}{ce:Env}{ns:List Str}
theorem DV{ex:Expr}:Ok k ce ns ex .bad:=⟨fun A E Q φ G s e r G' c ev kk=>(xa ev),fun A E Q φ G s e r G' c ev kk=>cF ev fun v G1 ev _=>(xa ev)⟩
theorem sF{f:Expr->Option X}(ih:∀ex x,f ex=some x->Ok k ce ns ex x)(ex:Expr):Ok k ce ns ex (fb (f ex)):=by
 cases h:f ex with
 |none=>exact DV
 |some x=>exact ih _ _ h
theorem DW{x:V}{b:Bf}(h:LC x=some b):x= .c (.fn b):=tells (P:=fun b=>x= .c (.fn b)) (by rcases x with⟨⟨⟩⟩|_ <;> first|rfl|trivial) h
theorem fy(S:cD k){b:Bf}{f:Expr}(h:jR k.g b ce.scope f=true):bC k ce ns f (.c (.c (.fn b)))/\bM f=false:=
 anyC h fun r hr h=>dZ hr▸⟨Ad S (nH h).2 (beq_iff_eq.mp (nH (nH h).1).2) (bindC (of_decide_eq_true (nH (nH h).1).1) fun v e1 e2=>DW e2▸e1),rfl⟩
theorem DX{op:UnaryOp}(h:LD op=true):op= .USub:=by rcases op with⟨⟩ <;> first|rfl|cases h
theorem DY{i:Expr}{j:Int}(h:LG i=some j):∃m p q,i= .UnaryOp .USub (.Constant (.int j) m p) q:=
 bindC h fun r hr h=>bindC h fun c hc h=>ak h fun hu h=>⟨c.2.1,c.2.2,r.2.2,by rw[LB hr,m8 hc,vq h,DX hu]⟩
theorem Jp(S:cD k){aF M:List Str}{f:Expr->Option X}(ih:∀ex x,f ex=some x->Ok k ce ns ex x){ex:Expr}{x:X}(h:zo aF M k.g f ce.scope ns ex=some x):Ok k ce ns ex x:=by
 refine gu h (fun h=>bindC h fun r hr h=>bindC h fun a ha h=>bindC h fun l hl h=>?_) fun h=>bindC h fun r hr h=>?_
 ·rw[dG hr,aZ ha]
  refine cG (Am S hl) fun l1 l2 l3=>?_;refine gu h (fun h=>bindC h fun t ht h=>bindC h fun s hs h=>ak h fun c h=>?_) fun h=>?_
  ·(rename_i aH bI bS eN i6 DR Uq Ur;clear aH bI bS eN i6 DR Uq Ur;apply af (h))
   simp only[d8 ht,c.1,jP hs];exact bO S (I4 S c.2 l1 l3) rfl
  ·by_cases hlen:jR k.g .len ce.scope r.1=true
   ·rw[if_pos hlen]at h
    (rename_i aH bI bS eN i6;clear aH bI bS eN i6;apply af (h))
    refine cJ (fy (ns:=ns) S hlen) fun q1 q2=>?_;exact bO S (DJ S q1 q2 l1 l3) rfl
   ·rw[if_neg hlen]at h
    by_cases q:bM r.1=true
    ·rw[if_pos q]at h;(rename_i aH bI bS eN i6;clear aH bI bS eN i6;exact xa h)
    ·rw[if_neg q]at h
     exact bindC h fun n hn h=>ay h fun y h1 e=>e▸bO S (An S (ih _ _ h1).1 (Bool.not_eq_true _▸q) (by(rename_i aH bI bS eN i6 DR;clear aH bI bS eN i6 DR;rcases l with⟨⟩) <;> (clear ha l2 hlen;cases hn);exact l1) l3) rfl
 ·rw[sub_eq hr]
  by_cases q:dH r.2.1=true
  ·rw[if_pos q]at h;(rename_i aH bI;clear aH bI;exact xa h)
  ·rw[if_neg q]at h
   refine bindC h fun l hl h=>gV h (fun hn h=>ay h fun y h1 e=>e▸bO S (vU S (Bool.not_eq_true _▸q) (Am S hl).1 (ih _ _ h1).1 fun n hn'=>by((clear ih hr q h1;obtain rfl:=hn'));(exact xb hn)) rfl) fun n hn h=>ay h fun j hj e=>?_;refine fJ (DY hj) fun m p q' e'=>?_;rw[e'];exact e▸bO S (vU S rfl (Am S hl).1 (Af (rZ rfl)) fun n hn'=>⟨j,m,p,q',rfl,rfl⟩) rfl
theorem AF(S:cD k){f:Expr->Option X}(ih:∀ex x,f ex=some x->Ok k ce ns ex x){ex:Expr}{x:X}(h:zu k.g f ce.scope ex=some x):Ok k ce ns ex x:=
 bindC h fun r hr h=>bindC h fun a ha h=>bindC h fun q hq h=>bindC h fun t ht h=>ak h fun c h=>by
  simp only[dG hr,aZ ha,dG hq,d8 ht,c.1,List.isEmpty_iff.mp c.2.1];refine gu h (fun h=>ak h fun c1 h=>ay h fun y h1 e=>?_) fun h=>ak h fun c1 h=>ay h fun y h1 e=>?_
  ·refine cJ (fy (ns:=ns) S c1) fun q1 q2=>?_
   exact e▸bO S (sD (q6:=false) S q1 q2 c.2.2.2 c.2.2.1 (ih _ _ h1).1) rfl
  ·refine cJ (fy (ns:=ns) S c1) fun q1 q2=>?_
   exact e▸bO S (sD (q6:=true) S q1 q2 c.2.2.2 c.2.2.1 (ih _ _ h1).1) rfl
theorem DZ(S:cD k){f:Expr->Option X}(ih:∀ex x,f ex=some x->Ok k ce ns ex x){fn:Expr}{args:List Expr}{pos:Pos}{x:X}(h:FJ f fn args pos=some x):Ok k ce ns (.Call fn args [] pos) x:=by
 have eY:=fun ex x hh=>(ih ex x hh).1;refine ak h fun c h=>gV h (fun ha h=>bindC h fun y h1 h=>ay h fun l h2 e=>e▸bO S (DC S (by unfold bM;rw[ha];rfl) c.1 (ih _ _ h1).1 (gA eY h2)) rfl) fun t ht h=>?_;rw[d8 ht];refine ak h fun c2 h=>bindC h fun y h1 h=>gV h (fun _ h=>ay h fun l h2 e=>e▸bO S (DE S c2.1 c2.2 c.1 c.2 (ih _ _ h1).1 (gA eY h2)) rfl) fun yz hr h=>?_
 (rename_i aH bI bS eN i6;clear aH bI bS eN i6;apply af (h))
 refine bindC hr fun q hq hr=>bindC hr fun y hy hr=>bindC hr fun z hz hr=>ak hr fun ha hr=>?_
 (rename_i aH bI bS eN;clear aH bI bS eN;(clear eY c ht h;obtain rfl:=Option.some.inj hr))
 simp only[ha,dz hq,jP hy,jP hz];exact bO S (DF c2.1 c2.2 (ih _ _ h1).1) rfl
theorem Jq{e:Expr}{xs:List Str}(h:Sy e=some xs):qm e xs:=
 gu h (fun h=>ay h fun r hr e=>.inl ⟨r.1,r.2,dZ hr,e.symm⟩) fun h=>bindC h fun r hr h=>bindC h fun p hp h=>bindC h fun a ha h=>bindC h fun b hb h=>ak h fun hne h=>by
  (rename_i aH bI bS eN i6 DR;clear aH bI bS eN i6 DR;apply af (h))
  exact .inr ⟨a.1,a.2,b.1,b.2,r.2.1,r.2.2,by rw[pW hr,dz hp,dZ ha,dZ hb],rfl,hne⟩
theorem ly{gens:List Comprehension}{t:List Str×Comprehension}(h:pX gens=some t):gens=[⟨t.2.target,t.2.iter,t.2.ifs,0⟩]/\qm t.2.target t.1:=
 bindC h fun c hc h=>bindC h fun r hr h=>ak h fun h0 h=>by
  (rename_i aH bI bS;clear aH bI bS;apply af (h))
  refine⟨?_,Jq hr⟩;simp only[aZ hc];obtain⟨t,i,f,a⟩:=c
  (clear hc hr h;subst h0)
  rfl
theorem uC{op:CmpOp}(h:isNotIn op=true):op= .NotIn:=by rcases op with⟨⟩ <;> first|rfl|cases h
theorem Jr{α:Type}{l:List α}(h:2<=l.length):∃a b r,l=a::b::r:=by
 rcases l with _|⟨a,l⟩
 ·exact absurd h (Nat.not_succ_le_zero 1)
 ·rcases l with _|⟨b,r⟩
  ·exact absurd h (Nat.not_succ_le_self 1)
  ·exact⟨a,b,r,rfl⟩
theorem ML(S:cD k){f fi:Expr->Option X}{fc:Scope->List Str->Expr->Option X}(ih:∀ex x,f ex=some x->Ok k ce ns ex x)(O7:∀ex x,fi ex=some x->Ok k ce ns ex x)(O8:∀{ce:Env} {ns:List Str} {ex:Expr} {x:X},fc ce.scope ns ex=some x->Ok k ce ns ex x){ex:Expr}{x:X}(h:cE k.g ce.scope ns f fi fc ex=some x):Ok k ce ns ex x:=by
 have eY:=fun ex x (hh:f ex=some x)=>(ih ex x hh).1;rcases ex with⟨op,vs,p⟩|⟨_,_,_⟩|⟨l,op,r,p⟩|⟨op,y,p⟩|⟨_,_,_,_⟩|⟨t,b,o,p⟩|⟨ks,vs,p⟩|⟨es,m,p⟩|⟨elt,gens,scope,p⟩|⟨_,_,_,_⟩|⟨_,_,_,_,_⟩|⟨_,_,_,_⟩|⟨_,_⟩|⟨_,_⟩|⟨_,_⟩|⟨l,ops,rs,p⟩|⟨f,args,kws,p⟩|⟨v,c,st,p⟩|⟨l,p⟩|⟨c,m,p⟩|⟨v,a,p⟩|⟨v,i,p⟩|⟨_,_⟩|⟨y,p⟩|⟨es,p⟩|⟨es,m,p⟩|⟨_,_,_,_⟩
 ·refine bindC h fun l h1 h=>?_
  rcases op with _|_
  ·apply af (h);exact IP S (fun ex x hh=>by(apply af (hh));exact sF ih ex) h1
  ·exact xa h
 ·exact xa h
 ·exact bindC h fun a h1 h=>ay h fun b h2 e=>e▸bO S (IG (eY _ _ h1) (eY _ _ h2)) rfl
 ·refine bindC h fun a h1 h=>?_
  
  rcases op with _|_|_|_
  ·exact xa h
  ·(apply af (h));exact⟨IJ S (eY _ _ h1),Dy (ih _ _ h1).2⟩
  ·exact xa h
  ·(apply af (h));exact bO S (Af (eY _ _ h1)) rfl
 ·exact xa h
 ·exact ay h fun a h1 e=>e▸⟨II (ih _ _ h1).2 (sF ih _).1 (sF ih _).1,Dw (ih _ _ h1).2 (sF ih _).2 (sF ih _).2⟩
 ·exact bindC h fun l h1 h=>ak h fun hm h=>ay h fun a h2 e=>e▸bO S (DH S eY h1 h2 hm.1 hm.2.1 hm.2.2) rfl
 ·refine bindC h fun q hq h=>bindC h fun b hb h=>ak h fun c h=>bindC h fun x hx h=>ay h fun y hy e=>?_
  simp only[dz hq,zq hb,c.1];exact e▸bO S (DQ S c.2 (eY _ _ hx) (eY _ _ hy)) rfl
 ·refine bindC h fun t ht h=>ak h fun hm h=>bindC h fun a h1 h=>bindC h fun b h2 h=>ay h fun c h3 e=>?_
  subst e;refine cJ (ly ht) fun g1 g2=>?_;rw[g1];exact bO S (DO (f:=fc (xF scope ce.scope) (t.1++ns)) S g2 (kY hm.2) hm.1 (O7 _ _ h1).1 (fun C cs ex x' hh=>O8 (ce:=compEnvC scope cs C ce) hh) h2 h3) rfl
 ·exact xa h
 ·exact xa h
 ·exact xa h
 ·exact xa h
 ·exact xa h
 ·exact xa h
 ·refine bindC h fun op ho h=>bindC h fun r hr h=>ak h fun hm h=>bindC h fun a h1 h=>?_
  simp only[aZ ho,aZ hr];refine gV h (fun u' h=>ay h fun b h2 e=>e▸⟨IL hm (eY _ _ h1) (eY _ _ h2),Dz S hm (eY _ _ h1) (eY _ _ h2)⟩) fun i hi h=>?_
  (apply af (h))
  exact ak hi fun hn hi=>bindC hi fun z hz hi=>ak hi fun u' hi=>by refine cG (bX hz) fun q1 q2 q3=>?_;rw[uC hn,q1]at hm⊢;exact DU S hm q2 q3 hi (eY _ _ h1)
 ·rcases kws with _|⟨_,_⟩
  ·exact DZ S ih h
  ·exact xa h
 ·rcases st with _|_
  ·refine ak h fun hc h=>ay h fun b h1 e=>?_
   (clear ih O7 O8;subst hc e)
   exact bO S (IU (eY _ _ h1)) rfl
  ·exact xa h
 ·refine ak h fun hl h=>ay h fun a h1 e=>?_
  (clear ih O7 O8;subst e)
  refine fJ (Jr hl) fun v1 v2 rest QT=>?_;(clear hl;subst QT);exact bO S (DG eY h1) rfl
 ·exact ay h fun v hv e=>e▸bO S (rZ hv) rfl
 ·refine ak h fun hc h=>?_
  by_cases hs:kP ce.scope ns v=true
  ·rw[if_pos hs]at h
   (apply af (h))
   refine cU (iS hs) fun y q QU hy=>?_;(clear ih O7 O8;subst QU);exact bO S (IZ S hy) rfl
  ·rw[if_neg hs]at h
   exact ay h fun b h1 e=>e▸bO S (DB S hc (eY _ _ h1)) rfl
 ·refine bindC h fun a h1 h=>?_
  by_cases hs:dH i=true
  ·rw[if_pos hs]at h
   refine bindC h fun t ht h=>bindC h fun b h2 h=>ay h fun c h3 e=>?_;rw[oS ht];exact e▸bO S (IS (eY _ _ h1) (Ai eY h2) (Ai eY h3)) rfl
  ·rw[if_neg hs]at h
   exact ay h fun b h2 e=>e▸bO S (IQ S (Bool.not_eq_true _▸hs) (eY _ _ h1) (eY _ _ h2)) rfl
 ·exact xa h
 ·refine ak h fun hp h=>?_
  by_cases hv:isVar (ce.scope.names.lookup y)=true
  ·rw[if_pos hv]at h
   exact ay h fun i hi e=>e▸bO S (Ac hp hv hi) rfl
  ·rw[if_neg hv]at h
   exact ak h fun hg h=>ay h fun v hv e=>e▸bO S (Ad S hp hg hv) rfl
 ·exact ak h fun hm h=>ay h fun a h1 e=>e▸bO S (DA hm (gA eY h1)) rfl
 ·exact ak h fun hm h=>ay h fun a h1 e=>e▸bO S (IM hm (gA eY h1)) rfl
 ·exact xa h
theorem eG(S:cD k):∀(n:Nat) {aF M:List Str} {ce:Env} {ns:List Str} {ex:Expr} {x:X},cX aF M k.g n ce.scope ns ex=some x->Ok k ce ns ex x
 |0,_,_,_,_,_,_,h=>xa h
 |n+1,aF,M,ce,ns,ex,x,h=>
  have ih:=fun ex x (hh:cX aF M k.g n ce.scope ns ex=some x)=>eG S n hh
  gu (h:(zo _ _ _ _ _ _ _).or _=_) (fun h=>Jp S ih h) fun h=>gu h (AF S ih) fun h=>ML S ih (fun u' u' hh=>eG S n hh) (fun hh=>eG S n hh) h
end
end Mine.Internal
end
noncomputable section
open PySem PySem.W PyProof.Rows
set_option backward.match.sparseCases false
namespace Mine.Internal
section
variable{B:Base}{X:Addr->Prop}{ce:Env}{ns:List Str}{φ az l8:Ph}{G G' ja:Gs}{e e' e'':En}{s s' s'':Shared}
theorem SR.own{L:Addr}{h:Heap}{z:SL}{v:Option Value}{b:Addr}(x:SR B φ L h z v)(o:gW z v h b):dP B φ L b/\∃a p,v=some (.ref a)/\dP B φ L a/\h.get? a=some p/\(∀u,p.data≠ .cell u)/\∃p',h.get? b=some p'/\∀u,p'.data≠ .cell u:=by
 refine dS (o) fun o1 a0 o2 o3=>?_;have fin:∀{p:Obj},v=some (.ref a0)->dP B φ L a0->h.get? a0=some p->(∀u,p.data≠ .cell u)->(∀d,p.dict=some d->dP B φ L d/\∃p',h.get? d=some p'/\∀u,p'.data≠ .cell u)->dP B φ L b/\∃a p,v=some (.ref a)/\dP B φ L a/\h.get? a=some p/\(∀u,p.data≠ .cell u)/\∃p',h.get? b=some p'/\∀u,p'.data≠ .cell u:=fun {p} e1 e2 e3 e4 e5=>by
  rcases o3 with rfl|⟨o,q1,q2⟩
  ·exact⟨e2,_,p,e1,e2,e3,e4,p,e3,e4⟩
  ·cases q1.symm.trans e3
   refine dS (e5 _ q2) fun y1 p' y2 y3=>?_;exact⟨y1,_,p,e1,e2,e3,e4,p',y2,y3⟩
 rcases z with _|y|l|⟨C,es⟩|⟨b',p⟩|xs
 ·exact xa ((show v=none from x).symm.trans o2)
 ·exact absurd rfl (o1 y)
 ·refine cK (x) fun a x1 x2 vs n x3 _=>?_
  (clear o3 o1;obtain rfl:=Value.ref.inj (Option.some.inj (x1.symm.trans o2)))
  exact fin o2 x2 x3 (fun u q=>xi Data.ctorIdx q rfl) fun d q=>xa q
 ·refine cV (x) fun a d ds n x1 x2 x3 x4 x5 _=>?_
  (clear o3 o1;cases x1.symm.trans o2)
  exact fin o2 x2 x4 (fun u q=>xi Data.ctorIdx q rfl) fun d' q=>by(apply af (q));exact⟨x3,_,x5,fun u q=>xi Data.ctorIdx q rfl⟩
 ·refine gY (x) fun a o MM=>fH MM fun t x1 x2 x3 x4 x5=>?_;clear MM
  (clear o3 o1 x4;cases x1.symm.trans o2)
  exact fin o2 x2 x3 (fun u q=>xi Data.ctorIdx (x5.1.symm.trans q) rfl) fun d q=>xa (x5.2.symm.trans q)
 ·refine bu (x) fun a o x1 x2 x3 MN=>jq MN fun es ep t QV _=>?_;clear MN;subst QV
  (clear o3 x o o1;cases x1.symm.trans o2)
  exact fin o2 x2 x3 (fun u q=>xi Data.ctorIdx q rfl) fun d q=>xa q
structure dX(B:Base)(ce:Env)(ns:List Str)(e:En)(φ:Ph)(s:Shared)(e':En)(az:Ph)(G':Gs)(s':Shared):Prop where
 st:Step B (FX ce ns e s.heap) φ s az G' s'
 en:dY B ce ns az e' s'.heap
 own:∀b,dw ce ns e' s'.heap b->dw ce ns e s.heap b\/s.heap.get? b=none
theorem dX.trans(x:dX B ce ns e φ s e' az G' s')(y:dX B ce ns e' az s' e'' l8 ja s''):dX B ce ns e φ s e'' l8 ja s'':=
 ⟨x.st.hide y.st fun b hb=>by
  rcases hb with hb|hb|hb
  ·exact .inl (.inl hb)
  ·exact .inl (.inr (.inl hb))
  ·exact(x.own b hb).imp (fun q=>.inr (.inr q)) id,y.en,fun b hb=>(y.own b hb).elim (x.own b) fun q=>.inr (x.st.dead q)⟩
theorem dX.refl(I:Inv B φ G s)(x:dY B ce ns φ e s.heap):dX B ce ns e φ s e φ G s:=⟨Step.refl I,x,fun _=>.inl⟩
theorem dw.back(En:dY B ce ns φ e s.heap)(k:∀a o,dP B φ ce.locals a->s.heap.get? a=some o->(∀v,o.data≠ .cell v)->dw ce ns e s.heap a->s'.heap.get? a=some o){m m':Str->Option Value}(h1:s.heap.Ns ce.locals m)(h2:s'.heap.Ns ce.locals m'){y:Str}{i:Nat}(hi:ix ns y=some i)(hk:ce.kindOf y=some .local)(hm:m' y=m y){b:Addr}
  (ho:gW (sl e i) (m' y) s'.heap b):dw ce ns e s.heap b:=by
 obtain⟨m0,hm0⟩:=En.loc;rw[bR h1 hm0.nm]at hm;have sr:=hm0.sr y i hi hk;obtain⟨o1,a0,o2,o3⟩:=ho;have O9:m0 y=some (.ref a0):=hm.symm.trans o2
 (clear En h1 h2 hm o2;obtain⟨q1,a,p,q2,q3,q4,q5,_⟩:=sr.own (b:=a0) ⟨o1,a0,O9,.inl rfl⟩)
 clear sr q1;cases q2.symm.trans O9;have AG:dw ce ns e s.heap a0:=⟨m0,y,i,hm0.nm,hi,hk,o1,a0,O9,.inl rfl⟩;have g:=k a0 p q3 q4 q5 AG;exact⟨m0,y,i,hm0.nm,hi,hk,o1,a0,O9,o3.imp id fun bE=>av bE fun o z1 z2=>by cases z1.symm.trans g;exact⟨p,q4,z2⟩⟩
theorem eZ(t:Step B X φ s az G' s')(En:dY B ce ns φ e s.heap)(h:¬X ce.locals){m:Str->Option Value}(hm:s.heap.Ns ce.locals m):s'.heap.Ns ce.locals m:=gn hm fun o ho=>(t.data ho h En.LT En.LM).imp fun u' y=>⟨y.1,y.2.1⟩
theorem dX.of(I:Inv B φ G s)(En:dY B ce ns φ e s.heap)(t:Step B X φ s az G' s')(h1:¬X ce.locals)(h2:∀b,dw ce ns e s.heap b->¬X b)(h3:∀n i c,ix ns n=some i->jb (ce.kindOf n)=true->ce.cells.lookup n=some c->¬X c)(hX:∀b,X b->s.heap.get? b=none\/FX ce ns e s.heap b):dX B ce ns e φ s e az G' s':=by refine⟨(Step.refl I).hide t fun b hb=>(hX b hb).symm,En.step t h1 h2 h3,fun b bE=>bw bE fun m' y i hm' hi hk ho=>.inl ?_⟩;clear I h3 hX bE;obtain⟨m,hm⟩:=En.loc;exact dw.back En (fun a o q g hc hw=>(t.kept a o g (h2 a hw) q.tb (t.di g q.mu (h2 a hw))).2 q.fr) hm.nm hm' hi hk (congrFun (bR hm' (eZ t En h1 hm.nm)) y) ho
theorem dX.no(I:Inv B φ G s)(En:dY B ce ns φ e s.heap)(t:Step B No φ s az G' s'):dX B ce ns e φ s e az G' s':=dX.of I En t id (fun u' _=>id) (fun u' u' u' u' u' _=>id) fun _=>False.elim
theorem fB{M:Model}{A:Around}{E:Value->Shared->Prop}{Q:Unit->Shared->Prop}(I:Inv B φ G s)(En:dY B ce ns φ e s.heap){n:Str}{i:Nat}{v:V}{cv:Value}(hi:ix ns n=some i)(hk:ce.kindOf n=some .local\/ce.kindOf n=some .cell)(hv:VR φ v cv)
  (kk:∀s',dX B ce ns e φ s (e.set i (.v v)) φ G s'->Q () s'):wpAny M A (storeName ce n cv) Q E s:=by
 refine mV (z:=.v v) I En hi (hk.imp id fun q=>⟨q,v,rfl⟩) ⟨cv,rfl,hv⟩ (fun q=>xc q) (fun q=>xc q) fun s' t en k3 hns=>kk s' ⟨t.weak fun b hb=>hb.fx hi,en,fun b bE=>bw bE fun m' y j hm' hj hjk ho=>.inl ?_⟩;obtain⟨m,hm⟩:=En.loc;obtain⟨m2,g1,g2,_⟩:=hns m hm.nm;by_cases q:y=n
 ·(clear I hk hv kk t en hns bE;obtain rfl:=q)
  obtain rfl:=Option.some.inj (hi.symm.trans hj);rw[dm (by rw[En.len];exact rq hi)]at ho;exact absurd rfl (ho.1 v)
 ·rw[cL (fun w:i=j=>q (gm hj (w▸hi)))]at ho
  exact dw.back En (fun a o q g hc _=>k3 a o g hc q.L) hm.nm hm' hj hjk ((congrFun (bR hm' g1) y).trans (g2 y q)) ho
noncomputable def MO (φ:Ph):Fl->Flow->Prop
 | .aS,f=>f= .next
 | .ret v,f=>∃cv,f= .ret cv/\VR φ v cv
theorem MO.mono(h:φ.Le az):∀{f:Fl} {c:Flow},MO φ f c->MO az f c
 | .aS,_,x=>x
 | .ret _,_,x=>x.imp fun u' x=>x.imp id (VR.mono h)
end
section
variable{k:Ks}{ce:Env}{ns:List Str}
noncomputable def SQ(k:Ks)(ce:Env)(ns:List Str)(e:En)(φ:Ph)(s:Shared)(fl:Fl)(e':En)(G':Gs)(Q:Flow->Shared->Prop):Prop:=∀c az s',MO az fl c->dX k.B ce ns e φ s e' az G' s'->Q c s'
theorem jy{e:En}{φ:Ph}{s:Shared}{fl MP:Fl}{e1 e2:En}{G1 G2:Gs}{Q:Flow->Shared->Prop}(h:(fl,e1,G1)=(MP,e2,G2))(kk:SQ k ce ns e φ s MP e2 G2 Q):SQ k ce ns e φ s fl e1 G1 Q:=by cases h;exact kk
theorem jY{e:En}{φ:Ph}{s:Shared}{fl MP:Fl}{e1 e2:En}{G1 G2:Gs}{Q:Flow->Shared->Prop}(h:some (fl,e1,G1)=some (MP,e2,G2))(kk:SQ k ce ns e φ s MP e2 G2 Q):SQ k ce ns e φ s fl e1 G1 Q:=jy (Option.some.inj h) kk
noncomputable def Sv (k:Ks) (ce:Env) (ns:List Str) (m:Sem Flow) (f:Cs):Prop:=∀(A:Around) (E:Value->Shared->Prop) (Q:Flow->Shared->Prop) (φ:Ph) (G:Gs) (s:Shared) (e:En) (fl:Fl) (e':En) (G':Gs),
 kM k A ce ns φ G s e->f e G=some (fl,e',G')->SQ k ce ns e φ s fl e' G' Q->wpAny (model k.prog k.w) A m Q E s
noncomputable abbrev eK (k:Ks) (ce:Env) (ns:List Str) (st:Stmt) (x:S):Prop:=Sv k ce ns (exec st ce) (fY k.T k.U x)
noncomputable abbrev lA (k:Ks) (ce:Env) (ns:List Str) (l:List Stmt) (xs:List S):Prop:=Sv k ce ns (execs l ce) (aN k.T k.U xs)
theorem kM.go{A:Around}{φ az:Ph}{G G':Gs}{s s':Shared}{e e':En}(c:kM k A ce ns φ G s e)(g:dX k.B ce ns e φ s e' az G' s'):kM k A ce ns az G' s' e':=⟨c.R,g.st.inv,g.en⟩
theorem kM.no{A:Around}{φ az:Ph}{G G':Gs}{s s':Shared}{e:En}(c:kM k A ce ns φ G s e)(t:Step k.B No φ s az G' s'):dX k.B ce ns e φ s e az G' s':=dX.no c.I c.E t
theorem Sv.at{A:Around}{φ:Ph}{G G':Gs}{s:Shared}{e e':En}{fl:Fl}{m:Sem Flow}{f:Cs}(h:Sv k ce ns m f){E:Value->Shared->Prop}{Q:Flow->Shared->Prop}(c:kM k A ce ns φ G s e)(ev:f e G=some (fl,e',G'))(kk:∀c az s',MO az fl c->dX k.B ce ns e φ s e' az G' s'->Q c s'):wpAny (model k.prog k.w) A m Q E s:=h A E Q φ G s e fl e' G' c ev kk
theorem b9{v:Expr}(h:jS v=false)(t:Option Expr)(l:Nat)(env:Env):swapsWith v t l env=pure false:=by rcases v with⟨⟩ <;> first|rfl|exact xd h
theorem iA(v t:Expr)(l:Nat)(env:Env)(h1:∀a b c d,swapsWith (.ListComp a b c d) (some t) l env=pure false)(h2:∀a b c d,swapsWith (.SetComp a b c d) (some t) l env=pure false)(h3:∀a b c d e,swapsWith (.DictComp a b c d e) (some t) l env=pure false):swapsWith v (some t) l env=pure false:=by rcases v with⟨⟩ <;> first|rfl|exact h1 _ _ _ _|exact h2 _ _ _ _|exact h3 _ _ _ _ _
theorem ef{sc:Scope}{ex:Expr}{i:Nat}(h:fm sc ns ex=some i):∃x p,ex= .Name x p/\(sc.names.lookup x=some .local\/sc.names.lookup x=some .cell)/\ix ns x=some i/\ao x=true:=
 bindC h fun r hr h=>ak h fun c h=>⟨r.1,r.2,dZ hr,c.2,h,c.1⟩
theorem AH{t v:Expr}{pos:Pos}{i:Nat}{x:X}(ht:fm ce.scope ns t=some i)(hx:bC k ce ns v x)(hs:swapsWith v (some t) pos.line ce=pure false):eK k ce ns (.Assign [t] v pos) (.asg i x):=
 fun A E Q φ G s e fl e' G' c ev kk=>ay ev fun r e1 e2=>by
 replace kk:=jy e2 kk
 refine bu (ef ht) fun y p QW hk hi hpl=>?_;(clear ht hpl;subst QW);exact wpAny_Assign_Name (hx.at c e1 fun cv aO s1 v1 t1=>fB t1.inv (c.step t1).E hi hk v1 fun s2 g2=>kk _ _ _ rfl ((c.no t1).trans g2)) hs
theorem Js{ex:Expr}{pos:Pos}{x:X}(h:bC k ce ns ex x):eK k ce ns (.Return (some ex) pos) (.ret x):=fun A E Q φ G s e fl e' G' c ev kk=>ay ev fun r e1 e2=>by
 replace kk:=jy e2 kk
 exact wpAny_Return_some (h.at c e1 fun cv aO s1 v1 t1=>kk _ _ _ ⟨cv,rfl,v1⟩ (c.no t1))
theorem D0{pos:Pos}:eK k ce ns (.Return none pos) (.ret (.c (.c .none))):=fun A E Q φ G s e fl e' G' c ev kk=>by
 replace kk:=jY ev kk
 exact wpAny_Return_none (kk _ _ _ ⟨_,rfl,rfl⟩ (dX.refl c.I c.E))
theorem D3{ex:Expr}{pos:Pos}{x:X}(hc:jS ex=false)(h:bC k ce ns ex x):eK k ce ns (.Expr ex pos) (.expr x):=fun A E Q φ G s e fl e' G' c ev kk=>ay ev fun r e1 e2=>by
 replace kk:=jy e2 kk
 exact wpAny_Expr_any (h.at c e1 fun cv aO s1 v1 t1=>kk _ _ _ rfl (c.no t1)) (by unfold interactive;rw[c.E.kind];rfl) (b9 hc _ _ _)
theorem Jt{t:Expr}{a b:List Stmt}{pos:Pos}{x:X}{y z:List S}(ht:q7 k ce ns t x)(ha:lA k ce ns a y)(hb:lA k ce ns b z):eK k ce ns (.If t a b pos) (.ite x y z):=fun A E Q φ G s e fl e' G' c ev kk=>bindC ev fun r e1 ev=>bindC ev fun q e2 ev=>by
 refine wpAny_If (ht.at (r:=q) (G':=r.2) c (fW (v:=r.1) e1 (by rw[e2];rfl)) fun q' aO s1 hq t1=>?_)
 (clear ht e1 e2;subst hq)
 rename_i kU nG;clear kU nG;rcases q with _|_
 ·exact hb.at (c.step t1) ev fun f d9 s2 hf g2=>kk _ _ _ hf ((c.no t1).trans g2)
 ·exact ha.at (c.step t1) ev fun f d9 s2 hf g2=>kk _ _ _ hf ((c.no t1).trans g2)
theorem Ju{x:Str}{p pos:Pos}{op:Operator}{v:Expr}{i:Nat}{y:X}(ht:fm ce.scope ns (.Name x p)=some i)(hx:bC k ce ns v y):eK k ce ns (.AugAssign (.Name x p) op v pos) (.aug i op y):=fun A E Q φ G s e fl e' G' c ev kk=>by
 refine bu (ef ht) fun x' p' hh hk hi hpl=>?_
 (clear ht;cases hh)
 have ev':(match sl e i with| .v v=>(aq k.T k.U y e G).bind fun r=>(xA op v r.1).map fun z=>(Fl.aS,e.set i (.v z),r.2)|_=>none)=some (fl,e',G'):=ev
 generalize hz:sl e i=z at ev';clear ev;rcases z with _|v0|_|⟨_,_⟩|⟨_,_⟩|_
 ·exact xa ev'
 ·refine bindC ev' fun r e1 e2=>ay e2 fun z e3 e4=>?_
  replace kk:=jy e4 kk
  refine wpAny_AugAssign_Name (gp c.E hi (by rcases hk with q|q <;> rw[show ce.kindOf x=_ from q] <;> rfl) hz (ai hpl).2 fun cv hv=>hx.at c e1 fun cx aO s1 v1 t1=>G8 t1.inv (hv.mono t1.le) v1 e3 fun cr d9 s2 v2 t2=>?_);exact fB t2.inv ((c.step t1).step t2).E hi hk v2 fun s3 g3=>kk _ _ _ rfl ((c.no (t1.trans t2)).trans g3)
 ·exact xa ev'
 ·exact xa ev'
 ·exact xa ev'
 ·exact xa ev'
theorem Jv:lA k ce ns [] []:=fun A E Q φ G s e fl e' G' c ev kk=>by
 replace kk:=jY ev kk
 exact wpAny_execs_nil (kk _ _ _ rfl (dX.refl c.I c.E))
theorem D4{st:Stmt}:eK k ce ns st .bad:=fun A E Q φ G s e fl e' G' c ev kk=>xa ev
end
end Mine.Internal
end
noncomputable section
open PySem PySem.W PyProof.Rows
namespace Mine.Internal
section
variable{k:Ks}{ce:Env}{ns:List Str}
inductive FB(W:En->Gs->Prop)(z:Fl×En×Gs):Fl×En×Gs->Prop
 |aS{e:En}{G:Gs}(h:W e G):FB W z (.aS,e,G)
 |ret{v:V}{e:En}{G:Gs}(h:(.ret v,e,G)=z):FB W z (.ret v,e,G)
inductive WB(body:Cs)(W:En->Gs->Prop)(e:En)(z:Fl×En×Gs):Bool->Gs->Prop
 |off{G:Gs}(h:(.aS,e,G)=z):WB body W e z false G
 |on{G:Gs}{r:Fl×En×Gs}(h1:body e G=some r)(h:FB W z r):WB body W e z true G
theorem Gi{T:Cs}{r z:Fl×En×Gs}(h:(match r.1 with
   | .aS=>T r.2.1 r.2.2
   | .ret v=>some (.ret v,r.2.1,r.2.2))=some z):FB (fun e G=>T e G=some z) z r:=by
 rcases r with⟨_|_,_,_⟩
 ·exact .aS h
 ·exact .ret (Option.some.inj h)
theorem D5{P:Prop}{test:En->Gs->Option (Bool×Gs)}{body:Cs}{n:Nat}{e:En}{G:Gs}{z:Fl×En×Gs}(h:rK test body (n+1) e G=some z)(kk:∀t G2,test e G=some (t,G2)->WB body (fun e G=>rK test body n e G=some z) e z t G2->P):P:=
 bindC (show(test e G).bind _=some z from h) fun tq h1 h2=>kk tq.1 tq.2 h1 (by
  clear h kk h1;rcases tq with⟨_|_,_⟩
  ·exact .off (Option.some.inj h2)
  ·exact bindC h2 fun r h3 h4=>.on h3 (Gi h4))
theorem D6{P:Prop}{K:IK}{τ:xC}{body:Cs}{n j:Nat}{e:En}{G:Gs}{z:Fl×En×Gs}{v:V}(h:forL K τ body (n+1) j e G=some z)(hn:aS K j=some v)(kk:∀e1 r,τ.put v e=some e1->body e1 G=some r->FB (fun e G=>forL K τ body n (j+1) e G=some z) z r->P):P:=by have h:=elim_some hn h;exact bindC h fun e1 h1 h=>bindC h fun r h2 h3=>kk e1 r h1 h2 (Gi h3)
theorem x8{K:IK}{τ:xC}{body:Cs}{n j:Nat}{e:En}{G:Gs}{z:Fl×En×Gs}(h:forL K τ body (n+1) j e G=some z)(hn:aS K j=none):(.aS,e,G)=z:=by exact Option.some.inj (elim_none hn h)
theorem uD{m:Sem Flow}{f:Cs}(hb:Sv k ce ns m f){A:Around}{E:Value->Shared->Prop}{Q:Flow->Shared->Prop}{φ:Ph}{G G':Gs}{s:Shared}{e e':En}{fl:Fl}{r:Fl×En×Gs}{W:En->Gs->Prop}(c:kM k A ce ns φ G s e)(h:f e G=some r)(fb:FB W (fl,e',G') r)
  {Qr:Flow->Shared->Prop}(again:∀az e1 G1 s',W e1 G1->dX k.B ce ns e φ s e1 az G1 s'->Q .next s')(kr:SQ k ce ns e φ s fl e' G' Qr)(ret:∀cv s',Qr (.ret cv) s'->Q (.ret cv) s'):wpAny (model k.prog k.w) A m Q E s:=by
 rcases fb with h1|h1
 ·exact hb.at c h fun f uq s3 hf g3=>(show f= .next from hf)▸again uq _ _ s3 h1 g3
 ·exact hb.at c h fun f uq s3 hf g3=>Exists.elim hf fun cv q=>q.1▸ret cv s3 (jy h1 kr _ uq s3 ⟨cv,rfl,q.2⟩ g3)
theorem D7{st:Stmt}{l:List Stmt}{x:S}{xs:List S}(h:eK k ce ns st x)(hs:lA k ce ns l xs):lA k ce ns (st::l) (x::xs):=fun A E Q φ G s e fl e' G' c ev kk=>bindC ev fun r e1 ev=>
 wpAny_execs_cons (uD (W:=fun e G=>aN k.T k.U xs e G=some (fl,e',G')) h c e1 (by(clear h;rcases r with⟨_|_,_,_⟩);exact .aS ev;exact .ret (Option.some.inj ev)) (fun aO e1 G1 s1 w g1=>hs.at (c.go g1) w fun f d9 s2 hf g2=>kk _ _ _ hf (g1.trans g2)) kk fun u' u' q=>q)
theorem whl_turn{prog:Program}{w:World}{A:Around}{R:Result->Shared->Prop}{Q:Flow->Shared->Prop}{test:Expr}{body:List Stmt}{env:Env}{s:Shared}(hn:∀s',Q .next s'->R (.ok .next) s')(hr:∀v s',Q (.ret v) s'->R (.ok (.ret v)) s')(I:Nat->Shared->Prop)
  (turn:∀n s,I n s->∀(E:Value->Shared->Prop) (Q':Flow->Shared->Prop),(∀m s',m<n->I m s'->Q' .next s')->(∀v s',Q (.ret v) s'->Q' (.ret v) s')->wpAny (model prog w) A (isTrue test env (eval test env)) (fun b s₂=>cond b (wpAny (model prog w) A (execs body env) Q' E s₂) (Q .next s₂)) E s)
  (n:Nat)(h:I n s):codeAny (model prog w) A (.whileLoop test body [] env) R s:=
 codeAny_whileLoop I (fun n s hI=>wpAny_mono (turn n s hI _ (fun f s₃=>match f with
      | .next| .cont=>∃m,m<n/\I m s₃
      | .brk=>R (.ok .next) s₃
      | .ret v=>R (.ok (.ret v)) s₃) (fun m s' a b=>⟨m,a,b⟩) hr) (fun b s₂ h₂=>by
   clear hr turn hI;rcases b with _|_
   ·exact wpAny_execs_nil (hn _ h₂)
   ·exact h₂) fun u' u' h'=>h') n h
theorem Jw{t:Expr}{b:List Stmt}{pos:Pos}{x:X}{y:List S}(ht:q7 k ce ns t x)(hb:lA k ce ns b y):eK k ce ns (.While t b [] pos) (.rC x y):=fun A E Q φ G s e fl e' G' c ev kk=>
 wpAny_While (whl_turn (Q:=Q) (fun u' h=>h) (fun u' u' h=>h) (fun m s1=>∀P:Prop,(∀aO G1 e1,dX k.B ce ns e φ s e1 aO G1 s1->rK (fun e G=>(aq k.T k.U x e G).bind fun x=>(truthy x.1).map fun q=>(q,x.2)) (fun e G=>aN k.T k.U y e G) m e1 G1=some (fl,e',G')->P)->P)
  (fun m s1 hI E1 Q1 again ret=>hI _ fun aO G1 e1 g1 mz=>by
   rcases m with _|m
   ·exact xa mz
   ·refine D5 mz fun q G2 h1 wb=>bindC h1 fun r h2 h1=>ay h1 fun q' h3 h4=>?_
    refine ht.at (r:=q) (G':=G2) (c.go g1) (fW (v:=r.1) (G1:=r.2) h2 (by rw[h3];exact congrArg some h4)) fun q' d9 s2 hq t2=>?_
    (clear ht hI mz h1 h2 h3 h4;subst hq)
    have Pa:=g1.trans ((c.go g1).no t2);clear g1 h1 t2;rcases wb with h|⟨h5,fb⟩
    ·exact jy h kk _ _ _ rfl Pa
    ·exact uD hb (c.go Pa) h5 fb (fun az e2 G2 s' w g=>again m s' (Nat.lt_succ_self _) fun P h=>h az _ _ (Pa.trans g) w) (fun u' u' u' hf g=>kk _ _ _ hf (Pa.trans g)) ret)
  fuel fun P h=>h φ G e (dX.refl c.I c.E) ev)
theorem x9{b:List Stmt}{h0:ExceptHandler}{hs:List ExceptHandler}{pos:Pos}{y:List S}(h:lA k ce ns b y):eK k ce ns (.Try b (h0::hs) [] [] pos) (.tryAll y):=fun A E Q φ G s e fl e' G' c ev kk=>by
 refine wpAny_Try_except (h.at c ev fun f aO s1 hf g1=>?_);rcases fl with _|v
 ·(clear h c ev;obtain rfl:=hf);exact wpAny_execs_nil (kk _ _ _ rfl g1)
 ·refine av (hf) fun cv Lg hv=>?_;(clear h c ev hf;subst Lg);exact kk _ _ _ ⟨cv,rfl,hv⟩ g1
structure JI(B:Base)(ce:Env)(ns:List Str)(e:En)(φ:Ph)(h:Heap)(J:Addr):Prop where
 nM:lU B φ J
 live:∃o,h.get? J=some o
 nl:J≠ce.locals
 nc:∀n i c,ix ns n=some i->jb (ce.kindOf n)=true->ce.cells.lookup n=some c->c≠J
 no:¬dw ce ns e h J
section
variable{B:Base}{e e1 e2:En}{φ aO d9:Ph}{G G1 G2:Gs}{s s1 s2:Shared}{J:Addr}
theorem JI.fx(x:JI B ce ns e φ s.heap J):¬FX ce ns e s.heap J:=fun h=>h.elim x.nl fun h=>h.elim (fun bE=>bN bE fun n h1 h2 hc=>(vV (List.contains_iff_mem.mpr h1)).elim fun i hi=>x.nc n i J hi h2 hc rfl) x.no
theorem JI.go(x:JI B ce ns e φ s.heap J)(g:dX B ce ns e φ s e1 aO G1 s1):JI B ce ns e1 aO s1.heap J/\∀o,s.heap.get? J=some o->s1.heap.get? J=some o:=
 x.live.elim fun o ho=>have f:=x.nM.step g.st ho x.fx
  ⟨⟨f.1,⟨o,f.2⟩,x.nl,x.nc,fun h=>(g.own J h).elim x.no fun q=>xa (q.symm.trans ho)⟩,fun o' e=>(x.nM.step g.st e x.fx).2⟩
theorem dX.turn(g:dX B ce ns e φ s e1 aO G1 s1)(x:JI B ce ns e1 aO s1.heap J)(t:Step B (fun b=>b=J) aO s1 aO G1 s2)(hJ:s.heap.get? J=none):dX B ce ns e φ s e1 aO G1 s2/\¬dw ce ns e1 s2.heap J:=by
 have h2:∀b,dw ce ns e1 s1.heap b->¬b=J:=fun b hb q=>x.no (q▸hb);have bk:∀b,dw ce ns e1 s2.heap b->dw ce ns e1 s1.heap b:=fun b bE=>bw bE fun m' y i hm' hi hk ho=>by clear bE;obtain⟨m,hm⟩:=g.en.loc;exact dw.back g.en (fun a o q gg hc hw=>(t.kept a o gg (h2 a hw) q.tb (t.di gg q.mu (h2 a hw))).2 q.fr) hm.nm hm' hi hk (congrFun (bR hm' (eZ t g.en (Ne.symm x.nl) hm.nm)) y) ho
 exact⟨⟨g.st.hide t fun b hb=>.inr (hb▸hJ),g.en.step t (Ne.symm x.nl) h2 x.nc,fun b hb=>g.own b (bk b hb)⟩,fun h=>x.no (bk J h)⟩
theorem dY.lose(x:dY B ce ns φ e s.heap){h':Heap}(j:JI B ce ns e φ s.heap J)(kp:∀b o,b≠J->s.heap.get? b=some o->h'.get? b=some o):dY B ce ns φ e h'/\∀b,dw ce ns e h' b->dw ce ns e s.heap b:=by refine⟨⟨x.kind,x.tO,x.blt,x.cd,x.len,x.LF,x.LM,x.LT,x.loc.imp fun m hm=>hm.keep (.refl _) (fun o ho=>⟨o,kp _ o (Ne.symm j.nl) ho,rfl⟩) (fun a o q hz ho _=>⟨q,kp a o (fun z=>j.no (z▸hz)) ho⟩),fun y i hi hk=>(x.oh y i hi hk).imp fun c y=>⟨y.1,y.2.keep (.refl _) y.2.f y.2.mu fun o ho=>⟨o,kp c o (j.nc _ _ _ hi hk y.1) ho,rfl⟩⟩,x.inj⟩,fun b bE=>bw bE fun m' y i hm' hi hk ho=>?_⟩;clear bE;obtain⟨m,hm⟩:=x.loc;exact dw.back (s':={s with heap:=h'}) x (fun a o q gg hc hw=>kp a o (fun z=>j.no (z▸hw)) gg) hm.nm hm' hi hk (congrFun (bR hm' (gn hm.nm fun o ho=>⟨o,kp _ o (Ne.symm j.nl) ho,rfl⟩)) y) ho
end
theorem Gj{B:Base}{prog:Program}{w:World}{A:Around}{E:Value->Shared->Prop}{Q:Unit->Shared->Prop}{φ:Ph}{G:Gs}{s:Shared}{e e':En}{t:Expr}{τ:xC}{v:V}{cv:Value}(ht:zE ce.scope ns t=some τ)(hh:A.handled=none)(I:Inv B φ G s)(En:dY B ce ns φ e s.heap)(hv:VR φ v cv)(hp:τ.put v e=some e')
  (kk:∀s',dX B ce ns e φ s e' φ G s'->Q () s'):wpAny (model prog w) A (assign t ce cv) Q E s:=by
 refine gu ht (fun h=>ay h fun i hi q=>?_) fun h=>bindC h fun r hr h=>bindC h fun p hp2 h=>bindC h fun i hi h=>ay h fun j hj q=>?_
 ·subst q
  (revert kk;apply af (hp);intro kk)
  obtain⟨x,p,rfl,hk,hi,_⟩:=ef hi;exact wpAny_assign_Name (fB I En hi hk hv kk)
 ·subst q
  refine ay hp fun pr Us q=>?_;subst q;rw[pW hr,dz hp2];rw[r9 Us]at hv;refine aX (hv) fun ad us m GU gg MQ=>aI MQ fun c1 r1 q1 v1 MR=>aI MR fun c2 r2 Lh v2 q3=>?_;clear MQ MR;subst GU;subst Lh
  (rename_i aH bI bS;clear aH bI bS;obtain rfl:=q3)
  refine bu (ef hi) fun x px e1 hkx hix _=>?_;refine bu (ef hj) fun y py e2 MS Ut _=>?_;rw[e1,e2];refine wpAny_assign_Tuple hh ⟨_,I.keep _ _ gg,rfl,m,rfl⟩ (by rw[<-Array.length_toList,q1];rfl) rfl fun h' hx'=>?_;rw[q1];have st:Step B No φ s φ G {s with heap:=h'}:=Step.more I (fun b o hb=>hx' b o (fun q=>by rw[q,Inv.bL s]at hb;exact xa hb) hb) (Nat.le_refl _);have g0:=dX.no I En st;exact assignInOrder_cons (wpAny_assign_Name (fB g0.st.inv g0.en hix hkx v1 fun s3 g3=>assignInOrder_cons (wpAny_assign_Name (fB g3.st.inv g3.en Ut MS v2 fun s4 g4=>assignInOrder_nil (kk s4 ((g0.trans g3).trans g4))))))
noncomputable def QX (M:Model) (A:Around) (target it:Expr) (body:List Stmt) (itv:Value) (env:Env) (E:Value->Shared->Prop) (Q:Flow->Shared->Prop) (v:Value) (s:Shared):Prop:=
 wpAny M A (letOwnedTupleGo target itv v) (fun u' s₁=>wpAny M A (assign target env v) (fun u' s₂=>wpAny M A (execs body env) Q E s₂) E s₁) E s
theorem sG{prog:Program}{w:World}{A:Around}{R:Result->Shared->Prop}{Q:Flow->Shared->Prop}{target:Expr}{itv:Value}{body:List Stmt}{env:Env}{s:Shared}(hn:∀s',Q .next s'->R (.ok .next) s')(hr:∀v s',Q (.ret v) s'->R (.ok (.ret v)) s')(I:Nat->Shared->Prop)
  (turn:∀n s,I n s->∀(E:Value->Shared->Prop) (Q':Flow->Shared->Prop),(∀m s',m<n->I m s'->Q' .next s')->(∀v s',Q (.ret v) s'->Q' (.ret v) s')->wpAny (model prog w) A (pyNext itv) (fun r s₁=>r.elim (Q .next s₁) fun v=>QX (model prog w) A target target body itv env E Q' v s₁) E s)
  (n:Nat)(h:I n s):codeAny (model prog w) A (.forLoop target itv body [] env) R s:=
 codeAny_forLoop_any I (fun n s hI=>wpAny_mono (turn n s hI _ (fun f s₃=>match f with
      | .next| .cont=>∃m,m<n/\I m s₃
      | .brk=>R (.ok .next) s₃
      | .ret v=>R (.ok (.ret v)) s₃) (fun m s' a b=>⟨m,a,b⟩) hr) (fun r s₂ h₂=>by
   clear hr turn hI;rcases r with _|_
   ·exact wpAny_execs_nil (hn _ h₂)
   ·exact h₂) fun u' u' h'=>h') n h
theorem JI.made{B:Base}{aO:Ph}{G1:Gs}{s1 s2:Shared}{e:En}{J:Addr}{o:Obj}(Iv:Inv B aO G1 s1)(D8:dY B ce ns aO e s1.heap)(t2:Step B No aO s1 aO G1 s2)(hJ:s1.heap.get? J=none)(gJ:s2.heap.get? J=some o):JI B ce ns e aO s2.heap J:=by
 have nJ:∀a o,s1.heap.get? a=some o->a≠J:=fun a o e q=>xa (hJ.symm.trans (q▸e));refine bK (D8.loc) fun m hm=>?_;refine jq (id hm.nm) fun oL u' u' gL _=>?_;have hm2:=eZ t2 D8 id hm.nm;refine⟨Iv.nM hJ,⟨o,gJ⟩,Ne.symm (nJ _ _ gL),fun n i c hi hk hc=>?_,fun bE=>bw bE fun m' y i hm' hi hk ho=>?_⟩
 ·obtain⟨c',q1,q2⟩:=D8.oh n i hi hk
  (clear Iv hJ gJ gL;obtain rfl:=Option.some.inj (q1.symm.trans hc))
  clear q1;obtain⟨w,⟨o,g,_⟩,_⟩:=q2.v;exact nJ _ _ g
 ·have bk:=dw.back D8 (fun a o q g hc _=>(t2.kept a o g id q.tb (t2.di g q.mu id)).2 q.fr) hm.nm hm' hi hk (congrFun (bR hm' hm2) y) ho
  clear Iv D8 t2 hJ gJ gL hm2 bE hm' hi hk ho;obtain⟨m0,y0,i0,hm0,hi0,hk0,QY⟩:=bk;have sr:=hm.sr y0 i0 hi0 hk0;simp only[bR hm.nm hm0]at sr;obtain⟨_,_,_,_,_,_,_,p',g',_⟩:=sr.own QY;exact nJ _ _ g' rfl
theorem Jx(Si:cD k){v:Expr}{pos:Pos}{it:Expr}{b:List Stmt}{τ:xC}{x:X}{y:List S}(hn:iu it=false)(ht:zE ce.scope ns v=some τ)(hx:bC k ce ns it x)(hb:lA k ce ns b y):
  eK k ce ns (.For v it b [] pos) (.eE τ x y):=fun A E Q φ G s e fl e' G' c ev kk=>bindC ev fun src e1 ev=>bindC ev fun KK e2 ev=>
 wpAny_For (hx.at c e1 fun cv aO s1 h1 t1=>Aq Si.hP Si.O t1.inv h1 e2 fun J s2 t2 hJ It=>cU (It.fld) fun oJ fs gJ dJ=>
  have S3:s.heap.get? J=none:=t1.dead hJ
  sG (Q:=Q) (fun u' h=>h) (fun u' u' h=>h) (fun nf s'=>∀P:Prop,(∀n uq G3 e3,dX k.B ce ns e φ s e3 uq G3 s'->JI k.B ce ns e3 uq s'.heap J->i7 k.B uq s'.heap J KK n->forL KK τ (fun e G=>aN k.T k.U y e G) nf n e3 G3=some (fl,e',G')->P)->P)
  (fun nf s3 hI E1 Q1 again ret=>hI _ fun n uq G3 e3 g3 j3 Mz QZ=>by
   clear hx e1 e2 h1 dJ hI;rcases nf with _|nf
   ·exact xa QZ
   ·refine w_next Si.hP c.R.h g3.st.inv j3.nM Mz (fun v' cv s4 Q0 hv t4 K0=>D6 QZ Q0 fun e5 r Uu h5 fb=>?_) (fun h' Q0 hk=>?_)
    ·refine cJ (g3.turn j3 t4 S3) fun g4 n4=>?_
     refine cU (K0.fld) fun o4 VZ Uv _=>?_;have j4:JI k.B ce ns e3 uq s4.heap J:=⟨j3.nM,⟨o4,Uv⟩,j3.nl,j3.nc,n4⟩;refine vZ K0 (Gj ht c.R.h g4.st.inv g4.en hv Uu fun s5 g5=>?_);refine cJ (j4.go g5) fun j5 k5=>?_;have Uw:=K0.keep (h':=s5.heap) g5.st.le fun o e=>k5 o e;have Q2:=g4.trans g5;exact uD hb (c.go Q2) h5 fb (fun Q3 e6 G6 s6 w g6=>cJ (j5.go g6) fun j6 k6=>again nf s6 (Nat.lt_succ_self _) fun P h=>h (n+1) Q3 _ _ (Q2.trans g6) j6 (Uw.keep (h':=s6.heap) g6.st.le fun o e=>k6 o e) w) (fun u' u' u' hf g=>kk _ _ _ hf (Q2.trans g)) ret
    ·refine cJ (g3.en.lose j3 hk) fun Q4 Q5=>?_
     exact jy (x8 QZ Q0) kk _ _ _ rfl ⟨g3.st.lose (g:=s3.gens) S3 j3.nM g3.st.inv.gens hk g3.st.gk,Q4,fun b hb=>g3.own b (Q5 b hb)⟩)
  fuel fun P h=>h 0 aO src.2 e (c.no (t1.trans t2)) (JI.made t1.inv (c.step t1).E t2 hJ gJ) It ev) (gE hn ce)
end
end Mine.Internal
end
noncomputable section
open PySem PySem.W PyProof.Rows
namespace Mine.Internal
section
variable{k:Ks}{ce:Env}{ns:List Str}
theorem JI.new{B:Base}{e:En}{φ az:Ph}{G':Gs}{s s':Shared}{J:Addr}{o:Obj}(En:dY B ce ns φ e s.heap)(t:Step B No φ s az G' s')(hJ:s.heap.get? J=none)(f:lU B az J)(g:s'.heap.get? J=some o):JI B ce ns e az s'.heap J:=by
 have nJ:∀a o,s.heap.get? a=some o->a≠J:=fun a o e q=>by rw[q,hJ]at e;exact xa e
 refine bK (En.loc) fun m hm=>?_;refine jq (id hm.nm) fun oL u' u' gL _=>?_;refine⟨f,⟨o,g⟩,Ne.symm (nJ _ _ gL),fun n i c hi hk hc=>?_,fun bE=>bw bE fun m' y i hm' hi hk ho=>?_⟩
 ·obtain⟨c',q1,q2⟩:=En.oh n i hi hk
  obtain rfl:=Option.some.inj (q1.symm.trans hc);obtain⟨w,⟨o,g,_⟩,_⟩:=q2.v;exact nJ _ _ g
 ·obtain⟨m0,y0,i0,hm0,hi0,hk0,QY⟩:=dw.back En (fun a o q g hc _=>(t.kept a o g id q.tb (t.di g q.mu id)).2 q.fr) hm.nm hm' hi hk (congrFun (bR hm' (eZ t En id hm.nm)) y) ho
  have sr:=hm.sr y0 i0 hi0 hk0;simp only[bR hm.nm hm0]at sr;obtain⟨_,_,_,_,_,_,_,p',g',_⟩:=sr.own QY;exact nJ _ _ g' rfl
theorem sH{x:Str}{pv:Pos}{i:Nat}(hv:ce.kindOf x=some .local)(hi:ix ns x=some i){A:Around}{E:Value->Shared->Prop}{Q:Value->Shared->Prop}{φ:Ph}{G G':Gs}{s:Shared}{e:En}{r:V}(cu:kM k A ce ns φ G s e)(kk:∀az s',dX k.B ce ns e φ s (e.set i (.v r)) az G' s'->Q .none s')
  {D C:Addr}{az:Ph}{s5:Shared}{m:Str->Option Value}(hr:VR az r (.ref D))(t:Step k.B No φ s az G' s5)(hC:s.heap.get? C=none)(fC:lU k.B az C)(hm:s5.heap.Ns C m):compPost (model k.prog k.w) A E (some (assign (.Name x pv) ce)) Q (.ref D) C (.ok .next) s5:=by
 refine jq (hm) fun oo es ep m1 m2=>?_;have j5:=JI.new cu.E t hC fC m1;refine wpAny_assign_Name (fB t.inv (cu.step t).E hi (.inl hv) hr fun s6 g6=>?_);refine cJ (j5.go g6) fun j6 k6=>?_;have g:=(cu.no t).trans g6;refine⟨m,⟨oo,es,ep,k6 _ m1,m2⟩,fun h' hs=>?_⟩;have hk:∀b o,b≠C->s6.heap.get? b=some o->h'.get? b=some o:=fun b o hb e=>(hs.2 b hb).trans e;refine cJ (g.en.lose j6 hk) fun Q4 Q5=>?_;exact kk _ _ ⟨g.st.lose (g:=s6.gens) hC j6.nM g.st.inv.gens hk g.st.gk,Q4,fun b hb=>g.own b (Q5 b hb)⟩
theorem D9{aF M:List Str}{g:bf}{n:Nat}{sc:Scope}{elt:Expr}{gens:List Comprehension}{scope:Scope}{pos:Pos}{x:X}(h:cX aF M g (n+1) sc ns (.ListComp elt gens scope pos)=some x):
  ∃(t:List Str×Comprehension) (sx yx:X) (l:List X),pX gens=some t/\iu t.2.iter=false/\m9 sc scope ns t.1=true/\cX aF [] g n sc ns t.2.iter=some sx/\cX [] [] g n (xF scope sc) (t.1++ns) elt=some yx/\aA (cX [] [] g n (xF scope sc) (t.1++ns)) t.2.ifs=some l/\x= .comp (Nat.beq t.1.length 2) yx sx l:=
 gu (h:(zo _ _ _ _ _ _ _).or _=_) (fun h=>xa h) fun h=>gu h (fun h=>xa h) fun h=>bindC h fun t ht h=>ak h fun hm h=>bindC h fun a h1 h=>bindC h fun b h2 h=>ay h fun c h3 e=>⟨t,a,b,c,ht,hm.1,hm.2,h1,h2,h3,e.symm⟩
theorem is_list{aF M:List Str}{g:bf}{n:Nat}{sc:Scope}{v:Expr}{x:X}(hx:cX aF M g (n+1) sc ns v=some x)(hc:¬jS v=false):∃elt gens scope pos,v= .ListComp elt gens scope pos:=by rcases v with⟨⟩ <;> first|exact absurd rfl hc|exact⟨_,_,_,_,rfl⟩|exact gu (hx:(zo _ _ _ _ _ _ _).or _=_) (fun h=>xa h) fun h=>gu h (fun h=>xa h) fun h=>xa h
theorem Ea(S:cD k){aF M:List Str}{t v:Expr}{pos:Pos}{i n:Nat}{x:X}(ht:fm ce.scope ns t=some i)(hx:cX aF M k.g (n+1) ce.scope ns v=some x):eK k ce ns (.Assign [t] v pos) (.asg i x):=by
 by_cases hc:jS v=false
 ·exact AH ht (eG S _ hx).1 (b9 hc _ _ _)
 obtain⟨elt,gens,scope,cpos,rfl⟩:=is_list hx hc;refine bK (D9 hx) fun tt MT=>aV MT fun sx yx l qg q0 q1 q2 q3 q4 Q6=>?_;clear MT;subst Q6;refine bu (ef ht) fun z p Q7 hk hi hpl=>?_;subst Q7;refine cJ (ly qg) fun g1 g2=>?_;have hsw:swapsWith (.ListComp elt gens scope cpos) (some (.Name z p)) pos.line ce=pure (ce.blockKind== .function&&ce.kindOf z==some .local&&p.line==cpos.line&& !(scope.names.any fun(n,k)=>n==z&&(k== .local||k== .cell))):=rfl;by_cases hb:(ce.blockKind== .function&&ce.kindOf z==some .local&&p.line==cpos.line&& !(scope.names.any fun(n,k)=>n==z&&(k== .local||k== .cell)))=true
 ·refine fun A E Q φ G s e fl e' G' c ev kk=>ay ev fun r e1 e2=>?_
  replace kk:=jy e2 kk
  have hl:ce.kindOf z=some .local:=by simp only[Bool.and_eq_true,beq_iff_eq]at hb;exact hb.1.1.2
  rw[hb]at hsw;rw[exec_Assign_Name_used _ _ _ _ hsw,g1];refine wpAny_bind (wpAny_standAt (wpAny_bind ?_));refine Gh e1 fun v G1 KK res a1 a2 a3 er=>wpAny_bind (kZ S sq (fun h=>wpAny_newObj_type (T:="list") (data:=.seq ([]:List Value).toArray) h) ⟨fun u' u' _=>rfl,fun u' u' u' _=>rfl,fun u' u' _=>rfl,fun u' u' u' _=>rfl⟩ rfl (fun u' u' _=>rfl) g2 (kY q1) q0 (eG S _ q2).1 (fun C cs ex x' hh=>(eG S n (ce:=compEnvC scope cs C ce) hh).2) (fun C cs D=>Ay (eG S n (ce:=compEnvC scope cs C ce) q3).1) q4 c a1 a2 a3 fun D C az s5 m hr t hC fC hm=>?_);have er:r.1=Ax.val res:=er;refine sH hl hi c (fun az s' go=>?_) hr t hC fC hm;exact wpAny_pure (wpAny_pure (kk _ _ _ rfl (er▸go)))
 ·rw[Bool.not_eq_true]at hb
  rw[hb]at hsw;exact AH ht (eG S _ hx).1 hsw
end
end Mine.Internal
end
noncomputable section
open PySem PySem.W PyProof.Rows
namespace Mine.Internal
section
variable{k:Ks}{ce:Env}{ns:List Str}
theorem qo{B:Base}{M:Model}{A:Around}{E:Value->Shared->Prop}{Q:Unit->Shared->Prop}{φ:Ph}{G:Gs}{s:Shared}{e:En}{ex:Expr}{i:Nat}{v:V}{cv:Value}(I:Inv B φ G s)(En:dY B ce ns φ e s.heap)(h:fm ce.scope ns ex=some i)(hv:VR φ v cv)
  (kk:∀s',dX B ce ns e φ s (e.set i (.v v)) φ G s'->Q () s'):wpAny M A (assign ex ce cv) Q E s:=by
 refine bu (ef h) fun x p Q8 hk hi hpl=>?_;(clear h hpl;subst Q8);exact wpAny_assign_Name (fB I En hi hk hv kk)
theorem iU{sc:Scope}{t:Expr}{i:Nat}(h:fm sc ns t=some i)(ts:List Expr)(env:Env):assignEach (t::ts) env=(false,assign t env)::assignEach ts env:=by refine cU (ef h) fun x p Q9 _=>?_;(clear h;subst Q9);rfl
theorem sI{sc:Scope}{env:Env}:∀{ts:List Expr} {is:List Nat},aA (fm sc ns) ts=some is->(assignEach ts env).length=is.length/\(assignEach ts env).findIdx? (·.1)=none
 |[],is,h=>by(apply af (h));exact⟨rfl,rfl⟩
 |t::ts,is,h=>aD h fun i q h1 h2 h3=>by
  (clear h;subst h3)
  rw[iU h1];refine cJ (sI (env:=env) h2) fun a b=>?_;refine⟨congrArg (· +1) a,?_⟩;rw[List.findIdx?_cons,b];rfl
theorem lW:∀{is:List Nat} {vs:List V} {e e':En},fK is vs e=some e'->is.length=vs.length
 |[],[],_,_,_=>rfl
 |[],_::_,_,_,h=>xa h
 |_::_,[],_,_,h=>xa h
 |i::is,v::vs,e,e',h=>congrArg (· +1) (lW (is:=is) (vs:=vs) (e:=e.set i (.v v)) (e':=e') h)
theorem pq{B:Base}{prog:Program}{w:World}{A:Around}{E:Value->Shared->Prop}{Q:Unit->Shared->Prop}{φ:Ph}{G:Gs}:∀{ts:List Expr} {is:List Nat} {vs:List V} {aP:List Value} {e e':En} {s:Shared},aA (fm ce.scope ns) ts=some is->fK is vs e=some e'->bz φ vs aP->
  Inv B φ G s->dY B ce ns φ e s.heap->(∀s',dX B ce ns e φ s e' φ G s'->Q () s')->wpAny (model prog w) A (assignInOrder ((assignEach ts ce).map (·.2)) aP) Q E s
 |[],is,vs,aP,e,e',s,h,hm,hv,I,En,kk=>by
  (revert hm;apply af (h);intro hm)
  rcases vs with _|⟨_,_⟩
  ·(revert kk;apply af (hm);intro kk);obtain rfl:=hv;exact assignInOrder_nil (kk _ (dX.refl I En))
  ·exact xa hm
 |t::ts,is,vs,aP,e,e',s,h,hm,hv,I,En,kk=>aD h fun i q h1 h2 h3=>by
  (clear h;subst h3)
  rcases vs with _|⟨v,vs⟩
  ·exact xa hm
  ·refine aI (hv) fun cv r Ra hv1 hv2=>?_;(clear hv;subst Ra)
   rw[iU h1];exact assignInOrder_cons (qo I En h1 hv1 fun s1 g1=>pq h2 hm hv2 g1.st.inv g1.en fun s2 g2=>kk _ (g1.trans g2))
theorem qp{t v:Expr}(h:nh v=false)(env:Env):swappedStores [t] v env=pure none:=by rcases t with⟨⟩ <;> first|rfl|(rcases v with⟨⟩ <;> first|rfl|exact xd h)
theorem Eb{ts:List Expr}{n:Nat}{p:Pos}{v:Expr}{pos:Pos}{is:List Nat}{x:X}(ht:aA (fm ce.scope ns) ts=some is)(hv:nh v=false)(hx:bC k ce ns v x):eK k ce ns (.Assign [.Tuple ts n p] v pos) (.tU is x):=fun A E Q φ G s e fl e' G' c ev kk=>bindC ev fun r e1 ev=>by
 refine wpAny_Assign_stores (hx.at c e1 fun cv aO s1 v1 t1=>?_) (iA v (.Tuple ts n p) pos.line ce (fun _ _ _ _=>rfl) (fun _ _ _ _=>rfl) fun _ _ _ _ _=>rfl) (qp hv _);obtain⟨rv,rG⟩:=r;rename_i kU;clear kU;rcases rv with _|_|_|vs|_|⟨_,_⟩
 ·exact xa ev
 ·exact xa ev
 ·exact xa ev
 ·refine ay ev fun e2 e3 e4=>?_
  replace kk:=jy e4 kk
  refine aX (v1) fun ad us m Rb gg rr=>?_;(clear v1;subst Rb);show wpAny _ _ (assign (.Tuple ts n p) ce (.ref ad)) _ _ _;refine cJ (sI (env:=ce) ht) fun l1 l2=>?_;refine wpAny_assign_Tuple c.R.h ⟨_,t1.inv.keep _ _ gg,rfl,m,rfl⟩ (by rw[l1,lW e3,rr.size]) l2 fun h' hx'=>?_;have st:Step k.B No aO s1 aO _ {s1 with heap:=h'}:=Step.more t1.inv (fun b o hb=>hx' b o (fun q=>by rw[q,Inv.bL s1]at hb;exact xa hb) hb) (Nat.le_refl _);exact pq ht e3 rr st.inv ((c.step t1).step st).E fun s2 g3=>kk _ _ _ rfl ((c.no (t1.trans st)).trans g3)
 ·exact xa ev
 ·exact xa ev
end
end Mine.Internal
end
noncomputable section
open PySem PySem.W PyProof.Rows
namespace Mine.Internal
noncomputable def qs:Expr->Bool
 | .Starred .. =>true
 |_=>false
theorem v9{c:Expr}(h:noStar c=true):qs c=false:=by rcases c with⟨⟩ <;> first|rfl|exact xc h
section
variable{k:Ks}{ce:Env}{ns:List Str}
theorem jZ{na nb:Str}{pa pb p1 p2:Pos}{k1 k2:Nat}{c d:Expr}(hk:ce.blockKind= .function)(ha:ce.kindOf na=some .local)(hb:ce.kindOf nb=some .local)(hne:na≠nb)(hl:(pa.line==pb.line)=true)(hc:noStar c=true)(hd:noStar d=true)
  (hf:foldedForSure 8 c=false)(hq:constantsAlone 8 c=false):swappedStores [.Tuple [.Name na pa,.Name nb pb] k1 p1] (.Tuple [c,d] k2 p2) ce=pure (some [na,nb]):=by
 unfold swappedStores;have hs:([c,d].any qs)=false:=by show(qs c||(qs d||false))=false;simp only[v9 hc,v9 hd];rfl
 have hl':(pb.line==pa.line)=true:=by rw[beq_iff_eq]at hl⊢;exact hl.symm
 have hne':(nb==na)=false:=beq_eq_false_iff_ne.mpr (Ne.symm hne);have hz:(if(([c,d].all (foldedForSure 8))=true)then(pure none:Sem (Option (List Str)))else if([c,d].all (constantsAlone 8)=true)then unsupported "assign.tuple-of-constant-expressions:order-of-the-stores" else pure (some [na,nb]))=pure (some [na,nb]):=by rw[if_neg (by simp[hf]),if_neg (by simp[hq])]
 have hnames:([Expr.Name na pa,Expr.Name nb pb].filterMap fun| .Name id pos=>if(ce.kindOf id==some .local&&pos.line==(([Expr.Name na pa,Expr.Name nb pb].head?.map (·.pos.line)).getD 0))=true then some id else none|_=>none)=[na,nb]:=by
  show([Expr.Name na pa,Expr.Name nb pb].filterMap fun| .Name id pos=>if(ce.kindOf id==some .local&&pos.line==pa.line)=true then some id else none|_=>none)=[na,nb]
  have e1:(ce.kindOf na==some NameKind.local&&pa.line==pa.line)=true:=by rw[ha];simp
  have e2:(ce.kindOf nb==some NameKind.local&&pb.line==pa.line)=true:=by rw[hb,hl'];rfl
  simp only[List.filterMap_cons,List.filterMap_nil,e1,e2,if_true]
 have Ux:([na,nb]:List Str).eraseDups.length=2:=by
  have h0:∀(b:Bool),b=false->(if(!b)=true then[nb]else([]:List Str)).length=1:=by rintro _ rfl;rfl
  simp[List.eraseDups_cons,Ne.symm hne]
 refine(if_neg (by rw[hk];simp)).trans ((if_neg fun hh=>Bool.false_ne_true (hs.symm.trans hh)).trans ?_);have fin:∀L:List Str,L=[na,nb]->(if(L.length !=2||L.eraseDups.length !=L.length)=true then(pure none:Sem (Option (List Str)))else if([c,d].all (foldedForSure 8)=true)then pure none else if([c,d].all (constantsAlone 8)=true)then unsupported "assign.tuple-of-constant-expressions:order-of-the-stores" else pure (some L))=pure (some [na,nb]):=by rintro _ rfl;rw[if_neg (by rw[Ux];simp)];exact hz
 exact fin _ hnames
theorem Ec{na nb:Str}{pa pb p1 p2 pos:Pos}{k1 k2:Nat}{c d:Expr}{i j:Nat}{x y:X}(ha:ce.kindOf na=some .local)(hb:ce.kindOf nb=some .local)(hne:na≠nb)(hl:(pa.line==pb.line)=true)(hc:noStar c=true)(hd:noStar d=true)
  (hf:foldedForSure 8 c=false)(hq:constantsAlone 8 c=false)(hi:ix ns na=some i)(hj:ix ns nb=some j)(hx:bC k ce ns c x)(hy:bC k ce ns d y):
  eK k ce ns (.Assign [.Tuple [.Name na pa,.Name nb pb] k1 p1] (.Tuple [c,d] k2 p2) pos) (.CV i j x y):=fun A E Q φ G s e fl e' G' cu ev kk=>bindC ev fun r1 e1 ev=>ay ev fun r2 e2 e3=>by
 replace kk:=jy e3 kk
 simp only[exec_Assign_arm];refine wpAny_bind (wpAny_standAt ?_);have hsw:swapsWithSole [.Tuple [.Name na pa,.Name nb pb] k1 p1] (.Tuple [c,d] k2 p2) pos.line ce=pure false:=rfl;rw[hsw];refine wpAny_bind (wpAny_pure ?_);rw[if_neg (by decide)];refine wpAny_bind (wpAny_Tuple ?_);refine w_eq (by rw[au _ _ (by simp[hc,hd])]) ?_;refine Calls.spliced_cons (hx.at cu e1 fun cx aO s1 v1 t1=>Calls.spliced_cons (hy.at (cu.step t1) e2 fun cy d9 s2 v2 t2=>Calls.spliced_nil ?_));refine⟨by rw[sizeLine_eq];show 2<=16777216;decide,?_⟩;rw[jZ (mU cu.E) ha hb hne hl hc hd hf hq];refine wpAny_bind (wpAny_pure ?_);show wpAny _ _ (do rule "assign.swapped-stores";let items <-unpackItems (.ref s2.heap.objs.size) 2 none;assignInOrder [bindName ce nb,bindName ce na] items.reverse;pure Flow.next) _ _ _;refine wpAny_bind (wpAny_rule (wpAny_bind ?_));have ht:(s2.heap.push {cls:=.type "tuple",data:=.seq [cx,cy].toArray}).IsTuple s2.heap.objs.size #[cx,cy]:=⟨_,Heap.get?_push_size _ rfl,rfl,_,rfl⟩;refine wpAny_unpackItems_tuple (items:=#[cx,cy]) cu.R.h ht fun h' hx'=>?_;have st1:Step k.B No d9 s2 d9 r2.2 {s2 with heap:=s2.heap.push {cls:=.type "tuple",data:=.seq [cx,cy].toArray}}:=Step.push t2.inv _ (Nat.le_refl _);have st2:Step k.B No d9 s2 d9 r2.2 {s2 with heap:=h'}:=st1.trans (Step.more st1.inv (fun b o hb=>hx' b o (fun q=>by rw[q]at hb;exact absurd (Heap.lt_size hb) (Nat.lt_irrefl _)) hb) (Nat.le_refl _));have t3:=(t1.trans t2).trans st2;refine wpAny_bind (assignInOrder_cons (wpAny_bindName (fB st2.inv (cu.step t3).E hj (.inl hb) v2 fun s4 g4=>?_)));refine assignInOrder_cons (wpAny_bindName (fB g4.st.inv g4.en hi (.inl ha) (v1.mono t2.le) fun s5 g5=>?_));refine assignInOrder_nil (wpAny_pure (kk .next d9 s5 rfl ?_));rw[List.set_comm _ _ (fun q:i=j=>hne (gm hi (q▸hj)))];exact((cu.no t3).trans g4).trans g5
end
end Mine.Internal
end
noncomputable section
open PySem PySem.W PyProof.Rows
set_option backward.match.sparseCases false
namespace Mine.Internal
noncomputable def Uy:Data->Nat
 | .seq _ _=>1
 | .plain=>2
 | .dict _ _=>2
 | .fields _=>3
 | .set _ _ _=>4
 |_=>0
section
variable{B:Base}{ce:Env}{ns:List Str}{φ az:Ph}{G G':Gs}{e:En}{s s':Shared}{X:Addr->Prop}
theorem SR.kd{L:Addr}{h:Heap}{z:SL}{v:Option Value}{b:Addr}(x:SR B φ L h z v)(o:gW z v h b):∃p,h.get? b=some p/\Uy p.data=z.kd/\(z.kd=1->v=some (.ref b)/\z.tQ=true):=by
 refine dS (o) fun o1 a0 Rc o3=>?_;subst Rc;have no:∀{p:Obj},h.get? a0=some p->p.dict=none->b=a0:=fun {p} g hd=>o3.elim id fun bE=>av bE fun q z1 z2=>by(clear bE;obtain rfl:=Option.some.inj (z1.symm.trans g));exact xa (hd.symm.trans z2)
 rcases z with _|y|l|⟨C,es⟩|⟨b',p⟩|xs
 ·exact xb x
 ·exact absurd rfl (o1 y)
 ·refine cK (x) fun a x1 u' vs n g _=>?_
  (clear o1;cases x1)
  obtain rfl:=(no g rfl);exact⟨_,g,rfl,fun _=>⟨rfl,rfl⟩⟩
 ·refine cV (x) fun a d ds n x1 u' u' g g2 _=>?_
  (clear o1;cases x1)
  rcases o3 with rfl|⟨q,z1,z2⟩
  ·exact⟨_,g,rfl,fun q=>nomatch q⟩
  ·obtain rfl:=Option.some.inj (z1.symm.trans g);(revert no o;apply af (z2);intro no o)
   exact⟨_,g2,rfl,fun q=>nomatch q⟩
 ·refine bP (x) fun a ob t x1 u' g u' g2 g3=>?_
  (clear o3 o1 o;cases x1)
  obtain rfl:=(no g g3);exact⟨_,g,by rw[g2];rfl,fun q=>nomatch q⟩
 ·refine bu (x) fun a ob x1 u' g MU=>jq MU fun es ep t Rd _=>?_;clear MU;(clear o3 o1 x o;subst Rd)
  cases x1;obtain rfl:=(no g rfl);exact⟨_,g,rfl,fun q=>nomatch q⟩
theorem Loc.apart{m:Str->Option Value}{h:Heap}{x y:Str}{i j:Nat}{b:Addr}(hm:Loc B ce ns φ e h m)(hi:ix ns x=some i)(hk:ce.kindOf x=some .local)(hj:ix ns y=some j)(hkj:ce.kindOf y=some .local)(ne:i≠j)
  (hd:(sl e i).kd≠(sl e j).kd\/(sl e i).kd=1)(o1:gW (sl e i) (m x) h b)(o2:gW (sl e j) (m y) h b):False:=by
 obtain⟨p,g,k1,k2⟩:=(hm.sr x i hi hk).kd o1;obtain⟨p',g',Uz,S5⟩:=(hm.sr y j hj hkj).kd o2
 (clear o1 o2;obtain rfl:=Option.some.inj (g.symm.trans g'))
 have kk:=k1.symm.trans Uz;rcases hd with hd|hd
 ·exact hd kk
 ·exact hm.Lj x y i j hi hj hk hkj ne (k2 hd).2 (S5 (kk.symm.trans hd)).2 ((k2 hd).1.trans (S5 (kk.symm.trans hd)).1.symm)
theorem Loc.set{m:Str->Option Value}{h h':Heap}{x:Str}{i:Nat}{z:SL}(hm:Loc B ce ns φ e h m)(hi:ix ns x=some i)(hil:i<e.length)(le:φ.Le az)(nm:h'.Ns ce.locals m)(hz:SR B az ce.locals h' z (m x))(hL:z.tQ=true->(sl e i).tQ=true)(hO:z.pS=true->(sl e i).pS=true)
  (k:∀y j b o,ix ns y=some j->i≠j->ce.kindOf y=some .local->dP B φ ce.locals b->gW (sl e j) (m y) h b->h.get? b=some o->dP B az ce.locals b/\h'.get? b=some o):Loc B ce ns az (e.set i z) h' m:=by
 have bk:∀{j},((sl (e.set i z) j).tQ=true->(sl e j).tQ=true)/\((sl (e.set i z) j).pS=true->(sl e j).pS=true):=fun {j}=>by
  by_cases q:i=j
  ·subst q;rw[dm hil];exact⟨hL,hO⟩
  ·rw[cL q];exact⟨id,id⟩
 refine⟨nm,fun y j hj kj=>?_,fun y y' j j' hj hj' kj Fy UA o1 o2=>hm.Lj y y' j j' hj hj' kj Fy UA (bk.1 o1) (bk.1 o2),fun y hj kj o1=>hm.s0 y hj kj (bk.2 o1)⟩;by_cases q:i=j
 ·(clear nm hL hO bk;subst q);rw[dm hil];exact gm hi hj▸hz
 ·rw[cL q];exact(hm.sr y j hj kj).keep le fun b o hb hw hg _=>k y j b o hj q kj hb hw hg
theorem AI(I:Inv B φ G s)(En:dY B ce ns φ e s.heap){i:Nat}{l:List V}{x:Str}(hz:sl e i= .own l)(hi:ix ns x=some i)(hk:ce.kindOf x=some .local):∃az,dX B ce ns e φ s (e.set i (.v (.list l))) az G s:=by
 have hil:i<e.length:=by rw[En.len];exact rq hi
 refine bK (En.loc) fun m hm=>?_;have sr:=hm.sr x i hi hk;rw[hz]at sr;refine cK (sr) fun a h1 h2 vs n g r=>?_;have le:=Ph.bD (o:=lo vs n) h2.f;have own:gW (sl e i) (m x) s.heap a:=by rw[hz];exact⟨fun u q=>(xi SL.ctorIdx q rfl),a,h1,.inl rfl⟩
 refine⟨φ.put a (lo vs n),⟨le,I.put g h2.f h2.mu h2.tb h2.fr,fun b o e u' u' _=>gZ e,fun b o e=>⟨o,e,fun _=>rfl⟩,fun b o e=>(dj e).elim (fun q=>.inr (.inr (q.1▸ .inr (.inr ⟨m,x,i,hm.nm,hi,hk,own⟩)))) .inl,fun b h=>.inl h,GK.refl _⟩,
  ⟨En.kind,En.tO,En.blt,En.cd,by rw[List.length_set];exact En.len,(bQ (Ne.symm h2.L)).trans En.LF,En.LM,En.LT,⟨m,hm.set hi hil le hm.nm ⟨_,h1,a,vs,n,rfl,aR,r.mono le⟩ (fun q=>xc q) (fun q=>xc q) fun y j b o hj ne kj hb hw hg=>⟨⟨(bQ fun w=>?_).trans hb.f,hb.mu,hb.tb,hb.fr,hb.L⟩,hg⟩⟩,fun y j hj kj=>?_,En.inj⟩,fun b bE=>bw bE fun m' y j hm' hj hkj ho=>.inl ?_⟩
 ·exact hm.apart hi hk hj kj ne (.inr (by rw[hz];rfl)) own (w▸hw)
 ·refine av (En.oh y j hj kj) fun c c1 c2=>?_
  have q:i≠j:=fun q=>by(clear I En hz hm sr h1 h2 r own;obtain rfl:=(gm hi (q▸hj)));rw[hk]at kj;exact xc kj
  refine av (c2.v) fun w Rf _=>?_;refine av (Rf) fun o ho hd=>?_;refine⟨c,c1,?_⟩;rw[cL q];exact c2.keep le ((bQ (fun q=>by subst q;obtain rfl:=Option.some.inj (ho.symm.trans g);cases hd)).trans c2.f) c2.mu fun o ho=>⟨o,ho,rfl⟩
 ·by_cases q:i=j
  ·(clear I En hz hi hk hm sr h1 h2 g r le own bE;subst q)
   rw[dm hil]at ho;exact absurd rfl (ho.1 _)
  ·rw[cL q]at ho
   exact⟨m',y,j,hm',hj,hkj,ho⟩
theorem Jy(I:Inv B φ G s)(En:dY B ce ns φ e s.heap){i:Nat}(h:∃x,ix ns x=some i/\ce.kindOf x=some .local):∃az,dX B ce ns e φ s (C1 e i) az G s:=by
 refine av (h) fun x hi hk=>?_;unfold C1;cases hz:sl e i with
 |own l=>exact AI I En hz hi hk
 |_=>exact⟨φ,dX.refl I En⟩
theorem AJ:∀{is:List Nat} {φ:Ph} {e:En},Inv B φ G s->dY B ce ns φ e s.heap->(∀i∈is,∃x,ix ns x=some i/\ce.kindOf x=some .local)->∃az,dX B ce ns e φ s (is.foldl C1 e) az G s
 |[],φ,e,I,En,_=>⟨φ,dX.refl I En⟩
 |i::is,φ,e,I,En,h=>(Jy I En (h i List.mem_cons_self)).elim fun aO g1=>(AJ (is:=is) g1.st.inv g1.en fun j hj=>h j (List.mem_cons_of_mem _ hj)).imp fun d9 g2=>g1.trans g2
theorem nQ(I:Inv B φ G s)(En:dY B ce ns φ e s.heap)(t:Step B X φ s az G' s'){i:Nat}{x:Str}{z:SL}{b0:Addr}{m:Str->Option Value}(hX:∀b,X b->b=b0)(hm:Loc B ce ns φ e s.heap m)(hi:ix ns x=some i)(hk:ce.kindOf x=some .local)(own:gW (sl e i) (m x) s.heap b0)
  (hd:(sl e i).kd=1\/∀j,i≠j->(sl e i).kd≠(sl e j).kd)(hz:SR B az ce.locals s'.heap z (m x))(hL:z.tQ=true->(sl e i).tQ=true)(hO:z.pS=true->(sl e i).pS=true)
  (bk:∀b,gW z (m x) s'.heap b->gW (sl e i) (m x) s.heap b):dX B ce ns e φ s (e.set i z) az G' s':=by
 have hil:i<e.length:=by rw[En.len];exact rq hi
 refine cJ ((hm.sr x i hi hk).own own) fun o1 MV=>bu MV fun _ _ _ _ _ MW=>dS MW fun _ p0 g0 nc=>?_;clear MV MW;have nL:¬X ce.locals:=fun q=>o1.L (hX _ q).symm;have nm:=eZ t En nL hm.nm;refine jq (id hm.nm) fun oL _ _ gL _=>?_;have kp:∀b o,b≠b0->dP B φ ce.locals b->s.heap.get? b=some o->dP B az ce.locals b/\s'.heap.get? b=some o:=fun b o hb q g=>
  have nx:¬X b:=fun w=>hb (hX b w)
  ⟨⟨t.rm g q.f nx,t.di g q.mu nx,q.tb,q.fr,q.L⟩,(t.kept b o g nx q.tb (t.di g q.mu nx)).2 q.fr⟩
 refine⟨t.weak fun b hb=>.inr (.inr (hX b hb▸⟨m,x,i,hm.nm,hi,hk,own⟩)),⟨En.kind,En.tO,En.blt,En.cd,by rw[List.length_set];exact En.len,t.rm gL En.LF nL,t.di gL En.LM nL,En.LT,⟨m,hm.set hi hil t.le nm hz hL hO fun y j b o hj ne kj hb hw hg=>kp b o (fun q=>?_) hb hg⟩,fun y j hj kj=>?_,En.inj⟩,fun b bE=>bw bE fun m' y j hm' hj hkj ho=>.inl ?_⟩
 ·exact hm.apart hi hk hj kj ne (hd.elim .inr fun q=>.inl (q j ne)) own (q▸hw)
 ·refine av (En.oh y j hj kj) fun c c1 c2=>?_
  have q:i≠j:=fun q=>by(rename_i aH _ bS _ _ _ _;clear aH bS;(clear I En hz hL hO o1 nL gL;obtain rfl:=(gm hi (q▸hj))));rw[hk]at kj;(rename_i aH _ bS _ _ _ _;clear aH bS;exact xc kj)
  refine av (c2.v) fun w Rg _=>?_;refine av (Rg) fun o ho hdc=>?_;have nx:¬X c:=fun w=>by(rename_i aH _ bS _ _ _ _ _ _;clear aH bS;obtain rfl:=(hX c w));(rename_i aH _ bS _ _ _ _ _ _;clear aH bS;obtain rfl:=Option.some.inj (ho.symm.trans g0));exact nc _ hdc
  refine⟨c,c1,?_⟩;rw[cL q];exact c2.keep t.le (t.rm ho c2.f nx) (t.di ho c2.mu nx) fun o ho=>(t.data ho nx c2.tb c2.mu).imp fun _ y=>⟨y.1,y.2.1⟩
 ·rw[bR hm' nm]at ho
  by_cases q:i=j
  ·(clear I En t hX hz hL hO o1 g0 nc nL gL hm';subst q)
   ((rename_i aH _ bS _ _ _ _;clear aH bS;obtain rfl:=(gm hi hj)))
   rw[dm hil]at ho;exact⟨m,x,i,hm.nm,hi,hk,bk b ho⟩
  ·rw[cL q]at ho
   refine⟨m,y,j,hm.nm,hj,hkj,?_⟩;obtain⟨w1,a0,w2,w3⟩:=ho;refine⟨w1,a0,w2,w3.imp id fun bE=>av bE fun o z1 z2=>?_⟩;have oy:gW (sl e j) (m y) s.heap a0:=⟨w1,a0,w2,.inl rfl⟩;refine av ((hm.sr y j hj hkj).kd oy) fun p g _=>?_;have :=(kp a0 p (fun q'=>hm.apart hi hk hj hkj q (hd.elim .inr fun q'=>.inl (q' j q)) own (q'▸oy)) ((hm.sr y j hj hkj).own oy).1 g).2
   ((rename_i aH _ bS _ _ _ _ _ _;clear aH bS;(clear I En t hX hm hi hk own hd hz hL hO bk hil o1 g0 nc nL nm gL kp bE hm' hj hkj q w1 w2 w3 oy;obtain rfl:=Option.some.inj (z1.symm.trans this))))
   exact⟨_,g,z2⟩
theorem j0(I:Inv B φ G s)(En:dY B ce ns φ e s.heap){i:Nat}{x:Str}{z:SL}{b0:Addr}{h':Heap}{t:Tok}{m:Str->Option Value}{o0:Obj}(hm:Loc B ce ns φ e s.heap m)(hi:ix ns x=some i)(hk:ce.kindOf x=some .local)(own:gW (sl e i) (m x) s.heap b0)
  (hd:(sl e i).kd=1\/∀j,i≠j->(sl e i).kd≠(sl e j).kd)(g0:s.heap.get? b0=some o0)(hp:o0.data≠ .plain)(lv:∃o,h'.get? b0=some o/\(eB o0->eB o))(k:∀b o,b≠b0->s.heap.get? b=some o->h'.get? b=some o)(ht:s.toks<=t)(hz:SR B φ ce.locals h' z (m x))(hL:z.tQ=true->(sl e i).tQ=true)(hO:z.pS=true->(sl e i).pS=true)
  (bk:∀b,gW z (m x) h' b->gW (sl e i) (m x) s.heap b):dX B ce ns e φ s (e.set i z) φ G {s with heap:=h',toks:=t}:=by
 have o1:=((hm.sr x i hi hk).own own).1;exact nQ (X:=fun b=>b=b0) I En (Step.ext I I.gens (fun b o e1 z=>k b o (fun q=>by
  (clear I En k;subst q)
  rcases z with z|z|z|z
  ·exact z rfl
  ·rw[o1.f]at z;exact xc z
  ·exact o1.mu z
  ·exact o1.tb z) e1) (fun b hb o e1=>by subst hb;obtain rfl:=Option.some.inj (g0.symm.trans e1);exact lv.imp fun o z=>⟨z.1,z.2,fun q=>absurd q hp⟩) ht (GK.refl _)) (fun u' q=>q) hm hi hk own hd hz hL hO bk
end
end Mine.Internal
end
noncomputable section
open PySem PySem.W PyProof.Rows
set_option backward.match.sparseCases false
namespace Mine.Internal
section
variable{B:Base}{ce:Env}{ns:List Str}{φ az:Ph}{G G':Gs}{e:En}{s s1:Shared}
theorem uE{M:Model}{A:Around}{E:Value->Shared->Prop}{Q:Unit->Shared->Prop}(I:Inv B φ G s)(En:dY B ce ns φ e s.heap)(t:Step B No φ s az G' s1){n:Str}{i:Nat}{z:SL}{a:Addr}{o:Obj}(hi:ix ns n=some i)(hk:ce.kindOf n=some .local)(hn:s.heap.get? a=none)(f:lU B az a)(g:s1.heap.get? a=some o)(hd:o.dict=none)(hc:∀v,o.data≠ .cell v)
  (hz:SR B az ce.locals s1.heap z (some (.ref a)))(h0:z.pS=true->i≠0)(kk:∀s',dX B ce ns e φ s (e.set i z) az G' s'->Q () s'):wpAny M A (storeName ce n (.ref a)) Q E s1:=by
 have D8:=En.ru t;have j:=JI.new En t hn f g;refine mV t.inv D8 hi (.inl hk) hz (fun u' m y k hm hy MS u' hl q=>j.no ⟨m,y,k,hm.nm,hy,MS,⟨fun u w=>(by rw[w]at hl;exact xc hl),a,q,.inl rfl⟩⟩) (fun h1 h2=>absurd h2 (h0 h1)) fun s2 t2 en k3 hns=>kk s2 ?_;refine⟨(t.weak fun u' q=>q.elim).hide t2 fun b hb=>.inl (hb.fx hi),en,fun b bE=>bw bE fun m' y k hm' hk' MS ho=>?_⟩;refine bK (D8.loc) fun m hm=>?_;refine bN (hns m hm.nm) fun m2 g1 g2 g3=>?_
 (clear f hz h0 kk t2 en hns;obtain rfl:=(bR hm' g1))
 by_cases q:y=n
 ·obtain rfl:=q
  rw[g3 hk]at ho;refine dS (ho) fun u' a0 h1 h2=>?_;cases h1;exact .inr (h2.elim (fun q=>q▸hn) fun bE=>av bE fun p h3 h4=>by obtain rfl:=Option.some.inj (h3.symm.trans (k3 a o g hc (Ne.symm (Ne.symm j.nl))));exact xa (hd.symm.trans h4))
 ·rw[cL (fun w:i=k=>q (gm hk' (w▸hi)))]at ho
  exact(dX.no I En t).own b (dw.back D8 (fun a o q g hc _=>k3 a o g hc q.L) hm.nm hm' hk' MS (g2 y q) ho)
theorem we(I:Inv B φ G s)(En:dY B ce ns φ e s.heap){i:Nat}{x:Str}{l l':List V}{a:Addr}{vs vs':Array Value}{n n':Nat}{h':Heap}{t:Tok}{m:Str->Option Value}(hm:s.heap.Ns ce.locals m)(hi:ix ns x=some i)(hk:ce.kindOf x=some .local)(hz:sl e i= .own l)(ha:m x=some (.ref a))(g:s.heap.get? a=some (lo vs n))(g':h'.get? a=some (lo vs' n'))
  (k:∀b o,b≠a->s.heap.get? b=some o->h'.get? b=some o)(r:bz φ l' vs'.toList)(ht:s.toks<=t):dX B ce ns e φ s (e.set i (.own l')) φ G {s with heap:=h',toks:=t}:=by
 refine bK (En.loc) fun m0 hm0=>?_;obtain rfl:=(bR hm hm0.nm);have sr:=hm0.sr x i hi hk;rw[hz]at sr;refine bN (sr) fun a' h1 h2 _=>?_
 (clear hm sr;obtain rfl:=Value.ref.inj (Option.some.inj (ha.symm.trans h1)))
 refine j0 I En hm0 hi hk (b0:=a) (by rw[hz];exact⟨fun u q=>(xi SL.ctorIdx q rfl),a,ha,.inl rfl⟩) (.inl (by rw[hz];rfl)) g (fun q=>xi Data.ctorIdx q rfl) ⟨_,g',fun bE=>gY bE fun u' u' q=>xi Data.ctorIdx q rfl⟩ k ht ⟨a,ha,h2,vs',n',g',r⟩ (fun _=>by rw[hz];rfl) (fun q=>xc q) fun b bE=>dS bE fun u' a0 w1 w2=>?_;rw[hz];obtain rfl:=Value.ref.inj (Option.some.inj (ha.symm.trans w1));exact⟨fun u q=>(xi SL.ctorIdx q rfl),a,ha,w2.elim .inl fun bE=>av bE fun o q1 q2=>by obtain rfl:=Option.some.inj (q1.symm.trans g');exact xa q2⟩
end
section
variable{k:Ks}{ce:Env}{ns:List Str}
theorem MX{st:Stmt}{l:List Stmt}{is:List Nat}{x:S}{xs:List S}(h:∀i∈is,∃x,ix ns x=some i/\ce.kindOf x=some .local)(hs:lA k ce ns (st::l) (x::xs)):lA k ce ns (st::l) (.fz is::x::xs):=fun A E Q φ G s e fl e' G' c ev kk=>
 (AJ c.I c.E h).elim fun aO g1=>hs.at (c.go g1) ev fun f d9 s2 hf g2=>kk _ _ _ hf (g1.trans g2)
theorem lX{B:Base}{M:Model}{A:Around}{E:Value->Shared->Prop}{Q:Unit->Shared->Prop}{φ:Ph}{G:Gs}{v:V}{cv:Value}(hv:VR φ v cv):∀{ts:List Expr} {is:List Nat} {e e':En} {s:Shared},aA (fm ce.scope ns) ts=some is->fK is (is.map fun _=>v) e=some e'->
  Inv B φ G s->dY B ce ns φ e s.heap->(∀s',dX B ce ns e φ s e' φ G s'->Q () s')->wpAny M A (assignAll cv ((assignEach ts ce).map (·.2))) Q E s
 |[],is,e,e',s,h,hm,I,En,kk=>by
  (revert hm;apply af (h);intro hm)
  (revert kk;apply af (hm);intro kk)
  exact wpAny_pure (kk _ (dX.refl I En))
 |t::ts,is,e,e',s,h,hm,I,En,kk=>aD h fun i q h1 h2 h3=>by
  subst h3;rw[iU h1];rcases ts with _|⟨t2,ts⟩
  ·(revert hm h;apply af (h2);intro hm h)
   (revert kk;apply af (hm);intro kk)
   exact qo I En h1 hv kk
  ·have ih:=fun s1 g1=>lX (M:=M) (A:=A) (E:=E) (Q:=Q) (e:=e.set i (.v v)) (e':=e') (s:=s1) hv h2 hm g1.st.inv g1.en fun s2 g2=>kk _ (dX.trans (s:=s) g1 g2)
   refine aD h2 fun i2 q2 h3 h4 _=>?_;rw[iU h3]at ih⊢;exact wpAny_bind (wpAny_holding (qo I En h1 hv ih))
theorem sJ(t t':Expr)(ts:List Expr)(v:Expr)(env:Env):swappedStores (t::t'::ts) v env=pure none:=by rcases t with⟨⟩ <;> first|rfl|(rcases v with⟨⟩ <;> rfl)
theorem Ed{t t':Expr}{ts:List Expr}{v:Expr}{pos:Pos}{is:List Nat}{x:X}(ht:aA (fm ce.scope ns) (t::t'::ts)=some is)(hx:bC k ce ns v x):eK k ce ns (.Assign (t::t'::ts) v pos) (.CU is x):=fun A E Q φ G s e fl e' G' c ev kk=>bindC ev fun r e1 ev=>ay ev fun e2 e3 e4=>by
 replace kk:=jy e4 kk
 exact wpAny_Assign_stores (hx.at c e1 fun cv aO s1 v1 t1=>lX v1 ht e3 t1.inv (c.step t1).E fun s2 g2=>kk _ _ _ rfl ((c.no t1).trans g2)) rfl (sJ _ _ _ _ _)
theorem wg{A:Around}{E:Value->Shared->Prop}{Q:Unit->Shared->Prop}{φ aO:Ph}{G G1:Gs}{s s1:Shared}{e:En}{x:Str}{i:Nat}{l:List V}{vs:Array Value}{tk:Tok}(hk:ce.kindOf x=some .local)(hi:ix ns x=some i)(c:kM k A ce ns φ G s e)(t1:Step k.B No φ s aO G1 s1)(v:bz aO l vs.toList)(ht:s1.toks<=tk)
  (kk:∀s',dX k.B ce ns e φ s (e.set i (.own l)) aO G1 s'->Q () s'):wpAny (model k.prog k.w) A (storeName ce x (.ref s1.heap.objs.size)) Q E {s1 with heap:=s1.heap.push (lo vs 0),toks:=tk}:=by
 have t2:Step k.B No aO s1 aO G1 {s1 with heap:=s1.heap.push (lo vs 0),toks:=tk}:=Step.push t1.inv _ ht;have hn:=Inv.bL s1;have f:=t1.inv.nM hn;have g:(s1.heap.push (lo vs 0)).get? s1.heap.objs.size=some (lo vs 0):=Heap.get?_push_size _ rfl;have j:=JI.new (c.step t1).E t2 hn f g;exact uE (z:=.own l) c.I c.E (t1.trans t2) hi hk (t1.dead hn) f g rfl (fun u' q=>xi Data.ctorIdx q rfl) ⟨_,rfl,f.own j.nl,vs,0,g,v⟩ (fun q=>xc q) kk
theorem Ef{es:List Expr}{xs:List X}{x:Str}{p pos lp:Pos}{i:Nat}(hk:ce.kindOf x=some .local)(hi:ix ns x=some i)(hs:es.all noStar=true)(h:r4 k ce ns es xs):eK k ce ns (.Assign [.Name x p] (.List es lp) pos) (.om i xs):=fun A E Q φ G s e fl e' G' c ev kk=>bindC ev fun r e1 ev=>ak ev fun hl ev=>by
 (rename_i aH bI;clear aH bI;replace kk:=jY ev kk)
 exact wpAny_Assign_Name (wpAny_List (by
  rw[au _ _ hs];exact h.at c e1 fun aP aO s1 v1 t1=>⟨by rw[<-v1.length];exact Nat.le_trans hl bG,wg (vs:=aP.toArray) hk hi c t1 (by rw[List.toList_toArray];exact v1) (Nat.le_refl _) fun s2 g2=>kk _ _ _ rfl g2⟩)) rfl
theorem Jz{α:Type}{P:Prop}{z:SL}{f:List V->Option α}{r:α}(h:(match z with| .own l=>f l|_=>none)=some r)(kk:∀l,z= .own l->f l=some r->P):P:=by
 rcases z with _|_|l|⟨_,_⟩|⟨_,_⟩|_
 ·exact xa h
 ·exact xa h
 ·exact kk l rfl h
 ·exact xa h
 ·exact xa h
 ·exact xa h
theorem Eg{r:Expr}{y:X}{x:Str}{p p2 bp pos:Pos}{i:Nat}(hk:ce.kindOf x=some .local)(hi:ix ns x=some i)(hpl:ao x=true)(h:bC k ce ns r y):eK k ce ns (.Assign [.Name x p] (.BinOp (.Name x p2) .Add r bp) pos) (.tV i y):=fun A E Q φ G s e fl e' G' c ev kk=>Jz (f:=fun l=>(aq k.T k.U y e G).bind fun r=>(bH r.1).bind fun m=>if l.length+m.length<=lim then some (Fl.aS,e.set i (.own (l++m)),r.2)else none) ev fun l hz ev=>bindC ev fun q e1 ev=>by
 refine wpAny_Assign_Name (wpAny_BinOp (wpAny_Name (ld_own c.E hi hk hz fun a ha ho=>h.at c e1 fun cv aO s1 v1 t1=>jc t1.inv (P:=fun cy=>wpAny _ _ (binaryOp .Add _ cy) _ _ _) v1 ev fun m b us n2 g2 _ r2 ev=>ak ev fun hl ev=>?_) (ai hpl).1)) rfl
 (rename_i aH bI bS eN i6;clear aH bI bS eN i6;replace kk:=jY ev kk)
 refine cU (ho) fun vs n g r1=>?_;have g1:=(t1.kept a _ g id ha.tb (t1.di g ha.mu id)).2 ha.fr;have r1:=r1.mono t1.le;have hl':vs.size+us.size<=sizeLine:=by rw[r1.size,r2.size];exact Nat.le_trans hl bG
 exact concat_meets ⟨_,g1,rfl⟩ ⟨_,g2,rfl⟩ noFill_list_add seq_list_add PySem.F.slot_list_add PySem.F.entry_list_add (PySem.F.args_list_add_2 _ _) (list_addW a b vs us n n2 none none #[] #[] (by simpa using hl'))
  ⟨g1,g2,wg (tk:=s1.toks) hk hi c t1 (by rw[Array.toList_append];exact r1.append r2) (Nat.le_refl _) fun s2 g2=>kk _ _ _ rfl g2⟩
end
end Mine.Internal
end
noncomputable section
open PySem PySem.W PyProof.Rows
namespace Mine.Internal
section
variable{prog:Program}{w:World}{A:Around}{E:Value->Shared->Prop}{s:Shared}
noncomputable def Told(s:Shared)(a:Addr)(vs:Array Value)(Q:Shared->Prop):Prop:=∀h' m,h'.get? a=some (lo vs m)->(∀b o,b≠a->s.heap.get? b=some o->h'.get? b=some o)->Q {s with heap:=h'}
theorem fT{a:Addr}{vs:Array Value}{n:Nat}{f:Array Value->Array Value}{Q:Shared->Prop}(g:s.heap.get? a=some (lo vs n))(h:Told s a (f vs) Q):Q {s with heap:=s.heap.update a (Obj.mapSeq f)}:=
 h _ _ (get?_update_seq (c:="list") g f) fun b o hb e=>(Heap.get?_update_other _ _ (Ne.symm hb)).trans e
theorem AK{a:Addr}{vs:Array Value}{m:Nat}{cv:Value}{Q:Value->Shared->Prop}(g:s.heap.get? a=some (lo vs m))(hz:vs.size<=sizeLine)(h:Told s a (vs.push cv) (Q .none)):wpAny (model prog w) A (call (.builtin "list.append") [.ref a,cv]) Q E s:=by refine wpAny_call_entry slot_list_append ⟨_,g,rfl⟩ entry_list_append ?_ (args_list_append _ _);show wpAny _ _ (updateSeq a (·.push cv)>>=fun _=>ret .none) _ _ s;exact wpAny_bind (wpAny_updateSeq g rfl (wpAny_pure ⟨.none,rfl,fT (f:=(·.push cv)) g h⟩))
theorem MY{a:Addr}{vs:Array Value}{m:Nat}{Q:Value->Shared->Prop}(g:s.heap.get? a=some (lo vs m))(hz:vs.size<=sizeLine)(h0:vs.size≠0)(h:∀y,Told s a (vs.eraseIdxIfInBounds (vs.size -1)) (Q y)):wpAny (model prog w) A (call (.builtin "list.pop") [.ref a]) Q E s:=
 call_meets PySem.F.slot_list_pop ⟨_,g,rfl⟩ PySem.F.entry_list_pop (PySem.F.args_list_pop_1 _) (PySem.MeetsSeq.list_pop_last a vs m vs[vs.size -1] (Array.getElem?_eq_getElem (by omega)) hz) ⟨g,fT (f:=fun xs=>xs.eraseIdxIfInBounds (vs.size -1)) g (h _)⟩
theorem JA{a:Addr}{vs:Array Value}{m:Nat}{j:Int}{u:Tok}{cv:Value}{Q:Unit->Shared->Prop}(g:s.heap.get? a=some (lo vs m))(h0:0<=j)(hj:j<vs.size)(hz:j<2 ^ 63)(h:Told s a (vs.setIfInBounds j.toNat cv) (Q ())):wpAny (model prog w) A (setItem (.ref a) (.int j u) cv) Q E s:=by
 have hT:s.TypeIs (.ref a) "list":=⟨_,g,rfl⟩;refine wpAny_holding (wpAny_bind (wpAny_sequenceKey hT (by decide) ?_));refine wpAny_bind (wpAny_callSpecial?_slot (name:=PySem.Str.ofString "__setitem__") hT slot_list_setitem (wpAny_call_entry slot_list_setitem hT entry_list_setitem ?_ (args_list_setitem _ _ _)));show wpAny _ _ (Builtin.List.listSubscript? (.int j u)>>=_) _ _ s;refine wpAny_bind (wpAny_listSubscript_int (fitsIndex_of h0 hz) ?_);refine bK (Int.eq_ofNat_of_zero_le h0) fun j ID=>?_;subst ID;refine wpAny_bind (wpAny_bind (wpAny_seqItemAt g rfl (wpAny_pure ?_)));rw[Array.getElem?_eq_getElem (by omega:j<vs.size)];have fin:Q () {s with heap:=s.heap.update a (Obj.mapSeq fun xs=>xs.setIfInBounds j cv)}:=fT (f:=fun xs=>xs.setIfInBounds j cv) g h;refine wpAny_bind (wpAny_setSeqItemAt g rfl ?_)
 first
  |exact wpAny_bind (wpAny_pure (wpAny_pure ⟨.none,rfl,wpAny_pure fin⟩))
  |exact wpAny_pure ⟨.none,rfl,wpAny_pure fin⟩
theorem AL{l sl:Addr}{us:Array Value}{n:Nat}{Q:Unit->Shared->Prop}(hl:s.heap.get? l=some (lo us n))(hs:s.heap.IsSliceOf sl .none .none .none)(hsz:us.size<=sizeLine)(h:Told s l #[] (Q ())):wpAny (model prog w) A (delItem (.ref l) (.ref sl)) Q E s:=by
 have hT:s.TypeIs (.ref l) "list":=⟨_,hl,rfl⟩;refine bN (id hs) fun os hos hcs hds=>?_;have S6:s.TypeIs (.ref sl) "slice":=⟨os,hos,hcs⟩;refine wpAny_delItem_slot hT (by decide) PySem.F.slot_list_delitem (wpAny_call_entry PySem.F.slot_list_delitem hT PySem.F.entry_list_delitem ?_ (PySem.F.args_list_delitem_2 _ _));show wpAny _ _ (Builtin.List.listSubscript? (.ref sl)>>=_) _ _ s;refine wpAny_bind ?_;refine wpAny_bind (wpAny_specialOf S6 slice_no_index ?_);refine w_eq (if_pos rfl) ?_;refine wpAny_pure ?_;refine wpAny_bind (wpAny_typeOf S6 ?_);rw[if_neg (by decide)];rw[listSliceParts_eq];refine wpAny_bind (wpAny_bind (wpAny_field hos hds (x:=.none) rfl (wpAny_bind (wpAny_listPart .none ?_))));refine w_eq (if_neg (by decide)) ?_;refine wpAny_bind (wpAny_field hos hds (x:=.none) rfl (wpAny_bind (wpAny_listPart .none ?_)));refine wpAny_bind (wpAny_field hos hds (x:=.none) rfl (wpAny_bind (wpAny_listPart .none (wpAny_pure ?_))));refine wpAny_bind (m:=Builtin.List.listItems (.ref l)) ?_;refine wpAny_bind (wpAny_seqItems hl rfl (wpAny_pure ?_));refine wpAny_bind (wpAny_of_eq (sliceIndices_raw none none none us.size (by decide)) ?_);refine wpAny_bind (wpAny_rule ?_);have hf:∀f:Array Value->Array Value,f us=#[]->(P:Fin->Shared->Prop)->(k:Unit->Sem Fin)->Told s l #[] (fun s'=>wpAny (model prog w) A.in1 (k ()) P E s')->
   wpAny (model prog w) A.in1 (Builtin.List.listUpdate (.ref l) f>>=k) P E s:=fun f he P k hk=>by
  refine wpAny_bind ?_;exact wpAny_updateSeq hl rfl (fT (f:=f) hl (he▸hk)) hsz (by rw[he];exact Nat.zero_le _)
 refine hf _ ?_ _ _ fun h' m h1 h2=>?_
 ·have key:us.toList.zipIdx.filterMap (fun x=>match x with|(x,k)=>if(if(1:Int)>0 then decide ((0:Int)<=(k:Int))&&decide ((k:Int)<(us.size:Int))&&((k:Int) -0) % 1==0 else decide ((us.size:Int)<(k:Int))&&decide ((k:Int)<=(0:Int))&&((0:Int) -(k:Int)) % (-1)==0)=true then none else some x)=[]:=by
   rw[List.filterMap_eq_nil_iff];rintro⟨x,k⟩ hm;have hk:=List.snd_lt_of_mem_zipIdx hm;simp only[Array.length_toList]at hk;refine if_pos ?_;rw[if_pos (by decide)];have :((k:Int) -0) % 1=0:=by omega
   rw[this];simp only[Bool.and_eq_true,decide_eq_true_eq];exact⟨⟨by omega,by omega⟩,rfl⟩
  exact congrArg List.toArray key
 ·refine wpAny_bind (wpAny_letGo ?_)
  exact wpAny_pure ⟨_,rfl,h h' m h1 h2⟩
end
section
variable{k:Ks}{ce:Env}{ns:List Str}
theorem uF{A:Around}{φ:Ph}{G:Gs}{s:Shared}{e:En}{i:Nat}{x:Str}{l:List V}(hi:ix ns x=some i)(hk:ce.kindOf x=some .local)(hz:sl e i= .own l)(c:kM k A ce ns φ G s e){M:Model}{E:Value->Shared->Prop}{Q:Value->Shared->Prop}
  (h:∀a vs n,s.heap.get? a=some (lo vs n)->bz φ l vs.toList->(∀aO G1 s1,Step k.B No φ s aO G1 s1->s1.heap.get? a=some (lo vs n)/\bz aO l vs.toList/\∀l' vs',bz aO l' vs'.toList->∀R:Shared->Prop,(∀s2,dX k.B ce ns e φ s (e.set i (.own l')) aO G1 s2->R s2)->Told s1 a vs' R)->Q (.ref a) s):wpAny M A (loadName ce x) Q E s:=by
 refine bK (c.E.loc) fun m hm=>?_;have sr:=hm.sr x i hi hk;rw[hz]at sr;refine cK (sr) fun a h1 ha vs n g r=>?_;refine wpAny_loadName_local c.E.kind hk hm.nm h1 (h a vs n g r fun aO G1 s1 t1=>?_);have g1:=(t1.kept a _ g id ha.tb (t1.di g ha.mu id)).2 ha.fr;exact⟨g1,r.mono t1.le,fun l' vs' r' R hR h' n' g' kp=>hR _ ((c.no t1).trans (we t1.inv (c.step t1).E (eZ t1 c.E id hm.nm) hi hk hz h1 g1 g' kp r' (Nat.le_refl _)))⟩
theorem Eh{v i:Expr}{y z:X}{x:Str}{p p2 pos:Pos}{j:Nat}(hk:ce.kindOf x=some .local)(hi:ix ns x=some j)(hpl:ao x=true)(hv:bC k ce ns v y)(hx:bC k ce ns i z):eK k ce ns (.Assign [.Subscript (.Name x p) i p2] v pos) (.oset j z y):=fun A E Q φ G s e fl e' G' c ev kk=>bindC ev fun r e1 ev=>Jz (f:=fun l=>(aq k.T k.U z e r.2).bind fun y=>(bF y.1).bind fun k=>if 0<=k/\k<l.length/\l.length<=lim then some (Fl.aS,e.set j (.own (l.set k.toNat r.1)),y.2)else none) ev fun l hz ev=>bindC ev fun q e2 ev=>by
 refine wpAny_Assign_Subscript (hv.at c e1 fun cv aO s1 v1 t1=>wpAny_Name (uF hi hk hz (c.step t1) fun a vs n g rl hq=>hx.at (c.step t1) e2 fun cy d9 s2 v2 t2=>jH (P:=fun cy=>wpAny _ _ (setItem _ cy _) _ _ _) v2 ev fun jj u ev=>ak ev fun hl ev=>?_) (ai hpl).1) (iA v _ pos.line ce (fun _ _ _ _=>rfl) (fun _ _ _ _=>rfl) fun _ _ _ _ _=>rfl)
 (rename_i aH bI bS eN i6;clear aH bI bS eN i6;replace kk:=jY ev kk)
 refine cG (hq _ _ _ t2) fun g2 r2 ht=>?_;have hs:=r2.size;have :=hl.2.2;unfold lim at this;exact JA g2 hl.1 (by rw[hs];exact hl.2.1) (by omega) (ht (l.set jj.toNat r.1) _ (by rw[Array.toList_setIfInBounds];exact r2.set (v1.mono t2.le)) _ fun s3 g3=>kk _ _ _ rfl ((c.no t1).trans g3))
theorem AM{v:Expr}{y:X}{x:Str}{p ap cp pos:Pos}{i:Nat}(hk:ce.kindOf x=some .local)(hi:ix ns x=some i)(hpl:ao x=true)(hl:(ap.endLine==cp.line)=true)(hs:noStar v=true)(hv:bC k ce ns v y):eK k ce ns (.Expr (.Call (.Attribute (.Name x p) "append" ap) [v] [] cp) pos) (.eF (.var i) y):=fun A E Q φ G s e fl e' G' c ev kk=>bindC ev fun l0 e0 ev=>bindC ev fun r e1 ev=>bindC ev fun l1 e2 ev=>ak ev fun hz1 ev=>by
 (rename_i aH bI bS eN;clear aH bI bS eN;obtain rfl:=Option.some.inj (e0.symm.trans e2))
 refine Jz (f:=some) e0 fun l hz e0=>?_
 (rename_i aH;clear aH;(clear e2;obtain rfl:=Option.some.inj e0))
 replace kk:=jY ev kk
 refine wpAny_Expr_any (wpAny_Call_append rfl (by simp[au _ _ (show([v]).all noStar=true by rw[List.all_cons,hs];rfl),IF,backToKw]) hl (au _ _ (by rw[List.all_cons,hs];rfl)) (wpAny_Name (uF hi hk hz c fun a vs n g rl hq=>⟨a,vs,rfl,⟨_,n,g,rfl,rfl,rfl⟩,hv.at c e1 fun cv aO s1 v1 t1=>?_⟩) (ai hpl).1)) (by unfold interactive;rw[c.E.kind];rfl) rfl;refine cG (hq _ _ _ t1) fun g1 r1 ht=>?_;exact AK g1 (by rw[r1.size];exact Nat.le_trans (Nat.le_of_lt hz1.1) bG) (ht _ _ (by rw[Array.toList_push];exact r1.append (.one v1)) _ fun s2 g2=>kk _ _ _ rfl g2)
end
end Mine.Internal
end
noncomputable section
open PySem PySem.W PyProof.Rows
namespace Mine.Internal
section
variable{B:Base}{X:Addr->Prop}{T:aM}{K:Frag}{φ az:Ph}{G G':Gs}{s s':Shared}
noncomputable def KL(h h':Heap):Prop:=∀b vs n,h.get? b=some (lo vs n)->h'.get? b=some (lo vs n)
theorem AR.MZ{h h':Heap}(k:KL h h'):∀{x:At} {v:Value},AR φ h x v->AR φ h' x v
 | .own _ l,v,x=>x.imp fun a x=>x.imp id fun x=>x.imp id fun x=>x.imp id fun x=>x.imp fun u' x=>x.imp fun u' x=>x.imp (k _ _ _) id
 | .v x,_,r=>r
theorem jk.mapR{α:Type}{P:Params}{R R':α->Value->Prop}(k:∀a v,R a v->R' a v):∀{es:List (Str×α)} {ds:List DictEntry},jk P R es ds->jk P R' es ds
 |[],_,x=>x
 |_::_,_,x=>x.imp fun u' x=>x.imp fun u' x=>x.imp id fun x=>x.imp (fun x=>⟨x.1,x.2.1,k _ _ x.2.2⟩) (jk.mapR k)
theorem sL{h h':Heap}{n:Str}{i:Nat}{l l':List V}{a:Addr}(k:∀b o,b≠a->h.get? b=some o->h'.get? b=some o)(mu:φ.mu a)(ow:φ.ow i=some a)(new:OL φ h' a l'):∀{es:List (Str×At)} {ds:List DictEntry},ri φ h es ds->look es n=some (.own i l)->
  (∃d,ds.find? (fun e=>e.key.isStr n)=some d/\d.val= .ref a)->(gj es ds).Nodup->ri φ h' (putD n (.own i l') es) ds/\gj (putD n (.own i l') es) ds=gj es ds/\Value.ref a∈gj es ds
 |[],_,_,q,_,_=>xa q
 |e::es,_,x,hl,hf,nd=>x.elim fun d x=>x.elim fun r x=>by
  refine cG (x) fun Rh Ri h4=>?_;(clear x;subst Rh);refine cG (Ri) fun h1 IC h3=>?_;obtain⟨t,h2⟩:=IC;have e2:d.key.isStr n=decide (e.1=n):=by rw[h2];show(e.1==n)=_;by_cases q:e.1=n <;> rfl
  rw[iQ]at hl;rw[kO];by_cases q:e.1=n
  ·rw[if_pos q]at hl⊢
   rw[List.find?_cons_of_pos (by rw[e2];exact decide_eq_true q)]at hf;refine av (hf) fun u' hd hv=>?_
   (revert hv;apply af (hd);intro hv)
   have ho:e.2.dh=true:=by rw[Option.some.inj hl];rfl
   have oe:gj (e::es) (d::r)=d.val::gj es r:=if_pos ho;have UB:gj ((n,At.own i l')::es) (d::r)=d.val::gj es r:=if_pos rfl;rw[oe]at nd⊢;exact⟨⟨d,r,rfl,⟨q▸h1,⟨t,q▸h2⟩,⟨a,hv,mu,ow,new⟩⟩,qb k h4 (hv▸(List.nodup_cons.mp nd).1)⟩,UB,hv▸List.mem_cons_self⟩
  ·rw[if_neg q]at hl⊢
   rw[List.find?_cons_of_neg (by rw[e2];simpa using q)]at hf;have go:=fun nd=>sL k mu ow new h4 hl hf nd;cases ho:e.2.dh with
   |false=>
    have oe:∀es r,gj (e::es) (d::r)=gj es r:=fun es r=>if_neg (by rw[ho];decide);rw[oe]at nd⊢;rw[oe];refine cG (go nd) fun g1 g2 g3=>?_;refine⟨⟨d,r,rfl,⟨h1,⟨t,h2⟩,?_⟩,g1⟩,g2,g3⟩;cases hz:e.2 with
    |v y=>rw[hz]at h3;exact h3
    |own _ m=>rw[hz]at ho;exact xd ho
   |true=>
    have oe:∀es r,gj (e::es) (d::r)=d.val::gj es r:=fun es r=>if_pos ho;rw[oe]at nd⊢;rw[oe];refine cJ (List.nodup_cons.mp nd) fun n1 n2=>?_;refine cG (go n2) fun g1 g2 g3=>?_;refine⟨⟨d,r,rfl,⟨h1,⟨t,h2⟩,?_⟩,g1⟩,by rw[g2],List.mem_cons_of_mem _ g3⟩;cases hz:e.2 with
    |v y=>rw[hz]at h3;exact h3
    |own j m=>rw[hz]at h3;obtain⟨b,b1,b2,bo,vs,n',b3,b4⟩:=h3;exact⟨b,b1,b2,bo,vs,n',k b _ (fun w=>n1 (by rw[b1,w];exact g3)) b3,b4⟩
theorem wh{R:At->Value->Prop}{P:Params}{n:Str}{z:At}{hs:Int}{key cv:Value}:∀{es:List (Str×At)} {ds:List DictEntry},jk P R es ds->
  (∀x∈gj (putD n z es) (putL n hs key cv ds),x∈gj es ds\/(z.dh=true/\x=cv))/\((gj es ds).Nodup->(z.dh=true->cv∉gj es ds)->(gj (putD n z es) (putL n hs key cv ds)).Nodup)
 |[],_,x=>by
  subst x;show(∀x∈(if z.dh=true then[cv]else[]),_)/\(_->_->(if z.dh=true then[cv]else[]).Nodup)
  by_cases q:z.dh=true
  ·rw[if_pos q]
   exact⟨fun x hx=>.inr ⟨q,List.mem_singleton.mp hx⟩,fun u' _=>by simp⟩
  ·rw[if_neg q]
   exact⟨fun x hx=>(nomatch hx),fun u' _=>List.nodup_nil⟩
 |e::es,_,x=>x.elim fun d x=>x.elim fun r x=>by
  refine cG (x) fun Rj Rk h4=>?_;subst Rj;refine cG (Rk) fun h1 IB h3=>?_;obtain⟨t,h2⟩:=IB;have e2:d.key.isStr n=decide (e.1=n):=by rw[h2];show(e.1==n)=_;by_cases q:e.1=n <;> rfl
  rw[kO,oZ];rw[e2];have oe:∀(e:Str×At) (d:DictEntry) es r,gj (e::es) (d::r)=if e.2.dh=true then d.val::gj es r else gj es r:=fun u' u' u' _=>rfl
  by_cases q:e.1=n
  ·rw[if_pos q,if_pos (decide_eq_true q),oe,oe]
   have sub:∀x∈gj es r,x∈(if e.2.dh=true then d.val::gj es r else gj es r):=fun x hx=>by
    split
    ·exact List.mem_cons_of_mem _ hx
    ·exact hx
   have Mu:(if e.2.dh=true then d.val::gj es r else gj es r).Nodup->(gj es r).Nodup:=fun h=>by
    split at h
    ·exact(List.nodup_cons.mp h).2
    ·exact h
   by_cases o:z.dh=true
   ·simp only[o,if_true]
    exact⟨fun x hx=>(List.mem_cons.mp hx).elim (fun w=>.inr ⟨trivial,w⟩) fun w=>.inl (sub x w),fun nd hc=>List.nodup_cons.mpr ⟨fun w=>hc trivial (sub _ w),Mu nd⟩⟩
   ·rw[if_neg o]
    exact⟨fun x hx=>.inl (sub x hx),fun nd _=>Mu nd⟩
  ·rw[if_neg q,if_neg (by simpa using q),oe,oe]
   refine cJ (wh (n:=n) (z:=z) (hs:=hs) (key:=key) (cv:=cv) h4) fun i1 i2=>?_;by_cases o:e.2.dh=true
   ·simp only[o,if_true]
    refine⟨fun x hx=>(List.mem_cons.mp hx).elim (fun w=>.inl (w▸List.mem_cons_self)) fun w=>(i1 x w).imp (List.mem_cons_of_mem _) id,fun nd hc=>?_⟩;refine cJ (List.nodup_cons.mp nd) fun n1 n2=>?_;exact List.nodup_cons.mpr ⟨fun w=>(i1 _ w).elim n1 fun w=>hc w.1 (w.2▸List.mem_cons_self),i2 n2 fun w y=>hc w (List.mem_cons_of_mem _ y)⟩
   ·rw[if_neg o]
    simp only[o];exact⟨i1,i2⟩
theorem wj{h:Heap}{a b:Addr}{vs:Array Value}{n:Nat}{o:Obj}(g:h.get? a=some (lo vs n))(g':h.get? b=some o)(hd:∀vs n,o.data≠ .seq vs n):a≠b:=fun q=>by subst q;obtain rfl:=Option.some.inj (g.symm.trans g');exact hd _ _ rfl
theorem Step.M0(I:Inv B φ G s){es:List (Str×At)}(e:G.wr=some es){p:Addr×Addr}{ds:Array DictEntry}{m:Nat}{n:Str}{i:Nat}{l l':List V}{a:Addr}{vs vs':Array Value}{n0 n':Nat}{h':Heap}{t:Tok}(hw:φ.wa=some p)(g:s.heap.get? p.2=some (gh ds m))(hl:look es n=some (.own i l))
  (hf:∃d,ds.toList.find? (fun e=>e.key.isStr n)=some d/\d.val= .ref a)(mu:φ.mu a)(ow:φ.ow i=some a)(g0:s.heap.get? a=some (lo vs n0))(g1:h'.get? a=some (lo vs' n'))(r:bz φ l' vs'.toList)(k:∀b o,b≠a->s.heap.get? b=some o->h'.get? b=some o)(ht:s.toks<=t):
  Step B X φ s φ {G with wr:=some (putD n (.own i l') es)} {s with heap:=h',toks:=t}:=by
 refine aV (I.wr.wr es e) fun p' ds' m' x1 x2 x3 x4 x5 x6 x7=>?_;cases x1.symm.trans hw
 (clear hw;cases x4.symm.trans g)
 refine cG (sL k mu ow ⟨vs',n',g1,r⟩ x5 hl hf x6) fun y1 y2 y3=>?_;refine Step.mu I mu g0 (fun q=>xi Data.ctorIdx q rfl) g1 k ht ⟨fun l e=>(I.wr.log l e).imp fun b z=>⟨z.1,z.2.1,z.2.2.imp fun us z'=>z'.imp fun j z'=>⟨k b _ (fun q=>x7 b z.1 (q▸y3)) z'.1,z'.2⟩⟩,fun es' he=>?_,I.wr.l7,fun q=>(xb q),I.wr.cn⟩
 (apply af (he))
 exact⟨p,ds,m,x1,x2,x3,k _ _ (Ne.symm (wj g0 g fun u' u' q=>xi Data.ctorIdx q rfl)) x4,y1,y2▸x6,y2▸x7⟩
noncomputable def Ph.Pb (φ:Ph) (a:Addr) (i:Nat):Ph:={φ with mu:=fun b=>φ.mu b\/b=a,ow:=fun j=>if j=i then some a else φ.ow j}
theorem Step.Pb(I:Inv B φ G s){a:Addr}{o:Obj}{h':Heap}{t:Tok}(k:∀b o,s.heap.get? b=some o->h'.get? b=some o)(hn:s.heap.get? a=none)(g:h'.get? a=some o)(ht:s.toks<=t):Step B X φ s (φ.Pb a G.cnt) {G with cnt:=G.cnt+1} {s with heap:=h',toks:=t}:=by
 have st:Step B X φ s φ G {s with heap:=h',toks:=t}:=Step.more I k ht;refine bW (I.free hn) fun f mu tb fr=>?_;have le:φ.Le (φ.Pb a G.cnt):=⟨rfl,fun u' u' h=>h,fun _=>.inl,fun u' h=>h,fun u' h=>h,fun u' h=>h,fun i b h=>(if_neg (Nat.ne_of_lt (I.wr.cn i b h))).trans h⟩;refine⟨le,⟨I.P,st.inv.keep,I.base,st.inv.tab,I.tN,fun q=>q.elim I.qZ (Ne.symm tb),fun b hb=>hb.elim (st.inv.mT b) fun q=>⟨q▸f,_,q▸g⟩,I.gens,I.os,fun env he=>(st.inv.frs env he).imp id fun x=>x.imp fun L x=>x.imp fun o x=>⟨x.1,x.2.1,fun q=>q.elim x.2.2.1 fun q=>fr (q▸List.mem_filterMap.mpr ⟨env,he,x.1⟩),x.2.2.2⟩,st.inv.tk,
   ⟨fun l e=>(I.wr.log l e).imp fun b x=>⟨x.1,.inl x.2.1,x.2.2.keep le fun o e=>k b o e⟩,fun es e=>(I.wr.wr es e).imp fun p x=>x.imp fun ds x=>x.imp fun n x=>⟨x.1,x.2.1,.inl x.2.2.1,k _ _ x.2.2.2.1,x.2.2.2.2.1.keep le fun b o u' e=>k b o e,x.2.2.2.2.2⟩,I.wr.l7,I.wr.CP,fun i b (h:(if i=G.cnt then some a else φ.ow i)=some b)=>?_⟩⟩,
  fun b o e h1 h2 h3=>st.kept b o e h1 h2 fun q=>h3 (.inl q),st.live,fun u' _=>.inl,fun b (hb:φ.mu b\/b=a)=>hb.imp id fun(q:b=a)=>.inl (q▸hn),GK.refl _⟩
 by_cases q:i=G.cnt
 ·exact q▸Nat.lt_succ_self _
 ·exact Nat.lt_succ_of_lt (I.wr.cn i b ((if_neg q).symm.trans h))
theorem Step.M1(I:Inv B φ G s){es:List (Str×At)}(e:G.wr=some es){p:Addr×Addr}{ds:Array DictEntry}{m m':Nat}{n:Str}{z:At}{key cv:Value}{h':Heap}{t:Tok}(hw:φ.wa=some p)(g:s.heap.get? p.2=some (gh ds m))(hk:∃t,key= .str n t)(hz:AR φ s.heap z cv)
  (hf:z.dh=true->cv∉gj es ds.toList/\∀a,φ.lg=some a->Value.ref a≠cv)(g1:h'.get? p.2=some (gh (putL n (PyData.keyHash φ.P n) key cv ds.toList).toArray m'))(k:∀b o,b≠p.2->s.heap.get? b=some o->h'.get? b=some o)(ht:s.toks<=t):
  Step B X φ s φ {G with wr:=some (putD n z es)} {s with heap:=h',toks:=t}:=by
 refine aV (I.wr.wr es e) fun p' ds' m0 x1 x2 x3 x4 x5 x6 x7=>?_;cases x1.symm.trans hw
 (clear hw;cases x4.symm.trans g)
 have kl:KL s.heap h':=fun b vs n gb=>k b _ (wj gb g fun u' u' q=>xi Data.ctorIdx q rfl) gb;have dr:=x5.dr;refine cJ (wh (n:=n) (z:=z) (hs:=PyData.keyHash φ.P n) (key:=key) (cv:=cv) dr) fun o1 o2=>?_;refine Step.mu I x3 x4 (fun q=>xi Data.ctorIdx q rfl) g1 k ht ⟨fun l e=>(I.wr.log l e).imp fun b z=>⟨z.1,z.2.1,z.2.2.imp fun us z'=>z'.imp fun j z'=>⟨kl _ _ _ z'.1,z'.2⟩⟩,fun es' he=>?_,I.wr.l7,fun q=>(xb q),I.wr.cn⟩
 (apply af (he))
 refine⟨p,_,m',x1,x2,x3,g1,?_,?_,fun a ha hm=>?_⟩
 ·rw[List.toList_toArray]
  exact jk.ar ((dr.put hk hz).mapR fun u' _=>AR.MZ kl)
 ·rw[List.toList_toArray]
  exact o2 x6 fun q=>(hf q).1
 ·simp only[List.toList_toArray]at hm
  exact(o1 _ hm).elim (x7 a ha) fun q=>(hf q.1).2 a ha q.2
end
end Mine.Internal
end
noncomputable section
open PySem PySem.W PyProof.Rows
namespace Mine.Internal
theorem j7{e:En}{i:Nat}(h:lone e i=true)(h0:(sl e i).kd≠0):∀j,i≠j->(sl e i).kd≠(sl e j).kd:=fun j ne q=>by
 by_cases hj:j<e.length
 ·have :=List.all_eq_true.mp h (sl e j) (by
   refine List.mem_of_getElem? (i:=j) ?_;rw[List.getElem?_set_ne ne,List.getElem?_eq_getElem hj];unfold sl;rw[List.getD_eq_getElem?_getD,List.getElem?_eq_getElem hj];rfl)
  rw[q,Nat.beq_refl]at this;exact xc this
 ·have :sl e j= .no:=by
   unfold sl;rw[List.getD_eq_getElem?_getD,List.getElem?_eq_none (by omega)];rfl
  rw[this]at q;exact h0 q
theorem sM(n:Str)(hs:Int)(key v:Value):∀l:List DictEntry,(putL n hs key v l).length<=l.length+1
 |[]=>Nat.le_refl _
 |e::r=>by
  unfold putL;split
  ·exact Nat.le_succ _
  ·exact Nat.succ_le_succ (sM n hs key v r)
section
variable{B:Base}{T:aM}{K:Frag}{φ:Ph}{G G':Gs}{s:Shared}{prog:Program}{w:World}{A:Around}{E:Value->Shared->Prop}
theorem AN{α:Type}{R:α->Value->Prop}{Q:Unit->Shared->Prop}{P:Params}(hP:P=w.params)(C:dM B T K)(I:Inv B φ G s){a dx D:Addr}{ds:Array DictEntry}{m:Nat}{n:Str}{u:Unit}{es:List (Str×α)}{cv:Value}(g:s.heap.get? a=some (q9 D dx))(g2:s.heap.get? dx=some (gh ds m))(q2:aW T.jD D n=some u)
  (r:jk P R es ds.toList)(hz:es.length<=900)(h:∀h' key m' t,(∃t,key= .str n t)->h'.get? dx=some (gh (putL n (PyData.keyHash P n) key cv ds.toList).toArray m')->(∀b o,b≠dx->s.heap.get? b=some o->h'.get? b=some o)->s.toks<=t->Q () {s with heap:=h',toks:=t}):
  wpAny (model prog w) A (setAttr (.ref a) n cv) Q E s:=by
 subst hP;have X:=C.uh.keeps I.kb;refine dg (C.jD _ _ _ q2) fun c1 c2 c3 c4 c5 c6=>?_;have hin:=gy g g2;refine set_plain X hin c6 (osa_open X hin c4 c5 fun b=>?_);refine av (any_some c2) fun cd hc hd'=>?_;refine wpAny_bind (wpAny_pure (wpAny_bind (wpAny_bind (wpAny_loadPart g (wpAny_bind (looks_clsIn X hc _ _ _ _ (fun u' u' e=>e) ?_))))));refine w_eq (by rw[hd']) ?_;refine wpAny_pure (a:=some dx) (wpAny_bind (wpAny_pure (wpAny_bind ?_)));refine wpAny_bind (wpAny_bind (wpAny_askSetting (wpAny_pure (wpAny_bind (wpAny_mkText (wpAny_bind (wpAny_loadPart g2 ?_)))))));dsimp only;have c:(!ds.any (·.key.isStr n)&&ds.any (·.refKey))=false:=by rw[<-Array.any_toList,<-Array.any_toList,r.ref,Bool.and_false]
 refine w_eq (by rw[aRefKeyMayBeTheName_at,c]) ?_;refine wpAny_updatePart g2 ?_;have hu:∀tk,(s.heap.update dx (Obj.putName n (PyData.keyHash w.params n) (.str n tk) cv)).get? dx=some (gh (putL n (PyData.keyHash w.params n) (.str n tk) cv ds.toList).toArray (putN n ds.toList m)):=fun tk=>by
  have q:dictOf ds.toList m=gh ds m:=by rfl
  have :=Heap.get?_update_self (Obj.putName n (PyData.keyHash w.params n) (.str n tk) cv) (q▸g2) (by rw[putName_dict];rfl);simp only[putName_dict]at this;exact this
 have hlen:∀tk,(putL n (PyData.keyHash w.params n) (.str n tk) cv ds.toList).toArray.size<=sizeLine+1:=fun tk=>by have h1:=sM n (PyData.keyHash w.params n) (.str n tk) cv ds.toList;rw[r.len]at h1;rw[List.size_toArray,sizeLine_eq];omega
 refine wpAny_bind (wpAny_lookBehind (hu _) (pastItsLine_dict (hlen _)) ?_);exact wpAny_pure (h _ _ _ (s.toks+1+1) ⟨_,rfl⟩ (hu _) (fun b o hb e=>(Heap.get?_update_other _ _ (Ne.symm hb)).trans e) (Nat.le_add_right _ 2))
end
section
variable{k:Ks}{ce:Env}{ns:List Str}
set_option tactic.hygienic true in
theorem JB{P:Prop}{T:aM}{n:Str}{v:V}{e:En}{G:Gs}{r:En×Gs}(h:xE T n v e G=some r)(k1:∀C es u,sl e 0= .iY C es->aW T.jD C n=some u->es.length<=900->lone e 0=true->r=(e.set 0 (.iY C (putD n v es)),G)->P)
  (k2:∀es u,sl e 0= .v (.sp .wr)->aW T.jD T.wc n=some u->G.wr=some es->es.length<=900->r=(e,{G with wr:=some (putD n (.v v) es)})->P):P:=by
 unfold xE at h;generalize hz:sl e 0=z at h;rcases z with _|x|_|⟨C,es⟩|_|_ <;> try(exact xa h)
 rotate_left
 ·exact bindC h fun u hu h=>ak h fun c h=>k1 C es u hz hu c.1 c.2 (Option.some.inj h).symm
 ·clear k1
  rcases x with _|x|_|_|_|_ <;> try(exact xa h)
  rcases x with⟨⟩ <;> try(exact xa h)
  refine bindC h fun u hu h=>?_;by_cases q:T.aF.contains n=true
  ·rw[if_pos q]at h;(rename_i aH;clear aH;exact xa h)
  ·rw[if_neg q]at h
   exact bindC h fun es he h=>ak h fun c h=>k2 es u hz hu he c (Option.some.inj h).symm
theorem Ei(S:cD k){v:Expr}{n x:Str}{p p2 pos:Pos}{y:X}(hx:fR ce ns x)(hv:bC k ce ns v y):eK k ce ns (.Assign [.Attribute (.Name x p) n p2] v pos) (.dQ n y):=fun A E Q φ G s e fl e' G' c ev kk=>bindC ev fun r e1 ev=>ay ev fun q e2 e3=>by
 replace kk:=jy e3 kk
 refine plainObj_wpAny_Assign_Attribute (hv.at c e1 fun cv aO s1 v1 t1=>?_) (iA v _ pos.line ce (fun u' u' u' _=>rfl) (fun u' u' u' _=>rfl) fun u' u' u' u' _=>rfl);have c1:=c.step t1;refine JB e2 (fun C es u hz hu hl ho hr=>?_) fun es u hz hu he hl hr=>?_
 ·clear hv e1 e2
  subst hr;have hk:ce.kindOf x=some .local:=hx.2.1.elim id fun hk=>by obtain⟨c',h1,h2⟩:=c1.E.oh x 0 hx.2.2 (by rw[hk];rfl);obtain⟨w,h3,h4⟩:=h2.v;rw[hz]at h4;rcases h4 with⟨h4,_⟩|⟨y,u,h4,_⟩ <;> cases h4
  refine bK (c1.E.loc) fun m hm=>?_;have sr:=hm.sr x 0 hx.2.2 hk;rw[hz]at sr;refine cV (sr) fun a d ds m' h1 h2 h3 g g2 rl=>?_;refine wpAny_Name (wpAny_loadName_local c1.E.kind hk hm.nm h1 (AN (t1.inv.P.trans S.hP) S.C t1.inv g g2 hu rl.dr hl fun h' key n' t hkey gd kp ht=>?_)) (ai hx.1).1;have S7:h'.get? a=some (q9 C d):=kp a _ (fun q=>by subst q;exact xi Data.ctorIdx (congrArg Obj.data (Option.some.inj (g.symm.trans g2))) rfl) g;refine kk _ _ _ rfl ((c.no t1).trans (j0 (b0:=d) t1.inv c1.E hm hx.2.2 hk (by rw[hz];exact⟨fun u q=>(xi SL.ctorIdx q rfl),a,h1,.inr ⟨_,g,rfl⟩⟩) (.inr (j7 ho (by rw[hz];exact fun q=>nomatch q))) g2 (fun q=>xi Data.ctorIdx q rfl) ⟨_,gd,fun _=>⟨_,_,rfl⟩⟩ kp ht
   ⟨a,d,_,n',h1,h2,h3,S7,gd,by rw[List.toList_toArray];exact(rl.dr.put hkey v1).er⟩ (fun q=>xc q) (fun _=>by rw[hz];rfl) fun b bE=>dS bE fun u' a0 w1 w2=>?_))
  obtain rfl:=Value.ref.inj (Option.some.inj (h1.symm.trans w1));rw[hz];exact⟨fun u q=>(xi SL.ctorIdx q rfl),a,h1,w2.imp id fun bE=>av bE fun o q1 q2=>by obtain rfl:=Option.some.inj (q1.symm.trans S7);exact⟨_,g,q2⟩⟩
 ·clear hv e1 e2
  obtain rfl:=hr;refine wpAny_Name (gp c1.E hx.2.2 hx.var hz (ai hx.1).2 fun co h1=>?_) (ai hx.1).1;refine aV (t1.inv.rX h1 he) fun p ds m Rl g0 g1 g2 g3 g4 g5=>?_;subst Rl;refine AN (t1.inv.P.trans S.hP) S.C t1.inv (S.O.wc▸g1) g3 hu g4.dr hl fun h' key n' t hkey gd kp ht=>?_;exact kk _ _ _ rfl (c.no (t1.trans (Step.M1 t1.inv he g0 g3 hkey (show AR aO _ (.v r.1) cv from v1) (fun q=>xc q) gd kp ht)))
end
end Mine.Internal
end
noncomputable section
open PySem PySem.W PyProof.Rows
namespace Mine.Internal
section
variable{k:Ks}{ce:Env}{ns:List Str}
theorem AO(S:cD k){A:Around}{φ:Ph}{G:Gs}{s:Shared}{e:En}{x n:Str}{p pos:Pos}{l:List V}(hx:fR ce ns x)(c:kM k A ce ns φ G s e)(ev:fj k.T e G (.at_ n)=some l){E:Value->Shared->Prop}{Q:Value->Shared->Prop}
  (h:∀a t,s.toks<=t->(∀aO G1 s1 l1,Step k.B No φ s aO G1 s1->fj k.T e G1 (.at_ n)=some l1->rI G (.at_ n)=rI G1 (.at_ n)->∃vs m,s1.heap.get? a=some (lo vs m)/\bz aO l1 vs.toList/\∀l' vs',bz aO l' vs'.toList->∀R:Shared->Prop,
    (∀s2,dX k.B ce ns e φ s (oQ e G1 l' (.at_ n)).1 aO (oQ e G1 l' (.at_ n)).2 s2->R s2)->Told s1 a vs' R)->Q (.ref a) {s with toks:=t}):wpAny (model k.prog k.w) A (eval (.Attribute (.Name x p) n pos) ce) Q E s:=by
 refine I3 S hx c ev fun a i mu ow ol q es ds m _ he hl _ _ _=>h a _ (Nat.le_succ _) fun aO G1 s1 l1 t1 mz hid=>atC mz fun hz _ es1 M3 i1 hl1=>?_;have Rn:∀{G:Gs} {es:List (Str×At)} {i:Nat} {l:List V},G.wr=some es->look es n=some (.own i l)->rI G (.at_ n)=some i:=fun {G es i l} h1 h2=>by
  delta rI OX
  dsimp only;rw[h1,Option.bind_some,h2];rfl
 (rename_i aH bI _ _ _;clear aH bI;(clear S hx ev h mu ol mz hz;obtain rfl:=Option.some.inj ((Rn he hl).symm.trans (hid.trans (Rn M3 hl1)))))
 refine aV (t1.inv.wr.wr es1 M3) fun p1 V0 m1 y1 y2 y3 y4 y5 y6 y7=>?_;refine bK ((y5.dr.find n).2 _ hl1) fun d M4=>dS M4 fun f1 a1 v1 M5=>jE M5 fun UC S8 vs n1 g1 r1=>?_;clear M4 M5;obtain rfl:=Option.some.inj (S8.symm.trans (t1.le.ow _ _ ow));refine⟨vs,n1,g1,r1,fun l' vs' r' R hR h' n' g' kp=>hR _ ?_⟩;have e2:oQ e G1 l' (.at_ n)=(e,{G1 with wr:=some (putD n (.own i l') es1)}):=by show(e,({G1 with wr:=G1.wr.map (putD n (.own ((rI G1 (.at_ n)).getD 0) l'))}:Gs))=_;rw[Rn M3 hl1,M3];rfl
 rw[e2];exact c.no (t1.trans (Step.M0 t1.inv M3 y1 y4 hl1 ⟨d,f1,v1⟩ UC S8 g1 g' r' kp (Nat.le_refl _)))
theorem AP(S:cD k){v:Expr}{y:X}{x n:Str}{p p2 ap cp pos:Pos}(hx:fR ce ns x)(hl:(ap.endLine==cp.line)=true)(hs:noStar v=true)(hv:bC k ce ns v y):eK k ce ns (.Expr (.Call (.Attribute (.Attribute (.Name x p) n p2) "append" ap) [v] [] cp) pos) (.eF (.at_ n) y):=fun A E Q φ G s e fl e' G' c ev kk=>bindC ev fun l0 e0 ev=>bindC ev fun r e1 ev=>bindC ev fun l1 e2 ev=>ak ev fun hz1 ev=>by
 (rename_i aH bI bS eN;clear aH bI bS eN;replace kk:=jY ev kk)
 refine wpAny_Expr_any (wpAny_Call_append rfl (by simp[au _ _ (show([v]).all noStar=true by rw[List.all_cons,hs];rfl),IF,backToKw]) hl (au _ _ (by rw[List.all_cons,hs];rfl)) (AO S hx c e0 fun a t ht hq=>?_)) (by unfold interactive;rw[c.E.kind];rfl) rfl;have t0:Step k.B No φ s φ G {s with toks:=t}:=Step.toks c.I ht;refine aI (hq _ _ _ _ t0 e0 rfl) fun vs m g _ _=>?_;refine⟨a,vs,rfl,⟨_,m,g,rfl,rfl,rfl⟩,hv.at (c.step t0) e1 fun cv aO s1 v1 t1=>?_⟩;refine aI (hq _ _ _ _ (t0.trans t1) e2 hz1.2) fun us m1 g1 r1 hT=>?_;exact AK g1 (by rw[r1.size];exact Nat.le_trans (Nat.le_of_lt hz1.1) bG) (hT _ _ (by rw[Array.toList_push];exact r1.append (.one v1)) _ fun s2 g2=>kk _ _ _ rfl g2)
theorem bz.dropLast{φ:Ph}{l:List V}{vs:Array Value}(r:bz φ l vs.toList):bz φ l.dropLast (vs.eraseIdxIfInBounds (vs.size -1)).toList:=by
 have e:(vs.eraseIdxIfInBounds (vs.size -1)).toList=vs.toList.take (vs.size -1):=by
  rw[Array.toList_eraseIdxIfInBounds,List.eraseIdx_eq_take_drop_succ];by_cases h:vs.size=0
  ·have :vs.toList=[]:=by rw[<-List.length_eq_zero_iff,Array.length_toList];exact h
   rw[this];simp
  ·rw[List.drop_eq_nil_of_le (by rw[Array.length_toList];omega),List.append_nil]
 simp only[e,List.dropLast_eq_take,<-r.size];exact r.take _
theorem Ej(S:cD k){x n:Str}{p p2 ap cp pos:Pos}(hx:fR ce ns x)(hl:(ap.endLine==cp.line)=true):eK k ce ns (.Expr (.Call (.Attribute (.Attribute (.Name x p) n p2) "pop" ap) [] [] cp) pos) (.xD (.at_ n)):=fun A E Q φ G s e fl e' G' c ev kk=>bindC ev fun l0 e0 ev=>ak ev fun hz ev=>by
 (rename_i aH bI;clear aH bI;replace kk:=jY ev kk)
 refine wpAny_Expr_any ?_ (by unfold interactive;rw[c.E.kind];rfl) rfl;rw[arm_eval_Call,aB (o:=.Attribute (.Name x p) n p2) rfl];refine wpAny_bind (AO S hx c e0 fun a t ht hq=>wpAny_bind (wpAny_standAt ?_));have t0:Step k.B No φ s φ G {s with toks:=t}:=Step.toks c.I ht;refine aI (hq _ _ _ _ t0 e0 rfl) fun vs m g r hT=>?_;unfold methodCall;rw[show methodCallForm _ _ _=true from rfl];refine wpAny_bind (wpAny_holding ?_);unfold calleeOf;refine w_eq (if_pos rfl) ?_;refine getMethod_builtin ⟨_,g,rfl⟩ PySem.F.plainAttrs_list PySem.F.slot_list_pop PySem.F.type_list_pop (fun b e=>by(clear S hx ht;obtain rfl:=Value.ref.inj e);exact⟨_,g,rfl⟩) ?_;dsimp only;unfold methodCallPos;rw[hl];refine wpAny_bind (wpAny_pure (callWith_of (P:=fun hp=>bA (model k.prog k.w) hp (.builtin "list.pop")) rfl (fun _ z=>z) (jw (es:=[]) (xs:=[]) (fun A E Q φ G s e r G' c ev kk=>?_) (c.step t0) rfl fun aP aO s1 h1 t1=>?_)))
 ·exact lR ev fun a b=>Calls.spliced_nil (kk _ _ _ (a▸bz.nil) (b▸Step.refl c.I))
 ·(clear S hx hl c ev ht;subst h1)
  refine aI (hq _ _ _ _ (t0.trans t1) e0 rfl) fun vs m g r hT=>?_;exact⟨⟨.machine,.inr (.inl rfl),Looks.of_pure rfl⟩,MY g (by rw[r.size];exact Nat.le_trans hz.1 bG) (by rw[r.size];exact fun q=>hz.2 (List.length_eq_zero_iff.mp q)) fun y=>hT _ _ r.dropLast _ fun s2 g2=>kk _ _ _ rfl g2⟩
theorem Ek(S:cD k){x n:Str}{p p1 p2 p3 pos:Pos}(hx:fR ce ns x):eK k ce ns (.Delete [.Subscript (.Attribute (.Name x p) n p2) (.Slice none none none p1) p3] pos) (.CW n):=fun A E Q φ G s e fl e' G' c ev kk=>bindC ev fun l0 e0 ev=>ak ev fun hz ev=>by
 (rename_i aH bI;clear aH bI;replace kk:=jY ev kk)
 refine wpAny_Delete (wpAny_deleteEach_cons ?_);simp only[arm_delete_Subscript];refine wpAny_bind (AO S hx c e0 fun a t ht hq=>wpAny_bind (wpAny_holding (wpAny_Slice ?_)));simp only[evalPart_none];refine wpAny_pure (wpAny_pure (wpAny_pure (wpAny_bind (wpAny_standAt ?_))));have t0:Step k.B No φ s φ G {s with toks:=t}:=Step.toks c.I ht;have t1:Step k.B No φ s φ G {s with heap:=s.heap.push {cls:=.type "slice",data:=.fields #[.none,.none,.none]},toks:=t}:=t0.trans (Step.push t0.inv _ (Nat.le_refl _));refine aI (hq _ _ _ _ t1 e0 rfl) fun vs m g r hT=>?_;refine wpAny_bind (wpAny_holding (AL g (Heap.IsSliceOf.new ..) (by rw[r.size];exact Nat.le_trans hz bG) (hT [] #[] rfl _ fun s2 g2=>?_)));exact wpAny_release (wpAny_deleteEach_nil (kk .next _ _ rfl g2))
end
end Mine.Internal
end
noncomputable section
open PySem PySem.W PyProof.Rows
set_option backward.match.sparseCases false
namespace Mine.Internal
section
variable{prog:Program}{w:World}{A:Around}{E:Value->Shared->Prop}{s:Shared}{Q:Value->Shared->Prop}
theorem qt{b:Array UInt8}{t:Tok}(hQ:Q (.ref s.heap.objs.size) {s with heap:=s.heap.push {cls:=.type "bytes_iterator",data:=.fields #[.bytes b t,.int 0 0]}}):
  wpAny (model prog w) A (call (.builtin "iter") [.bytes b t]) Q E s:=by
 refine Calls.call_function_entry (by decide+kernel) (by decide+kernel) kdk_entry_iter (kdk_args_iter _) ?_;refine wpAny_bind (m:=someArgs "iter" 1 2 _) (wpAny_of_eq (a:=[Value.bytes b t]) (by first|rfl|kernel_rfl!) ?_);exact wpAny_bind (KBw.pyIter_bytes (wpAny_pure ⟨_,rfl,hQ⟩))
noncomputable def M6 (b:Array UInt8) (t:Tok) (i:Nat) (o:Obj):Prop:=o.cls= .type "bytes_iterator"/\o.data= .fields #[.bytes b t,.int i 0]/\o.dict=none
theorem qu{it:Addr}{b:Array UInt8}{t:Tok}{i:Nat}{c:UInt8}{o:Obj}(ho:s.heap.get? it=some o)(hb:M6 b t i o)(hx:b[i]?=some c)
  (hQ:∀h' o',h'.get? it=some o'->M6 b t (i+1) o'->(∀b o,b≠it->s.heap.get? b=some o->h'.get? b=some o)->Q (.int (c.toNat:Int) s.toks) {s with heap:=h',toks:=s.toks+1}):
  wpAny (model prog w) A (call (.builtin "next") [.ref it]) Q E s:=by
 refine cG (hb) fun hc hd hn=>?_;have hit:KBw.IsBytesIter s.heap it b t i:=⟨o,ho,hc,hd⟩;refine Calls.call_function_entry (by decide+kernel) (by decide+kernel) kdk_entry_next (kdk_args_next _) ?_;refine wpAny_bind (m:=someArgs "next" 1 2 _) (wpAny_of_eq (a:=[Value.ref it]) (by first|rfl|kernel_rfl!) ?_);dsimp only;refine wpAny_bind (wpAny_specialOf (name:=PySem.Str.ofString "__next__") (KBw.iter_typeIs hit) KBw.slot_next.lookup ?_);refine wpAny_ite_split (fun hab=>absurd hab (by decide)) (fun _=>?_);refine wpAny_bind (wpAny_callSpecial?_slot (name:=PySem.Str.ofString "__next__") (KBw.iter_typeIs hit) KBw.slot_next
  (wpAny_call_entry KBw.slot_next (KBw.iter_typeIs hit) KBw.entry_next ?_ (KBw.args_next _)))
 show wpAny _ _ (field (.ref it) 0>>=_) _ _ s;refine wpAny_bind (wpAny_field ho hd (x:=.bytes b t) rfl ?_);rw[if_neg (show ¬((Value.bytes b t==Value.none)=true)from Bool.false_ne_true)];refine wpAny_bind (wpAny_field ho hd (x:=.int i 0) rfl ?_);refine wpAny_bind (wpAny_of_eq (a:=b) rfl ?_);rw[Int.toNat_natCast,hx];refine wpAny_bind (wpAny_setField ho hd (by simp) (wpAny_bind (wpAny_mkInt (wpAny_pure ⟨_,rfl,wpAny_pure ⟨_,rfl,hQ _ _ (Heap.get?_update_self _ ho (Obj.isFreed_of_fields (Obj.data_mapFields hd _))) ⟨(Obj.cls_mapFields ..).trans hc,?_,?_⟩ fun b o hb e=>(Heap.get?_update_other _ _ (Ne.symm hb)).trans e⟩⟩))))
 ·rw[Obj.data_mapFields hd];rfl
 ·obtain⟨c,d,dt,sl⟩:=o
  (clear hx hQ hit ho hb hc;subst hd)
  exact hn
end
section
variable{k:Ks}{ce:Env}{ns:List Str}
theorem qv{φ:Ph}{h:Heap}:∀{es:List (Str×At)} {ds:List DictEntry},ri φ h es ds->∀a,Value.ref a∈gj es ds->φ.mu a
 |[],_,_,_,q=>nomatch q
 |e::es,_,x,a,q=>x.elim fun d x=>x.elim fun r x=>by
  obtain⟨rfl,⟨_,_,h3⟩,h4⟩:=x;rw[rj]at q;cases hz:e.2 with
  |v y=>rw[hz]at q;exact qv h4 a (by simpa[At.dh]using q)
  |own i l=>
   rw[hz]at q h3;obtain⟨b,e1,e2,_⟩:=h3;have q':Value.ref a∈d.val::gj es r:=by simpa[At.dh]using q
   rcases List.mem_cons.mp q' with q'|q'
   ·rw[e1]at q';(clear x q hz e1;obtain rfl:=Value.ref.inj q');exact e2
   ·exact qv h4 a q'
theorem UD{α:Type}{P:Prop}{e:En}{f:Option α}{r:α}(h:(match sl e 0 with| .v (.sp .wr)=>f|_=>none)=some r)(kk:sl e 0= .v (.sp .wr)->f=some r->P):P:=by
 split at h
 ·rename_i q;exact kk q h
 ·exact xa h
theorem El(S:cD k){es:List Expr}{xs:List X}{x n:Str}{p p2 lp pos:Pos}(hx:fR ce ns x)(hs:es.all noStar=true)(hv:r4 k ce ns es xs):eK k ce ns (.Assign [.Attribute (.Name x p) n p2] (.List es lp) pos) (.anew n xs):=fun A E Q φ G s e fl e' G' c ev kk=>UD ev fun hz ev=>bindC ev fun r e1 ev=>ak ev fun hc ev=>bindC ev fun u hu ev=>bindC ev fun es' he ev=>ak ev fun hl ev=>by
 (rename_i aH bI bS eN i6 DR;clear aH bI bS eN i6 DR;replace kk:=jY ev kk)
 have key:∀aP aO s1,bz aO r.1 aP->Step k.B No φ s aO r.2 s1->wpAny (model k.prog k.w) A (eval (.Name x p) ce) (fun ov s2=>wpAny (model k.prog k.w) A (setAttr ov n (.ref s1.heap.objs.size)) (fun _=>Q .next) E s2) E {s1 with heap:=s1.heap.push (lo aP.toArray 0)}:=fun aP aO s1 v1 t1=>by
  have hn:=Inv.bL s1;have g:(s1.heap.push (lo aP.toArray 0)).get? s1.heap.objs.size=some (lo aP.toArray 0):=Heap.get?_push_size _ rfl;have t2:=Step.Pb (X:=No) (t:=s1.toks) (h':=s1.heap.push (lo aP.toArray 0)) t1.inv (fun _ _ e=>Heap.get?_push_of_some _ e) hn g (Nat.le_refl _);have xN:=t1.trans t2;have c2:=c.step xN;refine wpAny_Name (gp c2.E hx.2.2 hx.var hz (ai hx.1).2 fun co h1=>?_) (ai hx.1).1;refine aV (t2.inv.rX h1 (he:({r.2 with cnt:=r.2.cnt+1}:Gs).wr=some es')) fun q ds m Ro g0 g1 g2 g3 g4 g5=>?_;(clear hx hz ev c2 h1 g2 g5;subst Ro);refine bP (t1.inv.wr.wr es' he) fun p' ds' m' y1 y2 y3 y4 y5 _=>?_;clear y2 y3;obtain rfl:=Option.some.inj (y1.symm.trans g0);cases(Heap.get?_push_of_some (lo aP.toArray 0) y4).symm.trans g3;refine AN (t2.inv.P.trans S.hP) S.C t2.inv (S.O.wc▸g1) g3 hu g4.dr hl fun h' key n' t hkey gd kp ht=>?_;refine kk _ _ _ rfl (c.no (xN.trans (Step.M1 t2.inv he g0 g3 hkey ⟨_,rfl,.inr rfl,if_pos rfl,aP.toArray,0,g,by rw[List.toList_toArray];exact v1.mono t2.le⟩ (fun _=>⟨fun q=>(t1.inv.free hn).2.1 (qv y5 _ q),fun a ha q=>?_⟩) gd kp ht)));obtain rfl:=Value.ref.inj q;cases M7:r.2.log with
  |none=>exact xa ((t1.inv.wr.l7 M7).symm.trans ha)
  |some l=>exact(t1.inv.wr.log l M7).elim fun b z=>(t1.inv.free hn).2.1 (by obtain rfl:=Option.some.inj (z.1.symm.trans ha);exact z.2.1)
 exact plainObj_wpAny_Assign_Attribute (wpAny_List (by
  refine w_eq (congrArg _ (au _ _ hs)) ?_;exact hv.at c e1 fun aP aO s1 v1 t1=>⟨by rw[<-v1.length];exact Nat.le_trans hc.2 bG,key aP aO s1 v1 t1⟩)) rfl
set_option tactic.hygienic true in
theorem AQ{f v:Expr}{y:X}{x:Str}{p cp pos:Pos}{i:Nat}(hk:ce.kindOf x=some .local)(hi:ix ns x=some i)(hi0:i≠0)(ha:bM f=false)(hs:noStar v=true)(hf:bC k ce ns f (.c (.c (.fn .iter))))(hv:bC k ce ns v y):eK k ce ns (.Assign [.Name x p] (.Call f [v] [] cp) pos) (.rE i y):=fun A E Q φ G s e fl e' G' c ev kk=>bindC ev fun r e1 ev=>by
 obtain⟨rv,rG⟩:=r;refine wpAny_Assign_Name ?_ (b9 rfl _ _ _);refine gC ha hs hf c (G':=G) (r:=.c (.fn .iter)) rfl fun cf aO s1 h1 t1=>?_
 (rename_i aH;clear aH;(clear ha hs hf;obtain rfl:=h1))
 refine callWith_of (P:=fun hp=>bA (model k.prog k.w) hp (.builtin "iter")) rfl (fun _ z=>z) (ee (hv.at (c.step t1) e1 fun cv d9 s2 h2 t2=>⟨⟨.machine,.inr (.inl rfl),Looks.of_pure rfl⟩,?_⟩));split at ev
 ·rename_i b hb
  dsimp only at hb;clear hv e1;subst hb
  replace kk:=jY ev kk
  refine bK (h2) fun t Iz=>?_;subst Iz;have hn:=Inv.bL s2;have g:(s2.heap.push {cls:=.type "bytes_iterator",data:=.fields #[.bytes b t,.int 0 0]}).get? s2.heap.objs.size=some {cls:=.type "bytes_iterator",data:=.fields #[.bytes b t,.int 0 0]}:=Heap.get?_push_size _ rfl;have t3:Step k.B No d9 s2 d9 rG {s2 with heap:=s2.heap.push {cls:=.type "bytes_iterator",data:=.fields #[.bytes b t,.int 0 0]}}:=Step.push t2.inv _ (Nat.le_refl _);have fr:=t2.inv.nM hn;have xN:=t1.trans t2;have j:=JI.new (c.step xN).E t3 hn fr g;exact qt (uE (z:=.eH b 0) c.I c.E (xN.trans t3) hi hk (xN.dead hn) fr g rfl (fun _ q=>xi Data.ctorIdx q rfl) ⟨_,_,t,rfl,fr.own j.nl,g,rfl,rfl,rfl⟩ (fun _=>hi0) fun s4 g4=>kk _ _ _ rfl g4)
 ·exact xa ev
end
end Mine.Internal
end
noncomputable section
open PySem PySem.W PyProof.Rows
set_option backward.match.sparseCases false
namespace Mine.Internal
section
variable{k:Ks}{ce:Env}{ns:List Str}
theorem Rp{α:Type}{P:Prop}{z:SL}{f:Array UInt8->Nat->Option α}{r:α}(h:(match z with| .eH b p=>f b p|_=>none)=some r)(kk:∀b p,z= .eH b p->f b p=some r->P):P:=by
 rcases z with _|_|_|⟨_,_⟩|⟨b,p⟩|_
 ·exact xa h
 ·exact xa h
 ·exact xa h
 ·exact xa h
 ·exact kk b p rfl h
 ·exact xa h
theorem AS{f:Expr}{x it:Str}{p p2 cp pos:Pos}{i j:Nat}(hk:ce.kindOf x=some .local\/ce.kindOf x=some .cell)(hi:ix ns x=some i)(hkj:ce.kindOf it=some .local)(hj:ix ns it=some j)(hpl:ao it=true)(ha:bM f=false)(hf:bC k ce ns f (.c (.c (.fn .next)))):eK k ce ns (.Assign [.Name x p] (.Call f [.Name it p2] [] cp) pos) (.oK i j):=fun A E Q φ G s e fl e' G' c ev kk=>Rp (f:=fun b p=>if lone e j=true then(b[p]?).map fun(c:UInt8)=>(Fl.aS,(e.set j (.eH b (p+1))).set i (.v (.c (.int ((c.toNat:Nat):Int)))),G)else none) ev fun b q hz ev=>ak ev fun hl ev=>ay ev fun u hb ev=>by
 replace kk:=jy ev kk
 refine wpAny_Assign_Name ?_ (b9 rfl _ _ _);refine gC ha rfl hf c (G':=G) (r:=.c (.fn .next)) rfl fun cf aO s1 h1 t1=>?_;subst h1;have c1:=c.step t1;refine bK (c1.E.loc) fun m hm=>?_;have sr:=hm.sr it j hj hkj;rw[hz]at sr;refine bP (sr) fun a o t m1 o1 g b1 b2 b3=>?_;refine callWith_of (P:=fun hp=>bA (model k.prog k.w) hp (.builtin "next")) rfl (fun u' z=>z) (ee (wpAny_Name (wpAny_loadName_local c1.E.kind hkj hm.nm m1 ⟨⟨.machine,.inr (.inl rfl),Looks.of_pure rfl⟩,?_⟩) (ai hpl).1));refine qu g ⟨b1,b2,b3⟩ hb fun h' o' g' b' kp=>?_;refine cG (b') fun UE UG S9=>?_;have nd:∀{o:Obj} {vs},o.data= .fields vs->¬eB o:=fun h bE=>gY bE fun u' u' q=>xi Data.ctorIdx (h.symm.trans q) rfl;have go:=j0 (z:=.eH b (q+1)) (t:=s1.toks+1) t1.inv c1.E hm hj hkj (b0:=a) (by rw[hz];exact⟨fun u q=>(xi SL.ctorIdx q rfl),a,m1,.inl rfl⟩) (.inr (j7 hl (by rw[hz];exact fun q=>nomatch q))) g (fun q=>xi Data.ctorIdx (b2.symm.trans q) rfl) ⟨_,g',fun q=>absurd q (nd b2)⟩ kp (Nat.le_succ _)
  ⟨a,o',t,m1,o1,g',UE,UG,S9⟩ (fun q=>xc q) (fun _=>by rw[hz];rfl) fun b bE=>dS bE fun u' a0 w1 w2=>by obtain rfl:=Value.ref.inj (Option.some.inj (m1.symm.trans w1));rw[hz];exact⟨fun u q=>(xi SL.ctorIdx q rfl),a,m1,w2.imp id fun bE=>av bE fun o q1 q2=>by obtain rfl:=Option.some.inj (q1.symm.trans g');exact xa (S9.symm.trans q2)⟩
 exact fB go.st.inv go.en hi hk (show VR aO (.c (.int (u.toNat:Int))) (.int (u.toNat:Int) s1.toks)from⟨_,rfl⟩) fun s3 g3=>kk _ _ _ rfl (((c.no t1).trans go).trans g3)
end
end Mine.Internal
end
noncomputable section
open PySem PySem.W PyProof.Rows
namespace Mine.Internal
section
variable{k:Ks}{ce:Env}{ns:List Str}
theorem Em{f:Expr}{x:Str}{p cp pos:Pos}{i:Nat}(hk:ce.kindOf x=some .local)(hi:ix ns x=some i)(hi0:i≠0)(ha:bM f=false)(hf:bC k ce ns f (.c (.c (.fn .set)))):eK k ce ns (.Assign [.Name x p] (.Call f [] [] cp) pos) (.CY i):=fun A E Q φ G s e fl e' G' c ev kk=>by
 replace kk:=jY ev kk
 refine wpAny_Assign_Name ?_ (b9 rfl _ _ _);refine w_eq (call_plain ha rfl) ?_;refine wpAny_bind (hf.at c (G':=G) (r:=.c (.fn .set)) rfl fun cf aO s1 h1 t1=>?_);subst h1;refine callWith_of (P:=fun hp=>bA (model k.prog k.w) hp (.type "set")) rfl (fun u' z=>z) (PySem.evalArgs_none ⟨⟨.machine,.inr (.inl rfl),Looks.of_pure rfl⟩,?_⟩);refine call_set_0 fun led=>?_;have fin:∀ob:Obj,rt k.B.P [] ob->ob.isFreed=false->ob.dict=none->(∀v,ob.data≠ .cell v)->wpAny (model k.prog k.w) A (storeName ce x (.ref s1.heap.objs.size)) (fun u' s'=>Q .next s') E {s1 with heap:=s1.heap.push ob}:=fun ob hob h1 h2 h3=>by have hn:=Inv.bL s1;have fr:=t1.inv.nM hn;have t3:Step k.B No aO s1 aO G {s1 with heap:=s1.heap.push ob}:=Step.push t1.inv _ (Nat.le_refl _);have g:=Heap.get?_push_size s1.heap h1;have j:=JI.new (c.step t1).E t3 hn fr g;exact uE (z:=.yL []) c.I c.E (t1.trans t3) hi hk (t1.dead hn) fr g h2 h3 ⟨_,ob,rfl,fr.own j.nl,g,t3.inv.P.symm▸hob⟩ (fun _=>hi0) fun s4 g4=>kk _ _ _ rfl g4
 exact fin _ ⟨#[],0,_,rfl,(fun u' h=>nomatch h),(fun k=>⟨fun h=>(nomatch h),fun bE=>av bE fun u' h _=>nomatch h⟩),Nat.le_refl _,rfl⟩ rfl rfl (fun u' q=>xi Data.ctorIdx q rfl)
end
end Mine.Internal
end
noncomputable section
open PySem PySem.W PyProof.Rows
namespace Mine.Internal
section
variable{B:Base}{X:Addr->Prop}{φ az:Ph}{G G':Gs}{s s':Shared}
noncomputable def Ph.M8(φ:Ph)(a:Addr):Ph:={φ with mu:=fun b=>φ.mu b\/b=a,lg:=some a}
theorem Ph.JC{a:Addr}(h:φ.lg=none):φ.Le (φ.M8 a):=⟨rfl,fun u' u' h=>h,fun _=>.inl,fun u' q=>(xa (h.symm.trans q)),fun u' h=>h,fun u' h=>h,fun u' u' h=>h⟩
theorem Step.M8(I:Inv B φ G s){h':Heap}{t:Tok}{a:Addr}(e:G.log=none)(k:∀b o,s.heap.get? b=some o->h'.get? b=some o)(ha:s.heap.get? a=none)(ga:h'.get? a=some (lo #[] 0))(ht:s.toks<=t):
  Step B X φ s (φ.M8 a) {G with log:=some []} ⟨h',s.gens,s.drawn,t,s.os⟩:=by
 have st:Step B X φ s φ G ⟨h',s.gens,s.drawn,t,s.os⟩:=Step.more I k ht;refine bW (I.free ha) fun f mu tb fr=>?_;have le:=Ph.JC (a:=a) (I.wr.l7 e);have i1:=st.inv;refine⟨le,⟨I.P,i1.keep,i1.base,i1.tab,i1.tN,fun q=>q.elim I.qZ (Ne.symm tb),fun b hb=>?_,I.gens,I.os,fun env he=>?_,i1.tk,⟨fun l hl=>?_,fun es he=>?_,fun q=>(xb q),I.wr.CP,I.wr.cn⟩⟩,fun b o e h1 h2 h3=>st.kept b o e h1 h2 fun q=>h3 (.inl q),st.live,fun b o e=>.inl e,fun b hb=>(by
  rcases hb with hb|rfl
  ·exact .inl hb
  ·exact .inr (.inl ha)),GK.refl _⟩
 ·rcases hb with hb|rfl
  ·exact i1.mT b hb
  ·exact⟨f,_,ga⟩
 ·refine bY (i1.frs env he) fun p1 L o p2 p3 p4 p5 p6 p7=>?_
  exact⟨p1,L,o,p2,p3,fun q=>q.elim p4 fun q=>fr (q▸List.mem_filterMap.mpr ⟨env,he,p2⟩),p5,p6,p7⟩
 ·(apply af (hl))
  exact⟨a,rfl,.inr rfl,#[],0,ga,.nil⟩
 ·refine aV (i1.wr.wr es he) fun p ds n y1 y2 y3 y4 y5 y6 y7=>?_
  refine⟨p,ds,n,y1,y2,.inl y3,y4,y5.keep le fun b o u' e=>e,y6,fun b hb q=>?_⟩
  (revert q;apply af (hb);intro q)
  exact mu (qv y5 a q)
end
section
variable{k:Ks}{ce:Env}{ns:List Str}
theorem Eo{x:Str}{p lp pos:Pos}{i:Nat}(hk:ce.kindOf x=some .local)(hi:ix ns x=some i):eK k ce ns (.Assign [.Name x p] (.List [] lp) pos) (.CX i):=fun A E Q φ G s e fl e' G' c ev kk=>ak ev fun hn ev=>by
 (rename_i aH;clear aH;replace kk:=jY ev kk)
 refine wpAny_Assign_Name (wpAny_List ?_) (b9 rfl _ _ _);refine w_eq (congrArg _ (au _ _ rfl)) ?_;refine Calls.spliced_nil ⟨Nat.zero_le _,?_⟩;have ha:=Inv.bL s;have t:=Step.M8 (X:=No) (t:=s.toks) c.I (Option.isNone_iff_eq_none.mp hn) (h':=s.heap.push (lo #[] 0)) (fun b o e=>Heap.get?_push_of_some _ e) ha (Heap.get?_push_size _ rfl) (Nat.le_refl _);exact fB t.inv (c.step t).E hi (.inl hk) (show VR (φ.M8 s.heap.objs.size) (.sp .CO) _ from⟨_,rfl,rfl⟩) fun s2 g2=>kk _ _ _ rfl ((c.no t).trans g2)
end
end Mine.Internal
end
noncomputable section
open PySem PySem.W PyProof.Rows
namespace Mine.Internal
section
variable{k:Ks}{ce:Env}{ns:List Str}
theorem Ep(Si:cD k){x:Str}{p ap cp pos:Pos}{i:Nat}{a:Expr}{y:X}(hk:ce.kindOf x=some .local)(hi:ix ns x=some i)(hpl:ao x=true)(hp:(ap.endLine==cp.line)=true)(hs:noStar a=true)(hy:bC k ce ns a y):eK k ce ns (.Expr (.Call (.Attribute (.Name x p) "add" ap) [a] [] cp) pos) (.za i y):=fun A E Q φ G s e fl e' G' c ev kk=>bindC ev fun r e1 ev=>MJ (f:=fun xs=>(aY r.1).bind fun v=>if xs.length<=6/\lone e i=true then some (Fl.aS,e.set i (.yL (v::xs)),r.2)else none) ev fun xs hz ev=>bindC ev fun v hv ev=>ak ev fun cc ev=>by
 (rename_i aH bI bS eN;clear aH bI bS eN;replace kk:=jY ev kk)
 refine bK (c.E.loc) fun m hm=>?_;have sr:=hm.sr x i hi hk;rw[hz]at sr;refine bu (sr) fun ad ob m1 o1 g hob=>?_;refine wpAny_Expr_any ?_ (by unfold interactive;rw[c.E.kind];rfl) (b9 rfl _ _ _);rw[arm_eval_Call,aB (o:=.Name x p) rfl,au _ _ (by rw[List.all_cons,hs];rfl)];refine wpAny_bind (wpAny_Name (wpAny_loadName_local c.E.kind hk hm.nm m1 (wpAny_bind (wpAny_standAt ?_))) (ai hpl).1);unfold methodCall;rw[show methodCallForm _ _ _=true from rfl];refine wpAny_bind (wpAny_holding ?_);unfold calleeOf;rw[if_pos rfl];have hT:s.TypeIs (.ref ad) "set":=by obtain⟨_,_,_,e,_⟩:=hob;exact⟨ob,g,by rw[e]⟩
 refine getMethod_builtin hT PySem.F.plainAttrs_set PySem.F.slot_set_add PySem.F.type_set_add (fun b e=>by injection e with e;(clear hpl hs ev hT;subst e);exact⟨ob,g,by obtain⟨_,_,_,e,_⟩:=hob;rw[e]⟩) ?_;dsimp only;unfold methodCallPos;rw[hp];refine wpAny_bind (wpAny_pure (callWith_of (P:=fun hp=>bA (model k.prog k.w) hp (.builtin "set.add")) rfl (fun _ z=>z) (ee (hy.at c e1 fun cv d9 s2 h2 t2=>⟨⟨.machine,.inr (.inl rfl),Looks.of_pure rfl⟩,?_⟩))));rw[bh hv]at h2;refine bK (h2) fun tk Iw=>?_;(clear hpl hp hs hy e1 hv ev hT h2;subst Iw);have c2:=c.step t2;have hm2:s2.heap.Ns ce.locals m:=eZ t2 c.E id hm.nm;refine bK (c2.E.loc) fun m' hm'=>?_;obtain rfl:=(bR hm2 hm'.nm);have sr:=hm'.sr x i hi hk;rw[hz]at sr;refine bu (sr) fun V1 ob UH o1 g hob=>?_
 (rename_i aH _;clear aH;obtain rfl:=Value.ref.inj (Option.some.inj (m1.symm.trans UH)))
 refine av (v7 (prog:=k.prog) (t2.inv.P.trans Si.hP) g hob (Nat.le_trans cc.1 (by decide))) fun n hn hS=>?_;refine call_set_add (strKind_is k.prog k.w v tk) rfl hS (by unfold scanBound;omega) fun h' Gk hS'=>?_;refine av (DS (P:=d9.P) (xs:=v::xs) (t2.inv.P.trans Si.hP) hS' (fun k=>by simp[or_comm]) (by simp only[List.length_cons];split <;> omega)) fun UI g' M9=>?_;have dd:∀{o:Obj} {xs:List Str},rt d9.P xs o->(∃es ep t,o.data= .set es ep t)/\o.dict=none:=fun h=>let⟨es,ep,t,h,_⟩:=h;⟨⟨es,ep,t,by rw[h]⟩,by rw[h]⟩;refine cJ (dd hob) fun IA _=>?_;obtain⟨es,ep,t,hd⟩:=IA;have go:=j0 (z:=.yL (v::xs)) (t:=s2.toks+1) t2.inv c2.E hm' hi hk (b0:=ad) (by rw[hz];exact⟨fun u q=>(xi SL.ctorIdx q rfl),ad,m1,.inl rfl⟩) (.inr (j7 cc.2 (by rw[hz];exact fun q=>nomatch q))) g (fun q=>xi Data.ctorIdx (hd.symm.trans q) rfl) ⟨_,g',fun bE=>gY bE fun _ _ q=>xi Data.ctorIdx (hd.symm.trans q) rfl⟩ (fun b o hb e=>(Gk.2 b hb).trans e) (Nat.le_succ _)
  ⟨ad,UI,m1,o1,g',M9⟩ (fun q=>xc q) (fun q=>xc q) fun b bE=>dS bE fun _ a0 w1 w2=>by
   (rename_i aH _ bS _;clear aH bS;obtain rfl:=Value.ref.inj (Option.some.inj (m1.symm.trans w1)))
   rw[hz];exact⟨fun u q=>(xi SL.ctorIdx q rfl),ad,m1,w2.imp id fun bE=>av bE fun o q1 q2=>by(rename_i aH _ bS _ _;clear aH bS;obtain rfl:=Option.some.inj (q1.symm.trans g'));exact xa ((dd M9).2.symm.trans q2)⟩
 exact kk _ _ _ rfl ((c.no t2).trans go)
end
end Mine.Internal
end
noncomputable section
open PySem PySem.W PyProof.Rows
namespace Mine.Internal
section
variable{k:Ks}{ce:Env}{ns:List Str}
theorem uG{t:Expr}{y:Str×Pos}{i:Nat}(hy:jQ ce.scope t=some y)(ht:fm ce.scope ns t=some i):t= .Name y.1 y.2/\ao y.1=true/\ce.kindOf y.1=some .local/\ix ns y.1=some i:=by refine cG (bX hy) fun e hpl hk=>?_;rw[e]at ht;refine bu (ef ht) fun u' u' e' u' hi _=>?_;cases e';exact⟨e,hpl,hk,hi⟩
theorem AU(Si:cD k){aF M:List Str}{i:Nat}{t v:Expr}{pos:Pos}{x:S}(ht:fm ce.scope ns t=some i)(h:FO aF M k.g ce.scope ns i t v=some x):eK k ce ns (.Assign [t] v pos) x:=
 bindC h fun r hr h=>bindC h fun a ha h0=>ak h0 fun c h1=>by
  refine bK (Option.isSome_iff_exists.mp c.1) fun y hy=>?_;refine bW (uG hy ht) fun e hpl hk hi=>?_;rw[e,dG hr,aZ ha];refine gu h1 (fun h=>ak h fun c1 h=>?_) fun h=>ak h fun c1 h=>bindC h fun z hz h=>bindC h fun j hj h=>ak h fun c3 h=>?_
  ·refine cJ (fy (ns:=ns) Si c1.1) fun f1 f2=>?_
   exact ay h fun z hz e=>e▸AQ hk hi (Nat.ne_of_beq_eq_false c1.2) f2 c.2 f1 (eG Si _ hz).1
  ·refine cJ (fy (ns:=ns) Si c1) fun f1 f2=>?_
   refine cG (bX hz) fun e zp zk=>?_;rw[e,<-Option.some.inj h];exact AS (.inl hk) hi zk hj zp f2 f1
theorem Er(Si:cD k){i:Nat}{t v:Expr}{pos:Pos}{x:S}(ht:fm ce.scope ns t=some i)(h:LH k.g ce.scope i t v=some x):eK k ce ns (.Assign [t] v pos) x:=
 bindC h fun r hr h=>ak h fun c h=>by
  (rename_i aH bI;clear aH bI;apply af (h))
  refine bK (Option.isSome_iff_exists.mp c.2.2.1) fun y hy=>?_;refine bW (uG hy ht) fun e hpl hk hi=>?_;rw[e,dG hr,List.isEmpty_iff.mp c.1];refine cJ (fy (ns:=ns) Si c.2.1) fun f1 f2=>?_;exact Em hk hi (Nat.ne_of_beq_eq_false c.2.2.2) f2 f1
structure nR(k:Ks)(ce:Env)(ns:List Str):Prop where
 tr:∀{aF M:List Str} {b:List Stmt} {hs:List ExceptHandler} {pos:Pos} {x:S},HG aF M k.g ce.scope ns b hs=some x->eK k ce ns (.Try b hs [] [] pos) x
 da:∀{aF M:List Str} {i:Nat} {t v:Expr} {pos:Pos} {x:S},fm ce.scope ns t=some i->zx aF M k.g ce.scope ns i t v=some x->eK k ce ns (.Assign [t] v pos) x
 nf:∀{aF:List Str} {v it:Expr} {b:List Stmt} {pos:Pos} {τ:xC} {y:List S} {r:Str×Str},zE ce.scope ns v=some τ->P0 aF ce.scope ns it=some r->lA k ce ns b y->eK k ce ns (.For v it b [] pos) (.oM r.1 r.2 τ y)
theorem AV{op:Operator}(h:isAdd op=true):op= .Add:=by rcases op with⟨⟩ <;> first|rfl|cases h
section
variable{cX:Expr->Option X}(eY:∀ex x,cX ex=some x->bC k ce ns ex x){aF M:List Str}{t v:Expr}{pos:Pos}{x:S}{i:Nat}
include eY
theorem AW{n:Str}{p q:Pos}{l:List Expr}(hk:ce.kindOf n=some .local)(hi:ix ns n=some i)(c:l.all noStar=true)(h:zy cX ns i l=some x):eK k ce ns (.Assign [.Name n p] (.List l q) pos) x:=by
 unfold zy at h;by_cases c2:ix ns "pieces"=some i/\l.isEmpty=true
 ·rw[if_pos c2]at h
  rw[List.isEmpty_iff.mp c2.2];exact dU h (Eo hk hi)
 ·rw[if_neg c2]at h
  exact ay h fun l hl e=>e▸Ef hk hi c (gA eY hl)
theorem uH(ho:ng M ce.scope ns t=some i)(h:vz M cX ce.scope ns i v=some x):eK k ce ns (.Assign [t] v pos) x:=
 bu (iy ho) fun y p e0 hk hi hpl=>e0▸gu h (fun h=>bindC h fun r hr h=>ak h fun c h=>list_eq hr▸AW eY hk hi c h) fun h=>bindC h fun r hr h=>ak h fun c h=>ay h fun z hz e=>
  bu (iy c.2) fun y' u' e' u' hi' _=>by obtain rfl:=gm hi hi';rw[Hx hr,AV c.1,e',<-e];exact Eg hk hi hpl (eY _ _ hz)
theorem ya(Si:cD k)(h:zz aF cX ce.scope ns t v=some x):eK k ce ns (.Assign [t] v pos) x:=
 bindC h fun r hr h=>ak h fun c h=>cU (iS c) fun y q e' hx=>by
  rw[d8 hr,e'];by_cases c2:aF.contains r.2.1=true
  ·rw[if_pos c2]at h
   exact bindC h fun q hq h=>ak h fun c h=>ay h fun l hl e=>e▸list_eq hq▸El Si hx c (gA eY hl)
  ·rw[if_neg c2]at h
   exact ay h fun z hz e=>e▸Ei Si hx (eY _ _ hz)
theorem uI(h:vB M cX ce.scope ns t v=some x):eK k ce ns (.Assign [t] v pos) x:=
 bindC h fun r hr h=>bindC h fun j hj h=>bindC h fun z hz h=>by
  by_cases c:dH r.2.1=true
  ·rw[if_pos c]at h;exact xa h
  ·rw[if_neg c]at h
   refine bu (iy hj) fun u' u' e' hk hi hpl=>?_;rw[sub_eq hr,e'];exact ay h fun u hu e=>e▸Eh hk hi hpl (eY _ _ hz) (eY _ _ hu)
theorem Es{l:List Expr}{n:Nat}{q:Pos}(h:LQ cX ce.scope ns l v=some x):eK k ce ns (.Assign [.Tuple l n q] v pos) x:=
 bindC h fun q hq h=>bindC h fun m hm h=>bindC h fun w hw h=>ak h fun c h=>bindC h fun y hy h=>ay h fun z hz e=>
  bindC hm fun ts ht hm=>bindC hm fun a ha hm=>bindC hm fun b hb hm=>bindC hm fun i hi hm=>ay hm fun j hj em=>by rw[pW hq,dz ht,dz hw,(bX ha).1,(bX hb).1,<-e];rw[<-em]at c⊢;exact Ec (bX ha).2.2 (bX hb).2.2 c.1 c.2.1 c.2.2.1 c.2.2.2.1 c.2.2.2.2.1 c.2.2.2.2.2 hi hj (eY _ _ hy) (eY _ _ hz)
theorem uJ(Si:cD k)(h:vA cX ce.scope ns t v=some x):eK k ce ns (.Assign [t] v pos) x:=
 bindC h fun r hr h=>by
  rw[pW hr];by_cases c:nh v=true
  ·rw[if_pos c]at h
   exact Es eY h
  ·rw[if_neg c]at h
   exact bindC h fun l hl h=>ay h fun z hz e=>e▸Eb hl (Bool.not_eq_true _▸c) (eY _ _ hz)
end
theorem Et(Si:cD k)(Ho:nR k ce ns){aF M:List Str}{t v:Expr}{pos:Pos}{x:S}(h:LY aF M k.g ce.scope ns t v=some x):eK k ce ns (.Assign [t] v pos) x:=
 have eY:=fun ex x (hh:cX aF M k.g 40 ce.scope ns ex=some x)=>(eG Si 40 hh).1
 gu h (fun h=>gV h (fun u' h=>bindC h fun i hi h=>gu h (AU Si hi) fun h=>gu h (Er Si hi) fun h=>gu h (Ho.da hi) fun h=>ay h fun z hz e=>e▸Ea Si hi hz) fun i ho h=>uH eY ho h)
  fun h=>gu h (ya eY Si) fun h=>gu h (uI eY) (uJ eY Si)
end
end Mine.Internal
end
noncomputable section
open PySem PySem.W PyProof.Rows
namespace Mine.Internal
section
variable{k:Ks}{ce:Env}{ns:List Str}
theorem JD{M:List Str}{st:Stmt}:∀i∈Hy M ce.scope ns st,∃x,ix ns x=some i/\ce.kindOf x=some .local:=fun i hi=>by
 unfold Hy at hi;by_cases c:FN (fN st)=true
 ·rw[if_pos c]at hi
  refine av (List.mem_filterMap.mp hi) fun x u' h=>?_;exact ak h fun hk h=>⟨x,h,hk⟩
 ·rw[if_neg c]at hi
  exact bindC (Option.mem_toList.mp hi) fun e u' h=>let⟨x,p,_,hk,hi,_⟩:=iy h;⟨x,hi,hk⟩
theorem Eu{l:Lv}{n:Str}(h:l.t8=some n):l= .at_ n:=by rcases l with⟨⟩ <;> cases h;rfl
theorem Na(Si:cD k){aF M:List Str}{e:Expr}{x:X}(h:cT aF M k.g ce.scope ns e=some x):q7 k ce ns e x:=
 gV h (fun _ h=>(eG Si 40 h).2) fun n hn h=>bindC hn fun l hl hn=>by
  (rename_i aH bI;clear aH bI;apply af (h))
  (clear h;rcases iz hl with⟨_,_,_,_,rfl,_⟩|⟨y,p,m,q,rfl,rfl,hx⟩)
  ·exact xa hn
  ·clear hl
   obtain rfl:=Option.some.inj hn;exact DK Si (F8 Si hx) rfl
section
variable{f:Expr->Option X}(ih:∀ex x,f ex=some x->bC k ce ns ex x)
include ih
theorem JE(Si:cD k){aF M:List Str}{t0:Expr}{l:Lv}{m:Str}{as:List Expr}{apos cpos pos:Pos}{x:S}(hl:oq aF M ce.scope ns t0=some l)(hp:(apos.endLine==cpos.line)=true)(h:L1 f l m as=some x):eK k ce ns (.Expr (.Call (.Attribute t0 m apos) as [] cpos) pos) x:=
 bindC h fun a ha h=>ak h fun c h=>ay h fun y hy e=>by rw[aZ ha,c.1,<-e];exact vS (P:=fun t0 l=>eK k ce ns (.Expr (.Call (.Attribute t0 "append" apos) [a] [] cpos) pos) (.eF l y)) hl (fun z p i hk hi hpl=>AM hk hi hpl hp c.2 (ih _ _ hy)) fun z p m q hx=>AP Si hx hp c.2 (ih _ _ hy)
theorem AX(Si:cD k){aF M:List Str}{e:Expr}{pos:Pos}{x:S}(h:zB aF M f ce.scope ns e=some x):eK k ce ns (.Expr e pos) x:=
 bindC h fun r hr h=>bindC h fun t ht h=>bindC h fun l hl h=>ak h fun hp h=>by
  rw[dG hr,d8 ht];refine gu h (JE ih Si hl hp) fun h=>ak h fun c h=>ay h fun n hn e=>?_;rw[List.isEmpty_iff.mp c.2,c.1,<-e]
  (clear ih h hr ht c e;rcases iz hl with⟨z,p,i,w,rfl,_⟩|⟨z,p,m,q,w,rfl,hx⟩)
  ·exact xa hn
  ·clear h hl
   obtain rfl:=Option.some.inj hn;rw[w];exact Ej Si hx hp
theorem JF(Si:cD k){e:Expr}{pos:Pos}{x:S}(h:LZ f ce.scope ns e=some x):eK k ce ns (.Expr e pos) x:=
 bindC h fun r hr h=>bindC h fun t ht h=>bindC h fun a ha h=>bindC h fun z hz h=>bindC h fun i hi h=>ak h fun c h=>ay h fun y hy e=>by refine cG (bX hz) fun e' hpl hk=>?_;rw[dG hr,d8 ht,aZ ha,e',c.1,<-e];exact Ep Si hk hi hpl c.2.1 c.2.2 (ih _ _ hy)
end
set_option tactic.hygienic true in
theorem AY(Si:cD k){aF M:List Str}{e:Expr}{pos:Pos}{x:S}(h:FQ aF M k.g ce.scope ns e=some x):eK k ce ns (.Expr e pos) x:=
 have ih:=fun ex x (hh:cX aF M k.g 40 ce.scope ns ex=some x)=>(eG Si 40 hh).1
 gu h (AX ih Si) fun h=>gu h (JF ih Si) fun h=>ak h fun c h=>ay h fun y hy e=>e▸D3 c (ih _ _ hy)
set_option tactic.hygienic true in
theorem Ex(Si:cD k){aF M:List Str}{ts:List Expr}{pos:Pos}{x:S}(h:L5 aF M ce.scope ns ts=some x):eK k ce ns (.Delete ts pos) x:=
 bindC h fun t ht h=>bindC h fun r hr h=>bindC h fun q hq h=>ak h fun c h=>ay h fun n hn e=>bindC hn fun l hl hn=>by
  subst e;obtain⟨c1,c2⟩:=nH c;simp only[aZ ht,sub_eq hr,oS hq,Option.isNone_iff_eq_none.mp c1,Option.isNone_iff_eq_none.mp c2]
  (clear ht hr hq c c1 c2;rcases iz hl with⟨z,p,i,e,rfl,_⟩|⟨z,p,m,q,e,rfl,hx⟩)
  ·(rename_i aH bI bS eN i6 _;clear aH bI bS eN i6;exact xa hn)
  ·(rename_i aH bI bS eN i6;clear aH bI bS eN i6;revert h;apply af (hn);intro h);rw[e];exact Ek Si hx
mutual
theorem Nb(Si:cD k)(Tr:nR k ce ns){aF M:List Str}:∀(n:Nat) {v:SV} {st:Stmt} {x:S},v.st=some st->cS aF M k.g n ce.scope ns v=some x->eK k ce ns st x
 |0,_,_,_,_,h=>xa h
 |n+1,v,st,x,hv,h=>by
  have eY:=fun ex x (hh:cX aF M k.g 40 ce.scope ns ex=some x)=>(eG Si 40 hh).1;have K2:=fun l xs (hh:zF aF M k.g n ce.scope ns l=some xs)=>uK Si Tr n hh;cases v with
  |asg ts v p=>
   (apply af (hv))
   match ts,h with
   |[t],h=>exact Et Si Tr h
   |t::t'::ts,h=>exact bindC h fun l hl h=>ay h fun z hz e=>e▸Ed hl (eY _ _ hz)
  |aug t op v p=>
   (apply af (hv))
   refine bindC h fun i hi h=>ay h fun z hz e=>?_;refine cU (ef hi) fun y q e' hk=>?_;rw[e']at hi⊢;exact e▸Ju hi (eY _ _ hz)
  |ifs t a b p=>(apply af (hv));exact bindC h fun y hy h=>bindC h fun z hz h=>ay h fun u hu e=>e▸Jt (Na Si hy) (K2 _ _ hz) (K2 _ _ hu)
  |rC t b p=>(apply af (hv));exact bindC h fun y hy h=>ay h fun z hz e=>e▸Jw (eG Si 40 hy).2 (K2 _ _ hz)
  |eE v it b p=>
   (apply af (hv))
   refine bindC h fun t ht h=>bindC h fun y hy h=>gV h (fun _ h=>?_) fun r hr h=>?_
   ·by_cases c:iu it=true
    ·rw[if_pos c]at h;(rename_i aH bI bS eN;clear aH bI bS eN;exact xa h)
    ·rw[if_neg c]at h
     exact ay h fun z hz e=>e▸Jx Si (Bool.not_eq_true _▸c) ht (eY _ _ hz) (K2 _ _ hy)
   ·(rename_i aH bI bS;clear aH bI bS;apply af (h))
    exact Tr.nf ht hr (K2 _ _ hy)
  |brk p=>exact xa h
  |del ts p=>(apply af (hv));exact Ex Si h
  |ret e p=>
   (apply af (hv))
   rcases e with _|e
   ·(apply af (h));exact D0
   ·exact ay h fun z hz e=>e▸Js (eY _ _ hz)
  |expr e p=>(apply af (hv));exact AY Si h
  |zw b hs p=>
   (apply af (hv))
   refine gu h Tr.tr fun h=>ak h fun c h=>ay h fun z hz e=>?_;refine anyC c fun hh hq _=>?_;rw[aZ hq];exact e▸x9 (K2 _ _ hz)
  |no=>exact xa hv
theorem uK(Si:cD k)(Tr:nR k ce ns){aF M:List Str}:∀(n:Nat) {l:List Stmt} {xs:List S},zF aF M k.g n ce.scope ns l=some xs->lA k ce ns l xs
 |0,_,_,h=>xa h
 |n+1,[],xs,h=>by(apply af (h));exact Jv
 |n+1,s::r,xs,h=>ay h fun y hy e=>by
  (clear h;subst e)
  refine MX JD (D7 ?_ (uK Si Tr n hy));clear hy;cases hc:cS aF M k.g n ce.scope ns (fN s)with
  |none=>exact D4
  |some z=>
   refine Nb Si Tr n ((rM s).elim (fun q=>?_) id) hc;rcases n with _|n
   ·exact xa hc
   ·cases hv:fN s with
    |no=>rw[hv]at hc;exact xa hc
    |_=>rw[hv]at q;cases q
end
end
end Mine.Internal
end
noncomputable section
open PySem PySem.W PyProof.Rows
namespace Mine.Internal
/-! a lB of iZ text:for a in K3(st):if a:yield from a -/
section
variable{M:Model}{A:Around}{R:GenEnd}{Y:Protocol}{n:Nat}{s₀:Shared}{c:Code}{fs:List Frame}{s:Shared}{env:Env}
 {H:Value->Sem Fin}{gd:Bool->Bool}{lv:List Value->List Value}
theorem aT{α β:Type}{m:Sem α}{f:α->Sem β}{K:β->Sem Fin}(h:wpAny M (A.over c fs) m (fun a s'=>Seg M A R Y n s₀ c ((f a).wrap K H gd lv) fs s') (fun x s'=>Seg M A R Y n s₀ c (H x) fs s') s):
  Seg M A R Y n s₀ c ((m>>=f).wrap K H gd lv) fs s:=by
 rw[Sem.bind_eq_wrap',Sem.wrap_wrap];exact seg_wrap h
noncomputable def JG (e':Env) (r:Result):Sem Flow:=((match r with| .ok f=>.pure f| .error e=>.raise e):Sem Flow).onRaise fun x=>do
    if(<-field x 1)==Value.none then unsupported "frame.own-activation:exception-without-traceback"
    setFlight x e'.frame
theorem uL{c':Code}{e':Env}{K:Flow->Sem Fin}(h:∀p,Seg M A R Y n s₀ c' (M.den c') (.ret (fun r=>(JG e' r).wrap K H gd lv) none (gd false) (lv []) c p []::fs) s):
  Seg M A R Y n s₀ c ((runOwn c' e').wrap K H gd lv) fs s:=seg_call h
noncomputable def JH (r:Result):Sem Value:=((match r with| .ok f=>.pure f| .error e=>.raise e):Sem Flow)>>=fun f=>match f with| .ret v=>pure v|_=>unsupported "internal:call-without-return-value"
theorem qx{c':Code}{K:Value->Sem Fin}(h:∀p,Seg M A R Y n s₀ c' (M.den c') (.ret (fun r=>(JH r).wrap K H gd lv) none (gd false) (lv []) c p []::fs) s):
  Seg M A R Y n s₀ c ((runValue c').wrap K H gd lv) fs s:=seg_call h
end
section
variable{prog:Program}{w:World}{A:Around}{R:GenEnd}{Y:Protocol}{n:Nat}{s₀:Shared}{c:Code}{fs:List Frame}{s:Shared}{env:Env}
noncomputable def noted(env:Env)(e:Value):Sem Fin:=((do noteFrame e env;theTreesLotGoes e:Sem Unit)).bind fun _=>.raise e
noncomputable def sO (target:Expr) (it:Value) (body orelse:List Stmt) (env:Env) (f:Flow):Sem Fin:=match f with
  | .next| .cont=>again (.forLoop target it body orelse env)
  | .brk=>pure (.done .next)
  | .ret v=>pure (.done (.ret v))
theorem iB{x:Str}{px:Pos}{it:Value}{body:List Stmt}
  (h:wpAny (model prog w) (A.over (.forLoop (.Name x px) it body [] env) fs) (pyNext it) (fun r s1=>match r with
   |none=>Seg (model prog w) A R Y n s₀ (.block [] env) (.pure (.done .next)) fs s1
   |some v=>wpAny (model prog w) (A.over (.forLoop (.Name x px) it body [] env) fs) (assign (.Name x px) env v) (fun u' s2=>
     Seg (model prog w) A R Y n s₀ (.forLoop (.Name x px) it body [] env) ((execs body env).wrap (sO (.Name x px) it body [] env) (noted env) id id) fs s2)
      (fun u' _=>False) s1) (fun u' _=>False) s):
  Seg (model prog w) A R Y n s₀ (.forLoop (.Name x px) it body [] env) ((model prog w).den (.forLoop (.Name x px) it body [] env)) fs s:=by
 show Seg _ A R Y n s₀ _ ((forTurn (.Name x px) it body [] env).onRaise (fun x=>do noteFrame x env;theTreesLotGoes x)) fs s;rw[Sem.onRaise_eq_wrap];unfold forTurn;refine aT (wpAny_standAt ?_);refine aT (wpAny_onRaise (wpAny_mono h (fun r s1 h1=>?_) fun u' u' x=>x.elim));rcases r with _|v
 ·exact seg_again rfl h1
 ·refine aT (wpAny_of_eq (a:=()) rfl ?_)
  refine aT (wpAny_mono h1 (fun u' s2 h2=>?_) fun u' u' x=>x.elim);rw[Sem.bind_eq_wrap',Sem.wrap_wrap];have e1:∀f,(sO (.Name x px) it body [] env f).wrap .pure (fun e=>((do noteFrame e env;theTreesLotGoes e:Sem Unit)).bind fun _=>.raise e) id id=sO (.Name x px) it body [] env f:=fun f=>by rcases f with⟨⟩ <;> rfl
  show Seg _ A R Y n s₀ _ ((execs body env).wrap (fun f=>(sO (.Name x px) it body [] env f).wrap .pure (fun e=>((do noteFrame e env;theTreesLotGoes e:Sem Unit)).bind fun _=>.raise e) id id) (noted env) id id) fs s2;rw[Sem.wrap_congr (execs body env) _ _ (K':=sO (.Name x px) it body [] env) (H':=noted env) e1 (fun _=>rfl)];exact h2
theorem AZ:entryFor table "proto.yield_from"=some Builtin.«proto.yield_from»:=entryFor_of_tree (by kernel_rfl)
theorem sP{id:String}{args:Args}{b:Builtin}(hb:entryFor table id=some b):(model prog w).den (.builtin id args)=b args:=by
 show(match entryFor table id with|some b=>b args|none=>unsupported ((withoutEnding? id "#data").getD id))=_
 rw[hb]
theorem A0(args:Args):(model prog w).den (.builtin "proto.yield_from" args)=Builtin.«proto.yield_from» args:=sP AZ
theorem A7(args:Args):(Code.builtin "proto.yield_from" args).quiet=true:=by exact Code.quiet_builtin _ (by decide+kernel)
theorem mC:typeLookup (.type "list_iterator") "close"=pure none:=by rw[typeLookup_type,builtinLookup_eq_fast];kernel_rfl
theorem Ey{it l:Addr}{i:Nat}{items:Array Value}{x:Value}{A:Around}{E:Value->Shared->Prop}{Q:Option Value->Shared->Prop}(hit:s.heap.IsListIter it l i)(hl:s.heap.IsList l items)(hx:items[i]?=some x)
  (hQ:∀h',h'.IsListIter it l (i+1)->Heap.SameBut it s.heap h'->Q (some x) {s with heap:=h'}):wpAny (model prog w) A (callSpecial? (.ref it) "__next__") Q E s:=by
 refine bN (id hit) fun o ho hc hd=>?_;refine av (hl) fun ol K4 Nc=>tP Nc fun u' nl hdl=>?_;clear Nc;refine wpAny_callSpecial?_slot hit.typeIs slot_listiter_next (wpAny_call_entry slot_listiter_next hit.typeIs entry_listiter_next ?_ (args_listiter_next _));show wpAny _ _ (field (.ref it) 0>>=_) _ _ s;refine wpAny_bind (wpAny_field ho hd (x:=.ref l) rfl ?_);rw[if_neg (show ¬((Value.ref l==Value.none)=true)from Bool.false_ne_true)];refine wpAny_bind (wpAny_field ho hd (x:=.int i 0) rfl ?_);refine wpAny_bind (wpAny_seqItems K4 hdl ?_);simp only[Int.toNat_natCast,hx];refine wpAny_bind (wpAny_setField ho hd (by simp) (wpAny_pure ⟨x,rfl,hQ _ ?_ (Heap.SameBut.update ..)⟩));exact⟨_,Heap.get?_update_self _ ho (Obj.isFreed_of_fields (Obj.data_mapFields hd _)),(Obj.cls_mapFields ..).trans hc,by
  rw[Obj.data_mapFields hd];simp[rawInt]⟩
theorem JJ{it l:Addr}{i:Nat}{items:Array Value}{A:Around}{E:Value->Shared->Prop}{Q:Option Value->Shared->Prop}(hh:A.handled=none)(hit:s.heap.IsListIter it l i)(hl:s.heap.IsList l items)(hx:items[i]?=none)
  (hQ:∀h' e o vs,h'.get? e=some o->o.cls= .type "StopIteration"->o.data= .fields vs->vs[5]?=some .none->Heap.ExtBut it s.heap h'->E (.ref e) {s with heap:=h'}):wpAny (model prog w) A (callSpecial? (.ref it) "__next__") Q E s:=by
 refine bN (id hit) fun o ho hc hd=>?_;refine av (hl) fun ol K4 Nd=>tP Nd fun u' nl hdl=>?_;clear Nd;refine wpAny_callSpecial?_slot hit.typeIs slot_listiter_next (wpAny_call_entry slot_listiter_next hit.typeIs entry_listiter_next ?_ (args_listiter_next _));show wpAny _ _ (field (.ref it) 0>>=_) _ _ s;refine wpAny_bind (wpAny_field ho hd (x:=.ref l) rfl ?_);rw[if_neg (show ¬((Value.ref l==Value.none)=true)from Bool.false_ne_true)];refine wpAny_bind (wpAny_field ho hd (x:=.int i 0) rfl ?_);refine wpAny_bind (wpAny_seqItems K4 hdl ?_);simp only[Int.toNat_natCast,hx];refine wpAny_bind (wpAny_rule (wpAny_bind (wpAny_setField ho hd (by simp) ?_)));refine wpAny_bind ?_;simp only[newExc,newTuple];refine wpAny_bind (wpAny_newObj_type ?_ (by size_fits));refine wpAny_bind (m:=firstArgMember _ _) (wpAny_of_eq (a:=Value.none) (by first|rfl|(simp only[firstArgMember];rfl)) ?_);refine wpAny_newObj_type ?_ (by size_fits);rw[raiseNew];refine wpAny_bind (wpAny_handled ?_);rw[show A.in1.handled=none from hh];refine wpAny_bind (wpAny_pure (wpAny_throw ?_));refine hQ _ _ _ _ (Heap.get?_push_size _ rfl) rfl rfl ?_ (((Heap.SameBut.update ..).extBut.push _).push _);rfl
theorem cP{α:Type}{m:Sem α}{K:α->Sem Fin}{A:Around}(h:wpAny (model prog w) (A.over c fs) m (fun a s'=>Seg (model prog w) A R Y n s₀ c (K a) fs s') (fun u' _=>False) s):
  Seg (model prog w) A R Y n s₀ c (m>>=K) fs s:=seg_bind (wpAny_mono h (fun u' u' x=>x) fun u' u' x=>x.elim)
theorem wk{A:Around}{E:Value->Shared->Prop}{Q:Unit->Shared->Prop}{I:Addr}{o:Obj}{b:Bool}(ho:s.heap.get? I=some o)(hc:o.cls= .type "list_iterator")(h:Q () s):wpAny (model prog w) A (Builtin.Generator.sleptOver (.ref I) b) Q E s:=by unfold Builtin.Generator.sleptOver;refine wpAny_bind (wpAny_load ho ?_);rw[hc];exact wpAny_pure h
theorem sQ{I l:Addr}{i:Nat}{items:Array Value}{x:Value}(hit:s.heap.IsListIter I l i)(hl:s.heap.IsList l items)(hx:items[i]?=some x)(hfs:splitAtGen fs=none)(hfg:fs.any Frame.guarded=false)
  (h:∀h',h'.IsListIter I l (i+1)->Heap.SameBut I s.heap h'->∀Nf:Resume->Shared->Prop,(∀s'' o,s''.heap.get? I=some o->o.cls= .type "list_iterator"->
    Seg (model prog w) A R Y n s'' (.builtin "proto.yield_from" ⟨[.ref I,.bool false,.none],[]⟩) ((model prog w).den (.builtin "proto.yield_from" ⟨[.ref I,.bool false,.none],[]⟩)) fs s''->Nf (.send .none) s'')->Y n s₀ x {s with heap:=h'} Nf):
  Seg (model prog w) A R Y (n+1) s₀ (.builtin "proto.yield_from" ⟨[.ref I,.bool false,.none],[]⟩) ((model prog w).den (.builtin "proto.yield_from" ⟨[.ref I,.bool false,.none],[]⟩)) fs s:=by
 rw[A0];unfold Builtin.«proto.yield_from»
 refine cP (wpAny_pure ?_);refine cP (wpAny_attempt (wpAny_holding ?_));rw[if_neg Bool.false_ne_true];rw[if_pos (show((Value.none:Value)==Value.none)=true from rfl)];refine wpAny_bind (wpAny_rule (wpAny_bind (Ey hit hl hx fun h' q1 q2=>wpAny_pure ?_)));refine bN (id q1) fun o ho hc hd=>?_;refine cP (wpAny_typeOf (T:="list_iterator") ⟨o,ho,hc⟩ ?_);refine cP (wpAny_of_eq mC ?_);refine cP (wpAny_pure ?_);refine cP (wk ho hc ?_);refine seg_yield hfs rfl hfg (h h' q1 q2 _ fun s'' o2 ho2 hc2 Rq=>?_);refine cP (m:=Builtin.Generator.sleptOver (.ref I) false) (wk ho2 hc2 ?_);exact seg_again (A7 _) Rq
theorem uM{I l:Addr}{i:Nat}{items:Array Value}(hh:(A.over (.builtin "proto.yield_from" ⟨[.ref I,.bool false,.none],[]⟩) fs).handled=none)(hit:s.heap.IsListIter I l i)(hl:s.heap.IsList l items)(hx:items[i]?=none)
  (h:∀h',Heap.ExtBut I s.heap h'->Seg (model prog w) A R Y n s₀ (.builtin "proto.yield_from" ⟨[.ref I,.bool false,.none],[]⟩) (leafOf (.ok (.ret .none))) fs {s with heap:=h'}):
  Seg (model prog w) A R Y n s₀ (.builtin "proto.yield_from" ⟨[.ref I,.bool false,.none],[]⟩) ((model prog w).den (.builtin "proto.yield_from" ⟨[.ref I,.bool false,.none],[]⟩)) fs s:=by
 rw[A0];unfold Builtin.«proto.yield_from»
 refine cP (wpAny_pure ?_);refine cP (wpAny_attempt (wpAny_holding ?_));rw[if_neg Bool.false_ne_true];rw[if_pos (show((Value.none:Value)==Value.none)=true from rfl)];refine wpAny_bind (wpAny_rule (wpAny_bind (JJ hh hit hl hx fun h' e o vs q1 q2 q3 q4 q5=>?_)));refine cP ?_;refine wpAny_bind (wpAny_bind (wpAny_typeOf (T:="StopIteration") ⟨o,q1,q2⟩ ?_));refine wpAny_bind (wpAny_of_eq isSubtype_stop ?_);refine wpAny_bind (wpAny_of_eq (a:=Value.type "type") rfl (wpAny_pure ?_));rw[if_neg Bool.false_ne_true];refine wpAny_pure ?_;rw[if_pos rfl];refine cP (wpAny_rule ?_);refine cP (wpAny_field q1 q3 q4 ?_);exact h h' q5
structure qy(N L l0:Addr)(h:Heap):Prop where
 it:h.IsListIter (N+1) l0 1
 l0:∃y,h.IsList l0 #[y]
 rv:h.IsRevIter N L (-1)
noncomputable def yb (env:Env) (N L l0:Addr) (tup:Value):Protocol:=fun u' s₀ v s₁ Nf=>v=tup/\s₁.heap.IsListIter (N+1) l0 1/\(∃y,s₁.heap.IsList l0 #[y])/\s₁.heap.IsRevIter N L (-1)/\
 (∀b o,b≠env.locals->b<N->s₀.heap.get? b=some o->s₁.heap.get? b=some o)/\(∃o,s₁.heap.get? env.locals=some o/\(∃es n,o.data= .dict es n))/\s₁.gens=s₀.gens/\s₁.os=s₀.os/\s₀.toks<=s₁.toks/\(∀s'',qy N L l0 s''.heap->Nf (.send .none) s'')
noncomputable def qA (N:Addr):Nat->Shared->Shared->Prop:=fun n s₀ s₁=>n=0/\(∀b o,b≠N->b≠N+1->s₀.heap.get? b=some o->s₁.heap.get? b=some o)/\s₁.gens=s₀.gens/\s₁.os=s₀.os/\s₀.toks<=s₁.toks
noncomputable def Ez (N:Addr):GenEnd:=fun n s₀ r s₁=>r= .ok (.ret .none)/\qA N n s₀ s₁
theorem A8{x:Str}{px:Pos}{N L:Addr}{body:List Stmt}(hh:(marksOver fs (A.handled,A.handled)).1=none)(hit:s.heap.IsRevIter N L (-1))
  (h:∀h',Heap.ExtBut N s.heap h'->Seg (model prog w) A R Y n s₀ (.block [] env) (leafOf (.ok .next)) fs {s with heap:=h'}):
  Seg (model prog w) A R Y n s₀ (.forLoop (.Name x px) (.ref N) body [] env) ((model prog w).den (.forLoop (.Name x px) (.ref N) body [] env)) fs s:=
 iB (wpAny_pyNext_rev_end hh hit fun h' q=>h h' q)
structure Ng(env:Env)(N L l0:Addr)(tup:Value)(rs:Array Value)(s0 s:Shared)(k:Int):Prop where
 ns:∃m,s.heap.Ns env.locals m
 it:s.heap.IsRevIter N L k
 size:s.heap.objs.size=N+1
 keep:∀b o,b≠env.locals->b<N->s0.heap.get? b=some o->s.heap.get? b=some o
 gens:s.gens=s0.gens
 os:s.os=s0.os
 tk:s0.toks<=s.toks
theorem qB{a b:Int}(h:a=b){N L:Addr}{hp:Heap}(x:hp.IsRevIter N L a):hp.IsRevIter N L b:=h▸x
theorem yc{xn:Str}{p1 p5 p6 p7 p8 p9:Pos}{N L l0:Addr}{tup:Value}{rs:Array Value}{s0:Shared}(hk:env.scope.kind= .function)(hx:env.kindOf xn=some .local)(JK:(xn==("__debug__":Str))=false)(hfr:env.scope.isCoroutine=false)
  (hh:(marksOver fs (A.handled,A.handled)).1=none)(hfs:splitAtGen fs=none)(hfg:fs.any Frame.guarded=false)
  (hL:s0.heap.IsList L rs)(hLN:L<N)(hLe:L≠env.locals)(hr0:rs[0]?=some (.ref l0))(Pc:s0.heap.IsList l0 #[tup])(JL:l0<N)(Nh:l0≠env.locals)(hN:env.locals<N)
  (hrs:∀i r,rs[i+1]?=some r->∃l,r= .ref l/\s0.heap.IsList l #[]/\l<N/\l≠env.locals)
  (hend:∀(s₀ s:Shared) (h':Heap),(∀b o,b≠N->b≠N+1->s₀.heap.get? b=some o->h'.get? b=some o)->s.gens=s₀.gens->s.os=s₀.os->s₀.toks<=s.toks->Seg (model prog w) A (Ez N) (yb env N L l0 tup) 0 s₀ (.block [] env) (leafOf (.ok .next)) fs {s with heap:=h'}):
  ∀(k:Nat),k<rs.size->∀s,Ng env N L l0 tup rs s0 s k->
   Seg (model prog w) A (Ez N) (yb env N L l0 tup) 1 s0 (.forLoop (.Name xn p1) (.ref N) [.If (.Name xn p5) [.Expr (.YieldFrom (.Name xn p6) p7) p8] [] p9] [] env)
    ((model prog w).den (.forLoop (.Name xn p1) (.ref N) [.If (.Name xn p5) [.Expr (.YieldFrom (.Name xn p6) p7) p8] [] p9] [] env)) fs s:=by
 have hp:(env.scope.kind== .class||(env.scope.kind== .module&&env.locals !=env.globals))=false:=by rw[hk];rfl
 intro k
 induction k with
 |zero=>
  intro hlt s G;refine bK (G.ns) fun m hm=>?_;have Rt:s.heap.IsList L rs:=hL.at fun o e=>G.keep L o hLe hLN e;refine iB (wpAny_pyNext_rev_item G.it Rt hr0 fun h1 q1 q2=>?_);have hm1:h1.Ns env.locals m:=hm.sameBut q2 (Nat.ne_of_lt hN);refine wpAny_assign_Name (wpAny_storeName_local hx hm1 (fun h2 n2 q3=>?_) hp);have yQ:h2.IsRevIter N L (-1):=(qB rfl q1).at fun o e=>(q3.2 N (Nat.ne_of_gt hN)).trans e;have hl2:h2.IsList l0 #[tup]:=Pc.at fun o e=>(q3.2 l0 Nh).trans ((q2.2 l0 (Nat.ne_of_lt JL)).trans (G.keep l0 o Nh JL e));refine seg_execs_cons ?_;simp only[arm_exec_If];refine aT (wpAny_standAt ?_);refine aT (wpAny_isTrue_value (wpAny_Name (wpAny_loadName_local hk hx n2 (by simp) (wpAny_truthy_list hl2 (by simp) ?_)) JK));rw[if_pos (by rfl)];refine seg_execs_cons ?_;rw[exec_Expr env _ _ (by unfold interactive;rw[hk];rfl) rfl];refine aT (wpAny_standAt ?_);rw[Sem.bind_eq_wrap',Sem.wrap_wrap,arm_eval_YieldFrom];refine aT (wpAny_Name (wpAny_loadName_local hk hx (m:=fun x=>if x=xn then some (.ref l0)else m x) (v:=.ref l0) n2 (by simp) ?_) JK)
  refine aT (wpAny_standAt ?_);refine aT (wpAny_typeOf (T:="list") hl2.typeIs ?_);rw[if_neg (by decide)];refine aT (wpAny_holding (wpAny_pyIter_list hl2 ?_));refine qx fun p=>?_;dsimp only;have hz:h2.objs.size=N+1:=q3.1.trans (q2.1.trans G.size);rw[hz];have Jg:(h2.push {cls:=.type "list_iterator",data:=.fields #[.ref l0,.int 0 0]}).IsListIter (N+1) l0 0:=⟨_,by rw[<-hz];exact Heap.get?_push_size _ rfl,rfl,rfl⟩;refine sQ (l:=l0) (i:=0) (items:=#[tup]) Jg (hl2.push _) rfl (by simp[splitAtGen,hfs]) (by trivial) fun h3 r1 r2 Nf Ru=>?_;have up:∀b o,b<N+1->h2.get? b=some o->h3.get? b=some o:=fun b o hb e=>(r2.2 b (Nat.ne_of_lt hb)).trans (Heap.get?_push_of_some _ e);have Rv:∀b o,b≠env.locals->b<N->s0.heap.get? b=some o->h2.get? b=some o:=fun b o hb hb' e=>(q3.2 b hb).trans ((q2.2 b (Nat.ne_of_lt hb')).trans (G.keep b o hb hb' e));refine⟨rfl,r1,⟨tup,hl2.at fun o e=>up l0 o (Nat.lt_succ_of_lt JL) e⟩,yQ.at fun o e=>up N o (Nat.lt_succ_self _) e,fun b o hb hb' e=>up b o (Nat.lt_succ_of_lt hb') (Rv b o hb hb' e),?_,G.gens,G.os,?_,fun s'' GR=>?_⟩
  ·refine aX (n2) fun o es ep z1 z2 _=>?_
   exact⟨o,up _ _ (Nat.lt_succ_of_lt hN) z1,es,ep,z2⟩
  ·have :=G.tk
   dsimp only;omega
  ·obtain⟨o,ho,hc,_⟩:=id GR.it
   obtain⟨y,hy⟩:=GR.l0;refine Ru s'' o ho hc (uM (by exact hh) GR.it hy rfl fun h4 q4=>?_);refine seg_leaf _ ?_;have hne:N≠N+1:=Nat.ne_of_lt (Nat.lt_succ_self _);refine seg_again rfl (A8 (s:={s'' with heap:=h4}) hh (GR.rv.at fun o e=>q4 N o hne e) fun h5 q5=>?_);refine hend s'' s'' h5 (fun b o b1 b2 e=>q5 b o b1 (q4 b o b2 e)) rfl rfl (Nat.le_refl _)
 |succ k ih=>intro hlt s G;refine bK (G.ns) fun m hm=>?_;have Rt:s.heap.IsList L rs:=hL.at fun o e=>G.keep L o hLe hLN e;refine bK (hrs k _ (Array.getElem?_eq_getElem hlt)) fun l Ni=>bW Ni fun hr hl Tc hle=>?_;clear Ni;refine iB (wpAny_pyNext_rev_item G.it Rt (x:=.ref l) (by rw[<-hr];exact Array.getElem?_eq_getElem hlt) fun h1 q1 q2=>?_);have hm1:h1.Ns env.locals m:=hm.sameBut q2 (Nat.ne_of_lt hN);refine wpAny_assign_Name (wpAny_storeName_local hx hm1 (fun h2 n2 q3=>?_) hp);have yQ:h2.IsRevIter N L (k:Int):=(qB (by simp) q1).at fun o e=>(q3.2 N (Nat.ne_of_gt hN)).trans e;have hl2:h2.IsList l #[]:=hl.at fun o e=>(q3.2 l hle).trans ((q2.2 l (Nat.ne_of_lt Tc)).trans (G.keep l o hle Tc e));refine seg_execs_cons ?_;rw[arm_exec_If];refine aT (wpAny_standAt ?_);refine aT (wpAny_isTrue_value (wpAny_Name (wpAny_loadName_local hk hx n2 (by simp) (wpAny_truthy_list hl2 (by simp) ?_)) JK));rw[if_neg (by decide)];have Rv:∀b o,b≠env.locals->b<N->s0.heap.get? b=some o->h2.get? b=some o:=fun b o hb hb' e=>(q3.2 b hb).trans ((q2.2 b (Nat.ne_of_lt hb')).trans (G.keep b o hb hb' e));refine seg_again rfl (ih (Nat.lt_of_succ_lt hlt) _ ⟨⟨_,n2⟩,yQ,q3.1.trans (q2.1.trans G.size),Rv,G.gens,G.os,?_⟩);have :=G.tk;dsimp only;omega
end
end Mine.Internal
end
noncomputable section
open PySem PySem.W PyProof.Rows
namespace Mine.Internal
section
variable{prog:Program}{w:World}{A:Around}{E:Value->Shared->Prop}{s:Shared}{env:Env}
theorem uN{Q:Value->Shared->Prop}{rv st:Str}{p2 p3 p4:Pos}{L:Addr}{rs:Array Value}{m:Str->Option Value}(hk:env.scope.kind= .function)(hn:s.heap.Ns env.locals m)(h1:env.kindOf rv=some .local)(h2:env.kindOf st=some .local)
  (d1:(rv==("__debug__":Str))=false)(d2:(st==("__debug__":Str))=false)(m1:m rv=some (.type "reversed"))(m2:m st=some (.ref L))(hl:s.heap.IsList L rs)
  (h:Q (.ref s.heap.objs.size) {s with heap:=s.heap.push (revObj L ((rs.size:Int) -1))}):wpAny (model prog w) A (eval (.Call (.Name rv p2) [.Name st p3] [] p4) env) Q E s:=by
 have he:eval (.Call (.Name rv p2) [.Name st p3] [] p4) env=(do callWith p4 (<-eval (.Name rv p2) env) [] (backTo p4 (starEach [.Name st p3] env)) (backToKw p4 (keywordEach [] env))):=rfl;rw[he,au _ _ (by rfl)];refine wpAny_bind (wpAny_Name (wpAny_loadName_local hk h1 hn m1 ?_) d1);refine callWith_of (P:=fun hp=>bA (model prog w) hp (.type "reversed")) rfl (fun u' z=>z) ?_;refine wpAny_bind ?_;refine Calls.spliced_cons (wpAny_Name (wpAny_loadName_local hk h2 hn m2 (Calls.spliced_nil ?_)) d2);refine wpAny_bind (wpAny_pure (wpAny_holding ?_));refine wpAny_bind (wpAny_pure (wpAny_bind (wpAny_pure (wpAny_pure ⟨⟨.machine,.inr (.inl rfl),Looks.of_pure rfl⟩,?_⟩))));exact call_reversed_list hl h
theorem pA{a:Addr}{g n:Nat}{gs:GenState}{P:Nat->Shared->Shared->Prop}{Y:Protocol}{Q:Option Value->Shared->Prop}(hh:A.handled=none)
  (hl:s.heap.NoLimit)(hroom:A.depth<recursionLimit)
  (hg:s.heap.IsGen a g)(hgs:s.gens[g]?=some gs)
  (hgo:gs.Goes (model prog w) A.in1 (fun n s₀ r s₁=>r= .ok (.ret .none)/\P n s₀ s₁) Y n (.send .none) (s.setGen g .running))
  (hY:∀v s₁ gs',gs'.bare=true->Y (n -1) (s.setGen g .running) v s₁ (fun r' s''=>match n with
    |0=>False
    |m+1=>gs'.Goes (model prog w) A.in1 (fun n s₀ r s₁=>r= .ok (.ret .none)/\P n s₀ s₁) Y m r' s'')->Q (some v) (s₁.setGen g gs'))
  (hP:∀s₁,P n (s.setGen g .running) s₁->∀h',(∀b o,s₁.heap.get? b=some o->h'.get? b=some o)->Q none {s₁.setGen g .finished with heap:=h'}):
  wpAny (model prog w) A (pyNext (.ref a)) Q E s:=by
 unfold pyNext;refine wpAny_bind (wpAny_attempt (wpAny_callSpecial?_slot (name:=Str.ofString "__next__") hg.typeIs slot_gen_next
  (wpAny_call_entry slot_gen_next hg.typeIs entry_gen_next ?_ (args_gen_next _))))
 show wpAny _ A.in1 (Builtin.Generator.genWake (.ref a) (.send .none)) _ _ s;refine wpAny_bind (wpAny_holding (wpAny_genNumber hg (wpAny_bind (wpAny_genState hgs ?_))));rcases gs with _|⟨_,_,_,_,_,_⟩|_|_
 ·refine wpAny_bind (wpAny_roomToWake hl hroom ?_)
  refine wpAny_resumeQ hgs hgo (fun x s₁ hx=>?_) (fun v s₁ gs' hb hv=>?_)
  ·refine cJ (hx) fun Ab hp=>?_;(clear hg;subst Ab)
   show wpAny _ A.in1 (newExc (.type "StopIteration") [] >>=_) _ _ _;refine wpAny_bind ?_;simp only[newExc,newTuple];refine wpAny_bind (wpAny_newObj_type ?_ (by size_fits));refine wpAny_bind (m:=firstArgMember _ _) (wpAny_of_eq (a:=Value.none) (by first|rfl|(simp only[firstArgMember];rfl)) ?_);refine wpAny_newObj_type ?_ (by size_fits);rw[raiseNew];refine wpAny_bind (wpAny_bind (wpAny_handled ?_));refine w_eq (by rw[show A.in1.handled=none from hh]) ?_;refine wpAny_throw ?_;refine wpAny_bind (wpAny_isInstance (T:="StopIteration") (b:=true) ⟨_,Heap.get?_push_size _ rfl,rfl⟩ isSubtype_stop ?_);exact wpAny_pure (hP s₁ hp _ fun b o hb=>Heap.get?_push_of_some _ (Heap.get?_push_of_some _ hb))
  ·exact wpAny_pure ⟨v,rfl,wpAny_pure (hY v s₁ gs' hb hv)⟩
 ·refine wpAny_bind (wpAny_roomToWake hl hroom ?_)
  refine wpAny_resumeQ hgs hgo (fun x s₁ hx=>?_) (fun v s₁ gs' hb hv=>?_)
  ·refine cJ (hx) fun Ab hp=>?_;(clear hl hroom hg hgs hx;subst Ab)
   show wpAny _ A.in1 (newExc (.type "StopIteration") [] >>=_) _ _ _;refine wpAny_bind ?_;simp only[newExc,newTuple];refine wpAny_bind (wpAny_newObj_type ?_ (by size_fits));refine wpAny_bind (m:=firstArgMember _ _) (wpAny_of_eq (a:=Value.none) (by first|rfl|(simp only[firstArgMember];rfl)) ?_);refine wpAny_newObj_type ?_ (by size_fits);rw[raiseNew];refine wpAny_bind (wpAny_bind (wpAny_handled ?_));refine w_eq (by rw[show A.in1.handled=none from hh]) ?_;refine wpAny_throw ?_;refine wpAny_bind (wpAny_isInstance (T:="StopIteration") (b:=true) ⟨_,Heap.get?_push_size _ rfl,rfl⟩ isSubtype_stop ?_);exact wpAny_pure (hP s₁ hp _ fun b o hb=>Heap.get?_push_of_some _ (Heap.get?_push_of_some _ hb))
  ·exact wpAny_pure ⟨v,rfl,wpAny_pure (hY v s₁ gs' hb hv)⟩
 ·exact hgo.elim
 ·exact hgo.elim
noncomputable def wo (xn rv st:Str) (body:List Stmt):Prop:=∃p1 p2 p3 p4 p5 p6 p7 p8 p9 CE,body=[.For (.Name xn p1) (.Call (.Name rv p2) [.Name st p3] [] p4) [.If (.Name xn p5) [.Expr (.YieldFrom (.Name xn p6) p7) p8] [] p9] [] CE]
structure A9(env:Env)(xn rv st:Str):Prop where
 k:env.scope.kind= .function
 co:env.scope.isCoroutine=false
 kx:env.kindOf xn=some .local
 kr:env.kindOf rv=some .local
 ks:env.kindOf st=some .local
 dx:(xn==("__debug__":Str))=false
 dr:(rv==("__debug__":Str))=false
 ds:(st==("__debug__":Str))=false
structure wu(h:Heap)(locals:Addr)(L l0:Addr)(rs:Array Value)(tup:Value):Prop where
 hL:h.IsList L rs
 Le:L≠locals
 r0:rs[0]?=some (.ref l0)
 hl:h.IsList l0 #[tup]
 UJ:l0≠locals
 hr:∀i r,rs[i+1]?=some r->∃l,r= .ref l/\h.IsList l #[]/\l≠locals
theorem EA{xn rv st:Str}{body:List Stmt}(T:wo xn rv st body)(V:A9 env xn rv st){L l0:Addr}{rs:Array Value}{tup:Value}(G:wu s.heap env.locals L l0 rs tup){m:Str->Option Value}(hn:s.heap.Ns env.locals m)
  (m1:m rv=some (.type "reversed"))(m2:m st=some (.ref L))(hh:A.handled=none):
  (GenState.fresh (.func body env)).Goes (model prog w) A (Ez s.heap.objs.size) (yb env s.heap.objs.size L l0 tup) 1 (.send .none) s:=by
 refine⟨rfl,?_⟩;refine bK (T) fun p1 Nj=>fJ Nj fun p2 p3 p4 Nk=>fJ Nk fun p5 p6 p7 Nl=>fJ Nl fun p8 p9 CE Rw=>?_;clear Nj Nk Nl;(clear T;subst Rw);have hlt:∀{b o},s.heap.get? b=some o->b<s.heap.objs.size:=fun e=>Heap.lt_size e;have hsz:rs.size -1<rs.size:=by
  have :=G.r0;have h0:0<rs.size:=by
   rcases Nat.eq_zero_or_pos rs.size with q|q
   ·rw[Array.getElem?_eq_none (by omega)]at this;exact xa this
   ·exact q
  omega
 refine seg_func (seg_execs_cons ?_);rw[exec_For];refine aT (wpAny_standAt ?_);refine aT (uN V.k hn V.kr V.ks V.dr V.ds m1 m2 G.hL ?_);refine aT (wpAny_of_eq (a:=Value.ref s.heap.objs.size) rfl ?_);refine aT (wpAny_standAt ?_);have hit:(s.heap.push (revObj L ((rs.size:Int) -1))).IsRevIter s.heap.objs.size L ((rs.size:Int) -1):=⟨_,Heap.get?_push_size _ rfl,rfl,rfl⟩;refine aT (wpAny_holding (wpAny_pyIter_revIter hit ?_));refine uL fun p=>?_;refine jq (id hn) fun oL u' u' gL _=>?_;refine av (id G.hL) fun o1 g1 _=>?_;refine av (id G.hl) fun o2 g2 _=>?_;refine yc (s0:=s) (rs:=rs) (l0:=l0) V.k V.kx V.dx V.co ?_ rfl rfl G.hL (hlt g1) G.Le G.r0 G.hl (hlt g2) G.UJ (hlt gL) (fun i r e=>?_) (fun s₀ s1 h' k1 k2 k3 k4=>?_) (rs.size -1) hsz _ ⟨⟨_,hn.push _⟩,qB (by omega) hit,Heap.size_push ..,fun b o u' u' e=>Heap.get?_push_of_some _ e,rfl,rfl,Nat.le_refl _⟩
 ·exact hh
 ·refine bN (G.hr i r e) fun l q1 q2 q3=>?_
  refine av (id q2) fun o3 g3 _=>?_;exact⟨l,q1,q2,hlt g3,q3⟩
 ·refine seg_leaf _ ?_
  exact seg_end (.ok (.ret .none)) ⟨rfl,rfl,k1,k2,k3,k4⟩
end
end Mine.Internal
end
noncomputable section
open PySem PySem.W PyProof.Rows
namespace Mine.Internal
/-! for .. in self.m(self.n):a lB of iZ text -/
structure Nm(B:Base)(K:Frag)(gf:Addr)(o:Obj)(fd:FuncData)(body:List Stmt)(xn rv st sn:Str):Prop where
 fn:fnIn K gf=true
 at_:B.h.get? gf=some o
 data:o.data= .func fd
 code:B.h.CodeRec fd.code fd.qualname
 j8:fd.body= .stmts body
 K5:fd.closure=[]
 co:fd.scope.isCoroutine=false
 gen:fd.scope.isGenerator=true
 kind:fd.scope.kind= .function
 text:wo xn rv st body
 cells:∀x∈fd.scope.names,x.2≠ .cell
 lx:fd.scope.names.lookup xn=some .local
 lr:fd.scope.names.lookup rv=some .local
 ls:fd.scope.names.lookup st=some .local
 ln:fd.scope.names.lookup sn=some .local
 ne:(st==rv)=false
 dx:(xn==("__debug__":Str))=false
 dr:(rv==("__debug__":Str))=false
 ds:(st==("__debug__":Str))=false
 bind:∀(s:Shared) (a b:Value),(∀c o,B.h.get? c=some o->s.heap.get? c=some o)->BindsTo s fd ⟨[a,b],[]⟩ [(sn,a),(st,b),(rv,.type "reversed")]
noncomputable def nS (B:Base) (K:Frag) (gf:Addr):Prop:=∃o fd body xn rv st sn,Nm B K gf o fd body xn rv st sn
theorem nS.at{B:Base}{K:Frag}{gf:Addr}(x:nS B K gf)(l:List Env)(a:Addr):nS (B.at l a) K gf:=by obtain⟨o,fd,body,xn,rv,st,sn,F⟩:=x;exact⟨o,fd,body,xn,rv,st,sn,F.fn,F.at_,F.data,F.code,F.j8,F.K5,F.co,F.gen,F.kind,F.text,F.cells,F.lx,F.lr,F.ls,F.ln,F.ne,F.dx,F.dr,F.ds,F.bind⟩
theorem j9{a:Array GenState}(h:AllBare a){x:GenState}(hx:x.bare=true)(i:Nat):AllBare (a.setIfInBounds i x):=by
 intro y hy;obtain⟨j,hj,rfl⟩:=Array.mem_iff_getElem.mp hy;have hj':j<a.size:=by rw[Array.size_setIfInBounds]at hj;exact hj
 rw[Array.getElem_setIfInBounds hj'];split
 ·exact hx
 ·exact h _ (Array.getElem_mem hj')
theorem GK.set{a b:Array GenState}(h:GK a b){g:Nat}(hg:a.size<=g)(x:GenState):GK a (b.setIfInBounds g x):=fun i z e=>by have hi:i<a.size:=(Array.getElem?_eq_some_iff.mp e).1;rw[Array.getElem?_setIfInBounds];rw[if_neg (by omega)];exact h i z e
theorem GK.push(a:Array GenState)(x:GenState):GK a (a.push x):=fun i z e=>by have hi:i<a.size:=(Array.getElem?_eq_some_iff.mp e).1;rw[Array.getElem?_push,if_neg (by omega)];exact e
theorem eg{α:Type}{a:Array α}{l:List α}(h:a.toList=l):a=l.toArray:=by rw[<-h]
theorem mD{prog:Program}{w:World}{A:Around}{E:Value->Shared->Prop}{Q:Unit->Shared->Prop}{s:Shared}{tg:Expr}{a:Addr}{o:Obj}{v:Value}(ho:s.heap.get? a=some o)(hc:o.cls= .type "generator")(h:Q () s):wpAny (model prog w) A (letOwnedTupleGo tg (.ref a) v) Q E s:=by
 have key:wpAny (model prog w) A (do
  let(.ref r,.ref a):=(Value.ref a,v)|return
  let o <-load r
  match o.cls,o.data with
  | .type n,.fields vs=>
   if["enumerate","zip","dict_itemiterator","dict_reverseitemiterator","odict_iterator","itertools.zip_longest","itertools.pairwise"].contains n&&vs[0]?==some (rawInt a)then
    rule "for.unpacks-the-owned-tuple"
    updateField r 0 .none
  |_,_=>pure ()) Q E s:=by
  rcases v with⟨⟩ <;> first|exact wpAny_pure h|skip
  refine wpAny_bind (wpAny_load ho ?_);rw[hc];clear ho hc;rcases o.data with⟨⟩ <;> first|exact wpAny_pure h|skip
 clear ho hc;rcases tg with⟨⟩ <;> first|exact wpAny_pure h|exact key
theorem Ba{x:V}(h:isNil x=true):x= .list []:=by
 rcases x with _|_|l|_|_|⟨_,_⟩
 ·exact xc h
 ·exact xc h
 ·rcases l with _|⟨_,_⟩
  ·rfl
  ·exact xc h
 ·exact xc h
 ·exact xc h
 ·exact xc h
section
variable{B:Base}{X:Addr->Prop}{ce:Env}{ns:List Str}{φ az:Ph}{G G':Gs}{e e':En}{s s':Shared}
theorem Step.pB(x:Step B X φ s az G' s'){J:Addr->Prop}(hn:∀b,J b->s.heap.get? b=none/\lU B az b){h':Heap}{t:Tok}{d:Drawn}{g:Array GenState}(hg:AllBare g)(k:∀b o,¬J b->s'.heap.get? b=some o->h'.get? b=some o)(ht:s'.toks<=t)(CQ:GK s.gens g):Step B X φ s az G' ⟨h',g,d,t,s'.os⟩:=by
 have I:=x.inv;refine⟨x.le,⟨I.P,fun b o e=>k b o (fun q=>xa ((hn b q).2.f.symm.trans e)) (I.keep b o e),I.base,?_,I.tN,I.qZ,fun b m=>⟨(I.mT b m).1,(I.mT b m).2.imp fun o e=>k b o (fun q=>(hn b q).2.mu m) e⟩,hg,I.os,fun env he=>?_,Nat.le_trans I.tk ht,I.wr.keep (.refl _) rfl rfl rfl fun b o m e=>k b o (fun q=>(hn b q).2.mu m) e⟩,fun b o e h1 h2 h3=>(x.kept b o e h1 h2 h3).trans fun o' e'=>gZ (k b o' (fun q=>xa ((hn b q).1.symm.trans e)) e'),fun b o e=>(x.live b o e).imp fun o' y=>⟨k b o' (fun q=>xa ((hn b q).1.symm.trans e)) y.1,y.2⟩,x.new,x.yM,CQ⟩
 ·refine av (I.tab) fun m e ct=>?_
  exact⟨m,k _ _ (fun q=>(hn _ q).2.tb rfl) e,ct⟩
 ·refine bY (I.frs env he) fun q L o h1 h2 h3 h4 h5 h6=>?_
  exact⟨q,L,o,h1,h2,h3,h4,k L o (fun z=>(hn _ z).2.fr (List.mem_filterMap.mpr ⟨env,he,h1⟩)) h5,h6⟩
theorem dY.pB(x:dY B ce ns φ e s.heap){J:Addr->Prop}(j:∀b,J b->JI B ce ns e φ s.heap b){h':Heap}(kp:∀b o,¬J b->s.heap.get? b=some o->h'.get? b=some o):dY B ce ns φ e h'/\∀b,dw ce ns e h' b->dw ce ns e s.heap b:=by refine⟨⟨x.kind,x.tO,x.blt,x.cd,x.len,x.LF,x.LM,x.LT,x.loc.imp fun m hm=>hm.keep (.refl _) (fun o ho=>⟨o,kp _ o (fun q=>(j _ q).nl rfl) ho,rfl⟩) (fun a o q hz ho _=>⟨q,kp a o (fun z=>(j _ z).no hz) ho⟩),fun y i hi hk=>(x.oh y i hi hk).imp fun c y=>⟨y.1,y.2.keep (.refl _) y.2.f y.2.mu fun o ho=>⟨o,kp c o (fun q=>(j _ q).nc _ _ _ hi hk y.1 rfl) ho,rfl⟩⟩,x.inj⟩,fun b bE=>bw bE fun m' y i hm' hi hk ho=>?_⟩;clear bE;obtain⟨m,hm⟩:=x.loc;exact dw.back (s':={s with heap:=h'}) x (fun a o q gg hc hw=>kp a o (fun z=>(j _ z).no hw) gg) hm.nm hm' hi hk (congrFun (bR hm' (gn hm.nm fun o ho=>⟨o,kp _ o (fun q=>(j _ q).nl rfl) ho,rfl⟩)) y) ho
theorem dX.pB(x:dX B ce ns e φ s e' az G' s'){J:Addr->Prop}(hn:∀b,J b->s.heap.get? b=none)(j:∀b,J b->JI B ce ns e' az s'.heap b){h':Heap}{t:Tok}{d:Drawn}{g:Array GenState}(hg:AllBare g)(k:∀b o,¬J b->s'.heap.get? b=some o->h'.get? b=some o)(ht:s'.toks<=t)(CQ:GK s.gens g):dX B ce ns e φ s e' az G' ⟨h',g,d,t,s'.os⟩:=
 ⟨x.st.pB (fun b q=>⟨hn b q,(j b q).nM⟩) hg k ht CQ,(x.en.pB j k).1,fun b hb=>x.own b ((x.en.pB j k).2 b hb)⟩
end
section
variable{k:Ks}{ce:Env}{ns:List Str}
theorem UK{P:Prop}{T:aM}{e:En}{G:Gs}{m n:Str}{v:V}(h:Lw T e G m n=some v)(kk:sl e 0= .v (.sp .wr)->aW T.ic T.wc m=some T.gf->∀es,G.wr=some es->look es m=none->∀l,fj T e G (.at_ n)=some (.list [v]::l)->(∀x∈l,x= .list [])->P):P:=
 ak h fun c h=>bindC h fun es he h=>ak h fun hl h=>bindC h fun L hL h=>bindC h fun x hx h=>ak h fun hn h=>bindC h fun l0 h0 h=>by
  refine kk (anyC c.1 fun y q w=>vJ w▸kR q) c.2 es he (Option.isNone_iff_eq_none.mp hl) L.tail ?_ fun z hz=>Ba (List.all_eq_true.mp hn z hz);simp only[hL,<-aZ h,<-iP h0];rename_i kU nG Ae Qq UL UM UN;clear kU nG Ae Qq UL UM UN;clear kk c he hl hL hn;rcases L with _|⟨a,r⟩
  ·(exact xa hx)
  ·(revert h0 h;apply af (hx);intro h0 h);rfl
end
end Mine.Internal
end
noncomputable section
open PySem PySem.W PyProof.Rows
namespace Mine.Internal
section
variable{k:Ks}{ce:Env}{ns:List Str}
theorem Bb{φ:Ph}{h:Heap}{a L:Addr}{v:V}{l:List V}{vs:Array Value}{m:Nat}(kp:∀b o,φ.f b=some o->h.get? b=some o/\b≠L)(g:h.get? a=some (lo vs m))(ha:a≠L)(r:bz φ (.list [v]::l) vs.toList)(hl:∀x∈l,x= .list []):
  ∃l0 cv n0,VR φ v cv/\φ.f l0=some (lo #[cv] n0)/\wu h L a l0 vs cv:=by
 refine aI (r) fun c0 rest e0 Nn hr=>?_;refine aX (Nn) fun l0 us n0 Iq g0 r0=>?_;(clear r Nn;subst Iq);refine aI (r0) fun cv z e1 hv Rx=>?_;(clear r0;subst Rx);have e2:=eg e0;have e3:=eg e1;subst e2 e3;refine⟨l0,cv,n0,hv,g0,⟨_,g,rfl,_,rfl⟩,ha,by simp,⟨_,(kp _ _ g0).1,rfl,_,rfl⟩,(kp _ _ g0).2,fun i c hc=>?_⟩;have hc':rest[i]?=some c:=by simpa using hc
 have hi:i<l.length:=by rw[hr.length];exact(List.getElem?_eq_some_iff.mp hc').1
 refine av (hr.get (List.getElem?_eq_getElem hi)) fun c' q1 q2=>?_;obtain rfl:=Option.some.inj (hc'.symm.trans q1);rw[hl _ (List.getElem_mem hi)]at q2;refine aX (q2) fun al UO nl Ry gl rl=>?_;subst Ry;refine⟨al,rfl,⟨_,(kp _ _ gl).1,rfl,nl,?_⟩,(kp _ _ gl).2⟩;have :=eg (show UO.toList=[]from rl);rw[this]
theorem Bc(Si:cD k)(gk:nS k.B k.K k.T.gf){aF:List Str}{v it:Expr}{b:List Stmt}{pos:Pos}{τ:xC}{y:List S}{r:Str×Str}(ht:zE ce.scope ns v=some τ)(hr:P0 aF ce.scope ns it=some r)(hb:lA k ce ns b y):eK k ce ns (.For v it b [] pos) (.oM r.1 r.2 τ y):=
 bindC hr fun r0 hr0 h=>bindC h fun t0 ht0 h=>bindC h fun a0 ha0 h=>bindC h fun l0 Pc h=>bindC h fun n0 hn0 h=>ak h fun cc h=>by
 (rename_i aH bI bS eN i6;clear aH bI bS eN i6;revert hr;apply af (h);intro hr)
 refine cU (iS cc.1) fun x' p' ex' hx'=>?_;have hl':=Eu hn0
 (clear hn0 hr;subst hl')
 rcases iz Pc with⟨_,_,_,_,q,_⟩|⟨x,p,n,q,ea,eq,hx⟩
 ·exact xi Lv.ctorIdx q rfl
 clear Pc;cases eq;simp only[dG hr0,d8 ht0,aZ ha0,ea,ex'];generalize t0.2.2=apos at cc;generalize r0.2.2=cpos at cc;generalize t0.2.1=mn;refine fun A E Q φ G s e fl e' G' c ev kk=>bindC ev fun va e1 ev=>bindC ev fun V2 e2 ev=>bindC ev fun z e3 ev=>UK e1 fun hz hm es he hl L hL Rz=>?_;obtain⟨zf,ze,zG⟩:=z;rename_i kU nG Ae;clear kU nG Ae;rcases zf with _|_
 ·(cases ev)
  refine bK (gk) fun ob Np=>fJ Np fun fd wz xn Nq=>fJ Nq fun rn st sn F=>?_;clear Np Nq;refine wpAny_For ?_ (gE (ex:=.Call _ _ _ _) rfl ce);refine wq fun Q1 E1 Gm _=>?_;refine w_eq (by rw[arm_eval_Call,aB (o:=.Name x' p') rfl,au _ _ rfl]) ?_;refine wpAny_bind (wpAny_Name (gp c.E hx'.2.2 hx'.var hz (ai hx'.1).2 fun co h1=>?_) (ai hx'.1).1);refine wpAny_bind (wpAny_standAt ?_);unfold methodCall;refine w_eq (by rw[show methodCallForm _ _ _=true from rfl]) ?_;refine wpAny_bind (wpAny_holding ?_);unfold calleeOf;rw[if_pos rfl];refine aV (c.I.rX h1 he) fun pw ds m RA h2 h3 h4 h5 h6 _=>?_;subst RA;refine z6 Si.C c.I (Si.O.wc▸h3) h5 hm h6.dr hl ?_;dsimp only;unfold methodCallPos;refine w_eq (by rw[cc.2]) ?_;refine wpAny_bind (wpAny_pure ?_);refine callWith_of (P:=fun hp=>bA (model k.prog k.w) hp (.ref k.T.gf)) rfl (fun _ z=>z) (ee (I3 Si hx c hL fun aL iL V3 V5 RB _ _ _ _ _ _ _ _ _ _=>?_));have kb:=c.I.kb;refine⟨jV (Si.C.uh.keeps kb) F.fn,?_⟩;generalize Td:({s with toks:=s.toks+1}:Shared)=s3;have t3:Step k.B No φ s φ G s3:=Td▸Step.toks c.I (Nat.le_succ _);have c3:=c.step t3
  replace kb:=c3.I.kb
  have g3:=c.no t3
  as_aux_lemma=>
  replace RB:OL φ s3.heap aL (.list [va]::L):=Td▸RB
  -- iZ lB is made
  refine wpAny_call (codeAny_call_generator (by have :=c.R.d;omega) (kb _ _ F.at_) F.data F.co F.gen F.j8 (F.code.imp fun c y=>y.imp fun o y=>y.imp fun vs y=>y.imp fun t y=>⟨y.1,kb _ _ y.2.1,y.2.2⟩) (F.bind s3 _ _ kb _ _ _ _ ?_));rw[F.K5];have kindOf:∀x∈[(sn,Value.ref pw.1),(st,Value.ref aL),(rn,Value.type "reversed")],fd.scope.names.lookup x.1=some .local:=fun x hx=>by
   simp only[List.mem_cons,List.not_mem_nil,or_false]at hx;rcases hx with rfl|rfl|rfl
   ·exact F.ln
   ·exact F.ls
   ·exact F.lr
  refine wpAny_newFunctionEnv F.cells kindOf (fun hf hns Gk=>?_) F.kind;have up:∀b o,s3.heap.get? b=some o->hf.get? b=some o:=fun b o e=>(Gk.2 b (Nat.ne_of_lt (Heap.lt_size e))).trans (Heap.get?_push_of_some _ e);have CJ:hf.objs.size=s3.heap.objs.size+1:=Gk.1.trans (Heap.size_push ..);refine⟨(Si.G.limit c3.I).keeps up,?_⟩;dsimp only;generalize hge:newEnv fd.scope s3.heap.objs.size fd.globals [] (fd.qualname++".<locals>.") (some k.T.gf) fd.code none fd.builtins=iC;have gl:iC.locals=s3.heap.objs.size:=by rw[<-hge];rfl
  have gs:iC.scope=fd.scope:=by rw[<-hge];rfl
  refine Gm _ _ ?_;refine wpAny_pyIter_gen (g:=s3.gens.size) ⟨_,_,_,Heap.get?_push_size _ rfl,rfl,rfl,rfl⟩ ?_;generalize Bd:({heap:=hf.push {cls:=.type "generator",data:=.fields #[.int s3.gens.size 0,.str fd.name (s3.toks+3),.str fd.qualname (s3.toks+3+1)]},gens:=s3.gens.push (.fresh (.func wz iC)),drawn:=s3.drawn,toks:=s3.toks+3+1+1,os:=s3.os}:Shared)=s4;have hlt:∀{b ob},s3.heap.get? b=some ob->b<s3.heap.objs.size:=fun e=>Heap.lt_size e;have Pd:∀b ob,s3.heap.get? b=some ob->s4.heap.get? b=some ob:=fun b ob e=>by rw[<-Bd];exact Heap.get?_push_of_some _ (up b ob e)
  have Gn:s4.heap.objs.size=hf.objs.size+1:=by rw[<-Bd];exact Heap.size_push ..
  have Te:s4.heap.get? hf.objs.size=some {cls:=.type "generator",data:=.fields #[.int s3.gens.size 0,.str fd.name (s3.toks+3),.str fd.qualname (s3.toks+3+1)]}:=by rw[<-Bd];exact Heap.get?_push_size _ rfl
  have Tf:s4.gens=s3.gens.push (.fresh (.func wz iC)):=by rw[<-Bd]
  have UP:s4.os=s3.os:=by rw[<-Bd]
  have UQ:s3.toks<=s4.toks:=by rw[<-Bd];dsimp only;omega
  have JM:∀{b ob},s3.heap.get? b=some ob->b≠iC.locals:=fun e q=>by rw[q,gl]at e;exact Nat.lt_irrefl _ (hlt e)
  have hh:=c.R.h;have lY:∀b,s3.heap.objs.size<=b->s3.heap.get? b=none:=fun b hb=>Heap.get?_none_of_le hb;have hroom:A.depth<recursionLimit:=by have :=c.R.d;omega
  have N4:s4.heap.Ns iC.locals fun x=>List.lookup x [(sn,Value.ref pw.1),(st,Value.ref aL),(rn,Value.type "reversed")].reverse:=by simp only[gl,<-Bd];exact hns.push _
  as_aux_lemma=>
  clear hns Gk Bd;refine cU (RB) fun V6 nL gL rL=>?_;refine aX (Bb (h:=s4.heap) (L:=iC.locals) (fun b o e=>⟨Pd _ _ (c3.I.keep _ _ e),JM (c3.I.keep _ _ e)⟩) (Pd _ _ gL) (JM gL) rL Rz) fun l0 cv V7 Nr UR G4=>?_;have V4:A9 iC xn rn st:=⟨by rw[gs];exact F.kind,by rw[gs];exact F.co,by show iC.scope.names.lookup xn=_;rw[gs];exact F.lx,by show iC.scope.names.lookup rn=_;rw[gs];exact F.lr,by show iC.scope.names.lookup st=_;rw[gs];exact F.ls,F.dx,F.dr,F.ds⟩;refine sG (Q:=Q) (fun _ h=>h) (fun _ _ h=>h) (fun nf s'=>∀P:Prop,(nf=2->s'=s4->P)->(∀az gs',nf=1->dX k.B ce ns e φ s3 ze az zG s'->s'.gens[s3.gens.size]?=some gs'->s'.heap.IsGen hf.objs.size s3.gens.size->qy s4.heap.objs.size aL l0 s'.heap->
    JI k.B ce ns ze az s'.heap s4.heap.objs.size->JI k.B ce ns ze az s'.heap (s4.heap.objs.size+1)->(∀s'':Shared,qy s4.heap.objs.size aL l0 s''.heap->gs'.Goes (model k.prog k.w) A.in1 (Ez s4.heap.objs.size) (yb iC s4.heap.objs.size aL l0 cv) 0 (.send .none) s'')->P)->P) (fun nf s' hI E1 Q1 again ret=>hI _ (fun US UT=>?_) fun UU gs' _ gD hgs hG GR j1 j2 hgo=>?_) 2 fun P h _=>h rfl rfl
  ·-- its one item
   rw[UT];have UW:s4.gens[s3.gens.size]?=some (.fresh (.func wz iC)):=by rw[Tf];simp
   refine pA (g:=s3.gens.size) (n:=1) (P:=qA s4.heap.objs.size) (Y:=yb iC s4.heap.objs.size aL l0 cv) hh ((Si.G.limit c3.I).keeps Pd) hroom ⟨_,_,_,Te,rfl,rfl,rfl⟩ UW
    (EA (s:=s4.setGen s3.gens.size .running) F.text V4 G4 N4 (by
     have :(rn==st)=false:=by have :=F.ne;rw[beq_eq_false_iff_ne]at this⊢;exact Ne.symm this
     simp) (by simp[List.lookup,F.ne]) hh) (fun v sB gs' hbare hy=>?_) (fun s1 hP=>absurd hP.1 (by decide))
   refine jo (hy) fun RC y1 y2 y3 Nt=>dg Nt fun y4 RD y5 y6 y7 y8=>?_;clear Nt;subst RC;refine av (RD) fun oF yF _=>?_
   replace y4:∀b ob,b≠iC.locals->b<s4.heap.objs.size->s4.heap.get? b=some ob->sB.heap.get? b=some ob:=y4
   replace y7:s4.toks<=sB.toks:=y7
   have Tg:∀b ob,s3.heap.get? b=some ob->sB.heap.get? b=some ob:=fun b ob e=>y4 b ob (JM e) (Nat.lt_trans (hlt e) (by rw[Gn,CJ];omega)) (Pd b ob e);have RE:sB.heap.get? hf.objs.size=some ({cls:=.type "generator",data:=.fields #[.int s3.gens.size 0,.str fd.name (s3.toks+3),.str fd.qualname (s3.toks+3+1)]}:Obj):=y4 hf.objs.size _ (by rw[gl,CJ];exact Nat.ne_of_gt (Nat.lt_succ_self _)) (by rw[Gn];exact Nat.lt_succ_self _) Te;have RG:sB.gens=(s3.gens.push (.fresh (.func wz iC))).setIfInBounds s3.gens.size .running:=by rw[y5,<-Tf];rfl
   have UX:sB.os=s3.os:=by rw[y6,<-UP];rfl
   have tkB:s3.toks<=sB.toks:=Nat.le_trans UQ y7;have JN:sB.setGen s3.gens.size gs'=⟨sB.heap,sB.gens.setIfInBounds s3.gens.size gs',sB.drawn,sB.toks,s3.os⟩:=by rw[<-UX];rfl
   have K6:Step k.B No φ s3 φ G (sB.setGen s3.gens.size gs'):=by simp only[JN];refine Step.ext c3.I (j9 (by rw[RG];exact j9 (AllBare.push c3.I.gens rfl) rfl _) hbare _) (fun b ob e _=>Tg b ob e) (fun b _ ob e=>⟨ob,Tg b ob e,fun h=>h,fun _=>rfl⟩) tkB ?_;rw[RG];exact((GK.push _ _).set (Nat.le_refl _) _).set (Nat.le_refl _) _
   have UY:(sB.setGen s3.gens.size gs').gens[s3.gens.size]?=some gs':=by show(sB.gens.setIfInBounds s3.gens.size gs')[s3.gens.size]?=_;rw[RG];simp
   refine mD (s:=sB.setGen s3.gens.size gs') RE rfl ?_;have gB:=c3.no K6;refine av (y1) fun oi yi UZ=>?_;refine av (y3) fun oj yj U0=>?_;have jG:=JI.new c3.E K6 (lY hf.objs.size (by rw[CJ];exact Nat.le_succ _)) (c3.I.nM (lY hf.objs.size (by rw[CJ];exact Nat.le_succ _))) RE;have jN:=JI.new c3.E K6 (lY s4.heap.objs.size (by rw[Gn,CJ];exact Nat.le_trans (Nat.le_succ _) (Nat.le_succ _))) (c3.I.nM (lY s4.heap.objs.size (by rw[Gn,CJ];exact Nat.le_trans (Nat.le_succ _) (Nat.le_succ _)))) yj;have U1:=JI.new c3.E K6 (lY (s4.heap.objs.size+1) (by rw[Gn,CJ];exact Nat.le_trans (Nat.le_trans (Nat.le_succ _) (Nat.le_succ _)) (Nat.le_succ _))) (c3.I.nM (lY (s4.heap.objs.size+1) (by rw[Gn,CJ];exact Nat.le_trans (Nat.le_trans (Nat.le_succ _) (Nat.le_succ _)) (Nat.le_succ _)))) yi;refine Gj ht hh K6.inv gB.en Nr e2 fun s5 g5=>?_;refine hb.at ((c3.step K6).go g5) e3 fun f Q3 s6 U3 g6=>?_
   (obtain rfl:=U3)
   have JO:=g5.trans g6;refine cJ (jG.go JO) fun _ kG=>?_;refine cJ (jN.go JO) fun U4 kN=>?_;refine cJ (U1.go JO) fun RH U5=>?_;exact again 1 s6 (by rw[US];decide) fun P _ h=>h Q3 gs' rfl (gB.trans JO) (JO.st.gk _ _ UY) ⟨_,_,_,kG _ RE,rfl,rfl,rfl⟩ ⟨⟨_,U5 _ yi,UZ⟩,⟨_,_,JO.st.inv.keep _ _ (JO.st.le.f _ _ UR),rfl,_,rfl⟩,⟨_,kN _ yj,U0⟩⟩ U4 RH fun s'' GR=>y8 s'' GR
  ·-- there is no more
   refine pA (g:=s3.gens.size) (n:=0) (P:=qA s4.heap.objs.size) (Y:=yb iC s4.heap.objs.size aL l0 cv) hh ((Si.G.limit gD.st.inv)) hroom hG hgs
    (hgo _ GR) (fun v sB U6 hbare hy=>?_) (fun sE hP h' hk=>?_)
   ·refine jo (hy) fun RI y1 y2 y3 Nu=>dg Nu fun y4 _ y5 y6 y7 y8=>?_;clear Nu;subst RI
    exact absurd (y8 sB ⟨y1,y2,y3⟩) (fun q=>q)
   ·refine jo (hP) fun _ k1 k2 k3 k4=>?_
    have U7:∀b ob,¬(b=s4.heap.objs.size\/b=s4.heap.objs.size+1)->s'.heap.get? b=some ob->h'.get? b=some ob:=fun b ob hb e=>hk b ob (k1 b ob (fun q=>hb (.inl q)) (fun q=>hb (.inr q)) e);have JN:({sE.setGen s3.gens.size .finished with heap:=h'}:Shared)=⟨h',sE.gens.setIfInBounds s3.gens.size .finished,sE.drawn,sE.toks,s'.os⟩:=by have :sE.os=s'.os:=k3;rw[<-this];rfl
    have hge:sE.gens=s'.gens.setIfInBounds s3.gens.size .running:=k2;refine kk .next UU _ rfl (g3.trans ?_)
    rw[JN];refine gD.pB (J:=fun b=>b=s4.heap.objs.size\/b=s4.heap.objs.size+1) (fun b hb=>?_) (fun b hb=>?_) (j9 (by rw[hge];exact j9 gD.st.inv.gens rfl _) rfl _) U7 k4 ?_
    ·rcases hb with rfl|rfl
     ·exact lY _ (by rw[Gn,CJ];exact Nat.le_trans (Nat.le_succ _) (Nat.le_succ _))
     ·exact lY _ (by rw[Gn,CJ];exact Nat.le_trans (Nat.le_trans (Nat.le_succ _) (Nat.le_succ _)) (Nat.le_succ _))
    ·rcases hb with rfl|rfl
     ·exact j1
     ·exact j2
    ·rw[hge]
     exact(gD.st.gk.set (Nat.le_refl _) _).set (Nat.le_refl _) _
 ·(exact xa ev)
end
end Mine.Internal
end
noncomputable section
open PySem PySem.W PyProof.Rows
namespace Mine.Internal
theorem sR:Manifest.owners.lookup (String.ofList ['r','o','t','a','r','e','t','i','_','t','e','s'].reverse)=some Manifest.sig_set_iterator:=by kernel_rfl
theorem e7:Slot "set_iterator" "__next__" "set_iterator.__next__":=
 .of (owner:="set_iterator") (n:="__next__") (by rw[typeLookup_type,builtinLookup_eq_fast];kernel_rfl) (by decide+kernel) (by decide+kernel) (by decide+kernel)
  (by first|exact .inl (by decide+kernel)|exact .inr (by decide+kernel)) (by rw[isSubtype_type];kernel_rfl)
theorem oA:entryFor table "set_iterator.__next__"=some Builtin.«set_iterator.__next__»:=entryFor_of_tree (by kernel_rfl)
theorem qC(a:Value):argsOk "set_iterator.__next__" ⟨[a],[]⟩:=by unfold argsOk;rw[signature?_of (id:="set_iterator.__next__") (n:=['_','_','t','x','e','n','_','_']) (o:=['r','o','t','a','r','e','t','i','_','t','e','s']) (by kernel_rfl) sR];kernel_rfl
theorem kg:Slot "set_iterator" "__iter__" "set_iterator.__iter__":=
 .of (owner:="set_iterator") (n:="__iter__") (by rw[typeLookup_type,builtinLookup_eq_fast];kernel_rfl) (by decide+kernel) (by decide+kernel) (by decide+kernel)
  (by first|exact .inl (by decide+kernel)|exact .inr (by decide+kernel)) (by rw[isSubtype_type];kernel_rfl)
theorem qD(a:Value):argsOk "set_iterator.__iter__" ⟨[a],[]⟩:=by unfold argsOk;rw[signature?_of (id:="set_iterator.__iter__") (n:=['_','_','r','e','t','i','_','_']) (o:=['r','o','t','a','r','e','t','i','_','t','e','s']) (by kernel_rfl) sR];kernel_rfl
theorem oB:entryFor table "set_iterator.__iter__"=some Builtin.«dict_keyiterator.__iter__»:=
 entryFor_alias (id':="dict_keyiterator.__iter__") (by kernel_rfl) (by first|rfl|decide+kernel|(unfold String.splitOn;simp +decide [String.splitOnAux])) (by decide+kernel) (by kernel_rfl)
theorem nT:entryFor table "set.__iter__"=some Builtin.«frozenset.__iter__»:=
 entryFor_alias (id':="frozenset.__iter__") (by kernel_rfl) rfl (by decide+kernel) (by kernel_rfl)
section
variable{prog:Program}{w:World}{A:Around}{E:Value->Shared->Prop}{s:Shared}
theorem ki{M:Model}{src:Source}{n:Nat}{Q:Nat->Shared->Prop}(hn:n≠0)(h:∀d i,i<n->Q i {s with drawn:=d}):wpAny M A (choose src n) Q E s:=fun Γ p _=>by unfold choose;rw[Sem.wp_choose];exact⟨hn,h _ _ (Nat.mod_lt _ (Nat.pos_of_ne_zero hn))⟩
inductive sS(w:World)(S F:Addr)(l:List Value)(j:Nat)(es:Array (Int×Value))(ep:Nat)(t:SetTable)(h:Heap)(first :Value):Prop
 |draw(hb:w.params.followText "set-order"=true)(slot:Nat)(hz:first = .int slot 0)(hl:l=(pickOrder (w.params.setOrder S ep) es).toList.map (·.2))
 |one(hb:w.params.followText "set-order"=false)(k:Int)(v:Value)(z1:es=#[(k,v)])(z2:l=[v])(z3:first = .int (if j=0 then 0 else t.place.getD 0 0+1:Nat) 0)
 |few (hb:w.params.followText "set-order"=false) (ps:List Nat) (hz:first = .ref F) (gF:h.get? F=some (to (ps.map fun(i:Nat)=>rawInt i).toArray 0)) (hl:l.map some=ps.map fun i=>es[i]?.map (·.2))
noncomputable abbrev EB (first :Value) (j:Nat) (S:Addr) (n ep:Int):Obj:={cls:=.type "set_iterator",data:=.fields #[first,.int j 0,.ref S,.int n 0,.int ep 0]}
noncomputable abbrev Nv (es:Array (Int×Value)) (ep:Nat) (t:SetTable):Obj:={cls:=.type "set",data:=.set es ep t}
inductive ku(w:World)(I S F:Addr)(l:List Value)(j:Nat)(s:Shared):Prop
 |mk(es:Array (Int×Value))(ep:Nat)(t:SetTable)(first :Value)(gS:s.heap.get? S=some (Nv es ep t))(tb:eS w.params es.size t)(hpl:t.plain=false)(hsz:es.size=l.length)(gI:s.heap.get? I=some (EB first j S es.size ep))(mode:sS w S F l j es ep t s.heap first)
theorem sS.mono{S F:Addr}{l:List Value}{j:Nat}{es:Array (Int×Value)}{ep:Nat}{t:SetTable}{h h':Heap}{first :Value}(m:sS w S F l j es ep t h first)(k:∀o,h.get? F=some o->h'.get? F=some o):sS w S F l j es ep t h' first :=
 m.casesOn .draw .one fun hb ps hz gF hl=>.few hb ps hz (k _ gF) hl
theorem yd{t:SetTable}(h:t.fits 1=true):t.place=#[t.place.getD 0 0]:=by
 have hf:=h;unfold SetTable.fits at hf;rw[Bool.and_eq_true,beq_iff_eq]at hf;have :=hf.1;apply Array.ext
 ·simpa using this
 ·intro i h1 h2
  have :i=0:=by simp at h2;omega
  subst this;simp[Array.getD,h1]
theorem uP(p:Nat):SetTable.below #[p] 0=0:=by rfl
theorem ye(p:Nat):SetTable.below #[p] (p+1)=1:=by simp[SetTable.below,SetTable.below.go]
theorem EC{I:Addr}{h1:Heap}{Q:Fin->Shared->Prop}(hh:A.handled=none)(k:Heap.SameBut I s.heap h1)(hn:∀h' a o,Heap.ExtBut I s.heap h'->h'.get? a=some o->o.cls= .type "StopIteration"->E (.ref a) {s with heap:=h'}):
  wpAny (model prog w) A (newExc (.type "StopIteration") [] >>=raiseNew) Q E {s with heap:=h1}:=by
 refine wpAny_bind ?_;simp only[newExc,newTuple];refine wpAny_bind (wpAny_newObj_type ?_ (by size_fits));refine wpAny_bind (m:=firstArgMember _ _) (wpAny_of_eq (a:=Value.none) (by first|rfl|(simp only[firstArgMember];rfl)) ?_);refine wpAny_newObj_type ?_ (by size_fits);rw[raiseNew];refine wpAny_bind (wpAny_handled ?_);rw[hh];exact wpAny_bind (wpAny_pure (wpAny_throw (hn _ _ _ ((k.extBut.push _).push _) (Heap.get?_push_size _ rfl) rfl)))
theorem wA{M:Model}{I S:Addr}{first v:Value}{j nx:Nat}{n ep:Int}{Q:Fin->Shared->Prop}(gI:s.heap.get? I=some (EB first j S n ep))(hq:∀h',Heap.SameBut I s.heap h'->h'.get? I=some (EB (.int nx 0) (j+1) S n ep)->Q (.done (.ret v)) {s with heap:=h'}):
  wpAny M A (do setField (Value.ref I) 0 (rawInt nx);setField (Value.ref I) 1 (rawInt ((j:Int)+1));ret v) Q E s:=by
 refine wpAny_bind (wpAny_setField gI rfl (by simp) ?_);have g1:=Heap.get?_update_self (Obj.mapFields fun vs=>vs.setIfInBounds 0 (rawInt nx)) gI rfl;refine wpAny_bind (wpAny_setField g1 rfl (by simp[Obj.mapFields]) ?_);exact wpAny_pure (hq _ ((Heap.SameBut.update ..).trans (Heap.SameBut.update ..)) (Heap.get?_update_self (Obj.mapFields fun vs=>vs.setIfInBounds 1 (rawInt ((j:Int)+1))) g1 rfl))
theorem Nx{I S:Addr}{es:Array (Int×Value)}{ep j slot:Nat}{t:SetTable}{Q:Fin->Shared->Prop}(gS:s.heap.get? S=some (Nv es ep t))(tb:eS w.params es.size t)(gI:s.heap.get? I=some (EB (.int slot 0) j S es.size ep))(hb:w.params.followText "set-order"=true)
  (hs:∀x h',(pickOrder (w.params.setOrder S ep) es)[j]?=some x->Heap.SameBut I s.heap h'->h'.get? I=some (EB (.int slot 0) (j+1) S es.size ep)->Q (.done (.ret x.2)) {s with heap:=h'})
  (hn:∀h1,(pickOrder (w.params.setOrder S ep) es)[j]?=none->Heap.SameBut I s.heap h1->wpAny (model prog w) A (newExc (.type "StopIteration") [] >>=raiseNew) Q E {s with heap:=h1}):
  wpAny (model prog w) A (Builtin.«set_iterator.__next__» ⟨[.ref I],[]⟩) Q E s:=by
 refine wpAny_bind (wpAny_of_eq (a:=(Value.ref I,[])) rfl ?_)
 try dsimp only
 refine wpAny_bind (wpAny_fieldsOf gI rfl ?_)
 try dsimp only
 refine wpAny_bind (wpAny_setEntries_of gS rfl tb.fits ?_);refine w_eq (if_neg (show ¬(((es.size:Int)!=es.size)=true) by simp)) ?_;refine wpAny_bind ?_;refine wpAny_bind (wpAny_setState_of gS rfl tb.fits ?_);refine wpAny_bind (wpAny_bind (wpAny_askSetting (wpAny_pure ?_)));refine w_eq (by rw[show(model prog w).w.params.followText "set-order"=true from hb,if_pos rfl,if_neg (by simp)]) ?_;refine wpAny_bind (wpAny_bind (wpAny_setState_of gS rfl tb.fits ?_));refine wpAny_bind (wpAny_bind (wpAny_askSetting (wpAny_pure ?_)));refine w_eq (by rw[show(model prog w).w.params.followText "set-order"=true from hb,if_pos rfl]) ?_;refine wpAny_bind (wpAny_askSetting (wpAny_pure (wpAny_pure ?_)));simp only[Int.toNat_natCast,Int.toNat_natCast];show wpAny _ _ (match((pickOrder (w.params.setOrder S ep) es)[j]?).map fun e=>(e.2,slot)with|some (x,next)=>_|none=>_) _ _ _
 cases q:(pickOrder (w.params.setOrder S ep) es)[j]? with
 |none=>exact wpAny_bind (wpAny_setField gI rfl (by simp) (hn _ q (Heap.SameBut.update ..)))
 |some x=>exact wA gI (hs x · q)
theorem Ny{I S:Addr}{h:Int}{v:Value}{ep j:Nat}{t:SetTable}{Q:Fin->Shared->Prop}(gS:s.heap.get? S=some (Nv #[(h,v)] ep t))(tb:eS w.params 1 t)(hpl:t.plain=false)(gI:s.heap.get? I=some (EB (.int (if j=0 then 0 else t.place.getD 0 0+1:Nat) 0) j S 1 ep))(hb:w.params.followText "set-order"=false)
  (hs:∀h',j=0->Heap.SameBut I s.heap h'->h'.get? I=some (EB (.int (t.place.getD 0 0+1:Nat) 0) (j+1) S 1 ep)->Q (.done (.ret v)) {s with heap:=h'})
  (hn:∀h1,j≠0->Heap.SameBut I s.heap h1->wpAny (model prog w) A (newExc (.type "StopIteration") [] >>=raiseNew) Q E {s with heap:=h1}):
  wpAny (model prog w) A (Builtin.«set_iterator.__next__» ⟨[.ref I],[]⟩) Q E s:=by
 have JP:=yd tb.fits;have Nz:=tb.led hb;have hfit:=tb.fits;clear tb;obtain⟨mask,place,dummies,finger,led,moves,plain⟩:=t;dsimp only at hpl JP Nz gI hs;subst hpl Nz;refine wpAny_bind (wpAny_of_eq (a:=(Value.ref I,[])) rfl ?_)
 try dsimp only
 refine wpAny_bind (wpAny_fieldsOf gI rfl ?_)
 try dsimp only
 refine wpAny_bind (wpAny_setEntries_of gS rfl hfit ?_);refine w_eq (if_neg (by simp)) ?_;refine wpAny_bind ?_;refine wpAny_bind (wpAny_setState_of gS rfl hfit ?_);dsimp only;refine wpAny_bind (wpAny_bind (wpAny_askSetting (wpAny_pure ?_)));refine w_eq (by rw[show(model prog w).w.params.followText "set-order"=false from hb,if_neg Bool.false_ne_true]) ?_;split
 ·rename_i hd
  exact absurd hd Bool.false_ne_true
 refine wpAny_bind (wpAny_of_eq (a:=()) rfl (wpAny_pure ?_));rw[Int.toNat_natCast];generalize hq:place.getD 0 0=q at JP hs
 (clear hb gS hfit hq;subst JP)
 rcases j with _|j
 ·rw[if_pos rfl,uP]
  exact wA gI (hs · rfl)
 ·rw[if_neg (Nat.succ_ne_zero j),ye]
  exact wpAny_bind (wpAny_setField gI rfl (by simp) (hn _ (Nat.succ_ne_zero j) (Heap.SameBut.update ..)))
theorem NB{I S F:Addr}{es:Array (Int×Value)}{ep j:Nat}{t:SetTable}{ps:List Nat}{Q:Fin->Shared->Prop}(gS:s.heap.get? S=some (Nv es ep t))(tb:eS w.params es.size t)(gI:s.heap.get? I=some (EB (.ref F) j S es.size ep))(gF:s.heap.get? F=some (to (ps.map fun(i:Nat)=>rawInt i).toArray 0))
  (hall:∀i,ps[j]?=some i->∃x,es[i]?=some x)
  (hs:∀i x h',ps[j]?=some i->es[i]?=some x->Heap.SameBut I s.heap h'->h'.get? I=some (EB (.ref F) (j+1) S es.size ep)->Q (.done (.ret x.2)) {s with heap:=h'})
  (hn:∀h1,ps[j]?=none->Heap.SameBut I s.heap h1->wpAny (model prog w) A (newExc (.type "StopIteration") [] >>=raiseNew) Q E {s with heap:=h1}):
  wpAny (model prog w) A (Builtin.«set_iterator.__next__» ⟨[.ref I],[]⟩) Q E s:=by
 refine wpAny_bind (wpAny_of_eq (a:=(Value.ref I,[])) rfl ?_)
 try dsimp only
 refine wpAny_bind (wpAny_fieldsOf gI rfl ?_)
 try dsimp only
 refine wpAny_bind (wpAny_setEntries_of gS rfl tb.fits ?_);refine w_eq (if_neg (show ¬(((es.size:Int)!=es.size)=true) by simp)) ?_;refine wpAny_bind (wpAny_seqItems gF rfl ?_);dsimp only;refine w_eq (by rw[Int.toNat_natCast,List.getElem?_toArray,List.getElem?_map]) ?_;cases q:ps[j]? with
 |none=>refine wpAny_bind (wpAny_setField gI rfl (by simp) ?_);have g1:=Heap.get?_update_self (Obj.mapFields fun vs=>vs.setIfInBounds 0 (rawInt 0)) gI rfl;exact wpAny_bind (wpAny_setField g1 rfl (by simp[Obj.mapFields]) (hn _ q ((Heap.SameBut.update ..).trans (Heap.SameBut.update ..))))
 |some i=>refine bK (hall i q) fun x hx=>?_;refine wpAny_bind ?_;rw[Int.toNat_natCast,Int.toNat_natCast];unfold setNextDrawn;refine wpAny_bind (wpAny_setState_of gS rfl tb.fits ?_);dsimp only;rw[if_neg (by simp),hx];refine wpAny_pure ?_;refine wpAny_bind (wpAny_setField gI rfl (by simp) ?_);exact wpAny_pure (hs i x _ q hx (Heap.SameBut.update ..) (Heap.get?_update_self (Obj.mapFields fun vs=>vs.setIfInBounds 1 (rawInt ((j:Int)+1))) gI rfl))
theorem ED{I:Addr}{Q:Option Value->Shared->Prop}(hT:s.TypeIs (.ref I) "set_iterator")(h:∀(Q':Fin->Shared->Prop) (E':Value->Shared->Prop),(∀v s',Q (some v) s'->Q' (.done (.ret v)) s')->(∀a o s',s'.heap.get? a=some o->o.cls= .type "StopIteration"->Q none s'->E' (.ref a) s')->
  wpAny (model prog w) A.in1 (Builtin.«set_iterator.__next__» ⟨[.ref I],[]⟩) Q' E' s):wpAny (model prog w) A (pyNext (.ref I)) Q E s:=
 wpAny_bind (wpAny_attempt (wpAny_callSpecial?_slot (name:=Str.ofString "__next__") hT e7
  (wpAny_call_entry e7 hT oA (h _ _ (fun v s' q=>⟨v,rfl,wpAny_pure q⟩) fun a o s' g c q=>wpAny_bind (wpAny_isInstance (T:="StopIteration") (b:=true) ⟨o,g,c⟩ isSubtype_stop (wpAny_pure q))) (qC _))))
theorem Be{I S F:Addr}{l:List Value}{j:Nat}{Q:Option Value->Shared->Prop}(hIS:I≠S)(EE:I≠F)(st:ku w I S F l j s)
  (hs:∀v h',l[j]?=some v->ku w I S F l (j+1) {s with heap:=h'}->Heap.SameBut I s.heap h'->Q (some v) {s with heap:=h'})
  (hh:l[j]?=none->A.handled=none)(hn:l[j]?=none->∀h',Heap.ExtBut I s.heap h'->Q none {s with heap:=h'}):wpAny (model prog w) A (pyNext (.ref I)) Q E s:=by
 obtain⟨es,ep,t,first,gS,tb,hpl,hsz,gI,mode⟩:=st;refine ED ⟨_,gI,rfl⟩ fun Q' E' hQ hE=>?_;have kS:∀{h':Heap},Heap.SameBut I s.heap h'->h'.get? S=some (Nv es ep t):=fun k=>(k.2 S (Ne.symm hIS)).trans gS;have stop:=fun(h1:Heap) (q:l[j]?=none) (k:Heap.SameBut I s.heap h1)=>EC (prog:=prog) (w:=w) (A:=A.in1) (E:=E') (Q:=Q') (hh q) k fun h' a o x g c=>hE a o _ g c (hn q h' x);clear hE hn hh;rcases mode with⟨hb,slot,hz,hl⟩|⟨hb,h,v,z1,z2,z3⟩|⟨hb,ps,hz,gF,hl⟩
 ·have e:l[j]?=(pickOrder (w.params.setOrder S ep) es)[j]?.map (·.2):=by rw[hl,List.getElem?_map,Array.getElem?_toList]
  exact Nx gS tb (hz▸gI) hb (fun x h' q k g=>hQ _ _ (hs x.2 h' (by rw[e,q];rfl) ⟨es,ep,t,_,kS k,tb,hpl,hsz,g,.draw hb slot rfl hl⟩ k)) fun h1 q k=>stop h1 (by rw[e,q];rfl) k
 ·clear EE
  (clear hIS;subst z1 z2 z3)
  exact Ny gS tb hpl gI hb (fun h' q k g=>hQ _ _ (hs v h' (by rw[q];rfl) ⟨_,ep,t,_,kS k,tb,hpl,rfl,g,.one hb h v rfl rfl (by subst q;rfl)⟩ k)) fun h1 q k=>stop h1 (by cases j with|zero=>exact absurd rfl q|succ j=>rfl) k
 ·have e:(l.map some)[j]?=(ps.map fun i=>es[i]?.map (·.2))[j]?:=by rw[hl]
  rw[List.getElem?_map,List.getElem?_map]at e;have e1:∀i,ps[j]?=some i->∃v,l[j]?=some v/\es[i]?.map (·.2)=some v:=fun i q=>by
   clear stop hs hQ kS gS gI;rw[q]at e;cases z:l[j]? with
   |none=>rw[z]at e;exact xa e
   |some y=>rw[z]at e;exact⟨y,rfl,(Option.some.inj e).symm⟩
  have e2:ps[j]?=none->l[j]?=none:=fun q=>by
   clear stop hs hQ kS gS gI;rw[q]at e;cases z:l[j]? with
   |none=>rfl
   |some y=>rw[z]at e;exact xb e
  clear e;refine NB gS tb (hz▸gI) gF (fun i q=>av (e1 i q) fun v u' h=>(Option.map_eq_some_iff.mp h).imp fun x y=>y.1) (fun i x h' q hx k g=>av (e1 i q) fun v hv h=>?_) fun h1 q k=>stop h1 (e2 q) k;exact hQ _ _ (hs x.2 h' (hv.trans (h.symm.trans (by rw[hx];rfl))) ⟨es,ep,t,_,kS k,tb,hpl,hsz,g,.few hb ps rfl ((k.2 F (Ne.symm EE)).trans gF) hl⟩ k)
end
end Mine.Internal
end
noncomputable section
open PySem PySem.W PyProof.Rows
namespace Mine.Internal
section
variable{prog:Program}{w:World}{A:Around}{E:Value->Shared->Prop}{s:Shared}
theorem EF{M:Model}{Q:List Nat->Shared->Prop}(h:∀d,Q [0,1] {s with drawn:=d})(h':∀d,Q [1,0] {s with drawn:=d}):wpAny M A (drawOrder 2 [0,1]) Q E s:=by
 refine wpAny_bind (ki (by decide) fun d i hi=>?_);have tail:∀(x:Nat) {Q:List Nat->Shared->Prop} {s:Shared},(∀d,Q [x] {s with drawn:=d})->wpAny M A (drawOrder 1 [x]) Q E s:=fun x Q s h=>by
  refine wpAny_bind (ki (Nat.succ_ne_zero 0) fun d i hi=>?_);obtain rfl:i=0:=by simp at hi;exact hi
  exact wpAny_bind (wpAny_pure (wpAny_pure (h d)))
 match i,hi with
 |0,_=>exact wpAny_bind (tail 1 fun d=>wpAny_pure (h d))
 |1,_=>exact wpAny_bind (tail 0 fun d=>wpAny_pure (h' d))
 |i+2,hi=>exact absurd hi (by simp)
theorem nU{α:Type}(f:Nat->Nat)(xs:Array α):(pickOrder f xs).toList.Perm xs.toList:=by
 have go:∀(n k:Nat) (l:List α) (out:Array α),l.length=n->(pickOrder.go f n k l out).toList.Perm (out.toList++l):=fun n=>by
  induction n with
  |zero=>intro k l out h;rw[List.length_eq_zero_iff.mp h,List.append_nil];exact .refl _
  |succ n ih=>
   intro k l out h;unfold pickOrder.go;have hk:f k % l.length<l.length:=Nat.mod_lt _ (by omega);rw[List.getElem?_eq_getElem hk];refine(ih _ _ _ (by rw[List.length_eraseIdx_of_lt hk];omega)).trans ?_;rw[Array.toList_push,List.append_assoc];refine List.Perm.append_left _ ?_;have e:l=l.take (f k % l.length)++l[f k % l.length]::l.drop (f k % l.length+1):=by rw[List.getElem_cons_drop,List.take_append_drop]
   simp only[List.eraseIdx_eq_take_drop_succ];exact(List.perm_middle (l₁:=l.take (f k % l.length))).symm.trans (.of_eq e.symm)
 exact go xs.size 0 xs.toList #[] (Array.length_toList)
theorem EG{S:Addr}{es:Array (Int×Value)}{ep:Nat}{t:SetTable}{Q:Value->Shared->Prop}(gS:s.heap.get? S=some {cls:=.type "set",data:=.set es ep t})(tb:eS w.params es.size t)(hpl:t.plain=false)(h1:1<=es.size)(h2:es.size<=2)
  (hQ:∀h' d I F l,l.Perm (es.toList.map (·.2))->(∀b o,s.heap.get? b=some o->h'.get? b=some o)->s.heap.get? I=none->I≠F->(s.heap.get? F=none)->ku w I S F l 0 {s with heap:=h',drawn:=d}->Q (.ref I) {s with heap:=h',drawn:=d}):
  wpAny (model prog w) A (pyIter (.ref S)) Q E s:=by
 have hT:s.TypeIs (.ref S) "set":=⟨_,gS,rfl⟩;have hn:s.heap.get? s.heap.objs.size=none:=Heap.get?_none_of_le (Nat.le_refl _);have hn1:s.heap.get? (s.heap.objs.size+1)=none:=Heap.get?_none_of_le (Nat.le_succ _);refine wpAny_pyIter_slot hT F.slot_set_iter (wpAny_call_entry F.slot_set_iter hT nT ?_ (F.args_set_iter_1 _));refine wq fun Q1 E1 Gm _=>?_;refine wpAny_bind (wpAny_of_eq (a:=S) (by first|rfl|kernel_rfl) ?_);refine wpAny_bind (wpAny_bind (wpAny_setEntries_of gS rfl tb.fits (wpAny_pure ?_)));refine wpAny_bind (wpAny_bind (wpAny_setState_of gS rfl tb.fits ?_));refine wpAny_bind (wpAny_bind (wpAny_askSetting (wpAny_pure (wpAny_pure ?_))));rw[show(model prog w).w.params=w.params from rfl];have fin:∀(first :Value) (h':Heap) (d:Drawn) (F:Addr) (l:List Value),(∀b o,s.heap.get? b=some o->h'.get? b=some o)->s.heap.objs.size<=h'.objs.size->h'.objs.size≠F->s.heap.get? F=none->l.Perm (es.toList.map (·.2))->
   sS w S F l 0 es ep t h' first ->
   wpAny (model prog w) A.in1 (do
     let e <-setEpoch S
     let r <-newFields "set_iterator" [first,rawInt 0,Value.ref S,rawInt es.size,rawInt e]
     ret r) Q1 E1 {s with heap:=h',drawn:=d}:=fun first h' d F l k hz hF fF hp mode=>by
  refine wpAny_bind (wpAny_bind (wpAny_setState_of (k _ _ gS) rfl tb.fits (wpAny_pure ?_)));dsimp only;refine wpAny_bind (wpAny_newObj_type (wpAny_pure (Gm _ _ ⟨_,rfl,"set_iterator",_,⟨_,Heap.get?_push_size _ rfl,rfl⟩,e7.lookup,?_⟩)));refine hQ _ d h'.objs.size F l hp (fun b o e=>Heap.get?_push_of_some _ (k b o e)) (Heap.get?_none_of_le hz) hF fF ⟨es,ep,t,first,Heap.get?_push_of_some _ (k _ _ gS),tb,hpl,by rw[hp.length_eq,List.length_map,Array.length_toList],Heap.get?_push_size _ rfl,mode.mono fun _ e=>Heap.get?_push_of_some _ e⟩
 cases hb:w.params.followText "set-order" with
 |true=>rw[if_neg (by simp)];refine wpAny_bind (wpAny_pure ?_);exact fin _ s.heap s.drawn (s.heap.objs.size+1) _ (fun _ _ e=>e) (Nat.le_refl _) (Nat.ne_of_lt (Nat.lt_succ_self _)) hn1 ((nU _ es).map _) (.draw hb 0 rfl rfl)
 |false=>
  obtain⟨mask,place,dummies,finger,led,moves,plain⟩:=t;dsimp only at hpl
  (clear hQ hT Gm gS tb;subst hpl)
  rcases es with⟨_|⟨e1,_|⟨e2,_|⟨e3,r⟩⟩⟩⟩
  ·simp at h1
  ·split
   ·rename_i hd
    exact absurd hd Bool.false_ne_true
   refine wpAny_bind (wpAny_pure ?_);exact fin _ s.heap s.drawn (s.heap.objs.size+1) [e1.2] (fun _ _ e=>e) (Nat.le_refl _) (Nat.ne_of_lt (Nat.lt_succ_self _)) hn1 (.refl _) (.one hb e1.1 e1.2 rfl rfl rfl)
  ·split
   ·have tup:∀(ps:List Nat) (d:Drawn) (l:List Value),ps.length=2->l.Perm [e1.2,e2.2]->(l.map some=ps.map fun i=>(#[e1,e2]:Array (Int×Value))[i]?.map (·.2))->
     wpAny (model prog w) A.in1 (do
      let first<-newTuple (ps.map fun(i:Nat)=>rawInt i)
      let e <-setEpoch S
      let r <-newFields "set_iterator" [first,rawInt 0,Value.ref S,rawInt (#[e1,e2]:Array (Int×Value)).size,rawInt e]
      ret r) Q1 E1 {s with drawn:=d}:=fun ps d l hl hp he=>
     wpAny_bind (wpAny_newTuple (fin (.ref s.heap.objs.size) (s.heap.push (to (ps.map fun(i:Nat)=>rawInt i).toArray 0)) d s.heap.objs.size l (fun b o e=>Heap.get?_push_of_some _ e) (by rw[Heap.size_push];exact Nat.le_succ _) (by rw[Heap.size_push];exact Nat.ne_of_gt (Nat.lt_succ_self _)) hn hp (.few hb ps rfl (Heap.get?_push_size _ rfl) he)) (by rw[List.length_map,hl,sizeLine_eq];decide))
    refine wpAny_bind (EF (fun d=>?_) fun d=>?_)
    ·exact tup [0,1] d _ rfl (.refl _) rfl
    ·exact tup [1,0] d _ rfl (.swap _ _ _) rfl
   ·rename_i hd
    exact absurd (show(!false&& !false&&decide (2>1))=true from rfl) hd
  ·simp at h2
end
end Mine.Internal
end
noncomputable section
open PySem PySem.W PyProof.Rows
namespace Mine.Internal
section
variable{prog:Program}{w:World}{A:Around}{E:Value->Shared->Prop}{s:Shared}
theorem Bg{S:Addr}{Q:Bool->Shared->Prop}(hT:s.TypeIs (.ref S) "set")(h:Q false s):wpAny (model prog w) A (Builtin.List.listLengthHint (.ref S)) Q E s:=by
 unfold Builtin.List.listLengthHint;refine wpAny_bind (wpAny_specialOf hT F.slot_set_len.lookup ?_);generalize hid:("set.__len__":String)=U8
 wp_delta
 rw[show splitId U8=some ("set","__len__")from by subst hid;decide+kernel];subst hid;refine wpAny_bind (wpAny_isInstance (T:="set") (b:=true) hT (by rw[isSubtype_type];kernel_rfl) ?_);refine wpAny_ite_split (fun hab=>absurd hab (by decide)) (fun _=>?_);refine wpAny_ite_split (fun _=>?_) (fun hab=>absurd (by decide+kernel) hab);refine wpAny_bind (wpAny_typeOf hT ?_);exact wpAny_pure h
theorem ku.frame{I S F:Addr}{l:List Value}{j:Nat}{s':Shared}(st:ku w I S F l j s)(k:∀b,b=I\/b=S\/b=F->∀o,s.heap.get? b=some o->s'.heap.get? b=some o):ku w I S F l j s':=by obtain⟨es,ep,t,first,gS,tb,hpl,hsz,gI,mode⟩:=st;exact⟨es,ep,t,first,k _ (.inr (.inl rfl)) _ gS,tb,hpl,hsz,k _ (.inl rfl) _ gI,mode.mono fun u' e=>k _ (.inr (.inr rfl)) _ e⟩
theorem ku.walk(hh:A.handled=none){I S F:Addr}(hIS:I≠S)(EE:I≠F)(l:List Value):WalksS prog w A I [I,S,F] [I] (fun a b=>b=a) l.length (fun i v=>l[i]?=some v) (fun j s=>ku w I S F l j s) where
 sub:=fun b hb=>by rw[List.mem_singleton]at hb;subst hb;simp
 grefl:=fun _=>rfl
 gtrans:=fun u' u' u' h1 h2=>h2.trans h1
 frame:=fun i s h' tk' st ht k=>st.frame fun b hb o e=>k b (by(clear ht k;rcases hb with rfl|rfl|rfl) <;> simp) o e
 item:=fun i s Q E hi st hQ=>Be hIS EE st (fun v h' hv st' hs=>hQ _ _ hv st' ⟨fun b o hb e=>(hs.2 b (by simpa using hb)).trans e,rfl,rfl,rfl,Nat.le_refl _⟩) (fun q=>absurd hi (Nat.not_lt.mpr (List.getElem?_eq_none_iff.mp q))) fun q=>absurd hi (Nat.not_lt.mpr (List.getElem?_eq_none_iff.mp q))
 done:=fun s Q E st hQ=>Be hIS EE st (fun v h' hv u' _=>absurd (List.getElem?_eq_some_iff.mp hv).1 (Nat.lt_irrefl _)) (fun _=>hh) fun u' h' hx=>hQ _ ⟨fun b o hb e=>hx b o (by simpa using hb) e,rfl,rfl,rfl,Nat.le_refl _⟩
 self:=fun i s Q E st hQ=>by obtain⟨es,ep,t,first,gS,tb,hpl,hsz,gI,mode⟩:=st;have hT:s.TypeIs (.ref I) "set_iterator":=⟨_,gI,rfl⟩;refine wpAny_pyIter_slot hT kg (wpAny_call_entry kg hT oB ?_ (qD _));exact wpAny_pure ⟨_,rfl,"set_iterator",_,hT,e7.lookup,hQ⟩
theorem sU(hh:A.handled=none){S:Addr}{es:Array (Int×Value)}{ep:Nat}{t:SetTable}{Q:List Value->Shared->Prop}(gS:s.heap.get? S=some {cls:=.type "set",data:=.set es ep t})(tb:eS w.params es.size t)(hpl:t.plain=false)(h1:1<=es.size)(h2:es.size<=2)
  (hQ:∀l h' d tk',s.toks<=tk'->(∀b o,s.heap.get? b=some o->h'.get? b=some o)->l.Perm (es.toList.map (·.2))->Q l {s with heap:=h',drawn:=d,toks:=tk'}):wpAny (model prog w) A (collect (.ref S)) Q E s:=by
 have Pe:S<s.heap.objs.size:=Heap.lt_size gS;refine wpAny_bind (wpAny_runValue (codeAny_builtin F.entry_proto_collect ?_));rw[Around.under_plainId F.plain_proto_collect _];show wpAny _ A.in1 (newList [] >>=fun l=>again (.builtin "list.__iadd__" ⟨[l,.ref S],[]⟩)) _ _ s;refine wpAny_bind (wpAny_newObj_type ?_);refine wpAny_pure ⟨plainId_quiet F.plain_list_iadd _,codeAny_builtin F.entry_list_iadd ?_⟩;rw[Around.under_plainId F.plain_list_iadd _];show wpAny _ A.in1 (Builtin.List.listExtendWith (.ref s.heap.objs.size) (.ref S) (.ref s.heap.objs.size)) _ _ _;have K7:(s.heap.push {cls:=.type "list",data:=.seq ([]:List Value).toArray}).get? S=some {cls:=.type "set",data:=.set es ep t}:=Heap.get?_push_of_some _ gS;have hT1:({s with heap:=s.heap.push {cls:=.type "list",data:=.seq ([]:List Value).toArray}}:Shared).TypeIs (.ref S) "set":=⟨_,K7,rfl⟩;refine wpAny_bind (wpAny_typeOf hT1 ?_);have xP:Builtin.List.listSameRef (.ref s.heap.objs.size) (.ref S)=false:=by simp[Builtin.List.listSameRef];exact Nat.ne_of_gt Pe
 have h2':(Value.type "set"==Value.type "list")=false:=by decide
 have h3':(Value.type "set"==Value.type "tuple")=false:=by decide
 rw[xP,h2',h3'];refine w_eq (if_neg Bool.false_ne_true) ?_;refine wpAny_bind (EG K7 tb hpl h1 h2 fun H2 d I Fx l hp k2 nI EE nF Gp=>?_);refine wpAny_bind (wpAny_holding (Bg ⟨_,k2 _ _ K7,rfl⟩ ?_));have hL:(s.heap.push {cls:=.type "list",data:=.seq ([]:List Value).toArray}).get? s.heap.objs.size=some {cls:=.type "list",dict:=none,data:=.seq #[] 0,slots:=#[]}:=Heap.get?_push_size _ rfl;have ne:∀{b c:Addr} {o:Obj},(s.heap.push {cls:=.type "list",data:=.seq ([]:List Value).toArray}).get? b=some o->(s.heap.push {cls:=.type "list",data:=.seq ([]:List Value).toArray}).get? c=none->b≠c:=fun e e' q=>by rw[q,e']at e;exact xa e
 have hIS:I≠S:=(ne K7 nI).symm;have hLI:=ne hL nI;have RJ:=ne hL nF;have RK:s.heap.objs.size≠S:=Nat.ne_of_gt Pe;have W:=ku.walk (prog:=prog) (w:=w) (A:=A.in1) hh hIS EE l;have hLf:s.heap.objs.size∉[I,S,Fx]:=by simp only[List.mem_cons,List.not_mem_nil,or_false,not_or];exact⟨hLI,RK,RJ⟩
 have U9:∀b o,s.heap.get? b=some o->H2.get? b=some o:=fun b o e=>k2 b o (Heap.get?_push_of_some _ e);have RL:=k2 _ _ hL;have Va:s.heap.get? I=none:=by
  cases z:s.heap.get? I with
  |none=>rfl
  |some o=>exact xb ((Heap.get?_push_of_some _ z).symm.trans nI)
 have l2:l.length<=2:=by rw[hp.length_eq,List.length_map,Array.length_toList];exact h2
 clear hL ne nI nF k2
 -- iZ loop,from any heap Vb this one
 have key:∀(H3:Heap) (c:Nat),(∀b o,b≠s.heap.objs.size->H2.get? b=some o->H3.get? b=some o)->H3.get? s.heap.objs.size=some {cls:=.type "list",dict:=none,data:=.seq #[] c,slots:=#[]}->
   codeAny (model prog w) A (.builtin "list.extend.loop" ⟨[.ref s.heap.objs.size,.ref I,.ref s.heap.objs.size],[]⟩)
    (fun r s'=>match r with| .ok (.ret v)=>wpAny (model prog w) A (match v with| .ref a=>(do match(<-load a).data with| .seq xs _=>pure xs.toList|_=>unsupported "internal:collect")|_=>unsupported "internal:collect") Q E s'| .ok _=>False| .error e=>E e s') {s with heap:=H3,drawn:=d}:=fun H3 c k3 g3=>by
  refine codeAny_extend_loopS W (Nat.le_trans l2 (by rw[sizeLine_eq];decide)) s.heap.objs.size hLf (.ref s.heap.objs.size) l.length 0 _ #[] c rfl (Nat.zero_le _) (Gp.frame fun b hb o e=>k3 b o (by(clear hh gS tb hpl h2 Pe K7 hT1 xP h2' h3' EE Gp hIS W hLf l2;rcases hb with rfl|rfl|rfl);exact hLI.symm;exact RK.symm;exact RJ.symm) e) g3 (ItemsOf.nil _) fun s' acc c' hm g' hacc=>?_;refine wpAny_bind (wpAny_load g' (wpAny_pure ?_));have hac:acc.toList=l:=by
   apply List.ext_getElem
   ·simp only[Array.length_toList];exact hacc.1
   ·intro i hi1 hi2
    have h0:i<acc.size:=by rw[Array.length_toList]at hi1;exact hi1
    have h1:l[i]?=some acc[i]:=hacc.2 i _ (Array.getElem?_eq_getElem h0);rw[List.getElem?_eq_getElem hi2]at h1;simp only[Array.getElem_toList];exact(Option.some.inj h1).symm
  rw[hac];obtain⟨m1,m2,m3,m4,m5⟩:=hm;have :s'={s with heap:=s'.heap,drawn:=d,toks:=s'.toks}:=by rcases s' with⟨⟩;simp only at m2 m3 m4;(clear hh gS tb hpl h1 h2 Pe K7 hT1 xP h2' h3' EE Gp hIS hLI RJ RK W hLf l2 hacc hac g';subst m2 m3 m4);rfl
  rw[this];refine hQ _ _ _ _ m5 (fun b o e=>m1 b o ?_ (k3 b o (Nat.ne_of_lt (Heap.lt_size e)) (U9 b o e))) hp;simp only[List.mem_cons,List.not_mem_nil,or_false,not_or];exact⟨Nat.ne_of_lt (Heap.lt_size e),fun q=>by rw[q,Va]at e;exact xa e⟩
 refine wpAny_ite_split (fun _=>?_) (fun _=>wpAny_pure ⟨plainId_quiet F.plain_extend_loop _,?_⟩)
 ·refine wpAny_bind (wpAny_rule (wpAny_bind ?_))
  refine wpAny_bind (wpAny_updateSeq RL rfl ?_);have g2:=Heap.get?_update_self (Obj.mapSeq (·.push Value.none)) RL rfl;refine wpAny_updateSeq g2 rfl (wpAny_pure ⟨plainId_quiet F.plain_extend_loop _,?_⟩);have g3:=Heap.get?_update_self (Obj.mapSeq (·.pop)) g2 rfl;exact key _ _ (fun b o hb e=>(Heap.get?_update_other _ _ (Ne.symm hb)).trans ((Heap.get?_update_other _ _ (Ne.symm hb)).trans e)) g3
 ·exact key _ _ (fun b o u' e=>e) RL
end
end Mine.Internal
end
noncomputable section
open PySem PySem.W PyProof.Rows
namespace Mine.Internal
section
variable{prog:Program}{w:World}{A:Around}{E:Value->Shared->Prop}{s:Shared}
theorem lt_str{x y:Str}{t u:Tok}{Q:Value->Shared->Prop}(h:Q (.bool (decide (x.cps.toList<y.cps.toList))) s):wpAny (model prog w) A (richCompare .Lt (.str x t) (.str y u)) Q E s:=
 wpAny_richCompare_same (typeIs_str s x t) (typeIs_str s y u) F.slot_str_lt (wpAny_mono (call_str_lt (Q:=fun v s'=>v= .bool (decide (x.cps.toList<y.cps.toList))/\s'=s) ⟨rfl,rfl⟩) (fun v s' hv=>⟨fun q=>(xi Value.ctorIdx (hv.1.symm.trans q) rfl),by rw[hv.1,hv.2];exact h⟩) fun u' u' e=>e)
theorem Bh(hu:A.units<cLine){a b:Addr}{x y:Str}{t u:Tok}{n m:Nat}{Q:Bool->Shared->Prop}(ga:s.heap.get? a=some (lo #[.str x t] n))(gb:s.heap.get? b=some (lo #[.str y u] m))(h:Q (decide (x.cps.toList<y.cps.toList)) s):
  wpAny (model prog w) A (keyLt' oneType' (.ref a) (.ref b)) Q E s:=by
 simp only[keyLt'_oneType,oneLt'_eq];rw[if_true];refine wpAny_bind (wpAny_cRoomFor hu ?_);refine wpAny_bind (wpAny_callSpecialIfBound?_slot (id:="list.__lt__") ⟨_,ga,rfl⟩ F.slot_list_lt (wpAny_call (codeAny_call_builtin F.slot_list_lt.plain F.entry_list_lt (F.slot_list_lt.check _ _ _ _ _ _ _ _ ⟨_,ga,rfl⟩ (F.args_list_lt_2 _ _) ?_))));have fin:∀{A:Around} {E:Value->Shared->Prop} {r:Bool},r=decide (x.cps.toList<y.cps.toList)->wpAny (model prog w) A (truthOfDropped (.bool r)) Q E s:=fun q=>wpAny_truthy_bool (q▸h);have f3:=AutoSeq1.sub_list_list
 wp_walk using AutoSeq1.wpAny_loadPart' ga,AutoSeq1.wpAny_loadPart' gb
 refine⟨plainId_quiet MeetsSeq3.plain_eq_loop _,codeAny_builtin MeetsSeq3.entry_eq_loop ?_⟩;rw[Around.under_plainId MeetsSeq3.plain_eq_loop _]
 wp_walk using AutoSeq1.wpAny_loadPart' ga,AutoSeq1.wpAny_loadPart' gb
 refine(wpAny_eqBool_str (a:=x) (b:=y) (t:=t) (u:=u) ?_:wpAny (model prog w) A.in1 (eqBool (.str x t) (.str y u)) _ _ s);by_cases q:x=y
 ·rw[decide_eq_true q]
  wp_walk
  refine⟨plainId_quiet MeetsSeq3.plain_eq_loop _,codeAny_builtin MeetsSeq3.entry_eq_loop ?_⟩;rw[Around.under_plainId MeetsSeq3.plain_eq_loop _]
  wp_walk using AutoSeq1.wpAny_loadPart' ga,AutoSeq1.wpAny_loadPart' gb
  have e:decide (x.cps.toList<y.cps.toList)=false:=by rw[q];exact decide_eq_false (List.lt_irrefl _)
  rw[e]at h;exact h
 ·rw[decide_eq_false q]
  rw[if_neg Bool.false_ne_true];refine wpAny_bind (listItems_at ga rfl (wpAny_bind (listItems_at gb rfl ?_)));refine wpAny_bind (lt_str (wpAny_pure ?_));exact fin rfl
noncomputable def vals (xs:List (Str×Tok)):List Value:=xs.map fun p=>.str p.1 p.2
noncomputable abbrev Vc (xs:List (Str×Tok)) (i:Nat):Str×Tok:=xs.getD i (⟨#[]⟩,0)
noncomputable def lC (kS:Addr) (h:Heap) (p:Str×Tok) (k:Value):Prop:=∃r,k= .ref r/\r≠kS/\h.get? r=some (lo #[.str p.1 p.2] 0)
theorem lC.mono{kS:Addr}{h h':Heap}(k:∀b o,b≠kS->h.get? b=some o->h'.get? b=some o):∀{l:List (Str×Tok)} {m:List Value},cQ (lC kS h) l m->cQ (lC kS h') l m
 |[],_,x=>x
 |_::_,_,x=>x.imp fun u' x=>x.imp fun u' x=>x.imp id fun x=>x.imp (fun bE=>bN bE fun r e n g=>⟨r,e,n,k r _ n g⟩) (lC.mono k)
theorem lC.at{kS:Addr}{h:Heap}:∀{l:List (Str×Tok)} {m:List Value},cQ (lC kS h) l m->∀i,i<l.length->lC kS h (Vc l i) (m.getD i Value.none)
 |[],_,_,i,hi=>absurd hi (Nat.not_lt_zero _)
 |_::_,_,x,i,hi=>by
  refine aI (x) fun b r RM x1 x2=>?_;(clear x;subst RM);rcases i with _|i
  ·exact x1
  ·exact lC.at x2 i (Nat.lt_of_succ_lt_succ hi)
noncomputable abbrev Gq (prog:Program) (w:World) (A:Around) (f:Value) (a:Addr) (s:Shared) (x:Str×Tok):Prop:=∀h tk,s.toks<=tk->(∀b o,b≠a->s.heap.get? b=some o->h.get? b=some o)->wpAny (model prog w) A (call f [.str x.1 x.2]) (fun k s'=>∃h' tk' r,k= .ref r/\s'={s with heap:=h',toks:=tk'}/\tk<=tk'/\(∀b o,h.get? b=some o->h'.get? b=some o)/\h.get? r=none/\h'.get? r=some (lo #[.str x.1 x.2] 0)) (fun u' _=>False) {s with heap:=h,toks:=tk}
theorem yf{a kS:Addr}{f:Value}{e1:Nat}{xs:List (Str×Tok)}{P:PySem.Fin->Shared->Prop}{s0:Shared}(h64:xs.length<64)(ha:s.heap.get? a=some (lo #[] e1))(hk:s.heap.get? kS=some (lo #[] 0))(hka:kS≠a)(h0:s0={s with heap:=s0.heap})(ho:∀b o,b≠a->s0.heap.get? b=some o->s.heap.get? b=some o)(hn:s0.heap.get? kS=none)
  (turn:∀x∈xs,Gq prog w A f a s0 x)
  (h:∀h' tk ks c,s.toks<=tk->(∀b o,b≠kS->s.heap.get? b=some o->h'.get? b=some o)->h'.get? kS=some (lo ks c)->cQ (lC kS h') xs ks.toList->wpAny (model prog w) A (ksk_end a false (vals xs).toArray e1 (.ref kS) ks) P E {s with heap:=h',toks:=tk}):
  wpAny (model prog w) A (ksk_rest a f false (vals xs).toArray e1 (.ref kS)) P E s:=by
 unfold ksk_rest;refine wpAny_bind (wpAny_rule ?_);rw[<-Array.forIn_toList];refine wpAny_bind (ksk_fold (fun i s'=>∃h' tk ks c,s'={s with heap:=h',toks:=tk}/\s.toks<=tk/\(∀b o,b≠kS->s.heap.get? b=some o->h'.get? b=some o)/\h'.get? kS=some (lo ks c)/\cQ (lC kS h') (xs.take i) ks.toList) (vals xs) 0 s
  ⟨s.heap,s.toks,#[],0,rfl,Nat.le_refl _,fun u' u' u' e=>e,hk,rfl⟩ ?step ?done)
 case step=>
  rintro j x s' hx ⟨h',tk,ks,c,rfl,htk,kp,hks,hR⟩;rw[Nat.zero_add]at hR⊢;unfold vals at hx;rw[List.getElem?_map]at hx;refine av (Option.map_eq_some_iff.mp hx) fun p hp RN=>?_;subst RN;have hj:j<xs.length:=(List.getElem?_eq_some_iff.mp hp).1;have hlen:min j xs.length=ks.size:=by have q:=hR.len;rw[List.length_take]at q;exact q
  have tn:=turn p (List.mem_of_getElem? hp) h' tk (h0▸htk) fun b o hb e=>kp b o (fun q=>by rw[q,hn]at e;exact xa e) (ho b o hb e);rw[h0]at tn;refine wpAny_bind (wpAny_attempt (wpAny_mono tn (fun k s'' he=>?_) fun u' u' hF=>hF.elim));refine bP (he) fun h2 Pf r RO RP K1 k2 nr gr=>?_;subst RO;subst RP;dsimp only;have Th:=k2 _ _ hks;have hr:r≠kS:=fun q=>by rw[q,hks]at nr;exact xb nr
  have sb:=Heap.SameBut.update h2 kS (Obj.mapSeq (·.push (.ref r)));obtain⟨c2,hc2⟩:∃c2,(h2.update kS (Obj.mapSeq (·.push (.ref r)))).get? kS=some (lo (ks.push (.ref r)) c2):=⟨_,get?_update_seq Th (·.push (.ref r))⟩;refine wpAny_bind (listUpdate_at Th rfl ?_ (by rw[sizeLine_eq];omega) (Nat.le_trans (Nat.le_of_eq (Array.size_push ..)) (by rw[sizeLine_eq];omega)));refine wpAny_pure ⟨rfl,_,Pf,ks.push (.ref r),c2,rfl,Nat.le_trans htk K1,fun b o hb e=>(sb.2 b hb).trans (k2 b o (kp b o hb e)),hc2,?_⟩;simp only[List.take_add_one,hp,Array.toList_push];refine(lC.mono (fun b o hb e=>(sb.2 b hb).trans (k2 b o e)) hR).app ⟨.ref r,[],rfl,⟨r,rfl,hr,(sb.2 r hr).trans gr⟩,rfl⟩
 case done=>
  rintro s' ⟨h',tk,ks,c,rfl,htk,kp,hks,hR⟩;rw[List.take_of_length_le (by unfold vals;rw[List.length_map];omega)]at hR;refine wpAny_bind (listItems_at hks rfl ?_);exact h h' tk ks c htk kp hks hR
end
end Mine.Internal
end
noncomputable section
open PySem PySem.W PyProof.Rows
set_option backward.match.sparseCases false
namespace Mine.Internal
section
variable{prog:Program}{w:World}{A:Around}{E:Value->Shared->Prop}{s:Shared}
noncomputable def eu(xs:List (Str×Tok)):List (Str×Tok):=match xs with
 |[p,q]=>if vj q.1 p.1=true then[q,p]else[p,q]
 |l=>l
theorem pC{a kS:Addr}{e1 c:Nat}{ks:Array Value}{st:SortSt}{out:List (Str×Tok)}{P:PySem.Fin->Shared->Prop}(ho:(arrOf st).map (·.2)=(vals out).toArray)(hf:failedOf st=none)(h64:out.length<64)(ha:s.heap.get? a=some (lo #[] e1))(hk:s.heap.get? kS=some (lo ks c))(hks:ks.size<64)(hka:kS≠a)
  (h:∀h' c,(∀b o,b≠a->b≠kS->s.heap.get? b=some o->h'.get? b=some o)->h'.get? a=some (lo (vals out).toArray c)->P (.done (.ret .none)) {s with heap:=h'}):wpAny (model prog w) A (ksk_tail a false e1 (.ref kS) st) P E s:=by
 unfold ksk_tail;rw[hf];have s5:=Heap.SameBut.update s.heap kS (Obj.mapSeq fun _=>(#[]:Array Value));refine wpAny_bind (listUpdate_at hk rfl ?_ (by rw[sizeLine_eq];omega) (Nat.zero_le _));refine wpAny_bind (wpAny_letGo ?_);generalize s.heap.update kS (Obj.mapSeq fun _=>(#[]:Array Value))=H5 at s5;have RQ:H5.get? a=some (seqObj "list" #[] e1):=(s5.2 a hka.symm).trans ha;refine wpAny_bind (seqEpoch_at RQ rfl ?_);rw[if_neg Bool.false_ne_true,ho];have s6:=Heap.SameBut.update H5 a (Obj.mapSeq fun _=>(vals out).toArray);obtain⟨c6,Vd⟩:∃c6,(H5.update a (Obj.mapSeq fun _=>(vals out).toArray)).get? a=some (seqObj "list" (vals out).toArray c6):=⟨_,get?_update_seq RQ fun _=>(vals out).toArray⟩;refine wpAny_bind (listUpdate_at RQ rfl ?_ (Nat.zero_le _) (by show(vals out).length<=_;unfold vals;rw[List.length_map,sizeLine_eq];omega));simp only[bne_self_eq_false,Bool.false_eq_true,if_false];exact wpAny_pure (h _ c6 (fun b o hb hb2 e=>(s6.2 b hb).trans ((s5.2 b hb2).trans e)) Vd)
theorem Bj(hu:A.units<cLine){a kS:Addr}{e1 c:Nat}{xs:List (Str×Tok)}{ks:Array Value}{P:PySem.Fin->Shared->Prop}(h1:1<=xs.length)(h2:xs.length<=2)(ha:s.heap.get? a=some (lo #[] e1))(hk:s.heap.get? kS=some (lo ks c))(hka:kS≠a)(hR:cQ (lC kS s.heap) xs ks.toList)
  (h:∀h' c,(∀b o,b≠a->b≠kS->s.heap.get? b=some o->h'.get? b=some o)->h'.get? a=some (lo (vals (eu xs)).toArray c)->P (.done (.ret .none)) {s with heap:=h'}):wpAny (model prog w) A (ksk_end a false (vals xs).toArray e1 (.ref kS) ks) P E s:=by
 obtain⟨kl⟩:=ks
 replace hR:cQ (lC kS s.heap) xs kl:=hR
 have hlen:=hR.len;have hsz:kl.length<64:=by omega
 refine w_eq (by unfold ksk_end;rfl) ?_;dsimp only;rw[if_neg Bool.false_ne_true];rcases xs with _|⟨p,_|⟨q,_|⟨r,l⟩⟩⟩
 ·simp at h1
 ·rw[if_pos (show(vals [p]).toArray.size<2 from Nat.lt_succ_self 1),if_pos (show(vals [p]).toArray.size<2 from Nat.lt_succ_self 1)]
  refine wpAny_bind (wpAny_pure ?_);simp only[StateT.run_pure];refine wpAny_bind (wpAny_pure ?_);refine aI (hR) fun k1 r NC u' ND=>?_;subst NC;subst ND;exact pC (out:=[p]) (show Array.map (fun x=>x.2) (#[k1].zip (vals [p]).toArray)=_ by simp[vals]) rfl (Nat.lt_of_sub_eq_succ rfl) ha hk (Nat.lt_of_sub_eq_succ rfl) hka h
 ·rw[if_neg (show ¬(vals [p,q]).toArray.size<2 from Nat.lt_irrefl 2),if_neg (show ¬(vals [p,q]).toArray.size<2 from Nat.lt_irrefl 2)]
  refine aI (hR) fun k1 r NF Bk NG=>aI NG fun k2 r' NH Bl NI=>?_;clear NG;subst NF;refine bN (Bk) fun r1 IW n1 g1=>?_;subst IW;subst NH;refine bN (Bl) fun r2 Ak n2 g2=>?_;subst Ak;subst NI;refine wpAny_bind (kas_kind (T:=.type "list") (vs:=[.ref r1,.ref r2]) (Nat.le_refl 2) (fun v hv=>?_) (by decide) (by decide) ?_)
  ·simp only[List.mem_cons,List.not_mem_nil,or_false]at hv
   (clear h1 n1 Bk n2 Bl hsz hR hlen;rcases hv with rfl|rfl)
   ·exact kitAt_ty _ _ ⟨_,g1,rfl⟩
   ·exact kitAt_ty _ _ ⟨_,g2,rfl⟩
  (clear h1 n1 Bk n2 Bl hsz hR hlen;obtain⟨kk,e0,RS,e2⟩:∃k:Bool->KasT (Array Nat),kas_sort 2= .ask 1 0 k/\k false= .ret #[0,1]/\k true= .ret #[1,0]:=⟨_,rfl,rfl,rfl⟩)
  have ask:(kas_sort 2).kasWp (kas_ask prog w A oneType' [.ref r1,.ref r2]) (fun pm s'=>(pm.toList.map fun i=>(vals [p,q]).getD i Value.none)=vals (eu [p,q])/\s'=s) s:=by
   rw[e0];refine Bh (n:=0) (m:=0) hu g2 g1 ?_;show(kk (vj q.1 p.1)).kasWp _ _ s;have es:eu [p,q]=if vj q.1 p.1=true then[q,p]else[p,q]:=rfl
   rw[es];rcases vj q.1 p.1 with _|_
   ·rw[RS];exact⟨rfl,rfl⟩
   ·rw[e2];exact⟨rfl,rfl⟩
  refine wpAny_bind (wpAny_mono (kat_run (Q:=fun st' s'=>(arrOf st').map (·.2)=(vals (eu [p,q])).toArray/\failedOf st'=none/\s'=s) (ks:=[.ref r1,.ref r2]) (vs:=vals [p,q]) rfl (Nat.le_refl 2) (Nat.lt_of_sub_eq_succ rfl) (fun pm st' s' a1 a2 a3 a4=>⟨(kat_snds (ks:=[.ref r1,.ref r2]) (vs:=vals [p,q]) rfl a2).trans (congrArg List.toArray a4.1),a3,a4.2⟩) ask) ?_ fun u' u' e=>e);rintro⟨⟨⟩,st'⟩ s' ⟨ho,hf,rfl⟩;refine pC ho hf ?_ ha hk (Nat.lt_of_sub_eq_succ rfl) hka h;unfold eu;dsimp only;split <;> exact Nat.lt_of_sub_eq_succ rfl
 ·simp at h2
end
end Mine.Internal
end
noncomputable section
open PySem PySem.W PyProof.Rows
namespace Mine.Internal
section
variable{prog:Program}{w:World}{A:Around}{E:Value->Shared->Prop}{s:Shared}
theorem Bm(hu:A.units<cLine){a:Addr}{f:Value}{n:Nat}{xs:List (Str×Tok)}{P:PySem.Fin->Shared->Prop}(h1:1<=xs.length)(h2:xs.length<=2)(ho:s.heap.get? a=some (lo (vals xs).toArray n))(turn:∀x∈xs,Gq prog w A f a s x)
  (h:∀h' tk c,s.toks<=tk->(∀b o,b≠a->s.heap.get? b=some o->h'.get? b=some o)->h'.get? a=some (lo (vals (eu xs)).toArray c)->P (.done (.ret .none)) {s with heap:=h',toks:=tk}):wpAny (model prog w) A (ksk_tree a f false) P E s:=by
 have ha:a<s.heap.objs.size:=Heap.lt_size ho;have hz:(vals xs).length<=sizeLine:=by unfold vals;rw[List.length_map,sizeLine_eq];omega
 have s1:=Heap.SameBut.update s.heap a (Obj.mapSeq fun _=>(#[]:Array Value));obtain⟨e1,Dn⟩:∃e1,(s.heap.update a (Obj.mapSeq fun _=>(#[]:Array Value))).get? a=some (seqObj "list" #[] e1):=⟨_,get?_update_seq ho fun _=>#[]⟩;refine wpAny_bind (listItems_at ho rfl ?_);refine wpAny_bind (listUpdate_at ho rfl ?_ hz (Nat.zero_le _));generalize s.heap.update a (Obj.mapSeq fun _=>(#[]:Array Value))=H1 at s1 Dn;refine wpAny_bind (seqEpoch_at Dn rfl ?_);refine wpAny_bind (wpAny_newTuple ?_ hz);refine wpAny_bind (wpAny_newList ?_ (Nat.zero_le _));refine wpAny_holding ?_;have Ti:(H1.push (seqObj "tuple" (vals xs).toArray 0)).objs.size=s.heap.objs.size+1:=by rw[size_push',s1.1]
 show wpAny _ _ (ksk_rest a f false (vals xs).toArray e1 (.ref (H1.push (seqObj "tuple" (vals xs).toArray 0)).objs.size)) _ _ {s with heap:=(H1.push (seqObj "tuple" (vals xs).toArray 0)).push (seqObj "list" #[] 0)};have old:∀b o,b≠a->s.heap.get? b=some o->((H1.push (seqObj "tuple" (vals xs).toArray 0)).push (seqObj "list" #[] 0)).get? b=some o:=fun b o hb e=>Heap.get?_push_of_some _ (Heap.get?_push_of_some _ ((s1.2 b hb).trans e));have hka:(H1.push (seqObj "tuple" (vals xs).toArray 0)).objs.size≠a:=by rw[Ti];exact Nat.ne_of_gt (Nat.lt_succ_of_lt ha)
 have hn:s.heap.get? (H1.push (seqObj "tuple" (vals xs).toArray 0)).objs.size=none:=Heap.get?_none_of_le (by rw[Ti];exact Nat.le_succ _);have gk:((H1.push (seqObj "tuple" (vals xs).toArray 0)).push (seqObj "list" #[] 0)).get? (H1.push (seqObj "tuple" (vals xs).toArray 0)).objs.size=some (lo #[] 0):=Heap.get?_push_size _ rfl;have RT:((H1.push (seqObj "tuple" (vals xs).toArray 0)).push (seqObj "list" #[] 0)).get? a=some (lo #[] e1):=Heap.get?_push_of_some _ (Heap.get?_push_of_some _ Dn);generalize (H1.push (seqObj "tuple" (vals xs).toArray 0)).objs.size=kS at gk hka hn;generalize (H1.push (seqObj "tuple" (vals xs).toArray 0)).push (seqObj "list" #[] 0)=H2 at gk RT old;refine yf (s0:=s) (Nat.lt_of_le_of_lt (by assumption) (by decide)) RT gk hka rfl old hn turn fun h3 tk ks c ht k3 g3 hR=>?_;refine Bj hu h1 h2 (k3 _ _ hka.symm RT) g3 hka hR fun h4 c4 k4 g4=>?_;exact h h4 tk c4 ht (fun b o hb e=>k4 b o hb (fun q=>by rw[q,hn]at e;exact xa e) (k3 b o (fun q=>by rw[q,hn]at e;exact xa e) (old b o hb e))) g4
theorem Bo{α β:Type}{f:α->β}{l m:List β}(h:l.Perm m):∀{xs:List α},m=xs.map f->∃ys:List α,l=ys.map f/\ys.Perm xs:=by
 induction h with
 |nil=>intro xs e;exact⟨[],rfl,by cases xs <;> first|exact .nil|exact xl e⟩
 |cons x _ ih=>
  intro xs e
  match xs,e with
  |y::r,e=>refine cJ (List.cons.inj e) fun q e2=>?_;refine av (ih e2) fun ys e3 hp=>?_;exact⟨y::ys,by rw[q,e3];rfl,hp.cons _⟩
 |swap x y l=>
  intro xs e
  match xs,e with
  |a::b::r,e=>refine cJ (List.cons.inj e) fun q1 e2=>?_;refine cJ (List.cons.inj e2) fun q2 e3=>?_;exact⟨b::a::r,by rw[q1,q2,e3];rfl,.swap _ _ _⟩
 |trans _ _ ih1 ih2=>intro xs e;refine av (ih2 e) fun ys e2 hp2=>?_;refine av (ih1 e2) fun zs e1 hp1=>?_;exact⟨zs,e1,hp1.trans hp2⟩
theorem uQ(hh:A.handled=none)(hu:A.in1.in1.units<cLine){S f:Addr}{es:Array (Int×Value)}{ep:Nat}{t:SetTable}{xs:List (Str×Tok)}{Q:Value->Shared->Prop}(gS:s.heap.get? S=some {cls:=.type "set",data:=.set es ep t})(tb:eS w.params es.size t)(hpl:t.plain=false)(hes:es.toList.map (·.2)=vals xs)(h1:1<=xs.length)(h2:xs.length<=2)
  (turn:∀x∈xs,∀h d tk,s.toks<=tk->(∀b o,s.heap.get? b=some o->h.get? b=some o)->wpAny (model prog w) A.in1.in1 (call (.ref f) [.str x.1 x.2]) (fun k s'=>∃h' tk' r,k= .ref r/\s'={s with heap:=h',drawn:=d,toks:=tk'}/\tk<=tk'/\(∀b o,h.get? b=some o->h'.get? b=some o)/\h.get? r=none/\h'.get? r=some (lo #[.str x.1 x.2] 0)) (fun u' _=>False) {s with heap:=h,drawn:=d,toks:=tk})
  (hQ:∀D h' d tk' c ys,ys.Perm xs->s.toks<=tk'->s.heap.get? D=none->(∀b o,s.heap.get? b=some o->h'.get? b=some o)->h'.get? D=some (lo (vals (eu ys)).toArray c)->Q (.ref D) {s with heap:=h',drawn:=d,toks:=tk'}):
  wpAny (model prog w) A (call (.builtin "sorted") [.ref S] [(Str.ofString "key",.ref f)]) Q E s:=by
 have hsz:es.size=xs.length:=by rw[<-Array.length_toList,<-List.length_map,hes];exact List.length_map ..
 refine call_function_entry_kw kind_sorted plain_sorted entry_sorted (ksk_s1 _ _) ?_;refine wpAny_bind (m:=checkCount "sorted" 1 1 _) (wpAny_pure ?_);refine wpAny_bind (sU (A:=A.in1) hh gS tb hpl (by omega) (by omega) fun l xP d RU ht1 k1 hp=>?_);refine av (Bo hp hes) fun ys NJ hys=>?_;subst NJ;have hl:=hys.length_eq;refine wpAny_bind (wpAny_newList ?_ (by rw[List.length_map,sizeLine_eq];omega));have Mk:(xP.push (seqObj "list" (vals ys).toArray 0)).get? xP.objs.size=some (lo (vals ys).toArray 0):=Heap.get?_push_size _ rfl;refine wpAny_bind (wpAny_holding (wpAny_call_entry_kw slot_list_sort ⟨_,Mk,rfl⟩ entry_list_sort ?body (ksk_l1 _ _)))
 case body=>
  simp only[ksk_t1];have ne1:∀b o,s.heap.get? b=some o->b≠xP.objs.size:=fun b o e=>Nat.ne_of_lt (Heap.lt_size (k1 b o e));refine Bm (s:={s with heap:=xP.push (seqObj "list" (vals ys).toArray 0),drawn:=d,toks:=RU}) hu (by omega) (by omega) Mk (fun x hx h tk' ht' kk=>?_) (fun h' tk' c ht' kk g'=>⟨_,rfl,?_⟩)
  ·exact turn x (hys.mem_iff.mp hx) h d tk' (Nat.le_trans ht1 ht') fun b o e=>kk b o (ne1 b o e) (Heap.get?_push_of_some _ (k1 b o e))
  ·refine wpAny_pure ⟨_,rfl,hQ xP.objs.size h' d tk' c ys hys (Nat.le_trans ht1 ht') ?_ (fun b o e=>kk b o (ne1 b o e) (Heap.get?_push_of_some _ (k1 b o e))) g'⟩
   cases z:s.heap.get? xP.objs.size with
   |none=>rfl
   |some o=>exact absurd rfl (ne1 _ o z)
end
end Mine.Internal
end
noncomputable section
open PySem PySem.W PyProof.Rows
namespace Mine.Internal
section
variable{prog:Program}{w:World}{A:Around}{E:Value->Shared->Prop}{s:Shared}
structure sV(params:Arguments)(body:Expr)(scope:Scope)(nm sep:Str):Prop where
 j8:∃p1 p2 p3 p4 p5 k1 k2,body= .Call (.Attribute (.Name nm p1) "split" p2) [.Constant (.str sep) k1 p3,.Constant (.int 1) k2 p4] [] p5/\(p2.endLine==p5.line)=true
 bind:∀(qual:Str) (pm cdv ct:Value) (v:Value),bindArgs (kla_fn "<lambda>" qual params body scope [] pm cdv ct) ⟨[v],[]⟩=pure [(nm,v)]
 loc:scope.names.lookup nm=some .local
 cell:∀x∈scope.names,x.2≠ .cell
 kind:scope.kind= .function
 co:scope.isCoroutine=false
 gen:scope.isGenerator=false
 Ve:(nm==("__debug__":Str))=false
 RV:(sep.length==0)=false
 clos:∀env:Env,closureFor scope env=pure []
 dflt:∀env:Env,defaultsOf params env=([],[])
theorem Bp{x sep:Str}{t u v:Tok}{Q:Value->Shared->Prop}(hs:(sep.length==0)=false)(ho:(Builtin.Str.occurrences x sep 0 x.length 1).isEmpty=true)(h:Q (.ref s.heap.objs.size) {s with heap:=s.heap.push (seqObj "list" #[.str x t] 0)}):
  wpAny (model prog w) A (call (.builtin "str.split") [.str x t,.str sep u,.int 1 v]) Q E s:=by
 refine wpAny_call_entry F.slot_str_split (typeIs_str _ _ _) F.entry_str_split ?_ (F.args_str_split_3 _ _ _);refine bK (split_sep_max_tree x sep 1 t u v (by decide)) fun Pg NK=>?_;rw[NK];have hl:limitOf x 1=1:=rfl;split
 ·exact wpAny_bind (wpAny_rule (wpAny_bind (wpAny_newList (wpAny_pure ⟨_,rfl,h⟩) (by rw[sizeLine_eq];simp))))
 ·refine w_eq (by rw[hs,if_neg Bool.false_ne_true,hl,ho,Bool.true_and,if_pos rfl]) ?_
  exact wpAny_bind (wpAny_rule (wpAny_bind (wpAny_newList (wpAny_pure ⟨_,rfl,h⟩) (by rw[sizeLine_eq];simp))))
theorem NL{params:Arguments}{body:Expr}{scope:Scope}{nm sep qual:Str}(L:sV params body scope nm sep){f c':Addr}{pm ctv:Value}{x:Str}{tk:Tok}(hroom:A.depth<recursionLimit)(hlim:s.heap.NoLimit)
  (ho:s.heap.get? f=some (kla_obj "<lambda>" qual params body scope [] pm c' ctv))(hcd:s.heap.CodeRec (.ref c') qual)(hx:(Builtin.Str.occurrences x sep 0 x.length 1).isEmpty=true):
  wpAny (model prog w) A (call (.ref f) [.str x tk]) (fun k s'=>∃h' Pf r,k= .ref r/\s'={s with heap:=h',toks:=Pf}/\s.toks<=Pf/\(∀b o,s.heap.get? b=some o->h'.get? b=some o)/\s.heap.get? r=none/\h'.get? r=some (lo #[.str x tk] 0)) (fun u' _=>False) s:=by
 refine fJ (L.j8) fun p1 p2 p3 NN=>mE NN fun p4 p5 k1 k2 NO hp=>?_;clear NN;subst NO;refine wpAny_call (kla_callFunE hroom ho rfl L.co L.gen rfl hcd ?_);refine w_eq (by rw[L.bind]) ?_;refine wpAny_pure (wpAny_newFunctionEnv L.cell (fun y hy=>?_) (fun h1 hns Gk=>?_) L.kind)
 ·rw[List.mem_singleton]at hy;(clear hroom hcd ho;subst hy);exact L.loc
 have up:∀b o,s.heap.get? b=some o->h1.get? b=some o:=fun b o e=>(Gk.2 b (Nat.ne_of_lt (Heap.lt_size e))).trans (Heap.get?_push_of_some _ e);refine⟨hlim.keeps up,kla_codeExpr ?_⟩;generalize hge:newEnv scope s.heap.objs.size mainGlobals [] (qual++".<locals>.") (some f) (.ref c') none builtinsNs=env;have gl:env.locals=s.heap.objs.size:=by rw[<-hge];rfl
 have gs:env.scope=scope:=by rw[<-hge];rfl
 as_aux_lemma=>
 have hk:env.scope.kind= .function:=by rw[gs];exact L.kind
 have hloc:env.kindOf nm=some .local:=by show env.scope.names.lookup nm=_;rw[gs];exact L.loc
 have hn1:h1.Ns env.locals fun y=>List.lookup y [(nm,Value.str x tk)].reverse:=by rw[gl];exact hns
 rw[arm_eval_Call,aB (by rfl),au _ _ (by rfl)];refine wpAny_bind (wpAny_Name (wpAny_loadName_local (v:=.str x tk) hk hloc hn1 (by simp[List.lookup]) ?_) L.Ve);refine wpAny_bind (wpAny_standAt ?_);unfold methodCall;rw[show methodCallForm (([.Constant (.str sep) k1 p3,.Constant (.int 1) k2 p4]:List Expr).length+([]:List Keyword).length) (([.Constant (.str sep) k1 p3,.Constant (.int 1) k2 p4]:List Expr).map fun x=>((false,eval x env):Bool×Sem Value)) (backToKw p5 (keywordEach [] env))=true from rfl];refine wpAny_bind (wpAny_holding ?_);unfold calleeOf;simp only[if_pos rfl];refine GM.split ?_;dsimp only;unfold methodCallPos;refine w_eq (by rw[hp]) ?_;refine wpAny_bind (wpAny_pure ?_);refine callWith_of (P:=fun hp=>bA (model prog w) hp (.builtin "str.split")) rfl (fun u' z=>z) ?_;refine Calls.evalArgs_plain (Calls.spliced_cons (wpAny_Constant_str (Calls.spliced_cons (wpAny_Constant_int (Calls.spliced_nil ?_)))));refine⟨⟨.machine,.inr (.inl rfl),Looks.of_pure rfl⟩,?_⟩;refine Bp L.RV hx ⟨_,_,_,rfl,rfl,?_,fun b o e=>Heap.get?_push_of_some _ (up b o e),Heap.get?_none_of_le (by rw[Gk.1,Heap.size_push];exact Nat.le_succ _),Heap.get?_push_size _ rfl⟩;dsimp only;omega
end
structure kB(B:Base)(mg:Str->Option Value)(cd:Value)(q0:Str):Prop where
 hd:∃c,cd= .ref c/\CodeHd B.h c B.tb
 rc:B.h.CodeRec cd q0
 t0:TriplesOk B.t0.toList
 t1:codeAmong B.lp B.t0.toList=none
 bm:B.h.BuiltinsAt mg B.tb
 gP:mainGlobals≠B.tb
 lq:B.lq=q0++".<locals>."++"<lambda>"
theorem kB.at{B:Base}{mg:Str->Option Value}{cd:Value}{q0:Str}(x:kB B mg cd q0)(l:List Env)(a:Addr):kB (B.at l a) mg cd q0:=⟨x.hd,x.rc,x.t0,x.t1,x.bm,x.gP,x.lq⟩
section
variable{B:Base}{X:Addr->Prop}{φ az:Ph}{G G':Gs}{s s':Shared}
noncomputable def Ph.Pj(φ:Ph)(c:Addr)(ob:Obj):Ph:={φ.put c ob with lam:=some c}
theorem Ph.JQ{c:Addr}{ob:Obj}(h:φ.f c=none)(hl:φ.lam=none):φ.Le (φ.Pj c ob):=⟨rfl,(Ph.bD h).f,fun u' h=>h,fun u' h=>h,fun u' h=>h,fun u' h=>(xa (hl.symm.trans h)),fun u' u' h=>h⟩
theorem Step.Pj(I:Inv B φ G s){h':Heap}{t:Tok}{d:Drawn}{c:Addr}{ob:Obj}{vs:Array Value}{u:Tok}(hl:φ.lam=none)(k:∀b o,b≠B.tb->s.heap.get? b=some o->h'.get? b=some o)(hn:s.heap.get? c=none)
  (hc:h'.get? c=some ob)(hd:ob.data= .fields vs)(hv:vs[1]?=some (.str B.lq u))(htb:h'.get? B.tb=some (tabObj (B.t0++#[rawInt B.lp.line,rawInt B.lp.col,.ref c])))(ht:s.toks<=t):Step B X φ s (φ.Pj c ob) G ⟨h',s.gens,d,t,s.os⟩:=by
 refine bW (I.free hn) fun f mu tb fr=>?_;have le:=Ph.JQ (ob:=ob) f hl;have live:∀b o,s.heap.get? b=some o->∃o',h'.get? b=some o'/\(o.data= .plain->o'=o):=fun b o e=>by
  by_cases q:b=B.tb
  ·(clear hl;subst q)
   refine av (I.tab) fun m e' _=>?_;obtain rfl:=Option.some.inj (e.symm.trans e');exact⟨_,htb,fun q=>xi Data.ctorIdx q rfl⟩
  ·exact⟨o,k b o q e,fun _=>rfl⟩
 refine⟨le,⟨I.P,fun b o e=>?_,fun b o e=>le.f b o (I.base b o e),⟨_,htb,rfl,ob,vs,u,aR,hd,hv⟩,(bQ (Ne.symm tb)).trans I.tN,I.qZ,fun b hb=>⟨(bQ fun q:b=c=>mu (q▸hb)).trans (I.mT b hb).1,?_⟩,I.gens,I.os,fun env he=>?_,Nat.le_trans I.tk ht,I.wr.keep le rfl rfl rfl fun b o m e=>k b o (fun q=>I.qZ (q▸m)) e⟩,fun b o e h1 h2 h3=>gZ (k b o h2 e),live,fun b o e=>(dj e).elim (fun q=>.inr (.inl (q.1▸hn))) .inl,fun b h=>.inl h,GK.refl _⟩
 ·(clear hl hn hd hv htb ht f mu tb le live;rcases dj e with⟨rfl,rfl⟩|e)
  ·exact hc
  ·exact k b o (fun q=>by rw[q,I.tN]at e;(rename_i aH;clear aH;exact xa e)) (I.keep b o e)
 ·refine tP (I.mT b hb) fun _ o e=>?_
  exact⟨o,k b o (fun q=>I.qZ (q▸hb)) e⟩
 ·refine bY (I.frs env he) fun p1 L o p2 p3 p4 p5 p6 p7=>?_
  exact⟨p1,L,o,p2,(bQ fun q:L=c=>fr (q▸List.mem_filterMap.mpr ⟨env,he,p2⟩)).trans p3,p4,p5,k L o p5 p6,p7⟩
end
theorem sW{h:Heap}{cd:Value}{q q':Str}(x:h.CodeRec cd q)(y:h.CodeRec cd q'):q=q':=by obtain⟨c,o,vs,t,e1,e2,e3,e4⟩:=x;obtain⟨c',o',vs',t',f1,f2,f3,f4⟩:=y;rw[e1]at f1;(clear e1;obtain rfl:=Value.ref.inj f1);rw[e2]at f2;(revert f3;apply af (f2);intro f3);rw[e3]at f3;cases f3;rw[e4]at f4;cases f4;rfl
theorem pF{h h':Heap}{cd:Value}{q:Str}(x:h.CodeRec cd q)(k:∀b o,h.get? b=some o->h'.get? b=some o):h'.CodeRec cd q:=x.imp fun c y=>y.imp fun o y=>y.imp fun vs y=>y.imp fun t y=>⟨y.1,k _ _ y.2.1,y.2.2⟩
section
variable{k:Ks}{ce:Env}{ns:List Str}
theorem yg(Si:cD k){A:Around}{E:Value->Shared->Prop}{Q:Value->Shared->Prop}{φ:Ph}{G:Gs}{s:Shared}{e:En}{params:Arguments}{body:Expr}{scope:Scope}{nm sep q0:Str}(L:sV params body scope nm sep)(LO:kB k.B k.mg ce.code q0)
  (c0:kM k A ce ns φ G s e)(h:∀f c' pm ctv az s',Step k.B No φ s az G s'->s'.heap.get? f=some (kla_obj "<lambda>" k.B.lq params body scope [] pm c' ctv)->s'.heap.CodeRec (.ref c') k.B.lq->Q (.ref f) s'):
  wpAny (model k.prog k.w) A (eval (.Lambda params body scope k.B.lp) ce) Q E s:=by
 have I:=c0.I;refine av (c0.E.cd) fun q1 c1 c2=>?_;have :=sW c1 LO.rc
 (clear c1;subst this)
 refine kla_eval (L.dflt ce) ?_;rw[c2];rw[LO.lq]at h;refine av (LO.hd) fun c hc hd=>?_;have kb:=I.kb;have hd':=hd.keeps kb;have hg:=gq Si.G.g kb;refine aI (LO.bm) fun bm ob b1 b2 NP=>dg NP fun b3 b4 b5 b6 b7 b8=>?_;clear NP;have hb:s.heap.BuiltinsAt k.mg k.B.tb:=⟨bm,ob,b1,b2,b3,b4,kb _ _ b5,b6,b7,b8⟩
 as_aux_lemma=>
 refine av (I.tab) fun more htb ct=>?_;cases hl:φ.lam with
 |none=>
  rw[hl]at ct;dsimp only at ct;subst ct;have e0:k.B.t0++#[]=k.B.t0:=by rfl
  rw[e0]at htb;refine wpAny_with_toks (Nat.le_refl _) (kla_makeFunction (mg:=k.mg) (L.clos ce) c0.E.tO hg hc hd' htb LO.t0 LO.t1 LO.gP hb fun c' ctv h' tk hx h1 h2 hrec htb'=>?_);intro ht;have up:∀b o,b≠k.B.tb->s.heap.get? b=some o->h'.get? b=some o:=fun b o hb e=>hx b o hb e;refine iO (id hrec) fun Tj oc vs t e2 hoc hdt hv=>?_;obtain rfl:=Value.ref.inj e2;exact h h'.objs.size c' _ ctv _ _ (Step.Pj (t:=tk) (d:=s.drawn) I hl (fun b o hb e=>Heap.get?_push_of_some _ (up b o hb e)) (Heap.get?_none_of_le h1) (Heap.get?_push_of_some _ hoc) hdt (LO.lq▸hv) (Heap.get?_push_of_some _ htb') ht) (Heap.get?_push_size _ rfl) (pF hrec fun b o e=>Heap.get?_push_of_some _ e)
 |some c'=>
  rw[hl]at ct;dsimp only at ct;refine cJ (ct) fun hm NQ=>aX NQ fun oc vs t Vf hdt hv=>?_;clear NQ;subst hm;have e1:(k.B.t0++#[rawInt k.B.lp.line,rawInt k.B.lp.col,.ref c']).toList=k.B.t0.toList++[rawInt k.B.lp.line,rawInt k.B.lp.col,.ref c']:=by simp
  refine wpAny_with_toks (Nat.le_refl _) (kla_makeFunctionHit (mg:=k.mg) (cv:=.ref c') (L.clos ce) c0.E.tO hg hc hd' htb (by rw[e1];exact TriplesOk_snoc _ _ _ _ LO.t0) (by rw[e1];exact codeAmong_snoc _ LO.t0 LO.t1) hb fun ctv h' tk hx h1=>?_);intro ht;exact h h'.objs.size c' _ ctv φ _ (Step.more (t:=tk) (d:=s.drawn) I (fun b o e=>Heap.get?_push_of_some _ (hx b o e)) ht) (Heap.get?_push_size _ rfl) ⟨c',oc,vs,t,rfl,Heap.get?_push_of_some _ (hx _ _ (I.keep _ _ Vf)),hdt,LO.lq▸hv⟩
end
end Mine.Internal
end
noncomputable section
open PySem PySem.W PyProof.Rows
namespace Mine.Internal
theorem yh{a b:Str}(h:vj a b=true):vj b a=false:=decide_eq_false fun q=>List.lt_irrefl _ (List.lt_trans (of_decide_eq_true h) q)
theorem JR{a b:Str}(h1:vj a b=false)(h2:vj b a=false):a=b:=by have e:a.cps.toList=b.cps.toList:=List.le_antisymm (List.not_lt.mp (of_decide_eq_false h2)) (List.not_lt.mp (of_decide_eq_false h1));clear h1 h2;obtain⟨x⟩:=a;obtain⟨y⟩:=b;exact congrArg Str.mk (Array.toList_inj.mp e)
noncomputable def wC (a b:Str):List Str:=if vj a b=true then[a,b]else[b,a]
theorem uR{p q:Str×Tok}{a b:Str}(h:[p.1,q.1].Perm [a,b]):(eu [p,q]).map (·.1)=wC a b:=by
 have hc:(p.1=a/\q.1=b)\/(p.1=b/\q.1=a):=by
  rcases List.mem_cons.mp (h.mem_iff.mp List.mem_cons_self)with e|e
  ·exact .inl ⟨e,(List.singleton_perm_singleton.mp (e▸h:[a,q.1].Perm [a,b]).cons_inv)⟩
  ·rw[List.mem_singleton]at e
   exact .inr ⟨e,(List.singleton_perm_singleton.mp ((e▸h:[b,q.1].Perm [a,b]).trans (.swap _ _ _)).cons_inv)⟩
 delta eu wC
 dsimp only
 (clear h;rcases hc with⟨rfl,rfl⟩|⟨rfl,rfl⟩)
 ·cases h1:vj q.1 p.1 with
  |true=>rw[yh h1];rfl
  |false=>
   cases h2:vj p.1 q.1 with
   |true=>rfl
   |false=>show[p.1,q.1]=[q.1,p.1];rw[JR h1 h2]
 ·cases h1:vj q.1 p.1 <;> rfl
theorem pG{P:Params}:∀{l:List Str} {es:List (Int×Value)},cQ (fun x (e:Int×Value)=>e.1=PyData.keyHash P x/\∃tk,e.2= .str x tk) l es->∃ps:List (Str×Tok),ps.map (·.1)=l/\es.map (·.2)=vals ps
 |[],_,x=>⟨[],rfl,x▸rfl⟩
 |a::l,_,x=>by obtain⟨e,r,rfl,⟨_,tk,h⟩,x⟩:=x;obtain⟨ps,h1,h2⟩:=pG x;exact⟨(a,tk)::ps,by rw[List.map_cons,h1],by rw[List.map_cons,h,h2];rfl⟩
theorem sX{φ:Ph}:∀(l:List (Str×Tok)),bz φ ((l.map (·.1)).map fun a=>V.c (.str a)) (vals l)
 |[]=>rfl
 |p::l=>⟨_,_,rfl,⟨p.2,rfl⟩,sX l⟩
theorem Vg{P:Prop}{sep:Str}{x:V}{l:List V}(h:vo sep x=some l)(kk:∀xs,x= .sp (.sset xs)->(∀y∈xs,(Builtin.Str.occurrences y sep 0 y.length 1).isEmpty=true)->((∃a,xs=[a]/\l=[a].map fun a=>V.c (.str a))\/∃a b,xs=[a,b]/\l=(wC a b).map fun a=>V.c (.str a))->P):P:=
 bindC h fun xs hx h=>ak h fun ha h=>by
  have e:x= .sp (.sset xs):=tells (P:=fun xs=>x= .sp (.sset xs)) (by
   rename_i kU nG;clear kU nG;rcases x with _|y|_|_|_|⟨_,_⟩ <;> try trivial
   (rcases y with⟨⟩) <;> first|rfl|trivial) hx
  refine kk xs e (fun y hy=>List.all_eq_true.mp ha y hy) (gu h (fun h=>ay h fun a hs q=>.inl ⟨a,aZ hs,q.symm⟩) fun h=>ay h fun p hp q=>.inr ⟨p.1,p.2,dz hp,?_⟩);rw[<-q];unfold wC;split <;> rfl
section
variable{k:Ks}{ce:Env}{ns:List Str}
noncomputable def Bq(T:aM)(U:aE)(sep:Str)(x:X)(e:En):Cv:=bd (aq T U x e) fun v=>re ((vo sep v).map V.list)
theorem NR(Si:cD k){f a:Expr}{x:X}{params:Arguments}{body:Expr}{scope:Scope}{nm sep q0:Str}{kp pos:Pos}(L:sV params body scope nm sep)(LO:kB k.B k.mg ce.code q0)(ha:noStar a=true)(hx:bC k ce ns a x)(Gr:bM f=false)(hf:bC k ce ns f (.c (.c (.fn .sorted)))):
  Ev k VR ce ns (eval (.Call f [a] [⟨some "key",.Lambda params body scope k.B.lp,kp⟩] pos) ce) (Bq k.T k.U sep x):=fun A E Q φ G s e r G' c ev kk=>cF ev fun v G1 e1 ev=>gz ev fun ev q=>ay ev fun l hl el=>Vg hl fun xs ex hno hs=>by
 subst ex;refine w_eq (call_plain Gr (r5 ha)) ?_;refine wpAny_bind (hf.at c (G':=G) (r:=.c (.fn .sorted)) rfl fun cf o8 s0 h0 t0=>?_)
 (rename_i aH bI;clear aH bI;obtain rfl:=h0)
 refine callWith_of (P:=fun hp=>bA (model k.prog k.w) hp (.builtin "sorted")) (by rw[kW];rfl) (fun _ z=>z) ?_;refine evalArgs_kw rfl (Calls.spliced_cons (hx.at (c.step t0) e1 fun cv aO s1 v1 t1=>Calls.spliced_nil ?_));have c1:=(c.step t0).step t1;refine wpAny_evalAll_cons (wpAny_bind (yg Si L LO c1 fun fa c' pm ctv d9 s2 t2 ho hcd=>wpAny_bind (wpAny_standAt (wpAny_pure (wpAny_evalAll_nil ⟨⟨.machine,.inr (.inl rfl),Looks.of_pure rfl⟩,?_⟩)))));refine aI (v1) fun S ob Li RW NS=>fJ NS fun sl es ep NT=>fH NT fun t GU hp hes tb hpl=>?_;clear NS NT;subst Li;subst GU;have gS:=t2.inv.keep _ _ (t2.le.f _ _ RW);refine av (pG hes) fun ps hps hvs=>?_;have hlen:ps.length=xs.length:=by rw[<-List.length_map (f:=(·.1)),hps,hp.length_eq]
 have RX:1<=xs.length/\xs.length<=2:=by
  (clear LO ha Gr hf e1 ev hl c1 hes v1 RW hlen;rcases hs with⟨a,rfl,_⟩|⟨a,b,rfl,_⟩)
  ·exact⟨Nat.le_refl 1,Nat.le_succ 1⟩
  ·exact⟨Nat.le_succ 1,Nat.le_refl 2⟩
 have eP:aO.P=k.w.params:=((c.step t0).step t1).I.P.trans Si.hP;rw[eP]at tb;refine uQ (xs:=ps) c.R.h (by have :=c.R.u;show A.units+1+1<_;omega) gS tb (hpl fun q=>by rw[q]at RX;exact absurd RX.1 (Nat.not_succ_le_zero _)) hvs (by omega) (by omega) (fun x hx h d tk' ht' kh=>?_) (fun D h' d tk' c2 ys hys ht' hD kh gD=>?_)
 ·have ho':=kh _ _ ho
  have RY:Heap.CodeRec h (.ref c') _:=pF hcd kh;have Vh:x.1∈xs:=hp.mem_iff.mp (hps▸List.mem_map.mpr ⟨x,hx,rfl⟩);exact NL (s:={s2 with heap:=h,drawn:=d,toks:=tk'}) L (by have :=c.R.d;show A.depth<_;omega) ((Si.G.limit t2.inv).keeps kh) ho' RY (hno _ Vh)
 ·have Vi:=(t0.trans t1).trans t2
  have e3:l=((eu ys).map (·.1)).map fun a=>V.c (.str a):=by
   have nB:(ys.map (·.1)).Perm xs:=(hys.map _).trans (hps▸hp)
   (clear Si L LO ha hx Gr hf hno e1 ev hl t0 t1 c1 ho hcd hp hes tb hpl v1 RW gS hps hvs hlen RX eP hys;rcases hs with⟨a,rfl,rfl⟩|⟨a,b,rfl,rfl⟩)
   ·match ys,nB with
    |[p],nB=>exact congrArg (fun a=>[V.c (.str a)]) (List.singleton_perm_singleton.mp (nB:[p.1].Perm [a])).symm
    |[],nB=>exact absurd nB.length_eq (by simp)
    |_::_::_,nB=>exact absurd nB.length_eq (by simp)
   ·match ys,nB with
    |[p,q],nB=>rw[uR nB]
    |[],nB=>exact absurd nB.length_eq (by simp)
    |[_],nB=>exact absurd nB.length_eq (by simp)
    |_::_::_::_,nB=>exact absurd nB.length_eq (by simp)
  have t3:=Step.make (X:=No) (t:=tk') (d:=d) t2.inv kh hD gD ht';refine kk _ _ _ ?_ (q▸(Vi.trans t3));simp only[<-el,e3];exact⟨D,_,_,rfl,aR,sX _⟩
end
end Mine.Internal
end
noncomputable section
open PySem PySem.W PyProof.Rows
set_option backward.match.sparseCases false
namespace Mine.Internal
theorem uS{ps:Arguments}{a:Arg}(h:vt ps=some a):ps=⟨[],[a],none,[],[],none,[]⟩:=ak h fun c h=>by obtain⟨a1,a2,a3,a4,a5,a6,a7⟩:=ps;simp only[Bool.and_eq_true]at c;refine cJ (c) fun IT c6=>?_;(clear c;obtain⟨⟨⟨⟨c1,c2⟩,c3⟩,c4⟩,c5⟩:=IT);simp only[show a1=[]from List.isEmpty_iff.mp c1,show a2=[a]from aZ h,show a3=none from Option.isNone_iff_eq_none.mp c2,show a4=[]from List.isEmpty_iff.mp c3,show a6=none from Option.isNone_iff_eq_none.mp c4,show a7=[]from List.isEmpty_iff.mp c5,show a5=[]from List.isEmpty_iff.mp c6]
theorem Br{ann:Option Expr}{p:Pos}{qual:Str}{body:Expr}{scope:Scope}{pm cdv ct v:Value}:bindArgs (kla_fn "<lambda>" qual ⟨[],[⟨"n",ann,p⟩],none,[],[],none,[]⟩ body scope [] pm cdv ct) ⟨[v],[]⟩=pure [(("n":Str),v)]:=rfl
theorem Bs{scope:Scope}(h:∀p∈scope.names,(p.2==NameKind.free)=false)(env:Env):closureFor scope env=pure []:=by
 unfold closureFor;have go:∀(l:List (Str×NameKind)) (cs:List (Str×Addr)),(∀p∈l,(p.2==NameKind.free)=false)->(forIn l cs (fun(p:Str×NameKind) r=>if(p.2==NameKind.free)=true then do let c <-cellOf env p.1;pure (ForInStep.yield ((p.1,c)::r))else pure (ForInStep.yield r)):Sem (List (Str×Addr)))=pure cs:=fun l=>by
  induction l with
  |nil=>intro cs _;rfl
  |cons p l ih=>intro cs h;rw[List.forIn_cons,if_neg (by rw[h p List.mem_cons_self];exact Bool.false_ne_true)];exact ih cs fun q hq=>h q (List.mem_cons_of_mem _ hq)
 exact congrArg (fun(m:Sem (List (Str×Addr)))=>m>>=fun cs=>pure cs) (go scope.names [] h)
theorem EH{e:Expr}{r:Int×Nat×Pos}(h:FP e=some r):e= .Constant (.int r.1) r.2.1 r.2.2:=bindC h fun c hc h=>ay h fun i hi e=>by
 (clear h;subst e)
 simp only[m8 hc,vq hi]
theorem EI{ps:Arguments}{b:Expr}{s:Scope}{r:Str×Str}(h:LJ ps b s=some r):sV ps b s r.1 r.2:=
 bindC h fun a ha h=>bindC h fun m hm h=>bindC h fun n hn h=>ak h fun cc h=>
 bindC hm fun c hc hm=>bindC hm fun t ht hm=>ay hm fun x hx em=>bindC hn fun p hp hn=>bindC hn fun sep hs hn=>ay hn fun k hk en=>by
  subst em en;refine dg (cc) fun c1 c2 c3 c4 c5 NU=>dg NU fun c6 c7 c8 c9 Vj Vk=>?_;clear NU;clear cc hm hn;refine dU (P:=fun r:Str×Str=>sV ps b s r.1 r.2) h ?_;have e:=EH hk;rw[c3]at e;have hs':=jP hs;have nm:∀y∈s.names,(y.2==NameKind.cell)=false/\(y.2==NameKind.free)=false:=fun y hy=>by have :=List.all_eq_true.mp c6 y hy;simp only[Bool.and_eq_true,Bool.not_eq_true',Bool.not_eq_true']at this;exact this
  have ea:a=⟨"n",a.annotation,a.pos⟩:=by
   have q:nameA a="n":=c1.1.symm.trans c1.2;rcases a with⟨⟩
   (clear h hs hk hm hn c3 c6;obtain rfl:=(show _=("n":Str)from q))
   rfl
  simp only[uS ha];refine⟨⟨x.2,t.2.2,sep.2.2,k.2.2,c.2.2,sep.2.1,k.2.1,by rw[dG hc,d8 ht,dZ hx,dz hp,hs',e,c2],c4⟩,fun qual pm cdv ct v=>by rw[c1.2,ea];exact Br,c5,fun y hy q=>?_,c7,c8,c9,(ai Vj).1,beq_eq_false_iff_ne.mpr Vk,fun env=>Bs (fun p hp=>(nm p hp).2) env,fun env=>rfl⟩;have :=(nm y hy).1;rw[q]at this
  as_aux_lemma=>
  exact xd this
noncomputable def Gu:Gb (List (Str×V)):=⟨gh #[] 0,[],.dict,fun φ h D l=>∃ds m,h.get? D=some (gh ds m)/\i9 φ l ds.toList/\(l.map (·.1)).Nodup⟩
theorem Bt:sd Gu:=
 ⟨fun x le k=>x.imp fun ds x=>x.imp fun m x=>⟨k _ x.1,x.2.1.mono le,x.2.2⟩,fun {φ h D o} x=>x.elim fun ds x=>x.elim fun m x=>⟨_,x.1,(fun q=>xi Data.ctorIdx q rfl),fun ψ le e hs=>⟨D,ds,m,rfl,hs,e,x.2.1.mono le⟩⟩,fun e=>⟨#[],0,e,rfl,List.nodup_nil⟩,rfl⟩
theorem mq.snoc{φ:Ph}{e:Str×V}{c:Value}(h:VR φ e.2 c):∀{es:List (Str×V)} {kvs:List (Str×Value)},mq φ es kvs->mq φ (es++[e]) (kvs++[(e.1,c)])
 |[],_,x=>by obtain rfl:=x;exact⟨c,[],rfl,h,rfl⟩
 |_::_,_,x=>x.imp fun c' x=>x.elim fun r x=>⟨r++[(e.1,c)],by rw[x.1];rfl,x.2.1,mq.snoc h x.2.2⟩
section
variable{k:Ks}{ce:Env}{ns:List Str}
theorem JS(S:cD k){ns:List Str}{cenv:Env}{D:Addr}{kx vx:Expr}{pos:Pos}{y:X}(hk:bC k cenv ns kx (.v 0))(hy:bC k cenv ns vx y):Av k cenv ns Gu D (do
    let kv <-eval kx cenv
    let vv <-holding [kv] (eval vx cenv)
    standAt pos
    holding [kv,vv] (dictSet D kv vv)) (Lx fun e=>aq k.T k.U y e) Lr:=
 fun A E Q φ G s e v G' o o' c ev ea d fD kk=>bindC ev fun kS hks ev=>bindC hks fun z hz hks=>ay ev fun r e1 e2=>ak ea fun hl ea=>by
  (rename_i aH bI bS;clear aH bI bS;revert kk;apply af (ea);intro kk)
  (clear ev ea;cases e2)
  have ez:aq k.T k.U (.v 0) e G=some (.c (.str kS),G):=by
   show(match sl e 0 with| .v x=>fun G=>some (x,G)|_=>fun _=>none:Cv) G=_
   simp only[kR hz,bh hks]
  refine wpAny_bind (hk.at c ez fun ck aO s1 h1 t1=>wpAny_bind (wpAny_holding (hy.at (c.step t1) e1 fun cu d9 s2 h2 t2=>wpAny_bind (wpAny_standAt (wpAny_holding ?_)))));refine aI (d) fun ds m gD rD nd=>?_;refine cJ (fD.step t1 gD id) fun Tn To=>?_;refine cJ (Tn.step t2 To id) fun My O3=>?_;have eP:=t2.inv.P.trans S.hP;refine av (cY (prog:=k.prog) eP O3 ((rD.mono t1.le).mono t2.le) nd) fun kvs dd rk=>?_;refine bK (h1) fun tk IV=>?_;(clear S hk hy c d fD hz hks e1 ez h1 gD rD nd Tn To;subst IV);refine wpAny_dictSet_pairs (knd:=strKind k.prog k.w) (kvs:=kvs) (k:=kS) (strKind_is k.prog k.w kS tk) dd.dictOf (fun h' hd' hs'=>?_) (by rw[rk.len,sizeLine_eq];exact Nat.le_trans hl.1 (by decide));have hst:stored kvs kS cu=kvs++[(kS,cu)]:=by
   unfold stored;rw[if_neg];intro q;obtain⟨kv,hkv,q⟩:=List.any_eq_true.mp q;have hk1:kv.1=kS:=by simpa using q
   exact k9 (Option.isNone_iff_eq_none.mp hl.2) (rk.keys▸List.mem_map.mpr ⟨kv,hkv,hk1⟩)
  simp only[hst]at hd';refine bP (hd') fun ob es' Lk z1 NV z2 z3 z4 z5=>?_;refine cG (NV) fun c1 c2 c3=>?_;have Vl:ob=gh es' Lk:=by rcases ob with⟨⟩;simp only at c1 c2 c3 z2;subst c1 c2 c3 z2;rfl
  subst Vl;have Tp:=mq.snoc (e:=(kS,r.1)) h2 rk;have t3:Step k.B (fun b=>b=D) d9 s2 d9 r.2 {s2 with heap:=h',toks:=s2.toks+1}:=Step.bare t2.inv My O3 z1 (fun _=>⟨es',Lk,rfl⟩) (fun q=>xi Data.ctorIdx q rfl) (fun b o hb e=>(hs'.2 b hb).trans e) (Nat.le_succ _);exact kk d9 _ (((t1.trans t2).weak fun b q=>q.elim).trans t3) ⟨es',Lk,z1,ur eP Tp z4 (fun e he=>z3 e (Array.mem_toList_iff.mp he)),Tp.keys▸z5⟩ My
theorem JT{e:Expr}{m:Expr×Expr×Keyword×Pos}(h:SA e=some m):e= .Call m.1 [m.2.1] [m.2.2.1] m.2.2.2:=
 bindC h fun r hr h=>bindC h fun a ha h=>ay h fun k hk e=>by rw[<-e,C5 hr,aZ ha,aZ hk]
theorem EJ(Si:cD k)(JU:k.T.lp=k.B.lp){q0:Str}(LO:kB k.B k.mg ce.code q0){aF M:List Str}{i:Nat}{t v:Expr}{pos:Pos}{x:S}(ht:fm ce.scope ns t=some i)(h:zx aF M k.g ce.scope ns i t v=some x):eK k ce ns (.Assign [t] v pos) x:=
 bindC h fun r hr h=>bindC h fun z hz h=>bindC h fun q hq h=>bindC h fun sk mJ h=>bindC h fun kx hkx h=>ak h fun cc h=>ay h fun y hy e0=>
 bindC mJ fun sr Gv mJ=>bindC mJ fun lm hl mJ=>bindC mJ fun sp yR mJ=>ak mJ fun c2 mJ=>ay mJ fun xx hxx e1=>by
  refine cJ (cc) fun d1 NW=>dg NW fun d2 d3 d4 d5 d6 d7=>?_;clear NW
  (clear d1;subst e0 e1)
  clear h mJ cc;refine bW (uG hz ht) fun ez hpl hk hi=>?_;rw[ez];refine cJ (ly hq) fun g1 g2=>?_;refine cJ (fy (ns:=ns) Si c2.1) fun f1 f2=>?_;have CF:=HB hr;have ei:=JT Gv;clear ht hz hq Gv mJ ez hpl;obtain⟨sf,a,⟨Vm,Vn,kpos⟩,spos⟩:=sr;have el:=C4 hl;dsimp only at el c2;simp only[el,c2.2.2]at ei;have co:=kY d3;rw[List.isEmpty_iff.mp d2]at g1;simp only[CF,g1];rw[d6]at co g2;have hsw:swapsWith (.DictComp r.1 r.2.1 [⟨q.2.target,q.2.iter,[],0⟩] r.2.2.2.1 r.2.2.2.2) (some (.Name z.1 z.2)) pos.line ce=pure (ce.blockKind== .function&&ce.kindOf z.1==some .local&&z.2.line==r.2.2.2.2.line&& !(r.2.2.2.1.names.any fun(n,k)=>n==z.1&&(k== .local||k== .cell))):=rfl;refine fun A E Q φ G s e fl e' G' c ev kk=>ak ev fun hT ev=>bindC ev fun rr e1 ev=>bindC ev fun ll e2 ev=>ay ev fun res e3 ev=>?_
  replace kk:=jy ev kk
  simp only[mU c.E,hk,d4,show(r.2.2.2.1.names.any fun(n,k)=>n==z.1&&(k== .local||k== .cell))=false from d5]at hsw;rw[exec_Assign_Name_used _ _ _ _ hsw];refine wpAny_bind (wpAny_standAt (wpAny_bind ?_));have nN:Ev k VR ce ns (eval q.2.iter ce) (Bq k.T k.U sp.2 xx):=by rw[ei,show lm.2.2.2=k.B.lp from hT.symm.trans JU];exact NR Si (EI yR) LO c2.2.1 (eG Si 40 hxx).1 f2 f1
  refine wpAny_bind (kZ (xs:=[kx.1]) (ifs:=[]) (l:=[]) (f:=fun _=>none) Si Bt (fun h=>wpAny_newObj_type (T:="dict") (data:=.dict #[]) h) ⟨fun u' u' _=>rfl,fun u' u' u' _=>rfl,fun u' u' _=>rfl,fun u' u' u' _=>rfl⟩ rfl (fun u' u' _=>rfl) g2 co (by rw[ei];rfl) nN (fun u' u' u' u' q=>xa q) (fun C cs D=>JS Si ?_ ?_) rfl c (v:=.list ll) (KK:=.list ll) (G1:=rr.2) (res:=res.1) (G':=res.2) ?_ rfl e3 fun D C az s5 m hr t hC fC hm=>?_)
  ·rw[dZ hkx]
   refine Ac d7 ?_ (by show ix (kx.1::_) kx.1=_;rw[dO,if_pos rfl]);have kq:(compEnvC r.2.2.2.1 cs C ce).kindOf kx.1=_:=bZ ce r.2.2.2.1 kx.1;rw[kq];rcases co.loc kx.1 (List.mem_singleton.mpr rfl)with w|w <;> (rw[w];rfl)
  ·rw[d6]at hy
   exact(eG Si 40 (ce:=compEnvC r.2.2.2.1 cs C ce) hy).1
  ·delta Bq bd
   rw[e1];show((vo sp.2 rr.1).map V.list).map _=_;rw[e2];rfl
  ·refine sH hk hi c (fun az s' go=>?_) hr t hC fC hm
   exact wpAny_pure (wpAny_pure (kk _ _ _ rfl go))
end
end Mine.Internal
end
noncomputable section
open PySem PySem.W PyProof.Rows
namespace Mine.Internal
/-! a def is called -/
theorem lD{names:List (Str×NameKind)}{h:Heap}{x:Str}(hx:(x,NameKind.cell)∈names):∃c,(cellsFrom (h.objs.size+1) names []).lookup x=some c:=by have :=iT (lo:=0) (h:=h.push (lo #[] 0)) (acc:=[]) (Nat.zero_le _) hx;rw[Heap.size_push]at this;exact this.imp fun u' y=>y.1
theorem qE:∀{l:List Str} {x:Str} {i m:Nat},ix l x=some i->ix (l.take m) x=if i<m then some i else none
 |[],_,_,_,h=>xa h
 |y::l,x,i,m,h=>by
  rcases m with _|m
  ·rfl
  ·simp only[List.take_succ_cons]
   unfold ix at h⊢;by_cases q:y=x
   ·rw[if_pos q]at h⊢;(apply af (h));rw[if_pos (Nat.succ_pos m)]
   ·rw[if_neg q]at h⊢
    exact ay h fun j hj e=>by
     (clear h q;subst e)
     rw[qE (m:=m) hj];by_cases Pk:j<m
     ·rw[if_pos Pk,if_pos (Nat.succ_lt_succ Pk)];rfl
     ·rw[if_neg Pk,if_neg (fun w=>Pk (Nat.lt_of_succ_lt_succ w))];rfl
theorem Tq{P:Prop}{n:Nat}(h:n+1=0):P:=nomatch h
theorem yk{kf:Str->Option NameKind}{x:Str}(hx:kf x=some .local):∀{names:List Str} {vals:List Value} {m:Str->Option Value},names.length=vals.length->names.Nodup->
  bindL kf (names.zip vals) m x=(ix names x).elim (m x) fun i=>vals[i]?:=by
 intro names
 induction names with
 |nil=>intro vals m _ _;rfl
 |cons y names ih=>
  intro vals m hl hn;rcases vals with _|⟨v,vals⟩
  ·exact Tq hl
  refine cJ (List.nodup_cons.mp hn) fun n1 n2=>?_;have ih:=ih (vals:=vals) (m:=if kf y=some .local then fun z=>if z=y then some v else m z else m) (Nat.succ.inj hl) n2
  show bindL kf (names.zip vals) _ x=_;simp only[ih,dO];by_cases q:y=x
  ·(clear ih hn hl n2;subst q)
   rw[qi (by rw[Bool.eq_false_iff,ne_eq,List.contains_iff_mem];exact n1),if_pos rfl,if_pos hx];exact if_pos rfl
  ·rw[if_neg q]
   clear hx ih hn hl n1 n2;cases h:ix names x with
   |some i=>rfl
   |none=>
    show(if kf y=some .local then fun z=>if z=y then some v else m z else m) x=_
    split
    ·exact if_neg (Ne.symm q)
    ·rfl
theorem yl{kf:Str->Option NameKind}{x:Str}(hx:kf x≠some .local):∀{names:List Str} {vals:List Value} {m:Str->Option Value},names.length=vals.length->names.Nodup->
  PySem.bindC kf (names.zip vals) m x=(ix names x).elim (m x) fun i=>vals[i]?:=by
 intro names
 induction names with
 |nil=>intro vals m _ _;rfl
 |cons y names ih=>
  intro vals m hl hn;rcases vals with _|⟨v,vals⟩
  ·exact Tq hl
  refine cJ (List.nodup_cons.mp hn) fun n1 n2=>?_;have ih:=ih (vals:=vals) (m:=if kf y=some .local then m else fun z=>if z=y then some v else m z) (Nat.succ.inj hl) n2
  show PySem.bindC kf (names.zip vals) _ x=_;simp only[ih,dO];by_cases q:y=x
  ·(clear ih hn hl n2;subst q)
   rw[qi (by rw[Bool.eq_false_iff,ne_eq,List.contains_iff_mem];exact n1),if_pos rfl,if_neg hx];exact if_pos rfl
  ·rw[if_neg q]
   clear hx ih hn hl n1 n2;cases h:ix names x with
   |some i=>rfl
   |none=>
    show(if kf y=some .local then m else fun z=>if z=y then some v else m z) x=_
    split
    ·rfl
    ·exact if_neg (Ne.symm q)
structure oE(B:Base)(aF:List Str)(g:bf)(K:Frag)(mg:Str->Option Value)(a:Addr)(f:Fn)(o:Obj)(fd:FuncData)(body:List Stmt)(M:List Str)(dv kv:List Value):Prop where
 fn:fnIn K a=true
 at_:B.h.get? a=some o
 data:o.data= .func fd
 code:B.h.CodeRec fd.code fd.qualname
 j8:fd.body= .stmts body
 K5:fd.closure=[]
 co:fd.scope.isCoroutine=false
 gen:fd.scope.isGenerator=false
 kind:fd.scope.kind= .function
 tO:fd.globals=mainGlobals
 blt:fd.builtins=builtinsNs
 free:∀p∈fd.scope.names,p.2≠ .free
 text:zF aF M g 200 fd.scope f.ns body=some f.body
 RZ:∀φ,bz φ f.df dv
 R0:∀φ,bz φ f.kd kv
 len:f.np+f.kd.length<=f.ns.length
 nd:(f.ns.take (f.np+f.kd.length)).Nodup
 loc:∀x∈f.ns,fd.scope.names.lookup x=some .local\/fd.scope.names.lookup x=some .cell
 o0:f.o0=true->∀x,ix f.ns x=some 0->fd.scope.names.lookup x=some .local
 lam:fd.scope.names.lookup ("parsed_qnames":Str)=some .local->∃q0,kB B mg fd.code q0
 bind:∀(s:Shared) (aP:List Value),(∀b o,B.h.get? b=some o->s.heap.get? b=some o)->f.np<=aP.length+f.df.length->aP.length<=f.np->
  BindsTo s fd ⟨aP,[]⟩ ((f.ns.take (f.np+f.kd.length)).zip (aP++dv.drop (aP.length+f.df.length -f.np)++kv))
noncomputable def NX (B:Base) (aF:List Str) (g:bf) (K:Frag) (mg:Str->Option Value) (a:Addr) (f:Fn):Prop:=∃o fd body M dv kv,oE B aF g K mg a f o fd body M dv kv
section
variable{α β:Type}{R R':α->β->Prop}
theorem cQ.get:∀{l:List α} {m:List β},cQ R l m->∀{i:Nat} {a:α},l[i]?=some a->∃b,m[i]?=some b/\R a b
 |[],_,_,i,a,e=>xa e
 |c::l,m,x,i,a,e=>x.elim fun b x=>x.elim fun r x=>by
  rw[x.1];rcases i with _|i
  ·exact⟨b,rfl,Option.some.inj e▸x.2.1⟩
  ·exact x.2.2.get (i:=i) e
end
section
variable{B:Base}{aF:List Str}{g:bf}{K:Frag}{mg:Str->Option Value}{φ:Ph}{G:Gs}{s s1:Shared}{a:Addr}{f:Fn}{o:Obj}{fd:FuncData}{body:List Stmt}{M:List Str}{dv kv:List Value}
theorem qF{e:En}{i:Nat}{z:SL}(h:e[i]?=some z):sl e i=z:=by unfold sl;rw[List.getD_eq_getElem?_getD,h];rfl
theorem qH{e:En}{i:Nat}(h:e[i]?=none):sl e i= .no:=by unfold sl;rw[List.getD_eq_getElem?_getD,h];rfl
theorem Bu{zs:List SL}{us:List V}{n:Nat}(tl:∀z l,zs=z::l->((∃v,z= .v v)\/z.pS=true)/\∀y∈l,∃v,y= .v v)(i:Nat):
  (sl (zs++(us.map .v++List.replicate n .no)) i= .no\/∃v,sl (zs++(us.map .v++List.replicate n .no)) i= .v v)\/i=0/\∃z l,zs=z::l/\z.pS=true/\sl (zs++(us.map .v++List.replicate n .no)) i=z:=by
 have rest:∀y∈us.map SL.v++List.replicate n .no,y= .no\/∃v,y= .v v:=fun y hy=>by
  rcases List.mem_append.mp hy with hy|hy
  ·exact .inr ((List.mem_map.mp hy).imp fun v q=>q.2.symm)
  ·exact .inl (List.mem_replicate.mp hy).2
 cases h:(zs++(us.map SL.v++List.replicate n .no))[i]? with
 |none=>rw[qH h];exact .inl (.inl rfl)
 |some y=>
  rw[qF h];have hm:=List.mem_of_getElem? h;rcases zs with _|⟨z,l⟩
  ·exact .inl (rest y hm)
  ·refine cJ (tl z l rfl) fun t1 t2=>?_
   clear tl;rcases i with _|i
   ·(revert hm;apply af (h);intro hm)
    rcases t1 with t1|t1
    ·exact .inl (.inr t1)
    ·exact .inr ⟨rfl,_,_,rfl,t1,rfl⟩
   ·have hm':=List.mem_of_getElem? (l:=l++(us.map SL.v++List.replicate n .no)) (i:=i) h
    rcases List.mem_append.mp hm' with hm'|hm'
    ·exact .inl (.inr (t2 y hm'))
    ·exact .inl (rest y hm')
theorem call_cells{prog:Program}{w:World}{A:Around}{s:Shared}{R:Result->Shared->Prop}{a:Addr}{o:Obj}{fd:FuncData}{body:List Stmt}{vals:List Value}{binds:List (Str×Value)}
  (hroom:A.depth<recursionLimit)(ho:s.heap.get? a=some o)(hdata:o.data= .func fd)(hlim:s.heap.NoLimit)(hcd:s.heap.CodeRec fd.code fd.qualname)
  (hbody:fd.body= .stmts body)(hbind:BindsTo s fd ⟨vals,[]⟩ binds)(hclo:fd.closure=[])
  (hkind:∀x∈binds,fd.scope.names.lookup x.1=some .local\/(fd.scope.names.lookup x.1=some .cell/\((cellsFrom (s.heap.objs.size+1) fd.scope.names []).lookup x.1).isSome=true))
  (h:∀s₁,InCallC s (callEnvC fd s.heap.objs.size a).locals (bindL (callEnvC fd s.heap.objs.size a).kindOf binds fun _=>none) (callEnvC fd s.heap.objs.size a).cells
    (PySem.bindC (callEnvC fd s.heap.objs.size a).kindOf binds fun _=>none) s₁->s.toks<=s₁.toks->
   wpAny (model prog w) (A.deeper (callEnvC fd s.heap.objs.size a)) (execs body (callEnvC fd s.heap.objs.size a)) (fun f s'=>R (.ok (.ret (match f with| .ret v=>v|_=>.none))) s')
    (fun e s'=>wpAny (model prog w) (A.deeper (callEnvC fd s.heap.objs.size a)) (leaving (callEnvC fd s.heap.objs.size a) e) (fun u' s''=>R (.error e) s'') (fun e' s''=>R (.error e') s'') s') s₁)
  (hco:fd.scope.isCoroutine=false)(hgen:fd.scope.isGenerator=false)(hk:fd.scope.kind= .function):
  codeAny (model prog w) A (.call (.ref a) ⟨vals,[]⟩) R s:=by
 refine codeAny_call_function hroom ho hdata hco hgen hbody hcd (hbind _ _ _ _ ?_);rw[hclo];refine wpAny_with_toks (Nat.le_refl _) (wpAny_newFunctionEnv_cells hk hkind fun env he s' x ht=>?_)
 (clear hroom ho hdata hcd hbody hbind hclo hkind hco hgen hk;subst he)
 exact⟨hlim.keeps x.toInCall.keep,codeAny_func (h s' x ht)⟩
theorem wD{α β:Type}{l:List α}{m:List β}{p:α×β}(h:p∈l.zip m):p.1∈l:=(List.of_mem_zip h).1
theorem jz{zs:List SL}{e:En}(h:fL f zs=some e):(f.np<=zs.length+f.df.length/\zs.length<=f.np/\(f.o0|| !(sl zs 0).pS)=true)/\e=zs++((f.df.drop (zs.length+f.df.length -f.np)++f.kd).map .v++List.replicate (f.ns.length -(f.np+f.kd.length)) .no):=ak h fun c h=>⟨c,(Option.some.inj h).symm⟩
theorem ym(F:oE B aF g K mg a f o fd body M dv kv)(I:Inv B φ G s){zs:List SL}{aP:List Value}{e:En}(hv:rY B φ s.heap zs aP)(he:fL f zs=some e):
  e.length=f.ns.length/\(f.ns.take (f.np+f.kd.length)).length=(aP++dv.drop (aP.length+f.df.length -f.np)++kv).length/\
  (∀y i,ix f.ns y=some i->SR B φ s.heap.objs.size s.heap (sl e i) ((ix (f.ns.take (f.np+f.kd.length)) y).elim none fun j=>(aP++dv.drop (aP.length+f.df.length -f.np)++kv)[j]?))/\
  ∀i,(sl e i= .no\/∃v,sl e i= .v v)\/(i=0/\(sl e 0).tQ=false/\z8 zs B.sf s.heap B.sf/\∀y,ix f.ns y=some 0->fd.scope.names.lookup y=some .local/\((ix (f.ns.take (f.np+f.kd.length)) y).elim none fun j=>(aP++dv.drop (aP.length+f.df.length -f.np)++kv)[j]?)=some (.ref B.sf)):=by
 refine cJ (jz he) fun I5 I6=>?_;obtain⟨q1,q2,q3⟩:=I5;subst I6;have Gv:=hv.sr _ (Inv.bL s);have hvl:=Gv.len;have hdl:=(F.RZ φ).length;have Vo:=(F.R0 φ).length;have hlen:=F.len;have st:=Bu (us:=f.df.drop (zs.length+f.df.length -f.np)++f.kd) (n:=f.ns.length -(f.np+f.kd.length)) hv.tl;have NY:cQ (fun z c=>SR B φ s.heap.objs.size s.heap z (some c)) (zs++(f.df.drop (zs.length+f.df.length -f.np)++f.kd).map .v) (aP++dv.drop (aP.length+f.df.length -f.np)++kv):=by rw[<-hvl,List.append_assoc];exact Gv.app (((F.RZ φ).drop _).append (F.R0 φ)).args
 have Pn:(zs++(f.df.drop (zs.length+f.df.length -f.np)++f.kd).map SL.v).length=f.np+f.kd.length:=by simp only[List.length_append,List.length_map,List.length_drop];omega
 rw[<-List.append_assoc]at st⊢;have h0':∀z l,zs=z::l->0<f.np+f.kd.length:=fun z l h0=>by rw[h0]at q2;simp only[List.length_cons]at q2;omega
 have Tt:∀r,aP= .ref B.sf::r->(aP++dv.drop (aP.length+f.df.length -f.np)++kv)[0]?=some (.ref B.sf):=fun r h=>by rw[h];rfl
 generalize zs++(f.df.drop (zs.length+f.df.length -f.np)++f.kd).map SL.v=us at NY Pn st;generalize aP++dv.drop (aP.length+f.df.length -f.np)++kv=Tu at NY Tt;refine⟨by rw[List.length_append,Pn,List.length_replicate];omega,by rw[List.length_take,<-NY.len,Pn];omega,fun y i hy=>?_,fun i=>?_⟩
 ·rw[qE hy]
  by_cases Tv:i<f.np+f.kd.length
  ·rw[if_pos Tv]
   have hi:i<us.length:=by omega
   refine av (NY.get (List.getElem?_eq_getElem hi)) fun cv h1 h2=>?_;show SR _ _ _ _ _ Tu[i]?
   rw[h1,qF (by rw[List.getElem?_append_left hi];exact List.getElem?_eq_getElem hi)];exact h2
  ·rw[if_neg Tv]
   cases h:(us++List.replicate (f.ns.length -(f.np+f.kd.length)) SL.no)[i]? with
   |none=>rw[qH h];rfl
   |some z=>rw[qF h];rw[List.getElem?_append_right (by omega)]at h;rw[(List.mem_replicate.mp (List.mem_of_getElem? h)).2];rfl
 ·refine(st i).imp id fun bE=>cJ bE fun h NZ=>aI NZ fun z l h0 h1 h2=>?_;clear NZ
  clear I q1 q2 he Gv hvl hdl Vo hlen Pn st NY bE;subst h;refine⟨rfl,(by rw[h2];rcases z with⟨⟩ <;> first|rfl|exact xc h1),⟨⟨z,l,h0,h1⟩,.inl rfl⟩,fun y hy=>⟨F.o0 ?_ y hy,?_⟩⟩
  ·rcases(Bool.or_eq_true ..).mp q3 with q|q
   ·exact q
   ·rw[h0,show sl (z::l) 0=z from rfl,h1]at q;exact xc q
  ·rw[qE hy,if_pos (h0' z l h0)]
   exact(hv.s0 z l h0 h1).elim Tt
theorem pH(F:oE B aF g K mg a f o fd body M dv kv)(I:Inv B φ G s){zs:List SL}{aP:List Value}{e:En}(hv:rY B φ s.heap zs aP)(he:fL f zs=some e)
  (x:InCallC s (callEnvC fd s.heap.objs.size a).locals (bindL (callEnvC fd s.heap.objs.size a).kindOf ((f.ns.take (f.np+f.kd.length)).zip (aP++dv.drop (aP.length+f.df.length -f.np)++kv)) fun _=>none) (callEnvC fd s.heap.objs.size a).cells
    (PySem.bindC (callEnvC fd s.heap.objs.size a).kindOf ((f.ns.take (f.np+f.kd.length)).zip (aP++dv.drop (aP.length+f.df.length -f.np)++kv)) fun _=>none) s1):
  dY (B.at (callEnvC fd s.heap.objs.size a::B.fl) B.sf) (callEnvC fd s.heap.objs.size a) f.ns φ e s1.heap/\∀b,dw (callEnvC fd s.heap.objs.size a) f.ns e s1.heap b->z8 zs B.sf s.heap b:=by
 refine bW (I.free (Inv.bL s)) fun n1 n2 n3 n4=>?_;refine bW (ym F I hv he) fun len hcl val st=>?_;generalize aP++dv.drop (aP.length+f.df.length -f.np)++kv=Tu at val st hcl x;have nL:∀i,¬(sl e i).tQ=true:=fun i q=>by
  (clear hv he n4;rcases st i with(h|⟨v,h⟩)|⟨rfl,h,_⟩)
  ·rw[h]at q;exact xc q
  ·rw[h]at q;exact xc q
  ·rw[h]at q;exact xc q
 have kc:∀y,jb ((callEnvC fd s.heap.objs.size a).kindOf y)=true->fd.scope.names.lookup y=some .cell:=fun y hk=>by
  rcases(Bool.or_eq_true ..).mp hk with hk|hk
  ·exact eq_of_beq hk
  ·exact absurd rfl (F.free _ (lookup_mem (eq_of_beq hk)))
 have bl:=fun y hk=>yk (kf:=(callEnvC fd s.heap.objs.size a).kindOf) (x:=y) (m:=fun _=>none) hk hcl F.nd;have nm:=x.toInCall.ns;have loc:Loc (B.at (callEnvC fd s.heap.objs.size a::B.fl) B.sf) (callEnvC fd s.heap.objs.size a) f.ns φ e s1.heap _:=⟨nm,fun y i hy hk=>by rw[bl y hk];exact SR.keep (B:=B) (.refl _) (fun b o q u' ho _=>⟨⟨q.f,q.mu,q.tb,fun hm=>(List.mem_cons.mp hm).elim q.L q.fr,q.L⟩,x.toInCall.keep b o ho⟩) (val y i hy),fun y y' i j u' u' u' u' u' h=>absurd h (nL i),fun y hy hk ho=>by
  rw[bl y hk];rcases st 0 with(h|⟨v,h⟩)|⟨_,_,_,h⟩
  ·rw[h]at ho;exact xc ho
  ·rw[h]at ho;exact xc ho
  ·exact(h y hy).2⟩
 refine⟨⟨F.kind,F.tO,F.blt,⟨_,F.code,rfl⟩,len,n1,n2,n3,⟨_,loc⟩,fun y i hy hk=>?_,fun y z c h1 h2=>name_of_addr x.apart (mem_of_lookup h1) (mem_of_lookup h2)⟩,fun b bE=>bw bE fun m y i hm hy hk hw=>?_⟩
 ·have hc:=kc y hk
  refine bK (lD (h:=s.heap) (lookup_mem hc)) fun c h1=>?_;have h3:=x.above y c (mem_of_lookup h1);refine bW (I.free (Heap.get?_none_of_le (Nat.le_of_lt h3):s.heap.get? c=none)) fun m1 m2 m3 m4=>?_;refine⟨c,h1,m1,m2,m3,fun q=>absurd h3 (q▸Nat.lt_irrefl _),_,x.cell y c h1,?_⟩;rw[yl (by rw[show(callEnvC fd s.heap.objs.size a).kindOf y=_ from hc];exact fun q=>nomatch q) hcl F.nd];have vl:=val y i hy
  (clear F I hv he n1 n2 n3 n4 len hcl nL kc h1 h3 m1 m2 m3 m4;rcases st i with(h|⟨v,h⟩)|⟨rfl,_,_,h⟩)
  ·rw[h]at vl⊢;exact .inl ⟨rfl,vl⟩
  ·rw[h]at vl⊢;exact .inr (vl.elim fun u q=>⟨v,u,rfl,q⟩)
  ·exact nomatch hc.symm.trans (h y hy).1
 ·(clear F I hv he n1 n2 n3 n4 len hcl nL kc;obtain rfl:=(bR hm nm))
  have sr:=loc.sr y i hy hk;clear nm loc hm;obtain⟨_,a0,w1,w2⟩:=id hw;rcases st i with(h|⟨v,h⟩)|⟨rfl,_,hx,h⟩
  ·rw[h]at sr
   exact xa (Eq.trans (Eq.symm sr) w1)
  ·exact absurd h (hw.1 v)
  ·have wb:B.sf=a0:=Value.ref.inj (Option.some.inj (((bl y hk).trans (h y hy).2).symm.trans w1))
   rw[<-wb]at w2;refine⟨hx.1,w2.imp id fun bE=>av bE fun o' g1 g2=>?_⟩;have Tw:=val y 0 hy;rw[(h y hy).2]at Tw;refine cJ (Tw.own (b:=B.sf) ⟨hw.1,B.sf,rfl,.inl rfl⟩) fun u' N1=>bu N1 fun a1 p q1 u' g _=>?_;clear N1;have e1:B.sf=a1:=Value.ref.inj (Option.some.inj q1);rw[<-e1]at g;exact⟨p,g,Option.some.inj ((x.toInCall.keep _ _ g).symm.trans g1)▸g2⟩
end
end Mine.Internal
end
noncomputable section
open PySem PySem.W PyProof.Rows
namespace Mine.Internal
section
variable{B:Base}{X Y:Addr->Prop}{T:aM}{aF:List Str}{K:Frag}{prog:Program}{w:World}{g:bf}{mg mb:Str->Option Value}{φ az l8:Ph}{G G' ja:Gs}{s s' s'':Shared}
theorem dK.at(O:dK B T)(l:List Env)(a:Addr):dK (B.at l a) T:=⟨O.sys,O.wc,O.aF,O.oN,O.jn⟩
theorem dM.at(C:dM B T K)(l:List Env)(a:Addr):dM (B.at l a) T K:=⟨C.uh,C.jD,C.ic,C.bnd,C.rF,C.eU⟩
theorem yV.at(G:yV B mg mb)(l:List Env)(a:Addr):yV (B.at l a) mg mb:=⟨G.g,G.b,G.lim,G.bi⟩
theorem oE.at{a:Addr}{f:Fn}{o:Obj}{fd:FuncData}{body:List Stmt}{M:List Str}{dv kv:List Value}(F:oE B aF g K mg a f o fd body M dv kv)(l:List Env)(b:Addr):oE (B.at l b) aF g K mg a f o fd body M dv kv:=
 ⟨F.fn,F.at_,F.data,F.code,F.j8,F.K5,F.co,F.gen,F.kind,F.tO,F.blt,F.free,F.text,F.RZ,F.R0,F.len,F.nd,F.loc,F.o0,fun q=>(F.lam q).imp fun u' y=>y.at l b,F.bind⟩
theorem Inv.push(I:Inv B φ G s){env:Env}{L:Addr}(hk:env.scope.kind≠ .module)(hf:env.frame=some L)(h1:φ.f L=none)(h2:¬φ.mu L)(h3:L≠B.tb){m:Str->Option Value}(hn:s.heap.Ns L m):Inv (B.at (env::B.fl) B.sf) φ G s:=
 ⟨I.P,I.keep,I.base,I.tab,I.tN,I.qZ,I.mT,I.gens,I.os,fun e he=>(List.mem_cons.mp he).elim (fun q=>hn.elim fun o y=>y.elim fun es y=>y.elim fun ep y=>⟨q▸hk,L,o,q▸hf,h1,h2,h3,y.1,es,ep,y.2.1⟩) (I.frs e),I.tk,⟨I.wr.log,I.wr.wr,I.wr.l7,I.wr.CP,I.wr.cn⟩⟩
theorem Step.pop(x:Step B No φ s az G' s'){env:Env}{L sf:Addr}(hf:env.frame=some L)(y:Step (B.at (env::B.fl) sf) Y az s' l8 ja s'')(hL:Y L)(hy:∀b,Y b->X b\/s.heap.get? b=none):Step B X φ s l8 ja s'':=by
 have J:=y.inv;have fr:∀b,¬Y b->b∉B.frs->b∉(B.at (env::B.fl) sf).frs:=fun b h1 hb hm=>by have hm':b∈(env::B.fl).filterMap (·.frame):=hm;simp only[List.filterMap_cons,hf]at hm';exact(List.mem_cons.mp hm').elim (fun q=>h1 (q▸hL)) hb
 have y':Step B Y az s' l8 ja s'':=⟨y.le,⟨J.P,J.keep,J.base,J.tab,J.tN,J.qZ,J.mT,J.gens,J.os,fun e he=>J.frs e (List.mem_cons_of_mem _ he),J.tk,⟨J.wr.log,J.wr.wr,J.wr.l7,J.wr.CP,J.wr.cn⟩⟩,fun b o e h1 h2 h3=>(y.kept b o e h1 h2 h3).imp id fun q hb=>q (fr b h1 hb),y.live,y.new,y.yM,y.gk⟩;exact(x.weak fun u' q=>q.elim).hide y' hy
theorem Bv{ce:Env}{ns:List Str}{e:En}{l:List Env}{h:Heap}(x:dY (B.at l B.sf) ce ns φ e h)(hc:∀y,ix ns y=some 0->ce.kindOf y=some .local\/ce.kindOf y=some .cell)(hl:∀b,b∈B.frs->b∈(B.at l B.sf).frs):Mm B φ h (sl e 0):=fun ho=>by
 cases hn:ns with
 |nil=>have :sl e 0= .no:=qH (List.getElem?_eq_none (by rw[x.len,hn];exact Nat.le_refl _));rw[this]at ho;exact xc ho
 |cons y r=>
  have hy:ix ns y=some 0:=by rw[hn,dO,if_pos rfl]
  rcases hc y hy with hk|hk
  ·refine bK (x.loc) fun m hm=>?_
   have sr:=hm.sr y 0 hy hk;simp only[hm.s0 y hy hk ho]at sr;exact⟨ce.locals,SR.keep (B:=B.at l B.sf) (.refl _) (fun b o q u' ho _=>⟨⟨q.f,q.mu,q.tb,fun w=>q.fr (hl b w),q.L⟩,ho⟩) sr⟩
  ·refine av (x.oh y 0 hy (by rw[hk];rfl)) fun c u' c2=>?_
   refine av (c2.v) fun u' u' c3=>?_;rcases c3 with⟨q,_⟩|⟨_,_,q,_⟩ <;> (rw[q]at ho;(clear x hc hl hn hy hk c2 q;cases ho))
theorem EK{P:Prop}{F:Addr->Option Fn}{n:Nat}{a:Addr}{zs:List SL}{r:V×SL×Gs}(h:aj T F (n+1) a zs G=some r)(k:∀f e q,F a=some f->fL f zs=some e->aN T (aj T F n) f.body e G=some q->(match q.1 with| .aS=>some (V.c .none,sl q.2.1 0,q.2.2)| .ret v=>some (v,sl q.2.1 0,q.2.2))=some r->P):P:=by exact bindC h fun f hf h=>bindC h fun e he h=>bindC h fun q hq h=>k f e q hf he hq h
theorem Bw(Tr:∀{k:Ks} {l:List Env} {a:Addr} {ce:Env} {ns:List Str},k.B=B.at l a->k.T=T->k.K=K->k.g=g->k.mg=mg->l.head?=some ce->(ce.kindOf "parsed_qnames"=some .local->∃q0,kB k.B k.mg ce.code q0)->cD k->nR k ce ns)(hP:B.P=w.params)(O:dK B T)(C:dM B T K)(Gl:yV B mg mb)(N:mH g mg){F:Addr->Option Fn}(HF:∀a f,F a=some f->NX B aF g K mg a f):
  ∀n,fq B prog w K (aj T F n) n
 |0=>fun a zs r z G G' h=>xa h
 |n+1=>fun a zs r z G G' h=>EK h fun f e q hf he hq h=>by
  refine fJ (HF _ _ hf) fun o fd body N2=>fJ N2 fun M dv kv N3=>?_;clear N2;refine⟨N3.fn,fun fl sf A R φ s aP Rr I hv kk=>?_⟩;have Fi:=N3.at fl sf;have kp:=I.kb;have hvl:=(hv.sr _ (Inv.bL s)).len;have b1:=(jz he).1;refine call_cells (by have :=Rr.d;omega) (kp _ _ Fi.at_) Fi.data ((Gl.at fl sf).limit I) (Fi.code.imp fun c y=>y.imp fun o y=>y.imp fun vs y=>y.imp fun t y=>⟨y.1,kp _ _ y.2.1,y.2.2⟩) Fi.j8 (Fi.bind s aP kp (by omega) (by omega)) Fi.K5 (fun x hx=>(Fi.loc _ (List.mem_of_mem_take (wD hx))).imp id fun h1=>⟨h1,by refine bK (lD (h:=s.heap) (lookup_mem h1)) fun c hc=>?_;rw[hc];rfl⟩) (fun s1 x hts=>?_) Fi.co Fi.gen Fi.kind;have Gp:Step (B.at fl sf) No φ s φ G s1:=by refine gY (x.toInCall.same) fun h' tk N5=>?_;(clear hf N3 kp hvl b1;subst N5);exact Step.more I x.toInCall.keep hts
  refine bW (I.free (Inv.bL s)) fun n1 n2 n3 n4=>?_;refine cJ (pH Fi I hv he x) fun En Ow=>?_;have I1:=Gp.inv.push (env:=callEnvC fd s.heap.objs.size a) (L:=s.heap.objs.size) (by show fd.scope.kind≠_;rw[Fi.kind];exact fun h=>xi ScopeKind.ctorIdx h rfl) rfl n1 n2 n3 x.toInCall.ns;have Si:cD ⟨B.at (callEnvC fd s.heap.objs.size a::fl) sf,T,K,prog,w,aj T F n,n,g,mg,mb⟩:=⟨hP,O.at _ _,C.at _ _,Gl.at _ _,N,Bw Tr hP O C Gl N HF n⟩;have ok:=uK (ce:=callEnvC fd s.heap.objs.size a) (ns:=f.ns) Si (Tr rfl rfl rfl rfl rfl rfl (fun q=>(Fi.lam q).imp fun _ y=>y.at _ _) Si) 200 Fi.text;refine ok.at (e:=e) ⟨(Rr.deeper _ sf).le (Nat.le_refl _),I1,En⟩ hq fun V8 d9 s2 hfl g2=>?_;have st:Step (B.at fl sf) (z8 zs sf s.heap) φ s d9 q.2.2 s2:=Step.pop Gp (env:=callEnvC fd s.heap.objs.size a) (L:=s.heap.objs.size) rfl g2.st (.inl rfl) fun b hb=>?_
  ·have ed:=Bv (B:=B.at fl sf) g2.en (fun y hy=>Fi.loc y (List.mem_of_getElem? (jr hy))) fun b hb=>List.mem_filterMap.mpr ((List.mem_filterMap.mp hb).imp fun e y=>⟨List.mem_cons_of_mem _ y.1,y.2⟩)
   obtain⟨qf,qe,qG⟩:=q;rename_i kU;clear kU;rcases qf with _|v
   ·(obtain rfl:=hfl);(cases h);exact kk _ _ _ rfl st ed
   ·refine av (hfl) fun cv N6 hv'=>?_;(clear Tr hP O C Gl N HF hf he N3 Rr I hv Fi kp hvl b1 hts Gp n1 n2 n3 n4 En I1 Si ok hq hfl g2;subst N6);(revert kk;apply yU (h);intro kk);exact kk _ _ _ hv' st ed
  ·(clear Tr hP O C Gl N HF h hf he hq N3 Rr I hv kk Fi kp hvl b1 hts Gp n1 n2 n3 n4 En I1 Si ok hfl g2;rcases hb with rfl|⟨y,hy,hk,hc⟩|hb)
   ·exact .inr (Inv.bL s)
   ·exact .inr (Heap.get?_none_of_le (Nat.le_of_lt (x.above _ _ (mem_of_lookup hc))))
   ·exact .inl (Ow b hb)
end
end Mine.Internal
end
noncomputable section
open PySem PySem.W PyProof.Rows
namespace Mine.Internal
noncomputable def minus (h:Heap) (l:List Addr):Heap:={h with objs:=h.objs.mapIdx fun i o=>if l.contains i then {cls:=o.cls,data:=.freed}else o}
theorem lE(h:Heap)(l:List Addr)(b:Addr):(minus h l).get? b=if l.contains b then none else h.get? b:=by
 delta minus Heap.get?
 rw[Array.getElem?_mapIdx];cases h.objs[b]? with
 |none=>simp
 |some o=>
  simp only[Option.map_some];by_cases q:l.contains b=true
  ·rw[if_pos q,if_pos q]
  ·rw[if_neg q,if_neg q]
theorem kC{h:Heap}{l:List Addr}{b:Addr}(hb:b∈l):(minus h l).get? b=none:=by rw[lE,if_pos (List.contains_iff_mem.mpr hb)]
theorem uT{h:Heap}{l:List Addr}{b:Addr}{o:Obj}(e:(minus h l).get? b=some o):h.get? b=some o:=by
 rw[lE]at e;by_cases q:l.contains b=true
 ·rw[if_pos q]at e;exact xa e
 ·rw[if_neg q]at e;exact e
theorem pJ{h:Heap}{l:List Addr}{b:Addr}{o:Obj}(hb:b∉l)(e:h.get? b=some o):(minus h l).get? b=some o:=by rw[lE,if_neg (fun z=>hb (List.contains_iff_mem.mp z))];exact e
theorem boot_next:bootBuiltins ("next":Str)=some (.builtin "next"):=by decide+kernel
theorem yo:bootBuiltins ("StopIteration":Str)=some (.type "StopIteration"):=by decide+kernel
theorem Bx:isSubtype (.type "StopIteration") (.type "StopIteration")=pure true:=by rw[isSubtype_type];kernel_rfl
theorem By:isSubtype (.type "StopIteration") (.type "BaseException")=pure true:=by rw[isSubtype_type];kernel_rfl
theorem yp:isSubtype (.type ((Manifest.find? "StopIteration").elim "type" fun x=>x.metatype)) (.type "tuple")=pure false:=by kernel_rfl
section
variable{B:Base}{aF:List Str}{K:Frag}{prog:Program}{w:World}{g:bf}{mg mb:Str->Option Value}{φ:Ph}{G:Gs}{s s5:Shared}{A:Around}{E:Value->Shared->Prop}
theorem sY{it:Addr}{b:Array UInt8}{t:Tok}{i:Nat}{Q:Value->Shared->Prop}(hh:A.handled=none)(hit:KBw.IsBytesIter s.heap it b t i)(hx:b[i]?=none)
  (hE:∀(e:Addr) (h':Heap) (ob:Obj) (vs:Array Value) (a0:Value),(∀b o,b≠it->s.heap.get? b=some o->h'.get? b=some o)->(∃o,h'.get? it=some o)->s.heap.get? e=none->h'.get? e=some ob->ob.cls= .type "StopIteration"->ob.data= .fields vs->vs[1]?=some .none->vs[0]?=some a0->
   E (.ref e) {s with heap:=h'}):
  wpAny (model prog w) A (call (.builtin "next") [.ref it]) Q E s:=by
 refine Calls.call_function_entry (by decide+kernel) (by decide+kernel) kdk_entry_next (kdk_args_next _) ?_;refine wpAny_bind (m:=someArgs "next" 1 2 _) (wpAny_of_eq (a:=[Value.ref it]) (by first|rfl|kernel_rfl!) ?_);dsimp only;refine wpAny_bind (wpAny_specialOf (name:=PySem.Str.ofString "__next__") (KBw.iter_typeIs hit) KBw.slot_next.lookup ?_);refine wpAny_ite_split (fun hab=>absurd hab (by decide)) (fun _=>?_);refine wpAny_bind ?_;refine bN (id hit) fun o ho hc hd=>?_;refine wpAny_callSpecial?_slot (name:=PySem.Str.ofString "__next__") (KBw.iter_typeIs hit) KBw.slot_next
  (wpAny_call_entry KBw.slot_next (KBw.iter_typeIs hit) KBw.entry_next ?_ (KBw.args_next _))
 show wpAny _ _ (field (.ref it) 0>>=_) _ _ s;refine wpAny_bind (wpAny_field ho hd (x:=.bytes b t) rfl ?_);rw[if_neg (show ¬((Value.bytes b t==Value.none)=true)from Bool.false_ne_true)];refine wpAny_bind (wpAny_field ho hd (x:=.int i 0) rfl ?_);refine wpAny_bind (wpAny_of_eq (a:=b) rfl ?_);simp only[Int.toNat_natCast,hx];refine wpAny_bind (wpAny_rule (wpAny_bind (wpAny_setField ho hd (by simp) ?_)));refine wpAny_bind ?_;simp only[newExc,newTuple];refine wpAny_bind (wpAny_newObj_type ?_ (by size_fits));refine wpAny_bind (m:=firstArgMember _ _) (wpAny_of_eq (a:=Value.none) (by first|rfl|(simp only[firstArgMember];rfl)) ?_);refine wpAny_newObj_type ?_ (by size_fits);rw[raiseNew];refine wpAny_bind (wpAny_handled ?_);rw[show A.in1.in1.handled=none from hh];refine wpAny_bind (wpAny_pure (wpAny_throw ?_));have hs:Heap.SameBut it s.heap (s.heap.update it (Obj.mapFields (·.setIfInBounds 0 Value.none))):=Heap.SameBut.update ..;have hi:(s.heap.update it (Obj.mapFields (·.setIfInBounds 0 Value.none))).get? it=some (Obj.mapFields (·.setIfInBounds 0 Value.none) o):=Heap.get?_update_self _ ho (Obj.isFreed_of_fields (Obj.data_mapFields hd _));refine hE _ _ _ _ _ (fun b o hb e=>Heap.get?_push_of_some _ (Heap.get?_push_of_some _ ((hs.2 b hb).trans e))) ⟨_,Heap.get?_push_of_some _ (Heap.get?_push_of_some _ hi)⟩ ?_ (Heap.get?_push_size _ rfl) rfl rfl rfl rfl;refine Heap.get?_none_of_le ?_;have :=hs.1;simp only[Heap.size_push,this];omega
theorem qI{base h':Heap}(I:Inv B φ G s)(hb:∀L∈B.frs,base.get? L=none)(k:∀L o,L∈B.frs->s.heap.get? L=some o->h'.get? L=some o):h'.FunFrames base B.fl:=by
 have key:∀l:List Env,(∀e∈l,e∈B.fl)->h'.FunFrames base l:=fun l=>by
  induction l with
  |nil=>intro _;trivial
  |cons env l ih=>intro hm;obtain⟨q,L,o,h1,h2,h3,h4,h5,es,n,h6⟩:=I.frs env (hm _ List.mem_cons_self);have hL:L∈B.frs:=List.mem_filterMap.mpr ⟨env,hm _ List.mem_cons_self,h1⟩;exact⟨q,⟨L,o,h1,hb L hL,k L o hL h5,fun vs z=>xi Data.ctorIdx (h6.symm.trans z) rfl⟩,ih fun e he=>hm e (List.mem_cons_of_mem _ he)⟩
 exact key B.fl fun u' h=>h
theorem Step.Vp(I0:Inv B φ G s)(t:Step B No φ s φ G s5){h':Heap}{it:Addr}{o1 o2:Obj}(hI:lU B φ it)(h1:s.heap.get? it=some o1)(hp:o1.data≠ .plain){xs:List Addr}(hx:∀b∈xs,s.heap.get? b=none)
  (hk:∀b o,b≠it->b∉B.frs->b∉xs->s5.heap.get? b=some o->h'.get? b=some o)(hf:∀b o,b∈B.frs->s5.heap.get? b=some o->∃sl,h'.get? b=some {o with slots:=sl})(hit:h'.get? it=some o2):
  Step B (fun b=>b=it) φ s (φ.put it o2) G {s5 with heap:=h'}:=by
 have J:=t.inv;have le:=Ph.bD (o:=o2) hI.f;have nx:∀b o,s.heap.get? b=some o->b∉xs:=fun b o e z=>xa ((hx b z).symm.trans e);have Vq:∀b o,φ.f b=some o->b∉B.frs:=fun b o e z=>xa ((I0.fr z).1.symm.trans e);have kf:∀b o,φ.f b=some o->h'.get? b=some o:=fun b o e=>hk b o (fun q=>by subst q;exact xa (hI.f.symm.trans e)) (Vq b o e) (nx b o (I0.keep b o e)) (J.keep b o e);have km:∀b o,φ.mu b->s5.heap.get? b=some o->h'.get? b=some o:=fun b o m e=>(I0.mT b m).2.elim fun p ep=>hk b o (fun q=>hI.mu (q▸m)) (fun z=>(I0.fr z).2.1 m) (nx b p ep) e;refine⟨le,⟨J.P,fun b o e=>(dj e).elim (fun q=>q.1▸q.2▸hit) (kf b o),fun b o e=>le.f _ _ (J.base b o e),?_,(bQ (Ne.symm hI.tb)).trans J.tN,J.qZ,fun b m=>⟨(bQ fun q:b=it=>hI.mu (q▸m)).trans (J.mT b m).1,(J.mT b m).2.imp fun o e=>km b o m e⟩,J.gens,J.os,fun env he=>?_,J.tk,J.wr.keep le rfl rfl rfl km⟩,fun b o e h1 h2 h3=>?_,fun b o e=>?_,fun b o e=>(dj e).elim (fun q=>.inr (.inr q.1)) .inl,fun _=>.inl,t.gk⟩
 ·refine av (J.tab) fun m e ct=>?_
  refine av (I0.tab) fun m0 e0 _=>?_;refine⟨m,hk _ _ (Ne.symm hI.tb) (fun z=>(I0.fr z).2.2.1 rfl) (nx _ _ e0) e,?_⟩;show match φ.lam with|none=>_|some c=>_
  cases hl:φ.lam with
  |none=>rw[hl]at ct;exact ct
  |some c=>rw[hl]at ct;exact ct.imp id fun r=>r.imp fun x r=>r.imp fun vs r=>r.imp fun t r=>r.imp (le.f _ _) id
 ·refine bY (J.frs env he) fun q L o h1 h2 h3 h4 h5 N7=>gY N7 fun es n h6=>?_;clear N7
  have hL:L∈B.frs:=List.mem_filterMap.mpr ⟨env,he,h1⟩;refine bK (hf L o hL h5) fun sl h7=>?_;exact⟨q,L,_,h1,(bQ fun z:L=it=>hI.fr (z▸hL)).trans h2,h3,h4,h7,es,n,h6⟩
 ·refine(t.kept b o e id h2 h3).trans fun o' e'=>?_
  by_cases hb:b∈B.frs
  ·exact⟨hf b o' hb e',fun z=>absurd hb z⟩
  ·exact gZ (hk b o' h1 hb (nx b o e) e')
 ·by_cases hbi:b=it
  ·subst hbi;obtain rfl:=Option.some.inj (h1.symm.trans e);exact⟨o2,hit,fun q=>absurd q hp⟩
  ·refine av (t.live b o e) fun o' e' hpl=>?_
   by_cases hb:b∈B.frs
   ·refine bK (hf b o' hb e') fun sl q=>?_
    refine cG (J.fr hb) fun _ _ N8=>dS N8 fun _ o3 e3 N9=>gY N9 fun _ _ hd=>?_;clear N8 N9
    (rename_i aH _ _ _ _;clear aH;obtain rfl:=Option.some.inj (e3.symm.trans e'))
    exact⟨_,q,fun z=>absurd (hd.symm.trans ((congrArg Obj.data (hpl z)).trans z)) fun q=>xi Data.ctorIdx q rfl⟩
   ·exact⟨o',hk b o' hbi hb (nx b o e) e',hpl⟩
inductive kD(B:Base)(aF:List Str)(g:bf)(K:Frag)(mg:Str->Option Value)(pv:Addr):Prop
 |mk(f:Fn)(o:Obj)(fd:FuncData)(body:List Stmt)(M:List Str)(dv kv:List Value)(bn:Str)(bp:Pos)(yS:Str)(ip np cp ap:Pos)(rest:List Stmt)(F:oE B aF g K mg pv f o fd body M dv kv)(h1:f.np=1)(h2:f.df=[])(h3:f.kd=[])(h4:f.o0=true)(h5:ix f.ns yS=some 0)
  (h6:body= .Assign [.Name bn bp] (.Call (.Name "next" np) [.Name yS ip] [] cp) ap::rest) (h7:fd.scope.names.lookup yS=some .local) (h8:fd.scope.names.lookup ("next":Str)=some .globalImplicit) (h9:ao yS=true) (JV:mg "next"=none) (h11:mg "StopIteration"=none)
theorem kD.fn{B:Base}{aF:List Str}{g:bf}{K:Frag}{mg:Str->Option Value}{pv:Addr}(x:kD B aF g K mg pv):fnIn K pv=true:=by obtain⟨_,_,_,_,_,_,_,_,_,_,_,_,_,_,_,F,_⟩:=x;exact F.fn
theorem kD.stop{B:Base}{aF:List Str}{g:bf}{K:Frag}{mg:Str->Option Value}{pv:Addr}(x:kD B aF g K mg pv):mg "StopIteration"=none:=by obtain⟨_,_,_,_,_,_,_,_,_,_,_,_,_,_,_,_,_,_,_,_,_,_,_,_,_,_,h⟩:=x;exact h
theorem EL(Gl:yV B mg mb){pv:Addr}(Pv:kD B aF g K mg pv){R':Result->Shared->Prop}{it:Addr}{b:Array UInt8}{p:Nat}(I:Inv B φ G s)(Rr:Rm B A 1)(Gv:∀L,s.heap.get? L=none->SR B φ L s.heap (.eH b p) (some (.ref it)))(hb:b[p]?=none)
  (hE:∀(e L2:Addr) (s5:Shared) (h6 h7:Heap) (a0:Value),Step B No φ s φ G s5->s.heap.get? L2=none->s5.heap.get? e=none->(∀b o,b≠it->s5.heap.get? b=some o->h6.get? b=some o)->(∃o,h6.get? it=some o)->
   Heap.FlyingW (minus h6 (e::L2::B.frs)) B.fl e (.type "StopIteration") a0 h7->(∀b o,b∈B.frs->s5.heap.get? b=some o->∃sl,h7.get? b=some {o with slots:=sl})->R' (.error (.ref e)) {s5 with heap:=h7}):
  codeAny (model prog w) A (.call (.ref pv) ⟨[.ref it],[]⟩) R' s:=by
 obtain⟨f,o,fd,body,M,dv,kv,bn,bp,yS,ip,np,cp,ap,rest,F0,f1,f2,f3,fo,f4,rfl,f6,f7,f8,f9,V9⟩:=Pv;have Fi:=F0.at B.fl it;have kp:=I.kb;have hv:rY (B.at B.fl it) φ s.heap [.eH b p] [.ref it]:=⟨fun L hL=>.cons (SR.keep (B:=B) (.refl _) (fun b o q _ ho _=>⟨⟨q.f,q.mu,q.tb,q.fr,q.L⟩,ho⟩) (Gv L hL)) .nil,fun z l e _=>⟨[],rfl⟩,fun z l e=>by cases e;exact⟨.inr rfl,fun y hy=>nomatch hy⟩⟩;obtain⟨e0,O6⟩:∃e0,fL f [.eH b p]=some e0:=by unfold fL;rw[f1,f2,fo];exact⟨_,if_pos ⟨Nat.le_refl _,Nat.le_refl _,rfl⟩⟩
 have hs0:sl e0 0= .eH b p:=by rw[(jz O6).2];rfl
 refine call_cells (by have :=Rr.d;omega) (kp _ _ Fi.at_) Fi.data (Gl.limit I) (Fi.code.imp fun c y=>y.imp fun o y=>y.imp fun vs y=>y.imp fun t y=>⟨y.1,kp _ _ y.2.1,y.2.2⟩) Fi.j8 (Fi.bind s _ kp (by rw[f1];exact Nat.le_add_right _ _) (by rw[f1];exact Nat.le_refl _)) Fi.K5 (fun x hx=>(Fi.loc _ (List.mem_of_mem_take (wD hx))).imp id fun h1=>⟨h1,by refine bK (lD (h:=s.heap) (lookup_mem h1)) fun c hc=>?_;rw[hc];rfl⟩) (fun s1 x hts=>?_) Fi.co Fi.gen Fi.kind;have t1:Step B No φ s φ G s1:=by obtain⟨h',tk,rfl⟩:=x.toInCall.same;exact Step.more I x.toInCall.keep hts
 refine cJ (pH Fi (I.sf it) hv O6 x) fun En _=>?_;have K8:s.heap.get? s.heap.objs.size=none:=Inv.bL s;refine bK (En.loc) fun m hm=>?_;have sr:=hm.sr yS 0 f4 f6;simp only[hs0,hm.s0 yS f4 f6 (by rw[hs0];rfl)]at sr;refine bP (sr) fun _ ob t q1 o1 go g1 g2 _=>?_
 (rename_i aH;clear aH;cases q1)
 have hF:∀b∈B.frs,b≠it:=fun b hb q=>o1.fr (by
  show it∈(callEnvC fd s.heap.objs.size pv::B.fl).filterMap (·.frame);rw[List.filterMap_cons];exact List.mem_cons_of_mem _ (q▸hb))
 have I1:Inv (B.at (callEnvC fd s.heap.objs.size pv::B.fl) it) φ G s1:=by refine bW (I.free K8) fun n1 n2 n3 n4=>?_;exact(t1.inv.sf it).push (env:=callEnvC fd s.heap.objs.size pv) (L:=s.heap.objs.size) (by show fd.scope.kind≠_;rw[Fi.kind];exact fun h=>xi ScopeKind.ctorIdx h rfl) rfl n1 n2 n3 x.toInCall.ns
 refine wpAny_execs_cons (wpAny_Assign_Name ?_ rfl);have hcall:eval (.Call (.Name ("next":Str) np) [.Name yS ip] [] cp) (callEnvC fd s.heap.objs.size pv)=(do callWith cp (<-eval (.Name ("next":Str) np) (callEnvC fd s.heap.objs.size pv)) [] (backTo cp (starEach [.Name yS ip] (callEnvC fd s.heap.objs.size pv))) (backToKw cp (keywordEach [] (callEnvC fd s.heap.objs.size pv)))):=rfl;rw[hcall];refine wpAny_bind (wpAny_Name (yW (Gl.at (callEnvC fd s.heap.objs.size pv::B.fl) it) I1 En f7 f9 (by decide) boot_next ?_) (by decide));refine callWith_of (P:=fun _=>True) rfl (fun _ _=>⟨.machine,.inr (.inl rfl),Looks.of_pure rfl⟩) ?_;refine Calls.evalArgs_plain (Calls.spliced_cons (wpAny_Name (wpAny_loadName_local En.kind f6 hm.nm (hm.s0 yS f4 f6 (by rw[hs0];rfl)) (Calls.spliced_nil ⟨trivial,?_⟩)) (ai f8).1));refine sY (show(A.deeper (callEnvC fd s.heap.objs.size pv)).handled=none from Rr.h) ⟨ob,go,g1,g2⟩ hb fun e h6 oe vs a0 k1 k2 k3 k4 k5 k6 k7 k8=>?_;have Tz:∀b o,b∈B.frs->s1.heap.get? b=some o->h6.get? b=some o:=fun b o hb ho=>k1 b o (hF b hb) ho;refine wpAny_leaving_firstW (base:=minus h6 (e::s.heap.objs.size::B.frs)) (outer:=B.fl) (L:=s.heap.objs.size) (Around.frames_deeper Rr.fr) ⟨(by show fd.scope.kind≠_;rw[Fi.kind];intro h;(rename_i aH;clear aH;cases h)),?_,?_⟩ rfl k4 (fun b o hb=>uT hb) (kC List.mem_cons_self) k6 k7 k8 fun h7 hL=>?_
 ·refine aX (x.toInCall.ns) fun o2 es ep q2 q3 _=>?_
  exact⟨_,o2,rfl,kC (by simp),k1 _ _ (fun q=>o1.L q.symm) q2,fun vs z=>xi Data.ctorIdx (q3.symm.trans z) rfl⟩
 ·exact qI t1.inv (fun L hL=>kC (by simp[hL])) fun L o hL ho=>Tz L o hL ho
 ·refine bW (hL) fun l1 l2 l3 l4=>?_
  rw[k5]at l3;refine hE e _ s1 h6 h7 a0 t1 K8 k3 k1 k2 ⟨l1,kC List.mem_cons_self,l2.2.2,l3⟩ fun b o hb ho=>?_;refine cG (t1.inv.fr hb) fun _ _ Oa=>dS Oa fun _ o' ho' Ob=>gY Ob fun es n hd=>?_;clear Oa Ob
  (rename_i aH _ _ eN _ _;clear aH eN;obtain rfl:=Option.some.inj (ho.symm.trans ho'))
  exact l4 b o (Tz b o hb ho) fun vs z=>xi Data.ctorIdx (hd.symm.trans z) rfl
end
end Mine.Internal
end
noncomputable section
open PySem PySem.W PyProof.Rows
namespace Mine.Internal
theorem BA{α:Type}{st:Stmt}{mk:α->Stmt}{r:α}{f:SV->Option α}(k:∀v,(f v).elim True fun r=>v.st=some (mk r))(h:f (fN st)=some r):st=mk r:=
 have q:(fN st).st=some (mk r):=tells (P:=fun r=>(fN st).st=some (mk r)) (k _) h
 (rM st).elim (fun w=>xa (w.symm.trans q)) fun w=>Option.some.inj (w.symm.trans q)
theorem EM{st:Stmt}{r:Expr×Pos}(h:FU st=some r):st= .Expr r.1 r.2:=BA (mk:=fun r:Expr×Pos=>.Expr r.1 r.2) (f:=SV.zC) (fun v=>by rcases v with⟨⟩ <;> first|rfl|trivial) h
theorem JW{st:Stmt}{r:Expr×Pos}(h:retS st=some r):st= .Return (some r.1) r.2:=BA (mk:=fun r:Expr×Pos=>.Return (some r.1) r.2) (f:=SV.FT) (fun v=>by rcases v with _|⟨_|_,_⟩|_ <;> first|rfl|trivial) h
theorem EN{x:ExceptHandler}{r:Expr×List Stmt×Pos}(h:zD x=some r):x= .ExceptHandler (some r.1) none r.2.1 r.2.2:=tells (P:=fun r:Expr×List Stmt×Pos=>x= .ExceptHandler (some r.1) none r.2.1 r.2.2) (by rcases x with⟨_|_,_|_,_,_⟩ <;> first|rfl|trivial) h
section
variable{k:Ks}{aF:List Str}{ce:Env}{ns:List Str}
theorem qJ{x:SL}{z:Array UInt8×Nat}(h:Hq x=some z):x= .eH z.1 z.2:=tells (P:=fun z:Array UInt8×Nat=>x= .eH z.1 z.2) (by rcases x with⟨⟩ <;> first|rfl|trivial) h
theorem wF{x:SL}{l:List V}(h:CZ x=some l):x= .own l:=tells (P:=fun l:List V=>x= .own l) (by rcases x with⟨⟩ <;> first|rfl|trivial) h
theorem BB{x:V}{a:Addr}(h:PO x=some a):x= .c (.ad a):=tells (P:=fun a:Addr=>x= .c (.ad a)) (by rcases x with⟨⟨⟩⟩|_ <;> first|rfl|trivial) h
theorem JX{x:X}{a:Addr}(h:Sx x=some a):x= .c (.c (.ad a)):=by rcases x with⟨⟩ <;> first|exact xa h|exact congrArg X.c (BB h)
theorem BC(Si:cD k)(Pv:kD k.B aF k.g k.K k.mg k.T.pv)(hce:k.B.fl.head?=some ce){A:Around}{E:Value->Shared->Prop}{Q:Flow->Shared->Prop}{φ:Ph}{G:Gs}{s:Shared}{e:En}{b:Array UInt8}{p i j:Nat}{l:List V}{f:Expr}{t sn:Str}{p1 p2 p3 p4 p5 p6 p7 p8 p9 CE R1:Pos}
  (hti:ix ns t=some i)(htk:ce.kindOf t=some .local)(htp:ao t=true)(hsi:ix ns sn=some j)(mJ:ce.kindOf sn=some .local)(yR:ao sn=true)(hst:ce.scope.names.lookup ("StopIteration":Str)=some .globalImplicit)(hline:(p2.endLine==p5.line)=true)(ha:bM f=false)(hf:bC k ce ns f (.c (.c (.ad k.T.pv))))
  (c:kM k A ce ns φ G s e)(hz:sl e j= .eH b p)(hl:sl e i= .own l)(hb:b[p]?=none)(ho:lone e j=true)
  (kk:∀cv az s',VR az (.list l) cv->dX k.B ce ns e φ s ((e.set j (.v (.sp .gone))).set i (.v (.list l))) az G s'->Q (.ret cv) s'):
  wpAny (model k.prog k.w) A (exec (.Try [.Expr (.Call (.Attribute (.Name t p1) "append" p2) [.Call f [.Name sn p3] [] p4] [] p5) p6] [.ExceptHandler (some (.Name "StopIteration" p7)) none [.Return (some (.Name t p8)) p9] CE] [] [] R1) ce) Q E s:=by
 refine wpAny_Try_except (wpAny_execs_cons (wpAny_Expr_any (wpAny_Call_append rfl rfl hline rfl (wpAny_Name (uF hti htk hl c fun a vs n gl rl hq=>⟨a,vs,rfl,⟨_,n,gl,rfl,rfl,rfl⟩,?_⟩) (ai htp).1)) (by unfold interactive;rw[c.E.kind];rfl) rfl));refine wq fun Q1 E1 u' Vr=>?_;refine gC ha rfl hf c (G':=G) (r:=.c (.ad k.T.pv)) rfl fun cf aO s1 h1 t1=>?_
 (clear hline ha hf gl rl hq;subst h1)
 have c1:=c.step t1;refine bK (c1.E.loc) fun m hm=>?_;have sr:=hm.sr sn j hsi mJ;rw[hz]at sr;refine bP (sr) fun it oi tk m1 o1 gi b1 b2 b3=>?_;refine callWith_of (P:=fun hp=>bA (model k.prog k.w) hp (.ref k.T.pv)) rfl (fun u' z=>z) (ee (wpAny_Name (wpAny_loadName_local c1.E.kind mJ hm.nm m1 ⟨jV (Si.C.uh.keeps t1.inv.kb) Pv.fn,?_⟩) (ai yR).1));have AG:gW (sl e j) (m sn) s1.heap it:=by rw[hz];exact⟨fun u q=>(xi SL.ctorIdx q rfl),it,m1,.inl rfl⟩
 refine wpAny_call (EL Si.G Pv t1.inv (c.R.le (Nat.le_add_left 1 (2*k.n+1))) (fun L hL=>⟨it,oi,tk,rfl,⟨o1.f,o1.mu,o1.tb,o1.fr,fun q=>by subst q;exact xa (hL.symm.trans gi)⟩,gi,b1,b2,b3⟩) hb fun e5 L2 s5 h6 h7 a0 t5 K8 TA k1 k2 hfl R2=>?_);refine bK (List.head?_eq_some_iff.mp hce) fun outer JY=>?_;obtain⟨L,hL⟩:∃L,ce.frame=some L:=(t1.inv.frs ce (by rw[JY];exact List.mem_cons_self)).2.imp fun L y=>y.elim fun o y=>y.1;rw[JY]at hfl;have stay:∀b o,b≠it->b∉k.B.frs->b≠L2->s5.heap.get? b=some o->(minus h6 (e5::L2::k.B.frs)).get? b=some o:=fun b o h1 h2 h3 h4=>pJ (fun q=>by
  rcases List.mem_cons.mp q with rfl|q
  ·exact xa (TA.symm.trans h4)
  ·exact(List.mem_cons.mp q).elim h3 h2) (k1 b o h1 h4)
 refine Vr _ _ ?_;refine wpAny_looks_onW (L:=L) (by rw[c.R.fr,JY]) hL hfl fun h8 Vs u8=>wpAny_landsW Vs fun h9 yq u9=>?_;have bs:∀b o,k.B.h.get? b=some o->(minus h6 (e5::L2::k.B.frs)).get? b=some o:=fun b o hb'=>stay b o (fun q=>by subst q;exact xa (o1.f.symm.trans (t1.inv.base _ _ hb'))) (fun q=>xa ((t1.inv.fr q).1.symm.trans (t1.inv.base _ _ hb'))) (fun q=>by subst q;exact xa (K8.symm.trans (t1.inv.kb b o hb'))) (t5.inv.kb b o hb');refine wpAny_handleBy_builtin (X:="StopIteration") (T:="StopIteration") (b:=true) By yp Bx (wpAny_Name ?_ (by decide));rw[fV c.E hst];unfold loadGlobal;have hstop:=Pv.stop;refine wpAny_bind (wpAny_nsGet (m:=k.mg) (by rw[c.E.tO];exact gq Si.G.g fun b o hb'=>yq.1 b o (bs b o hb')) ?_);rw[hstop];refine wpAny_bind (wpAny_nsGet (m:=k.mb) (by rw[c.E.blt];exact gq Si.G.b fun b o hb'=>yq.1 b o (bs b o hb')) ?_);rw[Si.G.bi _ (by decide),yo];refine wpAny_pure ⟨rfl,yq.there,?_⟩;rw[if_pos rfl];refine wpAny_setFlight_noneW yq.1 yq.2.2.1 yq.2.2.2.at fun JV Oc u' u' Vt=>?_;have R3:∀b o,b∈k.B.frs->s5.heap.get? b=some o->∃sl,JV.get? b=some {o with slots:=sl}:=fun b o hb' ho=>by
  refine cG (t5.inv.fr hb') fun u' u' Od=>dS Od fun u' o' ho' Oe=>gY Oe fun es nn hd=>?_;clear Od Oe
  (obtain rfl:=Option.some.inj (ho.symm.trans ho'))
  have nf:∀sl vs,({o with slots:=sl}:Obj).data≠ .fields vs:=fun sl vs q=>xi Data.ctorIdx (hd.symm.trans (q:o.data= .fields vs)) rfl;refine bK (R2 b o hb' ho) fun s1' RS=>?_;refine bK (u8 b _ RS (nf _)) fun s2' QC=>?_;refine bK (u9 b _ QC (nf _)) fun Vu Vv=>?_;exact⟨Vu,Vt b _ Vv (nf _)⟩
 refine bK (k2) fun o2 ho2=>?_;have Of:JV.get? it=some o2:=Oc it o2 (pJ (fun q=>by
  rcases List.mem_cons.mp q with q|q
  ·subst q;exact xa (TA.symm.trans (t5.kept it oi gi id o1.tb (t5.di gi o1.mu id) |>.2 o1.fr))
  ·rcases List.mem_cons.mp q with q|q
   ·subst q;exact xa (K8.symm.trans gi)
   ·exact o1.fr q) ho2)
 have Vw:=Step.Vp t1.inv t5 ⟨o1.f,o1.mu,o1.tb,o1.fr⟩ gi (fun q=>xi Data.ctorIdx (b2.symm.trans q) rfl) (xs:=[L2]) (fun b hb'=>by rw[List.mem_singleton.mp hb'];exact K8) (fun b o q1 q2 q3 q4=>Oc b o (stay b o q1 q2 (fun w=>q3 (w▸List.mem_singleton.mpr rfl)) q4)) R3 Of;have g7:=nQ (z:=.v (.sp .gone)) t1.inv c1.E Vw (fun u' q=>q) hm hsi mJ AG (.inr (j7 ho (by rw[hz];exact fun q=>nomatch q))) ⟨_,m1,_,o2,rfl,aR⟩ (fun q=>xc q) (fun q=>xc q) fun b' hw=>absurd rfl (hw.1 (.sp .gone));have hji:j≠i:=fun q=>by subst q;exact xi SL.ctorIdx (hz.symm.trans hl) rfl
 refine bK (AI g7.st.inv g7.en ((cL hji).trans hl) hti htk) fun Wa g8=>?_;refine wpAny_execs_cons (wpAny_Return_some (wpAny_Name (gp g8.en hti (by rw[htk];rfl) (dm (by rw[g7.en.len];exact rq hti)) (ai htp).2 fun cv Nr=>?_) (ai htp).1));exact kk cv _ _ Nr (((c.no t1).trans g7).trans g8)
end
end Mine.Internal
end
noncomputable section
open PySem PySem.W PyProof.Rows
set_option backward.match.sparseCases false
namespace Mine.Internal
section
variable{k:Ks}{aF:List Str}{ce:Env}{ns:List Str}
theorem BD(Si:cD k){A:Around}{E:Value->Shared->Prop}{Q:Flow->Shared->Prop}{φ:Ph}{G G1:Gs}{s:Shared}{e:En}{b b':Array UInt8}{p p' i j:Nat}{l:List V}{f:Expr}{x:X}{fa:Addr}{r:V×SL×Gs}{t sn:Str}{p1 p2 p3 p4 p5 p6 pos:Pos}{h0:ExceptHandler}
  (hti:ix ns t=some i)(htk:ce.kindOf t=some .local)(htp:ao t=true)(hsi:ix ns sn=some j)(mJ:ce.kindOf sn=some .local)(yR:ao sn=true)(hline:(p2.endLine==p5.line)=true)(ha:bM f=false)(hf:bC k ce ns f x)
  (c:kM k A ce ns φ G s e)(hz:sl e j= .eH b p)(hl:sl e i= .own l)(ho:lone e j=true)(e1:aq k.T k.U x e G=some (.c (.ad fa),G1))(e2:k.U fa [.eH b p] G1=some r)(e3:r.2.1= .eH b' p')(hlim:l.length<lim)
  (kk:∀s' az,dX k.B ce ns e φ s ((e.set j (.eH b' p')).set i (.own (l++[r.1]))) az r.2.2 s'->Q .next s'):
  wpAny (model k.prog k.w) A (exec (.Try [.Expr (.Call (.Attribute (.Name t p1) "append" p2) [.Call f [.Name sn p3] [] p4] [] p5) p6] [h0] [] [] pos) ce) Q E s:=by
 obtain⟨rv,rz,rG⟩:=r;dsimp only at e3;subst e3;have hji:j≠i:=fun q=>by subst q;exact xi SL.ctorIdx (hz.symm.trans hl) rfl
 refine bK (c.E.loc) fun m hm=>?_;have q6:=hm.sr t i hti htk;rw[hl]at q6;refine cK (q6) fun a mt ot vs n gl rl=>?_;refine wpAny_Try_except (wpAny_execs_cons (wpAny_Expr_any (wpAny_Call_append rfl rfl hline rfl (wpAny_Name (wpAny_loadName_local c.E.kind htk hm.nm mt ⟨a,vs,rfl,⟨_,n,gl,rfl,rfl,rfl⟩,?_⟩) (ai htp).1)) (by unfold interactive;rw[c.E.kind];rfl) rfl));refine wq fun Q1 E1 Gm _=>?_;refine gC ha rfl hf c e1 fun cf aO s1 h1 t1=>?_
 (clear htp hline ha hf e1 q6 ot gl rl;subst h1)
 have c1:=c.step t1;refine bK (c1.E.loc) fun m' hm'=>?_;cases bR hm'.nm (eZ t1 c.E id hm.nm);have sr:=hm'.sr sn j hsi mJ;rw[hz]at sr;refine bP (sr) fun it oi tk m1 o1 gi b1 b2 b3=>?_;refine cJ (Si.hU _ _ _ _ _ _ e2) fun hfn hcall=>?_;have AG:gW (sl e j) (m sn) s1.heap it:=by rw[hz];exact⟨fun u q=>(xi SL.ctorIdx q rfl),it,m1,.inl rfl⟩
 refine callWith_of (P:=fun hp=>bA (model k.prog k.w) hp (.ref fa)) rfl (fun u' z=>z) (ee (wpAny_Name (wpAny_loadName_local c1.E.kind mJ hm'.nm m1 ⟨jV (Si.C.uh.keeps t1.inv.kb) hfn,?_⟩) (ai yR).1));have R:=c.R.le (Nat.le_succ _);refine wpAny_call (hcall k.B.fl it A _ aO s1 [.ref it] ⟨R.h,R.d,R.u,R.fr⟩ (t1.inv.sf it) ⟨fun L hL=>.cons ⟨it,oi,tk,rfl,⟨o1.f,o1.mu,o1.tb,o1.fr,fun q=>by(clear Si yR e2 hm hfn hcall R;subst q);exact xa (hL.symm.trans gi)⟩,gi,b1,b2,b3⟩ .nil,fun z l e _=>⟨[],rfl⟩,fun z l e=>by(clear Si yR e2 hm b1 b2 hfn hcall R;cases e);exact⟨.inr rfl,fun y hy=>nomatch hy⟩⟩ fun cv d9 s2 h2 t2 hend=>?_);refine cV (hend rfl) fun L' a' o' tk' q1 o2 TF Vx Tj TG=>?_;clear Si yR e2 hm b1 b2 hfn hcall R hend;cases q1;have TH:Step k.B (fun b=>b=it) aO s1 d9 rG s2:=t2.z9.weak fun b hb=>hb.2.elim id fun bE=>av bE fun o q1 q2=>by obtain rfl:=Option.some.inj (q1.symm.trans gi);exact xa (b3.symm.trans q2)
 have g2:=nQ (z:=.eH b' p') t1.inv c1.E TH (fun u' q=>q) hm' hsi mJ AG (.inr (j7 ho (by rw[hz];exact fun q=>nomatch q))) ⟨it,o',tk',m1,⟨o2.f,o2.mu,o2.tb,o2.fr,o1.L⟩,TF,Vx,Tj,TG⟩ (fun q=>xc q) (fun _=>by rw[hz];rfl) fun b bE=>dS bE fun u' a0 w1 w2=>by obtain rfl:=Value.ref.inj (Option.some.inj (m1.symm.trans w1));rw[hz];exact⟨fun u q=>(xi SL.ctorIdx q rfl),it,m1,w2.imp id fun bE=>av bE fun o q1 q2=>by obtain rfl:=Option.some.inj (q1.symm.trans TF);exact xa (TG.symm.trans q2)⟩
 have hl2:sl (e.set j (.eH b' p')) i= .own l:=(cL hji).trans hl;have TJ:=eZ TH c1.E (fun q=>o1.L q.symm) hm'.nm;refine bK (g2.en.loc) fun m2 hm2=>?_;obtain rfl:=(bR hm2.nm TJ);have TL:=hm2.sr t i hti htk;rw[hl2]at TL;refine cK (TL) fun a2 y1 y2 us n2 y3 y4=>?_;obtain rfl:=Value.ref.inj (Option.some.inj (mt.symm.trans y1));refine Gm _ _ ?_;refine AK y3 (by rw[y4.size];exact Nat.le_trans (Nat.le_of_lt hlim) bG) fun h' m3 g' kp=>?_;have g3:=we (t:=s2.toks) g2.st.inv g2.en TJ hti htk hl2 y1 y3 g' kp (by rw[Array.toList_push];exact y4.append (.one h2)) (Nat.le_refl _);exact wpAny_execs_nil (wpAny_execs_nil (kk _ _ (((c.no t1).trans g2).trans g3)))
theorem BE(Si:cD k)(Pv:kD k.B aF k.g k.K k.mg k.T.pv)(hce:k.B.fl.head?=some ce){i j:Nat}{f:Expr}{y:X}{t sn:Str}{p1 p2 p3 p4 p5 p6 p7 p8 p9 CE R1:Pos}(hti:ix ns t=some i)(htk:ce.kindOf t=some .local)(htp:ao t=true)(hsi:ix ns sn=some j)(mJ:ce.kindOf sn=some .local)(yR:ao sn=true)(hst:ce.scope.names.lookup ("StopIteration":Str)=some .globalImplicit)(hline:(p2.endLine==p5.line)=true)(ha:bM f=false)(hf:bC k ce ns f y):
  eK k ce ns (.Try [.Expr (.Call (.Attribute (.Name t p1) "append" p2) [.Call f [.Name sn p3] [] p4] [] p5) p6] [.ExceptHandler (some (.Name "StopIteration" p7)) none [.Return (some (.Name t p8)) p9] CE] [] [] R1) (.ju i y j):=fun A E Q φ G sh e fl e' G' c ev kk=>
 bindC ev fun z hz ev=>bindC ev fun l hl ev=>gV ev (fun hb ev=>bindC ev fun pv TM ev=>ak ev fun c' ev=>
  BC Si Pv hce hti htk htp hsi mJ yR hst hline ha (c'.1▸JX TM▸hf) c (qJ hz) (wF hl) hb c'.2 fun cv az s' hv g=>by((clear Pv hce hst hb TM;revert kk);apply yU (ev);intro kk);exact kk _ _ _ ⟨cv,rfl,hv⟩ g)
 fun u' u' ev=>bindC ev fun xv e1 ev=>bindC ev fun fa Gr ev=>bindC ev fun r e2 ev=>bindC ev fun w hr ev=>ak ev fun c' ev=>
  BD Si hti htk htp hsi mJ yR hline ha hf c (qJ hz) (wF hl) c'.2 (e1.trans (congrArg some (Prod.ext (BB Gr) rfl))) e2 (qJ hr) c'.1 fun s' az g=>by((clear Si Pv hce hti htk htp hsi mJ yR hst hline ha hf c hz hl e1 Gr e2 hr c';revert kk);apply yU (ev);intro kk);exact kk .next _ _ rfl g
theorem BF{e:Expr}{r}(h:FW e=some r):e= .Call (.Attribute r.1.1 r.1.2.1 r.1.2.2) [r.2.1] [] r.2.2:=
 bindC h fun c hc h=>bindC h fun a ha h=>ay h fun x hx e=>by rw[<-e,dG hc,d8 ha,aZ hx]
theorem sZ{e:Expr}{r}(h:FY ce.scope e=some r):e= .Call r.1 [.Name r.2.1.1 r.2.1.2] [] r.2.2/\ao r.2.1.1=true/\ce.kindOf r.2.1.1=some .local:=
 bindC h fun c hc h=>bindC h fun x hx h=>ay h fun s hs e=>e▸(bX hs).imp (fun q=>(dG hc).trans (by rw[aZ hx];exact congrArg (fun z=>Expr.Call _ [z] _ _) q)) id
theorem EO{b:List Stmt}{r}(h:L3 ce.scope b=some r):b=[.Expr (.Call (.Attribute (.Name r.1.1 r.1.2) "append" r.2.1.1) [.Call r.2.2.1 [.Name r.2.2.2.1.1 r.2.2.2.1.2] [] r.2.2.2.2] [] r.2.1.2.1) r.2.1.2.2]/\
  (ao r.1.1=true/\ce.kindOf r.1.1=some .local)/\(ao r.2.2.2.1.1=true/\ce.kindOf r.2.2.2.1.1=some .local)/\(r.2.1.1.endLine==r.2.1.2.1.line)=true/\bM r.2.2.1=false:=
 bindC h fun st hst h=>bindC h fun e he h=>bindC h fun c hc h=>bindC h fun t ht h=>bindC h fun d hd h=>ak h fun cc h=>by obtain rfl:=Option.some.inj h;exact⟨by rw[aZ hst,EM he,BF hc,(bX ht).1,(sZ hd).1,cc.1],(bX ht).2,(sZ hd).2,cc.2⟩
theorem wG{hs:List ExceptHandler}{r}(h:L4 ce.scope hs=some r):hs=[.ExceptHandler (some (.Name "StopIteration" r.2.1)) none [.Return (some (.Name r.1.1 r.1.2)) r.2.2.1] r.2.2.2]/\ce.scope.names.lookup ("StopIteration":Str)=some .globalImplicit:=
 bindC h fun h1 Vy h=>bindC h fun hh Vz h=>bindC h fun ex hex h=>bindC h fun rs hrs h=>bindC h fun re VA h=>bindC h fun t ht h=>ak h fun cc h=>by obtain rfl:=Option.some.inj h;exact⟨by rw[aZ Vy,EN Vz,dZ hex,aZ hrs,JW VA,(bX ht).1,cc.1],cc.2⟩
set_option tactic.hygienic true in
theorem Og(Si:cD k)(Pv:kD k.B aF k.g k.K k.mg k.T.pv)(hce:k.B.fl.head?=some ce):∀{aF M:List Str} {b:List Stmt} {hs:List ExceptHandler} {pos:Pos} {x:S},HG aF M k.g ce.scope ns b hs=some x->eK k ce ns (.Try b hs [] [] pos) x:=fun {aF M b hs pos x} h=>
 bindC h fun r hr h=>bindC h fun q hq h=>ak h fun cc h=>bindC h fun i hi h=>bindC h fun j hj h=>ay h fun y hy e=>by refine jo (EO hr) fun eb h1 h2 h3 h4=>?_;rw[eb,(wG hq).1,cc,<-e];exact BE Si Pv hce hi h1.2 h1.1 hj h2.2 h2.1 (wG hq).2 h3 h4 (eG Si 40 hy).1
end
end Mine.Internal
end
noncomputable section
open PySem PySem.W PyProof.Rows
namespace Mine.Internal
theorem JZ{k:Ks}{ce:Env}{ns:List Str}{aF:List Str}(Si:cD k)(JU:k.T.lp=k.B.lp)(gk:nS k.B k.K k.T.gf)(Pv:kD k.B aF k.g k.K k.mg k.T.pv)(hce:k.B.fl.head?=some ce)(hl:ce.kindOf "parsed_qnames"=some .local->∃q0,kB k.B k.mg ce.code q0):nR k ce ns:=
 ⟨Og Si Pv hce,fun {aF M i t v pos x} ht h=>bindC h fun r hr h1=>bindC h1 fun z hz h1=>bindC h1 fun q hq h1=>bindC h1 fun sk mJ h1=>bindC h1 fun kx hkx h1=>ak h1 fun cc _=>(hl (cc.1▸(bX hz).2.2)).elim fun q0 LO=>EJ Si JU LO ht h,Bc Si gk⟩
theorem kD.at{B:Base}{aF:List Str}{g:bf}{K:Frag}{mg:Str->Option Value}{pv:Addr}(x:kD B aF g K mg pv)(l:List Env)(a:Addr):kD (B.at l a) aF g K mg pv:=by obtain⟨f,o,fd,body,M,dv,kv,bn,bp,yS,ip,np,cp,ap,rest,F,h1,h2,h3,h4,h5,h6,h7,h8,h9,JV,h11⟩:=x;exact⟨f,o,fd,body,M,dv,kv,bn,bp,yS,ip,np,cp,ap,rest,F.at l a,h1,h2,h3,h4,h5,h6,h7,h8,h9,JV,h11⟩
theorem EP{B:Base}{T:aM}{aF:List Str}{K:Frag}{prog:Program}{w:World}{g:bf}{mg mb:Str->Option Value}(JU:T.lp=B.lp)(gk:nS B K T.gf)(Pv:kD B aF g K mg T.pv)(hP:B.P=w.params)(O:dK B T)(C:dM B T K)(Gl:yV B mg mb)(N:mH g mg){F:Addr->Option Fn}(HF:∀a f,F a=some f->NX B aF g K mg a f)(n:Nat):
  fq B prog w K (aj T F n) n:=Bw (fun {k l a ce ns} e1 e2 e3 e4 e5 h hl Si=>JZ (aF:=aF) Si (by rw[e1,e2];exact JU) (by rw[e1,e2,e3];exact gk.at l a) (by rw[e1,e2,e3,e4,e5];exact Pv.at l a) (by rw[e1];exact h) hl) hP O C Gl N HF n
end Mine.Internal
end
noncomputable section
open PySem PySem.W PyProof.Rows
set_option backward.match.sparseCases false
namespace Mine.Internal
/-! strs as lists of signs -/
noncomputable abbrev st (l:List Nat):Str:=⟨⟨l⟩⟩
noncomputable abbrev vs (l:List Nat):V:=.c (.str (st l))
noncomputable abbrev vi (i:Int):V:=.c (.int i)
theorem qK(a b:List Nat):st a++st b=st (a++b):=by show Str.mk (Array.mk a++Array.mk b)=_;simp
theorem Oh:∀l:List (List Nat),Txt.join ⟨#[]⟩ (l.map st)=st l.flatten:=by
 intro l;show Builtin.Str.glued _ _=_;rw[StrLaws.glued_eq_join]
 induction l with
 |nil=>rfl
 |cons a l ih=>
  rcases l with _|⟨b,l⟩
  ·show st a=_;simp
  ·show st a++⟨#[]⟩++Str.join ⟨#[]⟩ ((b::l).map st)=_
   simp only[ih,show st a++(⟨#[]⟩:Str)=st a from(qK a []).trans (by simp),qK];rfl
theorem VB{l:List (List Nat)}(h:l.flatten.length<=1000000):JoinOk ⟨#[]⟩ (l.map st)=true:=by
 unfold JoinOk;rw[StrLaws.joinTotal];have :((l.map st).map (·.length)).sum=l.flatten.length:=by simp only[List.map_map,List.length_flatten];rfl
 rw[this];show(!Builtin.Str.tooLong (_+_*0))=true;rw[Nat.mul_zero,Nat.add_zero];unfold Builtin.Str.tooLong;rw[sizeLine_eq,decide_eq_false (by omega)];rfl
theorem gM{α β γ:Type}{f:α->Option β}{g:γ->α}{k:γ->β}(h:∀c,f (g c)=some (k c)):∀l:List γ,aA f (l.map g)=some (l.map k)
 |[]=>rfl
 |c::l=>by show(f (g c)).bind _=_;rw[h c];rw[gM h l];rfl
theorem BG{l:List (List Nat)}(h:l.flatten.length<=1000000):lM ⟨#[]⟩ (l.map vs)=some (vs l.flatten):=by
 show(aA aY (l.map vs)).bind _=_;rw[gM (f:=aY) (g:=vs) (k:=st) (fun _=>rfl) l];show(if JoinOk ⟨#[]⟩ (l.map st)=true then some (V.c (.str (Txt.join ⟨#[]⟩ (l.map st))))else none)=_
 rw[if_pos (VB h),Oh]
/-! K9 one sign -/
noncomputable def rp (c:Nat) (z:List Nat) (k:Nat):List Nat:=if k=c then z else[k]
theorem iV{c:Nat}{z:List Nat}:∀{l:List Nat},c∉l->l.flatMap (rp c z)=l
 |[],_=>rfl
 |k::l,h=>by simp only[List.flatMap_cons,iV (fun m=>h (List.mem_cons_of_mem _ m))];unfold rp;rw[if_neg (fun e:k=c=>h (e▸List.mem_cons_self ..))];rfl
theorem pK(c:Nat)(z:List Nat):∀parts:List Str,(∀p∈parts,c∉p.cps.toList)->(Str.join ⟨#[c]⟩ parts).cps.toList.flatMap (rp c z)=(Str.join (st z) parts).cps.toList
 |[],_=>rfl
 |[p],h=>iV (h p (List.mem_singleton.mpr rfl))
 |p::q::r,h=>by have ih:=pK c z (q::r) fun a ha=>h a (List.mem_cons_of_mem _ ha);show(p++⟨#[c]⟩++Str.join ⟨#[c]⟩ (q::r)).cps.toList.flatMap _=(p++st z++Str.join (st z) (q::r)).cps.toList;simp only[Str.cps_append,Array.toList_append,List.flatMap_append];simp only[ih,iV (h p (List.mem_cons_self ..))];show p.cps.toList++[c].flatMap _++_=_;rw[List.flatMap_cons,List.flatMap_nil,List.append_nil,rp,if_pos rfl]
theorem Oi(l z:List Nat)(c:Nat):Txt.replace (st l) ⟨#[c]⟩ (st z)=st (l.flatMap (rp c z)):=by have :=pK c z _ (StrLaws.split_free (st l) c);rw[StrLaws.join_split]at this;rw[StrLaws.replace_one];exact(congrArg st this).symm
/-! yr at one sign -/
noncomputable def i8 (c:Nat):List Nat->List (List Nat)
 |[]=>[[]]
 |k::l=>if k=c then[]::i8 c l else match i8 c l with
  |p::r=>(k::p)::r
  |[]=>[[k]]
theorem pL{α β:Type}{o:Option α}{d z:β}{f:α->β}{v:α}(hn:o=some v)(h:f v=z):o.elim d f=z:=by subst hn;exact h
theorem pM{α β:Type}{o:Option α}{d z:β}{f:α->β}(hn:o=none)(h:d=z):o.elim d f=z:=by subst hn;exact h
theorem yt(c k:Nat)(l:List Nat)(h:¬k=c):i8 c (k::l)=match i8 c l with
  |p::r=>(k::p)::r
  |[]=>[[k]]:=if_neg h
theorem lF{c:Nat}:∀{l:List Nat},c∉l->i8 c l=[l]
 |[],_=>rfl
 |k::l,h=>by rw[yt _ _ _ (fun e:k=c=>h (e▸List.mem_cons_self ..)),lF (fun m=>h (List.mem_cons_of_mem _ m))]
theorem iW{c:Nat}(r:List Nat):∀{l:List Nat},c∉l->i8 c (l++c::r)=l::i8 c r
 |[],_=>by show(if c=c then[]::i8 c r else _)=_;rw[if_pos rfl]
 |k::l,h=>by
  show(if k=c then[]::i8 c (l++c::r)else match i8 c (l++c::r)with|p::r=>(k::p)::r|[]=>[[k]])=_
  rw[if_neg (fun e:k=c=>h (e▸List.mem_cons_self ..)),iW r (fun m=>h (List.mem_cons_of_mem _ m))]
theorem pN(c:Nat):∀parts:List Str,parts≠[]->(∀p∈parts,c∉p.cps.toList)->i8 c (Str.join ⟨#[c]⟩ parts).cps.toList=parts.map fun p=>p.cps.toList
 |[],h,_=>absurd rfl h
 |[p],_,h=>lF (h p (List.mem_singleton.mpr rfl))
 |p::q::r,_,h=>by have ih:=pN c (q::r) (by simp) fun a ha=>h a (List.mem_cons_of_mem _ ha);show i8 c (p++⟨#[c]⟩++Str.join ⟨#[c]⟩ (q::r)).cps.toList=_;simp only[Str.cps_append,Array.toList_append,List.append_assoc];exact(iW _ (h p (List.mem_cons_self ..))).trans (congrArg (_:: ·) ih)
theorem BH(x y:Str):Txt.split x y≠[]:=by
 unfold Txt.split;split
 ·simp
 ·split
  ·simp
  ·rw[StrLaws.partsBetween_eq]
   obtain⟨p,r,e⟩:=StrLaws.partsFrom_ne x y.length 0 (Builtin.Str.occurrences x y 0 x.length (x.length+1));rw[e];simp
theorem split1(l:List Nat)(c:Nat):Txt.split (st l) ⟨#[c]⟩=(i8 c l).map st:=by have :=pN c _ (BH (st l) ⟨#[c]⟩) (StrLaws.split_free (st l) c);rw[StrLaws.join_split]at this;simp only[this,List.map_map];exact(List.map_id _).symm
theorem in1(l:List Nat)(c:Nat):(Builtin.Str.occurrences (st l) ⟨#[c]⟩ 0 (st l).length 1).isEmpty= !decide (c∈l):=empty_one (st l) c
/-! steps of iZ oH run -/
section
variable{T:aM}{U:aE}{e e':En}{G G' ja:Gs}
theorem ss{s:S}{l:List S}{r}(h:fY T U s e G=some (.aS,e',G'))(k:aN T U l e' G'=r):aN T U (s::l) e G=r:=by show Option.bind (fY T U s e G) _=r;rw[h];exact k
theorem bx{is:List Nat}{l:List S}{r}(k:aN T U l (is.foldl C1 e) G=r):aN T U (.fz is::l) e G=r:=ss rfl k
theorem iD{x:X}{l:List S}{v:V}(h:aq T U x e G=some (v,G')):aN T U (.ret x::l) e G=some (.ret v,e,G'):=by show Option.bind (Option.map _ (aq T U x e G)) _=_;rw[h];rfl
theorem Oj{b l:List S}{v:V}(h:aN T U b e G=some (.ret v,e',G')):aN T U (.tryAll b::l) e G=some (.ret v,e',G'):=by show Option.bind (aN T U b e G) _=_;rw[h];rfl
theorem bg{i:Nat}{x:X}{v:V}(h:aq T U x e G=some (v,G')):fY T U (.asg i x) e G=some (.aS,e.set i (.v v),G'):=by show Option.map _ (aq T U x e G)=_;rw[h];rfl
theorem J0{x:X}{v:V}(h:aq T U x e G=some (v,G')):fY T U (.expr x) e G=some (.aS,e,G'):=by show Option.map _ (aq T U x e G)=_;rw[h];rfl
theorem jA{t:X}{a b:List S}{v:V}{r}(h:aq T U t e G=some (v,G'))(ht:truthy v=some true)(k:aN T U a e G'=r):fY T U (.ite t a b) e G=r:=by show Option.bind (aq T U t e G) _=_;rw[h];show Option.bind (truthy v) _=_;rw[ht];exact k
theorem fX{t:X}{a b:List S}{v:V}{r}(h:aq T U t e G=some (v,G'))(ht:truthy v=some false)(k:aN T U b e G'=r):fY T U (.ite t a b) e G=r:=by show Option.bind (aq T U t e G) _=_;rw[h];show Option.bind (truthy v) _=_;rw[ht];exact k
theorem bT{α β:Type}{f:Gs->Option (α×Gs)}{g:α->Gs->Option (β×Gs)}{v:α}{r}(h:f G=some (v,G'))(k:g v G'=r):bd f g G=r:=by show Option.bind (f G) _=r;rw[h];exact k
theorem nV{α:Type}{o:Option α}{v:α}(h:o=some v):re o G=some (v,G):=by rw[h];rfl
theorem J1{a x:X}{f:V->Option V}{v w:V}(d:aq T U x e=bd (aq T U a e) fun y=>re (f y))(h:aq T U a e G=some (v,G'))(k:f v=some w):aq T U x e G=some (w,G'):=by rw[d];exact bT h (nV k)
theorem BI{a b x:X}{f:V->V->Option V}{v w r:V}(d:aq T U x e=bd (aq T U a e) fun y=>bd (aq T U b e) fun z=>re (f y z))(h:aq T U a e G=some (v,G'))(h':aq T U b e G'=some (w,ja))(k:f v w=some r):aq T U x e G=some (r,ja):=by rw[d];exact bT h (bT h' (nV k))
theorem aJ{op:Operator}{a b:X}{v w r:V}(h:aq T U a e G=some (v,G'))(h':aq T U b e G'=some (w,ja))(k:binop op v w=some r):aq T U (.bin op a b) e G=some (r,ja):=BI rfl h h' k
theorem bU{op:CmpOp}{a b:X}{v w:V}{r:Bool}(h:aq T U a e G=some (v,G'))(h':aq T U b e G'=some (w,ja))(k:rB op v w=some r):aq T U (.cmp op a b) e G=some (.c (.bool r),ja):=
 BI (f:=fun x y=>(rB op x y).map fun r=>.c (.bool r)) rfl h h' (by rw[k];rfl)
theorem br{a b:X}{v w r:V}(h:aq T U a e G=some (v,G'))(h':aq T U b e G'=some (w,ja))(k:gv T v w=some r):aq T U (.sub a b) e G=some (r,ja):=BI rfl h h' k
theorem aC:fk T U [] e G=some ([],G):=rfl
theorem ah{x:X}{l:List X}{v:V}{r:List V}(h:aq T U x e G=some (v,G'))(k:fk T U l e G'=some (r,ja)):fk T U (x::l) e G=some (v::r,ja):=
 bT (f:=aq T U x e) h (bT k rfl)
theorem x_call{f:X}{l:List X}{v:V}{r:List V}{q}(h:aq T U f e G=some (v,G'))(h':fk T U l e G'=some (r,ja))(k:jL T U v r ja=q):aq T U (.call f l) e G=q:=bT (f:=aq T U f e) h (bT h' k)
theorem dW{a:Addr}{l:List X}{r:List V}{v:V}{z:SL}(hi:cB T.eU a=none)(h':fk T U l e G=some (r,G'))(k:U a (r.map .v) G'=some (v,z,ja)):aq T U (.call (.c (.c (.ad a))) l) e G=some (v,ja):=by refine x_call rfl h' ?_;show(cB T.eU a).elim (m7 U a r G') _=_;rw[hi];show Option.map _ (U a (r.map .v) G')=_;rw[k];rfl
theorem gO{a:X}{n:Str}{l:List X}{v:V}{m:Mt}{r:List V}{q}(h:aq T U a e G=some (v,G))(hm:getM T v n G=some (m,G))(h':fk T U l e G=some (r,G))(k:vm T U m r G=q):aq T U (.bB a n l) e G=q:=
 bT (f:=aq T U a e) h (bT (f:=getM T v n) hm (bT h' k))
theorem J2{a:X}{y z l:List Nat}(h:aq T U a e G=some (vs l,G'))(h1:l.length<=1048576)(h2:st y≠st z)(h3:z.length<=14):aq T U (.repl a (st y) (st z)) e G=some (.c (.str (Txt.replace (st l) (st y) (st z))),G'):=
 J1 (f:=fun x=>(aY x).bind fun s=>if s.length<=1048576/\st y≠st z/\(st z).length<=14 then some (.c (.str (Txt.replace s (st y) (st z))))else none) rfl h (if_pos ⟨h1,h2,h3⟩)
theorem aK{i:Nat}{v:V}(h:sl e i= .v v):aq T U (.v i) e G=some (v,G):=by
 show(match sl e i with| .v x=>fun G=>some (x,G)|_=>fun _=>none:Gs->Option (V×Gs)) G=_
 rw[h]
theorem Gw{a:X}{l:List Nat}(h:aq T U a e G=some (vs l,G'))(hl:l.length<=1000000):aq T U (.fmt a) e G=some (vs l,G'):=
 J1 (f:=fun x=>(aY x).bind fun s=>if s.length<=lim then some x else none) rfl h (if_pos (Nat.le_trans hl (by decide)))
theorem s7:∀(l:List (List Nat)) (a:List Nat),(l.map st).foldl (· ++ ·) (st a)=st (a++l.flatten)
 |[],a=>by simp
 |b::l,a=>by show(l.map st).foldl _ (st a++st b)=_;rw[qK,s7 l];simp
theorem J3{l:List X}{r:List (List Nat)}(h:fk T U l e G=some (r.map vs,G'))(hl:r.flatten.length<=1000000):aq T U (.mX l) e G=some (vs r.flatten,G'):=by
 refine bT (f:=fk T U l e) h (nV ?_);show(aA aY (r.map vs)).bind _=_;rw[gM (f:=aY) (g:=vs) (k:=st) (fun _=>rfl) r];show(if((r.map st).foldl (· ++ ·) (st [])).length<=lim then some (V.c (.str ((r.map st).foldl (· ++ ·) (st []))))else none)=_
 rw[s7,List.nil_append];exact if_pos (Nat.le_trans hl (by decide))
theorem iE{tw:Bool}{elt src:X}{ifs:List X}{K:IK}{v:V}{ws:List (Option V)}(hs:aq T U src e G=some (v,G))(hK:mh T v=some K)(hn:aS K ws.length=none)(hl:ws.length<=1000)
  (h:∀k w,ws[k]?=some w->∃x zs,aS K k=some x/\front tw x=some zs/\jM T U ifs (zs++e) G=some (w.isSome,G)/\∀y,w=some y->aq T U elt (zs++e) G=some (y,G)):
  aq T U (.comp tw elt src ifs) e G=some (.list (ws.filterMap id),G):=by
 refine bT (f:=aq T U src e) hs (bT (nV hK) ?_)
 suffices key:∀(r:List (Option V)) (k n:Nat) (out:List V),r.length+1<=n->out.length+r.length<=1000->(∀i w,r[i]?=some w->ws[k+i]?=some w)->k+r.length=ws.length->
   gQ K tw (fun e=>jM T U ifs e) (fun e=>aq T U elt e) C0 e n k out G=some (out++r.filterMap id,G)from
  bT (key ws 0 fuel [] (Nat.le_trans (Nat.add_le_add_right hl 1) (by decide)) (by simpa using hl) (fun i w q=>by rwa[Nat.zero_add]) (Nat.zero_add _)) rfl
 intro r
 induction r with
 |nil=>intro k n out hn' _ _ hk;obtain⟨n,rfl⟩:∃m,n=m+1:=⟨n -1,by simp at hn';omega⟩;rw[show k=ws.length from hk];refine pM hn ?_;simp
 |cons w r ih=>
  intro k n out hn' ho hr hk;obtain⟨n,rfl⟩:∃m,n=m+1:=⟨n -1,by simp at hn';omega⟩;obtain⟨x,zs,h1,h2,h3,h4⟩:=h k w (hr 0 w rfl);have ih':=fun out ho=>ih (k+1) n out (by simp at hn';omega) ho (fun i w q=>by rw[Nat.add_assoc,Nat.add_comm 1];exact hr (i+1) w q) (by simp at hk;omega);refine pL h1 ?_;show Option.bind (front tw x) _=_;rw[h2,Option.bind_some];refine bT (f:=jM T U ifs (zs++e)) h3 ?_;rcases w with _|y
  ·exact ih' out (by simp at ho;omega)
  ·have ho':out.length<lim:=Nat.lt_of_le_of_lt (m:=1000) (by omega) (by decide)
   refine bT (f:=aq T U elt (zs++e)) (h4 y rfl) (bT (v:=out++[y]) (nV (if_pos ho')) ?_);simp only[ih' (out++[y]) (by simp at ho⊢;omega)];simp
theorem nW{t:xC}{src:X}{b:List S}{K:IK}{v:V}{E:Nat->En}{H:Nat->Gs}{m:Nat}(hs:aq T U src (E 0) G=some (v,H 0))(hK:mh T v=some K)(hn:aS K m=none)(hm:m<=100000)
  (h:∀k,k<m->∃x e',aS K k=some x/\t.put x (E k)=some e'/\aN T U b e' (H k)=some (.aS,E (k+1),H (k+1))):fY T U (.eE t src b) (E 0) G=some (.aS,E m,H m):=by
 show Option.bind (aq T U src (E 0) G) _=_;rw[hs];show Option.bind (mh T v) _=_;rw[hK]
 suffices key:∀(r k n:Nat),r+1<=n->k+r=m->forL K t (fun e G=>aN T U b e G) n k (E k) (H k)=some (.aS,E m,H m)from key m 0 fuel (Nat.le_trans (Nat.add_le_add_right hm 1) (by decide)) (Nat.zero_add _)
 intro r
 induction r with
 |zero=>intro k n hn' hk;obtain⟨n,rfl⟩:∃q,n=q+1:=⟨n -1,by omega⟩;rw[show k=m from hk];exact pM hn rfl
 |succ r ih=>intro k n hn' hk;obtain⟨n,rfl⟩:∃q,n=q+1:=⟨n -1,by omega⟩;obtain⟨x,e',h1,h2,h3⟩:=h k (by omega);refine pL h1 ?_;show Option.bind (t.put x (E k)) _=_;rw[h2];show Option.bind (aN T U b e' (H k)) _=_;rw[h3];exact ih (k+1) n (by omega) (by omega)
theorem s8{t:X}{b:List S}{E:Nat->En}{m:Nat}{r}(hm:m<=100000)
  (h:∀k,k<m->∃v,aq T U t (E k) G=some (v,G)/\truthy v=some true/\aN T U b (E k) G=some (.aS,E (k+1),G))
  (hl:∃v,aq T U t (E m) G=some (v,G)/\((truthy v=some false/\r=some (.aS,E m,G))\/(truthy v=some true/\∃w e',aN T U b (E m) G=some (.ret w,e',G)/\r=some (.ret w,e',G)))):fY T U (.rC t b) (E 0) G=r:=by
 suffices key:∀(q k n:Nat),q+1<=n->k+q=m->rK (fun e G=>(aq T U t e G).bind fun x=>(truthy x.1).map fun q=>(q,x.2)) (fun e G=>aN T U b e G) n (E k) G=r from key m 0 fuel (Nat.le_trans (Nat.add_le_add_right hm 1) (by decide)) (Nat.zero_add _)
 have step:∀{n k:Nat} {v:V} {q:Bool},aq T U t (E k) G=some (v,G)->truthy v=some q->rK (fun e G=>(aq T U t e G).bind fun x=>(truthy x.1).map fun q=>(q,x.2)) (fun e G=>aN T U b e G) (n+1) (E k) G=(match q with
   |true=>(aN T U b (E k) G).bind fun r=>match r.1 with
    | .aS=>rK (fun e G=>(aq T U t e G).bind fun x=>(truthy x.1).map fun q=>(q,x.2)) (fun e G=>aN T U b e G) n r.2.1 r.2.2
    | .ret v=>some (.ret v,r.2.1,r.2.2)
   |false=>some (.aS,E k,G)):=fun {n k v q} h1 h2=>by
  show Option.bind (Option.bind (aq T U t (E k) G) _) _=_;rw[h1];show Option.bind (Option.map _ (truthy v)) _=_;rw[h2];rcases q with⟨⟩ <;> rfl
 intro q
 induction q with
 |zero=>
  intro k n hn' hk;obtain⟨n,rfl⟩:∃q,n=q+1:=⟨n -1,by omega⟩;rw[show k=m from hk];obtain⟨v,h1,h2|⟨h2,w,e',h3,h4⟩⟩:=hl
  ·rw[step h1 h2.1];exact h2.2.symm
  ·rw[step h1 h2]
   show Option.bind (aN T U b (E m) G) _=_;rw[h3,h4];rfl
 |succ q ih=>intro k n hn' hk;obtain⟨n,rfl⟩:∃q,n=q+1:=⟨n -1,by omega⟩;obtain⟨v,h1,h2,h3⟩:=h k (by omega);simp only[step h1 h2];show Option.bind (aN T U b (E k) G) _=_;simp only[h3];exact ih (k+1) n (by omega) (by omega)
theorem wH{src:X}{l:List (List Nat)}(h:aq T U src e G=some (.list (l.map vs),G))(hl:l.flatten.length<=1000000):aq T U (.bB (.c (.c (.str ⟨⟨[]⟩⟩))) ⟨⟨[106,111,105,110]⟩⟩ [src]) e G=some (vs l.flatten,G):=
 gO (v:=vs []) (m:=.str ⟨⟨[]⟩⟩ ⟨⟨[106,111,105,110]⟩⟩) rfl (by kernel_rfl) (ah h aC) (by
  show Option.map _ (pV ⟨⟨[]⟩⟩ ⟨⟨[106,111,105,110]⟩⟩ [.list (l.map vs)])=_;rw[show pV ⟨⟨[]⟩⟩ ⟨⟨[106,111,105,110]⟩⟩ [.list (l.map vs)]=lM ⟨#[]⟩ (l.map vs) by kernel_rfl,BG hl];rfl)
theorem BJ{i:Nat}{x:V}(h:sl e i= .v x):mj T e G (.var i)=Hs G x:=by
 show((match sl e i with| .own l=>some l|_=>none:Option (List V)).or (match sl e i with| .v x=>Hs G x|_=>none))=_
 rw[h];rfl
theorem BK{i:Nat}{x:V}{l:List (List Nat)}(h:sl e i= .v x)(hx:Hs G x=some (l.map vs))(hl:l.flatten.length<=1000000):aq T U (.FD ⟨⟨[]⟩⟩ (.var i)) e G=some (vs l.flatten,G):=by show Option.bind (mj T e G (.var i)) _=_;rw[BJ h,hx];show Option.map _ (lM ⟨#[]⟩ (l.map vs))=_;rw[BG hl];rfl
end
theorem iF{T:aM}{F:Addr->Option Fn}{n:Nat}{a:Addr}{args:List SL}{G G':Gs}{f:Fn}{e e':En}{v:V}{z:SL}(hf:F a=some f)(hb:fL f args=some e)(h:aN T (aj T F n) f.body e G=some (.ret v,e',G'))(hz:sl e' 0=z):aj T F (n+1) a args G=some (v,z,G'):=by show Option.bind (F a) _=_;rw[hf];show Option.bind (fL f args) _=_;rw[hb];show Option.bind (aN T (aj T F n) f.body e G) _=_;rw[h,<-hz];rfl
end Mine.Internal
end
noncomputable section
open PySem PySem.W PyProof.Rows
namespace Mine.Internal
/-! iZ two defs Ld TN signs otherwise -/
section
variable{T:aM}{U:aE}{G:Gs}
noncomputable abbrev R4(c:Nat)(z:List Nat):S:=.ite (.cmp .In (.c (.c (.str ⟨⟨[c]⟩⟩))) (.v 0)) [(.fz []),(.asg 0 (.repl (.v 0) ⟨⟨[c]⟩⟩ ⟨⟨z⟩⟩))] []
theorem cN{c:Nat}{z l:List Nat}{n:Nat}{r:List S}{q}(hz:z.length=n+2)(hn:n<=10)(hl:l.length<=1000000)(k:aN T U r [.v (vs (l.flatMap (rp c z)))] G=q):aN T U (R4 c z::.fz []::r) [.v (vs l)] G=q:=by
 refine ss (e':=[.v (vs (l.flatMap (rp c z)))]) (G':=G) ?_ (bx k);have hc:aq T U (.cmp .In (.c (.c (.str ⟨⟨[c]⟩⟩))) (.v 0)) [.v (vs l)] G=some (.c (.bool (decide (c∈l))),G):=bU rfl rfl (by
  show some (!(Builtin.Str.occurrences (st l) ⟨#[c]⟩ 0 (st l).length 1).isEmpty)=_;rw[in1,Bool.not_not])
 by_cases h:c∈l
 ·refine jA hc (congrArg some (decide_eq_true h)) (bx (ss (bg (J2 (l:=l) rfl (Nat.le_trans (by assumption) (by decide)) (fun q=>?_) (by omega))) ?_))
  ·cases q;cases hz
  ·show some (_,[SL.v (V.c (.str (Txt.replace (st l) ⟨#[c]⟩ (st z))))],G)=_
   rw[Oi]
 ·refine fX hc (congrArg some (decide_eq_false h)) ?_
  rw[iV h];rfl
end
noncomputable def jl (f g:Nat->List Nat) (c:Nat):List Nat:=(f c).flatMap g
theorem s9{l:List Nat}{f g:Nat->List Nat}:(l.flatMap f).flatMap g=l.flatMap (jl f g):=List.flatMap_assoc
noncomputable def eA:Nat->List Nat:=jl (jl (jl (jl (jl (rp 38 [38,97,109,112,59]) (rp 60 [38,108,116,59])) (rp 34 [38,113,117,111,116,59])) (rp 9 [38,35,120,57,59])) (rp 10 [38,35,120,65,59])) (rp 13 [38,35,120,68,59])
noncomputable def eT:Nat->List Nat:=jl (jl (jl (rp 38 [38,97,109,112,59]) (rp 60 [38,108,116,59])) (rp 62 [38,103,116,59])) (rp 13 [38,35,120,68,59])
theorem iG{c n:Nat}{z:List Nat}(hz:z.length<=6){l:List Nat}(h:l.length<=n):(l.flatMap (rp c z)).length<=6*n:=by
 refine Nat.le_trans (m:=6*l.length) ?_ (Nat.mul_le_mul_left 6 h);clear h
 induction l with
 |nil=>exact Nat.le_refl _
 |cons k l ih=>
  have :(rp c z k).length<=6:=by
   by_cases h:k=c
   ·rw[rp,if_pos h];exact hz
   ·rw[rp,if_neg h];exact Nat.le_add_left 1 5
  rw[List.flatMap_cons,List.length_append,List.length_cons];omega
variable{T:aM}{U:aE}{G:Gs}{l:List Nat}
theorem pO(h:l.length<=100):aN T U aQ.body [.v (vs l)] G=some (.ret (vs (l.flatMap eA)),[.v (vs (l.flatMap eA))],G):=by have h1:=iG (c:=38) (z:=[38,97,109,112,59]) (by decide) h;have h2:=iG (c:=60) (z:=[38,108,116,59]) (by decide) h1;have h3:=iG (c:=34) (z:=[38,113,117,111,116,59]) (by decide) h2;have h4:=iG (c:=9) (z:=[38,35,120,57,59]) (by decide) h3;have h5:=iG (c:=10) (z:=[38,35,120,65,59]) (by decide) h4;refine(bx (Oj (bx (cN (n:=3) rfl (by decide) (Nat.le_trans h (by decide)) (cN (n:=2) rfl (by decide) (Nat.le_trans h1 (by decide)) (cN (n:=4) rfl (by decide) (Nat.le_trans h2 (by decide)) (cN (n:=3) rfl (by decide) (Nat.le_trans h3 (by decide)) (cN (n:=3) rfl (by decide) (Nat.le_trans h4 (by decide)) (cN (n:=3) rfl (by decide) (Nat.le_trans h5 (by decide)) (iD rfl)))))))))).trans ?_;simp only[s9];rfl
theorem yu(h:l.length<=100):aN T U bq.body [.v (vs l)] G=some (.ret (vs (l.flatMap eT)),[.v (vs (l.flatMap eT))],G):=by have h1:=iG (c:=38) (z:=[38,97,109,112,59]) (by decide) h;have h2:=iG (c:=60) (z:=[38,108,116,59]) (by decide) h1;have h3:=iG (c:=62) (z:=[38,103,116,59]) (by decide) h2;refine(bx (Oj (bx (cN (n:=3) rfl (by decide) (Nat.le_trans h (by decide)) (cN (n:=2) rfl (by decide) (Nat.le_trans h1 (by decide)) (cN (n:=2) rfl (by decide) (Nat.le_trans h2 (by decide)) (cN (n:=3) rfl (by decide) (Nat.le_trans h3 (by decide)) (iD rfl)))))))).trans ?_;simp only[s9];rfl
theorem jm{c k:Nat}{z:List Nat}(h:k≠c):rp c z k=[k]:=if_neg h
theorem lZ{f g:Nat->List Nat}{k:Nat}(h:f k=[k])(h':g k=[k]):jl f g k=[k]:=by show(f k).flatMap g=_;rw[h];show g k++[]=_;rw[h',List.append_nil]
noncomputable def iH (c:Nat):Bool:= !(Nat.beq c 38||Nat.beq c 60||Nat.beq c 34||Nat.beq c 9||Nat.beq c 10||Nat.beq c 13)
noncomputable def plainT (c:Nat):Bool:= !(Nat.beq c 38||Nat.beq c 60||Nat.beq c 62||Nat.beq c 13)
theorem eO{a b:Nat}(h:Nat.beq a b=false):a≠b:=Nat.ne_of_beq_eq_false h
theorem wI{c:Nat}(h:iH c=true):eA c=[c]:=by simp only[iH,Bool.not_eq_true',Bool.or_eq_false_iff]at h;exact lZ (lZ (lZ (lZ (lZ (jm (eO h.1.1.1.1.1)) (jm (eO h.1.1.1.1.2))) (jm (eO h.1.1.1.2))) (jm (eO h.1.1.2))) (jm (eO h.1.2))) (jm (eO h.2))
theorem tu{c:Nat}(h:plainT c=true):eT c=[c]:=by simp only[plainT,Bool.not_eq_true',Bool.or_eq_false_iff]at h;exact lZ (lZ (lZ (jm (eO h.1.1.1)) (jm (eO h.1.1.2))) (jm (eO h.1.2))) (jm (eO h.2))
theorem Po{P:Nat->Prop}{c:Nat}(k:∀c,iH c=true->P c)(h1:P 38)(h2:P 60)(h3:P 34)(h4:P 9)(h5:P 10)(h6:P 13):P c:=by
 cases h:iH c with
 |true=>exact k c h
 |false=>simp only[iH,Bool.not_eq_false',Bool.or_eq_true]at h;rcases h with((((h|h)|h)|h)|h)|h <;> (cases Nat.eq_of_beq_eq_true h;assumption)
theorem wJ{c:Nat}:(eA c).length<=6:=Po (P:=fun c=>(eA c).length<=6) (fun c h=>by rw[wI h];exact Nat.le_add_left 1 5) (by decide) (by decide) (by decide) (by decide) (by decide) (by decide)
theorem spT{P:Nat->Prop}{c:Nat}(k:∀c,plainT c=true->P c)(h1:P 38)(h2:P 60)(h3:P 62)(h6:P 13):P c:=by
 cases h:plainT c with
 |true=>exact k c h
 |false=>simp only[plainT,Bool.not_eq_false',Bool.or_eq_true]at h;rcases h with((h|h)|h)|h <;> (cases Nat.eq_of_beq_eq_true h;assumption)
theorem wK{c:Nat}:(eT c).length<=6:=spT (P:=fun c=>(eT c).length<=6) (fun c h=>by rw[tu h];exact Nat.le_add_left 1 5) (by decide) (by decide) (by decide) (by decide)
theorem qL{f:Nat->List Nat}(h:∀c,(f c).length<=6):∀l:List Nat,(l.flatMap f).length<=6*l.length
 |[]=>Nat.le_refl _
 |c::l=>by have h1:=qL h l;have h2:=h c;rw[List.flatMap_cons,List.length_append,List.length_cons];omega
theorem iI(l:List Nat):(l.flatMap eA).length<=6*l.length:=qL (fun _=>wJ) l
theorem lG(l:List Nat):(l.flatMap eT).length<=6*l.length:=qL (fun _=>wK) l
end Mine.Internal
end
noncomputable section
open PySem PySem.W PyProof.Rows
set_option backward.match.sparseCases false
namespace Mine.Internal
/-! iZ text with three of its pieces said by hand:iZ same runs -/
noncomputable def Ol:V->Bool
 | .sp .bm=>true
 |_=>false
theorem ER{x:V}(h:Ol x=true):x= .sp .bm:=by
 rcases x with _|x|_|_|_|⟨_,_⟩ <;> try(exact xc h)
 rcases x with⟨⟩ <;> first|rfl|exact xc h
noncomputable def J4 (b:List S) (f:Nat->List Nat) (U:aE) (e:En) (G:Gs):Option (Fl×En×Gs):=((dR e).bind fun z=>(yN z).bind aY).elim (aN aa U b e G) fun s=>match Nat.ble s.length 5 with
  |true=>some (.ret (vs (s.cps.toList.flatMap f)),[.v (vs (s.cps.toList.flatMap f))],G)
  |false=>aN aa U b e G
noncomputable def Om:S:=cW.body.getD 27 .bad
noncomputable abbrev J5 (k s:List Nat):List Nat:=32::(k++61::34::(s.flatMap eA++[34]))
noncomputable def R5 (e:En) (G:Gs):Option (Str×Str×List V):=(yN (sl e 19)).bind fun w=>if Ol w=true then G.log.bind fun l=>(yN (sl e 16)).bind fun x=>(bH x).bind fun a=>(dR a).bind fun t=>(jd t).bind fun p=>(pair p).bind fun q=>(aY q.1).bind fun k=>(aY q.2).bind fun s=>if k.length<=5/\s.length<=5/\l.length<=1000 then some (k,s,l)else none else none
noncomputable def J6 (U:aE) (e:En) (G:Gs):Option (Fl×En×Gs):=(R5 e G).elim (fY aa U Om e G) fun r=>(U 244 [.v (.c (.str r.2.1))] G).elim (fY aa U Om e G) fun _=>some (.aS,e,{G with log:=some (r.2.2++[vs (J5 r.1.cps.toList r.2.1.cps.toList)])})
noncomputable def ES:Addr->Option Fn:=fun a=>match Nat.beq 244 a with
 |true=>some {aQ with body:=[.sem (J4 aQ.body eA)]}
 |false=>match Nat.beq 237 a with
  |true=>some {bq with body:=[.sem (J4 bq.body eT)]}
  |false=>match Nat.beq 202 a with
   |true=>some {cW with body:=cW.body.set 27 (.sem J6)}
   |false=>aG a
theorem J7{T:aM}{U:aE}{f}{e:En}{G:Gs}:fY T U (.sem f) e G=f U e G:=rfl
theorem wL{T:aM}{U:aE}{f}{e:En}{G:Gs}:aN T U [.sem f] e G=f U e G:=by
 show Option.bind (f U e G) _=_;cases f U e G with
 |none=>rfl
 |some r=>obtain⟨x,y,z⟩:=r;cases x <;> rfl
theorem tB{T:aM}{U:aE}{s':S}:∀{l:List S} {k:Nat},(∀e G,fY T U s' e G=fY T U (l.getD k .bad) e G)->∀e G,aN T U (l.set k s') e G=aN T U l e G
 |[],_,_,_,_=>rfl
 |s::l,0,h,e,G=>by show Option.bind (fY T U s' e G) _=Option.bind (fY T U s e G) _;rw[h e G];rfl
 |s::l,k+1,h,e,G=>by
  have ih:=tB (T:=T) (U:=U) (s':=s') (l:=l) (k:=k) h;show Option.bind (fY T U s e G) _=Option.bind (fY T U s e G) _;congr 1;funext r;cases r.1 with
  |aS=>exact ih _ _
  |ret _=>rfl
theorem wM{b:List S}{f:Nat->List Nat}{U:aE}(h:∀(l:List Nat) (G:Gs),l.length<=100->aN aa U b [.v (vs l)] G=some (.ret (vs (l.flatMap f)),[.v (vs (l.flatMap f))],G))(e:En)(G:Gs):J4 b f U e G=aN aa U b e G:=by
 show Option.elim ((dR e).bind fun z=>(yN z).bind aY) _ _=_;cases hq:(dR e).bind fun z=>(yN z).bind aY with
 |none=>rfl
 |some s=>
  refine bindC hq fun z hz hq=>bindC hq fun x hx hq=>?_;rw[aZ hz,kR hx,bh hq];show(match Nat.ble s.length 5 with|true=>_|false=>_)=_
  cases hs:Nat.ble s.length 5 with
  |true=>exact(h s.cps.toList G (Nat.le_trans (Nat.le_of_ble_eq_true hs) (by decide))).symm
  |false=>rfl
theorem J8:Om= .ite (.v 16) [(.fz []),(.expr (.call (.v 19) [(.bB (.c (.c (.str ⟨⟨[]⟩⟩))) ⟨⟨[106,111,105,110]⟩⟩ [(.comp true (.mX [(.c (.c (.str ⟨⟨[32]⟩⟩))),(.fmt (.v 0)),(.c (.c (.str ⟨⟨[61,34]⟩⟩))),(.fmt (.call (.c (.c (.ad 244))) [(.v 1)])),(.c (.c (.str ⟨⟨[34]⟩⟩)))]) (.v 16) [])])]))] []:=by kernel_rfl
theorem J9{U:aE}{e:En}{G:Gs}{k s:List Nat}{l:List V}(Pp:sl e 16= .v (.list [.tup [vs k,vs s]]))(VC:sl e 19= .v (.sp .bm))(hG:G.log=some l)(hk:k.length<=5)(hs:s.length<=5)(hl:l.length<=1000)
  (hU:U 244 [.v (vs s)] G=some (vs (s.flatMap eA),.v (vs (s.flatMap eA)),G)):fY aa U Om e G=some (.aS,e,{G with log:=some (l++[vs (J5 k s)])}):=by
 have hA:=iI s;have hf:(s.flatMap eA).length<=1000000:=Nat.le_trans hA (Nat.le_trans (Nat.mul_le_mul_left 6 hs) (by decide));have hat:(J5 k s)=[[32],k,[61,34],s.flatMap eA,[34]].flatten:=by simp
 have Oo:aq aa U (.comp true (.mX [(.c (.c (.str ⟨⟨[32]⟩⟩))),(.fmt (.v 0)),(.c (.c (.str ⟨⟨[61,34]⟩⟩))),(.fmt (.call (.c (.c (.ad 244))) [(.v 1)])),(.c (.c (.str ⟨⟨[34]⟩⟩)))]) (.v 16) []) e G=some (.list [vs (J5 k s)],G):=by
  refine iE (ws:=[some (vs (J5 k s))]) (aK Pp) rfl rfl (Nat.le_trans (m:=1) (Nat.le_refl _) (by decide)) fun j w hj=>?_
  match j,hj with
  |0,hj=>obtain rfl:=Option.some.inj hj;refine⟨_,_,rfl,rfl,rfl,fun y hy=>?_⟩;obtain rfl:=Option.some.inj hy;rw[hat];refine J3 (ah rfl (ah (Gw rfl (Nat.le_trans hk (by decide))) (ah rfl (ah (Gw (dW rfl (ah rfl aC) hU) hf) (ah rfl aC))))) ?_;simp[-List.length_flatMap];omega
  |n+1,hj=>exact xa hj
 rw[J8];have hj:=wH (l:=[J5 k s]) Oo (by simp[-List.length_flatMap];omega);rw[List.flatten_singleton]at hj;refine jA (aK Pp) rfl (bx (ss (J0 (v:=.c .none) (x_call (aK VC) (ah hj aC) ?_)) rfl));show Option.bind G.log _=_;rw[hG];exact if_pos (Nat.lt_of_le_of_lt hl (by decide))
theorem ET{n:Nat}(e:En)(G:Gs):J6 (aj aa aG n) e G=fY aa (aj aa aG n) Om e G:=by
 show Option.elim (R5 e G) _ _=_;cases hq:R5 e G with
 |none=>rfl
 |some r=>
  rcases n with _|n
  ·rfl
  ·exact bindC hq fun w hw hq=>ak hq fun hb hq=>bindC hq fun l hG hq=>bindC hq fun x hx hq=>bindC hq fun a ha hq=>bindC hq fun t ht hq=>bindC hq fun p hp hq=>bindC hq fun q VD hq=>bindC hq fun k hk hq=>bindC hq fun s hs hq=>ak hq fun hc hq=>by have hU:aj aa aG (n+1) 244 [.v (vs s.cps.toList)] G=_:=iF (f:=aQ) rfl rfl (pO (Nat.le_trans hc.2.1 (by decide))) rfl;rw[<-Option.some.inj hq,J9 (k:=k.cps.toList) (s:=s.cps.toList) (by rw[kR hx,iP ha,aZ ht,r8 hp,dz VD,bh hk,bh hs]) (by rw[kR hw,ER hb]) hG hc.1 hc.2.1 hc.2.2 hU];show Option.elim (aj aa aG (n+1) 244 [.v (vs s.cps.toList)] G) _ _=_;rw[hU];rfl
noncomputable def EU (T:aM) (U:aE) (args:List SL) (G:Gs) (f:Fn):Option (V×SL×Gs):=(fL f args).bind fun e=>(aN T U f.body e G).bind fun r=>match r.1 with
   | .aS=>some (.c .none,sl r.2.1 0,r.2.2)
   | .ret v=>some (v,sl r.2.1 0,r.2.2)
theorem qM{T:aM}{U U':aE}{args:List SL}{G:Gs}{f:Fn}{b:List S}(h:∀e,aN T U f.body e G=aN T U' b e G):EU T U args G f=EU T U' args G {f with body:=b}:=by show Option.bind (fL f args) _=Option.bind (fL f args) _;congr 1;funext e;show Option.bind (aN T U f.body e G) _=Option.bind (aN T U' b e G) _;rw[h e]
theorem Gx:∀n,aj aa aG n=aj aa ES n
 |0=>rfl
 |n+1=>by
  have ih:=Gx n;funext a args G;show Option.bind (aG a) (EU aa (aj aa aG n) args G)=Option.bind (ES a) (EU aa (aj aa ES n) args G);rw[<-ih];show _=Option.bind (match Nat.beq 244 a with|true=>_|false=>match Nat.beq 237 a with|true=>_|false=>match Nat.beq 202 a with|true=>_|false=>aG a) _
  cases h1:Nat.beq 244 a with
  |true=>
   (clear ih;obtain rfl:=(Nat.eq_of_beq_eq_true h1))
   exact qM (f:=aQ) fun e=>by rw[wL,wM fun l G h=>pO h]
  |false=>
   cases h2:Nat.beq 237 a with
   |true=>
    (clear ih h1;obtain rfl:=(Nat.eq_of_beq_eq_true h2))
    exact qM (f:=bq) fun e=>by rw[wL,wM fun l G h=>yu h]
   |false=>
    cases h3:Nat.beq 202 a with
    |true=>
     (clear ih h1 h2;obtain rfl:=(Nat.eq_of_beq_eq_true h3))
     exact qM (f:=cW) fun e=>(tB (l:=cW.body) (k:=27) (s':=.sem J6) (fun e G=>J7.trans (ET e G)) e G).symm
    |false=>rfl
end Mine.Internal
end
noncomputable section
open PySem PySem.W PyProof.Rows
namespace Mine.Internal
noncomputable abbrev g0:Gs:=⟨none,none,0⟩
noncomputable abbrev nX (v o:List Nat):List (List Nat):=[[60,98],J5 [118] v,[62],o.flatMap eT,[60,47,98,62]]
noncomputable abbrev Gy (v o w q:List Nat):List (List Nat):=[60,114]::[62]::(nX v o++(nX w q++[[60,47,114,62]]))
noncomputable def VE (r:Fl×En×Gs):Fl×SL×Option (List V):=(r.1,sl r.2.1 2,r.2.2.log)
noncomputable def eV (v w o q:List Nat):Option (Fl×SL×Option (List V)):=(aN aa (aj aa ES 10) (eX.body.take 11) [.v (.list [vs v,vs w]),.v (.list [vs o,vs q]),.no,.no,.no] g0).map VE
noncomputable def eW (v w o q:List Nat):Option (Fl×SL×Option (List V)):=some (.aS,.v (.sp .CO),some ((Gy v o w q).map vs))
theorem four{P:List Nat->Prop}{l:List Nat}(h:l.length=4\/l.length=5)(k1:∀a b c d,P [a,b,c,d])(k2:∀a b c d e,P [a,b,c,d,e]):P l:=by
 rcases h with h|h
 ·match l,h with
  |[a,b,c,d],_=>exact k1 a b c d
 ·match l,h with
  |[a,b,c,d,e],_=>exact k2 a b c d e
theorem three{P:List Nat->Prop}{l:List Nat}(h:l.length=1\/l.length=2\/l.length=3)(k1:∀a,P [a])(k2:∀a b,P [a,b])(k3:∀a b c,P [a,b,c]):P l:=by
 rcases h with h|h|h
 ·match l,h with
  |[a],_=>exact k1 a
 ·match l,h with
  |[a,b],_=>exact k2 a b
 ·match l,h with
  |[a,b,c],_=>exact k3 a b c
theorem BL{v w o q:List Nat}(hv:v.length=4\/v.length=5)(hw:w.length=4\/w.length=5)(ho:o.length=1\/o.length=2\/o.length=3)(hq:q.length=1\/q.length=2\/q.length=3):eV v w o q=eW v w o q:=by
 have k3:∀v w o,(∀a,eV v w o [a]=eW v w o [a])->(∀a b,eV v w o [a,b]=eW v w o [a,b])->(∀a b c,eV v w o [a,b,c]=eW v w o [a,b,c])->eV v w o q=eW v w o q:=fun v w o=>three (P:=fun q=>eV v w o q=eW v w o q) hq;have k2:∀v w,(∀a,eV v w [a] q=eW v w [a] q)->(∀a b,eV v w [a,b] q=eW v w [a,b] q)->(∀a b c,eV v w [a,b,c] q=eW v w [a,b,c] q)->eV v w o q=eW v w o q:=fun v w=>three (P:=fun o=>eV v w o q=eW v w o q) ho;have k1:∀v,(∀a b c d,eV v [a,b,c,d] o q=eW v [a,b,c,d] o q)->(∀a b c d e,eV v [a,b,c,d,e] o q=eW v [a,b,c,d,e] o q)->eV v w o q=eW v w o q:=fun v=>four (P:=fun w=>eV v w o q=eW v w o q) hw;exact four (P:=fun v=>eV v w o q=eW v w o q) hv
  (fun a b c d=>k1 _ (fun a' b' c' d'=>k2 _ _ (fun x=>k3 _ _ _ (fun y=>by kernel_rfl) (fun y z=>by kernel_rfl) (fun y z t=>by kernel_rfl)) (fun x x'=>k3 _ _ _ (fun y=>by kernel_rfl) (fun y z=>by kernel_rfl) (fun y z t=>by kernel_rfl)) (fun x x' x''=>k3 _ _ _ (fun y=>by kernel_rfl) (fun y z=>by kernel_rfl) (fun y z t=>by kernel_rfl)))
   (fun a' b' c' d' e'=>k2 _ _ (fun x=>k3 _ _ _ (fun y=>by kernel_rfl) (fun y z=>by kernel_rfl) (fun y z t=>by kernel_rfl)) (fun x x'=>k3 _ _ _ (fun y=>by kernel_rfl) (fun y z=>by kernel_rfl) (fun y z t=>by kernel_rfl)) (fun x x' x''=>k3 _ _ _ (fun y=>by kernel_rfl) (fun y z=>by kernel_rfl) (fun y z t=>by kernel_rfl))))
  (fun a b c d e=>k1 _ (fun a' b' c' d'=>k2 _ _ (fun x=>k3 _ _ _ (fun y=>by kernel_rfl) (fun y z=>by kernel_rfl) (fun y z t=>by kernel_rfl)) (fun x x'=>k3 _ _ _ (fun y=>by kernel_rfl) (fun y z=>by kernel_rfl) (fun y z t=>by kernel_rfl)) (fun x x' x''=>k3 _ _ _ (fun y=>by kernel_rfl) (fun y z=>by kernel_rfl) (fun y z t=>by kernel_rfl)))
   (fun a' b' c' d' e'=>k2 _ _ (fun x=>k3 _ _ _ (fun y=>by kernel_rfl) (fun y z=>by kernel_rfl) (fun y z t=>by kernel_rfl)) (fun x x'=>k3 _ _ _ (fun y=>by kernel_rfl) (fun y z=>by kernel_rfl) (fun y z t=>by kernel_rfl)) (fun x x' x''=>k3 _ _ _ (fun y=>by kernel_rfl) (fun y z=>by kernel_rfl) (fun y z t=>by kernel_rfl))))
end Mine.Internal
end
noncomputable section
open PySem PySem.W PyProof.Rows
namespace Mine.Internal
theorem nY{T:aM}{U:aE}:∀{a b:List S} {e e':En} {G G':Gs},aN T U a e G=some (.aS,e',G')->aN T U (a++b) e G=aN T U b e' G'
 |[],_,_,_,_,_,h=>by cases h;rfl
 |s::a,b,e,e',G,G',h=>bindC h fun r hr h=>by
  obtain⟨f,e1,G1⟩:=r;rcases f with _|_
  ·exact ss hr (nY h)
  ·cases h
theorem wN{v w o q:List Nat}(hv:v.length<=5)(hw:w.length<=5)(ho:o.length<=3)(hq:q.length<=3):(Gy v o w q).flatten.length<=1000:=by have h1:=iI v;have h2:=iI w;have h3:=lG o;have h4:=lG q;simp[-List.length_flatMap];omega
theorem EW{v w o q:List Nat}(hv:v.length=4\/v.length=5)(hw:w.length=4\/w.length=5)(ho:o.length=1\/o.length=2\/o.length=3)(hq:q.length=1\/q.length=2\/q.length=3):
  ∃z G',aj aa aG 11 308 [.v (.list [vs v,vs w]),.v (.list [vs o,vs q])] g0=some (vs (Gy v o w q).flatten,z,G'):=by
 have h:=BL hv hw ho hq;obtain⟨⟨f,e,G⟩,h1,h2⟩:=Option.map_eq_some_iff.mp h;obtain⟨rfl,h2⟩:=Prod.mk.inj h2;obtain⟨h2,h3⟩:=Prod.mk.inj h2;refine⟨_,G,iF (f:=eX) (e:=[.v (.list [vs v,vs w]),.v (.list [vs o,vs q]),.no,.no,.no]) (e':=e) rfl rfl ?_ rfl⟩;rw[Gx 10];refine(nY (a:=eX.body.take 11) (b:=[.ret (.FD ⟨⟨[]⟩⟩ (.var 2))]) h1).trans (iD (BK h2 h3 (Nat.le_trans (wN (by omega) (by omega) (by omega) (by omega)) (by decide))))
theorem BN{a b:List Nat}(h:a.length+b.length<=1000000):xy (vs a) (vs b)=some (vs (a++b)):=by
 show(if(st a).length+(st b).length<=lim then some (V.c (.str (st a++st b)))else none)=_
 rw[qK];exact if_pos (Nat.le_trans h (by decide))
theorem iJ{a b:List Nat}(h:a.length+b.length<=1000000):binop .Add (vs a) (vs b)=some (vs (a++b)):=by show(xy (vs a) (vs b)).or _=_;rw[BN h];rfl
/-! EX,La -/
noncomputable abbrev yv:Str:=⟨⟨[103,101,116]⟩⟩
theorem BO{es:List (Str×V)}{G:Gs}:getM aa (.dict es) yv G=some (.get es,G):=by kernel_rfl
theorem qN{f:Nat->List Nat}:∀l:List Nat,(l.map f).flatten=l.flatMap f:=fun l=>by rw[List.flatMap_def]
theorem mK{l:List Nat}{k:Nat}{c:Nat}(h:l[k]?=some c):aS (.str (st l)) k=some (vs [c]):=by show Option.map _ (Array.mk l)[k]?=_;simp only[List.getElem?_toArray,h];rfl
theorem nZ{n:Nat}{l:List Nat}{es:List (Str×V)}{f:Nat->List Nat}{G:Gs}(hl:l.length<=1000)(hf:∀c∈l,(look es (st [c])).getD (vs [c])=vs (f c))(h6:∀c,(f c).length<=6):
  ∃z,aj aa aG (n+1) 294 [.v (vs l),.v (.dict es)] G=some (vs (l.flatMap f),z,G):=by
 refine⟨_,iF (f:=gT) (e:=[.v (vs l),.v (.dict es)]) rfl rfl (bx (iD ?_)) rfl⟩;have hfm:=qL h6 l;have hc:=iE (T:=aa) (U:=aj aa aG n) (tw:=false) (elt:=.bB (.v 2) yv [.v 0,.v 0]) (src:=.v 0) (ifs:=[]) (e:=[.v (vs l),.v (.dict es)]) (G:=G) (K:=.str (st l)) (ws:=l.map fun c=>some (vs (f c))) rfl rfl
  (by
    show Option.map _ (Array.mk l)[(l.map fun c=>some (vs (f c))).length]?=_;rw[List.length_map,List.getElem?_toArray,List.getElem?_eq_none (Nat.le_refl _)];rfl) (by rw[List.length_map];exact hl) (fun k w hw=>by
   rw[List.getElem?_map]at hw;obtain⟨c,hc,rfl⟩:=Option.map_eq_some_iff.mp hw;refine⟨_,_,mK hc,rfl,rfl,fun y hy=>?_⟩;obtain rfl:=Option.some.inj hy;refine gO (aK rfl) BO (ah (aK rfl) (ah (aK rfl) aC)) ?_;show some ((look es (st [c])).getD (vs [c]),G)=_;rw[hf c (List.mem_of_getElem? hc)])
 have e:(l.map fun c=>some (vs (f c))).filterMap id=(l.map f).map vs:=by simp only[List.filterMap_map,List.map_map];exact List.filterMap_eq_map (f:=fun c=>vs (f c))▸rfl
 rw[e]at hc;have :=wH hc (by rw[qN];omega);rwa[qN]at this
end Mine.Internal
end
noncomputable section
open PySem PySem.W PyProof.Rows
set_option backward.match.sparseCases false
namespace Mine.Internal
theorem e8{k c:Nat}{v:V}{l:List (Str×V)}(h:Nat.beq c k=false):look ((st [k],v)::l) (st [c])=look l (st [c]):=if_neg fun q=>Nat.ne_of_beq_eq_false h (by injection q with q;injection q with q;injection q with q;exact q.symm)
noncomputable abbrev Ka:List (Str×V):=[(st [38],vs [38,97,109,112,59]),(st [60],vs [38,108,116,59]),(st [34],vs [38,113,117,111,116,59]),(st [9],vs [38,35,120,57,59]),(st [10],vs [38,35,120,65,59]),(st [13],vs [38,35,120,68,59])]
noncomputable abbrev Kc:List (Str×V):=[(st [38],vs [38,97,109,112,59]),(st [60],vs [38,108,116,59]),(st [62],vs [38,103,116,59])]
theorem Kd{c:Nat}:(look Ka (st [c])).getD (vs [c])=vs (eA c):=Po (P:=fun c=>(look Ka (st [c])).getD (vs [c])=vs (eA c)) (fun c h=>by
 rw[wI h];simp only[iH,Bool.not_eq_true',Bool.or_eq_false_iff]at h;rw[e8 h.1.1.1.1.1,e8 h.1.1.1.1.2,e8 h.1.1.1.2,e8 h.1.1.2,e8 h.1.2,e8 h.2];rfl) (by kernel_rfl) (by kernel_rfl) (by kernel_rfl) (by kernel_rfl) (by kernel_rfl) (by kernel_rfl)
theorem Ke{c:Nat}(Kf:c≠13):(look Kc (st [c])).getD (vs [c])=vs (eT c):=spT (P:=fun c=>c≠13->(look Kc (st [c])).getD (vs [c])=vs (eT c)) (fun c h _=>by
 rw[tu h];simp only[plainT,Bool.not_eq_true',Bool.or_eq_false_iff]at h;rw[e8 h.1.1.1,e8 h.1.1.2,e8 h.1.2];rfl) (fun _=>by kernel_rfl) (fun _=>by kernel_rfl) (fun _=>by kernel_rfl) (fun h=>absurd rfl h) Kf
section
variable{T:aM}{U:aE}{e e':En}{G G' ja:Gs}
theorem cI{v:V}:aq T U (.c v) e G=some (v,G):=rfl
theorem wO{i:Nat}{op:Operator}{x:X}{v w r:V}(hv:sl e i= .v v)(h:aq T U x e G=some (w,G'))(k:xA op v w=some r):fY T U (.aug i op x) e G=some (.aS,e.set i (.v r),G'):=by
 show(match sl e i with| .v v=>(aq T U x e G).bind fun r=>(xA op v r.1).map fun y=>(Fl.aS,e.set i (.v y),r.2)|_=>none)=_
 rw[hv];rw[h];show Option.map _ (xA op v w)=_;rw[k];rfl
end
theorem pP{n:Nat}{G:Gs}{e:En}{i:Int}{t v o:List Nat}(h0:∃l,sl e 0= .v (.list l)/\idx l (vi i)=some (vs v))(h1:∃l,sl e 1= .v (.list l)/\idx l (vi i)=some (vs o))(h2:sl e 2= .v (.dict Ka))(h3:sl e 3= .v (.dict Kc))(h4:sl e 4= .v (vs t))(h5:sl e 5= .v (vi i))
  (hv:v.length<=5)(ho:o.length<=3)(ht:t.length<=1000)(Kf:∀c∈o,c≠13):
  aN aa (aj aa aG (n+1)) [(.fz []),(.aug 4 .Add (.bin .Add (.bin .Add (.bin .Add (.bin .Add (.c (.c (.str ⟨⟨[60,98,32,118,61,34]⟩⟩))) (.call (.c (.c (.ad 294))) [(.sub (.v 0) (.v 5)),(.v 2)])) (.c (.c (.str ⟨⟨[34,62]⟩⟩)))) (.call (.c (.c (.ad 294))) [(.sub (.v 1) (.v 5)),(.v 3)])) (.c (.c (.str ⟨⟨[60,47,98,62]⟩⟩)))))] e G=some (.aS,e.set 4 (.v (vs (t++(nX v o).flatten))),G):=by
 have hA:=iI v;have hT:=lG o;obtain⟨l0,a0,b0⟩:=h0;obtain⟨l1,a1,b1⟩:=h1;obtain⟨z1,c1⟩:=nZ (n:=n) (l:=v) (es:=Ka) (f:=eA) (G:=G) (Nat.le_trans (by assumption) (by decide)) (fun c _=>Kd) (fun _=>wJ);obtain⟨z2,c2⟩:=nZ (n:=n) (l:=o) (es:=Kc) (f:=eT) (G:=G) (Nat.le_trans (by assumption) (by decide)) (fun c hc=>Ke (Kf c hc)) (fun _=>wK);have x1:=dW (T:=aa) (e:=e) (a:=294) rfl (ah (br (aK a0) (aK h5) b0) (ah (aK h2) aC)) c1;have x2:=dW (T:=aa) (e:=e) (a:=294) rfl (ah (br (aK a1) (aK h5) b1) (ah (aK h3) aC)) c2;refine bx (ss (wO h4 (aJ (aJ (aJ (aJ rfl x1 (iJ ?_)) rfl (iJ ?_)) x2 (iJ ?_)) rfl (iJ ?_)) (BN ?_)) ?_)
 iterate 5 (· simp[-List.length_flatMap];omega)
 rw[show t++((((([60,98,32,118,61,34]++v.flatMap eA)++[34,62])++o.flatMap eT)++[60,47,98,62]))=t++(nX v o).flatten by simp];rfl
theorem EY{n:Nat}{v w o q:List Nat}{G:Gs}(hv:v.length<=5)(hw:w.length<=5)(ho:o.length<=3)(hq:q.length<=3)(Kf:∀c∈o,c≠13)(R6:∀c∈q,c≠13):
  ∃z,aj aa aG (n+2) 301 [.v (.list [vs v,vs w]),.v (.list [vs o,vs q])] G=some (vs (Gy v o w q).flatten,z,G):=by
 have h1:=iI v;have h2:=lG o;have h3:=iI w;have h4:=lG q
 let E:Nat->En:=fun k=>match k with
  |0=>[.v (.list [vs v,vs w]),.v (.list [vs o,vs q]),.v (.dict Ka),.v (.dict Kc),.v (vs [60,114,62]),.no]
  |1=>[.v (.list [vs v,vs w]),.v (.list [vs o,vs q]),.v (.dict Ka),.v (.dict Kc),.v (vs ([60,114,62]++(nX v o).flatten)),.v (vi 0)]
  |_=>[.v (.list [vs v,vs w]),.v (.list [vs o,vs q]),.v (.dict Ka),.v (.dict Kc),.v (vs ([60,114,62]++(nX v o).flatten++(nX w q).flatten)),.v (vi 1)]
 have run:aN aa (aj aa aG (n+1)) gw.body [.v (.list [vs v,vs w]),.v (.list [vs o,vs q]),.no,.no,.no,.no] G=some (.ret (vs ([60,114,62]++(nX v o).flatten++(nX w q).flatten++[60,47,114,62])),E 2,G):=by
  refine bx (ss (bg rfl) (bx (ss (bg rfl) (bx (ss (bg rfl) (bx (ss (nW (E:=E) (H:=fun _=>G) (m:=2) (K:=.jC 0 2 1) rfl rfl rfl (by decide) fun k hk=>?_) (bx (iD (aJ (aK rfl) cI (iJ ?_)))))))))))
  ·match k,hk with
   |0,_=>exact⟨vi 0,_,rfl,rfl,pP (i:=0) (v:=v) (o:=o) ⟨_,rfl,rfl⟩ ⟨_,rfl,rfl⟩ rfl rfl rfl rfl hv ho (by decide) Kf⟩
   |1,_=>exact⟨vi 1,_,rfl,rfl,pP (i:=1) (v:=w) (o:=q) ⟨_,rfl,rfl⟩ ⟨_,rfl,rfl⟩ rfl rfl rfl rfl hw hq (by simp[-List.length_flatMap];omega) R6⟩
  ·simp[-List.length_flatMap];omega
 rw[show[60,114,62]++(nX v o).flatten++(nX w q).flatten++[60,47,114,62]=(Gy v o w q).flatten by simp]at run;exact⟨_,iF (f:=gw) rfl rfl run rfl⟩
end Mine.Internal
end
noncomputable section
open PySem PySem.W PyProof.Rows
set_option backward.match.sparseCases false
namespace Mine.Internal
section
variable{T:aM}{U:aE}{e e':En}{G G' ja:Gs}
theorem kE{b:Bf}{l:List X}{r:List V}{v:V}(h:fk T U l e G=some (r,G'))(k:ie b r=some v):aq T U (.call (.c (.c (.fn b))) l) e G=some (v,G'):=
 x_call (v:=.c (.fn b)) rfl h (by show Option.map _ (ie b r)=_;rw[k];rfl)
theorem lH{i:Nat}{x:X}{l:List V}{v:V}(hi:sl e i= .own l)(h:aq T U x e G=some (v,G))(hl:l.length<=1000000):fY T U (.eF (.var i) x) e G=some (.aS,e.set i (.own (l++[v])),G):=by
 have hg:∀G,fj T e G (.var i)=some l:=fun G=>by show CZ (sl e i)=_;rw[hi];rfl
 show Option.bind (fj T e G (.var i)) _=_;rw[hg,Option.bind_some];show Option.bind (aq T U x e G) _=_;rw[h,Option.bind_some];show Option.bind (fj T e G (.var i)) _=_;rw[hg,Option.bind_some];exact if_pos ⟨Nat.lt_of_le_of_lt hl (by decide),rfl⟩
end
theorem EZ(m:Nat):Int.fdiv m 64=((m / 64:Nat):Int):=(Int.fdiv_eq_ediv_of_nonneg _ (by decide)).trans (Int.natCast_ediv m 64).symm
theorem E2(m:Nat):Int.fmod m 64=((m % 64:Nat):Int):=(Int.fmod_eq_emod_of_nonneg _ (by decide)).trans (Int.natCast_emod m 64).symm
theorem gD{l:List Nat}{k:Nat}(hk:k<l.length):l.getD k 0=l[k]:=by simp[List.getD,hk]
noncomputable def sg (m:Nat):List Nat:=(if 63<m then[64+m / 64]else[])++[m % 64]
noncomputable abbrev v1 (c:Nat):V:=vs [c]
theorem BP{i:Nat}(h:i<=1000):ie .chr [vi i]=some (v1 i):=by
 show(if 0<=(i:Int)/\(i:Int)<=1114111 then some (V.c (.str ⟨#[(i:Int).toNat]⟩))else none)=_
 rw[if_pos (by omega)];rfl
theorem uU{U:aE}{x:SL}{a:List V}{m:Nat}{G:Gs}(hm:m<4096)(ha:a.length<=1000):
  aN aa U [(.fz []),(.ite (.cmp .Gt (.v 2) (.c (.c (.int 63)))) [(.fz []),(.eF (.var 1) (.call (.c (.c (.fn .chr))) [(.bin .Add (.c (.c (.int 64))) (.bin .FloorDiv (.v 2) (.c (.c (.int 64)))))]))] []),(.fz []),(.eF (.var 1) (.call (.c (.c (.fn .chr))) [(.bin .Mod (.v 2) (.c (.c (.int 64))))]))] [x,.own a,.v (vi m)] G
   =some (.aS,[x,.own (a++(sg m).map v1),.v (vi m)],G):=by
 have hc:aq aa U (.cmp .Gt (.v 2) (.c (.c (.int 63)))) [x,.own a,.v (vi m)] G=some (.c (.bool (decide ((63:Int)<m))),G):=bU (aK rfl) cI rfl;have hd:fY aa U (.ite (.cmp .Gt (.v 2) (.c (.c (.int 63)))) [(.fz []),(.eF (.var 1) (.call (.c (.c (.fn .chr))) [(.bin .Add (.c (.c (.int 64))) (.bin .FloorDiv (.v 2) (.c (.c (.int 64)))))]))] []) [x,.own a,.v (vi m)] G=some (.aS,[x,.own (a++(if 63<m then[64+m / 64]else[]).map v1),.v (vi m)],G):=by
  by_cases h:63<m
  ·refine jA hc (congrArg some (decide_eq_true (by omega))) (bx (ss (lH rfl (kE (ah (aJ cI (aJ (aK rfl) cI (v:=vi m) (w:=vi 64) (r:=vi ((m / 64:Nat):Int)) ?_) (r:=vi ((64+m / 64:Nat):Int)) ?_) aC) (BP (by omega))) (Nat.le_trans (by assumption) (by decide))) ?_))
   ·show some (vi (Int.fdiv m 64))=_
    rw[EZ]
   ·show some (vi (64+_))=_
    rw[Int.natCast_add];rfl
   ·rw[if_pos h];rfl
  ·refine fX hc (congrArg some (decide_eq_false (by omega))) ?_
   rw[if_neg h];show some (_,[x,SL.own a,_],_)=some (_,[x,SL.own (a++[]),_],_);rw[List.append_nil]
 refine bx (ss hd (bx (ss (lH rfl (kE (ah (aJ (aK rfl) cI (r:=vi ((m % 64:Nat):Int)) ?_) aC) (BP (by omega))) ?_) ?_)))
 ·show some (vi (Int.fmod m 64))=_
  rw[E2]
 ·have :(if 63<m then[64+m / 64]else[]).length<=1:=by split <;> simp
  simp only[List.length_append,List.length_map];omega
 ·show some (_,[x,SL.own (_++_++[v1 (m % 64)]),_],_)=_
  rw[List.append_assoc];unfold sg;rw[List.map_append];rfl
theorem uV(m:Nat):(sg m).length<=2:=by unfold sg;split <;> simp
theorem BQ{n:Nat}{l:List Nat}{G:Gs}(hl:l.length<=8)(h:∀m∈l,m<4096):∃z,aj aa aG (n+1) 277 [.v (.list (l.map fun m:Nat=>vi m))] G=some (vs (l.flatMap sg),z,G):=by
 let E:Nat->En:=fun k=>[.v (.list (l.map fun m:Nat=>vi m)),.own (((l.take k).flatMap sg).map v1),match k with|0=>.no|k+1=>.v (vi (l.getD k 0:Nat))]
 have hlen:∀a:List Nat,(a.flatMap sg).length<=2*a.length:=fun a=>by
  induction a with
  |nil=>exact Nat.le_refl _
  |cons c a ih=>have :=uV c;rw[List.flatMap_cons,List.length_append,List.length_cons];omega
 have hE:sl ([1].foldl C1 (E l.length)) 1= .v (.list ((l.flatMap sg).map v1)):=by show SL.v (.list (((l.take l.length).flatMap sg).map v1))=_;rw[List.take_length]
 refine⟨_,iF (f:=jf) (e:=[.v (.list (l.map fun m:Nat=>vi m)),.no,.no]) (e':=[1].foldl C1 (E l.length)) rfl rfl (bx (ss rfl (bx (ss (nW (E:=E) (H:=fun _=>G) (m:=l.length) (K:=.list (l.map fun m:Nat=>vi m)) (aK rfl) rfl ?_ (Nat.le_trans (by assumption) (by decide)) fun k hk=>?_) (bx (iD ?_)))))) rfl⟩
 ·show(l.map fun m:Nat=>vi m)[l.length]?=none
  simp
 ·refine⟨vi (l.getD k 0:Nat),_,?_,rfl,?_⟩
  ·show(l.map fun m:Nat=>vi m)[k]?=_
   rw[List.getElem?_map,List.getElem?_eq_getElem hk,gD hk];rfl
  ·refine(uU (a:=((l.take k).flatMap sg).map v1) (h _ (by rw[gD hk];exact List.getElem_mem hk)) ?_).trans ?_
   ·have :=hlen (l.take k);rw[List.length_map];rw[List.length_take]at this;omega
   ·show some (_,[_,SL.own _,_],_)=some (_,[_,SL.own _,_],_)
    rw[<-List.map_append,gD hk,List.take_succ_eq_append_getElem hk,List.flatMap_append,show[l[k]].flatMap sg=sg l[k] by simp];show some (_,[_,SL.own _,SL.v (vi (l[k]:Nat))],_)=some (_,[_,SL.own _,SL.v (vi (l.getD k 0:Nat))],_);rw[gD hk]
 ·have hv:((l.flatMap sg).map v1)=((l.flatMap sg).map fun c=>[c]).map vs:=by rw[List.map_map];rfl
  have hf:((l.flatMap sg).map fun c=>[c]).flatten=l.flatMap sg:=by rw[qN];simp
  refine(BK (l:=(l.flatMap sg).map fun c=>[c]) hE (congrArg some hv) ?_).trans ?_
  ·rw[hf];have :=hlen l;omega
  ·rw[hf]
end Mine.Internal
end
noncomputable section
open PySem PySem.W PyProof.Rows
namespace Mine.Internal
noncomputable def md (x:Int) (k:Nat):Nat:=(x % (k:Int)).toNat
theorem l5{x:Int}{k:Nat}(h:0<k):md x k<k:=by have :=Int.emod_lt_of_pos x (show(0:Int)<k by omega);unfold md;omega
theorem mL{x:Int}{k:Nat}(h:0<k):Int.fmod x k=(md x k:Nat):=by rw[Int.fmod_eq_emod_of_nonneg _ (by omega)];exact(Int.toNat_of_nonneg (Int.emod_nonneg _ (by omega))).symm
section
variable{n:Nat}{G:Gs}
noncomputable def fU(f:Nat):List Nat:=[[],[9],[32,9],[9,32,9],[32,9,9],[32,9,32,9],[32,32,32,9]].getD f []
theorem yw{x:Int}:∃z,aj aa aG (n+1) 258 [.v (vi x)] G=some (vs (fU (md (x.fdiv 786432) 7)),z,G):=by
 refine⟨_,iF (f:=je) (e:=[.v (vi x)]) rfl rfl (bx (iD (br (v:=.list ([[],[9],[32,9],[9,32,9],[32,9,9],[32,9,32,9],[32,32,32,9]].map vs)) (w:=vi (md (x.fdiv 786432) 7)) (G':=G) (by kernel_rfl) ?_ ?_))) rfl⟩
 ·refine aJ (aJ (aK rfl) cI (by kernel_rfl)) cI (v:=vi (x.fdiv 786432)) (w:=vi 7) ?_
  show some (vi (Int.fmod _ (7:Nat)))=_;rw[mL (by decide)]
 ·have h:=l5 (x:=x.fdiv 786432) (k:=7) (by decide)
  generalize md (x.fdiv 786432) 7=q at h
  match q,h with
  |0,_=>rfl
  |1,_=>rfl
  |2,_=>rfl
  |3,_=>rfl
  |4,_=>rfl
  |5,_=>rfl
  |6,_=>rfl
theorem E3{x:Int}:aj aa aG (n+1) 282 [.v (vi x)] G=some (.list [vi (7 -x.fmod 7),vi (8 -x.fmod 8),vi (9 -x.fmod 9),vi (11 -x.fmod 11)],.v (vi x),G):=by kernel_rfl
noncomputable def due (n:Nat):List Nat:=[7 -n % 7,8 -n % 8,9 -n % 9,11 -n % 11]
noncomputable abbrev vn (n:Nat):V:=vi n
theorem mO{n k:Nat}(h:0<k):((k:Nat):Int) -Int.fmod n k=((k -n % k:Nat):Int):=by have :=Nat.mod_lt n h;rw[Int.fmod_eq_emod_of_nonneg _ (by omega)];omega
theorem uW{m:Nat}:aj aa aG (n+1) 282 [.v (vn m)] G=some (.list ((due m).map vn),.v (vn m),G):=by simp only[E3];simp only[show(7:Int) -Int.fmod m 7=_ from mO (k:=7) (by decide),show(8:Int) -Int.fmod m 8=_ from mO (k:=8) (by decide),show(9:Int) -Int.fmod m 9=_ from mO (k:=9) (by decide),show(11:Int) -Int.fmod m 11=_ from mO (k:=11) (by decide)];rfl
theorem uX{a b c d:Nat}{x:Int}:∃z,aj aa aG (n+1) 289 [.v (.list ([a,b,c,d].map vn)),.v (vi x)] G=some (.list (([a,b,c,d].set (md (x.fdiv 48) 4) (md (x.fdiv 192) 4096)).map vn),z,G):=by
 have e1:aq aa (aj aa aG n) (.bin .Mod (.bin .FloorDiv (.v 1) (.c (.c (.int 48)))) (.c (.c (.int 4)))) [.v (.list ([a,b,c,d].map vn)),.v (vi x),.no] G=some (vn (md (x.fdiv 48) 4),G):=
  aJ (aJ (aK rfl) cI (v:=vi x) (w:=vi 48) (r:=vi (x.fdiv 48)) (by kernel_rfl)) cI (w:=vi 4) (by
   show some (vi (Int.fmod _ (4:Nat)))=_;rw[mL (by decide)])
 have h4:=l5 (x:=x.fdiv 48) (k:=4) (by decide);refine⟨_,iF (f:=gR) (e:=[.v (.list ([a,b,c,d].map vn)),.v (vi x),.no]) rfl rfl (bx (ss (bg e1) (bx (iD ?_)))) rfl⟩;have e2:Int.fmod (x.fdiv 192) 4096=(md (x.fdiv 192) 4096:Nat):=mL (k:=4096) (by decide);simp only[List.map_set,show vn (md (x.fdiv 192) 4096)=vi (Int.fmod (x.fdiv 192) 4096)from congrArg vi e2.symm];generalize md (x.fdiv 48) 4=q at h4
 match q,h4 with
 |0,_=>kernel_rfl
 |1,_=>kernel_rfl
 |2,_=>kernel_rfl
 |3,_=>kernel_rfl
noncomputable def agree (l m:List Nat):Nat:=((l.zip m).filter fun p=>p.1==p.2).length
theorem BR{a b:Nat}:rB .Eq (vn a) (vn b)=some (a==b):=by show some ((a:Int)==(b:Int))=_;congr 1;rw[Bool.eq_iff_iff,beq_iff_eq,beq_iff_eq];omega
noncomputable def tk (b:Bool) (k:Nat):Option V:=match b with
 |true=>some (vn k)
 |false=>none
theorem wQ{b:Bool}{k:Nat}:(tk b k).isSome=b:=by rcases b with⟨⟩ <;> rfl
theorem BS{b:Bool}{k:Nat}{y:V}(h:tk b k=some y):y=vn k:=by rcases b with⟨⟩ <;> cases h;rfl
theorem BU{a b c d a' b' c' d':Nat}:([tk (a==a') 0,tk (b==b') 1,tk (c==c') 2,tk (d==d') 3].filterMap id).length=agree [a,b,c,d] [a',b',c',d']:=by unfold agree;simp only[List.zip_cons_cons,List.zip_nil_left,List.filter];rcases(a==a')with⟨⟩ <;> cases(b==b') <;> cases(c==c') <;> cases(d==d') <;> rfl
theorem BV{a b c d m:Nat}:∃z,aj aa aG (n+2) 327 [.v (.list ([a,b,c,d].map vn)),.v (vn m)] G=some (vn (agree [a,b,c,d] (due m)),z,G):=by
 have hd:=dW (T:=aa) (U:=aj aa aG (n+1)) (e:=[.v (.list ([a,b,c,d].map vn)),.v (vn m),.no]) (a:=282) rfl (ah (aK (i:=1) rfl) aC) (uW (n:=n) (m:=m) (G:=G));have ht:∀{k s t:Nat} {w:Option V},w=tk (s==t) k->gv aa (.list ([a,b,c,d].map vn)) (vn k)=some (vn s)->gv aa (.list ((due m).map vn)) (vn k)=some (vn t)->aS (.jC 0 4 1) k=some (vn k)->∃x zs,aS (.jC 0 4 1) k=some x/\front false x=some zs/\
   jM aa (aj aa aG (n+1)) [(.cmp .Eq (.sub (.v 1) (.v 0)) (.sub (.v 3) (.v 0)))] (zs++[.v (.list ([a,b,c,d].map vn)),.v (vn m),.v (.list ((due m).map vn))]) G=some (w.isSome,G)/\
   ∀y,w=some y->aq aa (aj aa aG (n+1)) (.v 0) (zs++[.v (.list ([a,b,c,d].map vn)),.v (vn m),.v (.list ((due m).map vn))]) G=some (y,G):=fun {k s t w} hw h1 h2 h3=>by
  refine⟨_,_,h3,rfl,bT (f:=aq aa _ _ _) (bU (br (aK (i:=1) rfl) (aK (i:=0) rfl) h1) (br (aK (i:=3) rfl) (aK (i:=0) rfl) h2) BR) ?_,fun y hy=>?_⟩
  ·rw[hw,wQ];rcases(s==t)with⟨⟩ <;> rfl
  ·rw[hw]at hy;rw[BS hy];rfl
 have hc:=iE (T:=aa) (U:=aj aa aG (n+1)) (tw:=false) (elt:=.v 0) (src:=.call (.c (.c (.fn .range))) [(.c (.c (.int 4)))]) (ifs:=[(.cmp .Eq (.sub (.v 1) (.v 0)) (.sub (.v 3) (.v 0)))])
  (e:=[.v (.list ([a,b,c,d].map vn)),.v (vn m),.v (.list ((due m).map vn))]) (G:=G) (K:=.jC 0 4 1) (ws:=[tk (a==7 -m % 7) 0,tk (b==8 -m % 8) 1,tk (c==9 -m % 9) 2,tk (d==11 -m % 11) 3]) rfl rfl rfl (Nat.le_trans (m:=4) (Nat.le_refl _) (by decide)) (fun k w hw=>by
   match k,hw with
   |0,hw=>exact ht (Option.some.inj hw).symm rfl rfl rfl
   |1,hw=>exact ht (Option.some.inj hw).symm rfl rfl rfl
   |2,hw=>exact ht (Option.some.inj hw).symm rfl rfl rfl
   |3,hw=>exact ht (Option.some.inj hw).symm rfl rfl rfl)
 refine⟨_,iF (f:=jh) (e:=[.v (.list ([a,b,c,d].map vn)),.v (vn m),.no]) rfl rfl (bx (ss (bg hd) (bx (iD (kE (ah hc aC) ?_))))) rfl⟩;show Option.map (fun n=>V.c (.int n)) (if _<=lim then some _ else none)=_
 rw[if_pos (Nat.le_trans (List.length_filterMap_le _ _) (Nat.le_trans (m:=4) (Nat.le_refl _) (by decide))),BU];rfl
end
end Mine.Internal
end
noncomputable section
open PySem PySem.W PyProof.Rows
set_option backward.match.sparseCases false
namespace Mine.Internal
section
variable{T:aM}{U:aE}{e e':En}{G G' ja:Gs}
theorem qO{i j k:Nat}{b:Array UInt8}{p:Nat}{c:UInt8}(h:sl e j= .eH b p)(ho:lone e j=true)(hc:b[p]?=some c)(hk:c.toNat=k):fY T U (.oK i j) e G=some (.aS,(e.set j (.eH b (p+1))).set i (.v (vn k)),G):=by
 show(match sl e j with| .eH b p=>(if lone e j=true then(b[p]?).map (fun(c:UInt8)=>(Fl.aS,(e.set j (.eH b (p+1))).set i (.v (vn c.toNat)),G))else none)|_=>none)=_
 rw[h];show(if lone e j=true then(b[p]?).map (fun(c:UInt8)=>(Fl.aS,(e.set j (.eH b (p+1))).set i (.v (vn c.toNat)),G))else none)=_
 rw[if_pos ho,hc,<-hk];rfl
end
noncomputable def Gz (h:Nat):Bool:=Builtin.bitAnd ((64+h:Nat):Int) 63==(h:Int)&&(Builtin.bitAnd ((64+h:Nat):Int) 64==64&&(Builtin.bitAnd (h:Int) 63==(h:Int)&&(Builtin.bitAnd (h:Int) 64==0&&(List.range 64).all fun l=>Builtin.bitOr ((h:Int)*2 ^ (6:Nat)) (l:Int)==((h*64+l:Nat):Int))))
theorem Oq:(List.range 64).all Gz=true:=by decide+kernel
theorem bits{h:Nat}(hh:h<64):Builtin.bitAnd ((64+h:Nat):Int) 63=h/\Builtin.bitAnd ((64+h:Nat):Int) 64=64/\Builtin.bitAnd (h:Int) 63=h/\Builtin.bitAnd (h:Int) 64=0/\∀l:Nat,l<64->Builtin.bitOr ((h:Int)*2 ^ (6:Nat)) (l:Int)=((h*64+l:Nat):Int):=by have :=List.all_eq_true.mp Oq h (List.mem_range.mpr hh);unfold Gz at this;simp only[Bool.and_eq_true,beq_iff_eq,List.all_eq_true,List.mem_range]at this;exact this
section
variable{n:Nat}{G:Gs}{U:aE}
noncomputable abbrev oc(c:Nat):UInt8:=(c:Int).toNat.toUInt8
theorem uY{c:Nat}(h:c<256):(oc c).toNat=c:=by show(Nat.toUInt8 c).toNat=c;simp[Nat.toUInt8];omega
theorem yy{b:Array UInt8}{p m:Nat}(hm:m<4096)(h:∀j c,(sg m)[j]?=some c->b[p+j]?=some (oc c)):aj aa aG (n+1) 111 [.eH b p] G=some (vn m,.eH b (p+(sg m).length),G):=by
 have hl:=bits (h:=m % 64) (Nat.mod_lt _ (by decide));by_cases h6:63<m
 ·have hs:sg m=[64+m / 64,m % 64]:=by unfold sg;rw[if_pos h6];rfl
  rw[hs]at h⊢;have hh:=bits (h:=m / 64) (by omega);have c0:=h 0 _ rfl;have c1:=h 1 _ rfl
  let E:Nat->En:=fun k=>match k with
   |0=>[.eH b (p+1),.v (vn (64+m / 64)),.v (vn (m / 64))]
   |_=>[.eH b (p+2),.v (vn (m % 64)),.v (vn m)]
  refine iF (f:=cA) (e:=[.eH b p,.no,.no]) (e':=E 1) rfl rfl (bx (ss (qO rfl rfl c0 (uY (by omega))) (bx (ss (bg (aJ (aK rfl) cI (v:=vn (64+m / 64)) (w:=vi 63) (r:=vn (m / 64)) (congrArg (fun i=>some (vi i)) hh.1))) (bx (ss (s8 (E:=E) (m:=1) (r:=some (.aS,E 1,G)) (by decide) (fun k hk=>?_) ⟨vi 0,?_,.inl ⟨rfl,rfl⟩⟩) (bx (iD (aK rfl))))))))) rfl
  ·match k,hk with
   |0,_=>
    refine⟨vi 64,aJ (aK rfl) cI (v:=vn (64+m / 64)) (w:=vi 64) (congrArg (fun i=>some (vi i)) hh.2.1),rfl,bx (ss (wO (v:=vn (m / 64)) (w:=vi 6) (r:=vi (((m / 64:Nat):Int)*2 ^ 6)) rfl cI ?_) (bx (ss (qO rfl rfl c1 (uY (by omega))) (bx (ss (wO (v:=vi (((m / 64:Nat):Int)*2 ^ 6)) (w:=vn (m % 64)) (r:=vn m) rfl (aJ (aK rfl) cI (v:=vn (m % 64)) (w:=vi 63) (congrArg (fun i=>some (vi i)) hl.2.2.1)) ?_) rfl)))))⟩
    ·show(if sm ((m / 64:Nat):Int)=true/\(0:Int)<=6/\(6:Int)<=1000 then some (vi (((m / 64:Nat):Int)*2 ^ (6:Int).toNat))else none)=_
     rw[if_pos ⟨decide_eq_true (by omega),by decide,by decide⟩];rfl
    ·show some (vi (Builtin.bitOr (((m / 64:Nat):Int)*2 ^ (6:Nat)) ((m % 64:Nat):Int)))=_
     rw[hh.2.2.2.2 _ (Nat.mod_lt _ (by decide)),show m / 64*64+m % 64=m by omega]
  ·exact aJ (aK rfl) cI (v:=vn (m % 64)) (w:=vi 64) (congrArg (fun i=>some (vi i)) hl.2.2.2.1)
 ·have e:m % 64=m:=by omega
  have hs:sg m=[m]:=by unfold sg;rw[if_neg h6,e];rfl
  rw[hs]at h⊢;rw[e]at hl;have c0:=h 0 _ rfl
  let E:Nat->En:=fun _=>[.eH b (p+1),.v (vn m),.v (vn m)]
  exact iF (f:=cA) (e:=[.eH b p,.no,.no]) (e':=E 0) rfl rfl (bx (ss (qO rfl rfl c0 (uY (by omega))) (bx (ss (bg (aJ (aK rfl) cI (v:=vn m) (w:=vi 63) (r:=vn m) (congrArg (fun i=>some (vi i)) hl.2.2.1))) (bx (ss (s8 (E:=E) (m:=0) (r:=some (.aS,E 0,G)) (by decide) (fun k hk=>absurd hk (Nat.not_lt_zero k)) ⟨vi 0,aJ (aK rfl) cI (v:=vn m) (w:=vi 64) (congrArg (fun i=>some (vi i)) hl.2.2.2.1),.inl ⟨rfl,rfl⟩⟩) (bx (iD (aK rfl))))))))) rfl
end
end Mine.Internal
end
noncomputable section
open PySem PySem.W PyProof.Rows
namespace Mine.Internal
section
variable{U:aE}{G:Gs}{x:SL}{b:Array UInt8}{p:Nat}{l:List V}
theorem Ot{p':Nat}{c:UInt8}{r:V}(hc:b[p]?=some c)(hU:U 111 [.eH b p] G=some (r,.eH b p',G))(hl:l.length<=1000)(hx:Nat.beq x.kd 3=false):
  fY aa U (.ju 2 (.c (.c (.ad 111))) 1) [x,.eH b p,.own l] G=some (.aS,[x,.eH b p',.own (l++[r])],G):=by
 show(b[p]?).elim _ (fun _=>Option.bind (U 111 [.eH b p] G) _)=_;rw[hc,hU];refine if_pos ⟨Nat.lt_of_le_of_lt hl (by decide),?_⟩;show(!Nat.beq x.kd 3&&_)=true;rw[hx];rfl
theorem Kg(hc:b[p]?=none)(hx:Nat.beq x.kd 3=false):
  fY aa U (.ju 2 (.c (.c (.ad 111))) 1) [x,.eH b p,.own l] G=some (.ret (.list l),[x,.v (.sp .gone),.v (.list l)],G):=by
 show(b[p]?).elim (if 111=aa.pv/\lone [x,.eH b p,.own l] 1=true then some (Fl.ret (.list l),[x,SL.v (.sp .gone),SL.v (.list l)],G)else none) _=_
 rw[hc];refine if_pos ⟨rfl,?_⟩;show(!Nat.beq x.kd 3&&_)=true;rw[hx];rfl
end
theorem n5{α β γ:Type}{f:α->Option β}{g:γ->α}{k:γ->β}:∀{l:List γ},(∀c∈l,f (g c)=some (k c))->aA f (l.map g)=some (l.map k)
 |[],_=>rfl
 |c::l,h=>by show(f (g c)).bind _=_;simp only[h c (List.mem_cons_self ..)];show Option.map _ (aA f (l.map g))=_;simp only[n5 fun d hd=>h d (List.mem_cons_of_mem _ hd)];rfl
theorem BW{l:List Nat}(h:∀c∈l,c<256)(hl:l.length<=1000):ie .bytes [.list (l.map vn)]=some (.c (.bytes (l.map oc).toArray)):=by show Option.bind (Option.bind (aA bF (l.map vn)) Hh) _=_;rw[gM (f:=bF) (g:=vn) (k:=fun c:Nat=>(c:Int)) (fun _=>rfl) l,Option.bind_some];show Option.bind (aA _ (l.map fun c:Nat=>(c:Int))) _=_;rw[n5 (k:=oc) fun c hc=>if_pos (by have :=h c hc;omega),Option.bind_some];exact if_pos (by rw[List.length_map];exact Nat.le_trans hl (by decide))
theorem GA{m c:Nat}(h:m<4096)(hc:c∈sg m):c<128:=by
 unfold sg at hc;rw[List.mem_append]at hc;rcases hc with hc|hc
 ·by_cases q:63<m
  ·rw[if_pos q,List.mem_singleton]at hc;omega
  ·rw[if_neg q]at hc;cases hc
 ·rw[List.mem_singleton]at hc;omega
theorem uZ{n:Nat}{l:List Nat}{G:Gs}(hl:l.length<=8)(h:∀m∈l,m<4096):∃z,aj aa aG (n+2) 322 [.v (.list ((l.flatMap sg).map vn))] G=some (.list (l.map vn),z,G):=by
 have h2:∀a:List Nat,(a.flatMap sg).length<=2*a.length:=fun a=>by
  induction a with
  |nil=>exact Nat.le_refl _
  |cons c a ih=>have :=uV c;rw[List.flatMap_cons,List.length_append,List.length_cons];omega
 have h1:∀a:List Nat,a.length<=(a.flatMap sg).length:=fun a=>by
  induction a with
  |nil=>exact Nat.le_refl _
  |cons c a ih=>have :1<=(sg c).length:=(by unfold sg;rw[List.length_append];exact Nat.le_add_left _ _);rw[List.flatMap_cons,List.length_append,List.length_cons];omega
 have hB:=h2 l;have Wb:=h1 l;have R7:∀c∈l.flatMap sg,c<256:=fun c hc=>by obtain⟨m,hm,hc⟩:=List.mem_flatMap.mp hc;have :=GA (h m hm) hc;omega
 let X:SL:=.v (.list ((l.flatMap sg).map vn))
 let b:Array UInt8:=((l.flatMap sg).map oc).toArray
 let E:Nat->En:=fun k=>[X,.eH b ((l.take k).flatMap sg).length,.own ((l.take k).map vn)]
 have hlen:∀k,aq aa (aj aa aG (n+1)) (.cmp .LtE (.gX (.var 2)) (.call (.c (.c (.fn .len))) [(.v 0)])) (E k) G=some (.c (.bool (decide (((l.take k).length:Int)<=(l.flatMap sg).length))),G):=fun k=>by
  refine bU (v:=vn (l.take k).length) (w:=vn (l.flatMap sg).length) ?_ (kE (ah (aK rfl) aC) ?_) rfl
  ·show(if((l.take k).map vn).length<=lim then some (vi (((l.take k).map vn).length:Nat),G)else none)=_
   rw[List.length_map,if_pos (Nat.le_trans (List.length_take_le' k l) (Nat.le_trans hl (by decide)))]
  ·show Option.map (fun n=>V.c (.int n)) (if((l.flatMap sg).map vn).length<=lim then some (((l.flatMap sg).map vn).length:Int)else none)=_
   rw[List.length_map,if_pos (Nat.le_trans hB (Nat.le_trans (Nat.mul_le_mul_left 2 hl) (by decide)))];rfl
 have hb:∀j:Nat,b[j]?=(l.flatMap sg)[j]?.map oc:=fun j=>by rw[List.getElem?_toArray,List.getElem?_map]
 have GB:∀k,truthy (.c (.bool (decide (((l.take k).length:Int)<=(l.flatMap sg).length))))=some true:=fun k=>congrArg some (decide_eq_true (by have :=List.length_take_le' k l;omega));refine⟨_,iF (f:=gU) (e:=[X,.no,.no]) (e':=[X,.v (.sp .gone),.v (.list (l.map vn))]) rfl rfl (bx ?_) rfl⟩;have s1:fY aa (aj aa aG (n+1)) (.rE 1 (.call (.c (.c (.fn .bytes))) [(.v 0)])) [X,.no,.no] G=some (.aS,[X,.eH b 0,.no],G):=by show Option.bind (aq aa (aj aa aG (n+1)) _ _ _) _=_;rw[kE (ah (aK rfl) aC) (BW R7 (by omega))];rfl
 refine ss s1 (bx (ss rfl (bx ?_)));have s2:fY aa (aj aa aG (n+1)) (.rC (.cmp .LtE (.gX (.var 2)) (.call (.c (.c (.fn .len))) [(.v 0)])) [(.fz []),(.ju 2 (.c (.c (.ad 111))) 1)]) (E 0) G=some (.ret (.list (l.map vn)),[X,.v (.sp .gone),.v (.list (l.map vn))],G):=by
  refine s8 (E:=E) (m:=l.length) (by omega) (fun k hk=>?_) ⟨_,hlen _,.inr ⟨GB _,.list (l.map vn),_,bx ?_,rfl⟩⟩
  ·refine⟨_,hlen _,GB _,bx (ss (e':=E (k+1)) ?_ rfl)⟩
   have ek:l=l.take k++l[k]::l.drop (k+1):=(List.take_append_drop k l).symm.trans (congrArg _ (List.drop_eq_getElem_cons hk));have hat:∀(j c:Nat),(sg l[k])[j]?=some c->b[((l.take k).flatMap sg).length+j]?=some (oc c):=fun j c hj=>by
    rw[hb];have e2:l.flatMap sg=(l.take k).flatMap sg++(sg l[k]++(l.drop (k+1)).flatMap sg):=by
     conv=>lhs;rw[ek]
     simp only[List.flatMap_append,List.flatMap_cons]
    rw[e2,List.getElem?_append_right (Nat.le_add_right _ _),Nat.add_sub_cancel_left,List.getElem?_append_left (List.getElem?_eq_some_iff.mp hj).1,hj];rfl
   have hc0:∃c,(sg l[k])[0]?=some c:=by
    have :0<(sg l[k]).length:=by unfold sg;rw[List.length_append,List.length_singleton];omega
    exact⟨_,List.getElem?_eq_getElem this⟩
   obtain⟨c,hc0⟩:=hc0;have hv:=yy (n:=n) (G:=G) (b:=b) (p:=((l.take k).flatMap sg).length) (h _ (List.getElem_mem hk)) hat;refine(Ot (x:=X) (hat 0 c hc0) hv (by rw[List.length_map];exact Nat.le_trans (List.length_take_le' k l) (by omega)) rfl).trans ?_;show some (Fl.aS,[X,SL.eH b _,SL.own _],G)=some (Fl.aS,[X,SL.eH b _,SL.own _],G)
   rewrite [List.take_succ_eq_append_getElem hk,List.flatMap_append,List.map_append,List.length_append]
   simp
  ·have hn:b[((l.take l.length).flatMap sg).length]?=none:=by
    rw[hb,List.take_length,List.getElem?_eq_none (Nat.le_refl _)];rfl
   show Option.bind (fY aa (aj aa aG (n+1)) _ (E l.length) G) _=_;rw[Kg hn rfl];show some (Fl.ret (V.list ((l.take l.length).map vn)),[X,_,SL.v (V.list ((l.take l.length).map vn))],G)=_;rw[List.take_length]
 show Option.bind (fY aa (aj aa aG (n+1)) _ (E 0) G) _=_;rw[s2];rfl
end Mine.Internal
end
noncomputable section
open PySem PySem.W PyProof.Rows
namespace Mine.Internal
theorem BX{l:List Nat}{a b:Nat}(hab:a<=b)(hb:b<=l.length):Txt.slice (st l) (some (a:Int)) (some (b:Int))=st ((l.drop a).take (b -a)):=by
 have h:=StrLaws.sliced_plain (st l) hab hb;have h2:=StrLaws.strSliceIndices_plain hab hb;unfold Txt.slice;rw[show(st l).length=l.length from rfl]at h⊢;split
 ·rename_i hc
  rw[h2,List.length_map,List.length_range]at hc;have hc:b -a=l.length:=by simpa using hc
  rw[show a=0 by omega,List.drop_zero,List.take_of_length_le (by omega)]
 ·exact congrArg (fun l=>Str.mk (List.toArray l)) h
theorem wR{l:List Nat}{a b:Nat}(hab:a<=b)(hb:b<=l.length)(hl:l.length<=1000000):jK (vs l) (some (vn a)) (some (vn b))=some (vs ((l.drop a).take (b -a))):=by
 show Option.or (if(st l).length<=lim then some (V.c (.str (Txt.slice (st l) (some (a:Int)) (some (b:Int)))))else none) _=_
 rw[BX hab hb];show Option.or (if l.length<=lim then _ else none) _=_
 rw[if_pos (Nat.le_trans hl (by decide))];rfl
section
variable{T:aM}{U:aE}{e e':En}{G G' ja VF:Gs}
theorem kF{x:X}{v:V}(h:aq T U x e G=some (v,G)):yO T U (some x) e G=some (some v,G):=by rw[show yO T U (some x) e=bd (aq T U x e) fun r=>re (some (some r)) by kernel_rfl];exact bT (f:=aq T U x e) h rfl
theorem BY{a lo hi:X}{v x y w:V}(h:aq T U a e G=some (v,G))(h1:aq T U lo e G=some (x,G))(h2:aq T U hi e G=some (y,G))(k:jK v (some x) (some y)=some w):aq T U (.slc a (some lo) (some hi)) e G=some (w,G):=
 bT (f:=aq T U a e) h (bT (f:=yO T U (some lo) e) (v:=some x) (kF h1) (bT (f:=yO T U (some hi) e) (v:=some y) (kF h2) (nV k)))
end
theorem wU{l:List Nat}{k c:Nat}(h:l[k]?=some c)(hl:l.length<=1000000):gv aa (vs l) (vn k)=some (v1 c):=by
 show(if l.length<=lim then((ig k (st l).length).bind fun j=>(st l).cps[j]?).map fun c=>V.c (.str ⟨#[c]⟩)else none)=_
 rw[if_pos (Nat.le_trans hl (by decide))];have hk:=(List.getElem?_eq_some_iff.mp h).1;have :ig (k:Int) (st l).length=some k:=by unfold ig;rw[if_pos (by omega),if_pos (by show(k:Int)<l.length;omega)];rfl
 rw[this,Option.bind_some];show Option.map _ (Array.mk l)[k]?=_;rw[List.getElem?_toArray,h];rfl
noncomputable def tkB (c:Nat):Bool:=(l9 ((look aU (st [c])).getD (.c .none)) (vi 19)==some (Nat.beq c 38))&&(l9 ((look aU (st [c])).getD (.c .none)) (vi 13)==some (Nat.beq c 59))
theorem RU:(List.range 128).all tkB=true:=by decide+kernel
theorem tC{c:Nat}(h:c<128):l9 ((look aU (st [c])).getD (.c .none)) (vi 19)=some (Nat.beq c 38)/\l9 ((look aU (st [c])).getD (.c .none)) (vi 13)=some (Nat.beq c 59):=by have :=List.all_eq_true.mp RU c (List.mem_range.mpr h);unfold tkB at this;simpa only[Bool.and_eq_true,beq_iff_eq]using this
noncomputable abbrev named:List (Str×V):=[(st [97,109,112],v1 38),(st [108,116],v1 60),(st [103,116],v1 62),(st [113,117,111,116],v1 34),(st [35,120,57],v1 9),(st [35,120,65],v1 10),(st [35,120,68],v1 13)]
inductive CK(c:Nat):List Nat->Prop where
 |self(h:c<128)(h':Nat.beq c 38=false):CK c [c]
 |named(nm:List Nat)(h:∀x∈nm,x<128/\Nat.beq x 59=false)(h':look named (st nm)=some (v1 c))(hl:nm.length<=4):CK c (38::(nm++[59]))
section
variable{U:aE}{G:Gs}
theorem GC{e:En}{t:List Nat}{k c:Nat}(h0:sl e 0= .v (vs t))(h3:sl e 3= .v (vn k))(hc:t[k]?=some c)(hl:t.length<=1000):
  aq aa U (.bB (.c (.c (.gd 112))) yv [(.sub (.v 0) (.v 3))]) e G=some ((look aU (st [c])).getD (.c .none),G):=
 gO (v:=.c (.gd 112)) (m:=.get aU) rfl (by kernel_rfl) (ah (br (aK h0) (aK h3) (wU hc (Nat.le_trans (by assumption) (by decide)))) aC) rfl
end
end Mine.Internal
end
noncomputable section
open PySem PySem.W PyProof.Rows
namespace Mine.Internal
section
variable{U:aE}{G:Gs}
noncomputable abbrev pE(t:List Nat)(a:List V)(p:Nat)(z:SL):En:=[.v (vs t),.v (.dict named),.own a,.v (vn p),z]
noncomputable def zf (w:List Nat) (p:Nat) (z:SL):SL:=match w with
 |[_]=>z
 |_=>.v (vn (p+1))
theorem Kh{a b:Nat}:xy (vn a) (vn b)=some (vn (a+b)):=by show some (vi ((a:Int)+b))=_;rw[<-Int.natCast_add]
theorem bV{a b:Nat}:binop .Add (vn a) (vn b)=some (vn (a+b)):=by show some (vi ((a:Int)+b))=_;rw[<-Int.natCast_add]
theorem E4{t:List Nat}{a:List V}{p:Nat}{z:SL}{l:List S}{r}(k:aN aa U l (pE t a (p+1) z) G=r):aN aa U (.fz []::.aug 3 .Add (.c (.c (.int 1)))::l) (pE t a p z) G=r:=
 bx (ss (wO (v:=vn p) (w:=vn 1) rfl cI Kh) k)
noncomputable abbrev E5 (k:Int) (op:CmpOp):X:=.cmp op (.bB (.c (.c (.gd 112))) yv [(.sub (.v 0) (.v 3))]) (.c (.c (.int k)))
theorem kH{e:En}{t:List Nat}{p c:Nat}{k:Int}{b:Bool}(h0:sl e 0= .v (vs t))(h3:sl e 3= .v (vn p))(hc:t[p]?=some c)(hl:t.length<=1000)(h:l9 ((look aU (st [c])).getD (.c .none)) (vi k)=some b):
  aq aa U (E5 k .Eq) e G=some (.c (.bool b),G)/\aq aa U (E5 k .NotEq) e G=some (.c (.bool !b),G):=
 ⟨bU (GC h0 h3 hc hl) cI h,bU (op:=.NotEq) (GC h0 h3 hc hl) cI (by show Option.map not (l9 _ _)=_;rw[h];rfl)⟩
noncomputable abbrev TP:List S:=[(.fz []),(.ite (E5 19 .Eq) [(.fz []),(.asg 4 (.bin .Add (.v 3) (.c (.c (.int 1))))),(.fz []),(.rC (E5 13 .NotEq) [(.fz []),(.aug 3 .Add (.c (.c (.int 1))))]),(.fz []),(.eF (.var 2) (.bB (.v 1) yv [(.slc (.v 0) (some (.v 4)) (some (.v 3))),(.c (.c (.str ⟨⟨[]⟩⟩)))]))] [(.fz []),(.eF (.var 2) (.sub (.v 0) (.v 3)))]),(.fz []),(.aug 3 .Add (.c (.c (.int 1))))]
theorem u0{t w:List Nat}{a:List V}{p c:Nat}{z:SL}(hw:CK c w)(ht:∀j d,w[j]?=some d->t[p+j]?=some d)(hl:t.length<=1000)(ha:a.length<=1000):
  aN aa U TP (pE t a p z) G=some (.aS,pE t (a++[v1 c]) (p+w.length) (zf w p z),G):=by
 rcases hw with⟨hc,VG⟩|⟨nm,hnm,nK,hn⟩
 ·have hp:=ht 0 c rfl
  exact bx (ss (fX (kH rfl rfl hp hl ((tC hc).1)).1 (congrArg some VG) (bx (ss (lH rfl (br (aK rfl) (aK rfl) (wU hp (Nat.le_trans (by assumption) (by decide)))) (Nat.le_trans (by assumption) (by decide))) rfl))) (E4 rfl))
 ·have hp:=ht 0 38 rfl
  let E:Nat->En:=fun k=>pE t a (p+k) (.v (vn (p+1)))
  have hat:∀k,k<nm.length->t[p+(k+1)]?=nm[k]?:=fun k hk=>by simp only[List.getElem?_eq_getElem hk];refine ht (k+1) _ ?_;show(nm++[59])[k]?=_;rw[List.getElem?_append_left hk,List.getElem?_eq_getElem hk]
  have hend:t[p+(nm.length+1)]?=some 59:=ht _ _ (by
   show(nm++[59])[nm.length]?=_;rw[List.getElem?_append_right (Nat.le_refl _),Nat.sub_self];rfl)
  have hlen:p+(nm.length+1)<t.length:=(List.getElem?_eq_some_iff.mp hend).1;have hsl:(t.drop (p+1)).take (p+(nm.length+1) -(p+1))=nm:=by
   apply List.ext_getElem?;intro i;rw[List.getElem?_take,List.getElem?_drop];by_cases hi:i<nm.length
   ·rw[if_pos (by omega),show p+1+i=p+(i+1) by omega,hat i hi]
   ·rw[if_neg (by omega),List.getElem?_eq_none (by omega)]
  refine bx (ss (jA (kH rfl rfl hp hl ((tC (by decide)).1)).1 rfl (bx (ss (bg (v:=vn (p+1)) (aJ (v:=vn p) (w:=vn 1) (aK rfl) cI ?_)) (bx (ss (s8 (E:=E) (m:=nm.length+1) (r:=some (.aS,E (nm.length+1),G)) (by omega) (fun k hk=>?_) ⟨_,(kH (e:=E (nm.length+1)) rfl rfl hend hl ((tC (by decide)).2)).2,.inl ⟨rfl,rfl⟩⟩) (bx (ss (lH (l:=a) (v:=v1 c) rfl (gO (v:=.dict named) (m:=.get named) (r:=[vs nm,vs []]) rfl BO (ah ?_ (ah cI aC)) ?_) (by omega)) rfl))))))) (E4 ?_))
  ·exact bV
  ·match k,hk with
   |0,_=>exact⟨_,(kH (e:=E 0) rfl rfl hp hl ((tC (by decide)).2)).2,rfl,E4 rfl⟩
   |k+1,hk=>
    have hk':k<nm.length:=by omega
    have hm:=hnm _ (List.getElem_mem hk');exact⟨_,(kH (e:=E (k+1)) rfl rfl ((hat k hk').trans (List.getElem?_eq_getElem hk')) hl ((tC hm.1).2)).2,congrArg (fun b=>some !b) hm.2,E4 rfl⟩
  ·refine BY (v:=vs t) (x:=vn (p+1)) (y:=vn (p+(nm.length+1))) (aK rfl) (aK rfl) (aK rfl) ?_
   rw[wR (by omega) (by omega) (by omega),hsl]
  ·show some ((look named (st nm)).getD (vs []),G)=_
   rw[nK];rfl
  ·show some (Fl.aS,pE t (a++[v1 c]) (p+(nm.length+1)+1) (.v (vn (p+1))),G)=_
   have hz:zf (38::(nm++[59])) p z= .v (vn (p+1)):=by rcases nm with⟨⟩ <;> rfl
   rw[hz,show(38::(nm++[59])).length=nm.length+1+1 by simp];rfl
end
end Mine.Internal
end
noncomputable section
open PySem PySem.W PyProof.Rows
namespace Mine.Internal
theorem CK.len{c:Nat}{w:List Nat}(h:CK c w):1<=w.length/\w.length<=6:=by
 rcases h with _|⟨nm,_,_,hl⟩
 ·exact⟨Nat.le_refl _,Nat.le_add_left 1 5⟩
 ·simp;omega
theorem lI{f:Nat->List Nat}{l:List Nat}{k:Nat}(hk:k<l.length):l.flatMap f=(l.take k).flatMap f++(f l[k]++(l.drop (k+1)).flatMap f)/\(l.take (k+1)).flatMap f=(l.take k).flatMap f++f l[k]:=by
 constructor
 ·conv=>lhs;rw[(List.take_append_drop k l).symm.trans (congrArg _ (List.drop_eq_getElem_cons hk))]
  simp only[List.flatMap_append,List.flatMap_cons]
 ·rw[List.take_succ_eq_append_getElem hk,List.flatMap_append];simp
theorem E6{a b c:List Nat}{j d:Nat}(h:b[j]?=some d):(a++(b++c))[a.length+j]?=some d:=by rw[List.getElem?_append_right (Nat.le_add_right _ _),Nat.add_sub_cancel_left,List.getElem?_append_left (List.getElem?_eq_some_iff.mp h).1,h]
section
variable{n:Nat}{G:Gs}
noncomputable def TQ(f:Nat->List Nat)(l:List Nat):Nat->SL
 |0=>.no
 |k+1=>zf (f (l.getD k 0)) ((l.take k).flatMap f).length (TQ f l k)
theorem tD{f:Nat->List Nat}{l:List Nat}(h:∀c∈l,CK c (f c))(hl:l.length<=100):∃z,aj aa aG (n+1) 315 [.v (vs (l.flatMap f))] G=some (vs l,z,G):=by
 have ht:(l.flatMap f).length<=6*l.length:=by
  clear hl
  induction l with
  |nil=>exact Nat.le_refl _
  |cons c l ih=>have :=(h c (List.mem_cons_self ..)).len;have :=ih fun d hd=>h d (List.mem_cons_of_mem _ hd);rw[List.flatMap_cons,List.length_append,List.length_cons];omega
 let E:Nat->En:=fun k=>pE (l.flatMap f) ((l.take k).map v1) ((l.take k).flatMap f).length (TQ f l k)
 have hlen:∀k,aq aa (aj aa aG n) (.cmp .Lt (.v 3) (.call (.c (.c (.fn .len))) [(.v 0)])) (E k) G=some (.c (.bool (decide ((((l.take k).flatMap f).length:Int)<(l.flatMap f).length))),G):=fun k=>by
  refine bU (v:=vn ((l.take k).flatMap f).length) (w:=vn (l.flatMap f).length) (aK rfl) (kE (ah (aK rfl) aC) ?_) rfl;show Option.map (fun n=>V.c (.int n)) (if(l.flatMap f).length<=lim then some ((l.flatMap f).length:Int)else none)=_
  rw[if_pos (Nat.le_trans (m:=1000) (by omega) (by decide))];rfl
 have hw:fY aa (aj aa aG n) (.rC (.cmp .Lt (.v 3) (.call (.c (.c (.fn .len))) [(.v 0)])) TP) (E 0) G=some (.aS,E l.length,G):=by
  refine s8 (E:=E) (m:=l.length) (Nat.le_trans (by assumption) (by decide)) (fun k hk=>⟨_,hlen k,?_,?_⟩) ⟨_,hlen _,.inl ⟨?_,rfl⟩⟩
  ·have hw:=(h _ (List.getElem_mem hk)).len
   have :=congrArg List.length (lI (f:=f) hk).1;simp only[List.length_append,List.length_append]at this;exact congrArg some (decide_eq_true (by omega))
  ·refine(u0 (h _ (List.getElem_mem hk)) (fun j d hj=>?_) (by omega) (by rw[List.length_map];have :=List.length_take_le' k l;omega)).trans ?_
   ·rw[(lI (f:=f) hk).1];exact E6 hj
   ·show some (Fl.aS,pE _ _ _ _,G)=some (Fl.aS,pE _ _ _ (zf (f (l.getD k 0)) _ _),G)
    rw[(lI (f:=f) hk).2,gD hk,List.take_succ_eq_append_getElem hk,List.map_append,List.length_append];rfl
  ·rw[List.take_length];exact congrArg some (decide_eq_false (by omega))
 have hE:sl ([2].foldl C1 (E l.length)) 2= .v (.list (l.map v1)):=by show SL.v (.list ((l.take l.length).map v1))=_;rw[List.take_length]
 have hv:l.map v1=(l.map fun c=>[c]).map vs:=by rw[List.map_map];rfl
 have hf:(l.map fun c=>[c]).flatten=l:=by rw[qN];simp
 have ho:=BK (T:=aa) (U:=aj aa aG n) (G:=G) (l:=l.map fun c=>[c]) hE (congrArg some hv) (by rw[hf];omega);rw[hf]at ho;exact⟨_,iF (f:=jg) (e:=[.v (vs (l.flatMap f)),.no,.no,.no,.no]) (e':=[2].foldl C1 (E l.length)) rfl rfl (bx (ss (bg (v:=.dict named) rfl) (bx (ss rfl (bx (ss (bg (v:=vn 0) rfl) (bx (ss hw (bx (iD ho)))))))))) rfl⟩
end
theorem Kl{c:Nat}(h:c<128):CK c (eA c):=Po (P:=fun c=>c<128->CK c (eA c)) (fun c hp h=>by
  rw[wI hp];simp only[iH,Bool.not_eq_true',Bool.or_eq_false_iff]at hp;exact .self h hp.1.1.1.1.1)
 (fun _=>.named [97,109,112] (by decide) (by kernel_rfl) (by decide)) (fun _=>.named [108,116] (by decide) (by kernel_rfl) (by decide)) (fun _=>.named [113,117,111,116] (by decide) (by kernel_rfl) (by decide))
 (fun _=>.named [35,120,57] (by decide) (by kernel_rfl) (by decide)) (fun _=>.named [35,120,65] (by decide) (by kernel_rfl) (by decide)) (fun _=>.named [35,120,68] (by decide) (by kernel_rfl) (by decide)) h
theorem Km{c:Nat}(h:c<128):CK c (eT c):=spT (P:=fun c=>c<128->CK c (eT c)) (fun c hp h=>by
  rw[tu hp];simp only[plainT,Bool.not_eq_true',Bool.or_eq_false_iff]at hp;exact .self h hp.1.1.1)
 (fun _=>.named [97,109,112] (by decide) (by kernel_rfl) (by decide)) (fun _=>.named [108,116] (by decide) (by kernel_rfl) (by decide)) (fun _=>.named [103,116] (by decide) (by kernel_rfl) (by decide)) (fun _=>.named [35,120,68] (by decide) (by kernel_rfl) (by decide)) h
end Mine.Internal
end
noncomputable section
open PySem PySem.W PyProof.Rows
set_option backward.match.sparseCases false
namespace Mine.Internal
section
variable{T:aM}{U:aE}{e e':En}{G G' ja:Gs}
theorem BZ{i:Nat}{l:List V}(h:sl e i= .own l):mj T e G (.var i)=some l:=by
 show((match sl e i with| .own l=>some l|_=>none:Option (List V)).or _)=_
 rw[h];rfl
theorem Kn{i:Nat}{l:List V}(h:sl e i= .own l)(hl:l.length<=1000000):aq T U (.gX (.var i)) e G=some (vn l.length,G):=by show Option.bind (mj T e G (.var i)) _=_;rw[BZ h];exact if_pos (Nat.le_trans hl (by decide))
theorem Ko{i:Nat}{k x:X}{l:List V}{j:Nat}{v:V}(h:aq T U x e G=some (v,G))(hi:sl e i= .own l)(hk:aq T U k e G=some (vn j,G))(hj:j<l.length)(hl:l.length<=1000000):fY T U (.oset i k x) e G=some (.aS,e.set i (.own (l.set j v)),G):=by show Option.bind (aq T U x e G) _=_;rw[h,Option.bind_some];rw[hi];rw[hk];exact if_pos ⟨by omega,by omega,Nat.le_trans hl (by decide)⟩
theorem Kp{i:Nat}{x:X}{l m:List V}(h:aq T U x e G=some (.list m,G))(hi:sl e i= .own l)(hl:l.length+m.length<=1000000):fY T U (.tV i x) e G=some (.aS,e.set i (.own (l++m)),G):=by
 show(match sl e i with| .own l=>(aq T U x e G).bind fun r=>(bH r.1).bind fun m=>if l.length+m.length<=lim then some (Fl.aS,e.set i (.own (l++m)),r.2)else none|_=>none)=_
 rw[hi];rw[h];exact if_pos (Nat.le_trans hl (by decide))
theorem B3{l:List Nat}{k c:Nat}(h:l[k]?=some c)(hl:l.length<=1000000):idx (l.map vn) (vn k)=some (vn c):=by
 show(if(l.map vn).length<=lim then(ig k (l.map vn).length).bind fun j=>(l.map vn)[j]? else none)=_
 have hk:=(List.getElem?_eq_some_iff.mp h).1;rw[List.length_map,if_pos (Nat.le_trans hl (by decide)),show ig (k:Int) l.length=some k by
  unfold ig;rw[if_pos (by omega),if_pos (by omega)];rfl]
 show(l.map vn)[k]?=_;rw[List.getElem?_map,h];rfl
theorem Kq{i k c:Nat}{x:X}{l:List Nat}(hi:sl e i= .own (l.map vn))(hx:aq T U x e G=some (vn k,G))(h:l[k]?=some c)(hl:l.length<=1000000):aq T U (.mY (.var i) x) e G=some (vn c,G):=by
 show(if Hr e (.var i)=false then(mj T e G (.var i)).bind fun l=>bd (aq T U x e) (fun y=>re (idx l y)) G else none)=_
 rw[if_pos (by show Option.any oO (yN (sl e i))=false;rw[hi];rfl),BZ hi,Option.bind_some];exact bT (f:=aq T U x e) hx (nV (B3 h hl))
end
theorem Kr{a b:Nat}(h:b<=a):binop .Sub (vn a) (vn b)=some (vn (a -b)):=by show some (vi ((a:Int) -b))=some (vi ((a -b:Nat):Int));rw[Int.natCast_sub h]
theorem Ku{m:Nat}(h:m<=1000):binop .Mult (.list [vn 0]) (vn m)=some (.list ((List.replicate m 0).map vn)):=by
 show(if 0<=(m:Int)/\(m:Int)<=1000/\[vn 0].length<=1000 then some (V.list (List.replicate (m:Int).toNat [vn 0]).flatten)else none)=_
 rw[if_pos ⟨by omega,by omega,Nat.le_add_left 1 999⟩];show some (V.list (List.replicate m [vn 0]).flatten)=_;rw[List.flatten_replicate_singleton,List.map_replicate]
/-! iZ run of R8 and tabs -/
noncomputable def B4 (l:List Nat) (b:Nat):List Nat:=((if l.length<=b then l++List.replicate (b -l.length+1) 0 else l).set b ((if l.length<=b then l++List.replicate (b -l.length+1) 0 else l).getD b 0+1))
structure Ws where
 l:List Nat
 b:Nat
 n:Nat
 nt:Nat
noncomputable def CL (w:Ws) (c:Nat):Ws:=if c=32 then⟨w.l,w.b+1,w.n+1,w.nt⟩else⟨B4 w.l w.b,0,w.n+1,w.nt+1⟩
section
variable{U:aE}{G:Gs}{x y z:SL}
noncomputable abbrev wE(x y:SL)(w:Ws)(z:SL):En:=[x,y,.v (v1 32),.v (v1 9),.own (w.l.map vn),.v (vn w.b),.v (vn w.n),.v (vn w.nt),z]
noncomputable abbrev wB:List S:=[(.fz []),(.ite (.cmp .Eq (.v 8) (.v 2)) [(.fz []),(.asg 6 (.bin .Add (.v 6) (.c (.c (.int 1))))),(.fz []),(.asg 5 (.bin .Add (.v 5) (.c (.c (.int 1)))))] [(.fz []),(.ite (.cmp .Eq (.v 8) (.v 3)) [(.fz []),(.asg 6 (.bin .Add (.v 6) (.c (.c (.int 1))))),(.fz []),(.asg 7 (.bin .Add (.v 7) (.c (.c (.int 1))))),(.fz []),(.ite (.cmp .GtE (.v 5) (.gX (.var 4))) [(.fz []),(.tV 4 (.bin .Mult (.list [(.c (.c (.int 0)))]) (.bin .Add (.bin .Sub (.v 5) (.gX (.var 4))) (.c (.c (.int 1))))))] []),(.fz []),(.oset 4 (.v 5) (.bin .Add (.mY (.var 4) (.v 5)) (.c (.c (.int 1))))),(.fz []),(.asg 5 (.c (.c (.int 0))))] [(.fz []),.bad])])]
theorem E7{w:Ws}{c:Nat}(hc:c=32\/c=9)(hl:w.l.length<=500)(hb:w.b<=500):aN aa U wB (wE x y w (.v (v1 c))) G=some (.aS,wE x y (CL w c) (.v (v1 c)),G):=by
 rcases hc with rfl|rfl
 ·exact bx (ss (jA (bU (aK rfl) (aK rfl) (v:=v1 32) (w:=v1 32) rfl) rfl (bx (ss (bg (aJ (aK rfl) cI (v:=vn w.n) (w:=vn 1) bV)) (bx (ss (bg (aJ (aK rfl) cI (v:=vn w.b) (w:=vn 1) bV)) rfl))))) rfl)
 ·let w2:Ws:=⟨if w.l.length<=w.b then w.l++List.replicate (w.b -w.l.length+1) 0 else w.l,w.b,w.n+1,w.nt+1⟩
  have hlen:w.b<w2.l.length:=by
   show w.b<(if w.l.length<=w.b then w.l++List.replicate (w.b -w.l.length+1) 0 else w.l).length
   split
   ·rw[List.length_append,List.length_replicate];omega
   ·omega
  have hlen2:w2.l.length<=2000:=by
   show(if w.l.length<=w.b then w.l++List.replicate (w.b -w.l.length+1) 0 else w.l).length<=_
   split
   ·rw[List.length_append,List.length_replicate];omega
   ·omega
  have grow:fY aa U (.ite (.cmp .GtE (.v 5) (.gX (.var 4))) [(.fz []),(.tV 4 (.bin .Mult (.list [(.c (.c (.int 0)))]) (.bin .Add (.bin .Sub (.v 5) (.gX (.var 4))) (.c (.c (.int 1))))))] []) (wE x y ⟨w.l,w.b,w.n+1,w.nt+1⟩ (.v (v1 9))) G=some (.aS,wE x y w2 (.v (v1 9)),G):=by
   have K4:aq aa U (.gX (.var 4)) (wE x y ⟨w.l,w.b,w.n+1,w.nt+1⟩ (.v (v1 9))) G=some (vn w.l.length,G):=by have :=Kn (T:=aa) (U:=U) (e:=wE x y ⟨w.l,w.b,w.n+1,w.nt+1⟩ (.v (v1 9))) (G:=G) (i:=4) rfl (by rw[List.length_map];exact Nat.le_trans hl (by decide));rwa[List.length_map]at this
   have hcmp:aq aa U (.cmp .GtE (.v 5) (.gX (.var 4))) (wE x y ⟨w.l,w.b,w.n+1,w.nt+1⟩ (.v (v1 9))) G=some (.c (.bool (decide ((w.l.length:Int)<=w.b))),G):=bU (aK (i:=5) rfl) K4 rfl;by_cases h:w.l.length<=w.b
   ·refine jA hcmp (congrArg some (decide_eq_true (by omega))) (bx (ss (Kp (l:=w.l.map vn) (m:=(List.replicate (w.b -w.l.length+1) 0).map vn) (aJ (v:=.list [vn 0]) (w:=vn (w.b -w.l.length+1)) rfl (aJ (aJ (aK rfl) K4 (Kr h)) cI (w:=vn 1) bV) (Ku (by omega))) rfl (by simp;omega)) ?_))
    ·show some (Fl.aS,_,_)=_
     rw[<-List.map_append];show some (Fl.aS,wE x y ⟨w.l++List.replicate (w.b -w.l.length+1) 0,w.b,w.n+1,w.nt+1⟩ _,G)=_;rw[show w2=⟨w.l++List.replicate (w.b -w.l.length+1) 0,w.b,w.n+1,w.nt+1⟩from congrArg (fun l=>Ws.mk l w.b (w.n+1) (w.nt+1)) (if_pos h)]
   ·refine fX hcmp (congrArg some (decide_eq_false (by omega))) ?_
    rw[show w2=⟨w.l,w.b,w.n+1,w.nt+1⟩from congrArg (fun l=>Ws.mk l w.b (w.n+1) (w.nt+1)) (if_neg h)];rfl
  have hget:w2.l[w.b]?=some (w2.l.getD w.b 0):=by rw[gD hlen,List.getElem?_eq_getElem hlen]
  refine bx (ss (fX (bU (aK rfl) (aK rfl) (v:=v1 9) (w:=v1 32) rfl) rfl (bx (ss (jA (bU (aK rfl) (aK rfl) (v:=v1 9) (w:=v1 9) rfl) rfl (bx (ss (bg (aJ (aK rfl) cI (v:=vn w.n) (w:=vn 1) bV)) (bx (ss (bg (aJ (aK rfl) cI (v:=vn w.nt) (w:=vn 1) bV)) (bx (ss grow (bx (ss (Ko (l:=w2.l.map vn) (j:=w.b) (aJ (Kq (l:=w2.l) rfl (aK rfl) hget (by omega)) cI (w:=vn 1) bV) rfl (aK rfl) (by rw[List.length_map];exact hlen) (by rw[List.length_map];omega)) (bx (ss (bg cI) rfl))))))))))) ?_))) rfl);show some (Fl.aS,_,_)=_;rw[<-List.map_set];rfl
end
end Mine.Internal
end
noncomputable section
open PySem PySem.W PyProof.Rows
namespace Mine.Internal
section
variable{T:aM}{U:aE}{e e':En}{G G' ja:Gs}
theorem B5{n:Str}{x:X}{v:V}(h:aq T U x e G=some (v,G))(k:xE T n v e G=some (e',G')):fY T U (.dQ n x) e G=some (.aS,e',G'):=by show Option.bind (aq T U x e G) _=_;rw[h];show Option.map _ (xE T n v e G)=_;rw[k];rfl
theorem E8{i:Nat}{l:List V}(h:sl e i= .v (.list l))(hl:l.length<=1000000):aq T U (.gX (.var i)) e G=some (vn l.length,G):=by show Option.bind (mj T e G (.var i)) _=_;rw[BJ h];exact if_pos (Nat.le_trans hl (by decide))
end
theorem R9{T:aM}{F:Addr->Option Fn}{n:Nat}{a:Addr}{args:List SL}{G G':Gs}{f:Fn}{e e':En}{z:SL}(hf:F a=some f)(hb:fL f args=some e)(h:aN T (aj T F n) f.body e G=some (.aS,e',G'))(hz:sl e' 0=z):aj T F (n+1) a args G=some (.c .none,z,G'):=by show Option.bind (F a) _=_;rw[hf];show Option.bind (fL f args) _=_;rw[hb];show Option.bind (aN T (aj T F n) f.body e G) _=_;rw[h,<-hz];rfl
noncomputable def cj (s:List Nat):Ws:=s.foldl CL ⟨[],0,0,0⟩
theorem qP:∀(s:List Nat) (w:Ws) (k:Nat),w.b<=k->w.l.length<=k->(s.foldl CL w).b<=k+s.length/\(s.foldl CL w).l.length<=k+s.length
 |[],w,k,h1,h2=>⟨h1,h2⟩
 |c::s,w,k,h1,h2=>by
  have :=qP s (CL w c) (k+1) (by unfold CL;split <;> simp <;> omega) (by
   delta CL B4
   split
   ·exact Nat.le_succ_of_le h2
   ·show(List.set _ _ _).length<=_
    rw[List.length_set];split
    ·rw[List.length_append,List.length_replicate];omega
    ·omega)
  rw[List.foldl_cons,List.length_cons];omega
noncomputable abbrev tE:Str:=⟨⟨[114,97,119]⟩⟩
noncomputable abbrev sN:Str:=⟨⟨[110]⟩⟩
noncomputable abbrev Sa:Str:=⟨⟨[110,116]⟩⟩
noncomputable abbrev GD:Str:=⟨⟨[110,111,114,109]⟩⟩
noncomputable abbrev Sb:Str:=⟨⟨[105,115,95,115,105,109,112,108,101]⟩⟩
noncomputable abbrev oG (s:List Nat) (w:Ws):List (Str×V):=[(tE,vs s),(sN,vn w.n),(Sa,vn w.nt),(GD,.tup [.tup (w.l.map vn),vn w.b]),(Sb,.c (.bool (decide ((w.l.length:Int)<=1))))]
theorem E9{n:Nat}{s:List Nat}{G:Gs}(h0:0<s.length)(hs:∀c∈s,c=32\/c=9)(hl:s.length<=200):aj aa aG (n+1) 55 [.iY 100 [],.v (vs s)] G=some (.c .none,.iY 100 (oG s (cj s)),G):=by
 let E:Nat->En:=fun k=>wE (.iY 100 [(tE,vs s)]) (.v (vs s)) (cj (s.take k)) (match k with|0=>.no|k+1=>.v (v1 (s.getD k 0)))
 have hb:=qP s ⟨[],0,0,0⟩ 0 (Nat.le_refl _) (Nat.le_refl _);rw[Nat.zero_add]at hb;have B6:fY aa (aj aa aG n) (.eE (.one 8) (.sat tE) wB) (E 0) G=some (.aS,E s.length,G):=by
  refine nW (E:=E) (H:=fun _=>G) (m:=s.length) (K:=.str (st s)) (v:=vs s) (by kernel_rfl) rfl ?_ (Nat.le_trans (by assumption) (by decide)) fun k hk=>?_
  ·show Option.map _ (Array.mk s)[s.length]?=_
   rw[List.getElem?_toArray,List.getElem?_eq_none (Nat.le_refl _)];rfl
  ·have hg:s[k]?=some (s.getD k 0):=by rw[gD hk,List.getElem?_eq_getElem hk]
   have hk2:=qP (s.take k) ⟨[],0,0,0⟩ 0 (Nat.le_refl _) (Nat.le_refl _);have :=List.length_take_le' k s;refine⟨v1 (s.getD k 0),_,mK hg,rfl,(E7 (x:=.iY 100 [(tE,vs s)]) (y:=.v (vs s)) (w:=cj (s.take k)) (c:=s.getD k 0) (hs _ (List.mem_of_getElem? hg)) ?_ ?_).trans ?_⟩
   ·exact Nat.le_trans hk2.2 (by omega)
   ·exact Nat.le_trans hk2.1 (by omega)
   ·show some (Fl.aS,wE _ _ _ (.v (v1 (s.getD k 0))),G)=some (Fl.aS,wE _ _ (cj (s.take (k+1))) (.v (v1 (s.getD k 0))),G)
    rw[List.take_succ_eq_append_getElem hk,show cj (s.take k++[s[k]])=CL (cj (s.take k)) s[k]from List.foldl_append,gD hk]
 have pre:aN aa (aj aa aG n) (cM.body.take 9) [.iY 100 [],.v (vs s),.no,.no,.no,.no,.no,.no,.no] G=some (.aS,E 0,G):=by kernel_rfl
 have VH:E s.length=wE (.iY 100 [(tE,vs s)]) (.v (vs s)) (cj s) (.v (v1 (s.getD (s.length -1) 0))):=by
  show wE _ _ (cj (s.take s.length)) (match s.length with|0=>.no|k+1=>.v (v1 (s.getD k 0)))=_
  rw[List.take_length];obtain⟨m,hm⟩:∃m,s.length=m+1:=⟨s.length -1,by omega⟩;rw[hm];rfl
 rw[VH]at B6;generalize v1 (s.getD (s.length -1) 0)=z at B6
 let A:List (Str×V)->En:=fun a=>[.iY 100 a,.v (vs s),.v (v1 32),.v (v1 9),.v (.list ((cj s).l.map vn)),.v (vn (cj s).b),.v (vn (cj s).n),.v (vn (cj s).nt),.v z]
 refine R9 (f:=cM) (e:=[.iY 100 [],.v (vs s),.no,.no,.no,.no,.no,.no,.no]) (e':=A (oG s (cj s))) rfl rfl ((nY (a:=cM.body.take 9) (b:=cM.body.drop 9) pre).trans ?_) rfl;have step:∀{a a':List (Str×V)} {m:Str} {x:X} {v:V} {l:List S} {r},aq aa (aj aa aG n) x (A a) G=some (v,G)->xE aa m v (A a) G=some (A a',G)->aN aa (aj aa aG n) l (A a') G=r->aN aa (aj aa aG n) (.fz [4]::.dQ m x::l) (A a) G=r:=fun h k h'=>bx (ss (B5 h k) h');refine ss B6 (bx (ss (e':=A [(tE,vs s),(sN,vn (cj s).n)]) (G':=G) (B5 (aK (v:=vn (cj s).n) rfl) (by kernel_rfl)) (step (a':=[(tE,vs s),(sN,vn (cj s).n),(Sa,vn (cj s).nt)]) (aK (v:=vn (cj s).nt) rfl) (by kernel_rfl) (step (a':=[(tE,vs s),(sN,vn (cj s).n),(Sa,vn (cj s).nt),(GD,.tup [.tup ((cj s).l.map vn),vn (cj s).b])]) (v:=.tup [.tup ((cj s).l.map vn),vn (cj s).b]) ?_ (by kernel_rfl) (step (a':=oG s (cj s)) (v:=.c (.bool (decide (((cj s).l.length:Int)<=1)))) ?_ (by kernel_rfl) rfl)))))
 ·refine bT (f:=fk aa (aj aa aG n) _ _) (ah (kE (ah (aK rfl) aC) (v:=.tup ((cj s).l.map vn)) ?_) (ah (aK (v:=vn (cj s).b) rfl) aC)) rfl
  exact if_pos (by rw[List.length_map];exact Nat.le_trans hb.2 (Nat.le_trans hl (by decide)))
 ·refine bU (E8 rfl (by rw[List.length_map];exact Nat.le_trans hb.2 (Nat.le_trans hl (by decide)))) cI ?_
  rw[List.length_map];rfl
end Mine.Internal
end
noncomputable section
open PySem PySem.W PyProof.Rows
set_option backward.match.sparseCases false
namespace Mine.Internal
theorem wV{n:Nat}{s:List Nat}{G:Gs}(h0:0<s.length)(hs:∀c∈s,c=32\/c=9)(hl:s.length<=200):jL aa (aj aa aG (n+1)) (.c (.ad 100)) [vs s] G=some (.inst 100 (oG s (cj s)),G):=by
 have e:∀U:aE,jL aa U (.c (.ad 100)) [vs s] G=(U 55 [.iY 100 [],.v (vs s)] G).bind fun r=>Hl 100 r.1 r.2.1 r.2.2:=fun U=>by kernel_rfl
 rw[e,E9 h0 hs hl];rfl
theorem jB{a b:Nat}(h:a<=1000000):binop .Mult (vn a) (vn b)=some (vn (a*b)):=by
 show Option.or (if(sm (a:Int)||sm (b:Int))=true then some (vi ((a:Int)*b))else none) _=_
 rw[if_pos (by rw[show sm (a:Int)=true from decide_eq_true (Nat.lt_of_le_of_lt (by assumption) (by decide))];rfl)];show some (vi ((a:Int)*b))=some (vi ((a*b:Nat):Int));simp only[Int.natCast_mul]
theorem u5{a b:Nat}(h:b≠0)(h':b<=1000000):binop .FloorDiv (vn a) (vn b)=some (vn (a / b)):=by
 show(if(b:Int).natAbs<1073741824/\(b:Int)≠0 then some (vi ((a:Int).fdiv b))else none)=_
 rw[if_pos ⟨by omega,by omega⟩,Int.fdiv_eq_ediv_of_nonneg _ (by omega)];show some (vi ((a:Int) / b))=some (vi ((a / b:Nat):Int));simp only[Int.natCast_ediv]
theorem B7{a b:Nat}(ha:a<=1000000)(hb:b<=1000000):ie .range [vn a,vn b]=some (.sp (.jC a b 1))/\mh aa (.sp (.jC a b 1))=some (.jC a b 1):=by
 have h:mZ (a:Int) b 1=true:=by unfold mZ;simp only[decide_eq_true (show(0:Int)<=(a:Int) by omega),decide_eq_true (show(a:Int)<=1048576 by omega),decide_eq_true (show(0:Int)<=(b:Int) by omega),decide_eq_true (show(b:Int)<=1048576 by omega)];rfl
 exact⟨if_pos h,if_pos h⟩
theorem wW{a b k:Nat}:aS (.jC (a:Int) b 1) k=if k<b -a then some (vn (a+k))else none:=by
 show(if(k:Int)<Builtin.Range.rangeSize a b 1 then some (vi ((a:Int)+1*k))else none)=_
 have :Builtin.Range.rangeSize (a:Int) b 1=((b -a:Nat):Int):=by unfold Builtin.Range.rangeSize;rw[if_pos (by decide)];split <;> omega
 rw[this];by_cases h:k<b -a
 ·rw[if_pos h,if_pos (by omega),Int.one_mul]
  show some (vi ((a:Int)+k))=some (vi ((a+k:Nat):Int));simp only[Int.natCast_add]
 ·rw[if_neg h,if_neg (by omega)]
/-! Fb -/
noncomputable def CM (l:List Nat) (ts:Nat):Nat->Nat
 |0=>0
 |k+1=>CM l ts k+(ts+k) / ts*l.getD (ts+k) 0
noncomputable def Kv (w:Ws) (ts:Nat):Nat:=w.b+ts*(CM w.l ts (w.l.length -ts)+w.nt)
theorem GF{U:aE}{e:En}{G:Gs}{m:Str}{es:List (Str×V)}{v:V}(h:sl e 0= .v (.inst 100 es))(k:rH aa (.inst 100 es) m G=some (v,G)):aq aa U (.sat m) e G=some (v,G):=by
 show(match sl e 0 with| .iY C es=>re ((aW aa.jD C m).bind fun _=>look es m)| .v x=>rH aa x m|_=>fun _=>none:Gs->Option (V×Gs)) G=_
 rw[h];exact k
theorem Kw{U:aE}{e e':En}{G:Gs}{is:List Nat}{x:X}{l:List V}(h:aq aa U x e G=some (.tup l,G))(k:fK is l e=some e'):fY aa U (.tU is x) e G=some (.aS,e',G):=by show Option.bind (aq aa U x e G) _=_;rw[h];show Option.map _ (fK is l e)=_;rw[k];rfl
theorem B8{n:Nat}{s:List Nat}{w:Ws}{ts:Nat}{G:Gs}(h1:1<=ts)(h2:ts<=100)(hl:w.l.length<=1000):∃z,aj aa aG (n+1) 69 [.v (.inst 100 (oG s w)),.v (vn ts)] G=some (vn (Kv w ts),z,G):=by
 let E:Nat->En:=fun k=>[.v (.inst 100 (oG s w)),.v (vn ts),.v (.tup (w.l.map vn)),.v (vn w.b),.v (vn (CM w.l ts k)),match k with|0=>.no|k+1=>.v (vn (ts+k))]
 have hf:fY aa (aj aa aG n) (.eE (.one 5) (.call (.c (.c (.fn .range))) [(.v 1),(.call (.c (.c (.fn .len))) [(.v 2)])]) [(.fz []),(.asg 4 (.bin .Add (.v 4) (.bin .Mult (.bin .FloorDiv (.v 5) (.v 1)) (.sub (.v 2) (.v 5)))))]) (E 0) G=some (.aS,E (w.l.length -ts),G):=by
  refine nW (E:=E) (H:=fun _=>G) (m:=w.l.length -ts) (K:=.jC ts w.l.length 1) (kE (ah (aK rfl) (ah (kE (ah (aK rfl) aC) (v:=vn w.l.length) ?_) aC)) (B7 (by omega) (by omega)).1) (B7 (by omega) (by omega)).2 (wW.trans (if_neg (Nat.lt_irrefl _))) (by omega) fun k hk=>⟨vn (ts+k),_,wW.trans (if_pos hk),rfl,bx (ss (bg (aJ (aK rfl) (aJ (aJ (aK rfl) (aK rfl) (u5 (a:=ts+k) (b:=ts) (by omega) (by omega))) (br (v:=.tup (w.l.map vn)) (aK rfl) (aK (v:=vn (ts+k)) rfl) (r:=vn (w.l.getD (ts+k) 0)) ?_) (jB ?_)) bV)) rfl)⟩
  ·show Option.map (fun n=>V.c (.int n)) (if(w.l.map vn).length<=lim then some ((w.l.map vn).length:Int)else none)=_
   rw[List.length_map,if_pos (Nat.le_trans hl (by decide))];rfl
  ·refine B3 ?_ (by omega)
   rw[gD (by omega),List.getElem?_eq_getElem (by omega)]
  ·exact Nat.le_trans (Nat.div_le_self _ _) (by omega)
 refine⟨_,iF (f:=fP) (e:=[.v (.inst 100 (oG s w)),.v (vn ts),.no,.no,.no,.no]) (e':=E (w.l.length -ts)) rfl rfl (bx (ss (e':=[.v (.inst 100 (oG s w)),.v (vn ts),.v (.tup (w.l.map vn)),.v (vn w.b),.no,.no]) (G':=G) ?_ (bx (ss (bg cI) (bx (ss hf (bx (iD (aJ (aK (v:=vn w.b) rfl) (aJ (aK (v:=vn ts) rfl) (aJ (aK (v:=vn (CM w.l ts (w.l.length -ts))) rfl) (GF (v:=vn w.nt) rfl (by kernel_rfl)) bV) (jB (by omega))) bV))))))))) rfl⟩;exact Kw (GF (v:=.tup [.tup (w.l.map vn),vn w.b]) rfl (by kernel_rfl)) rfl
end Mine.Internal
end
noncomputable section
open PySem PySem.W PyProof.Rows
namespace Mine.Internal
noncomputable abbrev S4:List Nat:=[7,8,9,11]
noncomputable abbrev x4:X:=.list [(.c (.c (.int 7))),(.c (.c (.int 8))),(.c (.c (.int 9))),(.c (.c (.int 11)))]
noncomputable abbrev VI:Str:=⟨⟨[105,110,100,101,110,116,95,108,101,118,101,108]⟩⟩
theorem B9{a b:List V}(h:a.length+b.length<=1000000):binop .Add (.list a) (.list b)=some (.list (a++b)):=by
 show(if a.length+b.length<=lim then some (V.list (a++b))else none)=_
 rw[if_pos (Nat.le_trans h (by decide))]
theorem pQ{n i:Nat}{e:En}{s:List Nat}{w:Ws}{G:Gs}(h:sl e i= .v (.inst 100 (oG s w)))(hl:w.l.length<=1000):
  aq aa (aj aa aG (n+1)) (.comp false (.bB (.v (i+1)) VI [(.v 0)]) x4 []) e G=some (.list ((S4.map (Kv w)).map vn),G):=by
 refine(iE (K:=.list (S4.map vn)) (ws:=S4.map fun t=>some (vn (Kv w t))) (v:=.list (S4.map vn)) (by kernel_rfl) rfl rfl (Nat.le_trans (m:=4) (Nat.le_refl _) (by decide)) fun k v hv=>?_).trans rfl;rw[List.getElem?_map]at hv;obtain⟨t,ht,rfl⟩:=Option.map_eq_some_iff.mp hv;refine⟨vn t,[.v (vn t)],?_,rfl,rfl,fun y hy=>?_⟩
 ·show(S4.map vn)[k]?=_
  rw[List.getElem?_map,ht];rfl
 ·obtain rfl:=Option.some.inj hy
  have K1:1<=t/\t<=100:=by have :=List.mem_of_getElem? ht;simp at this;omega
  obtain⟨z,hz⟩:=B8 (n:=n) (s:=s) (w:=w) (G:=G) K1.1 K1.2 hl;refine gO (v:=.inst 100 (oG s w)) (m:=.met 69 (.inst 100 (oG s w))) (r:=[vn t]) (aK h) (by kernel_rfl) (ah (aK rfl) aC) ?_;show Option.map (fun r:V×SL×Gs=>(r.1,r.2.2)) (aj aa aG (n+1) 69 [.v (.inst 100 (oG s w)),.v (vn t)] G)=_;rw[hz];rfl
theorem Fc{n:Nat}{s s':List Nat}{w w':Ws}{G:Gs}(hl:w.l.length<=1000)(hl':w'.l.length<=1000):
  ∃z,aj aa aG (n+2) 270 [.v (.inst 100 (oG s w)),.v (.inst 100 (oG s' w'))] G=some (.list ((S4.map (Kv w)++S4.map (Kv w')).map vn),z,G):=
 ⟨_,iF (f:=jT) (e:=[.v (.inst 100 (oG s w)),.v (.inst 100 (oG s' w'))]) rfl rfl (bx (iD (aJ (pQ (i:=0) rfl hl) (pQ (i:=1) rfl hl') (by rw[List.map_append];exact B9 (Nat.le_trans (m:=8) (Nat.le_refl _) (by decide)))))) rfl⟩
/-! GG -/
noncomputable def atT (s a c:Nat):Nat:=if c=32 then a+1 else(a / s+1)*s
noncomputable def atS (l:List Nat) (s:Nat):Nat:=l.foldl (atT s) 0
section
variable{U:aE}{G:Gs}{x y z:SL}{f:List Nat}{s:Nat}
noncomputable abbrev Pq:List S:=[(.fz []),(.asg 5 (.tT (.cmp .Eq (.v 6) (.c (.c (.str ⟨⟨[32]⟩⟩)))) (.bin .Add (.v 5) (.c (.c (.int 1)))) (.bin .Mult (.bin .Add (.bin .FloorDiv (.v 5) (.v 4)) (.c (.c (.int 1)))) (.v 4))))]
theorem GH{T:aM}{e:En}{t a b:X}{v:V}{q:Bool}{r}(h:aq T U t e G=some (v,G))(hq:truthy v=some q)(k:(match q with|true=>aq T U a e G|false=>aq T U b e G)=r):aq T U (.tT t a b) e G=r:=by refine bT (f:=aq T U t e) h (bT (nV hq) ?_);rcases q with⟨⟩ <;> exact k
theorem Fd{a c:Nat}(hc:c=32\/c=9)(h1:1<=s)(h2:s<=100)(ha:a<=10000):aN aa U Pq [.v (vs f),x,y,z,.v (vn s),.v (vn a),.v (v1 c)] G=some (.aS,[.v (vs f),x,y,z,.v (vn s),.v (vn (atT s a c)),.v (v1 c)],G):=by
 rcases hc with rfl|rfl
 ·exact bx (ss (bg (GH (v:=.c (.bool true)) (bU (v:=v1 32) (w:=v1 32) (aK rfl) cI rfl) rfl (aJ (v:=vn a) (w:=vn 1) (aK rfl) cI bV))) rfl)
 ·exact bx (ss (bg (GH (v:=.c (.bool false)) (bU (v:=v1 9) (w:=v1 32) (aK rfl) cI rfl) rfl (aJ (v:=vn (a / s+1)) (w:=vn s) (aJ (v:=vn (a / s)) (w:=vn 1) (aJ (v:=vn a) (w:=vn s) (aK rfl) (aK rfl) (u5 (by omega) (Nat.le_trans (by assumption) (by decide)))) cI bV) (aK rfl) (jB (by have :=Nat.div_le_self a s;omega))))) rfl)
theorem Ca:∀(l:List Nat) (a:Nat),1<=s->s<=100->l.foldl (atT s) a<=a+100*l.length
 |[],a,_,_=>Nat.le_refl _
 |c::l,a,h1,h2=>by
  have h:=Ca l (atT s a c) h1 h2;have :atT s a c<=a+100:=by
   unfold atT;split
   ·omega
   ·rw[Nat.add_mul];have :=Nat.div_mul_le_self a s;omega
  rw[List.foldl_cons,List.length_cons];omega
theorem Fe(hf:∀c∈f,c=32\/c=9)(hl:f.length<=50)(h1:1<=s)(h2:s<=100)(z':SL):fY aa U (.eE (.one 6) (.v 0) Pq) [.v (vs f),x,y,z,.v (vn s),.v (vn 0),z'] G=some (.aS,[.v (vs f),x,y,z,.v (vn s),.v (vn (atS f s)),match f.length with|0=>z'|k+1=>.v (v1 (f.getD k 0))],G):=by
 let E:Nat->En:=fun k=>[.v (vs f),x,y,z,.v (vn s),.v (vn (atS (f.take k) s)),match k with|0=>z'|k+1=>.v (v1 (f.getD k 0))]
 have h:=nW (T:=aa) (U:=U) (t:=.one 6) (src:=.v 0) (b:=Pq) (E:=E) (H:=fun _=>G) (m:=f.length) (K:=.str (st f)) (v:=vs f) (aK rfl) rfl (by
  show Option.map _ (Array.mk f)[f.length]?=_;rw[List.getElem?_toArray,List.getElem?_eq_none (Nat.le_refl _)];rfl) (Nat.le_trans (by assumption) (by decide)) fun k hk=>by
   have hg:f[k]?=some (f.getD k 0):=by rw[gD hk,List.getElem?_eq_getElem hk]
   have hk2:=Ca (f.take k) 0 h1 h2;have :=List.length_take_le' k f;refine⟨v1 (f.getD k 0),_,mK hg,rfl,(Fd (a:=atS (f.take k) s) (c:=f.getD k 0) (hf _ (List.mem_of_getElem? hg)) h1 h2 (Nat.le_trans hk2 (by omega))).trans ?_⟩;show some (Fl.aS,[_,_,_,_,_,SL.v (vn (atT s (atS (f.take k) s) (f.getD k 0))),_],_)=some (Fl.aS,[_,_,_,_,_,SL.v (vn (atS (f.take (k+1)) s)),_],_);rw[List.take_succ_eq_append_getElem hk,show atS (f.take k++[f[k]]) s=atT s (atS (f.take k) s) f[k]from List.foldl_append,gD hk];show some (_,[_,_,_,_,_,_,_],_)=some (_,[_,_,_,_,_,_,SL.v (v1 (f.getD k 0))],_);rw[gD hk]
 refine h.trans ?_;show some (Fl.aS,[_,_,_,_,_,SL.v (vn (atS (f.take f.length) s)),_],_)=_;rw[List.take_length]
end
end Mine.Internal
end
noncomputable section
open PySem PySem.W PyProof.Rows
namespace Mine.Internal
noncomputable def Sd (f:List Nat):Nat->SL
 |0=>.no
 |k+1=>match f.length with
  |0=>Sd f k
  |j+1=>.v (v1 (f.getD j 0))
noncomputable abbrev kI (f:List Nat) (m:Nat) (s:Nat):Nat:=atS f s+m
noncomputable abbrev qQ (f:List Nat) (m:Nat) (s:Nat):Nat:=atS f s+(m / s+1)*s
theorem yC{n m:Nat}{f:List Nat}{G:Gs}(hf:∀c∈f,c=32\/c=9)(hl:f.length<=50)(hm:m<=1000):
  ∃z,aj aa aG (n+1) 265 [.v (vs f),.v (vn m)] G=some (.list ((S4.map (kI f m)++S4.map (qQ f m)).map vn),z,G):=by
 let E:Nat->En:=fun k=>[.v (vs f),.v (vn m),.own (((S4.take k).map (kI f m)).map vn),.own (((S4.take k).map (qQ f m)).map vn),match k with|0=>.no|k+1=>.v (vn (S4.getD k 0)),match k with|0=>.no|k+1=>.v (vn (atS f (S4.getD k 0))),Sd f k]
 have B6:fY aa (aj aa aG n) (.eE (.one 4) x4 [(.fz []),(.asg 5 (.c (.c (.int 0)))),(.fz []),(.eE (.one 6) (.v 0) Pq),(.fz []),(.eF (.var 2) (.bin .Add (.v 5) (.v 1))),(.fz []),(.eF (.var 3) (.bin .Add (.v 5) (.bin .Mult (.bin .Add (.bin .FloorDiv (.v 1) (.v 4)) (.c (.c (.int 1)))) (.v 4))))]) (E 0) G=some (.aS,E 4,G):=by
  refine nW (E:=E) (H:=fun _=>G) (m:=4) (K:=.list (S4.map vn)) (v:=.list (S4.map vn)) (by kernel_rfl) rfl rfl (by decide) fun k hk=>?_;have hg:S4[k]?=some (S4.getD k 0):=by rw[gD hk,List.getElem?_eq_getElem hk]
  have ht:1<=S4.getD k 0/\S4.getD k 0<=100:=by have :=List.mem_of_getElem? hg;generalize S4.getD k 0=t at this;simp at this;omega
  have hd:=Nat.div_le_self m (S4.getD k 0);have hlen:∀g:Nat->Nat,(((S4.take k).map g).map vn).length<=1000000:=fun g=>by rw[List.length_map,List.length_map];have :=List.length_take_le k S4;omega
  refine⟨vn (S4.getD k 0),_,?_,rfl,bx (ss (bg cI) (bx (ss (Fe (x:=.v (vn m)) (y:=.own (((S4.take k).map (kI f m)).map vn)) (z:=.own (((S4.take k).map (qQ f m)).map vn)) (s:=S4.getD k 0) hf hl ht.1 ht.2 (Sd f k)) (bx (ss (lH (v:=vn (kI f m (S4.getD k 0))) rfl (aJ (aK rfl) (aK rfl) bV) (hlen _)) (bx (ss (lH (v:=vn (qQ f m (S4.getD k 0))) rfl (aJ (v:=vn (atS f (S4.getD k 0))) (w:=vn ((m / S4.getD k 0+1)*S4.getD k 0)) (aK rfl) (aJ (v:=vn (m / S4.getD k 0+1)) (w:=vn (S4.getD k 0)) (aJ (v:=vn (m / S4.getD k 0)) (w:=vn 1) (aJ (v:=vn m) (w:=vn (S4.getD k 0)) (aK rfl) (aK rfl) (u5 (by omega) (by omega))) cI bV) (aK rfl) (jB (by omega))) bV) (hlen _)) ?_)))))))⟩
  ·show(S4.map vn)[k]?=_
   rw[List.getElem?_map,hg];rfl
  ·show some (Fl.aS,[_,_,SL.own _,SL.own _,_,_,_],_)=some (Fl.aS,[_,_,SL.own (((S4.take (k+1)).map (kI f m)).map vn),SL.own (((S4.take (k+1)).map (qQ f m)).map vn),_,_,_],_)
   rw[List.take_succ_eq_append_getElem hk,List.map_append,List.map_append,List.map_append,List.map_append,<-gD hk];rfl
 refine⟨_,iF (f:=iw) (e:=[.v (vs f),.v (vn m),.no,.no,.no,.no,.no]) rfl rfl (bx (ss rfl (bx (ss rfl (bx (ss B6 (bx (iD (aJ (v:=.list ((S4.map (kI f m)).map vn)) (w:=.list ((S4.map (qQ f m)).map vn)) (aK rfl) (aK rfl) ?_))))))))) rfl⟩;rw[List.map_append];exact B9 (Nat.le_trans (m:=8) (Nat.le_refl _) (by decide))
/-! equality of lists of numbers -/
noncomputable abbrev pI (n:Nat):PyData:=.int n
theorem kJ:∀l:List Nat,jJ (l.map vn)=some (l.map pI)
 |[]=>rfl
 |n::l=>by show(some (pI n)).bind (fun d=>(jJ (l.map vn)).map (d:: ·))=_;rw[kJ l];rfl
theorem qR:∀l:List Nat,PyData.canLayAll0 (l.map pI)=true
 |[]=>rfl
 |n::l=>by show(true&&PyData.canLayAll0 (l.map pI))=true;rw[qR l];rfl
theorem kK:∀l:List Nat,PyData.depthAll (l.map pI)=0
 |[]=>rfl
 |n::l=>by show max 0 (PyData.depthAll (l.map pI))=0;rw[kK l];rfl
theorem qS:∀l m:List Nat,PyData.eqvAll (l.map pI) (m.map pI)=(l==m)
 |[],[]=>rfl
 |[],_::_=>rfl
 |_::_,[]=>rfl
 |a::l,b::m=>by show(((a:Int)==b)&&PyData.eqvAll (l.map pI) (m.map pI))=_;rw[qS l m];show _=((a==b)&&(l==m));congr 1;rw[Bool.eq_iff_iff,beq_iff_eq,beq_iff_eq];omega
theorem eq_norm{l m:List Nat}{a b:Nat}:l9 (.tup [.tup (l.map vn),vn a]) (.tup [.tup (m.map vn),vn b])=some ((l==m)&&(a==b)):=by
 have t:∀(l:List Nat) (a:Nat),toPy (.tup [.tup (l.map vn),vn a])=some (.tuple [.tuple (l.map pI),pI a]):=fun l a=>by show(((jJ (l.map vn)).map PyData.tuple).bind fun d=>some [d,pI a]).map PyData.tuple=_;rw[kJ];rfl
 have sh:∀(l:List Nat) (a:Nat),SeqAt.shaped (.tuple [.tuple (l.map pI),pI a])=true:=fun l a=>by show((PyData.canLayAll0 (l.map pI)&&true)&&decide (max (PyData.depthAll (l.map pI)+1) 0+1<=64))=true;rw[qR,kK];rfl
 show(Option.bind (toPy _) fun a=>Option.bind (toPy _) fun b=>if SeqAt.shaped a=true/\SeqAt.shaped b=true then some (PyData.eqv a b)else none)=_
 rw[t,t,Option.bind_some,Option.bind_some,if_pos ⟨sh l a,sh m b⟩];show some ((PyData.eqvAll (l.map pI) (m.map pI)&&(((a:Int)==b)&&true)))=_;rw[qS,Bool.and_true];congr 2;rw[Bool.eq_iff_iff,beq_iff_eq,beq_iff_eq];omega
theorem Cb{n:Nat}{s s':List Nat}{w w':Ws}{G:Gs}:∃z,aj aa aG (n+1) 76 [.v (.inst 100 (oG s w)),.v (.inst 100 (oG s' w'))] G=some (.c (.bool ((w.l==w'.l)&&(w.b==w'.b))),z,G):=
 ⟨_,iF (f:=ni) (e:=[.v (.inst 100 (oG s w)),.v (.inst 100 (oG s' w'))]) rfl rfl (bx (iD (bU (G':=G) (v:=.tup [.tup (w.l.map vn),vn w.b]) (w:=.tup [.tup (w'.l.map vn),vn w'.b]) (by kernel_rfl) (by kernel_rfl) eq_norm))) rfl⟩
end Mine.Internal
end
noncomputable section
open PySem PySem.W PyProof.Rows
namespace Mine.Internal
theorem Ff{a b:List Nat}{i:Nat}(h:a.length<=i):(a++b).getD i 0=b.getD (i -a.length) 0:=by simp only[List.getD,List.getElem?_append_right h]
theorem Se{a b:List Nat}{i:Nat}(h:i<a.length):(a++b).getD i 0=a.getD i 0:=by simp only[List.getD,List.getElem?_append_left h]
/-! iZ TR -/
noncomputable def lead (f n:Nat):List Nat:=fU f++List.replicate n 32
theorem Cc:∀(n:Nat) (w:Ws),(List.replicate n 32).foldl CL w=⟨w.l,w.b+n,w.n+n,w.nt⟩
 |0,_=>rfl
 |n+1,w=>by simp only[List.replicate_succ,List.foldl_cons,Cc n];show Ws.mk w.l (w.b+1+n) (w.n+1+n) w.nt=_;simp only[Nat.add_right_comm,Nat.add_right_comm w.n];rfl
noncomputable def iK (f:Nat):List Nat:=[[0,0,0,0],[1,0,0,0],[0,1,0,0],[1,1,0,0],[1,1,0,0],[0,2,0,0],[0,0,0,1]].getD f []
noncomputable def TS (f:Nat):Bool:=(((fU f).all fun c=>Nat.beq c 32||Nat.beq c 9)&&(Nat.ble (fU f).length 4&&Nat.beq (cj (fU f)).b 0))&&((Nat.ble (cj (fU f)).l.length 4&&(((cj (fU f)).l++List.replicate (4 -(cj (fU f)).l.length) 0)==iK f&&Nat.ble (cj (fU f)).nt 2))&&S4.all fun s=>Nat.beq (atS (fU f) s) (s*(cj (fU f)).nt))
theorem VJ:(List.range 7).all TS=true:=by decide+kernel
theorem iM{f:Nat}(h:f<7):(∀c∈fU f,c=32\/c=9)/\(fU f).length<=4/\(cj (fU f)).b=0/\(cj (fU f)).l.length<=4/\(cj (fU f)).l++List.replicate (4 -(cj (fU f)).l.length) 0=iK f/\∀s∈S4,atS (fU f) s=s*(cj (fU f)).nt:=by have :=List.all_eq_true.mp VJ f (List.mem_range.mpr h);simp only[TS,Bool.and_eq_true,List.all_eq_true,Bool.or_eq_true]at this;exact⟨fun c hc=>(this.1.1 c hc).imp Nat.eq_of_beq_eq_true Nat.eq_of_beq_eq_true,Nat.le_of_ble_eq_true this.1.2.1,Nat.eq_of_beq_eq_true this.1.2.2,Nat.le_of_ble_eq_true this.2.1.1,eq_of_beq this.2.1.2.1,fun s hs=>Nat.eq_of_beq_eq_true (this.2.2 s hs)⟩
theorem Fg{l:List Nat}{n:Nat}(hl:l.length<=4)(hn:4<=n):B4 l n=(l++List.replicate (4 -l.length) 0)++(List.replicate (n -4) 0++[1]):=by
 have e:l++List.replicate (n -l.length+1) 0=((l++List.replicate (4 -l.length) 0)++List.replicate (n -4) 0)++[0]:=by rw[show n -l.length+1=(4 -l.length)+((n -4)+1) by omega,<-List.replicate_append_replicate,<-List.replicate_append_replicate];simp only[List.append_assoc];rfl
 have hlen:((l++List.replicate (4 -l.length) 0)++List.replicate (n -4) 0).length=n:=by simp only[List.length_append,List.length_replicate];omega
 unfold B4;rw[if_pos (by omega),e,List.set_append_right _ _ (by omega),hlen,Nat.sub_self,Ff (by omega),hlen,Nat.sub_self,<-List.append_assoc];rfl
theorem GI{p:List Nat}{n s:Nat}(hp:p.length=4)(hs:4<=s):∀k,s+k<=n->CM (p++(List.replicate (n -4) 0++[1])) s k=0
 |0,_=>rfl
 |k+1,h=>by
  have :(p++(List.replicate (n -4) 0++[1])).getD (s+k) 0=0:=by rw[Ff (by omega),Se (by rw[List.length_replicate];omega)];rw[gD (by rw[List.length_replicate];omega),List.getElem_replicate]
  show CM _ s k+_*_=0;simp only[GI hp hs k (Nat.le_of_lt (by assumption)),this,Nat.mul_zero]
theorem Ou{p:List Nat}{n s:Nat}(hp:p.length=4)(hs:4<=s)(hn:4<=n):CM (p++(List.replicate (n -4) 0++[1])) s (n+1 -s)=n / s:=by
 by_cases h:s<=n
 ·rw[show n+1 -s=(n -s)+1 by omega]
  show CM _ s (n -s)+(s+(n -s)) / s*(p++(List.replicate (n -4) 0++[1])).getD (s+(n -s)) 0=_;have :(p++(List.replicate (n -4) 0++[1])).getD (s+(n -s)) 0=1:=by rw[Ff (by omega),Ff (by rw[List.length_replicate];omega),List.length_replicate,show s+(n -s) -p.length -(n -4)=0 by omega];rfl
  rw[GI hp hs _ (by omega),this,Nat.mul_one,Nat.zero_add,show s+(n -s)=n by omega]
 ·rw[show n+1 -s=0 by omega,Nat.div_eq_of_lt (by omega)];rfl
section
variable{f n:Nat}
theorem wX(h:f<7):cj (lead f n)=⟨(cj (fU f)).l,n,(cj (fU f)).n+n,(cj (fU f)).nt⟩:=by
 delta lead cj
 rw[List.foldl_append];refine(Cc n _).trans ?_;have :=(iM h).2.2.1;unfold cj at this;rw[this,Nat.zero_add]
theorem u6(h:f<7)(hn:4<=n):cj (lead f n++[9])=⟨iK f++(List.replicate (n -4) 0++[1]),0,(cj (fU f)).n+n+1,(cj (fU f)).nt+1⟩:=by have e:cj (lead f n++[9])=CL (cj (lead f n)) 9:=List.foldl_append;rw[e,wX h];show Ws.mk (B4 (cj (fU f)).l n) 0 _ _=_;rw[Fg (iM h).2.2.2.1 hn,(iM h).2.2.2.2.1]
theorem n6(h:f<7):(iK f).length=4:=by have h4:=iM h;rw[<-h4.2.2.2.2.1,List.length_append,List.length_replicate];omega
theorem yD(h:f<7):S4.map (Kv (cj (lead f n)))=S4.map (kI (fU f) n):=List.map_congr_left fun s hs=>by
 have h4:=iM h;have Bd:4<=s:=by simp at hs;omega
 rw[wX h];show n+s*(CM (cj (fU f)).l s ((cj (fU f)).l.length -s)+(cj (fU f)).nt)=atS (fU f) s+n;rw[show(cj (fU f)).l.length -s=0 by omega,h4.2.2.2.2.2 s hs];show n+s*(0+_)=_;rw[Nat.zero_add,Nat.add_comm]
theorem Cd(h:f<7)(hn:4<=n):S4.map (Kv (cj (lead f n++[9])))=S4.map (qQ (fU f) n):=List.map_congr_left fun s hs=>by
 have h4:=iM h;have Bd:4<=s:=by simp at hs;omega
 rw[u6 h hn];show 0+s*(CM (iK f++(List.replicate (n -4) 0++[1])) s ((iK f++(List.replicate (n -4) 0++[1])).length -s)+((cj (fU f)).nt+1))=atS (fU f) s+(n / s+1)*s;have hle:(iK f++(List.replicate (n -4) 0++[1])).length=n+1:=by simp[n6 h];omega
 simp only[hle,Ou (n6 h) Bd hn,h4.2.2.2.2.2 s hs,Nat.zero_add,Nat.mul_comm (n / s+1),<-Nat.mul_add];congr 1;omega
theorem n7(h:f<7):∀c∈lead f n,c=32\/c=9:=fun c hc=>(List.mem_append.mp hc).elim ((iM h).1 c) fun hc=>.inl (List.eq_of_mem_replicate hc)
theorem tF(h:f<7):n<=(lead f n).length/\(lead f n).length<=n+4:=by have :=(iM h).2.1;unfold lead;rw[List.length_append,List.length_replicate];omega
end
end Mine.Internal
end
noncomputable section
open PySem PySem.W PyProof.Rows
namespace Mine.Internal
/-! iZ operators -/
noncomputable def eL (n:Nat):List Nat:=((aU.find? fun e=>bF e.2==some (n:Int)).map fun e=>e.1.cps.toList).getD []
noncomputable def gN (G:Gs):Bool:=G.wr.isNone&&(G.log.isNone&&Nat.beq G.cnt 0)
theorem Ov{G:Gs}(h:gN G=true):G=g0:=by obtain⟨a,b,c⟩:=G;simp only[gN,Bool.and_eq_true,Option.isNone_iff_eq_none]at h;simp only[h.1,h.2.1,Nat.eq_of_beq_eq_true h.2.2]
noncomputable def GJ (v:V) (l:List Nat):Bool:=(aY v).any fun s=>s.cps.toList==l
theorem Ce{v:V}{l:List Nat}(h:GJ v l=true):v=vs l:=anyC h fun s hs hq=>by rw[bh hs,<-eq_of_beq hq]
noncomputable def GL (k:Nat):Bool:=((aj aa aG 11 251 [.v (vn (k+7))] g0).any fun r=>GJ r.1 (eL (k+7))&&gN r.2.2)&&((Nat.ble 1 (eL (k+7)).length&&Nat.ble (eL (k+7)).length 3)&&((eL (k+7)).all (fun c=>Nat.blt c 128&&(!Nat.beq c 13&& !Nat.beq c 34))&&(look aU (st (eL (k+7)))).bind bF==some ((k+7:Nat):Int)))
theorem VK:(List.range 48).all GL=true:=by decide+kernel
theorem tG{n:Nat}(h:7<=n)(h':n<55):(∃z,aj aa aG 11 251 [.v (vn n)] g0=some (vs (eL n),z,g0))/\((eL n).length=1\/(eL n).length=2\/(eL n).length=3)/\(∀c∈eL n,c<128/\c≠13/\c≠34)/\look aU (st (eL n))=some (vn n):=by
 have :=List.all_eq_true.mp VK (n -7) (List.mem_range.mpr (by omega));unfold GL at this;rw[show n -7+7=n by omega]at this;simp only[Bool.and_eq_true,List.all_eq_true,Bool.not_eq_true']at this;refine⟨anyC this.1 fun r hr hq=>?_,?_,fun c hc=>?_,?_⟩
 ·have hq:=(Bool.and_eq_true_iff.mp hq)
  refine⟨r.2.1,?_⟩;rw[hr,<-Ce hq.1,<-Ov hq.2]
 ·have h1:=Nat.le_of_ble_eq_true this.2.1.1
  have h2:=Nat.le_of_ble_eq_true this.2.1.2;omega
 ·have :=this.2.2.1 c hc
  exact⟨Nat.le_of_ble_eq_true this.1,Nat.ne_of_beq_eq_false this.2.1,Nat.ne_of_beq_eq_false this.2.2⟩
 ·exact bindC (eq_of_beq this.2.2.2) fun v hv hi=>by rw[hv,fh hi]
/-! iZ Ky parts -/
theorem GN{c:Nat}(h:c<128):34∉eA c:=Po (P:=fun c=>34∉eA c) (fun c hp=>by
 rw[wI hp];simp only[iH,Bool.not_eq_true',Bool.or_eq_false_iff]at hp;intro q;exact eO hp.1.1.1.2 (List.mem_singleton.mp q).symm) (by decide) (by decide) (by decide) (by decide) (by decide) (by decide)
theorem Ox{c:Nat}(h:c≠34):34∉eT c:=spT (P:=fun c=>c≠34->34∉eT c) (fun c hp h=>by
 rw[tu hp];exact fun q=>h (List.mem_singleton.mp q).symm) (fun _=>by decide) (fun _=>by decide) (fun _=>by decide) (fun _=>by decide) h
theorem Oz{c:Nat}:60∉eT c:=spT (P:=fun c=>60∉eT c) (fun c hp=>by
 rw[tu hp];simp only[plainT,Bool.not_eq_true',Bool.or_eq_false_iff]at hp;intro q;exact eO hp.1.1.2 (List.mem_singleton.mp q).symm) (by decide) (by decide) (by decide) (by decide)
theorem mP{f:Nat->List Nat}{l:List Nat}{d:Nat}(h:∀c∈l,d∉f c):d∉l.flatMap f:=fun q=>(List.mem_flatMap.mp q).elim fun c hc=>h c hc.1 hc.2
noncomputable abbrev mQ (o:List Nat) (t:List Nat):List Nat:=62::(o.flatMap eT++(60::t))
noncomputable abbrev Pr:List Nat:=[47,98,62,60,98,32,118,61]
noncomputable abbrev Pu:List Nat:=[47,98,62,60,47,114,62]
theorem Cf{v w o q:List Nat}(hv:∀c∈v,c<128)(hw:∀c∈w,c<128)(ho:∀c∈o,c≠34)(hq:∀c∈q,c≠34):
  i8 34 (Gy v o w q).flatten=[[60,114,62,60,98,32,118,61],v.flatMap eA,mQ o Pr,w.flatMap eA,mQ q Pu]:=by
 have e:(Gy v o w q).flatten=[60,114,62,60,98,32,118,61]++34::(v.flatMap eA++34::(mQ o Pr++34::(w.flatMap eA++34::mQ q Pu))):=by simp
 have hp:∀{o t:List Nat},(∀c∈o,c≠34)->34∉t->34∉mQ o t:=fun ho ht q=>by
  rcases List.mem_cons.mp q with q|q
  ·exact absurd q (by decide)
  ·rcases List.mem_append.mp q with q|q
   ·exact mP (fun c hc=>Ox (ho c hc)) q
   ·rcases List.mem_cons.mp q with q|q
    ·exact absurd q (by decide)
    ·exact ht q
 rw[e,iW _ (by decide),iW _ (mP fun c hc=>GN (hv c hc)),iW _ (hp ho (by decide)),iW _ (mP fun c hc=>GN (hw c hc)),lF (hp hq (by decide))]
theorem Cg{o t:List Nat}:((Builtin.Str.occurrences (st (mQ o t)) ⟨#[60]⟩ 0 (st (mQ o t)).length 1).head?)=some (1+(o.flatMap eT).length):=by
 have hat:∀i,StrLaws.At (st (mQ o t)) ⟨#[60]⟩ (st (mQ o t)).length i↔(mQ o t)[i]?=some 60:=fun i=>StrLaws.subAt_one (st (mQ o t)) 60 i;have h0:(mQ o t)[1+(o.flatMap eT).length]?=some 60:=by rw[Nat.add_comm];show(o.flatMap eT++60::t)[(o.flatMap eT).length]?=_;rw[List.getElem?_append_right (Nat.le_refl _),Nat.sub_self];rfl
 rcases StrLaws.occ_head (st (mQ o t)) ⟨#[60]⟩ 1 (Nat.le_refl _)with⟨_,h⟩|⟨i,r,h,h1,h2⟩
 ·exact absurd ((hat _).mpr h0) (h _)
 ·rw[h]
  show some i=_;have h1:=(hat i).mp h1;have hle:i<=1+(o.flatMap eT).length:=Nat.le_of_not_lt fun q=>h2 _ q ((hat _).mpr h0);clear hat h0 h h2;rcases Nat.lt_or_eq_of_le hle with q|q
  ·exfalso
   match i,h1,q with
   |0,h1,_=>exact absurd (Option.some.inj h1) (by decide)
   |i+1,h1,q=>have h1:(o.flatMap eT++60::t)[i]?=some 60:=h1;rw[List.getElem?_append_left (by omega)]at h1;exact mP (fun c _=>Oz) (List.mem_of_getElem? h1)
  ·rw[q]
end Mine.Internal
end
noncomputable section
open PySem PySem.W PyProof.Rows
namespace Mine.Internal
/-! what is drawn -/
noncomputable def nO (x:Int):Nat:=md x 48+7
noncomputable def fO (x:Int):Nat:=md (x.fdiv 786432) 7
noncomputable def kL (x:Int):List Nat:=(due (nO x)).set (md (x.fdiv 48) 4) (md (x.fdiv 192) 4096)
noncomputable def val (x:Int):List Nat:=(kL x).flatMap sg
section
variable{x:Int}
theorem cZ:7<=nO x/\nO x<55:=⟨Nat.le_add_left _ _,by have :=l5 (x:=x) (k:=48) (by decide);unfold nO;omega⟩
theorem fE:fO x<7:=l5 (by decide)
theorem Ci{n m:Nat}(h:m∈due n):m<=11:=by simp only[due,List.mem_cons,List.not_mem_nil,or_false]at h;omega
theorem wY:∀m∈kL x,m<4096:=fun m hm=>by
 rcases List.mem_or_eq_of_mem_set hm with h|h
 ·exact Nat.lt_of_le_of_lt (Ci h) (by decide)
 ·rw[h];exact l5 (by decide)
theorem VL{m:Nat}(h:m<=11):(sg m).length=1:=by unfold sg;rw[if_neg (by omega)];rfl
theorem mR:(val x).length=4\/(val x).length=5:=by
 have h4:=l5 (x:=x.fdiv 48) (k:=4) (by decide);have hv:=uV (md (x.fdiv 192) 4096);have hv1:1<=(sg (md (x.fdiv 192) 4096)).length:=by unfold sg;rw[List.length_append];exact Nat.le_add_left _ _
 have hd:∀m∈due (nO x),(sg m).length=1:=fun m hm=>VL (Ci hm)
 delta val kL
 generalize md (x.fdiv 192) 4096=m at*;generalize hq:md (x.fdiv 48) 4=q at*;unfold due at hd⊢;simp only[List.mem_cons,List.not_mem_nil,or_false,forall_eq_or_imp,forall_eq]at hd
 match q,h4 with
 |0,_=>simp only[List.set,List.flatMap_cons,List.flatMap_nil,List.length_append,List.length_nil];omega
 |1,_=>simp only[List.set,List.flatMap_cons,List.flatMap_nil,List.length_append,List.length_nil];omega
 |2,_=>simp only[List.set,List.flatMap_cons,List.flatMap_nil,List.length_append,List.length_nil];omega
 |3,_=>simp only[List.set,List.flatMap_cons,List.flatMap_nil,List.length_append,List.length_nil];omega
theorem qT:∀c∈val x,c<128:=fun c hc=>(List.mem_flatMap.mp hc).elim fun m hm=>GA (wY m hm.1) hm.2
end
section
variable{T:aM}{U:aE}{e e':En}{G G':Gs}
theorem wZ{elt src:X}{K:IK}{v a b r q:V}(hs:aq T U src e G=some (v,G))(hK:mh T v=some K)(h0:aS K 0=some a)(h1:aS K 1=some b)(h2:aS K 2=none)
  (ha:aq T U elt (.v a::e) G=some (r,G))(hb:aq T U elt (.v b::e) G=some (q,G)):aq T U (.comp false elt src []) e G=some (.list [r,q],G):=
 iE (ws:=[some r,some q]) hs hK h2 (Nat.le_trans (m:=2) (Nat.le_refl _) (by decide)) fun k w hw=>by
  match k,hw with
  |0,hw=>obtain rfl:=Option.some.inj hw;exact⟨a,_,h0,rfl,rfl,fun y hy=>by obtain rfl:=Option.some.inj hy;exact ha⟩
  |1,hw=>obtain rfl:=Option.some.inj hw;exact⟨b,_,h1,rfl,rfl,fun y hy=>by obtain rfl:=Option.some.inj hy;exact hb⟩
noncomputable abbrev VM:X:=.call (.c (.c (.fn .range))) [(.c (.c (.int 2)))]
theorem iN{elt:X}{r q:V}(ha:aq aa U elt (.v (vn 0)::e) G=some (r,G))(hb:aq aa U elt (.v (vn 1)::e) G=some (q,G)):aq aa U (.comp false elt VM []) e G=some (.list [r,q],G):=
 wZ (K:=.jC 0 2 1) (v:=.sp (.jC 0 2 1)) (a:=vn 0) (b:=vn 1) (by kernel_rfl) rfl rfl rfl rfl ha hb
theorem f5{elt:X}{i:Nat}{a b r q:V}(h:sl e i= .v (.list [a,b]))(ha:aq aa U elt (.v a::e) G=some (r,G))(hb:aq aa U elt (.v b::e) G=some (q,G)):aq aa U (.comp false elt (.v i) []) e G=some (.list [r,q],G):=
 wZ (K:=.list [a,b]) (aK h) rfl rfl rfl rfl ha hb
end
theorem Kz{n:Nat}(h:2<=n)(h':n<=1000):binop .Mult (vs [32]) (vn n)=some (vs (List.replicate n 32)):=by
 have e:Txt.mul (st [32]) n=st (List.replicate n 32):=by
  unfold Txt.mul;rw[if_neg (by omega),if_neg (by
   rw[show((n:Int)==1)=false from beq_eq_false_iff_ne.mpr (by omega)];exact fun q=>Bool.noConfusion q)]
  have :=rA (Int.toNat (n:Int)) #[32];rw[<-Array.toArray_toList (xs:=List.foldl _ _ _),this];show st (List.replicate n [32]).flatten=_;rw[List.flatten_replicate_singleton]
 show Option.or (if 0<=(n:Int)/\(n:Int)<=1000/\(st [32]).length<=1000 then some (V.c (.str (Txt.mul (st [32]) n)))else none) _=_
 rw[if_pos ⟨by omega,by omega,by decide⟩,e];rfl
/-! iZ OA KA -/
noncomputable abbrev LL (x:Int):List Nat:=S4.map (kI (fU (fO x)) (nO x))++S4.map (qQ (fU (fO x)) (nO x))
noncomputable abbrev en (x:Int):V:=.inst 100 (oG (lead (fO x) (nO x)++[9]) (cj (lead (fO x) (nO x)++[9])))
section
variable{e:En}{k:Nat}{x:Int}
theorem GO(h:sl e 0= .v (vi x)):aq aa (aj aa aG 11) (.bin .Add (.bin .Mod (.v 0) (.c (.c (.int 48)))) (.c (.c (.int 7)))) e g0=some (vn (nO x),g0):=by refine aJ (v:=vn (md x 48)) (w:=vn 7) (aJ (v:=vi x) (w:=vi 48) (aK h) cI ?_) cI bV;show some (vi (Int.fmod x (48:Nat)))=_;rw[mL (by decide)]
theorem OB(h:sl e 0= .v (vn (nO x))):aq aa (aj aa aG 11) (.call (.c (.c (.ad 251))) [(.v 0)]) e g0=some (vs (eL (nO x)),g0):=by obtain⟨z,hz⟩:=(tG (cZ (x:=x)).1 cZ.2).1;exact dW rfl (ah (aK h) aC) hz
theorem w4(h:sl e 0= .v (vi x)):aq aa (aj aa aG 11) (.call (.c (.c (.ad 258))) [(.v 0)]) e g0=some (vs (fU (fO x)),g0):=by obtain⟨z,hz⟩:=yw (n:=10) (x:=x) (G:=g0);exact dW rfl (ah (aK h) aC) hz
theorem Cj{a b:V}(h:sl e 0= .v (vn k))(h5:sl e 5= .v a)(h3:sl e 3= .v b)(ha:gv aa a (vn k)=some (vs (fU (fO x))))(hb:gv aa b (vn k)=some (vn (nO x))):
  aq aa (aj aa aG 11) (.bin .Add (.sub (.v 5) (.v 0)) (.bin .Mult (.c (.c (.str ⟨⟨[32]⟩⟩))) (.sub (.v 3) (.v 0)))) e g0=some (vs (lead (fO x) (nO x)),g0):=by
 have h1:=cZ (x:=x);have h2:=(iM (fE (x:=x))).2.1;exact aJ (br (aK h5) (aK h) ha) (aJ cI (br (aK h3) (aK h) hb) (Kz (Nat.le_add_left _ _) (by omega))) (iJ (by rw[List.length_replicate];omega))
theorem GP(h:sl e 0= .v (vs (lead (fO x) (nO x)))):aq aa (aj aa aG 11) (.call (.c (.c (.ad 100))) [(.bin .Add (.v 0) (.c (.c (.str ⟨⟨[9]⟩⟩))))]) e g0=some (en x,g0):=by
 have h1:=cZ (x:=x);have h2:=tF (n:=nO x) (fE (x:=x));refine x_call cI (ah (aJ (w:=vs [9]) (aK h) cI (iJ (by simp;omega))) aC) (wV (n:=10) (by simp) (fun c hc=>?_) (by simp;omega));rcases List.mem_append.mp hc with hc|hc
 ·exact n7 fE c hc
 ·exact .inr (List.mem_singleton.mp hc)
theorem Ck{a b:V}(h:sl e 0= .v (vn k))(h7:sl e 7= .v a)(h8:sl e 8= .v b)(ha:gv aa a (vn k)=some (vs (lead (fO x) (nO x))))(hb:gv aa b (vn k)=some (en x)):
  aq aa (aj aa aG 11) (.call (.c (.c (.ad 270))) [(.call (.c (.c (.ad 100))) [(.sub (.v 7) (.v 0))]),(.sub (.v 8) (.v 0))]) e g0=some (.list ((LL x).map vn),g0):=by
 have h1:=cZ (x:=x);have h2:=tF (n:=nO x) (fE (x:=x));have hw:∀s:List Nat,s.length<=200->(cj s).l.length<=1000:=fun s hs=>by have :=(qP s ⟨[],0,0,0⟩ 0 (Nat.le_refl _) (Nat.le_refl _)).2;unfold cj;omega
 obtain⟨z,hz⟩:=Fc (n:=9) (s:=lead (fO x) (nO x)) (s':=lead (fO x) (nO x)++[9]) (w:=cj (lead (fO x) (nO x))) (w':=cj (lead (fO x) (nO x)++[9])) (G:=g0) (hw _ (by omega)) (hw _ (by simp;omega));rw[yD fE,Cd fE (by omega)]at hz;exact dW rfl (ah (x_call cI (ah (br (aK h7) (aK h) ha) aC) (wV (n:=10) (by omega) (n7 fE) (by omega))) (ah (br (aK h8) (aK h) hb) aC)) hz
theorem tH{a b:V}(h:sl e 0= .v (vn k))(h5:sl e 5= .v a)(h3:sl e 3= .v b)(ha:gv aa a (vn k)=some (vs (fU (fO x))))(hb:gv aa b (vn k)=some (vn (nO x))):
  aq aa (aj aa aG 11) (.call (.c (.c (.ad 265))) [(.sub (.v 5) (.v 0)),(.sub (.v 3) (.v 0))]) e g0=some (.list ((LL x).map vn),g0):=by
 have h1:=cZ (x:=x);have h2:=iM (fE (x:=x));obtain⟨z,hz⟩:=yC (n:=10) (m:=nO x) (f:=fU (fO x)) (G:=g0) h2.1 (by omega) (by omega);exact dW rfl (ah (br (aK h5) (aK h) ha) (ah (br (aK h3) (aK h) hb) aC)) hz
theorem w5{s t:X}(hs:aq aa (aj aa aG 11) s e g0=some (.list ((due (nO x)).map vn),g0))(ht:aq aa (aj aa aG 11) t e g0=some (vi x,g0)):
  aq aa (aj aa aG 11) (.call (.c (.c (.ad 277))) [(.call (.c (.c (.ad 289))) [s,t])]) e g0=some (vs (val x),g0):=by
 obtain⟨z,hz⟩:=uX (n:=10) (a:=7 -nO x % 7) (b:=8 -nO x % 8) (c:=9 -nO x % 9) (d:=11 -nO x % 11) (x:=x) (G:=g0);obtain⟨z',hz'⟩:=BQ (n:=10) (l:=kL x) (G:=g0) (by unfold kL;rw[List.length_set];exact Nat.le_add_left 4 4) wY;exact dW rfl (ah (dW rfl (ah hs (ah ht aC)) hz) aC) hz'
end
end Mine.Internal
end
noncomputable section
open PySem PySem.W PyProof.Rows
namespace Mine.Internal
/-! iZ code of KC -/
noncomputable def bn (b:Bool):Nat:=match b with|true=>1|false=>0
theorem iX{a b c d a' b' c' d':Nat}:agree [a,b,c,d] [a',b',c',d']=bn (a==a')+bn (b==b')+bn (c==c')+bn (d==d'):=by unfold agree;simp only[List.zip_cons_cons,List.zip_nil_left,List.filter];rcases(a==a')with⟨⟩ <;> cases(b==b') <;> cases(c==c') <;> cases(d==d') <;> rfl
theorem Sf:(List.range 48).all (fun n=>(List.range 48).all fun m=>Nat.beq n m||Nat.ble (agree (due (n+7)) (due (m+7))) 1)=true:=by decide+kernel
theorem TU{n m:Nat}(hn:7<=n/\n<55)(hm:7<=m/\m<55)(h:n≠m):agree (due n) (due m)<=1:=by have :=List.all_eq_true.mp (List.all_eq_true.mp Sf (n -7) (List.mem_range.mpr (by omega))) (m -7) (List.mem_range.mpr (by omega));rw[show n -7+7=n by omega,show m -7+7=m by omega,show Nat.beq (n -7) (m -7)=false from Bool.eq_false_iff.mpr fun q=>h (by have :=Nat.eq_of_beq_eq_true q;omega)]at this;exact Nat.le_of_ble_eq_true this
theorem w6(b:Bool):bn b<=1:=by rcases b with⟨⟩ <;> decide
theorem mS(a:Nat):bn (a==a)=1:=by rw[beq_self_eq_true];rfl
theorem yE{q v n m:Nat}(hq:q<4):agree ((due n).set q v) (due m)<=agree (due n) (due m)+1/\3<=agree ((due n).set q v) (due n):=by
 unfold due
 match q,hq with
 |0,_=>have h1:=w6 (v==7 -m % 7);simp only[List.set,iX,mS];omega
 |1,_=>have h1:=w6 (v==8 -m % 8);simp only[List.set,iX,mS];omega
 |2,_=>have h1:=w6 (v==9 -m % 9);simp only[List.set,iX,mS];omega
 |3,_=>have h1:=w6 (v==11 -m % 11);simp only[List.set,iX,mS];omega
theorem OC{x:Int}{m:Nat}(hm:7<=m/\m<55):decide ((3:Int)<=agree (kL x) (due m))=(m==nO x):=by
 have h:=yE (q:=md (x.fdiv 48) 4) (v:=md (x.fdiv 192) 4096) (n:=nO x) (m:=m) (l5 (by decide));rw[Bool.eq_iff_iff,decide_eq_true_eq,beq_iff_eq];refine⟨fun q=>Classical.byContradiction fun hne=>?_,fun q=>?_⟩
 ·have :=TU (cZ (x:=x)) hm fun q=>hne q.symm
  have :=h.1;unfold kL at q;omega
 ·(clear hm;subst q)
  have :=h.2;unfold kL;omega
noncomputable def dB (e:Str×V):Bool:=((look aU e.1).bind bF==bF e.2)&&((bF e.2).any fun i=>decide (7<=i)&&decide (i<55))
theorem d1:aU.all dB=true:=by decide+kernel
theorem OD{e:Str×V}(h:e∈aU):∃m:Nat,e.2=vn m/\look aU e.1=some (vn m)/\7<=m/\m<55:=by
 have :=List.all_eq_true.mp d1 e h;unfold dB at this;simp only[Bool.and_eq_true]at this;refine anyC this.2 fun i hi hq=>?_;simp only[Bool.and_eq_true,decide_eq_true_eq]at hq;have e1:=fh hi;rw[hi]at this;refine bindC (eq_of_beq this.1) fun v hv hi2=>⟨i.toNat,?_,?_,by omega,by omega⟩
 ·rw[e1];show vi i=vi (i.toNat:Int);rw[Int.toNat_of_nonneg (by omega)]
 ·rw[hv,fh hi2];show some (vi i)=some (vi (i.toNat:Int));rw[Int.toNat_of_nonneg (by omega)]
noncomputable def OE (v:V) (n:Nat):Bool:=bF v==some (n:Int)
theorem f1:(List.range 48).all (fun n=>(aU.filterMap fun e=>if OE e.2 (n+7)=true then bF e.2 else none)==[((n+7:Nat):Int)])=true:=by decide+kernel
theorem OF:aU.length<=1000:=by decide+kernel
theorem KD{a:Addr}{es:List (Str×V)}{k:Nat}{d:Str×V}(h:es[k]?=some d):aS (.gd a es) k=some (.c (.str d.1)):=by show Option.map _ es[k]?=_;rw[h];rfl
theorem KG{a:Addr}{es:List (Str×V)}:aS (.gd a es) es.length=none:=by show Option.map _ es[es.length]?=_;rw[List.getElem?_eq_none (Nat.le_refl _)];rfl
theorem OG:mh aa (.c (.gd 112))=some (.gd 112 aU):=by kernel_rfl
theorem KH{k:Str}:gv aa (.c (.gd 112)) (.c (.str k))=look aU k:=by kernel_rfl
noncomputable def tK (n:Nat) (v:V):Option V:=if OE v n=true then some v else none
theorem Fj{n m:Nat}:tK n (vn m)=if(m==n)=true then some (vn m)else none:=by
 have :OE (vn m) n=(m==n):=by show(some (m:Int)==some (n:Int))=_;rw[Bool.eq_iff_iff,beq_iff_eq,beq_iff_eq];exact⟨fun q=>by injection q with q;omega,fun q=>by rw[q]⟩
 unfold tK;rw[this]
theorem yG{n:Nat}(hn:7<=n/\n<55):(aU.map fun d=>tK n d.2).filterMap id=[vn n]:=by
 have h:=eq_of_beq (List.all_eq_true.mp f1 (n -7) (List.mem_range.mpr (by omega)));rw[show n -7+7=n by omega]at h;have key:∀l:List (Str×V),(∀d∈l,∃m:Nat,d.2=vn m)->(l.map fun d=>tK n d.2).filterMap id=(l.filterMap fun e=>if OE e.2 n=true then bF e.2 else none).map vi:=by
  intro l
  induction l with
  |nil=>intro _;rfl
  |cons d l ih=>
   intro hd;have ih:=ih fun d h=>hd d (List.mem_cons_of_mem _ h);obtain⟨m,hm⟩:=hd d (List.mem_cons_self ..);simp only[List.map_cons,List.filterMap_cons,List.filterMap_cons,tK,hm];rcases OE (vn m) n with _|_
   ·simp only[Bool.false_eq_true,if_false];exact ih
   ·simp only[if_true];exact congrArg (vn m:: ·) ih
 simp only[key _ fun d hd=>(OD hd).elim fun m h=>⟨m,h.1⟩,h];rfl
theorem n8{x:Int}:∃a b c d,kL x=[a,b,c,d]:=by
 have h4:=l5 (x:=x.fdiv 48) (k:=4) (by decide)
 delta kL due
 generalize md (x.fdiv 48) 4=q at h4
 match q,h4 with
 |0,_=>exact⟨_,_,_,_,rfl⟩
 |1,_=>exact⟨_,_,_,_,rfl⟩
 |2,_=>exact⟨_,_,_,_,rfl⟩
 |3,_=>exact⟨_,_,_,_,rfl⟩
section
variable{e:En}{x:Int}{G:Gs}
noncomputable abbrev Pw:X:=.cmp .GtE (.call (.c (.c (.ad 327))) [(.slc (.v 15) (some (.bin .Mult (.c (.c (.int 4))) (.v 6))) (some (.bin .Add (.bin .Mult (.c (.c (.int 4))) (.v 6)) (.c (.c (.int 4)))))),(.sub (.c (.c (.gd 112))) (.v 0))]) (.c (.c (.int 3)))
theorem GQ{k:Str}{v:V}(h0:sl e 0= .v (.c (.str k)))(h:look aU k=some v):aq aa (aj aa aG 11) (.sub (.c (.c (.gd 112))) (.v 0)) e G=some (v,G):=br cI (aK h0) (KH.trans h)
theorem KI{i m:Nat}{k:Str}{r:V}(h0:sl e 0= .v (.c (.str k)))(IX:sl e 15= .v r)(h6:sl e 6= .v (vn i))(hr:jK r (some (vn (4*i))) (some (vn (4*i+4)))=some (.list ((kL x).map vn)))(hk:look aU k=some (vn m))(hm:7<=m/\m<55):
  jM aa (aj aa aG 11) [Pw] e G=some (m==nO x,G):=by
 obtain⟨a,b,c,d,hs⟩:=n8 (x:=x);have hi:=OC (x:=x) hm;rw[hs]at hr hi;obtain⟨z,hz⟩:=BV (n:=9) (a:=a) (b:=b) (c:=c) (d:=d) (m:=m) (G:=G);have hc:aq aa (aj aa aG 11) Pw e G=some (.c (.bool (decide ((3:Int)<=agree [a,b,c,d] (due m)))),G):=
  bU (w:=vi 3) (dW rfl (ah (BY (v:=r) (aK IX) (aJ (v:=vn 4) (w:=vn i) cI (aK h6) (jB (by decide))) (aJ (v:=vn (4*i)) (w:=vn 4) (aJ (v:=vn 4) (w:=vn i) cI (aK h6) (jB (by decide))) cI bV) hr) (ah (GQ h0 hk) aC)) hz) cI rfl
 rw[hi]at hc;refine bT (f:=aq aa _ _ _) hc ?_
 (clear h0 IX h6 hk hm hr hs hi hz hc;cases(m==nO x)) <;> rfl
theorem Fo{i:Nat}{r:V}(Px:sl e 14= .v r)(h5:sl e 5= .v (vn i))(hr:jK r (some (vn (4*i))) (some (vn (4*i+4)))=some (.list ((kL x).map vn))):
  aq aa (aj aa aG 11) (.comp false (.sub (.c (.c (.gd 112))) (.v 0)) (.c (.c (.gd 112))) [Pw]) e G=some (.list [vn (nO x)],G):=by
 rw[<-yG cZ];refine iE (K:=.gd 112 aU) cI OG (by rw[List.length_map];exact KG) (by rw[List.length_map];exact OF) fun k w hw=>?_;rw[List.getElem?_map]at hw;obtain⟨d,hd,hw⟩:=Option.map_eq_some_iff.mp hw;obtain⟨m,e2,nK,hm⟩:=OD (List.mem_of_getElem? hd);simp only[e2,Fj]at hw;refine⟨_,[.v (.c (.str d.1))],KD hd,rfl,?_,fun y hy=>?_⟩
 ·refine(KI (k:=d.1) rfl Px h5 hr nK hm).trans ?_
  rw[<-hw]
  (clear Px h5 hr hd e2 hm;cases(m==nO x)) <;> rfl
 ·refine(GQ (k:=d.1) rfl nK).trans ?_
  rw[<-hw]at hy;cases hq:(m==nO x)with
  |true=>rw[hq]at hy;(clear Px h5 hr hw hd e2 nK hm;obtain rfl:=Option.some.inj hy);rfl
  |false=>rw[hq]at hy;exact xa hy
end
end Mine.Internal
end
noncomputable section
open PySem PySem.W PyProof.Rows
namespace Mine.Internal
section
variable{T:aM}{U:aE}{e:En}{G:Gs}{x y:Int}
/-! iZ steps -/
theorem yH{a b c d a' b' c' d':Int}:aq aa U (.comp false (.bin .Sub (.sub (.v 1) (.bin .Add (.v 0) (.c (.c (.int 4))))) (.sub (.v 1) (.v 0))) (.call (.c (.c (.fn .range))) [(.c (.c (.int 4)))]) []) (.v (.list [vi a,vi b,vi c,vi d,vi a',vi b',vi c',vi d'])::e) G
  =some (.list [vi (a' -a),vi (b' -b),vi (c' -c),vi (d' -d)],G):=by kernel_rfl
theorem step_eq{f:List Nat}{n s:Nat}(hs:0<s):((qQ f n s:Nat):Int) -(kI f n s:Nat)=((s -n % s:Nat):Int):=by
 have h1:=Nat.div_add_mod n s;have h2:=Nat.mod_lt n hs;have h3:(n / s+1)*s=s*(n / s)+s:=by rw[Nat.add_mul,Nat.one_mul,Nat.mul_comm]
 show((atS f s+(n / s+1)*s:Nat):Int) -(atS f s+n:Nat)=_;rw[h3];omega
theorem w7:aq aa U (.comp false (.bin .Sub (.sub (.v 1) (.bin .Add (.v 0) (.c (.c (.int 4))))) (.sub (.v 1) (.v 0))) (.call (.c (.c (.fn .range))) [(.c (.c (.int 4)))]) []) (.v (.list ((LL x).map vn))::e) G=some (.list ((due (nO x)).map vn),G):=by refine yH.trans ?_;rw[step_eq (by decide),step_eq (by decide),step_eq (by decide),step_eq (by decide)];rfl
/-! two Lb,two lists -/
theorem OH{a b:X}{l m:List Nat}{G':Gs}(h:aq T U a e G=some (vs l,G))(h':aq T U b e G=some (vs m,G'))(hq:l=m):aq T U (.cmp .NotEq a b) e G=some (.c (.bool false),G'):=
 bU h h' (by(clear h h';subst hq);show some (!(st l==st l))=_;rw[beq_self_eq_true];rfl)
theorem KJ{a b:X}(h:aq T U a e G=some (.list [.list ((LL x).map vn),.list ((LL y).map vn)],G))(h':aq T U b e G=some (.list [.list ((LL x).map vn),.list ((LL y).map vn)],G)):aq T U (.cmp .NotEq a b) e G=some (.c (.bool false),G):=by
 refine bU h h' ?_;have t:toPy (.list [.list ((LL x).map vn),.list ((LL y).map vn)])=some (.list [.list ((LL x).map pI),.list ((LL y).map pI)]):=by show(((jJ ((LL x).map vn)).map PyData.list).bind fun d=>(((jJ ((LL y).map vn)).map PyData.list).bind fun d'=>some [d']).map (d:: ·)).map PyData.list=_;rw[kJ,kJ];rfl
 have sh:SeqAt.shaped (.list [.list ((LL x).map pI),.list ((LL y).map pI)])=true:=by show((PyData.canLayAll0 ((LL x).map pI)&&(PyData.canLayAll0 ((LL y).map pI)&&true))&&decide (max (PyData.depthAll ((LL x).map pI)+1) (max (PyData.depthAll ((LL y).map pI)+1) 0)+1<=64))=true;rw[qR,qR,kK,kK];rfl
 show Option.map not (Option.bind (toPy (.list [.list ((LL x).map vn),.list ((LL y).map vn)])) fun a=>Option.bind (toPy (.list [.list ((LL x).map vn),.list ((LL y).map vn)])) fun b=>if SeqAt.shaped a=true/\SeqAt.shaped b=true then some (PyData.eqv a b)else none)=_
 rw[t,Option.bind_some,Option.bind_some,if_pos ⟨sh,sh⟩];show some (!(PyData.eqvAll ((LL x).map pI) ((LL x).map pI)&&(PyData.eqvAll ((LL y).map pI) ((LL y).map pI)&&true)))=_;simp only[qS,qS,beq_self_eq_true,beq_self_eq_true];rfl
/-! yr,Py -/
noncomputable abbrev n9:Str:=⟨⟨[115,112,108,105,116]⟩⟩
theorem w9{a:X}{l:List Nat}{c:Nat}(h:aq aa U a e G=some (vs l,G))(hl:l.length<=1000000):aq aa U (.bB a n9 [(.c (.c (.str ⟨⟨[c]⟩⟩)))]) e G=some (.list ((i8 c l).map vs),G):=by
 refine gO (v:=vs l) (m:=.str (st l) n9) (r:=[vs [c]]) h (by kernel_rfl) (ah cI aC) ?_;show Option.map _ (pV (st l) n9 [vs [c]])=_;rw[show pV (st l) n9 [vs [c]]=if(st [c]).length≠0/\(st l).length<=1000000 then some (V.list ((Txt.split (st l) (st [c])).map fun z=>.c (.str z)))else none by kernel_rfl,if_pos ⟨Nat.succ_ne_zero 0,hl⟩]
 rw[split1,List.map_map];rfl
theorem OI{a:X}{l:List Nat}(h:aq aa U a e G=some (vs l,G))(hl:l.length<=1000):aq aa U (.comp false (.call (.c (.c (.fn .ord))) [(.v 0)]) a []) e G=some (.list (l.map vn),G):=by
 have e1:l.map vn=(l.map fun c=>some (vn c)).filterMap id:=by simp only[List.filterMap_map];exact(List.filterMap_eq_map (f:=vn)).symm▸rfl
 rw[e1];refine iE (K:=.str (st l)) h rfl ?_ (by rw[List.length_map];exact hl) fun k w hw=>?_
 ·show Option.map _ (Array.mk l)[(l.map _).length]?=_
  rw[List.length_map,List.getElem?_toArray,List.getElem?_eq_none (Nat.le_refl _)];rfl
 ·rw[List.getElem?_map]at hw
  (clear h hl e1;obtain⟨c,hc,rfl⟩:=Option.map_eq_some_iff.mp hw)
  exact⟨_,_,mK hc,rfl,rfl,fun y hy=>by obtain rfl:=Option.some.inj hy;exact kE (ah (aK rfl) aC) rfl⟩
theorem KN{a b:X}(ha:aq aa (aj aa aG 11) a e G=some (vs ((val x).flatMap eA),G))(hb:aq aa (aj aa aG 11) b e G=some (vs ((val y).flatMap eA),G)):
  aq aa (aj aa aG 11) (.call (.c (.c (.ad 322))) [(.comp false (.call (.c (.c (.fn .ord))) [(.v 0)]) (.call (.c (.c (.ad 315))) [(.bin .Add a b)]) [])]) e G=some (.list ((kL x++kL y).map vn),G):=by
 have h1:=mR (x:=x);have h2:=mR (x:=y);have h3:=iI (val x);have h4:=iI (val y);obtain⟨z,hz⟩:=tD (n:=10) (G:=G) (f:=eA) (l:=val x++val y) (fun c hc=>Kl ((List.mem_append.mp hc).elim (qT c) (qT c))) (by rw[List.length_append];omega);rw[List.flatMap_append]at hz;have hs:∀x,(kL x).length=4:=fun x=>by unfold kL;rw[List.length_set];rfl
 obtain⟨z',hz'⟩:=uZ (n:=9) (G:=G) (l:=kL x++kL y) (by rw[List.length_append,hs,hs];exact Nat.le_refl _) (fun m hm=>(List.mem_append.mp hm).elim (wY m) (wY m));rw[List.flatMap_append]at hz';exact dW rfl (ah (OI (dW rfl (ah (aJ ha hb (iJ (by omega))) aC) hz) (by rw[List.length_append];omega)) aC) hz'
noncomputable abbrev lJ:Str:=⟨⟨[105,110,100,101,120]⟩⟩
theorem KO{a:X}{t:List Nat}(ha:aq aa (aj aa aG 11) a e G=some (vs (mQ (eL (nO x)) t),G))(ht:t.length<=10):
  aq aa (aj aa aG 11) (.call (.c (.c (.ad 315))) [(.slc a (some (.c (.c (.int 1)))) (some (.bB a lJ [(.c (.c (.str ⟨⟨[60]⟩⟩)))])))]) e G=some (vs (eL (nO x)),G):=by
 have hop:=tG (cZ (x:=x)).1 cZ.2;have hT:=lG (eL (nO x));obtain⟨z,hz⟩:=tD (n:=10) (G:=G) (f:=eT) (l:=eL (nO x)) (fun c hc=>Km (hop.2.2.1 c hc).1) (by omega);have hi:aq aa (aj aa aG 11) (.bB a lJ [(.c (.c (.str ⟨⟨[60]⟩⟩)))]) e G=some (vn (1+((eL (nO x)).flatMap eT).length),G):=by refine gO (v:=vs (mQ (eL (nO x)) t)) (m:=.str (st (mQ (eL (nO x)) t)) lJ) (r:=[vs [60]]) ha (by kernel_rfl) (ah cI aC) ?_;show Option.map _ (pV (st (mQ (eL (nO x)) t)) lJ [vs [60]])=_;simp only[show pV (st (mQ (eL (nO x)) t)) lJ [vs [60]]=((Builtin.Str.occurrences (st (mQ (eL (nO x)) t)) ⟨#[60]⟩ 0 (st (mQ (eL (nO x)) t)).length 1).head?).map fun(i:Nat)=>V.c (.int (i:Int)) by kernel_rfl,Cg];rfl
 refine dW rfl (ah (BY (x:=vn 1) ha cI hi ((wR (Nat.le_add_right _ _) ?_ ?_).trans ?_)) aC) hz
 ·simp only[List.length_cons,List.length_append];omega
 ·simp only[List.length_cons,List.length_append];omega
 ·show some (vs (((eL (nO x)).flatMap eT++60::t).take (1+((eL (nO x)).flatMap eT).length -1)))=_
  rw[Nat.add_sub_cancel_left,List.take_left]
end
end Mine.Internal
end
noncomputable section
open PySem PySem.W PyProof.Rows
namespace Mine.Internal
section
variable{T:aM}{U:aE}{e:En}{G:Gs}{x y:Int}
theorem Cm{a b:X}{p q:Bool}(h:aq T U a e G=some (.c (.bool p),G))(h':p=true->aq T U b e G=some (.c (.bool q),G)):aq T U (.and [a,b]) e G=some (.c (.bool (p&&q)),G):=by
 rw[show aq T U (.and [a,b]) e=bd (aq T U a e) (fun r=>bd (re (truthy r)) fun t=>match t with|true=>bd (aq T U b e) (fun r=>re (some r))|false=>re (some r)) by kernel_rfl]
 refine bT (f:=aq T U a e) h (bT (v:=p) (nV rfl) ?_);clear h;cases p with
 |true=>exact bT (f:=aq T U b e) (h' rfl) rfl
 |false=>rfl
theorem OJ{a:X}{p:Bool}(h:aq T U a e G=some (.c (.bool p),G)):aq T U (.not a) e G=some (.c (.bool !p),G):=J1 (f:=fun x=>(truthy x).map fun b=>.c (.bool (!b))) rfl h rfl
theorem OM(h9:sl e 9= .v (.list [.list ((due (nO x)).map vn),.list ((due (nO y)).map vn)]))(Pz:sl e 17= .v (.c (.bool (nO x==nO y)))):
  aq aa U (.and [(.not (.v 17)),(.cmp .Gt (.call (.c (.c (.fn .len))) [(.comp false (.v 0) (.call (.c (.c (.fn .range))) [(.c (.c (.int 4)))]) [(.cmp .Eq (.sub (.sub (.v 10) (.c (.c (.int 0)))) (.v 0)) (.sub (.sub (.v 10) (.c (.c (.int 1)))) (.v 0)))])]) (.c (.c (.int 1))))]) e G=some (.c (.bool false),G):=by
 have ht:∀{k s t:Nat} {w:Option V},w=tk (s==t) k->gv aa (.list ((due (nO x)).map vn)) (vn k)=some (vn s)->gv aa (.list ((due (nO y)).map vn)) (vn k)=some (vn t)->aS (.jC 0 4 1) k=some (vn k)->∃v zs,aS (.jC 0 4 1) k=some v/\front false v=some zs/\
   jM aa U [(.cmp .Eq (.sub (.sub (.v 10) (.c (.c (.int 0)))) (.v 0)) (.sub (.sub (.v 10) (.c (.c (.int 1)))) (.v 0)))] (zs++e) G=some (w.isSome,G)/\
   ∀y,w=some y->aq aa U (.v 0) (zs++e) G=some (y,G):=fun {k s t w} hw h1 h2 h3=>by
  refine⟨_,_,h3,rfl,bT (f:=aq aa _ _ _) (bU (br (br (w:=vi 0) (aK (i:=10) h9) cI rfl) (aK (i:=0) rfl) h1) (br (br (w:=vi 1) (aK (i:=10) h9) cI rfl) (aK (i:=0) rfl) h2) BR) ?_,fun y hy=>?_⟩
  ·rw[hw,wQ];(clear h9 h1 h2 h3;rcases(s==t)with⟨⟩) <;> rfl
  ·rw[hw]at hy;rw[BS hy];rfl
 have hc:=iE (T:=aa) (U:=U) (tw:=false) (elt:=.v 0) (src:=.call (.c (.c (.fn .range))) [(.c (.c (.int 4)))]) (ifs:=[(.cmp .Eq (.sub (.sub (.v 10) (.c (.c (.int 0)))) (.v 0)) (.sub (.sub (.v 10) (.c (.c (.int 1)))) (.v 0)))])
  (e:=e) (G:=G) (K:=.jC 0 4 1) (v:=.sp (.jC 0 4 1)) (ws:=[tk (7 -nO x % 7==7 -nO y % 7) 0,tk (8 -nO x % 8==8 -nO y % 8) 1,tk (9 -nO x % 9==9 -nO y % 9) 2,tk (11 -nO x % 11==11 -nO y % 11) 3]) (by kernel_rfl) rfl rfl (Nat.le_trans (m:=4) (Nat.le_refl _) (by decide)) (fun k w hw=>by
   match k,hw with
   |0,hw=>exact ht (Option.some.inj hw).symm rfl rfl rfl
   |1,hw=>exact ht (Option.some.inj hw).symm rfl rfl rfl
   |2,hw=>exact ht (Option.some.inj hw).symm rfl rfl rfl
   |3,hw=>exact ht (Option.some.inj hw).symm rfl rfl rfl)
 have hl:aq aa U (.cmp .Gt (.call (.c (.c (.fn .len))) [(.comp false (.v 0) (.call (.c (.c (.fn .range))) [(.c (.c (.int 4)))]) [(.cmp .Eq (.sub (.sub (.v 10) (.c (.c (.int 0)))) (.v 0)) (.sub (.sub (.v 10) (.c (.c (.int 1)))) (.v 0)))])]) (.c (.c (.int 1)))) e G=some (.c (.bool (decide ((1:Int)<(agree (due (nO x)) (due (nO y)):Nat)))),G):=by
  refine bU (v:=vn (agree (due (nO x)) (due (nO y)))) (w:=vi 1) (kE (ah hc aC) ?_) cI rfl;show Option.map (fun n=>V.c (.int n)) (if _<=lim then some _ else none)=_
  rw[if_pos (Nat.le_trans (List.length_filterMap_le _ _) (Nat.le_trans (m:=4) (Nat.le_refl _) (by decide))),BU];rfl
 refine(Cm (q:=decide ((1:Int)<(agree (due (nO x)) (due (nO y)):Nat))) (OJ (aK Pz)) fun _=>hl).trans ?_;clear h9 Pz ht hc hl;cases hs:(nO x==nO y)with
 |true=>rfl
 |false=>
  have :=TU (cZ (x:=x)) (cZ (x:=y)) fun q=>by rw[q,beq_self_eq_true]at hs;exact xd hs
  rw[decide_eq_false (by omega)];rfl
/-! iZ PA runs -/
noncomputable def CN (f:Nat):List (List Nat):=[[[]],[[],[]],[[],[32]],[[],[],[32]],[[],[],[32]],[[],[32],[32]],[[],[32,32,32]]].getD f []
theorem yI{f:Nat}(h:f<7):ie .sorted [.list ((i8 9 (fU f)).map vs)]=some (.list ((CN f).map vs)):=by
 match f,h with
 |0,_=>kernel_rfl
 |1,_=>kernel_rfl
 |2,_=>kernel_rfl
 |3,_=>kernel_rfl
 |4,_=>kernel_rfl
 |5,_=>kernel_rfl
 |6,_=>kernel_rfl
theorem VN:(List.range 7).all (fun f=>(List.range 7).all fun g=>l9 (.list ((CN f).map vs)) (.list ((CN g).map vs))==some (iK f==iK g))=true:=by decide+kernel
theorem ON{f g:Nat}(h:f<7)(h':g<7):l9 (.list ((CN f).map vs)) (.list ((CN g).map vs))=some (iK f==iK g):=eq_of_beq (List.all_eq_true.mp (List.all_eq_true.mp VN f (List.mem_range.mpr h)) g (List.mem_range.mpr h'))
theorem Cn(h:sl e 0= .v (vs (fU (fO x)))):aq aa U (.call (.c (.c (.fn .sorted))) [(.bB (.v 0) n9 [(.c (.c (.str ⟨⟨[9]⟩⟩)))])]) e G=some (.list ((CN (fO x)).map vs),G):=
 kE (ah (w9 (aK h) (Nat.le_trans (iM (fE (x:=x))).2.1 (by decide))) aC) (yI fE)
theorem KP{a b:Bool}:same (.c (.bool a)) (.c (.bool b))=some (a==b):=rfl
theorem last_eq:(((cj (lead (fO x) (nO x)++[9])).l==(cj (lead (fO y) (nO y)++[9])).l)&&((cj (lead (fO x) (nO x)++[9])).b==(cj (lead (fO y) (nO y)++[9])).b))=((nO x==nO y)&&(iK (fO x)==iK (fO y))):=by
 have hx:=cZ (x:=x);have hy:=cZ (x:=y);rw[u6 fE (by omega),u6 fE (by omega)];show((_==_)&&(0==0))=_;rw[beq_self_eq_true,Bool.and_true,Bool.eq_iff_iff,Bool.and_eq_true,beq_iff_eq,beq_iff_eq,beq_iff_eq];constructor
 ·intro h
  have hn:nO x=nO y:=by have :=congrArg List.length h;simp only[List.length_append,List.length_replicate,List.length_singleton,n6 fE]at this;omega
  rw[hn]at h;exact⟨hn,List.append_cancel_right h⟩
 ·rintro⟨h1,h2⟩;rw[h1,h2]
theorem KR(h7:sl e 7= .v (.list [en x,en y]))(Pz:sl e 17= .v (.c (.bool (nO x==nO y))))(TV:sl e 18= .v (.list [.list ((CN (fO x)).map vs),.list ((CN (fO y)).map vs)])):
  aq aa (aj aa aG 11) (.cmp .Is (.bB (.sub (.v 7) (.c (.c (.int 0)))) ⟨⟨[101,113,117,97,108]⟩⟩ [(.sub (.v 7) (.c (.c (.int 1))))]) (.and [(.v 17),(.cmp .Eq (.sub (.v 18) (.c (.c (.int 0)))) (.sub (.v 18) (.c (.c (.int 1)))))])) e G=some (.c (.bool true),G):=by
 obtain⟨z,hz⟩:=Cb (n:=10) (s:=lead (fO x) (nO x)++[9]) (s':=lead (fO y) (nO y)++[9]) (w:=cj (lead (fO x) (nO x)++[9])) (w':=cj (lead (fO y) (nO y)++[9])) (G:=G);rw[last_eq]at hz;refine bU (v:=.c (.bool ((nO x==nO y)&&(iK (fO x)==iK (fO y))))) (w:=.c (.bool ((nO x==nO y)&&(iK (fO x)==iK (fO y))))) (gO (v:=en x) (m:=.met 76 (en x)) (r:=[en y]) (br (w:=vi 0) (aK h7) cI rfl) (by kernel_rfl) (ah (br (w:=vi 1) (aK h7) cI rfl) aC) ?_) (Cm (aK Pz) fun _=>bU (br (w:=vi 0) (aK TV) cI rfl) (br (w:=vi 1) (aK TV) cI rfl) (ON fE fE)) ?_
 ·show Option.map (fun r:V×SL×Gs=>(r.1,r.2.2)) (aj aa aG 11 76 [.v (en x),.v (en y)] G)=_
  rw[hz];rfl
 ·show same _ _=_
  simp only[KP,beq_self_eq_true]
end
end Mine.Internal
end
noncomputable section
open PySem PySem.W PyProof.Rows
namespace Mine.Internal
section
variable{x y:Int}
theorem Co{G:Gs}{e:En}{i:Nat}{x z:Int}{parts read:V}{t p:List Nat}(Kf:sl e 13= .v parts)(Px:sl e 14= .v read)(h5:sl e 5= .v (vn i))(IX:sl (e.set 15 (.v (vs (eL (nO x))))) 15= .v (vs (eL (nO x))))(Sg:sl (e.set 15 (.v (vs (eL (nO x))))) 14= .v read)(OO:sl (e.set 15 (.v (vs (eL (nO x))))) 5= .v (vn i))
  (Pp:sl ((e.set 15 (.v (vs (eL (nO x))))).set 16 (.v (.list [vn (nO x)]))) 16= .v (.list [vn (nO x)]))(Sh:sl ((e.set 15 (.v (vs (eL (nO x))))).set 16 (.v (.list [vn (nO x)]))) 15= .v (vs (eL (nO x))))
  (hp:gv aa parts (vn (2*i+2))=some (vs (mQ (eL (nO x)) t)))(ht:t.length<=10)(hr:jK read (some (vn (4*i))) (some (vn (4*i+4)))=some (.list ((kL x).map vn))):
  aN aa (aj aa aG 11) [(.fz []),(.asg 15 (.call (.c (.c (.ad 315))) [(.slc (.sub (.v 13) (.bin .Add (.bin .Mult (.c (.c (.int 2))) (.v 5)) (.c (.c (.int 2))))) (some (.c (.c (.int 1)))) (some (.bB (.sub (.v 13) (.bin .Add (.bin .Mult (.c (.c (.int 2))) (.v 5)) (.c (.c (.int 2))))) lJ [(.c (.c (.str ⟨⟨[60]⟩⟩)))])))])),(.fz []),(.asg 16 (.comp false (.sub (.c (.c (.gd 112))) (.v 0)) (.c (.c (.gd 112))) [Pw])),(.fz []),(.ite (.cmp .NotEq (.v 16) (.list [(.bB (.c (.c (.gd 112))) yv [(.v 15)])])) [(.fz []),(.ret (.c (.c (.bool false))))] [])] e G
   =some (.aS,(e.set 15 (.v (vs (eL (nO x))))).set 16 (.v (.list [vn (nO x)])),G):=by
 have hop:=tG (cZ (x:=x)).1 cZ.2;have hpx:aq aa (aj aa aG 11) (.sub (.v 13) (.bin .Add (.bin .Mult (.c (.c (.int 2))) (.v 5)) (.c (.c (.int 2))))) e G=some (vs (mQ (eL (nO x)) t),G):=br (w:=vn (2*i+2)) (aK Kf) (aJ (v:=vn (2*i)) (w:=vn 2) (aJ (v:=vn 2) (w:=vn i) cI (aK h5) (jB (by decide))) cI bV) hp;refine bx (ss (bg (KO hpx ht)) (bx (ss (bg (Fo (x:=x) Sg OO hr)) (bx (ss (fX (v:=.c (.bool false)) (bU (v:=.list [vn (nO x)]) (w:=.list [vn (nO x)]) (aK Pp) (bT (ah (gO (v:=.c (.gd 112)) (m:=.get aU) (r:=[vs (eL (nO x))]) cI (by kernel_rfl) (ah (aK Sh) aC) ?_) aC) rfl) ?_) rfl rfl) rfl)))))
 ·show some ((look aU (st (eL (nO x)))).getD (.c .none),G)=_
  rw[hop.2.2.2];rfl
 ·have t:toPy (.list [vn (nO x)])=some (.list [pI (nO x)]):=rfl
  show Option.map not (Option.bind (toPy (.list [vn (nO x)])) fun a=>Option.bind (toPy (.list [vn (nO x)])) fun b=>if SeqAt.shaped a=true/\SeqAt.shaped b=true then some (PyData.eqv a b)else none)=_
  rw[t,Option.bind_some,Option.bind_some,if_pos ⟨rfl,rfl⟩];show some (!(((nO x:Int)==nO x)&&true))=_;rw[beq_self_eq_true];rfl
noncomputable abbrev E0 (s:V):En:=[.v s,.no,.no,.no,.no,.no,.no,.no,.no,.no,.no,.no,.no,.no,.no,.no,.no,.no,.no]
noncomputable abbrev VO (x y:Int):List Nat:=(Gy (val x) (eL (nO x)) (val y) (eL (nO y))).flatten
noncomputable abbrev VP (x y:Int):List (List Nat):=[[60,114,62,60,98,32,118,61],(val x).flatMap eA,mQ (eL (nO x)) Pr,(val y).flatMap eA,mQ (eL (nO y)) Pu]
noncomputable abbrev TX (x:Int):V:=.list ((due (nO x)).map vn)
noncomputable abbrev u7 (s:V) (x y:Int) (k t f:SL):En:=[.v s,.v (.list [vi x,vi y]),.v (.list [vn (nO x),vn (nO y)]),.v (.list [vs (eL (nO x)),vs (eL (nO y))]),.v (.list [vs (fU (fO x)),vs (fU (fO y))]),k,.v (.list [vs (lead (fO x) (nO x)),vs (lead (fO y) (nO y))]),.v (.list [en x,en y]),
 .v (.list [.list ((LL x).map vn),.list ((LL y).map vn)]),.v (.list [TX x,TX y]),.v (.list [vs (val x),vs (val y)]),.v (.list [vs (val x),vs (val y)]),.v (vs (VO x y)),.v (.list ((VP x y).map vs)),.v (.list ((kL x++kL y).map vn)),t,f,.no,.no]
theorem Cp{s:V}{G:Gs}:∃e',aN aa (aj aa aG 11) (nk.body.drop 30) (u7 s x y .no .no .no) G=some (.ret (.c (.bool true)),e',G):=by
 obtain⟨a,b,c,d,PB⟩:=n8 (x:=x);obtain⟨a',b',c',d',PC⟩:=n8 (x:=y);have hl:ie .len [.list ((kL x++kL y).map vn)]=some (vn 8):=by rw[PB,PC];rfl
 have h0:jK (.list ((kL x++kL y).map vn)) (some (vn (4*0))) (some (vn (4*0+4)))=some (.list ((kL x).map vn)):=by rw[PB,PC];rfl
 have h1:jK (.list ((kL x++kL y).map vn)) (some (vn (4*1))) (some (vn (4*1+4)))=some (.list ((kL y).map vn)):=by rw[PB,PC];rfl
 clear PB PC
 let E:Nat->En:=fun k=>match k with
  |0=>u7 s x y .no .no .no
  |1=>u7 s x y (.v (vn 0)) (.v (vs (eL (nO x)))) (.v (.list [vn (nO x)]))
  |_=>u7 s x y (.v (vn 1)) (.v (vs (eL (nO y)))) (.v (.list [vn (nO y)]))
 refine⟨((E 2).set 17 (.v (.c (.bool (nO x==nO y))))).set 18 (.v (.list [.list ((CN (fO x)).map vs),.list ((CN (fO y)).map vs)])),?h⟩
 case h=>
  refine bx (ss (fX (v:=.c (.bool false)) (bU (v:=vn 8) (w:=vi 8) (kE (ah (aK rfl) aC) hl) cI rfl) rfl rfl) ?_);refine bx (ss (nW (E:=E) (H:=fun _=>G) (m:=2) (K:=.jC 0 2 1) (v:=.sp (.jC 0 2 1)) (by kernel_rfl) rfl rfl (by decide) fun k hk=>?_) ?_)
  ·match k,hk with
   |0,_=>exact⟨vn 0,_,rfl,rfl,Co (e:=u7 s x y (.v (vn 0)) .no .no) (i:=0) (x:=x) (z:=x) (t:=Pr) (p:=[]) rfl rfl rfl rfl rfl rfl rfl rfl rfl (by decide) h0⟩
   |1,_=>exact⟨vn 1,_,rfl,rfl,Co (e:=u7 s x y (.v (vn 1)) (.v (vs (eL (nO x)))) (.v (.list [vn (nO x)]))) (i:=1) (x:=y) (z:=x) (t:=Pu) (p:=[]) rfl rfl rfl rfl rfl rfl rfl rfl rfl (by decide) h1⟩
  refine bx (ss (bg (bU (br (v:=.list [vn (nO x),vn (nO y)]) (w:=vi 0) (aK rfl) cI rfl) (br (v:=.list [vn (nO x),vn (nO y)]) (w:=vi 1) (aK rfl) cI rfl) BR)) ?_);refine bx (ss (fX (OM (x:=x) (y:=y) rfl rfl) rfl rfl) ?_);refine bx (ss (bg (f5 rfl (Cn rfl) (Cn rfl))) ?_);exact bx (iD (KR (x:=x) (y:=y) rfl rfl rfl))
theorem Fp{s:V}(hd:aq aa (aj aa aG 11) (.bin .Add (.slc (.v 0) none (some (.c (.c (.int 2))))) (.slc (.list [(.c (.c (.int 3932165))),(.c (.c (.int 474422)))]) (some (.call (.c (.c (.fn .len))) [(.v 0)])) none)) (E0 s) g0=some (.list [vi x,vi y],g0)):
  ∃e' G',aN aa (aj aa aG 11) nk.body (E0 s) g0=some (.ret (.c (.bool true)),e',G'):=by
 have ox:=tG (cZ (x:=x)).1 cZ.2;have oy:=tG (cZ (x:=y)).1 cZ.2;have vx:=mR (x:=x);have vy:=mR (x:=y);obtain⟨z1,G1,OP⟩:=EW vx vy ox.2.1 oy.2.1;obtain⟨z2,OQ⟩:=EY (n:=9) (v:=val x) (w:=val y) (o:=eL (nO x)) (q:=eL (nO y)) (G:=G1) (by omega) (by omega) (by omega) (by omega) (fun c hc=>(ox.2.2.1 c hc).2.1) (fun c hc=>(oy.2.2.1 c hc).2.1);have KS:=Cf (v:=val x) (w:=val y) (o:=eL (nO x)) (q:=eL (nO y)) qT qT (fun c hc=>(ox.2.2.1 c hc).2.2) (fun c hc=>(oy.2.2.1 c hc).2.2);have hlen:=wN (v:=val x) (w:=val y) (o:=eL (nO x)) (q:=eL (nO y)) (by omega) (by omega) (by omega) (by omega);obtain⟨e',hrest⟩:=Cp (x:=x) (y:=y) (s:=s) (G:=G1);refine⟨e',G1,?h⟩
 case h=>
  refine bx (ss (bg hd) (bx (ss (bg (f5 rfl (GO rfl) (GO rfl))) (bx (ss (bg (f5 rfl (OB rfl) (OB rfl))) (bx (ss (bg (f5 rfl (w4 rfl) (w4 rfl))) (bx (ss (bg (iN (Cj rfl rfl rfl rfl rfl) (Cj rfl rfl rfl rfl rfl))) (bx (ss (bg (f5 rfl (GP rfl) (GP rfl))) (bx (ss (bg (iN (Ck rfl rfl rfl rfl rfl) (Ck rfl rfl rfl rfl rfl))) ?_)))))))))))));refine bx (ss (fX (KJ (x:=x) (y:=y) (aK rfl) (iN (tH rfl rfl rfl rfl rfl) (tH rfl rfl rfl rfl rfl))) rfl rfl) ?_);refine bx (ss (bg (f5 rfl w7 w7)) ?_);refine bx (ss (bg (iN (w5 (x:=x) (br (w:=vn 0) (aK rfl) (aK rfl) rfl) (br (w:=vn 0) (aK rfl) (aK rfl) rfl)) (w5 (x:=y) (br (w:=vn 1) (aK rfl) (aK rfl) rfl) (br (w:=vn 1) (aK rfl) (aK rfl) rfl)))) ?_);refine bx (ss (bg (iN (w5 (x:=x) (dW rfl (ah (br (v:=.list [vn (nO x),vn (nO y)]) (w:=vn 0) (aK rfl) (aK rfl) rfl) aC) uW) (br (w:=vn 0) (aK rfl) (aK rfl) rfl)) (w5 (x:=y) (dW rfl (ah (br (v:=.list [vn (nO x),vn (nO y)]) (w:=vn 1) (aK rfl) (aK rfl) rfl) aC) uW) (br (w:=vn 1) (aK rfl) (aK rfl) rfl)))) ?_);refine bx (ss (bg (dW rfl (ah (aK rfl) (ah (aK rfl) aC)) OP)) ?_);refine bx (ss (fX (OH (aK rfl) (dW rfl (ah (aK rfl) (ah (aK rfl) aC)) OQ) rfl) rfl rfl) ?_);refine bx (ss (bg ((w9 (aK rfl) (Nat.le_trans hlen (by decide))).trans (by rw[KS]))) ?_);refine bx (ss (bg (KN (x:=x) (y:=y) (br (w:=vi 1) (aK rfl) cI rfl) (br (w:=vi 3) (aK rfl) cI rfl))) ?_);refine Eq.trans (b:=aN aa (aj aa aG 11) (nk.body.drop 30) (u7 s x y .no .no .no) G1) ?_ hrest
  kernel_rfl
end
end Mine.Internal
end
noncomputable section
open PySem PySem.W PyProof.Rows
namespace Mine.Internal
section
variable{T:aM}{U:aE}{e:En}{G:Gs}
theorem Sj{a hi:X}{v y w:V}(h:aq T U a e G=some (v,G))(h2:aq T U hi e G=some (y,G))(k:jK v none (some y)=some w):aq T U (.slc a none (some hi)) e G=some (w,G):=
 bT (f:=aq T U a e) h (bT (f:=yO T U none e) (v:=none) rfl (bT (f:=yO T U (some hi) e) (v:=some y) (kF h2) (nV k)))
theorem KU{a lo:X}{v y w:V}(h:aq T U a e G=some (v,G))(h2:aq T U lo e G=some (y,G))(k:jK v (some y) none=some w):aq T U (.slc a (some lo) none) e G=some (w,G):=
 bT (f:=aq T U a e) h (bT (f:=yO T U (some lo) e) (v:=some y) (kF h2) (bT (f:=yO T U none e) (v:=none) rfl (nV k)))
end
noncomputable def TY:List Int->Int×Int
 |[]=>(3932165,474422)
 |[x]=>(x,474422)
 |x::y::_=>(x,y)
theorem Cq{l:List Int}(hl:l.length<=63):aq aa (aj aa aG 11) (.bin .Add (.slc (.v 0) none (some (.c (.c (.int 2))))) (.slc (.list [(.c (.c (.int 3932165))),(.c (.c (.int 474422)))]) (some (.call (.c (.c (.fn .len))) [(.v 0)])) none)) (E0 (.list (l.map vi))) g0=some (.list [vi (TY l).1,vi (TY l).2],g0):=by
 have hlen:ie .len [.list (l.map vi)]=some (vn l.length):=by
  show Option.map (fun n=>V.c (.int n)) (if(l.map vi).length<=lim then some ((l.map vi).length:Int)else none)=_
  rw[List.length_map,if_pos (Nat.le_trans hl (by decide))];rfl
 have h1:jK (.list (l.map vi)) none (some (vi 2))=some (.list ((l.map vi).take 2)):=by
  show(if(l.map vi).length<=lim then some (V.list (((l.map vi).drop 0).take (clipAt (l.map vi).length 2 -0)))else none)=_
  rw[if_pos (by rw[List.length_map];exact Nat.le_trans hl (by decide)),List.drop_zero,Nat.sub_zero]
  match l with
  |[]=>rfl
  |[x]=>rfl
  |x::y::r=>
   rw[show clipAt ((x::y::r).map vi).length 2=2 by
    unfold clipAt;simp only[List.length_map,List.length_cons];omega]
 have h2:jK (.list [vi 3932165,vi 474422]) (some (vn l.length)) none=some (.list ([vi 3932165,vi 474422].drop l.length)):=by
  match l with
  |[]=>rfl
  |[x]=>rfl
  |x::y::r=>
   show(if[vi 3932165,vi 474422].length<=lim then some (V.list (([vi 3932165,vi 474422].drop (clipAt 2 ((r.length+1+1:Nat):Int))).take (2 -clipAt 2 ((r.length+1+1:Nat):Int))))else none)=_
   rw[show clipAt 2 ((r.length+1+1:Nat):Int)=2 by unfold clipAt;omega];exact(if_pos (by decide)).trans (by show some (V.list [])=some (V.list (List.drop (r.length) []));rw[List.drop_nil])
 refine aJ (Sj (aK rfl) cI h1) (KU (v:=.list [vi 3932165,vi 474422]) (y:=vn l.length) (by kernel_rfl) (kE (ah (aK rfl) aC) hlen) h2) ?_
 match l with
 |[]=>rfl
 |[x]=>rfl
 |x::y::r=>show binop .Add (.list [vi x,vi y]) (.list (List.drop r.length []))=_;rw[List.drop_nil];rfl
theorem Sk(l:List Int)(hl:l.length<=63):∃z G',aj aa aG 12 332 [.v (.list (l.map vi))] g0=some (.c (.bool true),z,G'):=by obtain⟨e',G',h⟩:=Fp (Cq hl);exact⟨_,G',iF (f:=nk) (e:=E0 (.list (l.map vi))) rfl rfl h rfl⟩
end Mine.Internal
end
noncomputable section
open PySem PySem.W PyProof.Rows
namespace Mine.Internal
/-! iZ heap behind iZ top,as it is found -/
theorem tL{K:Frag}{a:Addr}{o:Obj}(h:K.lookup a=some o):(a,o)∈K:=by
 induction K with
 |nil=>exact xa h
 |cons p K ih=>
  rw[List.lookup_cons]at h;cases hb:(a==p.1)with
  |true=>rw[hb]at h;obtain rfl:=Option.some.inj h;rw[eq_of_beq hb];exact List.mem_cons_self ..
  |false=>rw[hb]at h;exact List.mem_cons_of_mem _ (ih h)
theorem pR{h:Heap}{n tb:Nat}{a:Addr}{o:Obj}(e:(zI h n tb).lookup a=some o):h.get? a=some o/\a≠tb:=by
 obtain⟨b,_,hb⟩:=List.mem_filterMap.mp (tL e);cases hq:Nat.beq b tb with
 |true=>rw[hq]at hb;exact xa hb
 |false=>
  rw[hq]at hb;obtain⟨o',h1,h2⟩:=Option.map_eq_some_iff.mp hb
  (clear e hb;cases h2)
  exact⟨h1,Nat.ne_of_beq_eq_false hq⟩
theorem Cr{h h':Heap}{n tb:Nat}(k:∀b o,h.get? b=some o->h'.get? b=some o):(zI h n tb).In (hideAll h' [tb]):=fun a o e=>
 hideAll_get _ (k a o (pR e).1) fun q=>(pR e).2 (List.mem_singleton.mp q)
/-! what iZ heap says of a def -/
theorem qU{o:Obj}{fd:FuncData}(h:fdOf o=some fd):o.data= .func fd:=by unfold fdOf at h;generalize o.data=d at h;rcases d with⟨⟩ <;> first|exact xa h|exact congrArg Data.func (Option.some.inj h)
theorem qV{b:FuncBody}{l:List Stmt}(h:C9 b=some l):b= .stmts l:=by rcases b with⟨⟩ <;> first|exact xa h|exact congrArg FuncBody.stmts (Option.some.inj h)
theorem Fq{φ:Ph}{v:V}{c:Value}(h:Dc v=some c):VR φ v c:=Internal.bindC h fun k hk h=>by rw[pT hk];rcases k with⟨⟩ <;> (clear hk;cases h) <;> rfl
theorem Ct:∀{l:List V} {cs:List Value},aA Dc l=some cs->∀φ,bz φ l cs
 |[],cs,h,φ=>by obtain rfl:=Option.some.inj h;exact .nil
 |x::l,cs,h,φ=>Internal.bindC h fun c hc h=>ay h fun r hr e=>e▸ .cons (Fq hc) (Ct hr φ)
theorem range_list{l:List Value}:l=(List.range l.length).map fun i=>l.getD i .none:=by
 apply List.ext_getElem?;intro i;rw[List.getElem?_map];by_cases h:i<l.length
 ·rw[List.getElem?_range h,List.getElem?_eq_getElem h]
  simp[List.getD,List.getElem?_eq_getElem h]
 ·rw[List.getElem?_eq_none (by omega),List.getElem?_eq_none (by simp;omega)];rfl
theorem Cu{B:Base}{aF:List Str}{g:bf}{K:Frag}{mg:Str->Option Value}{a:Addr}{f:Fn}(X:K.In B.h)(e:Mb aF g K B.tb a f=Dd f)(he:(Dd f).isSome=true)
  (ht:B.t0=#[])(JU:B.lq=vF++".<locals>."++"<lambda>")(hbm:B.h.BuiltinsAt mg B.tb)(hgP:mainGlobals≠B.tb):∃o fd body M dv kv,oE B aF g K mg a f o fd body M dv kv/\K.lookup a=some o:=by
 obtain⟨r,hr⟩:=Option.isSome_iff_exists.mp he;rw[hr]at e;exact Internal.bindC hr fun dv TZ hr=>Internal.bindC hr fun kv hkv hr=>ak hr fun hnp hr=>Internal.bindC e fun o ho e=>Internal.bindC e fun fd hfd e=>Internal.bindC e fun b hb e=>ak e fun hfl e=>by
  have e:=e.trans hr.symm;obtain⟨e1,e2⟩:=Prod.mk.inj (Option.some.inj e);simp only[zJ,Bool.and_eq_true,Bool.not_eq_true']at hfl;obtain⟨⟨a1,a2⟩,⟨a3,a4⟩,⟨a5,a6⟩,⟨a7,a8⟩,⟨a9,PD⟩,⟨PE,T3⟩,PF,Sl⟩:=hfl;refine⟨o,fd,b,_,dv,kv,⟨a1,X a o ho,qU hfd,codeRec_of X a2,qV hb,List.isEmpty_iff.mp a3,a4,a5,of_decide_eq_true a6,Nat.eq_of_beq_eq_true a7,Nat.eq_of_beq_eq_true a8,fun p hp q=>?_,e1,Ct TZ,Ct hkv,Nat.le_of_ble_eq_true PD,dN PE,fun x hx=>?_,fun h0 x hx=>?_,fun hl=>?_,fun s aP hk h1 h2=>kp_binds (fun b o q=>hk b o (X b o q)) fun S=>?_⟩,ho⟩
  ·have :=List.all_eq_true.mp a9 p hp
   rw[q]at this;exact xc this
  ·have :=List.all_eq_true.mp T3 x hx
   rw[Bool.or_eq_true]at this;exact this.imp eq_of_beq eq_of_beq
  ·rw[h0]at PF
   have VQ:f.ns.head?=some x:=by rw[List.head?_eq_getElem?];exact jr hx
   rw[VQ]at PF;exact eq_of_beq PF
  ·rw[L7,show ji fd.scope "parsed_qnames"=true from by rw[ji,hl];rfl]at Sl
   refine anyC Sl fun c hc q=>?_;obtain⟨q1,q2⟩:=Bool.and_eq_true_iff.mp q;have hc:fd.code= .ref c:=by
    unfold vE at hc;split at hc
    ·next q=>(clear he e hr TZ hkv hnp ho hfd hb e1 a1 a3 a4 a5 a6 a7 a8 a9 PD PE T3 PF Sl hl;cases hc);exact q
    ·exact xa hc
   have q2:=of_decide_eq_true q2;refine⟨vF,⟨c,hc,codeHd_of_K X q1⟩,?_,by rw[ht];trivial,by rw[ht];rfl,hbm,hgP,JU⟩;rw[<-q2];exact codeRec_of X a2
  ·have hj:aP.length=f.np -f.df.length+(aP.length+f.df.length -f.np):=by omega
   have :=congrFun (congrFun e2 S) fun i=>aP.getD i .none;have :=congrArg (fun l=>l[aP.length+f.df.length -f.np]?) this;simp only[L8,Ma]at this;rw[List.getElem?_map,List.getElem?_map,List.getElem?_range (by omega)]at this;rw[Option.map_some,Option.map_some,<-hj,<-range_list]at this;exact Option.some.inj this
end Mine.Internal
end
noncomputable section
open PySem PySem.W PyProof.Rows
namespace Mine.Internal
theorem ff{α:Type}:∀{l:List (Addr×Str×α)} {C:Addr} {n:Str} {v:α},aW l C n=some v->(C,n,v)∈l
 |[],_,_,_,h=>xa h
 |e::l,C,n,v,h=>by
  have h:(match Nat.beq e.1 C with|true=>if e.2.1=n then some e.2.2 else aW l C n|false=>aW l C n)=some v:=h
  cases hk:Nat.beq e.1 C with
  |true=>
   rw[hk]at h;by_cases q:e.2.1=n
   ·have h:=(if_pos q).symm.trans h
    rw[<-Nat.eq_of_beq_eq_true hk,<-q,<-Option.some.inj h];exact List.mem_cons_self ..
   ·exact List.mem_cons_of_mem _ (ff ((if_neg q).symm.trans h))
  |false=>rw[hk]at h;exact List.mem_cons_of_mem _ (ff h)
theorem gc{α:Type}:∀{l:List (Addr×α)} {a:Addr} {v:α},cB l a=some v->(a,v)∈l
 |[],_,_,h=>xa h
 |e::l,a,v,h=>by
  have h:(match Nat.beq e.1 a with|true=>some e.2|false=>cB l a)=some v:=h
  cases hk:Nat.beq e.1 a with
  |true=>rw[hk]at h;rw[<-Nat.eq_of_beq_eq_true hk,<-Option.some.inj h];exact List.mem_cons_self ..
  |false=>rw[hk]at h;exact List.mem_cons_of_mem _ (gc h)
theorem tM{α:Type}:∀{l:List (Str×α)} {x:Str} {v:α},look l x=some v->(x,v)∈l
 |[],_,_,h=>xa h
 |e::l,x,v,h=>by
  have h:(if e.1=x then some e.2 else look l x)=some v:=h
  by_cases q:e.1=x
  ·have h:=(if_pos q).symm.trans h
   rw[<-q,<-Option.some.inj h];exact List.mem_cons_self ..
  ·exact List.mem_cons_of_mem _ (tM ((if_neg q).symm.trans h))
/-! what iZ heap says of iZ classes -/
theorem GS{x:Option (Option Value)}{v:Value}(h:x.bind id=some v):x=some (some v):=by
 rcases x with _|y
 ·exact xa h
 ·rw[show y=some v from h]
theorem xe{x:Option (Option Value)}{s:String}(h:HH x s=true):x=some (some (.builtin s)):=anyC h fun v hv q=>by rw[GS hv,eq_of_beq q]
theorem xg{x:Option (Option Value)}{a:Addr}(h:HJ x a=true):x=some (some (.ref a)):=anyC h fun v hv q=>by rw[GS hv,eq_of_beq q]
theorem xh{x:Option (Option Value)}(h:HK x=true):x=some none:=anyC h fun v hv q=>by rw[hv,Option.isNone_iff_eq_none.mp q]
set_option tactic.hygienic true in
theorem yJ{x:Option CFound}{t:Str}(h:zL x=some t):∃k,x=some (.val (.str t k)):=by
 rcases x with _|x
 ·exact xa h
 rcases x with⟨⟩ <;> try(exact xa h)
 rename_i v;rcases v with⟨⟩ <;> first|exact xa h|exact⟨_,congrArg (fun t=>some (CFound.val (.str t _))) (Option.some.inj h)⟩
theorem Cw{B:Base}{T:aM}{K:Frag}(X:K.In B.h)(h1:zK K T.jD=true)(h2:vG K T.ic=true)(h3:vH K T.rF=true)(h4:rQ K T.eU=true):dM B T K:=by
 refine⟨X,fun C n u e=>?_,fun C n f e=>?_,fun C n f e=>?_,fun C n v e=>?_,fun C f e=>?_⟩
 ·have :=List.all_eq_true.mp h1 _ (ff e)
  simp only[Bool.and_eq_true]at this;exact⟨this.1.1,this.1.2,xh this.2.1.1,this.2.1.2,xh this.2.2.1,xe this.2.2.2⟩
 ·have :=List.all_eq_true.mp h2 _ (ff e)
  simp only[Bool.and_eq_true]at this;exact⟨this.1.1.1,xg this.1.1.2,this.1.2.1,this.1.2.2⟩
 ·have :=List.all_eq_true.mp h2 _ (ff e)
  simp only[Bool.and_eq_true,Bool.not_eq_true']at this;exact⟨this.2.1.1,xe this.2.1.2,eq_of_beq this.2.2.1,this.2.2.2⟩
 ·have :=List.all_eq_true.mp h3 _ (ff e)
  clear X h1 h2 h3;obtain⟨a1,a2⟩:=Bool.and_eq_true_iff.mp this;refine anyC a2 fun s hs q=>(yJ (eq_of_beq q)).elim fun k hk=>⟨_,_,fun φ=>?_,a1,hk,rfl⟩;rw[show v= .c (.str s)from bh hs];exact⟨k,rfl⟩
 ·have :=List.all_eq_true.mp h4 _ (gc e)
  simp only[Bool.and_eq_true]at this;exact⟨this.1.1,xg this.1.2,eq_of_beq this.2.1,this.2.2.1,this.2.2.2⟩
/-! T4 -/
theorem xj{o:Obj}{r:Array DictEntry×Nat}(h:De o=some r):o.data= .dict r.1 r.2:=by unfold De at h;generalize o.data=d at h;rcases d with⟨⟩ <;> first|exact xa h|exact congrArg (fun r:Array DictEntry×Nat=>Data.dict r.1 r.2) (Option.some.inj h)
theorem Ft{φ:Ph}{v:Value}{x:V}(h:Mc v=some x):VR φ x v:=by rcases v with⟨⟩ <;> first|exact xa h|exact dU (P:=fun x=>VR φ x _) h ⟨_,rfl⟩
theorem xo{v:Value}{x:Str}(h:HL v=some x):∃t,v= .str x t:=by rcases v with⟨⟩ <;> first|exact xa h|exact⟨_,congrArg (fun x=>Value.str x _) (Option.some.inj h)⟩
theorem Cx{o:Obj}{c:String}(h:zM o c=true):o={cls:=.type c,data:=o.data}:=by obtain⟨a,b,d,e⟩:=o;simp only[zM,Bool.and_eq_true]at h;rw[show a= .type c from eq_of_beq h.1,show b=none from Option.isNone_iff_eq_none.mp h.2.1,show e=#[]from Array.isEmpty_iff.mp h.2.2]
theorem xr{φ:Ph}:∀{es:List (Str×V)} {ds:List DictEntry},aA F2 ds=some (es.map fun e=>(PyData.keyHash φ.P e.1,e.1,e.2))->i9 φ es ds
 |es,[],h=>by
  rcases es with _|⟨_,_⟩
  ·rfl
  ·cases h
 |es,d::ds,h=>Internal.bindC h fun r hr h=>ay h fun l hl h=>by
  rcases es with _|⟨e,es⟩
  ·exact xm h
  ·obtain⟨h1,h2⟩:=List.cons.inj h
   refine Internal.bindC hr fun k hk hr=>ay hr fun v hv q=>?_;have q:=q.trans h1;clear hr h h1;obtain⟨q1,q2⟩:=Prod.mk.inj q;obtain⟨q2,q3⟩:=Prod.mk.inj q2;exact⟨d,ds,rfl,⟨q1,q2▸xo hk,q3▸Ft hv⟩,xr (hl.trans (congrArg some h2))⟩
/-! names of iZ module -/
theorem Cy{K:Frag}{h:Heap}{mg:Str->Option Value}{r:Array DictEntry×Nat}(X:K.In h)(G:h.Ns mainGlobals mg)(e:P6 K=some r)(x:Str):nsFind r.1 x=mg x:=Internal.bindC e fun o ho e=>by obtain⟨o',es',Lk,e1,e2,_,e4⟩:=G;rw[X _ _ ho]at e1;(clear X ho;obtain rfl:=Option.some.inj e1);rw[xj e]at e2;cases e2;exact e4 x
theorem vc{K:Frag}{h:Heap}{mg:Str->Option Value}{r:Array DictEntry×Nat}{gl:List (Str×V)}(X:K.In h)(G:h.Ns mainGlobals mg)(e:P6 K=some r)(hc:gl.all (zN r.1)=true):mH (look gl) mg:=fun x v hx=>by
 have :=eq_of_beq (List.all_eq_true.mp hc _ (tM hx));refine Internal.bindC this fun k hk q=>?_;rw[show v= .c k from pT hk];have e4:=Cy X G e x;clear X G e hc hx this hk;rcases k with _|_|_|_|_|f|a|a
 ·exact xa q
 ·exact xa q
 ·exact xa q
 ·exact xa q
 ·exact xa q
 ·have q:=Option.some.inj q
  simp only[Bool.and_eq_true]at q;exact .inr ⟨e4.symm.trans (Option.isNone_iff_eq_none.mp q.1),of_decide_eq_true q.2.1,_,eq_of_beq q.2.2,fun φ=>rfl⟩
 ·exact .inl ⟨_,e4.symm.trans (eq_of_beq (Option.some.inj q)),fun φ=>rfl⟩
 ·exact .inl ⟨_,e4.symm.trans (eq_of_beq (Option.some.inj q)),fun φ=>rfl⟩
end Mine.Internal
end
noncomputable section
open PySem PySem.W PyProof.Rows
namespace Mine.Internal
theorem qW{o:Obj}{vs:Array Value}(h:zO o=some vs):o.data= .fields vs:=by unfold zO at h;generalize o.data=d at h;rcases d with⟨⟩ <;> first|exact xa h|exact congrArg Data.fields (Option.some.inj h)
theorem Fv{o:Obj}(h:HM o=true):o.data= .plain:=by unfold HM at h;generalize o.data=d at h;rcases d with⟨⟩ <;> first|exact xc h|rfl
theorem OR{o:Obj}(h:P7 o=true):∃t,o.cls= .type "builtin_function_or_method"/\o.data= .fields #[.builtin "str.join",.str ⟨#[]⟩ t]:=by obtain⟨h1,h2⟩:=Bool.and_eq_true_iff.mp h;refine anyC h2 fun vs hvs q=>anyC q fun p hp q=>?_;obtain⟨q1,q2⟩:=Bool.and_eq_true_iff.mp q;obtain⟨t,ht⟩:=xo (eq_of_beq q2);refine⟨t,eq_of_beq h1,?_⟩;have e:=eg (dz hp);rw[qW hvs,e,eq_of_beq q1,ht]
theorem Cz{B:Base}{T:aM}{K:Frag}(X:K.In B.h)(h1:(K.lookup sysModules).isSome=true)(h2:B.wc=T.wc)(h3:(T.aF.all fun n=>(aW T.jD T.wc n).isSome)=true)(h4:(T.oN.all fun p=> !(p.1==sysModules)&&distinct (p.2.map (·.1)))=true)
  (h5:(T.oN.map fun p=>pY K p.1)=T.oN.map fun p=>some (p.2.map fun e=>(PyData.keyHash B.P e.1,e.1,e.2)))(h6:(K.lookup T.jn).any P7=true):dK B T:=by
 refine⟨(Option.isSome_iff_exists.mp h1).imp fun o q=>X _ _ q,h2,fun n hn=>?_,fun a es e=>?_,?_⟩
 ·exact Option.isSome_iff_exists.mp (List.all_eq_true.mp h3 n (List.contains_iff_mem.mp hn))
 ·have hm:=gc e
  have h4:=List.all_eq_true.mp h4 _ hm;simp only[Bool.and_eq_true,Bool.not_eq_true']at h4;have h5:pY K a=_:=List.map_inj_left.mp h5 _ hm;refine⟨h4.1,dN h4.2,Internal.bindC h5 fun o ho h5=>Internal.bindC h5 fun r hr h5=>ak h5 fun hb h5=>⟨r.1,r.2,?_,fun φ hφ=>?_⟩⟩
  ·rw[X _ _ ho,Cx hb,xj hr]
  ·rw[<-hφ]at h5;exact xr h5
 ·exact anyC h6 fun o ho q=>(OR q).elim fun t y=>⟨o,t,X _ _ ho,y.1,y.2⟩
end Mine.Internal
end
noncomputable section
open PySem PySem.W PyProof.Rows
namespace Mine.Internal
/-! iZ lB -/
theorem yK{B:Base}{K:Frag}{a:Addr}{p1 p2 p3 p4 p5 p6 p7 p8 p9 CE:Pos}(X:K.In B.h)(e:zP K a=some (zQ p1 p2 p3 p4 p5 p6 p7 p8 p9 CE,fun u' x y=>some [(("self":Str),x),(("ns_stack":Str),y),(("_reversed":Str),Value.type "reversed")])):nS B K a:=
 Internal.bindC e fun o ho e=>Internal.bindC e fun fd hfd e=>Internal.bindC e fun b hb e=>ak e fun hfl e=>by obtain⟨e1,e2⟩:=Prod.mk.inj (Option.some.inj e);simp only[F3,Bool.and_eq_true,Bool.not_eq_true']at hfl;obtain⟨⟨a1,a2⟩,⟨a3,a4⟩,⟨a5,a6⟩,⟨a7,a8⟩,a9,PD,PE⟩:=hfl;refine⟨o,fd,b,"namespaces","_reversed","ns_stack","self",a1,X a o ho,qU hfd,codeRec_of X a2,qV hb,List.isEmpty_iff.mp a3,a4,a5,of_decide_eq_true a6,e1▸⟨_,_,_,_,_,_,_,_,_,_,rfl⟩,fun p hp q=>?_,eq_of_beq a8,eq_of_beq a9,eq_of_beq PD,eq_of_beq PE,by decide,by decide,by decide,by decide,fun s x y hk=>kp_binds (fun b o q=>hk b o (X b o q)) fun S=>congrFun (congrFun (congrFun e2 S) x) y⟩;have :=List.all_eq_true.mp a7 p hp;rw[q]at this;exact xc this
/-! iZ def Ld is asked within a try -/
theorem CA{B:Base}{aF:List Str}{g:bf}{K:Frag}{mg:Str->Option Value}{pv:Addr}{f:Fn}{bp np ip cp ap:Pos}(F:∃o fd body M dv kv,oE B aF g K mg pv f o fd body M dv kv/\K.lookup pv=some o)(h1:f.np=1)(h2:f.df=[])(h3:f.kd=[])(h4:f.o0=true)(h5:ix f.ns "iterator"=some 0)
  (e:F4 K pv=some (some (F5 bp np ip cp ap),true))(JV:mg "next"=none)(h11:mg "StopIteration"=none):kD B aF g K mg pv:=by
 obtain⟨o,fd,body,M,dv,kv,F,hl⟩:=F;refine Internal.bindC e fun o' ho e=>Internal.bindC e fun fd' hfd e=>Internal.bindC e fun b hb e=>?_;rw[hl]at ho;obtain rfl:=Option.some.inj ho;have q:=(qU hfd).symm.trans F.data;cases q;have q:b=body:=FuncBody.stmts.inj ((qV hb).symm.trans F.j8);obtain⟨e1,e2⟩:=Prod.mk.inj (Option.some.inj e);obtain⟨e2,e3⟩:=Bool.and_eq_true_iff.mp e2;rw[q]at e1;clear q hb;rcases body with _|⟨st,rest⟩
 ·exact xa e1
 ·obtain rfl:=Option.some.inj e1
  exact .mk f o fd _ M dv kv _ _ _ _ _ _ _ _ F h1 h2 h3 h4 h5 rfl (eq_of_beq e2) (eq_of_beq e3) (by decide) JV h11
/-! iZ OA call,by iZ machine -/
theorem qX{h:Heap}{a tb:Addr}{m:Str->Option Value}(x:h.Ns a m)(hne:a≠tb):(hideAll h [tb]).Ns a m:=by obtain⟨o,es,ep,h1,h2⟩:=x;exact⟨o,es,ep,hideAll_get _ h1 fun q=>hne (List.mem_singleton.mp q),h2⟩
theorem qY{h:Heap}{tb:Addr}(x:h.NoLimit)(hne:cStatics≠tb):(hideAll h [tb]).NoLimit:=x.imp fun u' y=>⟨qX y.1 hne,y.2⟩
theorem Fw{s₁ s':Shared}{tb:Addr}{t0:Array Value}(hct:isCodeTable s₁.heap tb)(htb:s₁.heap.get? tb=some (tabObj t0))(k:∀b o,b≠tb->s₁.heap.get? b=some o->s'.heap.get? b=some o)(ht:∃more,s'.heap.get? tb=some (tabObj (t0++more))):OldK s₁.heap s'.heap:=by
 obtain⟨more,ht⟩:=ht;refine⟨fun b o e=>?_,fun b o e=>?_⟩
 ·by_cases hb:b=tb
  ·subst hb
   rw[htb]at e;obtain rfl:=Option.some.inj e;exact .inr (.inl ⟨hct,rfl,t0,more,rfl,ht⟩)
  ·exact .inl (k b o hb e)
 ·by_cases hb:b=tb
  ·subst hb;exact⟨_,ht⟩
  ·exact⟨o,k b o hb e⟩
noncomputable def baseOf (w:World) (s₁:Shared) (tb wc:Addr) (lp:Pos) (lq:Str):Base:={P:=w.params,h:=hideAll s₁.heap [tb],tb:=tb,t0:=#[],os:=s₁.os,fl:=[],lp:=lp,lq:=lq,wc:=wc,sf:=0}
theorem KW{prog:Program}{w:World}{s₁:Shared}{K:Frag}{T:aM}{fa as0 tb:Addr}{lq:Str}{l:List Int}{vs:Array Value}{m n:Nat}{U:aE}{E:Value->Shared->Prop}{G':Gs}{z:SL}{Q:Value->Shared->Prop}
  (OK:fq (baseOf w s₁ tb T.wc T.lp lq) prog w K U n)
  (htb:s₁.heap.get? tb=some (tabObj #[]))(hgens:AllBare s₁.gens)(htk:1<=s₁.toks)(hat:as0≠tb)(ho:s₁.heap.get? as0=some {cls:=.type "list",data:=.seq vs m})(hv:∀φ,bz φ (l.map fun i=>V.c (.int i)) vs.toList)
  (hn:callerA.depth+(2*n+1)<recursionLimit)(hu:callerA.units+8*(2*n+1)+80<cLine)
  (run:U fa [.v (.list (l.map fun i=>V.c (.int i)))] ⟨none,none,0⟩=some (.c (.bool true),z,G'))
  (hQ:∀s',s'.os=s₁.os->AllBare s'.gens->(∀b o,b≠tb->s₁.heap.get? b=some o->s'.heap.get? b=some o)->(∃more,s'.heap.get? tb=some (tabObj (#[]++more)))->Q (.bool true) s'):
  wpAny (model prog w) callerA (call (.ref fa) [.ref as0]) Q E s₁:=by
 have fz:∀b o,b≠tb->s₁.heap.get? b=some o->(hideAll s₁.heap [tb]).get? b=some o:=fun b o hb e=>hideAll_get _ e fun q=>hb (List.mem_singleton.mp q);have I:Inv ((baseOf w s₁ tb T.wc T.lp lq).at [] 0) ⟨w.params,fun b=>(hideAll s₁.heap [tb]).get? b,fun _=>False,none,none,none,fun _=>none⟩ ⟨none,none,0⟩ s₁:=
  ⟨rfl,fun b o e=>of_hideAll _ e,fun b o e=>e,⟨#[],htb,rfl⟩,hideAll_none _ (List.mem_singleton_self _),fun q=>q,fun b q=>q.elim,hgens,rfl,fun env he=>(nomatch he),htk,⟨fun u' q=>(xa q),fun u' q=>(xa q),fun _=>rfl,fun _=>rfl,fun u' u' q=>(xa q)⟩⟩
 refine wpAny_call ((OK fa _ _ _ _ _ run).2 [] 0 callerA _ _ s₁ [.ref as0] ⟨rfl,hn,hu,rfl⟩ I ?_ fun cv az s' Nr st _=>?_)
 ·exact⟨fun L _=>.cons ⟨.ref as0,rfl,⟨as0,vs,m,rfl,fz _ _ hat ho,hv _⟩⟩ .nil,fun z l q hz=>(by cases q;exact xc hz),fun z l q=>(by cases q;exact⟨.inl ⟨_,rfl⟩,fun y hy=>(nomatch hy)⟩)⟩
 ·obtain rfl:=Nr
  refine hQ s' st.inv.os st.inv.gens (fun b o hb e=>st.inv.keep _ _ (st.le.f _ _ (fz b o hb e))) ?_;obtain⟨m,h,_⟩:=st.inv.tab;exact⟨m,h⟩
end Mine.Internal
end
noncomputable section
open PySem PySem.W PyProof.Rows PySem.Calls
namespace Mine.Internal
noncomputable section
noncomputable abbrev PG:OpenRow:=PySem.Challenge.rw_ta0135_02.row
theorem CC{φ:Ph}{vs:List Value}{ns:List Int}(h:IntsAre vs ns):bz φ (ns.map fun i=>V.c (.int i)) vs:=by
 induction h with
 |nil=>exact .nil
 |cons n t _ ih=>exact .cons ⟨t,rfl⟩ ih
theorem CD:(C8.all fun p=>(Dd p.2).isSome)=true:=by kernel_rfl
theorem call2{d:DefRec}{kwd:List (PySem.Str×Expr)}(hdef:defOf qw (Str.ofString "law")=some (d,kwd)):WalkX qw loose (PySem.W.XL qw []) HO exp2 PG.toRowW d kwd fun f vs=>PySem.call f vs:=by
 intro w s₀ s₁ mg mb G Y fa o pm cd doc dV kV ho hd hcd hD hmg hgens args vals as L hpre hlay hrd hwl hlo;have keeps:∀b o,s₀.heap.get? b=some o->s₁.heap.get? b=some o:=L.keeps;have X:(KK s₀).In (hideAll s₁.heap [199]):=Cr keeps;obtain⟨Y1,Y⟩:=Prod.mk.inj (show(_,_)=(_,_)from Y);obtain⟨Y2,Y⟩:=Prod.mk.inj Y;obtain⟨Y3,Y⟩:=Prod.mk.inj Y;obtain⟨Y4,Y5⟩:=Prod.mk.inj Y;simp only[Mf,Mg,Bool.and_eq_true]at Y5;obtain⟨⟨⟨⟨c1,c2⟩,⟨c3,c4⟩,c5,c6⟩,cg⟩,cm,⟨ct,cc⟩,ck,cz⟩:=Y5;refine Ground.open G ?_;intro T B D TE TW;clear hD hcd hd ho
 wrow_args hpre hlay hrd hwl hlo
 obtain⟨hat,hsz⟩:=PySem.W.X.script_at L;have htk:=PySem.W.X.script_toks L rfl;have hob:=PySem.W.X.script_obj L (by assumption);have hI:=(by assumption:IntsAre _ _);refine wq fun Q1 E1 Gm _=>?_;refine anyC cg fun r hr cg=>?_;simp only[Bool.and_eq_true,Option.isNone_iff_eq_none]at cg;obtain⟨⟨g1,g2,g3⟩,g4,g5⟩:=cg;have gH:(hideAll s₁.heap [199]).Ns mainGlobals mg:=qX T.g (by decide);have PI:=Cy X gH hr;have Gr:mg d.name=some (.ref 332):=by rw[defOf_name hdef,<-PI];exact eq_of_beq g4
 obtain rfl:=Value.ref.inj (Option.some.inj (hmg.symm.trans Gr));have tb:s₁.heap.get? 199=some (tabObj #[]):=anyC ct fun o ho q=>by simp only[Bool.and_eq_true]at q;refine anyC q.2.2 fun vs hvs q'=>?_;obtain⟨oc,od,ot,os⟩:=o;have e1:=qW hvs;rw[keeps _ _ ho,show oc= .none from eq_of_beq q.1,show od=none from Option.isNone_iff_eq_none.mp q.2.1.1,show os=#[]from Array.isEmpty_iff.mp q.2.1.2,show ot= .fields vs from e1,Array.isEmpty_iff.mp q']
 have hct:isCodeTable s₁.heap 199:=anyC cc fun o ho q=>by obtain⟨q1,q2⟩:=Bool.and_eq_true_iff.mp q;exact anyC q2 fun vs hvs q'=>⟨201,o,vs,keeps _ _ ho,eq_of_beq q1,qW hvs,eq_of_beq q'⟩
 have hbm:(hideAll s₁.heap [199]).BuiltinsAt mg 199:=anyC cm fun o ho q=>by simp only[Bool.and_eq_true]at q;exact⟨4,o,(PI _).symm.trans (eq_of_beq g5),by decide,by decide,by decide,X _ _ ho,eq_of_beq q.1,eq_of_beq q.2.1,Fv q.2.2⟩
 have HF:∀a f,aG a=some f->∃o fd body M dv kv,oE (baseOf w s₁ 199 aa.wc aa.lp (vF++".<locals>."++"<lambda>")) aa.aF L6 (KK s₀) mg a f o fd body M dv kv/\(KK s₀).lookup a=some o:=fun a f e=>by have e1:=List.map_inj_left.mp Y1 _ (gc e);exact Cu X e1 (List.all_eq_true.mp CD _ (gc e)) rfl rfl hbm (show mainGlobals≠(199:Nat) by decide)
 have OK:=EP (prog:=PG.prog) (w:=w) (F:=aG) rfl (yK X Y3) (CA (HF 111 cA rfl) rfl rfl rfl rfl (by kernel_rfl) Y4 ((PI _).symm.trans g2) ((PI _).symm.trans g3)) rfl
  (Cz X c1 rfl (by kernel_rfl) (by kernel_rfl) Y2 c2) (Cw X c3 c4 c5 c6) ⟨gH,qX T.b (by decide),qY T.nolimit (by decide),T.builtins⟩ (vc X gH hr g1) (fun a f e=>(HF a f e).imp fun o y=>y.imp fun fd y=>y.imp fun b y=>y.imp fun M y=>y.imp fun dv y=>y.imp fun kv y=>y.1) 12
 have key:∀{vs:List Value} {ns:List Int},IntsAre vs ns->¬((63:Nat):Int)<(ns.length:Int)->∃z G',aj aa aG 12 332 [.v (.list (ns.map vi))] g0=some (.c (.bool true),z,G'):=fun u' h=>Sk _ (by omega);obtain⟨z,G',run⟩:=key hI (by assumption);refine KW OK tb (.of_eq hgens) (Nat.le_trans (Nat.le_of_ble_eq_true ck) htk) (by rw[hat];exact Nat.ne_of_gt (Nat.lt_of_lt_of_le (by decide) (Nat.le_of_ble_eq_true cz))) hob (fun φ=>CC hI) (by decide) (by decide) run fun s' hos hge hk ht=>Gm _ _ ?_;refine⟨.inl ⟨_,_,[],rfl,?_,ReadsW.bool true,?_,fun _=>⟨List.nodup_nil,fun a h=>by cases h⟩⟩,Fw hct tb hk ht,hos,hge⟩
 ·intro cls;rfl
 ·wrow_post
end
end Mine.Internal
end
noncomputable section
open PySem PySem.W PyProof.Rows PySem.Calls
namespace Mine.Internal
noncomputable section
theorem said:PySem.Challenge.rw_ta0135_02.wellSaid=true:=(congrFun Fast.te9446332074065402090 _).trans (by kernel_rfl)
theorem Sm:(defOf qw (Str.ofString "law")).map (fun x=>(x.1.params,x.1.body,x.1.scope))=pw.theDef (Str.ofString "law"):=by kernel_rfl
theorem Sn:(defOf qw (Str.ofString "law")).map (fun x=>kwWritten? x.1.params.kwonlyargs x.1.params.kw_defaults)=(defOf qw (Str.ofString "law")).map (fun x=>some x.2):=by kernel_rfl
theorem So:(defOf qw (Str.ofString "law")).isSome=true:=by kernel_rfl
theorem VS:(chainsOk qw&&opensWell pw&&(frees PG.toRowW&&PG.within.isEmpty))=true:=by decide+kernel
theorem fin2:PySem.Challenge.rw_ta0135_02.Holds:=
 holds_law said fun said=>by obtain⟨⟨d,kwd⟩,hd⟩:=Option.isSome_iff_exists.mp So;have h1:=Sm;have h2:=Sn;rw[hd]at h1 h2;exact holds_openX (q:=qw) (loose:=loose) (Xt:=xt) (zT "special-get-raises" Mi HP) (fun s e=>xl_of s (Bool.and_eq_true_iff.mp e).1) PySem.W.XL.keeps hd h1.symm (Option.some.inj h2) (fun s e=>recFacts_of (Bool.and_eq_true_iff.mp e).2) rfl said VS ⟨rfl,rfl,rfl,rfl,rfl,by decide+kernel⟩ (by w_witness2) (call2 hd)
end
end Mine.Internal
end
theorem PySem.Challenge.cw_ta0135_02_holds : PySem.Challenge.rw_ta0135_02.Holds :=
  Mine.Internal.fin2
