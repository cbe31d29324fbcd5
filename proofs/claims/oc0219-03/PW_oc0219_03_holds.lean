import PyProof.Rows.All
import Wide.All
import OpenK.AllK
import Wide.FinOn
import PyProof.DictCompW
import KE.KLam
import KE.KSortTup
import KE.LcSums
import KE.KDictSum
import KE.KEqDict
import PyProof.NeData
import PySem.Challenge.RW_oc0219_03
set_option linter.all false
set_option tactic.hygienic false
set_option genSizeOf false
set_option genInjectivity false
namespace Mine.Internal
theorem ai {α β:Type}{M:PySem.Model}{A:PySem.Around}{E:PySem.Value->PySem.Shared->Prop}{s:PySem.Shared}{m:PySem.Sem α}{f:α->PySem.Sem β}{Q:β->PySem.Shared->Prop}(h:PySem.wpAny M A m (λa s'=>PySem.wpAny M A (f a) Q E s') E s):PySem.wpAny M A (m >>= f) Q E s:=PySem.wpAny_bind h
theorem bo {α:Type}{M:PySem.Model}{A:PySem.Around}{E:PySem.Value->PySem.Shared->Prop}{s:PySem.Shared}{a:α}{Q:α->PySem.Shared->Prop}(h:Q a s):PySem.wpAny M A (pure a) Q E s:=PySem.wpAny_pure h
theorem aJ {α:Type}{M:PySem.Model}{A:PySem.Around}{E:PySem.Value->PySem.Shared->Prop}{s:PySem.Shared}{t:PySem.Sem α}{P Q:α->PySem.Shared->Prop}{E':PySem.Value->PySem.Shared->Prop}(h:PySem.wpAny M A t P E s)(k:∀(a:α)(s:PySem.Shared),P a s->Q a s)(l:∀(e:PySem.Value)(s:PySem.Shared),E e s->E' e s):PySem.wpAny M A t Q E' s:=PySem.wpAny_mono h k l
theorem af {α:Sort _}{a b:α}(h:a=b):b=a:=h.symm
theorem aF {α:Sort _}{a b c:α}(h:a=b)(k:b=c):a=c:=h.trans k
theorem aZ (n:Nat):n<=n:=Nat.le_refl n
theorem bh {a b c:Prop}(h:a\/b)(f:a->c)(g:b->c):c:=h.elim f g
open PySem
theorem e0a1 {p0 p1:Prop}{G:Prop}(h:p0/\p1)(k:p0->p1->G):G:=by obtain ⟨h0,h1⟩:=h;exact k h0 h1
theorem e0a2 {p0 p1 p2:Prop}{G:Prop}(h:p0/\p1/\p2)(k:p0->p1->p2->G):G:=by obtain ⟨h0,h1,h2⟩:=h;exact k h0 h1 h2
theorem e0a3 {p0 p1 p2 p3:Prop}{G:Prop}(h:p0/\p1/\p2/\p3)(k:p0->p1->p2->p3->G):G:=by obtain ⟨h0,h1,h2,h3⟩:=h;exact k h0 h1 h2 h3
theorem e0a4 {p0 p1 p2 p3 p4:Prop}{G:Prop}(h:p0/\p1/\p2/\p3/\p4)(k:p0->p1->p2->p3->p4->G):G:=by obtain ⟨h0,h1,h2,h3,h4⟩:=h;exact k h0 h1 h2 h3 h4
theorem e0a5 {p0 p1 p2 p3 p4 p5:Prop}{G:Prop}(h:p0/\p1/\p2/\p3/\p4/\p5)(k:p0->p1->p2->p3->p4->p5->G):G:=by obtain ⟨h0,h1,h2,h3,h4,h5⟩:=h;exact k h0 h1 h2 h3 h4 h5
theorem e0a6 {p0 p1 p2 p3 p4 p5 p6:Prop}{G:Prop}(h:p0/\p1/\p2/\p3/\p4/\p5/\p6)(k:p0->p1->p2->p3->p4->p5->p6->G):G:=by obtain ⟨h0,h1,h2,h3,h4,h5,h6⟩:=h;exact k h0 h1 h2 h3 h4 h5 h6
theorem e1a0 {bP:Sort _}{p0:bP->Prop}{G:Prop}(h:∃x0,p0 x0)(k:∀x0,p0 x0->G):G:=by obtain ⟨x0,h0⟩:=h;exact k x0 h0
theorem e1a1 {bP:Sort _}{p0 p1:bP->Prop}{G:Prop}(h:∃x0,p0 x0/\p1 x0)(k:∀x0,p0 x0->p1 x0->G):G:=by obtain ⟨x0,h0,h1⟩:=h;exact k x0 h0 h1
theorem e1a2 {bP:Sort _}{p0 p1 p2:bP->Prop}{G:Prop}(h:∃x0,p0 x0/\p1 x0/\p2 x0)(k:∀x0,p0 x0->p1 x0->p2 x0->G):G:=by obtain ⟨x0,h0,h1,h2⟩:=h;exact k x0 h0 h1 h2
theorem e1a3 {bP:Sort _}{p0 p1 p2 p3:bP->Prop}{G:Prop}(h:∃x0,p0 x0/\p1 x0/\p2 x0/\p3 x0)(k:∀x0,p0 x0->p1 x0->p2 x0->p3 x0->G):G:=by obtain ⟨x0,h0,h1,h2,h3⟩:=h;exact k x0 h0 h1 h2 h3
theorem e1a4 {bP:Sort _}{p0 p1 p2 p3 p4:bP->Prop}{G:Prop}(h:∃x0,p0 x0/\p1 x0/\p2 x0/\p3 x0/\p4 x0)(k:∀x0,p0 x0->p1 x0->p2 x0->p3 x0->p4 x0->G):G:=by obtain ⟨x0,h0,h1,h2,h3,h4⟩:=h;exact k x0 h0 h1 h2 h3 h4
theorem e2a0 {bP ch:Sort _}{p0:bP->ch->Prop}{G:Prop}(h:∃x0 x1,p0 x0 x1)(k:∀x0 x1,p0 x0 x1->G):G:=by obtain ⟨x0,x1,h0⟩:=h;exact k x0 x1 h0
theorem e2a1 {bP ch:Sort _}{p0 p1:bP->ch->Prop}{G:Prop}(h:∃x0 x1,p0 x0 x1/\p1 x0 x1)(k:∀x0 x1,p0 x0 x1->p1 x0 x1->G):G:=by obtain ⟨x0,x1,h0,h1⟩:=h;exact k x0 x1 h0 h1
theorem e2a2 {bP ch:Sort _}{p0 p1 p2:bP->ch->Prop}{G:Prop}(h:∃x0 x1,p0 x0 x1/\p1 x0 x1/\p2 x0 x1)(k:∀x0 x1,p0 x0 x1->p1 x0 x1->p2 x0 x1->G):G:=by obtain ⟨x0,x1,h0,h1,h2⟩:=h;exact k x0 x1 h0 h1 h2
theorem e2a3 {bP ch:Sort _}{p0 p1 p2 p3:bP->ch->Prop}{G:Prop}(h:∃x0 x1,p0 x0 x1/\p1 x0 x1/\p2 x0 x1/\p3 x0 x1)(k:∀x0 x1,p0 x0 x1->p1 x0 x1->p2 x0 x1->p3 x0 x1->G):G:=by obtain ⟨x0,x1,h0,h1,h2,h3⟩:=h;exact k x0 x1 h0 h1 h2 h3
theorem e2a4 {bP ch:Sort _}{p0 p1 p2 p3 p4:bP->ch->Prop}{G:Prop}(h:∃x0 x1,p0 x0 x1/\p1 x0 x1/\p2 x0 x1/\p3 x0 x1/\p4 x0 x1)(k:∀x0 x1,p0 x0 x1->p1 x0 x1->p2 x0 x1->p3 x0 x1->p4 x0 x1->G):G:=by obtain ⟨x0,x1,h0,h1,h2,h3,h4⟩:=h;exact k x0 x1 h0 h1 h2 h3 h4
theorem e2a5 {bP ch:Sort _}{p0 p1 p2 p3 p4 p5:bP->ch->Prop}{G:Prop}(h:∃x0 x1,p0 x0 x1/\p1 x0 x1/\p2 x0 x1/\p3 x0 x1/\p4 x0 x1/\p5 x0 x1)(k:∀x0 x1,p0 x0 x1->p1 x0 x1->p2 x0 x1->p3 x0 x1->p4 x0 x1->p5 x0 x1->G):G:=by obtain ⟨x0,x1,h0,h1,h2,h3,h4,h5⟩:=h;exact k x0 x1 h0 h1 h2 h3 h4 h5
theorem e3a0 {bP ch lT:Sort _}{p0:bP->ch->lT->Prop}{G:Prop}(h:∃x0 x1 x2,p0 x0 x1 x2)(k:∀x0 x1 x2,p0 x0 x1 x2->G):G:=by obtain ⟨x0,x1,x2,h0⟩:=h;exact k x0 x1 x2 h0
theorem e3a1 {bP ch lT:Sort _}{p0 p1:bP->ch->lT->Prop}{G:Prop}(h:∃x0 x1 x2,p0 x0 x1 x2/\p1 x0 x1 x2)(k:∀x0 x1 x2,p0 x0 x1 x2->p1 x0 x1 x2->G):G:=by obtain ⟨x0,x1,x2,h0,h1⟩:=h;exact k x0 x1 x2 h0 h1
theorem e3a2 {bP ch lT:Sort _}{p0 p1 p2:bP->ch->lT->Prop}{G:Prop}(h:∃x0 x1 x2,p0 x0 x1 x2/\p1 x0 x1 x2/\p2 x0 x1 x2)(k:∀x0 x1 x2,p0 x0 x1 x2->p1 x0 x1 x2->p2 x0 x1 x2->G):G:=by obtain ⟨x0,x1,x2,h0,h1,h2⟩:=h;exact k x0 x1 x2 h0 h1 h2
theorem e3a3 {bP ch lT:Sort _}{p0 p1 p2 p3:bP->ch->lT->Prop}{G:Prop}(h:∃x0 x1 x2,p0 x0 x1 x2/\p1 x0 x1 x2/\p2 x0 x1 x2/\p3 x0 x1 x2)(k:∀x0 x1 x2,p0 x0 x1 x2->p1 x0 x1 x2->p2 x0 x1 x2->p3 x0 x1 x2->G):G:=by obtain ⟨x0,x1,x2,h0,h1,h2,h3⟩:=h;exact k x0 x1 x2 h0 h1 h2 h3
theorem e3a4 {bP ch lT:Sort _}{p0 p1 p2 p3 p4:bP->ch->lT->Prop}{G:Prop}(h:∃x0 x1 x2,p0 x0 x1 x2/\p1 x0 x1 x2/\p2 x0 x1 x2/\p3 x0 x1 x2/\p4 x0 x1 x2)(k:∀x0 x1 x2,p0 x0 x1 x2->p1 x0 x1 x2->p2 x0 x1 x2->p3 x0 x1 x2->p4 x0 x1 x2->G):G:=by obtain ⟨x0,x1,x2,h0,h1,h2,h3,h4⟩:=h;exact k x0 x1 x2 h0 h1 h2 h3 h4
theorem e4a0 {bP ch lT C8:Sort _}{p0:bP->ch->lT->C8->Prop}{G:Prop}(h:∃x0 x1 x2 x3,p0 x0 x1 x2 x3)(k:∀x0 x1 x2 x3,p0 x0 x1 x2 x3->G):G:=by obtain ⟨x0,x1,x2,x3,h0⟩:=h;exact k x0 x1 x2 x3 h0
theorem e4a1 {bP ch lT C8:Sort _}{p0 p1:bP->ch->lT->C8->Prop}{G:Prop}(h:∃x0 x1 x2 x3,p0 x0 x1 x2 x3/\p1 x0 x1 x2 x3)(k:∀x0 x1 x2 x3,p0 x0 x1 x2 x3->p1 x0 x1 x2 x3->G):G:=by obtain ⟨x0,x1,x2,x3,h0,h1⟩:=h;exact k x0 x1 x2 x3 h0 h1
theorem e4a2 {bP ch lT C8:Sort _}{p0 p1 p2:bP->ch->lT->C8->Prop}{G:Prop}(h:∃x0 x1 x2 x3,p0 x0 x1 x2 x3/\p1 x0 x1 x2 x3/\p2 x0 x1 x2 x3)(k:∀x0 x1 x2 x3,p0 x0 x1 x2 x3->p1 x0 x1 x2 x3->p2 x0 x1 x2 x3->G):G:=by obtain ⟨x0,x1,x2,x3,h0,h1,h2⟩:=h;exact k x0 x1 x2 x3 h0 h1 h2
theorem e4a3 {bP ch lT C8:Sort _}{p0 p1 p2 p3:bP->ch->lT->C8->Prop}{G:Prop}(h:∃x0 x1 x2 x3,p0 x0 x1 x2 x3/\p1 x0 x1 x2 x3/\p2 x0 x1 x2 x3/\p3 x0 x1 x2 x3)(k:∀x0 x1 x2 x3,p0 x0 x1 x2 x3->p1 x0 x1 x2 x3->p2 x0 x1 x2 x3->p3 x0 x1 x2 x3->G):G:=by obtain ⟨x0,x1,x2,x3,h0,h1,h2,h3⟩:=h;exact k x0 x1 x2 x3 h0 h1 h2 h3
theorem e7a0 {bP ch lT C8 Zl Zm Zn:Sort _}{p0:bP->ch->lT->C8->Zl->Zm->Zn->Prop}{G:Prop}(h:∃x0 x1 x2 x3 x4 x5 x6,p0 x0 x1 x2 x3 x4 x5 x6)(k:∀x0 x1 x2 x3 x4 x5 x6,p0 x0 x1 x2 x3 x4 x5 x6->G):G:=by obtain ⟨x0,x1,x2,x3,x4,x5,x6,h0⟩:=h;exact k x0 x1 x2 x3 x4 x5 x6 h0
theorem bx {α:Type _}{a:α}{G:Prop}(h:none=some a):G:=nomatch h
theorem iY {α:Type _}{a:α}{G:Prop}(h:some a=none):G:=nomatch h
theorem qK {G:Prop}(h:false=true):G:=nomatch h
theorem Ru {G:Prop}(h:true=false):G:=nomatch h
theorem bp {α:Type _}{i:Nat}{a:α}{l:List α}(h:l[i]?=some a):∃h:i < l.length,l[i]=a:=List.getElem?_eq_some_iff.mp h
theorem bD {α:Type _}{a b:α}(h:a∈[b]):a=b:=List.mem_singleton.mp h
theorem aU {α:Type _}{l:List α}{i j:Nat}(h:i≠j){a:α}:(l.set i a)[j]?=l[j]?:=List.getElem?_set_ne h
theorem cI {h:Heap}{a:Addr}{o':Obj}(o:Obj)(k:h.get? a=some o'):(h.push o).get? a=some o':=Heap.get?_push_of_some o k
theorem bX {α:Type _}{a:α}{s t:List α}(h:a∈s++t):a∈s\/a∈t:=List.mem_append.mp h
theorem eo {α:Type _}{a:α}{s t:List α}(h:a∈s\/a∈t):a∈s++t:=List.mem_append.mpr h
theorem bJ {α:Type _}{l:List α}{i:Nat}{a:α}(h:l[i]?=some a):a∈l:=List.mem_of_getElem? h
theorem df {α:Type _}{l:List α}{i:Nat}(h:i < l.length):l[i]?=some l[i]:=List.getElem?_eq_getElem h
theorem ct {n m k:Nat}(h:n<=m)(q:m<=k):n<=k:=Nat.le_trans h q
theorem dX {n m k:Nat}(h:n<=m)(q:m < k):n < k:=Nat.lt_of_le_of_lt h q
theorem dO {n m k:Nat}(h:n < m)(q:m<=k):n < k:=Nat.lt_of_lt_of_le h q
theorem dm {n m:Nat}(h:n < m):n<=m:=Nat.le_of_lt h
theorem cA {a b:Nat}(h:a < b):a≠b:=Nat.ne_of_lt h
theorem dP {a b:Nat}(h:b < a):a≠b:=Nat.ne_of_gt h
theorem b8 (n k:Nat):n<=n+k:=Nat.le_add_right n k
theorem dw (h:Heap){o:Obj}(k:o.isFreed=false):(h.push o).get? h.objs.size=some o:=Heap.get?_push_size h k
theorem er {α:Type _}{b:α}{l:List α}{a:α}(h:a∈b::l):a=b\/a∈l:=List.mem_cons.mp h
theorem cj {α:Type _}{β:Type _}{f:α->β}{l:List α}{i:Nat}:(l.map f)[i]?=l[i]?.map f:=List.getElem?_map
theorem I9 {α:Type _}{l:List α}{i:Nat}{a:α}:l.getD i a=l[i]?.getD a:=List.getD_eq_getElem?_getD
theorem et {α:Type _}{s t:List α}{i:Nat}(h:i < s.length):(s++t)[i]?=s[i]?:=List.getElem?_append_left h
theorem gn {α:Type _}{s t:List α}{i:Nat}(h:s.length<=i):(s++t)[i]?=t[i - s.length]?:=List.getElem?_append_right h
theorem fy {α:Type _}{β:Type _}{b:β}{f:α->β}{l:List α}(h:b∈l.map f):∃a,a∈l/\f a=b:=List.mem_map.mp h
theorem eK {α:Type _}{β:Type _}{b:β}{f:α->β}{l:List α}(h:∃a,a∈l/\f a=b):b∈l.map f:=List.mem_map.mpr h
theorem qL {α:Type _}{β:Type _}{as:List α}(f:α->β):(as.map f).length=as.length:=List.length_map f
theorem jR {n m:Nat}(h:n<=m)(k:Nat):k+n<=k+m:=Nat.add_le_add_left h k
theorem hX {n m:Nat}(h:n < m)(k:Nat):k+n < k+m:=Nat.add_lt_add_left h k
theorem aX {α:Type _}{a b:α}(h:some a=some b):a=b:=Option.some.inj h
theorem gp {h:Heap}{a:Addr}(k:h.objs.size<=a):h.get? a=none:=Heap.get?_none_of_le k
theorem jS {h:Heap}{a:Addr}{o:Obj}(f:Obj->Obj)(k:h.get? a=some o)(q:(f o).isFreed=false):(h.update a f).get? a=some (f o):=Heap.get?_update_self f k q
theorem nB {α:Type _}{β:Type _}{b:β}{x:Option α}{f:α->β}(h:x.map f=some b):∃a,x=some a/\f a=b:=Option.map_eq_some_iff.mp h
theorem gL {α:Type _}{l:List α}{i:Nat}{a:α}(h:i < l.length):(l.set i a)[i]?=some a:=List.getElem?_set_self h
theorem jT:(false=true)=False:=Bool.false_eq_true
theorem eZ (a b:Bool):((a&&b)=true)=(a=true/\b=true):=Bool.and_eq_true a b
theorem iA (h:Heap)(o:Obj):(h.push o).objs.size=h.objs.size+1:=Heap.size_push h o
@[elab_as_elim] theorem rE {α:Sort _} {a:α} {m:α->Prop} {b:α} (h:b=a) (k:m a):m b:=h▸k
end Mine.Internal
set_option Elab.async false
set_option maxRecDepth 100000
namespace Mine.Internal
section
variable {a b c d e f g:Nat}
theorem mw {a b c:Nat}(h:a<b)(k:b.ble c=true):a<c:=dO h (Nat.le_of_ble_eq_true k)
theorem lU {a b c:Nat}(h:a<b)(k:b.ble c=true):a<=c:=dm (mw h k)
theorem nC:a < b->a<=b:=λx=>dm x
theorem arith1:a+1<=b->a<=b:=λx=>dm x
theorem arith2:a<=a+1:=b8 a 1
theorem vF:0<=(↑a:Int):=by simp +arith
theorem vG:a < a+1:=aZ a.succ
theorem Gg:a < b->b < c->a < c:=λx y=>Nat.lt_trans x y
theorem jf:a≠a+1:=cA Nat.le.refl
theorem jg:a<=a:=aZ a
theorem kQ:a < b->a+1<=b:=λx=>x
theorem mx:¬a < b->b<=a:=λx=>Nat.not_lt.mp x
theorem my:a < 1000->a<=16777216:=λh=>lU h rfl
theorem kR:a<=b->b+1 - (a+1) < b+1 - a:=λh=>Nat.sub_lt_sub_left (Nat.lt_succ_of_le h) (Nat.lt_succ_self a)
theorem mz:1 < 1000:=by decide
theorem mA:a+1≠a:=dP Nat.le.refl
theorem mB:a+2≠a:=dP (dm Nat.le.refl)
theorem mC:a+2≠a+1:=dP Nat.le.refl
theorem mD:a < 1000->(↑a:Int) < 2 ^ 63:=λh=>Int.ofNat_lt.mpr (mw h rfl)
theorem mE:a < 1000->a < 2 ^ 62:=λh=>mw h rfl
theorem mF:a+3 < b->a < b:=λx=>Nat.lt_of_add_right_lt x
theorem pd:a < 2 ^ 63->(↑a:Int) < 9223372036854775808:=λx=>Int.ofNat_lt.mpr x
theorem pe:a≠a+2:=cA (dm Nat.le.refl)
theorem pf:a<=a+2:=b8 a 2
theorem pg:a+2 < b->a+3<=b:=λx=>x
theorem ph:a+3<=b->a≠b:=λh=>cA (ct (jR (by decide:1<=3) a) h)
theorem pj:a < 1000->b<=a->(↑b:Int) < 2 ^ 63:=λh k=>Int.ofNat_lt.mpr (mw (dX k h) rfl)
theorem C9:a<=b->a<=b+1:=λx=>Nat.le.step x
theorem pn:a+(b+1) < c->a+1+b < c:=λh=>Nat.succ_add_eq_add_succ a b▸h
theorem r9:a+20*b < c->d<=b->a+20*d < c:=λh k=>dX (jR (Nat.mul_le_mul_left 20 k) a) h
theorem se:a+b < c->d<=b->a+d < c:=λh k=>dX (jR k a) h
theorem sf:a+1=a+1 - 0:=rfl
theorem sj:a+1≠a+2:=cA Nat.le.refl
theorem so:a+2+1<=a+3:=aZ (a+2+1)
theorem su:a+3≠a:=dP (Nat.lt_succ_of_le (b8 a 2))
theorem sA:a+3≠a+1:=dP (dm Nat.le.refl)
theorem sC:a < 1000->a < 9223372036854775808:=λh=>mw h rfl
theorem sD:a<=a+3:=b8 a 3
theorem sE:a+1=b->a < b:=λx=>x▸Nat.succ_le_of_lt Nat.le.refl
theorem sF:a+4<=b->b≠a:=λh=>dP (ct (jR (by decide:1<=4) a) h)
theorem sG:a+4<=b->b≠a+1:=λh=>dP (ct (jR (by decide:2<=4) a) h)
theorem sH:a < b+1->¬a < b->a=b:=λx y=>Nat.eq_of_lt_succ_of_not_lt x y
theorem sI:a<=b->b<=a->a=b:=λx y=>Nat.le_antisymm x y
theorem sJ:a<=b->¬a < b->a=b:=λh k=>Nat.le_antisymm h (Nat.not_lt.mp k)
theorem sM:a+(b+1) < c->a < c:=λx=>Nat.lt_of_add_right_lt x
theorem sN:a+1<=b/\c<=b->b < 900->a<=16777215:=λh k=>lU (Nat.lt_trans h.1 k) rfl
theorem sO:a+20*(b+1) < c->a+3+20*b < c:=λh=>dX (ct (Nat.le_of_eq (Nat.add_right_comm a 3 (20*b))) (jR (by decide:3<=20) (a+20*b))) h
theorem pq:a+20*b < c->a < c:=λx=>Nat.lt_of_add_right_lt x
theorem sP:a+b+c < 1000->a+(c+b) < 1000:=λh=>Nat.add_comm b c▸Nat.add_assoc a b c▸h
theorem sQ:a+b+c < 1000->c+b<=2 ^ 24:=λh=>lU (dX (Nat.add_comm b c▸Nat.add_assoc a b c▸Nat.le_add_left ..) h) rfl
theorem sR:a < 900->b<=a/\c<=a->b<=16777216:=λh k=>lU (dX k.1 h) rfl
theorem t5 {b:Int}:(↑a:Int)<=b->-2 ^ 63<=b:=λh=>Int.le_trans (Int.le_trans (by decide:(-2^63:Int)<=0) (Int.natCast_nonneg a)) h
theorem t6:a+1<=b->b - a=b - (a+1)+1:=λh=>(Nat.succ_sub_succ b a).symm.trans (Nat.succ_sub h)
theorem t7:a+3<=b->b+1≠a:=λh=>dP (Nat.lt_succ_of_le (ct (b8 a 3) h))
theorem t8:a+3<=b->b+1≠a+1:=λh=>dP (Nat.succ_le_succ (ct (jR (by decide:1<=3) a) h))
theorem t9:a+3<=b->b≠a:=λh=>dP (ct (jR (by decide:1<=3) a) h)
theorem ua:a+4<=b->a+1≠b:=λh=>cA (ct (jR (by decide:2<=4) a) h)
theorem ub:a+4<=b->a≠b:=λh=>cA (ct (jR (by decide:1<=4) a) h)
theorem uc:a+b+c < 1000->a < 1000:=λh=>dX (ct (b8 a b) (b8 ..)) h
theorem ud:a < 1000->b<=a->b+(a - c)<=16777216:=λh k=>lU (dX (Nat.add_le_add k (Nat.sub_le a c)) (Nat.add_lt_add h h)) rfl
theorem ue:a+b+c < 1000->d<=1->c+d<=2 ^ 24:=λh k=>lU (Nat.add_lt_add_of_lt_of_le (dX (Nat.le_add_left c (a+b)) h) k) rfl
theorem zJ:a<=b+1->c<=a+d->c<=b+(d+1):=λh k=>ct k (Nat.succ_add_eq_add_succ b d▸Nat.add_le_add_right h d)
theorem uf:a+b+c < 1000->d+e<=a->d+(c+e) < 1000:=λh k=>by have:=Nat.add_le_add_right k c;rw [Nat.add_right_comm,Nat.add_assoc] at this;exact dX (ct this (Nat.add_le_add_right (b8 a b) c)) h
theorem zK:0 < 1000:=by decide
theorem zL:2 < 1000:=by decide
theorem zM {a:Int}:¬a=1->¬a - 1=0:=by lia
theorem zN:a=0->0=(↑a:Int):=λx=>af x▸rfl
theorem zO:a=6->1 < a:=λh=>h▸(by decide:1 < 6)
theorem zP:a+3 < b->a+1≠b:=λh=>cA (dX (jR (by decide:1<=3) a) h)
theorem zQ:a+3<=b->a≠b+2:=λh=>cA (dO (dO (hX (by decide:0 < 3) a) h) (b8 ..))
theorem zR:a+3<=b->b+2≠a+1:=λh=>dP (dO (hX (by decide:1 < 3) a) (ct h (b8 ..)))
theorem zS:a+3<=b\/b+3<=a->a+1≠b:=λh e=>h.elim (λh=>cA (dO (hX (by decide:1 < 3) a) h) e) λh=>dP (dO (hX (by decide:0 < 3) b) (Nat.le_succ_of_le h)) e
theorem zU:a+3<=b\/b+3<=a->a+1≠b+1:=λh e=>h.elim (λh=>cA (dO (hX (by decide:1 < 3) a) (Nat.le_succ_of_le h)) e) λh=>dP (dO (hX (by decide:1 < 3) b) (Nat.le_succ_of_le h)) e
theorem zV:a+3<=b\/b+3<=a->a+1≠b+2:=λh e=>h.elim (λh=>cA (dO (hX (by decide:1 < 3) a) (ct h (b8 b 2))) e) λh=>dP (dO (hX (by decide:2 < 3) b) (Nat.le_succ_of_le h)) e
theorem zW:a+3<=b\/b+3<=a->a+2≠b:=λh e=>h.elim (λh=>cA (dO (hX (by decide:2 < 3) a) h) e) λh=>dP (dO (hX (by decide:0 < 3) b) (ct h (b8 a 2))) e
theorem zX:a+3<=b\/b+3<=a->a+2≠b+1:=λh e=>h.elim (λh=>cA (dO (hX (by decide:2 < 3) a) (Nat.le_succ_of_le h)) e) λh=>dP (dO (hX (by decide:1 < 3) b) (ct h (b8 a 2))) e
theorem zY:a+3<=b\/b+3<=a->a+2≠b+2:=λh e=>h.elim (λh=>cA (dO (hX (by decide:2 < 3) a) (ct h (b8 b 2))) e) λh=>dP (dO (hX (by decide:2 < 3) b) (ct h (b8 a 2))) e
theorem zZ:a+20*(b+1) < c->a+1+20*b < c:=λh=>dX (ct (Nat.le_of_eq (Nat.add_right_comm a 1 (20*b))) (jR (by decide:1<=20) (a+20*b))) h
theorem z1:a < b->a=c+1\/a=c+2->b<=c->False:=λh k l=>Nat.not_le.mpr (dO h l) (k.elim (λe=>e▸Nat.le_succ c) λe=>e▸b8 c 2)
theorem z2:a=b\/a=b+1\/a=b+2->c<=b->c<=a:=λh k=>ct k (h.elim (λe=>Nat.le_of_eq e.symm) λh=>h.elim (λe=>e▸b8 ..) λe=>e▸b8 ..)
theorem z3:a+(2+b)=c->a+(d+(1+(b - 0)))<=c+d:=by lia
theorem z4:a+1<=b->c+20*b < d->c+1+20*a < d:=λh k=>dX (ct (ct (Nat.le_of_eq (Nat.add_right_comm c 1 (20*a))) (jR (by decide:1<=20) (c+20*a))) (jR (Nat.mul_le_mul_left 20 h) c)) k
theorem z5:a+1<=b->c+1<=d->e - a+(f - c)<=g+1->e - b+(f - d)<=g:=λh k l=>(Nat.lt_or_ge a e).elim (λx=>Nat.le_of_lt_succ (dO (Nat.add_lt_add_of_lt_of_le (Nat.sub_lt_sub_left x h) (Nat.sub_le_sub_left (dm k) f)) l)) λx=>(Nat.lt_or_ge c f).elim (λy=>Nat.le_of_lt_succ (dO (Nat.add_lt_add_of_le_of_lt (Nat.sub_le_sub_left (dm h) e) (Nat.sub_lt_sub_left y k)) l)) λy=>ct (Nat.add_le_add (Nat.le_of_eq (Nat.sub_eq_zero_of_le (ct x (dm h)))) (Nat.le_of_eq (Nat.sub_eq_zero_of_le (ct y (dm k))))) (Nat.zero_le g)
end
end Mine.Internal
namespace Mine.Internal
theorem aH {p0:Prop}{p1:Prop}{p2:Prop}(h0:p0)(h1:p1)(h2:p2):p0/\p1/\p2:=⟨h0,h1,h2⟩
theorem eM {p0:Prop}{p1:Prop}{p2:Prop}{p3:Prop}(h0:p0)(h1:p1)(h2:p2)(h3:p3):p0/\p1/\p2/\p3:=⟨h0,h1,h2,h3⟩
theorem fz {p0:Prop}{p1:Prop}{p2:Prop}{p3:Prop}{p4:Prop}(h0:p0)(h1:p1)(h2:p2)(h3:p3)(h4:p4):p0/\p1/\p2/\p3/\p4:=⟨h0,h1,h2,h3,h4⟩
theorem jh {p0:Prop}{p1:Prop}{p2:Prop}{p3:Prop}{p4:Prop}{p5:Prop}(h0:p0)(h1:p1)(h2:p2)(h3:p3)(h4:p4)(h5:p5):p0/\p1/\p2/\p3/\p4/\p5:=⟨h0,h1,h2,h3,h4,h5⟩
theorem vH {p0:Prop}{p1:Prop}{p2:Prop}{p3:Prop}{p4:Prop}{p5:Prop}{p6:Prop}{p7:Prop}{p8:Prop}(h0:p0)(h1:p1)(h2:p2)(h3:p3)(h4:p4)(h5:p5)(h6:p6)(h7:p7)(h8:p8):p0/\p1/\p2/\p3/\p4/\p5/\p6/\p7/\p8:=⟨h0,h1,h2,h3,h4,h5,h6,h7,h8⟩
theorem fA {p0:Prop}{p1:Prop}{p2:Prop}{p3:α->Prop}(h0:p0)(h1:p1)(h2:p2)(x0:α)(h3:p3 x0):p0/\p1/\p2/\∃x0,p3 x0:=⟨h0,h1,h2,x0,h3⟩
theorem pC {p0:Prop}{p1:Prop}{p2:α->Prop}(h0:p0)(h1:p1)(x0:α)(h2:p2 x0):p0/\p1/\∃x0,p2 x0:=⟨h0,h1,x0,h2⟩
theorem kS {p0:Prop}{p1:Prop}{p2:α->Prop}{p3:α->Prop}{p4:α->Prop}(h0:p0)(h1:p1)(x0:α)(h2:p2 x0)(h3:p3 x0)(h4:p4 x0):p0/\p1/\∃x0,p2 x0/\p3 x0/\p4 x0:=⟨h0,h1,x0,h2,h3,h4⟩
theorem yp {p0:Prop}{p1:α->Prop}(h0:p0)(x0:α)(h1:p1 x0):p0/\∃x0,p1 x0:=⟨h0,x0,h1⟩
theorem oi {p0:Prop}{p1:α->Prop}{p2:α->Prop}(h0:p0)(x0:α)(h1:p1 x0)(h2:p2 x0):p0/\∃x0,p1 x0/\p2 x0:=⟨h0,x0,h1,h2⟩
theorem z6 {p0:Prop}{p1:α->Prop}{p2:α->Prop}{p3:α->Prop}(h0:p0)(x0:α)(h1:p1 x0)(h2:p2 x0)(h3:p3 x0):p0/\∃x0,p1 x0/\p2 x0/\p3 x0:=⟨h0,x0,h1,h2,h3⟩
theorem bQ {p0:α->Prop}(x0:α)(h0:p0 x0):∃x0,p0 x0:=⟨x0,h0⟩
theorem ae {p0:α->Prop}{p1:α->Prop}(x0:α)(h0:p0 x0)(h1:p1 x0):∃x0,p0 x0/\p1 x0:=⟨x0,h0,h1⟩
theorem a9 {p0:α->Prop}{p1:α->Prop}{p2:α->Prop}(x0:α)(h0:p0 x0)(h1:p1 x0)(h2:p2 x0):∃x0,p0 x0/\p1 x0/\p2 x0:=⟨x0,h0,h1,h2⟩
theorem hZ {p0:α->Prop}{p1:α->Prop}{p2:α->Prop}{p3:α->Prop}(x0:α)(h0:p0 x0)(h1:p1 x0)(h2:p2 x0)(h3:p3 x0):∃x0,p0 x0/\p1 x0/\p2 x0/\p3 x0:=⟨x0,h0,h1,h2,h3⟩
theorem dz {p0:α->Prop}{p1:α->Prop}{p2:α->β->Prop}(x0:α)(h0:p0 x0)(h1:p1 x0)(x1:β)(h2:p2 x0 x1):∃x0,p0 x0/\p1 x0/\∃x1,p2 x0 x1:=⟨x0,h0,h1,x1,h2⟩
theorem jU {p0:α->Prop}{p1:α->β->Prop}{p2:α->β->Prop}{p3:α->β->Prop}{p4:α->β->Prop}(x0:α)(h0:p0 x0)(x1:β)(h1:p1 x0 x1)(h2:p2 x0 x1)(h3:p3 x0 x1)(h4:p4 x0 x1):∃x0,p0 x0/\∃x1,p1 x0 x1/\p2 x0 x1/\p3 x0 x1/\p4 x0 x1:=⟨x0,h0,x1,h1,h2,h3,h4⟩
theorem kT {p0:α->Prop}{p1:α->β->γ->δ->Prop}{p2:α->β->γ->δ->Prop}{p3:α->β->γ->δ->Prop}(x0:α)(h0:p0 x0)(x1:β)(x2:γ)(x3:δ)(h1:p1 x0 x1 x2 x3)(h2:p2 x0 x1 x2 x3)(h3:p3 x0 x1 x2 x3):∃x0,p0 x0/\∃x1 x2 x3,p1 x0 x1 x2 x3/\p2 x0 x1 x2 x3/\p3 x0 x1 x2 x3:=⟨x0,h0,x1,x2,x3,h1,h2,h3⟩
theorem jV {p0:α->Prop}{p1:α->β->γ->δ->ε->Prop}{p2:α->β->γ->δ->ε->Prop}{p3:α->β->γ->δ->ε->Prop}{p4:α->β->γ->δ->ε->Prop}{p5:α->β->γ->δ->ε->Prop}{p6:α->β->γ->δ->ε->Prop}{p7:α->β->γ->δ->ε->Prop}(x0:α)(h0:p0 x0)(x1:β)(x2:γ)(x3:δ)(x4:ε)(h1:p1 x0 x1 x2 x3 x4)(h2:p2 x0 x1 x2 x3 x4)(h3:p3 x0 x1 x2 x3 x4)(h4:p4 x0 x1 x2 x3 x4)(h5:p5 x0 x1 x2 x3 x4)(h6:p6 x0 x1 x2 x3 x4)(h7:p7 x0 x1 x2 x3 x4):∃x0,p0 x0/\∃x1 x2 x3 x4,p1 x0 x1 x2 x3 x4/\p2 x0 x1 x2 x3 x4/\p3 x0 x1 x2 x3 x4/\p4 x0 x1 x2 x3 x4/\p5 x0 x1 x2 x3 x4/\p6 x0 x1 x2 x3 x4/\p7 x0 x1 x2 x3 x4:=⟨x0,h0,x1,x2,x3,x4,h1,h2,h3,h4,h5,h6,h7⟩
theorem z7 {p0:α->β->Prop}(x0:α)(x1:β)(h0:p0 x0 x1):∃x0 x1,p0 x0 x1:=⟨x0,x1,h0⟩
theorem dY {p0:α->β->Prop}{p1:α->β->Prop}(x0:α)(x1:β)(h0:p0 x0 x1)(h1:p1 x0 x1):∃x0 x1,p0 x0 x1/\p1 x0 x1:=⟨x0,x1,h0,h1⟩
theorem ck {p0:α->β->Prop}{p1:α->β->Prop}{p2:α->β->Prop}(x0:α)(x1:β)(h0:p0 x0 x1)(h1:p1 x0 x1)(h2:p2 x0 x1):∃x0 x1,p0 x0 x1/\p1 x0 x1/\p2 x0 x1:=⟨x0,x1,h0,h1,h2⟩
theorem dA {p0:α->β->Prop}{p1:α->β->Prop}{p2:α->β->Prop}{p3:α->β->Prop}(x0:α)(x1:β)(h0:p0 x0 x1)(h1:p1 x0 x1)(h2:p2 x0 x1)(h3:p3 x0 x1):∃x0 x1,p0 x0 x1/\p1 x0 x1/\p2 x0 x1/\p3 x0 x1:=⟨x0,x1,h0,h1,h2,h3⟩
theorem jW {p0:α->β->γ->Prop}{p1:α->β->γ->Prop}(x0:α)(x1:β)(x2:γ)(h0:p0 x0 x1 x2)(h1:p1 x0 x1 x2):∃x0 x1 x2,p0 x0 x1 x2/\p1 x0 x1 x2:=⟨x0,x1,x2,h0,h1⟩
theorem eT {p0:α->β->γ->Prop}{p1:α->β->γ->Prop}{p2:α->β->γ->Prop}(x0:α)(x1:β)(x2:γ)(h0:p0 x0 x1 x2)(h1:p1 x0 x1 x2)(h2:p2 x0 x1 x2):∃x0 x1 x2,p0 x0 x1 x2/\p1 x0 x1 x2/\p2 x0 x1 x2:=⟨x0,x1,x2,h0,h1,h2⟩
theorem gq {p0:α->β->γ->Prop}{p1:α->β->γ->Prop}{p2:α->β->γ->Prop}{p3:α->β->γ->Prop}(x0:α)(x1:β)(x2:γ)(h0:p0 x0 x1 x2)(h1:p1 x0 x1 x2)(h2:p2 x0 x1 x2)(h3:p3 x0 x1 x2):∃x0 x1 x2,p0 x0 x1 x2/\p1 x0 x1 x2/\p2 x0 x1 x2/\p3 x0 x1 x2:=⟨x0,x1,x2,h0,h1,h2,h3⟩
theorem iZ {p0:α->β->γ->Prop}{p1:α->β->γ->Prop}{p2:α->β->γ->Prop}{p3:α->β->γ->Prop}{p4:α->β->γ->Prop}(x0:α)(x1:β)(x2:γ)(h0:p0 x0 x1 x2)(h1:p1 x0 x1 x2)(h2:p2 x0 x1 x2)(h3:p3 x0 x1 x2)(h4:p4 x0 x1 x2):∃x0 x1 x2,p0 x0 x1 x2/\p1 x0 x1 x2/\p2 x0 x1 x2/\p3 x0 x1 x2/\p4 x0 x1 x2:=⟨x0,x1,x2,h0,h1,h2,h3,h4⟩
theorem ji {p0:α->β->γ->Prop}{p1:α->β->γ->Prop}{p2:α->β->γ->Prop}{p3:α->β->γ->Prop}{p4:α->β->γ->Prop}{p5:α->β->γ->Prop}(x0:α)(x1:β)(x2:γ)(h0:p0 x0 x1 x2)(h1:p1 x0 x1 x2)(h2:p2 x0 x1 x2)(h3:p3 x0 x1 x2)(h4:p4 x0 x1 x2)(h5:p5 x0 x1 x2):∃x0 x1 x2,p0 x0 x1 x2/\p1 x0 x1 x2/\p2 x0 x1 x2/\p3 x0 x1 x2/\p4 x0 x1 x2/\p5 x0 x1 x2:=⟨x0,x1,x2,h0,h1,h2,h3,h4,h5⟩
theorem i4 {p0:α->β->γ->δ->Prop}{p1:α->β->γ->δ->Prop}{p2:α->β->γ->δ->Prop}{p3:α->β->γ->δ->Prop}(x0:α)(x1:β)(x2:γ)(x3:δ)(h0:p0 x0 x1 x2 x3)(h1:p1 x0 x1 x2 x3)(h2:p2 x0 x1 x2 x3)(h3:p3 x0 x1 x2 x3):∃x0 x1 x2 x3,p0 x0 x1 x2 x3/\p1 x0 x1 x2 x3/\p2 x0 x1 x2 x3/\p3 x0 x1 x2 x3:=⟨x0,x1,x2,x3,h0,h1,h2,h3⟩
theorem jj {p0:α->β->γ->δ->Prop}{p1:α->β->γ->δ->Prop}{p2:α->β->γ->δ->Prop}{p3:α->β->γ->δ->Prop}{p4:α->β->γ->δ->Prop}{p5:α->β->γ->δ->Prop}{p6:α->β->γ->δ->Prop}(x0:α)(x1:β)(x2:γ)(x3:δ)(h0:p0 x0 x1 x2 x3)(h1:p1 x0 x1 x2 x3)(h2:p2 x0 x1 x2 x3)(h3:p3 x0 x1 x2 x3)(h4:p4 x0 x1 x2 x3)(h5:p5 x0 x1 x2 x3)(h6:p6 x0 x1 x2 x3):∃x0 x1 x2 x3,p0 x0 x1 x2 x3/\p1 x0 x1 x2 x3/\p2 x0 x1 x2 x3/\p3 x0 x1 x2 x3/\p4 x0 x1 x2 x3/\p5 x0 x1 x2 x3/\p6 x0 x1 x2 x3:=⟨x0,x1,x2,x3,h0,h1,h2,h3,h4,h5,h6⟩
theorem z8 {p0:Prop}{p1:Prop}{p2:Prop}{p3:Prop}{p4:Prop}{p5:Prop}{p6:Prop}(h0:p0)(h1:p1)(h2:p2)(h3:p3)(h4:p4)(h5:p5)(h6:p6):p0/\p1/\p2/\p3/\p4/\p5/\p6:=⟨h0,h1,h2,h3,h4,h5,h6⟩
theorem pD {p0:Prop}{p1:Prop}{p2:Prop}{p3:Prop}{p4:Prop}{p5:Prop}{p6:Prop}{p7:Prop}{p8:Prop}{p9:Prop}{Da:Prop}{Ja:Prop}{Jb:Prop}(h0:p0)(h1:p1)(h2:p2)(h3:p3)(h4:p4)(h5:p5)(h6:p6)(h7:p7)(h8:p8)(h9:p9)(CS:Da)(Db:Ja)(Dc:Jb):p0/\p1/\p2/\p3/\p4/\p5/\p6/\p7/\p8/\p9/\Da/\Ja/\Jb:=⟨h0,h1,h2,h3,h4,h5,h6,h7,h8,h9,CS,Db,Dc⟩
theorem lB {p0:Prop}{p1:Prop}{p2:Prop}{p3:Prop}{p4:Prop}{p5:Prop}{p6:Prop}{p7:Prop}{p8:Prop}{p9:Prop}{Da:Prop}{Ja:Prop}{Jb:Prop}{Xs:Prop}{Xu:Prop}{Xv:Prop}{Xw:Prop}{Xx:Prop}(h0:p0)(h1:p1)(h2:p2)(h3:p3)(h4:p4)(h5:p5)(h6:p6)(h7:p7)(h8:p8)(h9:p9)(CS:Da)(Db:Ja)(Dc:Jb)(Jc:Xs)(QH:Xu)(Jd:Xv)(Rv:Xw)(Rw:Xx):p0/\p1/\p2/\p3/\p4/\p5/\p6/\p7/\p8/\p9/\Da/\Ja/\Jb/\Xs/\Xu/\Xv/\Xw/\Xx:=⟨h0,h1,h2,h3,h4,h5,h6,h7,h8,h9,CS,Db,Dc,Jc,QH,Jd,Rv,Rw⟩
theorem z9 {bP:Sort _}{p0:Prop}{p1:Prop}{p2:bP->Prop}{p3:bP->Prop}(h0:p0)(h1:p1)(x0:bP)(h2:p2 x0)(h3:p3 x0):p0/\p1/\(∃x0,p2 x0/\p3 x0):=⟨h0,h1,x0,h2,h3⟩
theorem Gh {bP ch:Sort _}{p0:Prop}{p1:Prop}{p2:bP->ch->Prop}(h0:p0)(h1:p1)(x0:bP)(x1:ch)(h2:p2 x0 x1):p0/\p1/\(∃x0,∃x1,p2 x0 x1):=⟨h0,h1,x0,x1,h2⟩
theorem jX {bP ch:Sort _}{p0:Prop}{p1:Prop}{p2:bP->ch->Prop}{p3:bP->ch->Prop}{p4:bP->ch->Prop}{p5:bP->ch->Prop}{p6:bP->ch->Prop}{p7:bP->ch->Prop}(h0:p0)(h1:p1)(x0:bP)(x1:ch)(h2:p2 x0 x1)(h3:p3 x0 x1)(h4:p4 x0 x1)(h5:p5 x0 x1)(h6:p6 x0 x1)(h7:p7 x0 x1):p0/\p1/\(∃x0,∃x1,p2 x0 x1/\p3 x0 x1/\p4 x0 x1/\p5 x0 x1/\p6 x0 x1/\p7 x0 x1):=⟨h0,h1,x0,x1,h2,h3,h4,h5,h6,h7⟩
theorem Dd {bP:Sort _}{p0:Prop}{p1:bP->Prop}{p2:bP->Prop}{p3:bP->Prop}{p4:bP->Prop}(h0:p0)(x0:bP)(h1:p1 x0)(h2:p2 x0)(h3:p3 x0)(h4:p4 x0):p0/\(∃x0,p1 x0/\p2 x0/\p3 x0/\p4 x0):=⟨h0,x0,h1,h2,h3,h4⟩
theorem Aa {bP:Sort _}{p0:Prop}{p1:bP->Prop}{p2:bP->Prop}{p3:bP->Prop}{p4:bP->Prop}{p5:bP->Prop}(h0:p0)(x0:bP)(h1:p1 x0)(h2:p2 x0)(h3:p3 x0)(h4:p4 x0)(h5:p5 x0):p0/\(∃x0,p1 x0/\p2 x0/\p3 x0/\p4 x0/\p5 x0):=⟨h0,x0,h1,h2,h3,h4,h5⟩
theorem De {bP:Sort _}{p0:bP->Prop}{p1:bP->Prop}{p2:bP->Prop}{p3:bP->Prop}{p4:bP->Prop}(x0:bP)(h0:p0 x0)(h1:p1 x0)(h2:p2 x0)(h3:p3 x0)(h4:p4 x0):∃x0,p0 x0/\p1 x0/\p2 x0/\p3 x0/\p4 x0:=⟨x0,h0,h1,h2,h3,h4⟩
theorem Ab {bP ch:Sort _}{p0:bP->ch->Prop}{p1:bP->ch->Prop}{p2:bP->ch->Prop}{p3:bP->ch->Prop}{p4:bP->ch->Prop}(x0:bP)(x1:ch)(h0:p0 x0 x1)(h1:p1 x0 x1)(h2:p2 x0 x1)(h3:p3 x0 x1)(h4:p4 x0 x1):∃x0,∃x1,p0 x0 x1/\p1 x0 x1/\p2 x0 x1/\p3 x0 x1/\p4 x0 x1:=⟨x0,x1,h0,h1,h2,h3,h4⟩
theorem yq {bP ch:Sort _}{p0:bP->ch->Prop}{p1:bP->ch->Prop}{p2:bP->ch->Prop}{p3:bP->ch->Prop}{p4:bP->ch->Prop}{p5:bP->ch->Prop}(x0:bP)(x1:ch)(h0:p0 x0 x1)(h1:p1 x0 x1)(h2:p2 x0 x1)(h3:p3 x0 x1)(h4:p4 x0 x1)(h5:p5 x0 x1):∃x0,∃x1,p0 x0 x1/\p1 x0 x1/\p2 x0 x1/\p3 x0 x1/\p4 x0 x1/\p5 x0 x1:=⟨x0,x1,h0,h1,h2,h3,h4,h5⟩
theorem ug {bP ch:Sort _}{p0:bP->ch->Prop}{p1:bP->ch->Prop}{p2:bP->ch->Prop}{p3:bP->ch->Prop}{p4:bP->ch->Prop}{p5:bP->ch->Prop}{p6:bP->ch->Prop}{p7:bP->ch->Prop}(x0:bP)(x1:ch)(h0:p0 x0 x1)(h1:p1 x0 x1)(h2:p2 x0 x1)(h3:p3 x0 x1)(h4:p4 x0 x1)(h5:p5 x0 x1)(h6:p6 x0 x1)(h7:p7 x0 x1):∃x0,∃x1,p0 x0 x1/\p1 x0 x1/\p2 x0 x1/\p3 x0 x1/\p4 x0 x1/\p5 x0 x1/\p6 x0 x1/\p7 x0 x1:=⟨x0,x1,h0,h1,h2,h3,h4,h5,h6,h7⟩
theorem lF {bP ch lT:Sort _}{p0:bP->ch->Prop}{p1:bP->ch->Prop}{p2:bP->ch->Prop}{p3:bP->ch->Prop}{p4:bP->ch->Prop}{p5:bP->ch->Prop}{p6:bP->ch->Prop}{p7:bP->ch->lT->Prop}{p8:bP->ch->lT->Prop}(x0:bP)(x1:ch)(h0:p0 x0 x1)(h1:p1 x0 x1)(h2:p2 x0 x1)(h3:p3 x0 x1)(h4:p4 x0 x1)(h5:p5 x0 x1)(h6:p6 x0 x1)(x2:lT)(h7:p7 x0 x1 x2)(h8:p8 x0 x1 x2):∃x0,∃x1,p0 x0 x1/\p1 x0 x1/\p2 x0 x1/\p3 x0 x1/\p4 x0 x1/\p5 x0 x1/\p6 x0 x1/\(∃x2,p7 x0 x1 x2/\p8 x0 x1 x2):=⟨x0,x1,h0,h1,h2,h3,h4,h5,h6,x2,h7,h8⟩
theorem pE {bP ch lT:Sort _}{p0:bP->ch->Prop}{p1:bP->ch->Prop}{p2:bP->ch->Prop}{p3:bP->ch->Prop}{p4:bP->ch->Prop}{p5:bP->ch->Prop}{p6:bP->ch->Prop}{p7:bP->ch->lT->Prop}{p8:bP->ch->lT->Prop}{p9:bP->ch->lT->Prop}(x0:bP)(x1:ch)(h0:p0 x0 x1)(h1:p1 x0 x1)(h2:p2 x0 x1)(h3:p3 x0 x1)(h4:p4 x0 x1)(h5:p5 x0 x1)(h6:p6 x0 x1)(x2:lT)(h7:p7 x0 x1 x2)(h8:p8 x0 x1 x2)(h9:p9 x0 x1 x2):∃x0,∃x1,p0 x0 x1/\p1 x0 x1/\p2 x0 x1/\p3 x0 x1/\p4 x0 x1/\p5 x0 x1/\p6 x0 x1/\(∃x2,p7 x0 x1 x2/\p8 x0 x1 x2/\p9 x0 x1 x2):=⟨x0,x1,h0,h1,h2,h3,h4,h5,h6,x2,h7,h8,h9⟩
theorem Je {bP ch lT:Sort _}{p0:bP->ch->lT->Prop}(x0:bP)(x1:ch)(x2:lT)(h0:p0 x0 x1 x2):∃x0,∃x1,∃x2,p0 x0 x1 x2:=⟨x0,x1,x2,h0⟩
end Mine.Internal
namespace Mine.Internal
open PySem
inductive AV where
 | none
 | bool (b:Bool)
 | int (i:Int)
 | str (x:Str)
 | tup (xs:List AV)
 | lst (xs:List AV)
 | pF (kvs:List (Str×AV))
 | cV (kvs:List (Int×AV))
 | ref (k:Nat)
 | raw (v:Value)
 | bm (cls:String) (f:Value) (self:AV)
 | fn (site:Nat) (Gi:List (Str×AV))
 deriving Inhabited
noncomputable abbrev G:=Addr->Option Obj
noncomputable def aY (vs:List Value)(n:Nat):Obj:={cls:=.type "list",dict:=Option.none,data:=.seq vs.toArray n,slots:=#[]}
noncomputable def iP (vs:List Value):Obj:={cls:=.type "tuple",dict:=Option.none,data:=.seq vs.toArray 0,slots:=#[]}
noncomputable def bj (es:Array DictEntry)(n:Nat):Obj:={cls:=.type "dict",dict:=Option.none,data:=.dict es n,slots:=#[]}
def Df (g:G)(a:Addr)(vs:List Value):Prop:=∃n,g a=some (aY vs n)
def Xy (g:G)(a:Addr)(vs:List Value):Prop:=g a=some (iP vs)
section
variable {prog:Program}{w:World}
inductive nE {K:Type} [DecidableEq K] (knd:KeyKind prog w K)(g:G)(a:Addr)(kvs:List (K×Value)):Prop
 | mk (es:Array DictEntry) (n:Nat) (h1:g a=some (bj es n)) (h2:KeysOf knd es/\Pairs knd es.toList kvs/\(kvs.map (·.1)).Nodup/\(a==sysModules)=false)
noncomputable abbrev sk (prog:Program)(w:World):=_root_.PySem.strKind prog w
noncomputable abbrev ik (prog:Program)(w:World):=_root_.PySem.intKind prog w
end
noncomputable def Ac (w:World):Bool:=w.params.followText "set-order"
inductive Rx (prog:Program)(w:World)(h:Heap)(a:Addr)(L:List Str):Prop
 | mk (o:Obj) (es:Array (Int×Value)) (ep:Nat) (t:SetTable) (h1:h.get? a=some o) (h2:o.ExactSet/\o.data=.set es ep t/\ElemsOf (sk prog w) es.toList/\PyProof.Rows.StrsAre (es.toList.map (·.2)) L/\L.Nodup/\es.size < scanBound/\t.fits es.size=true/\t.led=(!Ac w)/\(L≠[]->t.plain=false))
structure jJ where
 name:Str
 qual:Str
 params:Arguments
 body:FuncBody
 scope:Scope
inductive vI (g:G)(code:Value)(q:Str):Prop
 | mk (cc:Addr) (oc:Obj) (vs:Array Value) (t:Tok) (h1:code=.ref cc) (h2:g cc=some oc) (h3:oc.data=.fields vs/\vs[1]?=some (.str q t))
inductive Ad (h:Heap)(code:Value)(q:Str):Prop
 | mk (cc:Addr) (oc:Obj) (vs:Array Value) (t:Tok) (h1:code=.ref cc) (h2:h.get? cc=some oc) (h0:oc.cls≠.none) (h3:oc.data=.fields vs) (h4:vs[1]?=some (.str q t))
structure vJ (F:G)(cl:List (Str×Addr))(rs:List (Str×Value)):Prop where
 has:∀x r,(x,r)∈rs->∃a oc,cl.lookup x=some a/\F a=some oc/\oc.data=.cell (some r)
 all:∀x a,cl.lookup x=some a->∃oc v,F a=some oc/\oc.cls=.type "cell"/\oc.data=.cell (some v)
 apart:∀x y a,cl.lookup x=some a->cl.lookup y=some a->x=y
theorem vJ.mono (z:vJ F cl rs)(hs:∀b o,F b=some o->F' b=some o):vJ F' cl rs :=
 ⟨λx r m=>e2a2 (z.has x r m) λa oc e1 e2 e3=>(ck a oc e1 (hs _ _ e2) e3),λx a e=>e2a1 (z.all x a e) λoc v e1 e2=>(dY oc v (hs _ _ e1) e2),z.apart⟩
inductive Jf (ay:Nat->jJ)(F:G)(site:Nat)(a:Addr)(rs:List (Str×Value)):Prop
 | mk (o:Obj) (fd:FuncData) (h0:F a=some o) (c1:o.cls=.type "function") (c2:o.dict=Option.none) (c3:o.data=.func fd)
  (e1:fd.name=(ay site).name) (e2:fd.qualname=(ay site).qual) (e3:fd.params=(ay site).params) (e4:fd.body=(ay site).body) (e5:fd.scope=(ay site).scope)
  (e6:fd.globals=mainGlobals) (e7:fd.builtins=builtinsNs) (e8:fd.defaults=.none) (e9:fd.kwdefaults=.none)
  (hc:vI F fd.code fd.qualname) (dL:vJ F fd.closure rs)
theorem Jf.sub (z:Jf ay F site a rs)(hs:∀b o,F b=some o->F' b=some o):Jf ay F' site a rs:=by obtain ⟨o,fd,h0,c1,c2,c3,e1,e2,e3,e4,e5,e6,e7,e8,e9,⟨cc,oc,vs,t,a1,a2,a3⟩,dL⟩:=z;exact ⟨o,fd,hs _ _ h0,c1,c2,c3,e1,e2,e3,e4,e5,e6,e7,e8,e9,⟨cc,oc,vs,t,a1,hs _ _ a2,a3⟩,dL.mono hs⟩
mutual
inductive cu (prog:Program)(w:World)(ay:Nat->jJ)(F:G)(bs:List Addr):AV->Value->Prop
 | none:cu prog w ay F bs .none .none
 | bool (b:Bool):cu prog w ay F bs (.bool b) (.bool b)
 | int (i:Int) (t:Tok):cu prog w ay F bs (.int i) (.int i t)
 | str (x:Str) (t:Tok):cu prog w ay F bs (.str x) (.str x t)
 | tup {xs:List AV} {a:Addr} {vs:List Value}:Xy F a vs->a6 prog w ay F bs xs vs->cu prog w ay F bs (.tup xs) (.ref a)
 | lst {xs:List AV} {a:Addr} {vs:List Value}:Df F a vs->a6 prog w ay F bs xs vs->cu prog w ay F bs (.lst xs) (.ref a)
 | pF {kvs:List (Str×AV)} {a:Addr} {rs:List (Str×Value)}:nE (sk prog w) F a rs->bE prog w ay F bs kvs rs->cu prog w ay F bs (.pF kvs) (.ref a)
 | cV {kvs:List (Int×AV)} {a:Addr} {rs:List (Int×Value)}:nE (ik prog w) F a rs->bF prog w ay F bs kvs rs->cu prog w ay F bs (.cV kvs) (.ref a)
 | ref {k:Nat} {a:Addr}:bs[k]?=some a->cu prog w ay F bs (.ref k) (.ref a)
 | raw (v:Value):cu prog w ay F bs (.raw v) v
 | bm {cls:String} {f:Value} {self:AV} {a:Addr} {r:Value}:F a=some {cls:=.type cls,data:=.fields #[f,r]}->cu prog w ay F bs self r->cu prog w ay F bs (.bm cls f self) (.ref a)
 | fn {site:Nat} {Gi:List (Str×AV)} {a:Addr} {rs:List (Str×Value)}:Jf ay F site a rs->bE prog w ay F bs Gi rs->cu prog w ay F bs (.fn site Gi) (.ref a)
inductive a6 (prog:Program)(w:World)(ay:Nat->jJ)(F:G)(bs:List Addr):List AV->List Value->Prop
 | nil:a6 prog w ay F bs [] []
 | cons {x:AV} {v:Value} {xs:List AV} {vs:List Value}:cu prog w ay F bs x v->a6 prog w ay F bs xs vs->a6 prog w ay F bs (x::xs) (v::vs)
inductive bE (prog:Program)(w:World)(ay:Nat->jJ)(F:G)(bs:List Addr):List (Str×AV)->List (Str×Value)->Prop
 | nil:bE prog w ay F bs [] []
 | cons {n:Str} {x:AV} {v:Value} {xs:List (Str×AV)} {vs:List (Str×Value)}:cu prog w ay F bs x v->bE prog w ay F bs xs vs->bE prog w ay F bs ((n,x)::xs) ((n,v)::vs)
inductive bF (prog:Program)(w:World)(ay:Nat->jJ)(F:G)(bs:List Addr):List (Int×AV)->List (Int×Value)->Prop
 | nil:bF prog w ay F bs [] []
 | cons {n:Int} {x:AV} {v:Value} {xs:List (Int×AV)} {vs:List (Int×Value)}:cu prog w ay F bs x v->bF prog w ay F bs xs vs->bF prog w ay F bs ((n,x)::xs) ((n,v)::vs)
end
section
variable {prog:Program}{w:World}{ay:Nat->jJ}{F F':G}{bs nb:List Addr}
theorem Df.sub (h:Df g a vs)(hs:∀b o,g b=some o->g' b=some o):Df g' a vs :=
 e1a0 h λn e=>(bQ n (hs _ _ e))
theorem nE.sub {K:Type} [DecidableEq K] {knd:KeyKind prog w K}{g g':G}{a:Addr}{kvs:List (K×Value)}(h:nE knd g a kvs)(hs:∀b o,g b=some o->g' b=some o):nE knd g' a kvs :=
 let ⟨es,n,e,r⟩:=h;⟨es,n,hs _ _ e,r⟩
@[reducible] def Ry (prog:Program) (w:World) (ay:Nat->jJ) (F:G) (bs:List Addr) (v:AV) (r:Value):Prop:=match v with
 | .none=>r=.none
 | .bool b=>r=.bool b
 | .int i=>∃t,r=.int i t
 | .str x=>∃t,r=.str x t
 | .raw u=>r=u
 | .ref k=>∃a,r=.ref a/\bs[k]?=some a
 | .tup xs=>∃a vs,r=.ref a/\Xy F a vs/\a6 prog w ay F bs xs vs
 | .lst xs=>∃a vs,r=.ref a/\Df F a vs/\a6 prog w ay F bs xs vs
 | .pF kvs=>∃a rs,r=.ref a/\nE (sk prog w) F a rs/\bE prog w ay F bs kvs rs
 | .cV kvs=>∃a rs,r=.ref a/\nE (ik prog w) F a rs/\bF prog w ay F bs kvs rs
 | .bm cls f self=>∃a q,r=.ref a/\F a=some {cls:=.type cls,data:=.fields #[f,q]}/\cu prog w ay F bs self q
 | .fn site Gi=>∃a rs,r=.ref a/\Jf ay F site a rs/\bE prog w ay F bs Gi rs
theorem cu.inv (h:cu prog w ay F bs v r):Ry prog w ay F bs v r:=by
 cases h with
 | none=>rfl
 | bool=>rfl
 | int=>exact (bQ _ rfl)
 | str=>exact (bQ _ rfl)
 | raw=>rfl
 | ref e=>exact (ae _ rfl e)
 | _=>exact (ck _ _ rfl (‹_›) (‹_›))
@[reducible] def Jg (prog:Program) (w:World) (ay:Nat->jJ) (F:G) (bs:List Addr) (l:List AV) (r:List Value):Prop:=match l with
 | []=>r=[]
 | x::xs=>∃v vs,r=v::vs/\cu prog w ay F bs x v/\a6 prog w ay F bs xs vs
theorem a6.inv (h:a6 prog w ay F bs l r):Jg prog w ay F bs l r:=by
 cases h with
 | nil=>rfl
 | cons=>exact (ck _ _ rfl (‹_›) (‹_›))
@[reducible] def Rz (prog:Program) (w:World) (ay:Nat->jJ) (F:G) (bs:List Addr) (l:List (Str×AV)) (r:List (Str×Value)):Prop:=match l with
 | []=>r=[]
 | p::xs=>∃v vs,r=(p.1,v)::vs/\cu prog w ay F bs p.2 v/\bE prog w ay F bs xs vs
theorem bE.inv (h:bE prog w ay F bs l r):Rz prog w ay F bs l r:=by
 cases h with
 | nil=>rfl
 | cons=>exact (ck _ _ rfl (‹_›) (‹_›))
@[reducible] def RA (prog:Program) (w:World) (ay:Nat->jJ) (F:G) (bs:List Addr) (l:List (Int×AV)) (r:List (Int×Value)):Prop:=match l with
 | []=>r=[]
 | p::xs=>∃v vs,r=(p.1,v)::vs/\cu prog w ay F bs p.2 v/\bF prog w ay F bs xs vs
theorem bF.inv (h:bF prog w ay F bs l r):RA prog w ay F bs l r:=by
 cases h with
 | nil=>rfl
 | cons=>exact (ck _ _ rfl (‹_›) (‹_›))
end
mutual
noncomputable def AV.under (n:Nat):AV->Bool
 | .none=>true
 | .bool _=>true
 | .int _=>true
 | .str _=>true
 | .tup xs=>AV.bL n xs
 | .lst xs=>AV.bL n xs
 | .pF kvs=>AV.jk n kvs
 | .cV kvs=>AV.jl n kvs
 | .ref k=>decide (k < n)
 | .raw _=>true
 | .bm _ _ s=>s.under n
 | .fn _ Gi=>AV.jk n Gi
noncomputable def AV.bL (n:Nat):List AV->Bool
 | []=>true
 | x::xs=>x.under n&&AV.bL n xs
noncomputable def AV.jk (n:Nat):List (Str×AV)->Bool
 | []=>true
 | (_,x)::xs=>x.under n&&AV.jk n xs
noncomputable def AV.jl (n:Nat):List (Int×AV)->Bool
 | []=>true
 | (_,x)::xs=>x.under n&&AV.jl n xs
end
@[simp] theorem uvN {n:Nat}:AV.under n .none=true:=rfl
@[simp] theorem uvB {n:Nat} {b:Bool}:AV.under n (.bool b)=true:=rfl
@[simp] theorem uvI {n:Nat} {i:Int}:AV.under n (.int i)=true:=rfl
@[simp] theorem uvS {n:Nat} {x:Str}:AV.under n (.str x)=true:=rfl
@[simp] theorem Jh {n:Nat} {xs:List AV}:AV.under n (.tup xs)=AV.bL n xs:=rfl
@[simp] theorem IL {n:Nat} {xs:List AV}:AV.under n (.lst xs)=AV.bL n xs:=rfl
@[simp] theorem uvD {n:Nat} {xs:List (Str×AV)}:AV.under n (.pF xs)=AV.jk n xs:=rfl
@[simp] theorem Af {n:Nat} {xs:List (Int×AV)}:AV.under n (.cV xs)=AV.jl n xs:=rfl
@[simp] theorem uvR {n k:Nat}:AV.under n (.ref k)=decide (k < n):=rfl
@[simp] theorem IM {n:Nat}:AV.bL n []=true:=rfl
@[simp] theorem IP {n:Nat} {x:AV} {xs:List AV}:AV.bL n (x::xs)=(x.under n&&AV.bL n xs):=rfl
theorem gC (u:g\/(a&&b)=true):(g\/a=true)/\(g\/b=true) :=
 u.elim (λq=>⟨.inl q,.inl q⟩) λq=>⟨.inr (Bool.and_eq_true_iff.mp q).1,.inr (Bool.and_eq_true_iff.mp q).2⟩
section
variable {prog:Program}{w:World}{ay:Nat->jJ}{F F':G}{bs az nb:List Addr}{g:Prop}{n:Nat}
theorem cu.lift (hs:∀b o,F b=some o->F' b=some o)(hb:∀k a,bs[k]?=some a->(g\/k < n)->az[k]?=some a)(h:cu prog w ay F bs x v):(g\/x.under n=true)->cu prog w ay F' az x v :=
 cu.rec (motive_1:=λx v zz=>(g\/x.under n=true)->cu prog w ay F' az x v) (motive_2:=λx v zz=>(g\/AV.bL n x=true)->a6 prog w ay F' az x v)
  (motive_3:=λx v zz=>(g\/AV.jk n x=true)->bE prog w ay F' az x v) (motive_4:=λx v zz=>(g\/AV.jl n x=true)->bF prog w ay F' az x v)
  (λzz=>.none) (λb zz=>.bool b) (λi t zz=>.int i t) (λx t zz=>.str x t) (λh zz ih u=>.tup (hs _ _ h) (ih u)) (λh zz ih u=>.lst (h.sub hs) (ih u))
  (λh zz ih u=>.pF (h.sub hs) (ih u)) (λh zz ih u=>.cV (h.sub hs) (ih u)) (λh u=>.ref (hb _ _ h (u.imp_right of_decide_eq_true))) (λv zz=>.raw v)
  (λh zz ih u=>.bm (hs _ _ h) (ih u)) (λh zz ih u=>.fn (h.sub hs) (ih u))
  (λzz=>.nil) (λzz zz i1 i2 u=>.cons (i1 (gC u).1) (i2 (gC u).2))
  (λzz=>.nil) (λzz zz i1 i2 u=>.cons (i1 (gC u).1) (i2 (gC u).2))
  (λzz=>.nil) (λzz zz i1 i2 u=>.cons (i1 (gC u).1) (i2 (gC u).2)) h
theorem a6.lift (hs:∀b o,F b=some o->F' b=some o)(hb:∀k a,bs[k]?=some a->(g\/k < n)->az[k]?=some a)(h:a6 prog w ay F bs x v)(u:g\/AV.bL n x=true):a6 prog w ay F' az x v:=by
 induction x generalizing v with
 | nil=>refine rE h.inv ?_;exact .nil
 | cons x xs ih=>refine e2a2 h.inv λzz zz o5 h1 h2=>?_;refine rE o5 ?_;exact .cons (h1.lift hs hb (gC u).1) (ih h2 (gC u).2)
theorem bE.lift (hs:∀b o,F b=some o->F' b=some o)(hb:∀k a,bs[k]?=some a->(g\/k < n)->az[k]?=some a)(h:bE prog w ay F bs x v)(u:g\/AV.jk n x=true):bE prog w ay F' az x v:=by
 induction x generalizing v with
 | nil=>refine rE h.inv ?_;exact .nil
 | cons x xs ih=>refine e2a2 h.inv λzz zz o4 h1 h2=>?_;refine rE o4 ?_;exact .cons (h1.lift hs hb (gC u).1) (ih h2 (gC u).2)
theorem bF.lift (hs:∀b o,F b=some o->F' b=some o)(hb:∀k a,bs[k]?=some a->(g\/k < n)->az[k]?=some a)(h:bF prog w ay F bs x v)(u:g\/AV.jl n x=true):bF prog w ay F' az x v:=by
 induction x generalizing v with
 | nil=>refine rE h.inv ?_;exact .nil
 | cons x xs ih=>refine e2a2 h.inv λzz zz o4 h1 h2=>?_;refine rE o4 ?_;exact .cons (h1.lift hs hb (gC u).1) (ih h2 (gC u).2)
theorem mG {l r:List Addr}(k:Nat)(a:Addr)(h:l[k]?=some a)(_:True\/k < 0):(l++r)[k]?=some a:=by refine rE (et (bp h).1) ?_;exact h
theorem cu.mono (hs:∀b o,F b=some o->F' b=some o)(h:cu prog w ay F bs x v):cu prog w ay F' (bs++nb) x v:=h.lift hs mG (.inl trivial)
theorem a6.mono (hs:∀b o,F b=some o->F' b=some o)(h:a6 prog w ay F bs x v):a6 prog w ay F' (bs++nb) x v:=h.lift hs mG (.inl trivial)
theorem bE.mono (hs:∀b o,F b=some o->F' b=some o)(h:bE prog w ay F bs x v):bE prog w ay F' (bs++nb) x v:=h.lift hs mG (.inl trivial)
theorem bF.mono (hs:∀b o,F b=some o->F' b=some o)(h:bF prog w ay F bs x v):bF prog w ay F' (bs++nb) x v:=h.lift hs mG (.inl trivial)
theorem a6.length (h:a6 prog w ay F bs xs vs):vs.length=xs.length:=by
 induction xs generalizing vs with
 | nil=>refine rE h.inv ?_;rfl
 | cons x xs ih=>refine e2a2 h.inv λzz zz o3 zz h2=>?_;refine rE o3 ?_;exact congrArg Nat.succ (ih h2)
theorem a6.get (h:a6 prog w ay F bs xs vs){i:Nat}(hx:xs[i]?=some x):∃v,vs[i]?=some v/\cu prog w ay F bs x v:=by
 induction xs generalizing vs i with
 | nil=>exact bx hx
 | cons y ys ih =>
   refine e2a2 h.inv λv us o2 h1 h2=>?_;refine rE o2 ?_;cases i with
   | zero=>clear ih;refine (aX hx)▸?_;exact (ae _ rfl h1)
   | succ i=>exact ih h2 hx
theorem a6.append (h:a6 prog w ay F bs xs vs)(h':a6 prog w ay F bs ys us):a6 prog w ay F bs (xs++ys) (vs++us):=by
 induction xs generalizing vs with
 | nil=>refine rE h.inv ?_;exact h'
 | cons y ys ih=>refine e2a2 h.inv λzz zz o1 h1 h2=>?_;refine rE o1 ?_;exact .cons h1 (ih h2)
theorem a6.get_none (h:a6 prog w ay F bs xs vs){i:Nat}(hx:xs[i]?=none):vs[i]?=none:=by rw [List.getElem?_eq_none_iff] at hx ⊢;rw [h.length];exact hx
end
set_option genInjectivity true in
inductive AO where
 | gone
 | list (xs:List AV)
 | aN (kvs:List (Str×AV))
 | bt (kvs:List (Int×AV))
 | sset (S:List Str)
 | inst (c:Addr) (d:Nat)
 | slots (c:Addr) (d:Nat) (vs:List (Option AV))
 | gu (l:AV) (i:Nat)
 | exc (e:Addr) (ob:Obj)
 | eN (f:Option (AV×AV))
 | uset (S:List Str)
 | i5 (S:List Int)
 deriving Inhabited
structure AS where
 loc:List (Nat×AV)
 heap:List AO
structure aP where
 prog:Program
 w:World
 ay:Nat->jJ
 h₀:Heap
 Ji:OsState
 /-- RB tables in Xz RB code objects of inner yr are kept,and RB full names of XA yr by XB place in RB text -/
 tab:Addr->Option (Pos->Str)
section
variable (c:aP)
abbrev aP.V (F:G)(bs:List Addr):AV->Value->Prop:=cu c.prog c.w c.ay F bs
abbrev aP.Vs (F:G)(bs:List Addr):List AV->List Value->Prop:=a6 c.prog c.w c.ay F bs
abbrev aP.IV (F:G)(bs:List Addr):List (Int×AV)->List (Int×Value)->Prop:=bF c.prog c.w c.ay F bs
abbrev aP.SV (F:G)(bs:List Addr):List (Str×AV)->List (Str×Value)->Prop:=bE c.prog c.w c.ay F bs
inductive oj (F:G)(bs:List Addr):List (Option AV)->List (Option Value)->Prop
 | nil:oj F bs [] []
 | no {xs vs}:oj F bs xs vs->oj F bs (.none::xs) (.none::vs)
 | yes {x v xs vs}:c.V F bs x v->oj F bs xs vs->oj F bs (.some x::xs) (.some v::vs)
def fm (F:G)(bs:List Addr)(h:Heap)(a:Addr):AO->Prop
 | .gone=>True
 | .list xs=>∃vs,Df h.get? a vs/\c.Vs F bs xs vs
 | .aN kvs=>∃rs,nE (sk c.prog c.w) h.get? a rs/\c.SV F bs kvs rs
 | .bt kvs=>∃rs,nE (ik c.prog c.w) h.get? a rs/\c.IV F bs kvs rs
 | .sset S=>∃L,Rx c.prog c.w h a L/\L.Perm S
 | .uset S=>h.SetOf (sk c.prog c.w) a (λk=>decide (k∈S)) S.length
 | .i5 S=>h.SetOf (ik c.prog c.w) a (λk=>decide (k∈S)) S.length
 | .inst cl d=>∃da,bs[d]?=some da/\h.get? a=some {cls:=.ref cl,dict:=some da,data:=.plain,slots:=#[]}
 | .slots cl d vs=>∃da rs,bs[d]?=some da/\oj c F bs vs rs/\h.get? a=some {cls:=.ref cl,dict:=some da,data:=.plain,slots:=rs.toArray}
 | .gu l i=>∃la,c.V F bs l (.ref la)/\h.get? a=some {cls:=.type "list_iterator",data:=.fields #[.ref la,.int i 0]}
 | .exc e ob=>a=e/\∃vs,h.get? a=some ob/\ob.cls≠.none/\ob.cls≠.type "frame"/\ob.data=.fields vs/\vs[2]?=some .none
 | .eN none=>∃x y,h.get? a=some {cls:=.type "callable_iterator",data:=.fields #[x,y,.bool true]}
 | .eN (some (f,v))=>∃x y,c.V F bs f x/\c.V F bs v y/\h.get? a=some {cls:=.type "callable_iterator",data:=.fields #[x,y,.bool false]}
structure gD (F:G)(h:Heap):Prop extends OldK c.h₀ h where
 tabs:∀P q,c.tab P=some q->F P=none/\(∃o,c.h₀.get? P=some o)/\∃ps,h.get? P=some {cls:=.none,data:=.fields ps}/\TriplesOk ps.toList /\
  ∀pos v,codeAmong pos ps.toList=some v->∃a o vs t,v=.ref a/\F a=some o/\o.data=.fields vs/\vs[1]?=some (.str (q pos) t)
structure Wd (F:G)(bs:List Addr)(H:List AO)(s:Shared):Prop where
 sub:∀b o,F b=some o->s.heap.get? b=some o
 base:∀b o,c.h₀.get? b=some o->(o.cls≠.none\/b=cStatics)->F b=some o
 old:gD c F s.heap
 len:bs.length=H.length
 nodup:bs.Nodup
 obj:∀(k:Nat) (a:Addr) (o:AO),bs[k]?=some a->H[k]?=some o->fm c F bs s.heap a o/\(o≠.gone->F a=none)
 there:∀a∈bs,∃o,s.heap.get? a=some o
 os:s.os=c.Ji
 gens:s.gens=#[]
 kept:∀a∈bs,∀o,F a=some o->o.cls≠.type "cell"
end
def iB (o o':Obj):Prop:=o'=o\/(o.cls=.type "frame"/\o'.cls=o.cls/\o'.dict=o.dict/\o'.data=o.data)
theorem iB.refl (o:Obj):iB o o:=.inl rfl
theorem iB.trans (x:iB a b)(y:iB b d):iB a d:=by
 (refine bh x (λyt=>?_) (λDg=>?_);clear x;obtain rfl:=yt;rotate_left;refine e0a3 Dg λh1 h2 h3 h4=>?_;clear Dg;rotate_right)
 . exact y
 . (refine bh y (λGj=>?_) (λDh=>?_);clear y;obtain rfl:=Gj;rotate_left;refine e0a3 Dh λk1 k2 k3 k4=>?_;rotate_right)
   . exact .inr (eM h1 h2 h3 h4)
   . exact .inr (eM h1 (k2.trans h2) (k3.trans h3) (k4.trans h4))
theorem iB.data (x:iB a b):b.data=a.data  :=by
 (refine bh x (λGk=>?_) (λGl=>?_);clear x;obtain rfl:=Gk;rotate_left;refine e0a3 Gl λzz zz zz h=>?_;rotate_right)
 . rfl
 . exact h
theorem iB.cls (x:iB a b):b.cls=a.cls  :=by
 (refine bh x (λGm=>?_) (λDi=>?_);clear x;obtain rfl:=Gm;rotate_left;refine e0a3 Di λzz h zz zz=>?_;rotate_right)
 . rfl
 . exact h
theorem iB.pG (x:iB a b)(h:a.cls≠.type "frame"):b=a  :=by
 rcases x with rfl | ⟨k,_⟩
 . rfl
 . exact absurd k h
structure Step (own:List Addr)(F:G)(bs:List Addr)(h:Heap)(F':G)(az:List Addr)(h':Heap):Prop where
 sub:∀b o,F b=some o->F' b=some o
 ext:∃nb,az=bs++nb/\∀a∈nb,h.get? a=none
 mono:∀b o,h.get? b=some o->∃o',h'.get? b=some o'
 dQ:∀b o,h.get? b=some o->b∉own->b∉bs->o.cls≠.none->∃o',h'.get? b=some o'/\iB o o'
 i6:∀b o,F' b=some o->F b=none->h.get? b=none\/b∈bs
theorem Step.refl (own:List Addr)(F:G)(bs:List Addr)(h:Heap):Step own F bs h F bs h :=
 ⟨λzz zz e=>e,(ae [] (by simp) (by simp)),λb o e=>(bQ o e),λb o e zz zz zz=>(ae o e (.refl o)),λb o e n=>by lia⟩
theorem Step.trans (x:Step own F bs h F₁ bs₁ h₁)(y:Step own F₁ bs₁ h₁ aT ax jY):Step own F bs h aT ax jY:=by
 refine e1a1 x.ext λnb RC hn=>?_;obtain rfl:=RC;refine e1a1 y.ext λvB RD gM=>?_;refine rE RD ?_;have new:∀a∈vB,h.get? a=none:=λa ha=>by
  cases e:h.get? a with
  | none=>rfl
  | some o=>refine e1a0 (x.mono _ _ e) λo' e'=>?_;exact bx (aF (af (gM a ha)) e')
 have off:∀b o,h.get? b=some o->b∉bs->b∉bs++nb:=λb o e n m=>by
  (refine bh (bX m) (λm=>?_) (λm=>?_))
  . exact n m
  . exact bx (aF (af (hn b m)) e)
 refine ⟨λb o e=>y.sub _ _ (x.sub _ _ e),(ae (nb++vB) (by simp) (λa ha=>(bX ha).elim (hn a) (new a))),λb o e=>?_,λb o e n1 n2 n3=>?_,λb o e n=>?_⟩
 . refine e1a0 (x.mono _ _ e) λo' e'=>?_;exact y.mono _ _ e'
 . refine e1a1 (x.dQ b o e n1 n2 n3) λo' e' s1=>?_;refine e1a1 (y.dQ b o' e' n1 (off b o e n2) (by refine rE s1.cls ?_;exact n3)) λDj Ae s2=>?_;exact (ae Dj Ae (s1.trans s2))
 . cases e1:F₁ b with
   | some o1=>exact x.i6 b o1 e1 n
   | none =>
     (refine bh (y.i6 b o e e1) (λz=>?_) (λz=>?_))
     . left;cases e2:h.get? b with
       | none=>rfl
       | some o2=>refine e1a0 (x.mono _ _ e2) λo3 e3=>?_;exact bx (aF (af z) e3)
     . (refine bh (bX z) (λz=>?_) (λz=>?_))
       . exact .inr z
       . exact .inl (hn b z)
theorem Step.widen (x:Step own F bs h F' az h')(ho:∀a∈own,a∈own'\/h.get? a=none):Step own' F bs h F' az h' :=
 ⟨x.sub,x.ext,x.mono,λb o e n1 n2 n3=>x.dQ b o e (λm=>(ho b m).elim n1 λz=>by lia) n2 n3,x.i6⟩
theorem Step.fresh (x:Step own F bs h F' az h'):∃nb,az=bs++nb:=e1a1 x.ext λnb e zz=>(bQ nb e)
section
variable {c:aP}{own:List Addr}{F F':G}{bs az:List Addr}{h h':Heap}
theorem Step.V (x:Step own F bs h F' az h')(hv:c.V F bs a v):c.V F' az a v:=by refine e1a1 x.ext λnb Dk zz=>?_;refine rE Dk ?_;exact cu.mono x.sub hv
theorem Step.Vs (x:Step own F bs h F' az h')(hv:c.Vs F bs a v):c.Vs F' az a v:=by refine e1a1 x.ext λnb Gn zz=>?_;refine rE Gn ?_;exact a6.mono x.sub hv
end
structure Cx where
 env:Env
 own:List Addr
 frames:List Env
 handled:Option Value
 n:Nat
 vars:List Str
inductive Jj (h:Heap)(e:Env):Prop
 | mk (L:Addr) (o:Obj) (h1:e.frame=some L) (h2:h.get? L=some o) (h3:o.cls=.type "frame"/\∀vs,o.data≠.fields vs)
structure gg (h:Heap)(e:Env):Prop where
 kind:e.scope.kind≠.module
 at_:Jj h e
structure i7 (C:Cx)(A:Around):Prop where
 handled:A.handled=C.handled
 depth:A.depth+C.n < recursionLimit
 units:A.units+20*C.n < cLine
 frames:A.frames=some C.frames
inductive EZ (c:aP)(env:Env)(F:G)(bs:List Addr)(h:Heap)(x:Str)(v:AV):Prop
 | mk (a:Addr) (o:Obj) (r:Value) (h1:env.cells.lookup x=some a) (h2:h.get? a=some o) (h3:o.data=.cell (some r)/\c.V F bs v r)
inductive Gp (h:Heap)(a:Addr):Prop
 | mk (o:Obj) (h1:h.get? a=some o) (h2:o.cls=.type "cell"/\∃v,o.data=.cell v)
inductive jZ (c:aP)(env:Env)(F:G)(bs:List Addr)(h:Heap)(m:Str->Option Value)(x:Str)(v:AV):Prop
 | loc (hk:env.kindOf x=some .local) (r:Value) (h1:m x=some r) (h2:c.V F bs v r)
 | cell (hk:env.kindOf x=some .cell\/env.kindOf x=some .free) (w:EZ c env F bs h x v)
def iQ (c:aP)(C:Cx)(F:G)(bs:List Addr)(h:Heap)(m:Str->Option Value)(i:Nat)(v:AV):Prop:=∃x,C.vars[i]?=some x/\jZ c C.env F bs h m x v
def Seal (C:Cx)(F:G):Prop:=C.env.func≠none->∀x a,C.env.cells.lookup x=some a->a∈C.own\/∃o r,F a=some o/\o.data=.cell (some r)
theorem Seal.mono (z:Seal C F)(hs:∀b o,F b=some o->F' b=some o):Seal C F':=λh x a e=>(z h x a e).imp id λRE=>e2a1 RE λo r e1 e2=>(dY o r (hs _ _ e1) e2)
structure St (c:aP)(C:Cx)(F:G)(bs:List Addr)(S:AS)(s:Shared):Prop where
 wd:Wd c F bs S.heap s
 locs:∃m,s.heap.Ns C.env.locals m/\∀i v,S.loc.lookup i=some v->iQ c C F bs s.heap m i v
 fV:∃o,s.heap.get? C.env.locals=some o/\o.cls≠.none
 cm:C.env.locals∈C.own
 own:∀a∈C.own,F a=none/\a∉bs/\∃o,s.heap.get? a=some o
 cells:∀x a,C.env.cells.lookup x=some a->a∉bs/\a≠C.env.locals/\Gp s.heap a
 apart:∀x y a,C.env.cells.lookup x=some a->C.env.cells.lookup y=some a->x=y
 frames:∀e∈C.frames,gg s.heap e/\∀L,e.frame=some L->F L=none/\L∉bs
 glob:C.env.globals=mainGlobals
 blt:C.env.builtins=builtinsNs
 kind:C.env.scope.kind=.function
 om:C.vars.Nodup
 fo:Seal C F
section
variable {c:aP}{C:Cx}{F F':G}{bs nb:List Addr}{S:AS}{s s':Shared}{h h':Heap}{a:Addr}{o:AO}
theorem oj.mono (hs:∀b o,F b=some o->F' b=some o)(h:oj c F bs x v):oj c F' (bs++nb) x v:=by
 induction h with
 | nil=>exact .nil
 | no _ ih=>exact .no ih
 | yes hv _ ih=>exact .yes (cu.mono hs hv) ih
theorem fm.at (x:fm c F bs h a o)(e:∀ob,h.get? a=some ob->h'.get? a=some ob):fm c F bs h' a o:=by
 cases o with
 | gone=>trivial
 | list xs=>refine e1a1 x λvs o9 h2=>?_;clear x;refine e1a0 o9 λn h1=>?_;clear o9;exact (ae vs (bQ n (e _ h1)) h2)
 | aN kvs=>refine e1a1 x λrs o8 h2=>?_;clear x;obtain ⟨es,n,h1,r⟩:=o8;exact (ae rs ⟨es,n,e _ h1,r⟩ h2)
 | bt kvs=>refine e1a1 x λrs o8 h2=>?_;clear x;obtain ⟨es,n,h1,r⟩:=o8;exact (ae rs ⟨es,n,e _ h1,r⟩ h2)
 | sset S=>refine e1a1 x λL o7 r'=>?_;clear x;obtain ⟨ob,es,ep,t,h1,r⟩:=o7;exact (ae L ⟨ob,es,ep,t,e _ h1,r⟩ r')
 | uset S=>refine e4a1 x λob es ep t h1 r=>?_;exact ⟨ob,es,ep,t,(e _ h1),r⟩
 | i5 S=>refine e4a1 x λob es ep t h1 r=>?_;exact ⟨ob,es,ep,t,(e _ h1),r⟩
 | inst cl d=>refine e1a1 x λda h1 h2=>?_;exact (ae da h1 (e _ h2))
 | slots cl d vs=>refine e2a2 x λda rs h0 h1 h2=>?_;exact (ck da rs h0 h1 (e _ h2))
 | gu l i=>refine e1a1 x λla h1 h2=>?_;exact (ae la h1 (e _ h2))
 | exc ex ob=>obtain ⟨h0,vs,h1,r⟩:=x;exact (oi h0 vs (e _ h1) r)
 | eN f =>
   cases f with
   | none=>refine e2a0 x λu v h1=>?_;exact (z7 u v (e _ h1))
   | some f=>refine e2a2 x λu v h1 h2 h3=>?_;exact (ck u v h1 h2 (e _ h3))
theorem fm.mono (hs:∀b o,F b=some o->F' b=some o)(x:fm c F bs h a o):fm c F' (bs++nb) h a o:=by
 cases o with
 | gone=>trivial
 | list xs=>refine e1a1 x λvs h1 h2=>?_;exact (ae vs h1 (a6.mono hs h2))
 | aN kvs=>refine e1a1 x λrs h1 h2=>?_;exact (ae rs h1 (bE.mono hs h2))
 | bt kvs=>refine e1a1 x λrs h1 h2=>?_;exact (ae rs h1 (bF.mono hs h2))
 | sset S=>exact x
 | uset S=>exact x
 | i5 S=>exact x
 | inst cl d=>refine e1a1 x λda h1 h2=>?_;exact (ae da (by rw [et (bp h1).1];exact h1) h2)
 | slots cl d vs=>refine e2a2 x λda rs h0 h1 h2=>?_;exact (ck da rs (by rw [et (bp h0).1];exact h0) (h1.mono hs) h2)
 | gu l i=>refine e1a1 x λla h1 h2=>?_;exact (ae la (cu.mono hs h1) h2)
 | exc ex ob=>exact x
 | eN f =>
   cases f with
   | none=>exact x
   | some f=>refine e2a2 x λu v h1 h2 h3=>?_;exact (ck u v (cu.mono hs h1) (cu.mono hs h2) h3)
theorem jZ.mono (hs:∀b o,F b=some o->F' b=some o)(z:jZ c env F bs h m x v):jZ c env F' (bs++nb) h m x v:=by
 cases z with
 | loc hk r h1 h2=>exact .loc hk r h1 (cu.mono hs h2)
 | cell hk w=>obtain ⟨a,o,r,h1,h2,h3,h4⟩:=w;exact .cell hk ⟨a,o,r,h1,h2,h3,cu.mono hs h4⟩
theorem jZ.heap (z:jZ c env F bs h m x v)
 (e:∀a o,env.cells.lookup x=some a->h.get? a=some o->∃o',h'.get? a=some o'/\o'.data=o.data):jZ c env F bs h' m x v:=by
 cases z with
 | loc hk r h1 h2=>exact .loc hk r h1 h2
 | cell hk w=>obtain ⟨a,o,r,h1,h2,h3,h4⟩:=w;refine e1a1 (e a o h1 h2) λo' e1 e2=>?_;exact .cell hk ⟨a,o',r,h1,e1,e2.trans h3,h4⟩
theorem iQ.mono (hs:∀b o,F b=some o->F' b=some o)(z:iQ c C F bs h m i v):iQ c C F' (bs++nb) h m i v :=
 e1a1 z λx e l=>(ae x e (jZ.mono hs l))
theorem iQ.heap (z:iQ c C F bs h m i v)(e:∀x a o,C.env.cells.lookup x=some a->h.get? a=some o->∃o',h'.get? a=some o'/\o'.data=o.data):iQ c C F bs h' m i v :=
 e1a1 z λx e' l=>(ae x e' (l.heap (e x)))
theorem gD.step_keeps (x:gD c F h)(k:∀b o,h.get? b=some o->h'.get? b=some o):gD c F h' :=
 ⟨x.toOldK.step_keeps k,λP q e=>let ⟨h1,h2,ps,h3,h4⟩:=x.tabs P q e;⟨h1,h2,ps,(k _ _ h3),h4⟩⟩
structure ba (c:aP)(F:G)(bs:List Addr)(s s':Shared):Prop where
 keep:∀b o,s.heap.get? b=some o->s'.heap.get? b=some o
 os:s'.os=s.os
 gens:s'.gens=s.gens
theorem Wd.keep (x:Wd c F bs S.heap s)(m:ba c F bs s s'):Wd c F bs S.heap s' :=
 ⟨λb o e=>m.keep _ _ (x.sub b o e),x.base,x.old.step_keeps m.keep,x.len,x.nodup,λk a o e1 e2=>⟨(x.obj k a o e1 e2).1.at λob e=>m.keep _ _ e,(x.obj k a o e1 e2).2⟩,
  λa ha=>e1a0 (x.there a ha) λo e=>(bQ o (m.keep _ _ e)),m.os.trans x.os,m.gens.trans x.gens,x.kept⟩
theorem gg.keep (x:gg h e)(k:∀b o,h.get? b=some o->o.cls=.type "frame"->∃o',h'.get? b=some o'/\iB o o'):gg h' e:=by obtain ⟨hk,L,o,h1,h2,h3,h4⟩:=x;refine e1a1 (k L o h2 h3) λo' e1 e2=>?_;exact ⟨hk,L,o',h1,e1,e2.cls.trans h3,λvs=>by rw [e2.data];exact h4 vs⟩
theorem St.keep (x:St c C F bs S s)(m:ba c F bs s s'):St c C F bs S s':=by
 refine e1a1 x.locs λmm hn hl=>?_;refine ⟨x.wd.keep m,(ae mm (hn.keeps m.keep) (λy v e=>(hl y v e).heap λzz a o zz h2=>(ae o (m.keep _ _ h2) rfl))),?_,x.cm,λb hb=>(let ⟨h1,h2,o,h3⟩:=x.own b hb;(pC h1 h2 o (m.keep _ _ h3))),λy a e=>?_,x.apart,λe he=>⟨(x.frames e he).1.keep λb o e zz=>(ae o (m.keep _ _ e) (.refl o)),(x.frames e he).2⟩,x.glob,x.blt,x.kind,x.om,x.fo⟩
 . refine e1a1 x.fV λo e n=>?_;exact (ae o (m.keep _ _ e) n)
 . obtain ⟨h1,h2,o,h3,h4,h5⟩:=x.cells y a e;exact (aH h1 h2 ⟨o,m.keep _ _ h3,h4,h5⟩)
theorem Step.keep (m:ba c F bs s s'):Step own F bs s.heap F bs s'.heap :=
 ⟨λzz zz e=>e,(ae [] (by simp) (by simp)),λb o e=>(bQ o (m.keep _ _ e)),λb o e zz zz zz=>(ae o (m.keep _ _ e) (.refl o)),λb o e n=>by lia⟩
noncomputable def plus (F:G)(a:Addr)(o:Obj):G:=λb=>if b=a then some o else F b
theorem aQ (hn:F a=none):∀b o,F b=some o->plus F a ob b=some o:=λb o e=>by delta plus;rw [if_neg λq=>by subst q;rw [hn] at e;cases e];exact e
theorem bO:plus F a ob a=some ob:=by unfold plus;rw [if_pos rfl]
theorem gD.plus {c:aP}{F:G}{h:Heap}{a:Addr}{ob:Obj}(x:gD c F h)(hF:F a=none)(co:∀P q,c.tab P=some q->P≠a):gD c (plus F a ob) h :=
 ⟨x.toOldK,λP q e=>let ⟨h1,h2,ps,h3,h4,h5⟩:=x.tabs P q e
  (kS (by delta Mine.Internal.plus;rw [if_neg (co P q e)];exact h1) h2 ps h3 h4 (λpos v ev=>e4a2 (h5 pos v ev) λb o vs t e1 e2 e3=>⟨b,o,vs,t,e1,(aQ hF _ _ e2),e3⟩))⟩
theorem gD.Gq (x:gD c F h)(hn:h.get? a=none):∀P q,c.tab P=some q->P≠a:=λP q e z=>by obtain ⟨_,_,ps,h3,_⟩:=x.tabs P q e;rw [z,hn] at h3;cases h3
theorem gD.vK (x:gD c F h)(ha:h.get? a=some ob)(hc:ob.cls≠.none):∀P q,c.tab P=some q->P≠a:=λP q e z=>by obtain ⟨_,_,ps,h3,_⟩:=x.tabs P q e;rw [z,ha] at h3;clear ha;cases h3;exact hc rfl
set_option tactic.hygienic true in
theorem Wd.i6 (x:Wd c F bs S.heap s)(m:ba c F bs s s')(hn:s.heap.get? a=none)(ha:s'.heap.get? a=some ob):Wd c (plus F a ob) bs S.heap s':=by
 have hF:F a=none:=by
  cases e:F a with
  | none=>rfl
  | some o=>exact iY (aF (af (x.sub _ _ e)) hn)
 have y:=x.keep m;refine ⟨λb o e=>?_,λb o e q=>aQ hF _ _ (x.base b o e q),y.old.plus hF (x.old.Gq hn),y.len,y.nodup,λk b o e1 e2=>⟨?_,λq=>?_⟩,y.there,y.os,y.gens,λb hb o e=>?_⟩
 . unfold plus at e
   split at e
   . rename_i q;clear hF hn;refine rE q ?_;cases e;exact ha
   . exact y.sub _ _ e
 . obtain this:=fm.mono (nb:=[]) (aQ (ob:=ob) hF) (y.obj k b o e1 e2).1;simpa using this
 . delta plus
   split
   . rename_i q;clear ha hF;subst q;refine e1a0 (x.there b (bJ e1)) λo' e'=>?_;exact bx (aF (af hn) e')
   . exact (y.obj k b o e1 e2).2 q
 . unfold plus at e
   split at e
   . rename_i q;clear ha hF;subst q;refine e1a0 (x.there b hb) λo' e'=>?_;exact bx (aF (af hn) e')
   . exact y.kept b hb o e
set_option tactic.hygienic true in
theorem St.i6 (x:St c C F bs S s)(m:ba c F bs s s')(hn:s.heap.get? a=none)(ha:s'.heap.get? a=some ob):St c C (plus F a ob) bs S s':=by
 have hF:F a=none:=by
  cases e:F a with
  | none=>rfl
  | some o=>exact iY (aF (af (x.wd.sub _ _ e)) hn)
 have y:=x.keep m;refine e1a1 y.locs λmm hN hl=>?_;refine ⟨x.wd.i6 m hn ha,(ae mm hN (λz v e=>by simpa using iQ.mono (nb:=[]) (aQ (ob:=ob) hF) (hl z v e))),y.fV,y.cm,λb hb=>⟨?_,(y.own b hb).2⟩,y.cells,y.apart,λe he=>⟨(y.frames e he).1,λL hL=>⟨?_,((y.frames e he).2 L hL).2⟩⟩,y.glob,y.blt,y.kind,y.om,y.fo.mono (aQ hF)⟩
 . delta plus
   split
   . rename_i q;clear hF ha;subst q;obtain ⟨_,_,o,e⟩:=x.own b hb;exact bx (aF (af hn) e)
   . exact (y.own b hb).1
 . delta plus
   split
   . rename_i q;clear hF ha;subst q;obtain ⟨_,L',o,e1,e2,_⟩:=(x.frames e he).1;obtain rfl:=aX (aF (af hL) e1);rw [hn] at e2;cases e2
   . exact ((y.frames e he).2 L hL).1
set_option tactic.hygienic true in
theorem Step.frozen (m:ba c F bs s s')(hF:F a=none)(hn:s.heap.get? a=none):Step own F bs s.heap (plus F a ob) bs s'.heap :=
 ⟨aQ hF,(ae [] (by simp) (by simp)),λb o e=>(bQ o (m.keep _ _ e)),λb o e _ _ _=>(ae o (m.keep _ _ e) (.refl o)),λb o e n=>by
  delta plus at e
  split at e
  . rename_i q;clear hF;subst q;exact .inl hn
  . exact iY (aF (af e) n)⟩
theorem St.jm (x:St c C F bs S s)(hn:s.heap.get? a=none):F a=none:=by
 cases e:F a with
 | none=>rfl
 | some o=>exact iY (aF (af (x.wd.sub _ _ e)) hn)
theorem Wd.new (x:Wd c F bs S.heap s)(m:ba c F bs s s')(hn:s.heap.get? a=none)(ha:s'.heap.get? a=some ob)(hr:fm c F (bs++[a]) s'.heap a o):Wd c F (bs++[a]) (S.heap++[o]) s':=by
 have y:=x.keep m;obtain hb:a∉bs:=λq=>by refine e1a0 (x.there a q) λo' e=>?_;exact bx (aF (af hn) e)
 have hF:F a=none:=by
  cases e:F a with
  | none=>rfl
  | some o=>exact iY (aF (af (x.sub _ _ e)) hn)
 refine ⟨y.sub,y.base,y.old,by simp [y.len],?_,λk b o' e1 e2=>?_,λb lw=>?_,y.os,y.gens,λb lw o e=>(bX lw).elim (λq=>y.kept b q o e) λq=>by rw [bD q,hF] at e;cases e⟩
 . rw [List.nodup_append];refine (aH y.nodup (by simp) (λp hp q hq e=>?_));rw [bD hq] at e;exact hb (e▸hp)
 . by_cases hk:k < bs.length
   . rw [et hk] at e1;rw [et (by rw [<-y.len];exact hk)] at e2;exact ⟨fm.mono (λzz zz e=>e) (y.obj k b o' e1 e2).1,(y.obj k b o' e1 e2).2⟩
   . obtain pc:k=bs.length:=by obtain this:=(bp e1).1;simp at this;exact sH this hk
     clear hk;subst pc;simp at e1;rw [y.len] at e2;simp at e2;subst e1 e2;exact ⟨hr,λzz=>hF⟩
 . rcases bX lw with q | q
   . exact y.there b q
   . rw [bD q];exact (bQ ob ha)
theorem St.new (x:St c C F bs S s)(m:ba c F bs s s')(hn:s.heap.get? a=none)(ha:s'.heap.get? a=some ob)(hr:fm c F (bs++[a]) s'.heap a o) :
 St c C F (bs++[a]) {S with heap:=S.heap++[o]} s':=by
 have y:=x.keep m;have ne:∀b,(∃o,s.heap.get? b=some o)->b≠a:=λb Zo=>e1a0 Zo λo e q=>by clear hr ha;subst q;rw [hn] at e;cases e
 refine e1a1 y.locs λmm hN hl=>?_;refine ⟨x.wd.new m hn ha hr,(ae mm hN (λz v e=>iQ.mono (λzz zz e=>e) (hl z v e))),y.fV,y.cm,λb hb=>(aH ((y.own b hb).1) (λq=>?_) ((y.own b hb).2.2)),λz b e=>⟨λq=>?_,(y.cells z b e).2⟩,y.apart,λe he=>⟨(y.frames e he).1,λL hL=>⟨((y.frames e he).2 L hL).1,λq=>?_⟩⟩,y.glob,y.blt,y.kind,y.om,y.fo⟩
 . rcases bX q with q | q
   . exact (y.own b hb).2.1 q
   . exact ne b (x.own b hb).2.2 (bD q)
 . rcases bX q with q | q
   . exact (y.cells z b e).1 q
   . obtain ⟨_,_,o',e',_⟩:=x.cells z b e;exact ne b (bQ o' e') (bD q)
 . rcases bX q with q | q
   . exact ((y.frames e he).2 L hL).2 q
   . obtain ⟨_,L',o,e1,e2,_⟩:=(x.frames e he).1;obtain rfl:=aX (aF (af hL) e1);exact ne L (bQ o e2) (bD q)
theorem Step.new (m:ba c F bs s s')(hn:s.heap.get? a=none):Step own F bs s.heap F (bs++[a]) s'.heap :=
 ⟨λzz zz e=>e,(ae [a] rfl (λb hb=>by refine rE (bD hb) ?_;exact hn)),λb o e=>(bQ o (m.keep _ _ e)),λb o e zz zz zz=>(ae o (m.keep _ _ e) (.refl o)),λb o e n=>by lia⟩
end
section
variable {c:aP}{C:Cx}{F F':G}{bs nb:List Addr}{S:AS}{s s':Shared}{h h':Heap}{a:Addr}{o o':AO}{k:Nat}
structure ff (a:Addr)(s s':Shared):Prop where
 same:∀b,b≠a->∀o,s.heap.get? b=some o->s'.heap.get? b=some o
 there:∃o,s'.heap.get? a=some o
 os:s'.os=s.os
 gens:s'.gens=s.gens
theorem Wd.gO (x:Wd c F bs S.heap s)(hF:F a=none)(hc:∃o,s.heap.get? a=some o/\o.cls≠.none):c.h₀.get? a=none:=by
 cases e:c.h₀.get? a with
 | none=>rfl
 | some qM =>
   refine e1a1 hc λo e1 e2=>?_;by_cases q:qM.cls≠.none\/a=cStatics
   . exact iY (aF (af (x.base a qM e q)) hF)
   . rcases x.old.old a qM e with z | ⟨_,dL,_,_,hv,z⟩ | ⟨hq,_⟩
     . clear e;obtain rfl:=aX (aF (af e1) z);exact absurd (.inl e2) q
     . obtain rfl:=aX (aF (af e1) z);exact absurd dL e2
     . exact absurd (.inr hq) q
theorem OldK.ry (x:OldK h₀ h)(ha:h₀.get? a=none)(k:∀b,b≠a->∀o,h.get? b=some o->h'.get? b=some o):OldK h₀ h':=by
 have ne:∀b o,h₀.get? b=some o->b≠a:=λb o e q=>by clear k;subst q;rw [ha] at e;cases e
 refine ⟨λb o e=>?_,λb o e=>e1a0 (x.there b o e) λo' e'=>(bQ o' (k _ (ne b o e) _ e'))⟩;rcases x.old b o e with z | ⟨t,hc,vs,more,hv,z⟩ | ⟨rfl,hc,⟨o',es,n,tX,r⟩,z⟩
 . exact .inl (k _ (ne b o e) _ z)
 . exact .inr (.inl ⟨t,hc,vs,more,hv,(k _ (ne b o e) _ z)⟩)
 . exact .inr (.inr (eM rfl hc (jW o' es n (k _ (ne _ o e) _ tX) r) (λkey=>by rw [OldK.staticOf_congr ((k _ (ne _ o e) _ tX).trans tX.symm) key];exact z key)))
theorem gD.ry (x:gD c F h)(ha:c.h₀.get? a=none)(k:∀b,b≠a->∀o,h.get? b=some o->h'.get? b=some o):gD c F h' :=
 ⟨OldK.ry x.toOldK ha k,λP q e=>let ⟨h1,⟨o,h2⟩,ps,h3,h4⟩:=x.tabs P q e;⟨h1,(bQ o h2),ps,(k _ (λz=>by lia) _ h3),h4⟩⟩
theorem fm.cls (x:fm c F bs h a o)(ho:o≠.gone):∃ob,h.get? a=some ob/\ob.cls≠.none/\ob.cls≠.type "frame":=by
 cases o with
 | gone=>exact absurd rfl ho
 | list xs=>refine e1a1 x λvs o6 h2=>?_;clear x;refine e1a0 o6 λn h1=>?_;clear o6;exact (a9 _ h1 (by simp [aY]) (by simp [aY]))
 | aN kvs=>refine e1a1 x λrs o5 h2=>?_;clear x;obtain ⟨es,n,h1,r⟩:=o5;exact (a9 _ h1 (by simp [bj]) (by simp [bj]))
 | bt kvs=>refine e1a1 x λrs o5 h2=>?_;clear x;obtain ⟨es,n,h1,r⟩:=o5;exact (a9 _ h1 (by simp [bj]) (by simp [bj]))
 | sset S=>refine e1a1 x λL o4 zz=>?_;clear x;obtain ⟨ob,es,ep,t,h1,hc,r⟩:=o4;exact (a9 _ h1 (by rw [hc.1];simp) (by rw [hc.1];simp))
 | uset S=>refine e4a2 x λob es ep t h1 hc r=>?_;exact (a9 _ h1 (by rw [hc.1];simp) (by rw [hc.1];simp))
 | i5 S=>refine e4a2 x λob es ep t h1 hc r=>?_;exact (a9 _ h1 (by rw [hc.1];simp) (by rw [hc.1];simp))
 | inst cl d=>refine e1a1 x λda h1 h2=>?_;exact (a9 _ h2 (by simp) (by simp))
 | slots cl d vs=>refine e2a2 x λda rs h0 h1 h2=>?_;exact (a9 _ h2 (by simp) (by simp))
 | gu l i=>refine e1a1 x λla h1 h2=>?_;exact (a9 _ h2 (by simp) (by simp))
 | exc ex ob=>obtain ⟨_,vs,h1,h2,h3,_⟩:=x;exact (a9 ob h1 h2 h3)
 | eN f =>
   cases f with
   | none=>refine e2a0 x λu v h1=>?_;exact (a9 _ h1 (by simp) (by simp))
   | some f=>refine e2a2 x λu v h1 h2 h3=>?_;exact (a9 _ h3 (by simp) (by simp))
theorem ff.wd (x:Wd c F bs S.heap s)(t:ff a s s')(hF:F a=none)(hc:∃ob,s.heap.get? a=some ob/\ob.cls≠.none):(∀b o,F b=some o->s'.heap.get? b=some o)/\gD c F s'.heap/\∀b∈bs,∃o,s'.heap.get? b=some o:=by
 refine (aH (λb o e=>t.same b (λq=>by clear hc t;subst q;rw [hF] at e;cases e) _ (x.sub b o e)) (gD.ry x.old (x.gO hF hc) t.same) (λb hb=>?_));by_cases q:b=a
 . clear hF hc;subst q;exact t.there
 . refine e1a0 (x.there b hb) λo e=>?_;exact (bQ o (t.same b q _ e))
theorem Wd.upd (x:Wd c F bs S.heap s)(t:ff a s s')(hk:bs[k]?=some a)(ho:S.heap[k]?=some o)(hg:o≠.gone)(hr:fm c F bs s'.heap a o'):Wd c F bs (S.heap.set k o') s':=by
 have hF:=(x.obj k a o hk ho).2 hg;refine e1a2 ((x.obj k a o hk ho).1.cls hg) λob e1 e2 zz=>?_;refine e0a2 (t.wd x hF (ae ob e1 e2)) λh1 h2 h3=>?_;refine ⟨h1,x.base,h2,by simp [x.len],x.nodup,λj b q ej eq=>?_,h3,t.os.trans x.os,t.gens.trans x.gens,x.kept⟩;by_cases hj:j=k
 . subst hj;refine (aX (aF (af hk) ej))▸?_;rw [gL (bp ho).1] at eq;refine (aX eq)▸?_;exact ⟨hr,λzz=>hF⟩
 . rw [aU (λe=>hj e.symm)] at eq;have ne:b≠a:=λe=>hj (by
    clear e1 hF hr t;subst e;exact (List.getElem?_inj (bp ej).1 x.nodup).mp (ej.trans hk.symm))
   exact ⟨(x.obj j b q ej eq).1.at λob e=>t.same b ne _ e,(x.obj j b q ej eq).2⟩
theorem St.ry (x:St c C F bs S s)(t:ff a s s')(hL:a≠C.env.locals)(hc:∀y b,C.env.cells.lookup y=some b->b≠a)(hf:∀e∈C.frames,e.frame≠some a)(y:Wd c F bs H' s'):St c C F bs {S with heap:=H'} s':=by
 refine e1a1 x.locs λmm hN hl=>?_;have k:∀b o,b≠a->s.heap.get? b=some o->s'.heap.get? b=some o:=λb o q e=>t.same b q _ e;refine ⟨y,(ae mm ?_ (λz v e=>(hl z v e).heap λx b o e1 e2=>(ae o (k b o (hc x b e1) e2) rfl))),?_,x.cm,λb hb=>?_,λz b e=>?_,x.apart,λe he=>⟨?_,(x.frames e he).2⟩,x.glob,x.blt,x.kind,x.om,x.fo⟩
 . refine e3a1 hN λo es ep ho r=>?_;exact (jW o es ep (k _ _ (Ne.symm hL) ho) r)
 . refine e1a1 x.fV λo e n=>?_;exact (ae o (k _ _ (Ne.symm hL) e) n)
 . obtain ⟨h1,h2,o,h3⟩:=x.own b hb;by_cases q:b=a
   . clear k hf hc hL;subst q;exact (aH h1 h2 t.there)
   . exact (pC h1 h2 o (k _ _ q h3))
 . obtain ⟨h1,h2,o,h3,h4⟩:=x.cells z b e;exact (aH h1 h2 ⟨o,k _ _ (hc z b e) h3,h4⟩)
 . obtain ⟨hk,L,o,h1,h2,h3⟩:=(x.frames e he).1;exact ⟨hk,L,o,h1,k _ _ (λq=>hf e he (q▸h1)) h2,h3⟩
theorem St.upd (x:St c C F bs S s)(t:ff a s s')(hk:bs[k]?=some a)(ho:S.heap[k]?=some o)(hg:o≠.gone)(hr:fm c F bs s'.heap a o'):St c C F bs {S with heap:=S.heap.set k o'} s' :=
 have hm:a∈bs:=bJ hk
 x.ry t (λe=>(x.own _ x.cm).2.1 (e▸hm)) (λy b e q=>(x.cells y b e).1 (q▸hm)) (λe he q=>((x.frames e he).2 a q).2 hm) (x.wd.upd t hk ho hg hr)
theorem Step.upd (t:ff a s s')(hm:a∈bs\/a∈own):Step own F bs s.heap F bs s'.heap:=by
 refine ⟨λzz zz e=>e,(ae [] (by simp) (by simp)),λb o e=>?_,λb o e n1 n2 zz=>(ae o (t.same b (λq=>?_) _ e) (.refl o)),λb o e n=>by lia⟩
 . by_cases q:b=a
   . clear hm;subst q;exact t.there
   . exact (bQ o (t.same b q _ e))
 . clear t;subst q;exact hm.elim n2 n1
set_option tactic.hygienic true in
theorem St.freeze (x:St c C F bs S s)(hk:bs[k]?=some a)(ho:S.heap[k]?=some o)(hg:o≠.gone){ob:Obj}(ha:s.heap.get? a=some ob)(RF:ob.cls≠.type "cell"):St c C (plus F a ob) bs {S with heap:=S.heap.set k .gone} s:=by
 have hm:a∈bs:=bJ hk;have hF:=(x.wd.obj k a o hk ho).2 hg;have kU:s.heap.get? a=some ob/\ob.cls≠.none:=by refine e1a2 ((x.wd.obj k a o hk ho).1.cls hg) λGo e1 e2 _=>?_;obtain rfl:=aX (aF (af ha) e1);exact ⟨ha,e2⟩
 refine e1a1 x.locs λmm hN hl=>?_;have w:=x.wd;refine ⟨⟨λb q e=>?_,λb q e z=>aQ hF _ _ (w.base b q e z),w.old.plus hF (w.old.vK kU.1 kU.2),by simp [w.len],w.nodup,λj b q ej eq=>?_,w.there,w.os,w.gens,λb hb o e=>(by unfold plus at e;split at e;(· cases e;exact RF);(· exact w.kept b hb o e))⟩,(ae mm hN (λz v e=>by simpa using iQ.mono (nb:=[]) (aQ (ob:=ob) hF) (hl z v e))),x.fV,x.cm,λb hb=>⟨?_,(x.own b hb).2⟩,x.cells,x.apart,λe he=>⟨(x.frames e he).1,λL hL=>⟨?_,((x.frames e he).2 L hL).2⟩⟩,x.glob,x.blt,x.kind,x.om,x.fo.mono (aQ hF)⟩
 . unfold plus at e
   split at e
   . rename_i z;cases z;cases e;exact ha
   . exact w.sub _ _ e
 . by_cases hj:j=k
   . clear hk;subst hj;rw [gL (bp ho).1] at eq;obtain rfl:=aX eq;exact ⟨trivial,λz=>absurd rfl z⟩
   . replace eq:=(aU (λe=>hj e.symm))▸eq;obtain ne:b≠a:=λe=>hj (by subst e;exact (List.getElem?_inj (bp ej).1 w.nodup).mp (ej.trans hk.symm));refine ⟨by simpa using fm.mono (nb:=[]) (aQ (ob:=ob) hF) (w.obj j b q ej eq).1,λz=>?_⟩;delta plus;rw [if_neg ne];exact (w.obj j b q ej eq).2 z
 . delta plus;rw [if_neg (λ(z:b=a)=>(x.own b hb).2.1 (z▸hm))];exact (x.own b hb).1
 . delta plus;rw [if_neg (λ(z:L=a)=>((x.frames e he).2 L hL).2 (z▸hm))];exact ((x.frames e he).2 L hL).1
set_option tactic.hygienic true in
theorem Step.freeze (hm:a∈bs)(hF:F a=none):Step own F bs h (plus F a ob) bs h :=
 ⟨aQ hF,(ae [] (by simp) (by simp)),λb o e=>(bQ o e),λb o e _ _ _=>(ae o e (.refl o)),λb o e n=>by
  delta plus at e
  split at e
  . rename_i q;clear hF;subst q;exact .inr hm
  . exact iY (aF (af e) n)⟩
theorem St.after (x:St c C F bs S s){own:List Addr}(st:Step own F bs s.heap F' az s'.heap)(hn:∀b∈own,s.heap.get? b=none)(y:Wd c F' az H' s'):St c C F' az {S with heap:=H'} s':=by
 refine e1a1 st.ext λnb o3 RG=>?_;obtain rfl:=o3;refine e1a1 x.locs λmm hN hl=>?_;obtain off:∀b o,s.heap.get? b=some o->b∉own:=λb o e q=>by exact bx (aF (af (hn b q)) e)
 have vL:∀b o,s.heap.get? b=some o->b∉bs->b∉bs++nb:=λb o e q z=>by
  rcases bX z with z | z
  . exact q z
  . exact bx (aF (af (RG b z)) e)
 have Ag:∀b o,s.heap.get? b=some o->b∉bs->F b=none->F' b=none:=λb o e q z=>by
  cases e':F' b with
  | none=>rfl
  | some o' =>
    rcases st.i6 b o' e' z with y | y
    . exact bx (aF (af y) e)
    . exact absurd y q
 have p:∀b o,s.heap.get? b=some o->b∉bs->o.cls≠.none->∃o',s'.heap.get? b=some o'/\iB o o':=λb o e q z=>st.dQ b o e (off b o e) q z;obtain hL:=(x.own _ x.cm).2.1;refine e1a1 x.fV λoL eL nL=>?_;refine e1a1 (p _ oL eL hL nL) λzn wP sL=>?_;refine ⟨y,(ae mm ?_ (λz v e=>?_)),(ae zn wP (by rw [sL.cls];exact nL)),x.cm,λb hb=>?_,λz b e=>?_,x.apart,λe he=>⟨?_,λL Dl=>?_⟩,x.glob,x.blt,x.kind,x.om,x.fo.mono st.sub⟩
 . refine e3a2 hN λo es ep ho hd r=>?_;obtain rfl:=aX (aF (af eL) ho);exact (eT zn es ep wP (sL.data.trans hd) r)
 . refine iQ.mono st.sub ((hl z v e).heap λy b o e1 e2=>?_);obtain ⟨h1,h2,o2,h3,h4,_⟩:=x.cells y b e1;obtain rfl:=aX (aF (af e2) h3);refine e1a1 (p b o e2 h1 (by rw [h4];simp)) λo' e' s1=>?_;exact (ae o' e' s1.data)
 . obtain ⟨h1,h2,o,h3⟩:=x.own b hb;exact (aH (Ag b o h3 h2 h1) (vL b o h3 h2) (st.mono _ _ h3))
 . obtain ⟨h1,h2,o,h3,h4,v,h5⟩:=x.cells z b e;refine e1a1 (p b o h3 h1 (by rw [h4];simp)) λo' e' s1=>?_;exact (aH (vL b o h3 h1) h2 ⟨o',e',s1.cls.trans h4,v,s1.data.trans h5⟩)
 . obtain ⟨hk,L,o,h1,h2,h3,h4⟩:=(x.frames e he).1;refine e1a1 (p L o h2 ((x.frames e he).2 L h1).2 (by rw [h3];simp)) λo' e' s1=>?_;exact ⟨hk,L,o',h1,e',s1.cls.trans h3,λvs=>by rw [s1.data];exact h4 vs⟩
 . obtain ⟨hk,L',o,h1,h2,h3,h4⟩:=(x.frames e he).1;obtain rfl:=aX (aF (af Dl) h1);obtain this:=(x.frames e he).2 L Dl;exact ⟨Ag L o h2 this.2 this.1,vL L o h2 this.2⟩
end
noncomputable def a7:List (Nat×AV)->Nat->AV->List (Nat×AV)
 | [],y,v=>[(y,v)]
 | (z,u)::l,y,v=>match z==y with
   | true=>(z,v)::l
   | false=>(z,u)::a7 l y v
theorem au (l:List (Nat×AV))(y:Nat)(v:AV)(z:Nat):(a7 l y v).lookup z=if z=y then some v else l.lookup z:=by
 induction l with
 | nil =>
   delta a7;by_cases h:z=y
   . subst h;simp [List.lookup]
   . simp only [List.lookup,if_neg h];obtain this:(z==y)=false:=by simpa using h
     simp only [this]
 | cons p l ih =>
   obtain ⟨k,u⟩:=p;dsimp only [a7];cases hk:k==y with
   | true =>
     obtain pc:k=y:=by simpa using hk
     refine pc▸?_;by_cases h:z=k
     . clear ih hk;clear pc;subst h;simp [List.lookup]
     . obtain this:(z==k)=false:=by simpa using h
       simp only [List.lookup,this,if_neg h]
   | false =>
     have pc:¬k=y:=by simpa using hk
     simp only [List.lookup];cases hz:z==k with
     | true =>
       obtain Zp:z=k:=by simpa using hz
       clear hk hz;subst Zp;simp [pc]
     | false=>exact ih
noncomputable abbrev AS.put (S:AS)(i:Nat)(v:AV):AS:={S with loc:=a7 S.loc i v}
theorem uh {l:List Str}(h:l.Nodup){i j:Nat}(hi:l[i]?=some x)(hj:l[j]?=some x):i=j :=
 (List.getElem?_inj (bp hi).1 h).mp (hi.trans hj.symm)
section
variable {c:aP}{C:Cx}{F F':G}{bs nb:List Addr}{S:AS}{s s':Shared}{a:Addr}{x:Str}{v:AV}{r:Value}
theorem St.Ah (z:St c C F bs S s)(hi:C.vars[i]?=some x)(hk:C.env.kindOf x=some .local)(hv:c.V F bs v r)
 (hm:∀m,s.heap.Ns C.env.locals m->h'.Ns C.env.locals (λy=>if y=x then some r else m y)) (hs:Heap.SameBut C.env.locals s.heap h') (he:s'.heap=h') (ho:s'.os=s.os) (hg:s'.gens=s.gens)
 (dL:∃o,h'.get? C.env.locals=some o/\o.cls≠.none/\∀qM,s.heap.get? C.env.locals=some qM->o.cls=qM.cls/\∀vs,o.data≠.fields vs):St c C F bs (S.put i v) s':=by
 subst he;refine e1a1 z.locs λm hN hl=>?_;have keep:∀b o,b≠C.env.locals->s.heap.get? b=some o->s'.heap.get? b=some o:=λb o q e=>(hs.2 b q).trans e;obtain ui:=z.own _ z.cm;have T:ff C.env.locals s s':=⟨λb q o e=>keep b o q e,e1a1 dL λo e zz=>(bQ o e),ho,hg⟩
 obtain hw:=T.wd z.wd ui.1 z.fV;refine ⟨⟨hw.1,z.wd.base,hw.2.1,z.wd.len,z.wd.nodup,λk b o e1 e2=>⟨(z.wd.obj k b o e1 e2).1.at λob e=>keep b ob (λq=>ui.2.1 (q▸bJ e1)) e,(z.wd.obj k b o e1 e2).2⟩,hw.2.2,ho.trans z.wd.os,hg.trans z.wd.gens,z.wd.kept⟩,
  (ae _ (hm m hN) (λy u e=>?_)),?_,z.cm,λb hb=>?_,λy b e=>?_,z.apart,λe he=>⟨?_,(z.frames e he).2⟩,z.glob,z.blt,z.kind,z.om,z.fo⟩
 . rw [show (S.put i v).loc=a7 S.loc i v from rfl,au] at e;by_cases q:y=i
   . subst q;obtain rfl:=aX (aF (af (if_pos rfl)) e);refine (ae x hi ?_);exact .loc hk r (if_pos rfl) hv
   . rw [if_neg q] at e;refine e1a1 (hl y u e) λx' oo w=>?_;obtain q':x'≠x:=λe=>q (uh z.om (e▸oo) hi);refine (ae x' oo ?_);cases w with
     | loc hk r' h1 h2=>exact .loc hk r' ((if_neg q').trans h1) h2
     | cell hk w=>obtain ⟨b,o,r',h1,h2,h3⟩:=w;exact .cell hk ⟨b,o,r',h1,keep b o (z.cells x' b h1).2.1 h2,h3⟩
 . refine e1a2 dL λo e n zz=>?_;exact (ae o e n)
 . obtain ⟨h1,h2,o,h3⟩:=z.own b hb;by_cases q:b=C.env.locals
   . clear h3 hb;subst q;exact (aH h1 h2 T.there)
   . exact (pC h1 h2 o (keep b o q h3))
 . obtain ⟨h1,h2,o,h3,h4⟩:=z.cells y b e;exact (aH h1 h2 ⟨o,keep b o h2 h3,h4⟩)
 . obtain ⟨pc,L,o,h1,h2,h3,h4⟩:=(z.frames e he).1;by_cases q:L=C.env.locals
   . subst q;refine e1a2 dL λo' e' n hd=>?_;exact ⟨pc,_,o',h1,e',(hd o h2).1.trans h3,(hd o h2).2⟩
   . exact ⟨pc,L,o,h1,keep L o q h2,h3,h4⟩
theorem St.setCell (z:St c C F bs S s)(hi:C.vars[i]?=some x)(hk:C.env.kindOf x=some .cell)(hc:C.env.cells.lookup x=some a)(hF:F a=none)(hv:c.V F bs v r)(h0:s.heap.get? a=some qM)
 (Dm:h'.get? a=some {qM with data:=.cell (some r)}) (hs:Heap.SameBut a s.heap h') (he:s'.heap=h') (ho:s'.os=s.os) (hg:s'.gens=s.gens):St c C F bs (S.put i v) s':=by
 subst he;refine e1a1 z.locs λm hN hl=>?_;have keep:∀b o,b≠a->s.heap.get? b=some o->s'.heap.get? b=some o:=λb o q e=>(hs.2 b q).trans e;obtain ⟨E0,IN,oa,IO,Ai,va,Gr⟩:=z.cells x a hc;clear Gr;obtain rfl:=aX (aF (af h0) IO);obtain XC:C.env.locals≠a:=Ne.symm IN;have T:ff a s s':=⟨λb q o e=>keep b o q e,(bQ _ Dm),ho,hg⟩
 obtain hw:=T.wd z.wd hF (ae qM h0 (by refine rE Ai ?_;simp));refine ⟨⟨hw.1,z.wd.base,hw.2.1,z.wd.len,z.wd.nodup,λk b o e1 e2=>⟨(z.wd.obj k b o e1 e2).1.at λob e=>keep b ob (λq=>E0 (q▸bJ e1)) e,(z.wd.obj k b o e1 e2).2⟩,hw.2.2,ho.trans z.wd.os,hg.trans z.wd.gens,z.wd.kept⟩,
  (ae m ?_ (λy u e=>?_)),?_,z.cm,λb hb=>?_,λy b e=>?_,z.apart,λe he=>⟨?_,(z.frames e he).2⟩,z.glob,z.blt,z.kind,z.om,z.fo⟩
 . refine e3a1 hN λo es ep e rr=>?_;exact (jW o es ep (keep _ _ XC e) rr)
 . rw [show (S.put i v).loc=a7 S.loc i v from rfl,au] at e;by_cases q:y=i
   . subst q;refine (aX (aF (af (if_pos rfl)) e))▸?_;refine (ae x hi ?_);exact .cell (.inl hk) ⟨a,_,r,hc,Dm,rfl,hv⟩
   . rw [if_neg q] at e;refine e1a1 (hl y u e) λx' oo w=>?_;obtain q':x'≠x:=λe=>q (uh z.om (e▸oo) hi);exact (ae x' oo (w.heap λb o e1 e2=>(ae o (keep b o (λw=>q' (z.apart x' x a (w▸e1) hc)) e2) rfl)))
 . refine e1a1 z.fV λo e n=>?_;exact (ae o (keep _ _ XC e) n)
 . obtain ⟨h1,h2,o,h3⟩:=z.own b hb;by_cases q:b=a
   . clear h3 hb;cases q;exact (aH h1 h2 T.there)
   . exact (pC h1 h2 o (keep b o q h3))
 . obtain ⟨h1,h2,o,h3,h4,h5⟩:=z.cells y b e;by_cases q:b=a
   . clear h3 e;cases q;exact (aH h1 h2 ⟨_,Dm,by assumption,_,rfl⟩)
   . exact (aH h1 h2 ⟨o,keep b o q h3,h4,h5⟩)
 . obtain ⟨pc,L,o,h1,h2,h3,h4⟩:=(z.frames e he).1;obtain q:L≠a:=λq=>by cases q;rw [h0] at h2;clear h4;cases h2;rw [Ai] at h3;simp at h3
   exact ⟨pc,L,o,h1,keep L o q h2,h3,h4⟩
end
structure cJ (c:aP)(C:Cx)(F:G)(bs:List Addr)(a:Addr):Prop where
 F:F a=none
 bs:a∉bs
 own:a∉C.own
 cells:∀x,C.env.cells.lookup x≠some a
 frames:∀e∈C.frames,e.frame≠some a
noncomputable def fQ (x:String):String:=if x="IndexError+" then "IndexError" else if x="StopIteration+" then "StopIteration" else x
inductive Jk (c:aP)(C:Cx)(F:G)(bs:List Addr)(h₀ h:Heap)(e:Addr)(vs:Array Value):Prop
 | mk (tb:Addr) (lf:Obj) (nw:Array Value) (L:Addr) (k1:vs[1]?=some (.ref tb)) (k2:h.get? tb=some lf) (k3:lf.cls=.type "traceback") (k4:lf.data=.fields nw) (k5:3 < nw.size) (k6:C.env.frame=some L) (k7:nw[3]?=some (rawInt L)) (k8:tb≠e) (k9:h₀.get? tb=none) (nF:cJ c C F bs tb)
inductive RH (c:aP)(C:Cx)(F:G)(bs:List Addr)(h₀ h:Heap)(x:Value)(cls:String):Prop
 | mk (e:Addr) (ob:Obj) (vs:Array Value) (h1:x=.ref e) (h2:h₀.get? e=none) (h3:h.get? e=some ob) (h4:ob.cls=.type (fQ cls)) (h5:ob.data=.fields vs) (h6:vs.size=6/\(fQ cls=cls->vs[2]?=some .none)) (h7:cJ c C F bs e) (h8:vs[1]?=some .none\/Jk c C F bs h₀ h e vs)
structure ExcAt (c:aP)(C:Cx)(F:G)(bs:List Addr)(h₀ h:Heap)(x:Value)(cls:String):Prop where
 at_:RH c C F bs h₀ h x cls
 Aj:fQ cls≠"frame"
theorem ExcAt.back (z:ExcAt c C F bs h₁ h x cls)(m:∀b o,h₀.get? b=some o->∃o',h₁.get? b=some o'):ExcAt c C F bs h₀ h x cls:=by
 have bk:∀b,h₁.get? b=none->h₀.get? b=none:=λb h2=>by
  cases q:h₀.get? b with
  | none=>rfl
  | some o=>refine e1a0 (m b o q) λo' e'=>?_;exact bx (aF (af h2) e')
 obtain ⟨e,ob,vs,h1,h2,h3,h4,h5,h6,h7,h8⟩:=z.at_;refine ⟨⟨e,ob,vs,h1,bk e h2,h3,h4,h5,h6,h7,h8.imp id ?_⟩,z.Aj⟩;intro o1;obtain ⟨tb,lf,nw,L,k1,k2,k3,k4,k5,k6,k7,k8,k9,nF⟩:=o1;exact ⟨tb,lf,nw,L,k1,k2,k3,k4,k5,k6,k7,k8,bk tb k9,nF⟩
inductive WV (c:aP)(C:Cx){α β:Type}(R:G->List Addr->β->α->Prop)(F:G)(bs:List Addr)(h₀:Heap)(K:β->AS->Prop)(r:α)(s':Shared):Prop
 | mk (F':G) (az:List Addr) (v:β) (S':AS) (st:Step C.own F bs h₀ F' az s'.heap) (z:St c C F' az S' s') (hr:R F' az v r) (hk:K v S')
theorem WV.el {R:G->List Addr->β->α->Prop}{K:β->AS->Prop}{r:α}{Q0:Prop}(Qx:WV c C R F bs h₀ K r s')(k:∀(F':G)(az:List Addr)(v:β)(S':AS)(st:Step C.own F bs h₀ F' az s'.heap)(z:St c C F' az S' s')(hr:R F' az v r)(hk:K v S'),Q0):Q0:=Qx.casesOn k
inductive WX (c:aP)(C:Cx)(F:G)(bs:List Addr)(h₀:Heap)(X:String->AS->Prop)(x:Value)(s':Shared):Prop
 | mk (F':G) (az:List Addr) (cls:String) (S':AS) (st:Step C.own F bs h₀ F' az s'.heap) (z:St c C F' az S' s') (hx:ExcAt c C F' az h₀ s'.heap x cls) (hk:X cls S')
def WP (c:aP)(C:Cx)(A:Around){α β:Type}(R:G->List Addr->β->α->Prop)(t:Sem α)(F:G)(bs:List Addr)(s:Shared)(K:β->AS->Prop)(X:String->AS->Prop):Prop :=
 wpAny (model c.prog c.w) A t
  (WV c C R F bs s.heap K)
  (WX c C F bs s.heap X) s
section
variable {c:aP}{C:Cx}{A:Around}{α β γ δ:Type}{R:G->List Addr->β->α->Prop}{R':G->List Addr->δ->γ->Prop}{F:G}{bs:List Addr}{S:AS}{s:Shared}{X X':String->AS->Prop}
theorem WP.pure (z:St c C F bs S s)(hr:R F bs v a)(hk:K v S):WP c C A R (Pure.pure a) F bs s K X :=
 bo ⟨F,bs,v,S,.refl ..,z,hr,hk⟩
theorem WP.bind (h:WP c C A R t F bs s K₁ X)
 (k:∀F₁ bs₁ ac Z v r,Step C.own F bs s.heap F₁ bs₁ Z.heap->St c C F₁ bs₁ ac Z->R F₁ bs₁ v r->K₁ v ac->WP c C A R' (f r) F₁ bs₁ Z K X):WP c C A R' (t >>= f) F bs s K X:=by
 refine ai (aJ h (λr Z RI=>RI.casesOn λF₁ bs₁ v ac st z hr hk=>?_) λzz zz e=>e);refine aJ (k F₁ bs₁ ac Z v r st z hr hk) (λr' am RJ=>RJ.casesOn λaT ax v' aC mo z' tY pc=>?_) λx am RK=>RK.casesOn λaT ax cls aC mo z' hx pc=>?_
 . exact ⟨aT,ax,v',aC,st.trans mo,z',tY,pc⟩
 . exact ⟨aT,ax,cls,aC,st.trans mo,z',hx.back st.mono,pc⟩
theorem WP.mono (h:WP c C A R t F bs s K X)(hk:∀v S,K v S->K' v S)(hx:∀x S,X x S->X' x S):WP c C A R t F bs s K' X' :=
 aJ h (λr Z RL=>RL.casesOn λF₁ bs₁ v ac st z hr q=>⟨F₁,bs₁,v,ac,st,z,hr,hk _ _ q⟩) λx Z RM=>RM.casesOn λF₁ bs₁ cls ac st z hr q=>⟨F₁,bs₁,cls,ac,st,z,hr,hx _ _ q⟩
theorem WP.re {Jl:G->List Addr->δ->α->Prop}(h:WP c C A R t F bs s K X)(hk:∀F bs v r S,R F bs v r->K v S->∃v',Jl F bs v' r/\K' v' S):WP c C A Jl t F bs s K' X :=
 aJ h (λr Z RN=>RN.casesOn λF₁ bs₁ v ac st z hr q=>e1a1 (hk _ _ _ _ _ hr q) λv' a b=>⟨F₁,bs₁,v',ac,st,z,a,b⟩) λzz zz e=>e
theorem WP.holding (h:WP c C A R t F bs s K X):WP c C A R (PySem.holding vs t) F bs s K X:=wpAny_holding h
theorem WP.standAt (h:WP c C A R t F bs s K X):WP c C A R (PySem.standAt p >>= λzz=>t) F bs s K X:=ai (wpAny_standAt h)
theorem WP.rule (h:WP c C A R t F bs s K X):WP c C A R (PySem.rule p >>= λzz=>t) F bs s K X:=ai (wpAny_rule h)
theorem WP.kept (z:St c C F bs S s)
 (h:∀(Q:α->Shared->Prop) (E:Value->Shared->Prop),(∀r s',ba c F bs s s'->(∃v,R F bs v r/\K v S)->Q r s')->wpAny (model c.prog c.w) A t Q E s):WP c C A R t F bs s K X :=
 h _ _ λr s' m RO=>e1a1 RO λv hr hk=>⟨F,bs,v,S,.keep m,z.keep m,hr,hk⟩
end
theorem ba.refl (c:aP)(F:G)(bs:List Addr)(s:Shared):ba c F bs s s:=⟨λzz zz e=>e,rfl,rfl⟩
theorem ba.toks (c:aP)(F:G)(bs:List Addr)(s:Shared)(t:Nat):ba c F bs s {s with toks:=t}:=⟨λzz zz e=>e,rfl,rfl⟩
end Mine.Internal
namespace Mine.Internal
open PySem PyProof.Rows
structure Base (c:aP)(mg mb:Str->Option Value):Prop where
 g:c.h₀.Ns mainGlobals mg
 b:c.h₀.Ns builtinsNs mb
 lim:c.h₀.NoLimit
 Gs:∃o,c.h₀.get? sysModules=some o
def Ev (c:aP)(C:Cx)(e:Expr)(S:AS)(K:AV->AS->Prop)(X:String->AS->Prop):Prop :=
 ∀A F bs s,i7 C A->St c C F bs S s->WP c C A c.V (eval e C.env) F bs s K X
def RP (c:aP)(C:Cx)(t:Value->Sem Value)(a:AV)(S:AS)(K:AV->AS->Prop)(X:String->AS->Prop):Prop :=
 ∀A F bs s r,i7 C A->St c C F bs S s->c.V F bs a r->WP c C A c.V (t r) F bs s K X
def iX (c:aP)(C:Cx)(t:Value->Value->Sem Value)(a b:AV)(S:AS)(K:AV->AS->Prop)(X:String->AS->Prop):Prop :=
 ∀A F bs s ra rb,i7 C A->St c C F bs S s->c.V F bs a ra->c.V F bs b rb->WP c C A c.V (t ra rb) F bs s K X
def xd (c:aP)(C:Cx)(e:Expr)(S:AS)(K:Bool->AS->Prop)(X:String->AS->Prop):Prop :=
 ∀A F bs s,i7 C A->St c C F bs S s->WP c C A (λzz zz b r=>r=b) (isTrue e C.env (eval e C.env)) F bs s K X
def Tr (c:aP)(C:Cx)(a:AV)(S:AS)(K:Bool->AS->Prop)(X:String->AS->Prop):Prop :=
 ∀A F bs s r,i7 C A->St c C F bs S s->c.V F bs a r->WP c C A (λzz zz b r=>r=b) (truthy r) F bs s K X
section
variable {c:aP}{C:Cx}{S:AS}{K:AV->AS->Prop}{X:String->AS->Prop}{mg mb:Str->Option Value}
theorem St.yu (z:St c C F bs S s)(h:∃o,c.h₀.get? a=some o/\o.cls≠.none):∀o,c.h₀.get? a=some o->s.heap.get? a=some o:=λo e=>by refine e1a1 h λo' e' n=>?_;obtain rfl:=aX (aF (af e) e');exact z.wd.sub _ _ (z.wd.base _ _ e (.inl n))
theorem Wd.ns (z:Wd c F bs H s)(h:c.h₀.Ns a m)(co:a≠cStatics):s.heap.Ns a m:=by
 refine e3a2 h λo es ep ho hd r=>?_;rcases z.old.old _ _ ho with e | ⟨_,_,vs,more,hv,_⟩ | ⟨e,_⟩
 . exact (eT o es ep e hd r)
 . replace hv:=hd▸hv;cases hv
 . exact absurd e co
theorem St.QI (z:St c C F bs S s)(B:Base c mg mb):s.heap.Ns mainGlobals mg:=by exact z.wd.ns B.g (by decide)
theorem St.Zq (z:St c C F bs S s)(B:Base c mg mb):s.heap.Ns builtinsNs mb:=by exact z.wd.ns B.b (by decide)
theorem Wd.Ak (z:Wd c F bs H s)(B:Base c mg mb):s.heap.NoLimit:=by refine e1a1 B.lim λmc XD q=>?_;refine e3a1 XD λo es ep ho r=>?_;clear XD;exact (ae mc (jW o es ep (z.sub _ _ (z.base _ _ ho (.inr rfl))) r) q)
theorem St.load (z:St c C F bs S s)(hi:C.vars[i]?=some x)(hv:S.loc.lookup i=some v)(hn:(x==("__classdict__":Str))=false)(q:∀r,c.V F bs v r->Q r s):wpAny (model c.prog c.w) A (loadName C.env x) Q E s:=by
 refine e1a1 z.locs λm hN hl=>?_;refine e1a1 (hl i v hv) λx' oo w=>?_;obtain rfl:=aX (hi.symm.trans oo);cases w with
 | loc hk r h1 h2=>exact wpAny_loadName_local z.kind hk hN h1 (q _ h2)
 | cell hk w =>obtain ⟨a,o,r,h1,h2,h3,h4⟩:=w;exact hk.elim (λhk=>wpAny_loadName_cell z.kind hk h1 (ae o h2 h3) (q _ h4)) λhk=>wpAny_loadName_free z.kind hk h1 (ae o h2 h3) (q _ h4) hn
theorem aa (i:Nat){x:Str}{pos:Pos}{v:AV}(hi:C.vars[i]?=some x)(hv:S.loc.lookup i=some v)(k:K v S)(hd:(x==("__debug__":Str))=false:=by decide +kernel)(hn:(x==("__classdict__":Str))=false:=by decide +kernel):Ev c C (.Name x pos) S K X:=λA F bs s hA z =>
 WP.kept z λQ E q=>wpAny_Name (z.load hi hv hn λr h=>q _ _ (.refl ..) (ae v h k)) hd
theorem kW (B:Base c mg mb){x:Str}{pos:Pos}{v:Value}(hk:C.env.kindOf x=some .globalImplicit)(hv:mg x=some v)(k:K (.raw v) S)(hd:(x==("__debug__":Str))=false:=by decide +kernel):Ev c C (.Name x pos) S K X:=by intro A F bs s hA z;refine WP.kept z λQ E q=>Calls.Name_function_global z.kind hk (Calls.loadGlobal_global (by refine rE z.glob ?_;exact z.QI B) hv (q _ _ (.refl ..) (ae _ (.raw v) k))) hd
theorem lV (B:Base c mg mb){x:Str}{pos:Pos}{i:Int}{t:Tok}(hk:C.env.kindOf x=some .globalImplicit)(hv:mg x=some (.int i t))(k:K (.int i) S)(hd:(x==("__debug__":Str))=false:=by decide +kernel):Ev c C (.Name x pos) S K X:=by intro A F bs s hA z;refine WP.kept z λQ E q=>Calls.Name_function_global z.kind hk (Calls.loadGlobal_global (by refine rE z.glob ?_;exact z.QI B) hv (q _ _ (.refl ..) (ae _ (.int i t) k))) hd
theorem bM (B:Base c mg mb){x:Str}{pos:Pos}{v:Value}(hk:C.env.kindOf x=some .globalImplicit)(hg:mg x=none)(hv:mb x=some v)(k:K (.raw v) S)(hd:(x==("__debug__":Str))=false:=by decide +kernel):Ev c C (.Name x pos) S K X:=by intro A F bs s hA z;refine WP.kept z λQ E q=>Calls.Name_function_global z.kind hk (Calls.loadGlobal_builtin (by rw [z.glob];exact z.QI B) hg (by rw [z.blt];exact z.Zq B) hv (q _ _ (.refl ..) (ae _ (.raw v) k))) hd
theorem av (k:K (.int i) S):Ev c C (.Constant (.int i) kd pos) S K X:=λA F bs s hA z =>
 WP.kept z λQ E q=>wpAny_Constant_int (q _ _ (.toks ..) (ae _ (.int i _) k))
theorem cQ (k:K (.str x) S):Ev c C (.Constant (.str x) kd pos) S K X:=λA F bs s hA z =>
 WP.kept z λQ E q=>wpAny_Constant_str (q _ _ (.toks ..) (ae _ (.str x _) k))
theorem kX (k:K (.bool b) S):Ev c C (.Constant (.bool b) kd pos) S K X:=λA F bs s hA z =>
 WP.kept z λQ E q=>wpAny_Constant_bool (q _ _ (.refl ..) (ae _ (.bool b) k))
theorem eU (k:K .none S):Ev c C (.Constant .none kd pos) S K X:=λA F bs s hA z =>
 WP.kept z λQ E q=>wpAny_Constant_none (q _ _ (.refl ..) (ae _ (.none) k))
@[reducible] def RQ (c:aP) (C:Cx) (t:Value->Sem Value) (K:AV->AS->Prop) (X:String->AS->Prop):AV->AS->Prop:=λa S=>RP c C t a S K X
@[reducible] def Jm (c:aP) (C:Cx) (t:Value->Value->Sem Value) (a:AV) (K:AV->AS->Prop) (X:String->AS->Prop):AV->AS->Prop:=λb S=>iX c C t a b S K X
@[reducible] def Gu (c:aP) (C:Cx) (r:Expr) (t:Value->Value->Sem Value) (K:AV->AS->Prop) (X:String->AS->Prop):AV->AS->Prop:=λa S=>Ev c C r S (Jm c C t a K X) X
@[reducible] def XE (c:aP) (C:Cx) (K:Bool->AS->Prop) (X:String->AS->Prop):AV->AS->Prop:=λv S=>Tr c C v S K X
theorem bS (h:Ev c C l S (Gu c C r (binaryOp op) K X) X):Ev c C (.BinOp l op r pos) S K X:=by intro A F bs s hA z;refine WP.bind (h A F bs s hA z) λF₁ bs₁ ac Z a ra al ap ha k₁=>?_;refine WP.bind (WP.holding (k₁ A F₁ bs₁ Z hA ap)) λaT ax aC am b rb an aG hb k₂=>?_;exact WP.standAt (wpAny_operating (k₂ A aT ax am ra rb hA aG (an.V ha) hb))
theorem Al {l r:Expr}{op:CmpOp}{pos:Pos}(h:Ev c C l S (Gu c C r (compareOp op) K X) X)(hm:behindInMarks op r=false:=by rfl):Ev c C (.Compare l [op] [r] pos) S K X:=by
 intro A F bs s hA z;show WP c C A c.V (do compareChain pos (<-eval l C.env) [op] (markedEach [op] [r] (evalEach [r] C.env))) F bs s K X;obtain e:markedEach [op] [r] (evalEach [r] C.env)=[eval r C.env]:=by show [markedBehindIn op r (eval r C.env)]=_;rw [markedBehindIn_of_false hm]
 refine rE e ?_;refine WP.bind (h A F bs s hA z) λF₁ bs₁ ac Z a ra al ap ha k₁=>?_;refine WP.bind (WP.holding (k₁ A F₁ bs₁ Z hA ap)) λaT ax aC am b rb an aG hb k₂=>?_;exact WP.standAt (wpAny_operating (k₂ A aT ax am ra rb hA aG (an.V ha) hb))
theorem aL {l r:Expr}{op:CmpOp}{pos:Pos}{K:Bool->AS->Prop}(h:Ev c C l S (Gu c C r (compareOp op) (XE c C K X) X) X)(hm:behindInMarks op r=false:=by rfl):xd c C (.Compare l [op] [r] pos) S K X:=by
 intro A F bs s hA z;show WP c C A _ (do testChain pos (<-eval l C.env) [op] (markedEach [op] [r] (evalEach [r] C.env))) F bs s K X;obtain e:markedEach [op] [r] (evalEach [r] C.env)=[eval r C.env]:=by show [markedBehindIn op r (eval r C.env)]=_;rw [markedBehindIn_of_false hm]
 refine rE e ?_;refine WP.bind (h A F bs s hA z) λF₁ bs₁ ac Z a ra al ap ha k₁=>?_;refine WP.bind (WP.holding (k₁ A F₁ bs₁ Z hA ap)) λaT ax aC am b rb an aG hb k₂=>?_;refine WP.standAt (WP.bind (wpAny_operating (k₂ A aT ax am ra rb hA aG (an.V ha) hb)) λbn aK aO aM v rv aE aR hv bv=>?_);exact WP.holding (bv A bn aK aM rv hA aR hv)
theorem Jn (h:Ev c C x S (RQ c C (unaryOp op) K X) X):Ev c C (.UnaryOp op x pos) S K X:=by intro A F bs s hA z;refine WP.bind (h A F bs s hA z) λF₁ bs₁ ac Z a ra al ap ha k₁=>?_;exact WP.standAt (WP.holding (k₁ A F₁ bs₁ Z ra hA ap ha))
theorem aD {K:Bool->AS->Prop}(k:K b S):Tr c C (.bool b) S K X:=λA F bs s r hA z hv=>by obtain ⟨_,rfl⟩:=hv.inv;exact WP.kept z λQ E q=>wpAny_truthy_bool (q _ _ (.refl ..) (ae b rfl k))
theorem j0 (k:K (.int (a+b)) S):iX c C (binaryOp .Add) (.int a) (.int b) S K X:=λA F bs s ra rb hA z ha hb=>by refine e1a0 ha.inv λzz Zr=>?_;refine rE Zr ?_;refine e1a0 hb.inv λzz Zs=>?_;refine rE Zs ?_;exact WP.kept z λQ E q=>PyProof.Rows.add_int (q _ _ (.toks ..) (ae _ (.int _ _) k))
theorem sS (hm:IntMulOk a b)(k:K (.int (a*b)) S):iX c C (binaryOp .Mult) (.int a) (.int b) S K X:=λA F bs s ra rb hA z ha hb=>by refine e1a0 ha.inv λzz Gv=>?_;refine rE Gv ?_;refine e1a0 hb.inv λzz E1=>?_;refine rE E1 ?_;exact WP.kept z λQ E q=>PyProof.Rows.mul_int (q _ _ (.toks ..) (ae _ (.int _ _) k)) hm
theorem j6 (hb:b≠0)(k:K (.int (a.fmod b)) S):iX c C (binaryOp .Mod) (.int a) (.int b) S K X:=λA F bs s ra rb hA z ha lw=>by refine e1a0 ha.inv λzz E2=>?_;refine rE E2 ?_;refine e1a0 lw.inv λzz E3=>?_;refine rE E3 ?_;exact WP.kept z λQ E q=>PyProof.Rows.mod_int hb (q _ _ (.toks ..) (ae _ (.int _ _) k))
theorem vM (hb:b≠0)(hp:Builtin.divisionGoesByPylong a b=false)(k:K (.int (a.fdiv b)) S):iX c C (binaryOp .FloorDiv) (.int a) (.int b) S K X:=λA F bs s ra rb hA z ha lw=>by refine e1a0 ha.inv λzz CT=>?_;refine rE CT ?_;refine e1a0 lw.inv λzz Am=>?_;refine rE Am ?_;exact WP.kept z λQ E q=>PyProof.Rows.floordiv_int hb (q _ _ (.toks ..) (ae _ (.int _ _) k)) (.inl hp)
theorem Gw (hn:0<=n)(QJ:n<=1000000)(ha:a.natAbs < 2 ^ 64)(k:K (.int (a ^ n.toNat)) S):iX c C (binaryOp .Pow) (.int a) (.int n) S K X:=λA F bs s ra rb hA z RR lw=>by refine e1a0 RR.inv λzz zs=>?_;refine rE zs ?_;refine e1a0 lw.inv λzz zt=>?_;refine rE zt ?_;exact WP.kept z λQ E q=>PyProof.Rows.pow_int_small hn QJ ha (q _ _ (.toks ..) (ae _ (.int _ _) k))
theorem Gy (k:K (.int (-a)) S):RP c C (unaryOp .USub) (.int a) S K X:=λA F bs s ra hA z ha=>by refine e1a0 ha.inv λzz zu=>?_;refine rE zu ?_;exact WP.kept z λQ E q=>PyProof.Rows.neg_int (q _ _ (.toks ..) (ae _ (.int _ _) k))
theorem mH (hsz:x.length+y.length<=sizeLine)(k:K (.str (x++y)) S):iX c C (binaryOp .Add) (.str x) (.str y) S K X:=λA F bs s ra rb hA z ha hb=>by refine e1a0 ha.inv λzz zv=>?_;refine rE zv ?_;refine e1a0 hb.inv λzz zw=>?_;refine rE zw ?_;exact WP.kept z λQ E q=>PyProof.Rows.add_str (λt' tk=>q _ _ (.toks ..) (ae _ (.str _ _) k)) hsz
theorem nG (k:K (.bool (a==b)) S):iX c C (compareOp .Eq) (.int a) (.int b) S K X:=λA F bs s ra rb hA z ha hb=>by refine e1a0 ha.inv λzz zx=>?_;refine rE zx ?_;refine e1a0 hb.inv λzz Gz=>?_;refine rE Gz ?_;exact WP.kept z λQ E q=>PyProof.Rows.eq_int (q _ _ (.refl ..) (ae _ (.bool _) k))
theorem vN (k:K (.bool (decide (a < b))) S):iX c C (compareOp .Lt) (.int a) (.int b) S K X:=λA F bs s ra rb hA z ha hb=>by refine e1a0 ha.inv λzz An=>?_;refine rE An ?_;refine e1a0 hb.inv λzz rz=>?_;refine rE rz ?_;exact WP.kept z λQ E q=>PyProof.Rows.lt_int (q _ _ (.refl ..) (ae _ (.bool _) k))
theorem jn (k:K (.bool (a==b)) S):iX c C (compareOp .Eq) (.str a) (.str b) S K X:=λA F bs s ra rb hA z ha hb=>by refine e1a0 ha.inv λzz o6=>?_;refine rE o6 ?_;refine e1a0 hb.inv λzz o5=>?_;refine rE o5 ?_;exact WP.kept z λQ E q=>PyProof.Rows.eq_str (q _ _ (.refl ..) (ae _ (.bool _) k))
theorem Ao (k:K (.bool (a != b)) S):iX c C (compareOp .NotEq) (.str a) (.str b) S K X:=λA F bs s ra rb hA z ha hb=>by refine e1a0 ha.inv λzz o4=>?_;refine rE o4 ?_;refine e1a0 hb.inv λzz o3=>?_;refine rE o3 ?_;exact WP.kept z λQ E q=>PyProof.Rows.ne_str (q _ _ (.refl ..) (ae _ (.bool _) k))
theorem GA (k:K (.bool (a.cps.toList < b.cps.toList)) S):iX c C (compareOp .Lt) (.str a) (.str b) S K X:=λA F bs s ra rb hA z ha hb=>by refine e1a0 ha.inv λzz o2=>?_;refine rE o2 ?_;refine e1a0 hb.inv λzz o1=>?_;refine rE o1 ?_;exact WP.kept z λQ E q=>PyProof.Rows.lt_str (q _ _ (.refl ..) (ae _ (.bool _) k))
end
theorem Dn (hn:s.heap.Ns a m)(ho:s.heap.get? a=some o)
 (hQ:∀h' o',h'.Ns a (λx=>if x=name then some v else m x)->Heap.SameBut a s.heap h'->h'.get? a=some o'->o'.cls=o.cls->(∀vs,o'.data≠.fields vs)->Q () {s with heap:=h',toks:=s.toks+1}) :
 wpAny M A (nsSet a name v) Q E s:=by
 refine e3a3 hn λRS es ep E4 hd hk hm=>?_;obtain rfl:=aX (aF (af ho) E4);refine ai (ai (wpAny_askSetting (bo ?_)));refine ai (wpAny_mkText ?_);refine ai (wpAny_loadPart (s:={s with toks:=s.toks+1}) ho ?_);refine rE hd ?_;have yv:es.any (·.refKey)=false:=by rw [Array.any_eq_false'];intro e he;refine e2a0 (hk e he) λn t h=>?_;simp [DictEntry.refKey,h]
 have hf:aRefKeyMayBeTheName name es=false:=by rw [aRefKeyMayBeTheName_eq];unfold aRefKeyMayBeTheNameByArray;simp [yv]
 dsimp only;refine rE hf ?_;refine wpAny_updatePart (s:={s with toks:=s.toks+1}) ho ?_;obtain ⟨oc,od,dt,sl⟩:=o;clear E4;subst hd;have fin:∀Ap QK,Obj.putName name (if name.cps.isEmpty then 0 else reduceHash (M.w.params.strHash name.cps)) (.str name s.toks) v ⟨oc,od,.dict es ep,sl⟩=⟨oc,od,.dict Ap QK,sl⟩->StrKeys Ap ->
  (∀x,nsFind Ap x=if x=name then some v else m x) ->
  Q () {s with heap:=s.heap.update a (Obj.putName name (if name.cps.isEmpty then 0 else reduceHash (M.w.params.strHash name.cps)) (.str name s.toks) v),toks:=s.toks+1}:=by
  intro Ap QK e k f;obtain g:(s.heap.update a (Obj.putName name (if name.cps.isEmpty then 0 else reduceHash (M.w.params.strHash name.cps)) (.str name s.toks) v)).get? a=some ⟨oc,od,.dict Ap QK,sl⟩:=by refine e▸?_;exact jS _ ho (by rw [e];rfl)
  exact hQ _ _ (gq _ Ap QK g rfl k f) (Heap.SameBut.update ..) g rfl (λvs q=>by cases q)
 cases hi:es.findIdx? (·.key.isStr name) with
 | some i =>refine fin _ _ (by simp only [Obj.putName_eq,Obj.putNameByArray,hi];rfl) (hk.modify _ _) λx=>?_;rw [<-hm];exact findBy_modify (λn v=>v.isStr n) Value.isStr_inj es name x v i hi
 | none =>
   refine fin _ _ (by simp only [Obj.putName_eq,Obj.putNameByArray,hi];rfl) (hk.push _ _ _ _) λx=>?_;rw [<-hm];refine findBy_push (λn v=>v.isStr n) es name x _ _ v (λy=>?_) hi;show (name==y)=decide (y=name);by_cases h:y=name
   . cases h;simp
   . obtain this:¬name=y:=λe=>h e.symm;simp [h,this]
section
variable {c:aP}{C:Cx}{A:Around}{F:G}{bs:List Addr}{S:AS}{s:Shared}{X:String->AS->Prop}{x:Str}{v:AV}{r:Value}
def aV (C:Cx)(_:G)(x:Str):Prop:=C.env.kindOf x=some .local\/(C.env.kindOf x=some .cell/\∃a,C.env.cells.lookup x=some a/\a∈C.own)
theorem pH (z:St c C F bs S s)(hi:C.vars[i]?=some x)(hx:aV C (λzz=>none) x)(hv:c.V F bs v r){K:Unit->AS->Prop}(k:K () (S.put i v)):WP c C A (λzz zz zz zz=>True) (storeName C.env x r) F bs s K X:=by
 (refine bh hx (λhk=>?_) (λRT=>?_);rotate_left;obtain ⟨hk,a,hc,ho⟩:=RT;rotate_right)
 . refine e1a1 z.locs λm hN hl=>?_;refine e1a1 z.fV λo Jo dL=>?_;obtain hp:(C.env.scope.kind==.class||(C.env.scope.kind==.module&&C.env.locals != C.env.globals))=false:=by refine rE z.kind ?_;rfl
   rw [storeName_local hk hp];refine Dn hN Jo λh' o' Zt hs tX Do wS=>?_;obtain T:ff C.env.locals s {s with heap:=h',toks:=s.toks+1}:=⟨λb q o e=>(hs.2 b q).trans e,(bQ o' tX),rfl,rfl⟩
   refine ⟨F,bs,(),S.put i v,Step.upd T (.inr z.cm),?_,trivial,k⟩;refine z.Ah hi hk hv (λm' Zu=>?_) hs rfl rfl rfl (a9 o' tX (by refine rE Do ?_;exact dL) (λqM e=>⟨by lia,wS⟩));refine e3a3 Zu λRS XF XG sw RU k₁ i8=>?_;refine e3a3 hN λAq E5 XH GB GC k₂ sB=>?_;obtain rfl:=aX (aF (af sw) GB);replace GC:=RU▸GC;clear k₂;cases GC;refine e3a3 Zt λAr Jp Jq nH RV bv As=>?_;exact (gq Ar Jp Jq nH RV bv (λy=>by rw [As];show (if y=x then some r else m y)=if y=x then some r else m' y;rw [<-sB y,i8 y]))
 . obtain ⟨E0,IN,oa,IO,Ai,va,Gr⟩:=z.cells x a hc;obtain hF:=(z.own a ho).1;delta WP storeName;simp only [hk,z.kind];refine ai (wpAny_cellOf hc ?_);refine ai (wpAny_load IO ?_);simp only [Gr];refine wpAny_update IO ?_;obtain g:(s.heap.update a λo=>{o with data:=.cell (some r)}).get? a=some {oa with data:=.cell (some r)}:=jS _ IO rfl;obtain hs:Heap.SameBut a s.heap (s.heap.update a λo=>{o with data:=.cell (some r)}):=Heap.SameBut.update ..;obtain T:ff a s {s with heap:=s.heap.update a λo=>{o with data:=.cell (some r)}}:=⟨λb q o e=>(hs.2 b q).trans e,(bQ _ g),rfl,rfl⟩
   exact ⟨F,bs,(),S.put i v,Step.upd T (.inr ho),z.setCell hi hk hc hF hv IO g hs rfl rfl rfl,trivial,k⟩
end
inductive vC where
 | next | brk | cont
 | ret (v:AV)
abbrev cK:=String->AS->Prop
abbrev sU:=List AV->AS->Prop
abbrev cw:=AV->AS->Prop
abbrev gw:=vC->AS->Prop
abbrev vO:=Nat->AS->Prop
abbrev cR:=AS->Prop
abbrev vP:=Value->Shared->Prop
abbrev lC:=Shared->Prop
abbrev dZ:=Str->Option Value
abbrev fq:=List (Str×AV)
abbrev dI:=List (Nat×AV)
abbrev Dp:=List (Str×Value)
abbrev uj:=List (Option AV)
abbrev a8:=List Str
abbrev aA:=List Addr
abbrev bW:=List AV
abbrev aI:=List AO
abbrev iC:=List Value
abbrev aS:=List Nat
abbrev cz:=List Expr
abbrev eD:=List Stmt
abbrev qN:=Option Value
def mI (c:aP)(F:G)(bs:aA):vC->Flow->Prop
 | .next,f=>f=.next
 | .brk,f=>f=.brk
 | .cont,f=>f=.cont
 | .ret v,f=>∃r,f=.ret r/\c.V F bs v r
def Ex (c:aP)(C:Cx)(ss:eD)(S:AS)(K:gw)(X:cK):Prop :=
 ∀A F bs s,i7 C A->St c C F bs S s->WP c C A (mI c) (execs ss C.env) F bs s K X
def jK (c:aP)(C:Cx)(st:Stmt)(S:AS)(K:gw)(X:cK):Prop :=
 ∀A F bs s,i7 C A->St c C F bs S s->WP c C A (mI c) (exec st C.env) F bs s K X
@[reducible] def Jr (c:aP) (C:Cx) (ss:eD) (K:gw) (X:cK):cR:=λS=>Ex c C ss S K X
def dT:cK:=λzz zz=>False
inductive GD (c:aP)(F:G)(bs:aA)(h₀:Heap)(K:AV->aI->Prop)(r:Except Value Flow)(s':Shared):Prop
 | mk (F':G) (az:aA) (v:AV) (H':aI) (rv:Value) (own:aA) (e:r=.ok (.ret rv)) (ho:∀b∈own,h₀.get? b=none) (st:Step own F bs h₀ F' az s'.heap) (wd:Wd c F' az H' s') (hv:c.V F' az v rv) (hk:K v H')
def bC (c:aP)(n:Nat)(fv:Value)(args:bW)(H:aI)(K:AV->aI->Prop):Prop :=
 ∀A F bs s rs fr,A.handled=none->A.depth+n < recursionLimit->A.units+20*n < cLine->A.frames=some fr->(∀e∈fr,gg s.heap e/\∀L,e.frame=some L->F L=none/\L∉bs) ->
  Wd c F bs H s->c.Vs F bs args rs ->
  codeAny (model c.prog c.w) A (.call fv ⟨rs,[]⟩) (GD c F bs s.heap K) s
@[reducible] def Au (K:AV->aI->Prop):gw:=λfl S=>match fl with
 | .next=>K .none S.heap
 | .ret v=>K v S.heap
 | _=>False
def mJ (c:aP)(fd:FuncData)(args:bW)(binds:fq):Prop :=
 ∀A F bs H s rs (E:vP) (Q:Dp->lC),Wd c F bs H s->c.Vs F bs args rs ->
  (∀F' s' rb,Step [] F bs s.heap F' bs s'.heap->Wd c F' bs H s'->c.SV F' bs binds rb->Q rb s')->wpAny (model c.prog c.w) A (bindArgs fd ⟨rs,[]⟩) Q E s
section
variable {c:aP}{F:G}{bs:aA}
theorem bE.zip {ns:a8}(h:c.Vs F bs xs vs):c.SV F bs (ns.zip xs) (ns.zip vs):=by
 induction ns generalizing xs vs with
 | nil=>exact .nil
 | cons n ns ih =>
   cases xs with
   | nil=>refine rE h.inv ?_;exact .nil
   | cons x xs=>refine e2a2 h.inv λzz zz Js h t=>?_;refine rE Js ?_;exact .cons h (ih t)
noncomputable def Each {α:Type}:Nat->(List α->Prop)->Prop
 | 0,P=>P []
 | n+1,P=>∀a,Each n λl=>P (a::l)
theorem Each.all:∀{P:List α->Prop},Each n P->∀l,l.length=n->P l:=by
 induction n with
 | zero=>intro P h l e;simp only [List.length_eq_zero_iff.mp e];exact h
 | succ n ih =>
   intro P h l e;cases l with
   | nil=>cases e
   | cons a l=>exact ih (h a) l (Nat.succ.inj e)
noncomputable def fdOf (fd:FuncData)(ps:Arguments)(dV:Value):FuncData:={fd with params:=ps,defaults:=dV,kwdefaults:=.none}
theorem xe (h1:fd.params=ps)(h2:fd.defaults=dV)(h3:fd.kwdefaults=.none):fdOf fd ps dV=fd:=by subst h1 h2;unfold fdOf;rw [<-h3]
def Plain (ps:Arguments)(dV:Value)(ns:a8)(n:Nat):Prop:=∀fd,Each n λrs=>bindArgs (fdOf fd ps dV) ⟨rs,[]⟩=pure (ns.zip rs)
theorem Plain.bind (h:Plain ps dV ns args.length)(h1:fd.params=ps)(h2:fd.defaults=dV)(h3:fd.kwdefaults=.none):mJ c fd args (ns.zip args) :=
 λA F bs H s rs E Q wd hv k=>by refine (xe h1 h2 h3)▸(af ((h fd).all rs hv.length))▸?_;exact bo (k F s _ (.refl ..) wd (bE.zip hv))
end
structure Opened (C:Cx)(fd:FuncData)(fa:Addr)(n:Nat)(vars:a8):Prop where
 vars:C.vars=vars
 env:∃L,C.env=callEnvC fd L fa
 scope:C.env.scope=fd.scope
 handled:C.handled=none
 n:C.n=n
 frames:∃fr,C.frames=C.env::fr
 cell:∀x,fd.scope.names.lookup x=some .cell->aV C (λzz=>none) x
 code:C.env.code=fd.code
 fo:∀x a,C.env.cells.lookup x=some a->a∈C.own
theorem Opened.kind {n:Nat}{vars:a8}(o:Opened C fd fa n vars)(x:Str):C.env.kindOf x=fd.scope.names.lookup x:=by unfold Env.kindOf;rw [o.scope]
section
variable {c:aP}{C:Cx}{A:Around}{F:G}{bs:aA}{S:AS}{s:Shared}{X:cK}
noncomputable def cX:Nat->fq->dI->dI
 | _,[],l=>l
 | n,(_,v)::r,l=>cX (n+1) r (a7 l n v)
theorem uk (f:Str×Value->PUnit->Sem (ForInStep PUnit))(hf:∀n v u,f (n,v) u=(do storeName C.env n v;pure (.yield ⟨⟩)))(binds:fq)(n:Nat)(rb:Dp)(F:G)(bs:aA)(S:AS)(s:Shared)(K:PUnit->cR)
 (z:St c C F bs S s) (hv:c.SV F bs binds rb) (hi:∀(j:Nat) (p:Str×AV),binds[j]?=some p->C.vars[n+j]?=some p.1) (hs:∀x v,(x,v)∈binds->aV C (λzz=>none) x) (k:K ⟨⟩ {S with loc:=cX n binds S.loc}):WP c C A (λzz zz zz zz=>True) (forIn rb PUnit.unit f) F bs s K X:=by
 induction binds generalizing n rb F bs S s with
 | nil=>refine rE hv.inv ?_;skip;exact WP.pure z trivial k
 | cons p binds ih =>
   refine e2a2 hv.inv λr rb o2 h t=>?_;refine rE o2 ?_;rw [List.forIn_cons,hf];refine WP.bind (R:=λ_ _ (_:PUnit) r=>r=ForInStep.yield PUnit.unit) (K₁:=λzz ac=>ac=S.put n p.2) ?_ λF₁ bs₁ ac Z u r' st ap hr hk=>?_
   . exact WP.bind (pH z (i:=n) (hi 0 _ rfl) (hs p.1 p.2 (.head _)) h (K:=λzz ac=>ac=S.put n p.2) rfl) λF₁ bs₁ ac Z u r' st ap hr hk=>WP.pure (v:=PUnit.unit) ap rfl hk
   . subst hr hk;have t':c.SV F₁ bs₁ binds rb:=by clear ap;refine e1a1 st.ext λnb o1 zz=>?_;refine rE o1 ?_;exact bE.mono st.sub t
     exact ih (n+1) rb F₁ bs₁ (S.put n p.2) Z ap t' (λj p e=>by rw [Nat.add_right_comm,Nat.add_assoc];exact hi (j+1) p (e)) (λy w m=>hs y w (.tail _ m)) k
end
theorem qO {code:Value}
 (h:wpAny M A (forIn binds PUnit.unit λp zz=>(do storeName (newEnv scope s.heap.objs.size globals (cellsFrom (s.heap.objs.size+1) scope.names []) qual func code none builtins) p.1 p.2;pure (.yield PUnit.unit)))
  (λzz s'=>Q (newEnv scope s.heap.objs.size globals (cellsFrom (s.heap.objs.size+1) scope.names []) qual func code none builtins) s') E {s with heap:=pushCells (s.heap.push {cls:=.type "frame",data:=.dict #[]}) scope.names}) :
 wpAny M A (newFunctionEnv scope globals [] binds qual func code none builtins) Q E s:=by
 skip
 refine ai (wpAny_alloc ?_);refine ai (wpAny_layCells _ (λname kind cells=>by cases Jt:kind==NameKind.cell <;> simp [Jt]) _ _ _ _ ?_);refine rE (show ({s with heap:=s.heap.push {cls:=.type "frame",data:=.dict #[]}}:Shared).heap.objs.size=s.heap.objs.size+1 from iA ..) ?_;exact ai (aJ h (λzz zz q=>bo q) λzz zz e=>e)
end Mine.Internal
set_option linter.unusedSimpArgs false
namespace Mine.Internal
open PySem PyProof.Rows
noncomputable abbrev fW:Obj:={cls:=.type "cell",data:=.cell none}
set_option tactic.hygienic true in
theorem mK:∀(names:List (Str×NameKind)) (h:Heap) (acc:List (Str×Addr)),(∀x a,(x,a)∈acc->h.get? a=some fW)->∀x a,(x,a)∈cellsFrom h.objs.size names acc->(pushCells h names).get? a=some fW
 | [],_,_,k,x,a,m=>k x a m
 | (y,kd)::r,h,acc,k,x,a,m=>by
   dsimp only [cellsFrom] at m;dsimp only [pushCells]
   split at m
   . rename_i hk;rw [if_pos hk];refine mK r (h.push fW) ((y,h.objs.size)::acc) (λx' a' m'=>?_) x a (by rw [iA];exact m)
     (refine bh (er m') (λe=>?_) (λm'=>?_))
     . clear m';cases e;exact dw _ rfl
     . exact cI _ (k x' a' m')
   . rename_i hk;rw [if_neg hk];exact mK r h acc k x a m
section
variable {c:aP}{mg mb:dZ}
theorem enter (B:Base c mg mb){K:AV->aI->Prop}(vars:a8)(RW:vars.Nodup)(wT:∀(j:Nat)(p:Str×AV),binds[j]?=some p->vars[j]?=some p.1)
 (hf:c.h₀.get? fa=some o) (GE:o.cls≠.none) (xf:o.data=.func fd) (ul:fd.body=.stmts body)
 (gH:Ad c.h₀ fd.code fd.qualname)
 (xg:fd.globals=mainGlobals) (Dq:fd.builtins=builtinsNs) (RX:fd.closure=[])
 (hk:fd.scope.kind=.function) (QL:fd.scope.isCoroutine=false) (Dr:fd.scope.isGenerator=false)
 (hb:mJ c fd args binds) (GF:∀x v,(x,v)∈binds->fd.scope.names.lookup x=some .local\/fd.scope.names.lookup x=some .cell)
 (h:∀C,Opened C fd fa n vars->Ex c C body ⟨cX 0 binds [],H⟩ (Au K) dT) :
 bC c (n+1) (.ref fa) args H K:=by
 intro A F bs s rs fr hh hd hu j7 ms wd hv;obtain yu:∀b o,c.h₀.get? b=some o->o.cls≠.none->s.heap.get? b=some o:=λb o e q=>wd.sub _ _ (wd.base _ _ e (.inl q));obtain ⟨cc,oc,vs,t,GG,yw,GH,QM,Zv⟩:=gH;refine codeAny_call_function (sM hd) (yu _ _ hf GE) xf QL Dr ul (i4 cc oc vs t GG (yu _ _ yw GH) QM Zv) ?_;refine hb _ F bs H s rs _ _ wd hv λF₁ Z rb al um oq=>?_;rw [RX,xg,Dq];refine qO ?_;generalize hL:Z.heap.objs.size=L;generalize Ds:cellsFrom (L+1) fd.scope.names []=cs;generalize hE:newEnv fd.scope L mainGlobals cs (fd.qualname++".<locals>.") (some fa) fd.code none builtinsNs=env;have eE:env=callEnvC fd L fa:=by rw [<-hE,<-Ds];unfold callEnvC;rw [xg,Dq]
 obtain At:env.locals=L:=by rw [<-hE];rfl
 have yx:env.cells=cs:=by rw [<-hE];rfl
 have zy:env.scope=fd.scope:=by rw [<-hE];rfl
 let C:Cx:=⟨env,L::cs.map (·.2),env::fr,none,n,vars⟩
 generalize bG:({Z with heap:=pushCells (Z.heap.push {cls:=.type "frame",data:=.dict #[]}) fd.scope.names}:Shared)=am;have keep:∀b o,Z.heap.get? b=some o->am.heap.get? b=some o:=λb o e=>by rw [<-bG];exact pushCells_keeps _ _ _ _ (cI _ e)
 obtain mv:ba c F₁ bs Z am:=⟨keep,by rw [<-bG],by rw [<-bG]⟩
 have jL:∀b∈C.own,Z.heap.get? b=none:=λb lw=>by
  refine gp ?_;rcases er lw with e | m
  . rw [e,hL];exact aZ _
  . refine e1a1 (fy m) λp hp o3=>?_;obtain rfl:=o3;have ok:=cellsFrom_ok fd.scope.names (Z.heap.push {cls:=.type "frame",data:=.dict #[]}) (L+1) [] ⟨λzz zz hm=>(nomatch hm),List.Pairwise.nil⟩ (by rw [iA,hL];exact aZ _);rw [iA,hL,Ds] at ok;obtain this:=(ok.empty p.1 p.2 hp).2;rw [hL];exact arith1 this
 have pp:∀x a,(x,a)∈cs->am.heap.get? a=some fW:=λx a m=>by rw [<-bG];refine mK fd.scope.names (Z.heap.push {cls:=.type "frame",data:=.dict #[]}) [] (λzz zz m=>nomatch m) x a ?_;rw [iA,hL,Ds];exact m
 have ot:am.heap.get? L=some {cls:=.type "frame",data:=.dict #[]}:=by rw [<-bG];exact pushCells_keeps _ _ _ _ (hL▸dw _ rfl)
 have RY:∀x y a,cs.lookup x=some a->cs.lookup y=some a->x=y:=λx y a e1 e2=>by have ok:=cellsFrom_ok fd.scope.names (Z.heap.push {cls:=.type "frame",data:=.dict #[]}) (L+1) [] ⟨λzz zz hm=>(nomatch hm),List.Pairwise.nil⟩ (by rw [iA,hL];exact aZ _);rw [iA,hL,Ds] at ok;exact name_of_addr ok.apart (mem_of_lookup e1) (mem_of_lookup e2)
 have jm:∀b,Z.heap.get? b=none->F₁ b=none/\b∉bs:=λb e=>by
  refine ⟨?_,λm=>by refine e1a0 (um.there b m) λo' e'=>?_;exact bx (aF (af e) e')⟩;cases q:F₁ b with
  | none=>rfl
  | some o'=>exact iY (aF (af (um.sub _ _ q)) e)
 obtain z:St c C F₁ bs ⟨[],H⟩ am:=by
  refine ⟨um.keep (S:=⟨[],H⟩) mv,(ae (λzz=>none) ?_ nofun),(ae _ (by show am.heap.get? env.locals=_;rw [At];exact ot) (by decide)),by show env.locals∈_;rw [At];exact .head _,λb lw=>?_,λx a e=>?_,λx y a e1 e2=>?_,λe he=>?_,by show env.globals=_;rw [<-hE];rfl,by show env.builtins=_;rw [<-hE];rfl,by show env.scope.kind=_;rw [zy];exact hk,RW,λzz x a e=>.inl (.tail _ (eK (ae (x,a) (mem_of_lookup (yx▸e)) rfl)))⟩
  . show am.heap.Ns env.locals _;rw [At];exact (gq _ (#[]) 0 ot rfl (λzz he=>by simp at he) (λzz=>rfl))
  . obtain gM:=jL b lw;refine (aH ((jm b gM).1) ((jm b gM).2) ?_)
    (refine bh (er lw) (λe=>?_) (λm=>?_))
    . exact (bQ _ (e▸ot))
    . refine e1a1 (fy m) λp hp o2=>?_;refine o2▸?_;exact (bQ _ (pp p.1 p.2 hp))
  . obtain e':cs.lookup x=some a:=by rw [<-yx];exact e
    obtain m:=mem_of_lookup e';obtain gM:=jL a (.tail _ (eK (ae (x,a) m rfl)));refine (aH ((jm a gM).2) (λq=>?_) ⟨_,pp x a m,rfl,none,rfl⟩);obtain q':a=L:=by rw [<-At];exact q
    clear At eE;subst q';obtain this:=pp x a m;rw [ot] at this;simp [fW] at this
  . exact RY x y a (by rw [<-yx];exact e1) (by rw [<-yx];exact e2)
  . rcases er he with e' | he
    . rw [e'];have QN:env.frame=some L:=by rw [<-hE];rfl
      refine ⟨⟨by rw [zy,hk];simp,L,_,QN,ot,rfl,nofun⟩,λL' q=>?_⟩;refine (aX (aF (af QN) q))▸?_;exact jm L (jL L (.head _))
    . refine e0a1 (ms e he) λf1 f2=>?_;obtain ⟨k1,L',o',e1,e2,e3,e4⟩:=f1;refine e0a1 (f2 L' e1) λq1 q2=>?_;refine e1a1 (al.dQ L' o' e2 (by simp) q2 (by rw [e3];simp)) λAq e5 s5=>?_;refine ⟨⟨k1,L',Aq,e1,keep _ _ e5,s5.cls.trans e3,λvs=>by rw [s5.data];exact e4 vs⟩,λZw q=>?_⟩;refine (aX (aF (af e1) q))▸?_;refine ⟨?_,q2⟩;cases q3:F₁ L' with
      | none=>rfl
      | some Ar=>(refine bh (al.i6 L' Ar q3 q1) (λy=>?_) (λy=>?_))
                 . exact bx (aF (af y) e2)
                 . exact absurd y q2
 have be:∀x,fd.scope.names.lookup x=some .cell->aV C (λzz=>none) x:=λx e=>by
  obtain db:(cs.lookup x).isSome=true:=by rw [<-Ds];exact PySem.W.cellsFrom_some _ _ _ (.inl e)
  refine e1a0 (Option.isSome_iff_exists.mp db) λa ha=>?_;refine .inr (oi (by show env.kindOf x=_;unfold Env.kindOf;rw [zy];exact e) a (by show env.cells.lookup x=_;rw [yx];exact ha) (.tail _ (eK (ae (x,a) (mem_of_lookup ha) rfl))))
 obtain op:Opened C fd fa n vars:=⟨rfl,(bQ L eE),zy,rfl,rfl,(bQ fr rfl),be,by show env.code=_;rw [<-hE];rfl,λx a e=>.tail _ (eK (ae (x,a) (mem_of_lookup (by rw [<-yx];exact e)) rfl))⟩
 obtain IQ:=uk (c:=c) (C:=C) (A:=A.in1) (X:=dT) (λp zz=>(do storeName env p.1 p.2;pure (.yield PUnit.unit))) (λzz zz zz=>rfl) binds 0 rb F₁ bs ⟨[],H⟩ am (λzz S'=>S'=⟨cX 0 binds [],H⟩) z oq (λj p e=>by rw [Nat.zero_add];exact wT j p e)
  (λx v m=>(GF x v m).elim (λe=>.inl (by show env.kindOf x=_;unfold Env.kindOf;rw [zy];exact e)) (be x)) rfl
 have stK:Step C.own F bs s.heap F₁ bs am.heap:=(al.widen (by simp)).trans (.keep mv);refine aJ IQ (λzz aM RZ=>RZ.casesOn λbn aK zz aO aE aR zz nH=>?_) (λzz zz R0=>R0.casesOn λzz zz zz zz zz zz zz q=>q.elim);subst nH;refine ⟨aR.wd.Ak B,codeAny_func ?_⟩;obtain body:=h C op (A.deeper env) bn aK aM ⟨hh,by show A.depth+1+n < _;exact pn hd,by show A.units+3+20*n < _;exact sO hu,by show A.frames.map _=_;rw [j7];rfl⟩ aR;refine aJ body (λf cr R3=>R3.casesOn λd7 ce fl di ca cW ou gP=>?_) (λzz zz R4=>R4.casesOn λzz zz zz zz zz zz zz q=>q.elim);have E6:∀b∈C.own,s.heap.get? b=none:=λb lw=>by
  cases q:s.heap.get? b with
  | none=>rfl
  | some o'=>refine e1a0 (al.mono _ _ q) λDj Ae=>?_;exact bx (aF (af (jL b lw)) Ae)
 cases fl with
 | next=>refine rE ou ?_;exact ⟨d7,ce,.none,di.heap,_,C.own,rfl,E6,(stK.trans aE).trans ca,cW.wd,.none,gP⟩
 | ret v=>refine e1a1 ou λr o1 hr=>?_;clear ou;refine rE o1 ?_;exact ⟨d7,ce,v,di.heap,_,C.own,rfl,E6,(stK.trans aE).trans ca,cW.wd,hr,gP⟩
 | brk=>exact gP.elim
 | cont=>exact gP.elim
end
def oR (c:aP)(C:Cx)(pos:Pos)(es:cz)(S:AS)(K:sU)(X:cK):Prop :=
 ∀A F bs s,i7 C A->St c C F bs S s->WP c C A c.Vs (spliced (backTo pos (starEach es C.env))) F bs s K X
section
variable {c:aP}{C:Cx}{S:AS}{X:cK}{pos:Pos}
theorem bI {K:sU}(k:K [] S):oR c C pos [] S K X:=λA F bs s hA z=>WP.pure z .nil k
@[reducible] def xh (v:AV) (K:sU):sU:=λvs=>K (v::vs)
@[reducible] def R5 (c:aP) (C:Cx) (pos:Pos) (es:cz) (K:sU) (X:cK):cw:=λv S=>oR c C pos es S (xh v K) X
@[reducible] def R6 (K:sU):cw:=λv=>K [v]
@[reducible] def xi (K:cw) (S:AS):AV->aI->Prop:=λv H=>K v {S with heap:=H}
@[reducible] def Ju (c:aP) (n:Nat) (f:Value) (K:cw):sU:=λvs S=>bC c n f vs S.heap (xi K S)
theorem aw {e:Expr}{es:cz}{K:sU}(h:Ev c C e S (R5 c C pos es K X) X)
 (he:starEach (e::es) C.env=(false,eval e C.env)::starEach es C.env:=by rfl):oR c C pos (e::es) S K X:=by
 intro A F bs s hA z;refine rE he ?_;show WP c C A c.Vs (spliced ((false,eval e C.env)::backTo pos (starEach es C.env))) F bs s K X;refine WP.bind (h A F bs s hA z) λF₁ bs₁ ac Z v r al ap hv k₁=>?_;refine WP.bind (R:=λ_ _ (_:Unit) x=>x=[r]) (K₁:=λzz S'=>S'=ac) (WP.pure (v:=()) ap rfl rfl) λaT ax aC am zz x an aG hx GB=>?_;clear ap;subst hx GB;refine WP.bind (WP.holding (k₁ A aT ax am hA aG)) λbn aK aO aM vs rs aE aR bi bv=>?_;exact WP.pure aR (.cons (aE.V (an.V hv)) bi) bv
theorem ak {e:Expr}{K:sU}(h:Ev c C e S (R6 K) X)(he:starEach [e] C.env=[(false,eval e C.env)]:=by rfl):oR c C pos [e] S K X :=
 aw (λA F bs s hA z=>(h A F bs s hA z).mono (λv ac k=>bI k) λzz zz q=>q) he
theorem oz:∀(ts:List (Bool×Sem Value)),(∀x,ts≠[(true,x)])->wpAny M A (spliced ts) (λvs s'=>Q ⟨vs,[]⟩ s') E s->wpAny M A (evalArgs f true ts []) Q E s
 | [],_,h=>by refine ai (aJ h (λvs s' h'=>?_) λzz zz x=>x);refine wpAny_holding ?_;exact ai (bo (ai (bo (bo h'))))
 | (false,x)::r,_,h=>Calls.evalArgs_plain h
 | [(true,x)],n,_=>absurd rfl (n x)
 | (true,x)::y::r,_,h=>by refine ai (aJ h (λvs s' h'=>?_) λzz zz x=>x);refine wpAny_holding ?_;exact ai (bo (ai (bo (bo h'))))
noncomputable def mM:List (Bool×Sem Value)->Bool
 | [a]=>a.1
 | _=>false
theorem gh {es:cz}{f:Value}{K:sU}{A:Around}{F:G}{bs:aA}{s:Shared}(hA:i7 C A)(z:St c C F bs S s)(h:oR c C pos es S K X)
 (hl:mM (backTo pos (starEach es C.env))=false:=by rfl):WP c C A (λF bs vs (a:Args)=>a.kw=[]/\c.Vs F bs vs a.pos) (evalArgs f true (backTo pos (starEach es C.env)) []) F bs s K X :=
 oz _ (λzz q=>qK (hl.symm.trans (congrArg mM q))) (aJ (h A F bs s hA z) (λvs s' q1=>q1.casesOn λF' az v S' st z' hv k=>⟨F',az,v,S',st,z',⟨rfl,hv⟩,k⟩) λzz zz e=>e)
def FnAt (c:aP)(fa:Addr):Prop:=∃o fd,c.h₀.get? fa=some o/\o.cls≠.none/\o.data=.func fd
theorem wp_call {K:cw}(hA:i7 C A)(hh:C.handled=none)(hn:n<=C.n)(z:St c C F bs S s)(hv:c.Vs F bs args rs)
 (h:bC c n fv args S.heap (xi K S)):WP c C A c.V (call fv rs) F bs s K X:=by
 refine wpAny_call ?_;obtain hd:=hA.depth;obtain hu:=hA.units;refine codeAny_mono (h A F bs s rs C.frames (hA.handled.trans hh) (se hd hn) (r9 hu hn) hA.frames z.frames z.wd hv) λr s' ⟨F',az,v,H',rv,own,e,gM,st,wd,mt,k⟩=>?_;refine rE e ?_;exact ⟨F',az,v,{S with heap:=H'},st.widen λa ha=>.inr (gM a ha),z.after st gM wd,mt,k⟩
@[reducible] def Zx (c:aP) (C:Cx) (pos:Pos) (args:cz) (n:Nat) (K:cw) (X:cK):cw:=λfv S=>∃fa,fv=.raw (.ref fa)/\FnAt c fa/\oR c C pos args S (Ju c n (.ref fa) K) X
theorem rA {f:Expr}{args:cz}{K:cw}{n:Nat}(hh:C.handled=none)(hn:n<=C.n)
 (h:Ev c C f S (Zx c C pos args n K X) X)
 (he:eval (.Call f args [] pos) C.env=(do callWith pos (<-eval f C.env) [] (backTo pos (starEach args C.env)) (backToKw pos (keywordEach [] C.env))):=by rfl)
 (hl:mM (backTo pos (starEach args C.env))=false:=by rfl):Ev c C (.Call f args [] pos) S K X:=by
 intro A F bs s hA z;refine rE he ?_;refine WP.bind (h A F bs s hA z) λF₁ bs₁ ac Z fv r al ap Av q2=>e1a2 q2 λfa e q5=>e2a2 q5 λo fd ho dL hd k₁=>?_;clear q2;subst e;obtain ⟨_,rfl⟩:=Av.inv;refine Calls.callWith_function (o:=o) (fd:=fd) ?_;refine aJ (gh hA ap k₁ hl) (λa am q3=>q3.casesOn λaT ax vs aC an aG q6=>e0a1 q6 λoA bi k₂=>?_) (λzz zz e=>e);obtain ⟨ps,kw⟩:=a;have pr:kw=[]:=oA;refine rE pr ?_;refine ⟨⟨aG.yu (ae o ho dL) o ho,hd⟩,?_⟩;refine aJ (wp_call (X:=X) (s:=am) hA hh hn aG bi k₂) (λv aM q4=>q4.casesOn λbn aK v' aO aE aR fR bv=>⟨bn,aK,v',aO,an.trans aE,aR,fR,bv⟩) λx aM q5=>q5.casesOn λbn aK v' aO aE aR fR bv=>⟨bn,aK,v',aO,an.trans aE,aR,fR.back an.mono,bv⟩
end
def vD (c:aP)(C:Cx)(t:Expr)(v:AV)(S:AS)(K:cR)(X:cK):Prop :=
 ∀A F bs s r,i7 C A->St c C F bs S s->c.V F bs v r->WP c C A (λ_ _ (_:Unit) (_:Unit)=>True) (assign t C.env r) F bs s (λzz=>K) X
section
variable {c:aP}{C:Cx}{S:AS}{X:cK}{pos:Pos}
theorem wp_bindName {K:Unit->cR}(z:St c C F bs S s)(hi:C.vars[i]?=some x)(hx:aV C (λzz=>none) x)(hv:c.V F bs v r)(k:K () (S.put i v)):WP c C A (λzz zz zz zz=>True) (bindName C.env x r) F bs s K X :=
 wpAny_bindName (pH z hi hx hv k)
theorem ag (i:Nat){K:cR}(hi:C.vars[i]?=some x)(hx:aV C (λzz=>none) x)(k:K (S.put i v)):vD c C (.Name x pos) v S K X:=λA F bs s r hA z hv =>
 WP.standAt (wp_bindName z hi hx hv k)
noncomputable def yy (c:aP)(C:Cx):List (Expr×AV)->AS->cR->cK->Prop
 | [],S,K,_=>K S
 | (t,v)::r,S,K,X=>vD c C t v S (λS'=>yy c C r S' K X) X
theorem pI (hA:i7 C A):∀(ts:cz) (vs:bW) (rs:iC) (F:G) (bs:aA) (S:AS) (s:Shared) (K:cR),ts.length=vs.length->St c C F bs S s->c.Vs F bs vs rs->yy c C (ts.zip vs) S K X ->
 WP c C A (λ_ _ (_:Unit) (_:Unit)=>True) (assignInOrder (ts.map λt=>assign t C.env) rs) F bs s (λzz=>K) X:=by
 intro ts;induction ts with
 | nil=>intro vs rs F bs S s K hl z hv k;obtain rfl:=List.length_eq_zero_iff.mp hl.symm;refine rE hv.inv ?_;exact WP.pure (v:=()) z trivial k
 | cons t ts ih =>
   intro vs rs F bs S s K hl z hv k;cases vs with
   | nil=>exact absurd hl (Nat.succ_ne_zero _)
   | cons v vs =>refine e2a2 hv.inv λr rs o2 h1 h2=>?_;refine rE o2 ?_;have k':vD c C t v S (λS'=>yy c C (ts.zip vs) S' K X) X:=k;refine WP.bind (WP.holding (k' A F bs s r hA z h1)) λF₁ bs₁ ac Z zz zz al ap zz k₁=>?_;exact ih vs rs F₁ bs₁ ac Z K (Nat.succ.inj hl) ap (al.Vs h2) k₁
theorem rB (hA:i7 C A)(hh:C.handled=none)(z:St c C F bs S s)(hv:c.V F bs (.tup xs) r){K:sU}(k:K xs S):WP c C A c.Vs (unpackItems r xs.length none) F bs s K X:=by
 refine e2a2 hv.inv λa vs o1 ht bi=>?_;refine rE o1 ?_;obtain Jv:s.heap.IsTuple a vs.toArray:=(dz _ (z.wd.sub _ _ ht) rfl 0 rfl)
 obtain hlen:xs.length=vs.toArray.size:=by skip;exact bi.length.symm
 refine rE hlen ?_;refine wpAny_unpackItems_tuple (hA.handled.trans hh) Jv λh' hx=>?_;obtain m:ba c F bs s {s with heap:=h'}:=⟨λb o e=>hx b o (cA (Heap.lt_size e)) e,rfl,rfl⟩
 exact ⟨F,bs,xs,S,.keep m,z.keep m,bi,k⟩
theorem nI {ts:cz}{kd:Nat}{xs:bW}{K:cR}(hh:C.handled=none)(hl:ts.length=xs.length)(h:yy c C (ts.zip xs) S K X)(hp:assignEach ts C.env=ts.map λt=>(false,assign t C.env):=by rfl):vD c C (.Tuple ts kd pos) (.tup xs) S K X:=by
 intro A F bs s r hA z hv;refine WP.standAt ?_;delta unpack;refine rE hp ?_;obtain e1:((ts.map λt=>(false,assign t C.env)).findIdx? (·.1))=none:=by simp
 simp only [e1,qL,List.map_map,hl];refine WP.bind (WP.holding (rB (K:=λvs S'=>vs=xs/\S'=S) hA hh z hv ⟨rfl,rfl⟩)) λF₁ bs₁ ac Z vs rs al ap bi XI=>e0a1 XI λe e'=>?_;clear XI z hv;subst e e';exact pI hA ts vs rs F₁ bs₁ ac Z K hl ap bi h
end
section
variable {c:aP}{C:Cx}{S:AS}{X:cK}{pos:Pos}{K:gw}
@[reducible] def R7 (c:aP) (C:Cx) (rest:eD) (K:gw) (X:cK):gw:=λfl S=>match fl with | .next=>Ex c C rest S K X | f=>K f S
@[reducible] def R8 (c:aP) (C:Cx) (t:Expr) (K:cR) (X:cK):cw:=λv S=>vD c C t v S K X
@[reducible] def Jw (K:cR):cw:=λzz=>K
@[reducible] def Sa (K:gw):cw:=λv=>K (.ret v)
@[reducible] def Zy (c:aP) (C:Cx) (a b:eD) (K:gw) (X:cK):Bool->cR:=λt S=>if t then Ex c C a S K X else Ex c C b S K X
@[reducible] def putK (i:Nat) (K:gw):cw:=λw S=>K .next (S.put i w)
theorem aq (k:K .next S):Ex c C [] S K X:=λA F bs s hA z=>WP.pure (v:=vC.next) z rfl k
theorem ab {st:Stmt}(h:jK c C st S (R7 c C rest K X) X):Ex c C (st::rest) S K X:=by
 intro A F bs s hA z;refine WP.bind (h A F bs s hA z) λF₁ bs₁ ac Z fl f al ap hf k₁=>?_;cases fl with
 | next=>subst hf;exact k₁ A F₁ bs₁ Z hA ap
 | brk=>subst hf;exact WP.pure (v:=vC.brk) ap rfl k₁
 | cont=>subst hf;exact WP.pure (v:=vC.cont) ap rfl k₁
 | ret v=>refine e1a1 hf λr o2 hr=>?_;clear hf;obtain rfl:=o2;exact WP.pure (v:=vC.ret v) ap (ae r rfl hr) k₁
theorem ia {st:Stmt}(h:jK c C st S K' X)(hk:∀f S,K' f S->K f S):jK c C st S K X:=λA F bs s hA z=>(h A F bs s hA z).mono hk λzz zz q=>q
theorem pv {st:eD}(h:Ex c C st S K' X)(hk:∀f S,K' f S->K f S):Ex c C st S K X:=λA F bs s hA z=>(h A F bs s hA z).mono hk λzz zz q=>q
theorem kY {K K':cw}(h:Ev c C e S K' X)(hk:∀f S,K' f S->K f S):Ev c C e S K X:=λA F bs s hA z=>(h A F bs s hA z).mono hk λzz zz q=>q
theorem aj {t value:Expr}(h:Ev c C value S (R8 c C t (K .next) X) X)
 (hs:swapsWithSole [t] value pos.line C.env=pure false:=by rfl) (hw:swappedStores [t] value C.env=pure none:=by rfl) (hp:assignEach [t] C.env=[(false,assign t C.env)]:=by rfl):jK c C (.Assign [t] value pos) S K X:=by
 intro A F bs s hA z;show WP c C A (mI c) (do
  standAt pos
  if <-swapsWithSole [t] value pos.line C.env then do
   evalThenUse value C.env λv=>assignAll v ((assignEach [t] C.env).map (·.2))
   pure .next
  else do
   let v <-eval value C.env
   assignStores C.env v (<-swappedStores [t] value C.env) ((assignEach [t] C.env).map (·.2))) F bs s K X
 rw [hs,hw,hp];refine WP.standAt ?_;refine WP.bind (R:=λ_ _ (_:Unit) b=>b=false) (K₁:=λzz S'=>S'=S) (WP.pure (v:=()) z rfl rfl) λF₁ bs₁ ac Z zz b al ap hb sw=>?_;clear z;subst hb sw;refine WP.bind (h A F₁ bs₁ Z hA ap) λaT ax aC am v r an aG hv k₂=>?_;refine WP.bind (R:=λ_ _ (_:Unit) b=>b=none) (K₁:=λzz S'=>S'=aC) (WP.pure (v:=()) aG rfl rfl) λbn aK aO aM zz b aE aR hb nH=>?_;clear aG;subst hb nH;refine WP.bind (k₂ A bn aK aM r hA aR (aE.V hv)) λd7 ce di cr zz zz ca cW zz gP=>?_;exact WP.pure (v:=vC.next) cW rfl gP
theorem rC {t value:Expr}(ps:List (Nat×Str))(hh:C.handled=none)(be:∀p∈ps,aV C (λzz=>none) p.2)(hi:∀p∈ps,C.vars[p.1]?=some p.2)(h:Ev c C value S (λv ac=>∃xs,v=.tup xs/\xs.length=ps.length/\K .next {ac with loc:=(ps.reverse.zip xs.reverse).foldl (λl p=>a7 l p.1.1 p.2) ac.loc}) X)
 (hw:swappedStores [t] value C.env=pure (some (ps.map (·.2)))) (hs:swapsWithSole [t] value pos.line C.env=pure false:=by rfl):jK c C (.Assign [t] value pos) S K X:=by
 generalize Aw:ps.map (·.2)=names at hw;intro A F bs s hA z;show WP c C A (mI c) (do
  standAt pos
  if <-swapsWithSole [t] value pos.line C.env then do
   evalThenUse value C.env λv=>assignAll v ((assignEach [t] C.env).map (·.2))
   pure .next
  else do
   let v <-eval value C.env
   assignStores C.env v (<-swappedStores [t] value C.env) ((assignEach [t] C.env).map (·.2))) F bs s K X
 rw [hs,hw];refine WP.standAt ?_;refine WP.bind (R:=λ_ _ (_:Unit) b=>b=false) (K₁:=λzz S'=>S'=S) (WP.pure (v:=()) z rfl rfl) λF₁ bs₁ ac Z zz b al ap hb sw=>?_;subst hb sw;simp only [jT,if_false];refine WP.bind (h A F₁ bs₁ Z hA ap) λaT ax aC am v r an aG hv Sb=>e1a2 Sb λxs e hl k₂=>?_;subst e;refine WP.bind (R:=λ_ _ (_:Unit) b=>b=some names) (K₁:=λzz S'=>S'=aC) (WP.pure (v:=()) aG rfl rfl) λbn aK aO aM zz b aE aR hb nH=>?_;subst hb nH;show WP c C A (mI c) (do
  rule "assign.swapped-stores"
  let items <-unpackItems r names.length none
  assignInOrder (names.reverse.map λn=>bindName C.env n) items.reverse
  pure .next) bn aK aM K X
 refine WP.rule ?_;have e1:names.length=xs.length:=by rw [<-Aw,qL,hl]
 have e2:(names.reverse.map λn=>bindName C.env n)=ps.reverse.map λn=>bindName C.env n.2:=by rw [<-Aw,<-List.map_reverse,List.map_map];rfl
 rw [e1,e2];refine WP.bind (rB (K:=λvs S'=>vs=xs/\S'=aO) hA hh aR (aE.V hv) ⟨rfl,rfl⟩) λd7 ce di cr vs rs ca cW bi Sc=>e0a1 Sc λe e'=>?_;subst e e';have go:∀(ns:List (Nat×Str)) (ys:bW) (us:iC) (F:G) (bs:aA) (S:AS) (s:Shared),ns.length=ys.length->(∀p∈ns,C.vars[p.1]?=some p.2)->(∀p∈ns,aV C (λzz=>none) p.2)->St c C F bs S s->c.Vs F bs ys us ->
  WP c C A (λ_ _ (_:Unit) (_:Unit)=>True) (assignInOrder (ns.map λn=>bindName C.env n.2) us) F bs s (λzz S'=>S'={S with loc:=(ns.zip ys).foldl (λl p=>a7 l p.1.1 p.2) S.loc}) X:=by
  intro ns;induction ns with
  | nil=>intro ys us F bs S s hl _ _ z hv;exact WP.pure (v:=()) z trivial rfl
  | cons n ns ih =>
    intro ys us F bs S s hl hi hs z hv;cases ys with
    | nil=>exact absurd hl (Nat.succ_ne_zero _)
    | cons y ys =>refine e2a2 hv.inv λu us o1 h1 h2=>?_;obtain rfl:=o1;show WP c C A _ (do holding us (bindName C.env n.2 u);assignInOrder (ns.map λn=>bindName C.env n.2) us) F bs s _ X;refine WP.bind (WP.holding (wp_bindName z (hi n (.head _)) (hs n (.head _)) h1 (K:=λzz S'=>S'=S.put n.1 y) rfl)) λF₁ bs₁ ac Z zz zz al ap zz sw=>?_;subst sw;exact ih ys us F₁ bs₁ _ Z (Nat.succ.inj hl) (λx m=>hi x (.tail _ m)) (λx m=>hs x (.tail _ m)) ap (al.Vs h2)
 have rev:c.Vs d7 ce vs.reverse rs.reverse:=by
  have:∀(a b:bW) (u v:iC),c.Vs d7 ce a u->c.Vs d7 ce b v->c.Vs d7 ce (List.reverseAux a b) (List.reverseAux u v):=by
   intro a;induction a with
   | nil=>intro b u v hu hv;cases hu;exact hv
   | cons x a ih=>intro b u v hu hv;cases hu with | cons h1 h2=>exact ih (x::b) _ (_::v) h2 (.cons h1 hv)
  exact this vs [] rs [] bi .nil
 refine WP.bind (go ps.reverse vs.reverse rs.reverse d7 ce di cr (by simp [hl]) (λx m=>hi x (by simpa using m)) (λx m=>be x (by simpa using m)) cW rev) λfb dJ fu eF zz zz dl fc zz Sd=>?_;subst Sd;exact WP.pure (v:=vC.next) fc rfl k₂
theorem Ax {t value:Expr}(ps:List (Nat×Str))(hh:C.handled=none)(be:∀(i:Nat) x,C.vars[i]?=some x->aV C (λzz=>none) x)(hi:∀p∈ps,C.vars[p.1]?=some p.2)(h:Ev c C value S (λv ac=>∃xs,v=.tup xs/\xs.length=ps.length/\K .next {ac with loc:=(ps.reverse.zip xs.reverse).foldl (λl p=>a7 l p.1.1 p.2) ac.loc}) X)
 (hw:swappedStores [t] value C.env=pure (some (ps.map (·.2)))) (hs:swapsWithSole [t] value pos.line C.env=pure false:=by rfl):jK c C (.Assign [t] value pos) S K X :=
 rC ps hh (λp m=>be p.1 p.2 (hi p m)) hi h hw hs
theorem bw {e:Expr}(h:Ev c C e S (Jw (K .next)) X)(hi:interactive C.env=false)(hs:swapsWith e none pos.line C.env=pure false:=by rfl):jK c C (.Expr e pos) S K X:=λA F bs s hA z =>
 wpAny_Expr_any (aJ (h A F bs s hA z) (λr Z Se=>Se.casesOn λF₁ bs₁ v ac st ap hr k=>⟨F₁,bs₁,vC.next,ac,st,ap,rfl,k⟩) λzz zz e=>e) hi hs
theorem bf (h:Ev c C e S (Sa K) X):jK c C (.Return (some e) pos) S K X:=λA F bs s hA z =>
 wpAny_Return_some (aJ (h A F bs s hA z) (λr Z Sf=>Sf.casesOn λF₁ bs₁ v ac st ap hr k=>⟨F₁,bs₁,vC.ret v,ac,st,ap,(ae r rfl hr),k⟩) λzz zz e=>e)
theorem bz (h:xd c C test S (Zy c C body orelse K X) X):jK c C (.If test body orelse pos) S K X:=by
 intro A F bs s hA z;refine WP.standAt (WP.bind (h A F bs s hA z) λF₁ bs₁ ac Z b r al ap hb k₁=>?_);subst hb;cases r with
 | true=>skip;exact k₁ A F₁ bs₁ Z hA ap
 | false=>skip;exact k₁ A F₁ bs₁ Z hA ap
theorem Ay (k:K .next S):jK c C (.Pass pos) S K X:=λA F bs s hA z=>WP.standAt (WP.pure (v:=vC.next) z rfl k)
theorem nJ (k:K .brk S):jK c C (.Break pos) S K X:=λA F bs s hA z=>WP.standAt (WP.pure (v:=vC.brk) z rfl k)
theorem uo (k:K .cont S):jK c C (.Continue pos) S K X:=λA F bs s hA z=>WP.standAt (WP.pure (v:=vC.cont) z rfl k)
theorem Dt (z:St c C F bs S s)(hi:C.vars[i]?=some x)(hv:S.loc.lookup i=some v)(hn:(x==("__classdict__":Str))=false):WP c C A c.V (loadName C.env x) F bs s (λu S'=>u=v/\S'=S) X :=
 WP.kept z λQ E q=>z.load hi hv hn λr h=>q _ _ (.refl ..) (a9 v h rfl rfl)
theorem eV (i:Nat){x:Str}{Sg:Pos}{op:Operator}{value:Expr}{old:AV}(hi:C.vars[i]?=some x)(hold:S.loc.lookup i=some old)(be:aV C (λzz=>none) x)
 (h:Ev c C value S (Jm c C (inplaceOp op) old (putK i K) X) X) (hn:(x==("__classdict__":Str))=false:=by decide +kernel):jK c C (.AugAssign (.Name x Sg) op value pos) S K X:=by
 intro A F bs s hA z
 skip
 obtain XJ:=Dt (A:=A) (X:=X) z hi hold hn;refine WP.standAt (WP.bind XJ λF₁ bs₁ ac Z v r al ap hv Jx=>e0a1 Jx λe e'=>?_);clear Jx XJ hold z;subst e e';refine WP.bind (WP.holding (h A F₁ bs₁ Z hA ap)) λaT ax aC am b rb an aG hb k₂=>?_;refine WP.standAt (WP.bind (wpAny_operating (k₂ A aT ax am r rb hA aG (an.V hv) hb)) λbn aK aO aM w XK aE aR hw bv=>?_);refine WP.standAt (WP.bind (wp_bindName aR hi be hw (K:=λzz S'=>S'=aO.put i w) rfl) λd7 ce di cr zz zz ca cW zz Sh=>?_);subst Sh;exact WP.pure (v:=vC.next) cW rfl bv
end
def bZ (S:AS)(v:AV)(xs:bW):Prop:=v=.lst xs\/∃k,v=.ref k/\S.heap[k]?=some (.list xs)
section
variable {c:aP}{C:Cx}{S:AS}{F F':G}{bs az:aA}{s s':Shared}{A:Around}
theorem St.seq (z:St c C F bs S s)(h:bZ S v xs)(hv:c.V F bs v r):∃l vs,r=.ref l/\Df s.heap.get? l vs/\c.Vs F bs xs vs/\(F l≠none\/l∈bs):=by
 (refine bh h (λSi=>?_) (λJy=>?_);obtain rfl:=Si;rotate_left;clear h;refine e1a1 Jy λk GJ hk=>?_;clear Jy;obtain rfl:=GJ;rotate_right)
 . refine e2a2 hv.inv λzz zz GK h1 h2=>?_;refine rE GK ?_;exact (dA _ _ rfl (h1.sub z.wd.sub) h2 (.inl (by refine e1a0 h1 λn e=>?_;rw [e];simp)))
 . refine e1a1 hv.inv λzz Sj h1=>?_;refine rE Sj ?_;refine e0a1 (z.wd.obj k _ _ h1 hk) λAz zz=>?_;refine e1a1 Az λvs h2 h3=>?_;clear Az;exact (dA _ vs rfl h2 h3 (.inr (bJ h1)))
theorem Df.isList {g:Heap}(h:Df g.get? a vs):g.IsList a vs.toArray:=e1a0 h λn e=>(dz _ e rfl n rfl)
theorem cJ.step {own:aA}(f:cJ c C F bs a)(st:Step own F bs s.heap F' az s'.heap)(ho:s.heap.get? a=some o):cJ c C F' az a:=by
 refine e1a1 st.ext λnb Sk hn=>?_;refine rE Sk ?_;refine ⟨?_,λm=>?_,f.own,f.cells,f.frames⟩
 . cases e:F' a with
   | none=>rfl
   | some o' =>
     rcases st.i6 a o' e f.F with y | y
     . exact bx (aF (af y) ho)
     . exact absurd y f.bs
 . rcases bX m with m | m
   . exact f.bs m
   . exact bx (aF (af (hn a m)) ho)
structure Other (a:Addr)(s s':Shared):Prop where
 same:∀b,b≠a->∀o,s.heap.get? b=some o->s'.heap.get? b=some o
 os:s'.os=s.os
 gens:s'.gens=s.gens
theorem St.free (z:St c C F bs S s)(t:Other a s s')(f:cJ c C F bs a)(ho:s.heap.get? a=some o)(hc:o.cls≠.none):St c C F bs S s':=by
 have hL:C.env.locals≠a:=λe=>f.own (e▸z.cm);have k:∀b o,b≠a->s.heap.get? b=some o->s'.heap.get? b=some o:=λb o q e=>t.same b q _ e;have nb:∀b∈bs,b≠a:=λb m q=>f.bs (q▸m);obtain hF:∀b o,F b=some o->b≠a:=λb o e q=>by cases q;rw [f.F] at e;cases e
 refine e1a1 z.locs λmm hN hl=>?_;refine ⟨⟨λb o e=>k b o (hF b o e) (z.wd.sub b o e),z.wd.base,gD.ry z.wd.old (z.wd.gO (S:=S) f.F (ae o ho hc)) t.same,z.wd.len,z.wd.nodup,
  λj b ao e1 e2=>⟨(z.wd.obj j b ao e1 e2).1.at λob e=>k b ob (nb b (bJ e1)) e,(z.wd.obj j b ao e1 e2).2⟩,
  λb m=>(e1a0 (z.wd.there b m) λo e=>(bQ o (k b o (nb b m) e))),t.os.trans z.wd.os,t.gens.trans z.wd.gens,z.wd.kept⟩,
  (ae mm ?_ (λy v e=>(hl y v e).heap λx b o e1 e2=>(ae o (k b o (λq=>f.cells x (q▸e1)) e2) rfl))),?_,z.cm,λb hb=>?_,λy b e=>?_,z.apart,λe he=>⟨?_,(z.frames e he).2⟩,z.glob,z.blt,z.kind,z.om,z.fo⟩
 . refine e3a1 hN λo es ep ho r=>?_;exact (jW o es ep (k _ _ hL ho) r)
 . refine e1a1 z.fV λo e n=>?_;exact (ae o (k _ _ hL e) n)
 . obtain ⟨h1,h2,o,h3⟩:=z.own b hb;exact (pC h1 h2 o (k b o (λq=>f.own (q▸hb)) h3))
 . obtain ⟨h1,h2,o,h3,h4⟩:=z.cells y b e;exact (aH h1 h2 ⟨o,k b o (λq=>f.cells y (q▸e)) h3,h4⟩)
 . obtain ⟨hk,L,o,h1,h2,h3⟩:=(z.frames e he).1;exact ⟨hk,L,o,h1,k _ _ (λq=>f.frames e he (q▸h1)) h2,h3⟩
theorem St.ez (z:St c C F bs S s)(hn:s.heap.get? a=none):cJ c C F bs a:=by
 refine ⟨z.jm hn,λm=>?_,λm=>?_,λx e=>?_,λe he q=>?_⟩
 . refine e1a0 (z.wd.there a m) λo e=>?_;exact bx (aF (af hn) e)
 . obtain ⟨_,_,o,e⟩:=z.own a m;exact bx (aF (af hn) e)
 . obtain ⟨_,_,o,e',_⟩:=z.cells x a e;exact bx (aF (af hn) e')
 . obtain ⟨_,L,o,e1,e2,_⟩:=(z.frames e he).1;obtain rfl:=aX (aF (af q) e1);rw [hn] at e2;cases e2
theorem Step.other (st:Step own F bs h F' az jY)(hn:h.get? a=none)(k:∀b,b≠a->∀o,jY.get? b=some o->h'.get? b=some o):Step own F bs h F' az h':=by
 have ne:∀b o,h.get? b=some o->b≠a:=λb o e q=>by clear k;subst q;rw [hn] at e;cases e
 refine ⟨st.sub,st.ext,λb o e=>?_,λb o e n1 n2 n3=>?_,st.i6⟩
 . refine e1a0 (st.mono b o e) λo' e'=>?_;exact (bQ o' (k b (ne b o e) _ e'))
 . refine e1a1 (st.dQ b o e n1 n2 n3) λo' e' s'=>?_;exact (ae o' (k b (ne b o e) _ e') s')
end
section
variable {c:aP}{C:Cx}{S:AS}{K:gw}{pos:Pos}
def rD (I:cR)(K:gw):gw
 | .next,S=>I S
 | .cont,S=>I S
 | .brk,S=>K .next S
 | .ret v,S=>K (.ret v) S
end
noncomputable def AV.lW (n:Nat):uj->Bool
 | []=>true
 | .none::xs=>AV.lW n xs
 | .some x::xs=>x.under n&&AV.lW n xs
noncomputable def AO.under (n:Nat):AO->Bool
 | .gone=>true
 | .list xs=>AV.bL n xs
 | .aN kvs=>AV.jk n kvs
 | .bt kvs=>AV.jl n kvs
 | .sset _=>true
 | .uset _=>true
 | .i5 _=>true
 | .inst _ d=>decide (d < n)
 | .slots _ d vs=>decide (d < n)&&AV.lW n vs
 | .gu l _=>l.under n
 | .exc _ _=>true
 | .eN none=>true
 | .eN (some (f,v))=>f.under n&&v.under n
@[simp] theorem uoL {n:Nat} {xs:bW}:AO.under n (.list xs)=AV.bL n xs:=rfl
@[simp] theorem uoD {n:Nat} {xs:fq}:AO.under n (.aN xs)=AV.jk n xs:=rfl
@[simp] theorem Zz {n:Nat} {xs:List (Int×AV)}:AO.under n (.bt xs)=AV.jl n xs:=rfl
@[simp] theorem uoI {n d:Nat} {c:Addr}:AO.under n (.inst c d)=decide (d < n):=rfl
@[simp] theorem uoS {n d:Nat} {c:Addr} {vs:uj}:AO.under n (.slots c d vs)=(decide (d < n)&&AV.lW n vs):=rfl
@[simp] theorem uoC {n:Nat} {f v:AV}:AO.under n (.eN (some (f,v)))=(f.under n&&v.under n):=rfl
@[simp] theorem uoO {n:Nat} {x:AV} {xs:uj}:AV.lW n (.some x::xs)=(x.under n&&AV.lW n xs):=rfl
theorem AV.uq (n:Nat):∀(l:a8),AV.bL n (l.map .str)=true:=by
 intro l;induction l with
 | nil =>exact rfl
 | cons x l ih =>trivial
theorem AV.ur (n:Nat):∀(l:List Int),AV.bL n (l.map .int)=true:=by
 intro l;induction l with
 | nil =>exact rfl
 | cons x l ih =>trivial
section
variable {c:aP}{C:Cx}{F F':G}{bs nb:aA}
theorem sV {l r:aA}(h:(l++r)[k]?=some a)(hk:k < l.length):l[k]?=some a:=by rw [et hk] at h;exact h
theorem mN {g r:aA}(k:Nat)(a:Addr)(h:(g++r)[k]?=some a)(u:False\/k < g.length):g[k]?=some a:=sV h (u.resolve_left id)
theorem cu.cut (h:c.V F (bs++nb) x v)(u:x.under bs.length=true):c.V F bs x v:=cu.lift (λzz zz e=>e) mN h (.inr u)
theorem a6.cut (h:c.Vs F (bs++nb) x v)(u:AV.bL bs.length x=true):c.Vs F bs x v:=a6.lift (λzz zz e=>e) mN h (.inr u)
theorem bE.cut (h:c.SV F (bs++nb) x v)(u:AV.jk bs.length x=true):c.SV F bs x v:=bE.lift (λzz zz e=>e) mN h (.inr u)
theorem bF.cut (h:c.IV F (bs++nb) x v)(u:AV.jl bs.length x=true):c.IV F bs x v:=bF.lift (λzz zz e=>e) mN h (.inr u)
theorem oj.cut (h:oj c F (bs++nb) x v)(u:AV.lW bs.length x=true):oj c F bs x v:=by
 induction h with
 | nil=>exact .nil
 | no _ ih=>exact .no (ih (u))
 | yes hv _ ih=>simp  at u;exact .yes (cu.cut hv u.1) (ih u.2)
theorem fm.cut (x:fm c F (bs++nb) h a o)(u:o.under bs.length=true):fm c F bs h a o:=by
 cases o with
 | gone=>trivial
 | list xs=>refine e1a1 x λvs h1 h2=>?_;exact (ae vs h1 (h2.cut u))
 | aN kvs=>refine e1a1 x λrs h1 h2=>?_;exact (ae rs h1 (h2.cut u))
 | bt kvs=>refine e1a1 x λrs h1 h2=>?_;exact (ae rs h1 (h2.cut u))
 | sset S=>exact x
 | uset S=>exact x
 | i5 S=>exact x
 | inst cl d=>refine e1a1 x λda h1 h2=>?_;exact (ae da (sV h1 (by simpa  using u)) h2)
 | slots cl d vs=>refine e2a2 x λda rs h0 h1 h2=>?_;simp  at u;exact (ck da rs (sV h0 u.1) (h1.cut u.2) h2)
 | gu l i=>refine e1a1 x λla h1 h2=>?_;exact (ae la (h1.cut u) h2)
 | exc ex ob=>exact x
 | eN f =>
   cases f with
   | none=>exact x
   | some f=>refine e2a2 x λy z h1 h2 h3=>?_;replace u:(f.1.under bs.length&&f.2.under bs.length)=true:=u;simp only [eZ] at u;exact (ck y z (h1.cut u.1) (h2.cut u.2) h3)
theorem jZ.cut (z:jZ c env F (bs++nb) h m x v)(u:v.under bs.length=true):jZ c env F bs h m x v:=by
 cases z with
 | loc hk r h1 h2=>exact .loc hk r h1 (h2.cut u)
 | cell hk w=>obtain ⟨a,o,r,h1,h2,h3,h4⟩:=w;exact .cell hk ⟨a,o,r,h1,h2,h3,h4.cut u⟩
theorem iQ.cut (z:iQ c C F (bs++nb) h m i v)(u:v.under bs.length=true):iQ c C F bs h m i v :=
 e1a1 z λx e l=>(ae x e (l.cut u))
structure Trim (n:Nat)(S:AS)(loc:dI):Prop where
 loc:∀x u,loc.lookup x=some u->S.loc.lookup x=some u/\u.under n=true
 heap:∀o∈S.heap.take n,AO.under n o=true
theorem St.trim (z:St c C F (bs++nb) S s)(t:Trim bs.length S loc):St c C F bs ⟨loc,S.heap.take bs.length⟩ s:=by
 refine e1a1 z.locs λm hN hl=>?_;have w:=z.wd;obtain hlen:bs.length<=S.heap.length:=by simp only [<-w.len];simp
 refine ⟨⟨w.sub,w.base,w.old,by simp [hlen],(List.nodup_append.mp w.nodup).1,λk a o e1 e2=>?_,λa ha=>w.there a (eo (.inl ha)),w.os,w.gens,λa ha=>w.kept a (eo (.inl ha))⟩,
  (ae m hN (λx u e=>(hl x u (t.loc x u e).1).cut (t.loc x u e).2)),z.fV,z.cm,λa ha=>?_,λx a e=>?_,z.apart,λe he=>⟨(z.frames e he).1,λL hL=>?_⟩,z.glob,z.blt,z.kind,z.om,z.fo⟩
 . obtain hk:k < bs.length:=(bp e1).1;obtain ZA:S.heap[k]?=some o:=by skip;simpa [hk] using e2
   obtain this:=w.obj k a o (by refine rE (et hk) ?_;exact e1) ZA;exact ⟨this.1.cut (t.heap o (bJ e2)),this.2⟩
 . refine e0a2 (z.own a ha) λh1 h2 h3=>?_;exact (aH h1 (λq=>h2 (eo (.inl q))) h3)
 . refine e0a2 (z.cells x a e) λh1 h2 h3=>?_;exact (aH (λq=>h1 (eo (.inl q))) h2 h3)
 . refine e0a1 ((z.frames e he).2 L hL) λh1 h2=>?_;exact ⟨h1,λq=>h2 (eo (.inl q))⟩
theorem cJ.trim (f:cJ c C F (bs++nb) a):cJ c C F bs a:=⟨f.F,λm=>f.bs (eo (.inl m)),f.own,f.cells,f.frames⟩
theorem ExcAt.trim (e:ExcAt c C F (bs++nb) h₀ h x cls):ExcAt c C F bs h₀ h x cls:=by obtain ⟨a,ob,vs,h1,h0,h2,h3,h4,h5,h6,h7⟩:=e.at_;refine ⟨⟨a,ob,vs,h1,h0,h2,h3,h4,h5,h6.trim,h7.imp id ?_⟩,e.Aj⟩;intro o1;obtain ⟨tb,lf,nw,L,k1,k2,k3,k4,k5,k6,k7,k8,k9,nF⟩:=o1;exact ⟨tb,lf,nw,L,k1,k2,k3,k4,k5,k6,k7,k8,k9,nF.trim⟩
def cG (c:aP)(C:Cx)(S S':AS):Prop:=∀F bs s,St c C F bs S s->∃F',Step C.own F bs s.heap F' bs s.heap/\St c C F' bs S' s
theorem mO {st:eD}{K:gw}(sh:cG c C S S')(h:Ex c C st S' K X):Ex c C st S K X:=by intro A F bs s hA z;refine e1a1 (sh F bs s z) λF' al z'=>?_;exact aJ (h A F' bs s hA z') (λr s' ZB=>ZB.casesOn λnK az fl S' st z' hr k=>⟨nK,az,fl,S',al.trans st,z',hr,k⟩) (λx s' ZC=>ZC.casesOn λnK az fl S' st z' hr k=>⟨nK,az,fl,S',al.trans st,z',hr.back al.mono,k⟩)
theorem cG.trans (a:cG c C S S')(b:cG c C S' yz):cG c C S yz:=λF bs s z=>by refine e1a1 (a F bs s z) λF' st z'=>?_;refine e1a1 (b F' bs s z') λnK mo vQ=>?_;exact (ae nK (st.trans mo) vQ)
theorem cG.forget (loc:dI)(h:∀x u,loc.lookup x=some u->S.loc.lookup x=some u):cG c C S ⟨loc,S.heap⟩:=λF bs s z=>by refine e1a1 z.locs λm hN hl=>?_;exact (ae F (.refl ..) ⟨z.wd,(ae m hN (λx u e=>hl x u (h x u e))),z.fV,z.cm,z.own,z.cells,z.apart,z.frames,z.glob,z.blt,z.kind,z.om,z.fo⟩)
theorem St.AA (z:St c C F bs S s)(x:Nat)(v v':AV)(hx:S.loc.lookup x=some v)(hv:∀r,c.V F bs v r->c.V F bs v' r):St c C F bs (S.put x v') s:=by
 refine e1a1 z.locs λm hN hl=>?_;refine ⟨z.wd,(ae m hN (λy u e=>?_)),z.fV,z.cm,z.own,z.cells,z.apart,z.frames,z.glob,z.blt,z.kind,z.om,z.fo⟩;have e':(a7 S.loc x v').lookup y=some u:=e;rw [au] at e';by_cases q:y=x
 . subst q;clear e;refine (aX (aF (af (if_pos rfl)) e'))▸?_;refine e1a1 (hl y v hx) λx' oo w=>?_;refine (ae x' oo ?_);cases w with
   | loc hk r h1 h2=>exact .loc hk r h1 (hv _ h2)
   | cell hk w=>obtain ⟨a,o,r,h1,h2,h3,h4⟩:=w;exact .cell hk ⟨a,o,r,h1,h2,h3,hv _ h4⟩
 . rw [if_neg q] at e';exact hl y u e'
theorem cG.list (x:Nat)(hx:S.loc.lookup x=some (.ref k))(hk:S.heap[k]?=some (.list xs)):cG c C S ⟨a7 S.loc x (.lst xs),S.heap.set k .gone⟩:=λF bs s z=>by
 obtain gX:k < bs.length:=by simp only [z.wd.len];exact (bp hk).1
 obtain ⟨a,ha⟩:∃a,bs[k]?=some a:=(bQ _ (df gX))
 refine e0a1 (z.wd.obj k a _ ha hk) λo7 hF=>?_;refine e1a1 o7 λvs o9 h2=>?_;clear o7;obtain ⟨n,h1⟩:=o9;have zB:=hF (by simp);refine (ae (plus F a (aY vs n)) (Step.freeze (bJ ha) zB) ?_);have z':=z.freeze ha hk (by simp) h1 (by simp [aY,bj]);refine z'.AA x (.ref k) (.lst xs) hx λr hr=>?_;refine e1a1 hr.inv λzz o3 e=>?_;refine rE o3 ?_;clear hr;refine (aX (ha.symm.trans e))▸?_;refine .lst (bQ n bO) ?_;simpa using a6.mono (nb:=[]) (aQ zB) h2
end
theorem bC.hide {P:AV->Prop}(h:bC c n fv args [] (λv zz=>v.under 0=true/\P v))(Jz:AV.bL 0 args=true):bC c n fv args H (λv H'=>H'=H/\P v):=by
 intro A F bs s rs fr hh hd hu j7 ms wd hv;obtain ZD:Wd c F [] [] s:=⟨wd.sub,wd.base,wd.old,rfl,List.nodup_nil,λk a o e=>by simp at e,λa ha=>by simp at ha,wd.os,wd.gens,λa ha=>by simp at ha⟩
 refine codeAny_mono (h A F [] s rs fr hh hd hu j7 (λe he=>⟨(ms e he).1,λL hL=>⟨((ms e he).2 L hL).1,by simp⟩⟩) ZD (a6.cut (bs:=[]) (nb:=bs) hv (Jz))) λr s' ⟨F',az,v,H',rv,own,e,hn,st,Du,mt,hc,hp⟩=>?_;obtain keep:∀b o,s.heap.get? b=some o->o.cls≠.none->∃o',s'.heap.get? b=some o'/\iB o o':=λb o e q=>st.dQ b o e (λm=>by exact bx (aF (af (hn b m)) e)) (by simp) q;obtain XM:∀b o,s.heap.get? b=some o->F b=none->F' b=none:=λb o e q=>by
  cases e':F' b with
  | none=>rfl
  | some o'=>(refine bh (st.i6 b o' e' q) (λy=>?_) (λy=>?_))
             . exact bx (aF (af y) e)
             . simp at y
 refine ⟨F',bs,v,H,rv,own,e,hn,⟨st.sub,(ae [] (by simp) (by simp)),st.mono,λb o e n1 n2 n3=>st.dQ b o e n1 (by simp) n3,λb o e q=>?_⟩,⟨Du.sub,Du.base,Du.old,wd.len,wd.nodup,λk a o e1 e2=>⟨?_,λq=>?_⟩,λa ha=>?_,Du.os,Du.gens,λa ha o e=>?_⟩,?_,rfl,hp⟩
 . rcases st.i6 b o e q with y | y
   . exact .inl y
   . simp at y
 . by_cases q:o=.gone
   . clear e2;refine rE q ?_;trivial
   . refine e0a1 (wd.obj k a o e1 e2) λhr zz=>?_;refine e1a2 (hr.cls q) λob g1 g2 g3=>?_;refine e1a1 (keep a ob g1 g2) λo' g4 g5=>?_;obtain this:=g5.pG g3;clear g5 g3 g2;subst this;obtain tY:=hr.at (h':=s'.heap) λGo e'=>by lia
     simpa using fm.mono (nb:=[]) st.sub tY
 . refine e1a0 (wd.there a (bJ e1)) λob g1=>?_;exact XM a ob g1 ((wd.obj k a o e1 e2).2 q)
 . refine e1a0 (wd.there a ha) λo e=>?_;exact st.mono _ _ e
 . cases q:F a with
   | some o'=>replace e:=(st.sub _ _ q)▸e;cases e;exact wd.kept a ha o q
   | none=>refine e1a0 (wd.there a ha) λo' e'=>?_;exact bx (aF (af (XM a o' e' q)) e)
 . obtain this:=cu.cut (bs:=[]) (nb:=az) mt hc;exact cu.mono (nb:=bs) (λzz zz e=>e) this
noncomputable def QO:AO->Option String
 | .list _=>some "list"
 | .aN _=>some "dict"
 | .bt _=>some "dict"
 | .sset _=>some "set"
 | .uset _=>some "set"
 | .i5 _=>some "set"
 | .gu _ _=>some "list_iterator"
 | .eN _=>some "callable_iterator"
 | _=>none
noncomputable def uu (S:AS):AV->Option String
 | .none=>some "NoneType"
 | .bool _=>some "bool"
 | .int _=>some "int"
 | .str _=>some "str"
 | .tup _=>some "tuple"
 | .lst _=>some "list"
 | .pF _=>some "dict"
 | .cV _=>some "dict"
 | .ref k=>S.heap[k]?.bind QO
 | _=>none
section
variable {c:aP}{C:Cx}{S:AS}{F F':G}{bs az:aA}{s s':Shared}{A:Around}{X:cK}{K:cw}{mg mb:dZ}
theorem nE.dictOf {Kt:Type} [DecidableEq Kt] {knd:KeyKind c.prog c.w Kt}{h:Heap}{a:Addr}{kvs:List (Kt×Value)}(x:nE knd h.get? a kvs):h.DictOf knd a kvs :=
 let ⟨es,n,e,k,p,d,_⟩:=x;(ji _ es n e (aH rfl rfl rfl) rfl k p d)
theorem nE.vR {Kt:Type} [DecidableEq Kt] {knd:KeyKind c.prog c.w Kt}{h:Heap}{a:Addr}{kvs:List (Kt×Value)}(x:h.DictOf knd a kvs)(hs:(a==sysModules)=false):nE knd h.get? a kvs:=by refine e3a0 x λo es ep XN=>?_;clear x;refine e0a5 XN λe ZE hd k p d=>?_;clear XN;obtain ⟨h1,h2,h3⟩:=ZE;obtain ⟨oc,od,dt,sl⟩:=o;subst h1;cases h2;cases h3;cases hd;exact ⟨es,ep,e,k,p,d,hs⟩
theorem fB (h:S.heap[k]?=some o)(ht:QO o=some T):uu S (.ref k)=some T:=(congrArg (·.bind QO) h).trans ht
theorem xj (ht:s.TypeIs r T)(h:∀a,r≠.ref a):s.TypeIs r T/\∀a,r=.ref a->∃o,s.heap.get? a=some o/\o.dict=none:=⟨ht,λa e=>(h a e).elim⟩
theorem pJ (e:s.heap.get? a=some o)(h1:o.cls=.type T)(h2:o.dict=none):s.TypeIs (.ref a) T/\∀b,Value.ref a=.ref b->∃o,s.heap.get? b=some o/\o.dict=none :=
 ⟨(ae _ e h1),λb q=>by refine (Value.ref.inj q)▸?_;exact (ae _ e h2)⟩
theorem fm.ty (w:fm c F bs h a o)(ht:QO o=some T):∃ob,h.get? a=some ob/\ob.cls=.type T/\ob.dict=none:=by
 cases o with
 | list=>refine (aX ht)▸?_;refine e1a1 w λvs XO zz=>?_;clear w;refine e1a0 XO λn e=>?_;clear XO;exact (a9 _ e rfl rfl)
 | aN=>refine (aX ht)▸?_;refine e1a1 w λvs Sl zz=>?_;clear w;obtain ⟨es,n,e,_⟩:=Sl;exact (a9 _ e rfl rfl)
 | bt=>refine (aX ht)▸?_;refine e1a1 w λvs Sl zz=>?_;clear w;obtain ⟨es,n,e,_⟩:=Sl;exact (a9 _ e rfl rfl)
 | sset=>refine (aX ht)▸?_;refine e1a1 w λzz ZF zz=>?_;clear w;obtain ⟨o,es,ep,t,e,⟨hc,hd,_⟩,_⟩:=ZF;exact (a9 _ e hc hd)
 | uset=>refine (aX ht)▸?_;refine e4a2 w λo es ep t e JA zz=>?_;clear w;refine e0a2 JA λhc hd zz=>?_;clear JA;exact (a9 _ e hc hd)
 | i5=>refine (aX ht)▸?_;refine e4a2 w λo es ep t e JA zz=>?_;clear w;refine e0a2 JA λhc hd zz=>?_;clear JA;exact (a9 _ e hc hd)
 | gu=>refine (aX ht)▸?_;refine e1a1 w λla zz e=>?_;exact (a9 _ e rfl rfl)
 | eN f =>
   refine (aX ht)▸?_;cases f with
   | none=>refine e2a0 w λzz zz e=>?_;exact (a9 _ e rfl rfl)
   | some f=>refine e2a2 w λzz zz zz zz e=>?_;exact (a9 _ e rfl rfl)
 | _=>exact bx ht
theorem St.ty (z:St c C F bs S s)(h:uu S v=some T)(hv:c.V F bs v r):s.TypeIs r T/\∀a,r=.ref a->∃o,s.heap.get? a=some o/\o.dict=none:=by
 cases v with
 | none=>obtain rfl:=aX h;refine rE hv.inv ?_;exact xj rfl nofun
 | bool b=>refine (aX h)▸?_;refine hv.inv▸?_;exact xj rfl nofun
 | int i=>refine (aX h)▸?_;refine e1a0 hv.inv λt ZG=>?_;refine ZG▸?_;exact xj rfl nofun
 | str x=>refine (aX h)▸?_;refine e1a0 hv.inv λt ZH=>?_;refine ZH▸?_;exact xj rfl nofun
 | tup=>refine (aX h)▸?_;refine e2a2 hv.inv λzz zz ZI e zz=>?_;clear hv;obtain rfl:=ZI;exact pJ (z.wd.sub _ _ e) rfl rfl
 | lst=>refine (aX h)▸?_;refine e2a2 hv.inv λzz zz Sm XQ zz=>?_;refine e1a0 XQ λn e=>?_;clear XQ;refine Sm▸?_;exact pJ (z.wd.sub _ _ e) rfl rfl
 | pF=>refine (aX h)▸?_;refine e2a2 hv.inv λzz zz Sn So zz=>?_;obtain rfl:=Sn;obtain ⟨es,n,e,_⟩:=So;exact pJ (z.wd.sub _ _ e) rfl rfl
 | cV=>refine (aX h)▸?_;refine e2a2 hv.inv λzz zz Sn So zz=>?_;obtain rfl:=Sn;obtain ⟨es,n,e,_⟩:=So;exact pJ (z.wd.sub _ _ e) rfl rfl
 | ref k =>refine e1a1 hv.inv λa ZJ h1=>?_;obtain rfl:=ZJ;refine e1a1 (Option.bind_eq_some_iff.mp h) λo e ht=>?_;refine e1a2 ((z.wd.obj k a _ h1 e).1.ty ht) λob e1 e2 e3=>?_;exact pJ e1 e2 e3
 | _=>exact bx h
def eO (c:aP)(C:Cx)(f:Value)(vs:bW)(S:AS)(K:cw)(X:cK):Prop :=
 ∀A F bs s rs,i7 C A->St c C F bs S s->c.Vs F bs vs rs->WP c C A c.V (call f rs) F bs s K X
@[reducible] def bK (c:aP) (C:Cx) (f:Value) (K:cw) (X:cK):sU:=λvs S=>eO c C f vs S K X
@[reducible] def JB (c:aP) (C:Cx) (T id:String) (pos:Pos) (args:cz) (K:cw) (X:cK):cw:=λov S=>uu S ov=some T/\oR c C pos args S (xh ov (bK c C (.builtin id) K X)) X
@[reducible] def GL (c:aP) (C:Cx) (f:Value) (pos:Pos) (args:cz) (K:cw) (X:cK):cw:=λv S=>v=.raw f/\oR c C pos args S (bK c C f K X) X
@[reducible] def tupK (K:cw):sU:=λvs S=>vs.length<=sizeLine/\K (.tup vs) S
@[reducible] def lstK (K:cw):sU:=λvs S=>vs.length<=sizeLine/\K (.lst vs) S
@[reducible] def JC (K:cw):sU:=λvs S=>vs.length<=sizeLine/\K (.ref S.heap.length) {S with heap:=S.heap++[.list vs]}
theorem bT {o:Expr}{name:Str}{apos pos:Pos}{args:cz}(T id:String)(pa:PlainAttrs T)(slot:Slot T name id)(ZK:typeOf (.builtin id)=pure (.type "method_descriptor"))
 (h:Ev c C o S (JB c C T id pos args K X) X)
 (ib:attributeBase o name C.env (eval o C.env)=eval o C.env:=by rfl)
 (AB:((backTo pos (starEach args C.env)).all (λx=>!x.1)&&(backToKw pos (keywordEach [] C.env)).all (λx=>x.1.isSome)
  && decide (args.length+([]:List Keyword).length+(if ([]:List Keyword).isEmpty then 0 else 1) < 30))=true:=by rfl)
 (hline:(apos.endLine==pos.line)=true:=by rfl)
 (sK:(backTo pos (starEach args C.env)).any (·.1)=false:=by rfl)
 (hl:mM (backTo pos (starEach args C.env))=false:=by rfl):Ev c C (.Call (.Attribute o name apos) args [] pos) S K X:=by
 intro A F bs s hA z;refine wpAny_Call_method_lateS ib AB hline (aJ (h A F bs s hA z) (λr Z ⟨F₁,bs₁,ov,ac,al,ap,oB,hT,k₁⟩=>?_) λzz zz e=>e);refine e0a1 (ap.ty hT oB) λt1 t2=>?_;refine ⟨T,id,pa,slot,ZK,t1,t2,(Calls.callWith_builtin sK ?_)⟩;refine aJ (gh hA ap k₁ hl) (λa am ZL=>ZL.casesOn λaT ax vs aC an aG Sp=>e0a1 Sp λoA bi k₂=>?_) λx am ZM=>ZM.casesOn λaT ax cls aC an aG hx k₂=>⟨aT,ax,cls,aC,al.trans an,aG,hx.back al.mono,k₂⟩
 simp only [oA];refine aJ (k₂ A aT ax am (r::a.pos) hA aG (.cons (an.V oB) bi)) (λw aM ZN=>ZN.casesOn λbn aK v aO aE aR hv bv=>⟨bn,aK,v,aO,(al.trans an).trans aE,aR,hv,bv⟩) λx aM Sp=>Sp.casesOn λbn aK v aO aE aR hv bv=>⟨bn,aK,v,aO,(al.trans an).trans aE,aR,hv.back (al.trans an).mono,bv⟩
theorem bU {f:Expr}{args:cz}{pos:Pos}(fv:Value)
 (h:Ev c C f S (GL c C fv pos args K X) X)
 (hf:(∃id,fv=.builtin id)\/∃T,fv=.type T:=by first | exact .inl ⟨_,rfl⟩ | exact .inr ⟨_,rfl⟩)
 (he:eval (.Call f args [] pos) C.env=(do callWith pos (<-eval f C.env) [] (backTo pos (starEach args C.env)) (backToKw pos (keywordEach [] C.env))):=by rfl)
 (sK:(backTo pos (starEach args C.env)).any (·.1)=false:=by rfl)
 (hl:mM (backTo pos (starEach args C.env))=false:=by rfl):Ev c C (.Call f args [] pos) S K X:=by
 intro A F bs s hA z;refine rE he ?_;refine WP.bind (h A F bs s hA z) λF₁ bs₁ ac Z v r al ap hv XR=>e0a1 XR λe k₁=>?_;subst e;clear XR h;obtain ⟨_,rfl⟩:=hv.inv;have fin:∀f',wpAny (model c.prog c.w) A (evalArgs f' true (backTo pos (starEach args C.env)) []) (λa am=>wpAny (model c.prog c.w) A (call fv a.pos a.kw)
  (WV c C c.V F₁ bs₁ Z.heap K) (WX c C F₁ bs₁ Z.heap X) am)
  (WX c C F₁ bs₁ Z.heap X) Z:=λf'=>by
  refine aJ (gh hA ap k₁ hl) (λa am ZO=>ZO.casesOn λaT ax vs aC an aG ⟨oA,bi⟩ k₂=>?_) λx am e=>e;refine rE oA ?_;exact aJ (k₂ A aT ax am a.pos hA aG bi) (λw aM ZP=>ZP.casesOn λbn aK v aO aE aR hv bv=>⟨bn,aK,v,aO,an.trans aE,aR,hv,bv⟩) λx aM ZQ=>ZQ.casesOn λbn aK v aO aE aR hv bv=>⟨bn,aK,v,aO,an.trans aE,aR,hv.back an.mono,bv⟩
 (refine bh hf (λXS=>?_) (λXT=>?_);refine e1a0 XS λid ZR=>?_;clear XS;obtain rfl:=ZR;rotate_left;refine e1a0 XT λT ZS=>?_;clear XT;obtain rfl:=ZS;rotate_right)
 . exact Calls.callWith_builtin sK (fin _)
 . exact PySem.callWith_type sK (fin _)
theorem cY (h:oR c C pos es S (tupK K) X):Ev c C (.Tuple es kd pos) S K X:=by
 intro A F bs s hA z;refine wpAny_Tuple_spliced (aJ (h A F bs s hA z) (λrs Z ⟨F₁,bs₁,vs,ac,al,ap,bi,hl,k⟩=>⟨by rw [bi.length];exact hl,?_⟩) λzz zz e=>e);obtain hn:Z.heap.get? Z.heap.objs.size=none:=gp (aZ _);obtain hF:=ap.jm hn;obtain m:ba c F₁ bs₁ Z {Z with heap:=Z.heap.push (iP rs)}:=⟨λb o e=>cI _ e,rfl,rfl⟩
 obtain ha:({Z with heap:=Z.heap.push (iP rs)}:Shared).heap.get? Z.heap.objs.size=some (iP rs):=dw _ rfl;refine ⟨_,bs₁,.tup vs,ac,al.trans (.frozen m hF hn),ap.i6 m hn ha,.tup bO ?_,k⟩;simpa using a6.mono (nb:=[]) (aQ hF) bi
theorem i9 (h:oR c C pos es S (lstK K) X):Ev c C (.List es pos) S K X:=by
 intro A F bs s hA z;refine wpAny_List_spliced (aJ (h A F bs s hA z) (λrs Z ⟨F₁,bs₁,vs,ac,al,ap,bi,hl,k⟩=>⟨by rw [bi.length];exact hl,?_⟩) λzz zz e=>e);obtain hn:Z.heap.get? Z.heap.objs.size=none:=gp (aZ _);obtain hF:=ap.jm hn;obtain m:ba c F₁ bs₁ Z {Z with heap:=Z.heap.push (aY rs 0)}:=⟨λb o e=>cI _ e,rfl,rfl⟩
 obtain ha:({Z with heap:=Z.heap.push (aY rs 0)}:Shared).heap.get? Z.heap.objs.size=some (aY rs 0):=dw _ rfl;refine ⟨_,bs₁,.lst vs,ac,al.trans (.frozen m hF hn),ap.i6 m hn ha,.lst (bQ 0 bO) ?_,k⟩;simpa using a6.mono (nb:=[]) (aQ hF) bi
theorem St.newList (z:St c C F bs S s){vs:bW}{rs:iC}(bi:c.Vs F bs vs rs):let s':Shared:={s with heap:=s.heap.push (aY rs 0)}
 Step C.own F bs s.heap F (bs++[s.heap.objs.size]) s'.heap/\St c C F (bs++[s.heap.objs.size]) {S with heap:=S.heap++[.list vs]} s'/\c.V F (bs++[s.heap.objs.size]) (.ref S.heap.length) (.ref s.heap.objs.size):=by
 intro s';obtain hn:s.heap.get? s.heap.objs.size=none:=gp (aZ _);obtain m:ba c F bs s s':=⟨λb o e=>cI _ e,rfl,rfl⟩
 obtain ha:s'.heap.get? s.heap.objs.size=some (aY rs 0):=dw _ rfl;refine (aH (.new m hn) (z.new m hn ha (ae rs (bQ 0 ha) (a6.mono (λzz zz e=>e) bi))) (.ref ?_));refine z.wd.len▸?_;simp
theorem eA (h:oR c C pos es S (JC K) X):Ev c C (.List es pos) S K X:=by intro A F bs s hA z;refine wpAny_List_spliced (aJ (h A F bs s hA z) (λrs Z ⟨F₁,bs₁,vs,ac,al,ap,bi,hl,k⟩=>⟨by refine rE bi.length ?_;exact hl,?_⟩) λzz zz e=>e);refine e0a2 (ap.newList bi) λa1 a2 a3=>?_;exact ⟨F₁,_,_,_,al.trans a1,a2,a3,k⟩
theorem St.AD (B:Base c mg mb)(z:St c C F bs S s)(hn:s.heap.get? a=none):(a==sysModules)=false:=by
 refine e1a0 B.Gs λo e=>?_;refine e1a0 (z.wd.old.there _ _ e) λo' e'=>?_;obtain this:a≠sysModules:=λq=>by subst q;rw [e'] at hn;cases hn
 simpa using this
end
structure dB (wr:aA)(s s':Shared):Prop where
 same:∀b,b∉wr->∀o,s.heap.get? b=some o->s'.heap.get? b=some o
 os:s'.os=s.os
 gens:s'.gens=s.gens
theorem OldK.mP {wr:aA}(x:OldK h₀ h)(ha:∀a∈wr,h₀.get? a=none)(k:∀b,b∉wr->∀o,h.get? b=some o->h'.get? b=some o):OldK h₀ h':=by
 have ne:∀b o,h₀.get? b=some o->b∉wr:=λb o e q=>by exact bx (aF (af (ha b q)) e)
 refine ⟨λb o e=>?_,λb o e=>e1a0 (x.there b o e) λo' e'=>(bQ o' (k _ (ne b o e) _ e'))⟩;rcases x.old b o e with z | ⟨t,hc,vs,more,hv,z⟩ | ⟨rfl,hc,⟨o',es,n,tX,r⟩,z⟩
 . exact .inl (k _ (ne b o e) _ z)
 . exact .inr (.inl ⟨t,hc,vs,more,hv,(k _ (ne b o e) _ z)⟩)
 . exact .inr (.inr (eM rfl hc (jW o' es n (k _ (ne _ o e) _ tX) r) (λkey=>by rw [OldK.staticOf_congr ((k _ (ne _ o e) _ tX).trans tX.symm) key];exact z key)))
theorem gD.mP {wr:aA}(x:gD c F h)(ha:∀a∈wr,c.h₀.get? a=none)(k:∀b,b∉wr->∀o,h.get? b=some o->h'.get? b=some o):gD c F h' :=
 ⟨OldK.mP x.toOldK ha k,λP q e=>let ⟨h1,⟨o,h2⟩,ps,h3,h4⟩:=x.tabs P q e;⟨h1,(bQ o h2),ps,(k _ (λz=>by exact bx (aF (af (ha _ z)) h2)) _ h3),h4⟩⟩
structure bR (c:aP)(C:Cx)(F:G)(bs:aA)(wr:aA)(h:Heap):Prop where
 free:∀a∈wr,cJ c C F bs a
 at_:∀a∈wr,∃o,h.get? a=some o/\o.cls≠.none/\o.cls≠.type "frame"
section
variable {c:aP}{C:Cx}{S S':AS}{F F':G}{bs az:aA}{s s':Shared}{A:Around}{wr:aA}
theorem St.frees (z:St c C F bs S s)(t:dB wr s s')(f:bR c C F bs wr s.heap):St c C F bs S s':=by
 have hL:C.env.locals∉wr:=λe=>(f.free _ e).own z.cm;have k:∀b o,b∉wr->s.heap.get? b=some o->s'.heap.get? b=some o:=λb o q e=>t.same b q _ e;obtain nb:∀b∈bs,b∉wr:=λb m q=>(f.free b q).bs m;obtain hF:∀b o,F b=some o->b∉wr:=λb o e q=>by exact bx (aF (af ((f.free b q).F)) e)
 refine e1a1 z.locs λmm hN hl=>?_;refine ⟨⟨λb o e=>k b o (hF b o e) (z.wd.sub b o e),z.wd.base,gD.mP z.wd.old (λa ha=>?_) t.same,z.wd.len,z.wd.nodup,
  λj b ao e1 e2=>⟨(z.wd.obj j b ao e1 e2).1.at λob e=>k b ob (nb b (bJ e1)) e,(z.wd.obj j b ao e1 e2).2⟩,
  λb m=>(e1a0 (z.wd.there b m) λo e=>(bQ o (k b o (nb b m) e))),t.os.trans z.wd.os,t.gens.trans z.wd.gens,z.wd.kept⟩,
  (ae mm ?_ (λy v e=>(hl y v e).heap λx b o e1 e2=>(ae o (k b o (λq=>(f.free b q).cells x e1) e2) rfl))),?_,z.cm,λb hb=>?_,λy b e=>?_,z.apart,λe he=>⟨?_,(z.frames e he).2⟩,z.glob,z.blt,z.kind,z.om,z.fo⟩
 . refine e1a2 (f.at_ a ha) λo h1 h2 zz=>?_;exact z.wd.gO (S:=S) (f.free a ha).F (ae o h1 h2)
 . refine e3a1 hN λo es ep ho r=>?_;exact (jW o es ep (k _ _ hL ho) r)
 . refine e1a1 z.fV λo e n=>?_;exact (ae o (k _ _ hL e) n)
 . obtain ⟨h1,h2,o,h3⟩:=z.own b hb;exact (pC h1 h2 o (k b o (λq=>(f.free b q).own hb) h3))
 . obtain ⟨h1,h2,o,h3,h4⟩:=z.cells y b e;exact (aH h1 h2 ⟨o,k b o (λq=>(f.free b q).cells y e) h3,h4⟩)
 . obtain ⟨hk,L,o,h1,h2,h3⟩:=(z.frames e he).1;exact ⟨hk,L,o,h1,k _ _ (λq=>(f.free L q).frames e he h1) h2,h3⟩
theorem bR.xk (f:bR c C F bs wr s.heap)(hw:∀a∈wr,a∉own)(st:Step own F bs s.heap F' az s'.heap):bR c C F' az wr s'.heap/\∀a∈wr,∀o,s.heap.get? a=some o->s'.heap.get? a=some o:=by
 have key:∀a∈wr,∀o,s.heap.get? a=some o->s'.heap.get? a=some o:=λa ha o e=>by refine e1a2 (f.at_ a ha) λo' h1 h2 h3=>?_;obtain rfl:=aX (aF (af e) h1);refine e1a1 (st.dQ a o e (hw a ha) (f.free a ha).bs h2) λo' e' sm=>?_;rw [sm.pG h3] at e';exact e'
 refine ⟨⟨λa ha=>?_,λa ha=>?_⟩,key⟩
 . refine e1a1 (f.at_ a ha) λo h1 zz=>?_;exact (f.free a ha).step st h1
 . refine e1a2 (f.at_ a ha) λo h1 h2 h3=>?_;exact (a9 o (key a ha o h1) h2 h3)
theorem bR.step (f:bR c C F bs wr s.heap)(st:Step C.own F bs s.heap F' az s'.heap):bR c C F' az wr s'.heap/\∀a∈wr,∀o,s.heap.get? a=some o->s'.heap.get? a=some o :=
 f.xk (λa ha=>(f.free a ha).own) st
theorem Step.others (st:Step own F bs h F' az jY)(hn:∀a∈wr,h.get? a=none)(k:∀b,b∉wr->∀o,jY.get? b=some o->h'.get? b=some o):Step own F bs h F' az h':=by
 have ne:∀b o,h.get? b=some o->b∉wr:=λb o e q=>by exact bx (aF (af (hn b q)) e)
 refine ⟨st.sub,st.ext,λb o e=>?_,λb o e n1 n2 n3=>?_,st.i6⟩
 . refine e1a0 (st.mono b o e) λo' e'=>?_;exact (bQ o' (k b (ne b o e) _ e'))
 . refine e1a1 (st.dQ b o e n1 n2 n3) λo' e' s'=>?_;exact (ae o' (k b (ne b o e) _ e') s')
end
theorem Step.kc (t:dB wr s s')(f:∀a∈wr,∃o',s'.heap.get? a=some o'):Step (wr++own) F bs s.heap F bs s'.heap :=
 ⟨λzz zz e=>e,(ae [] (by simp) (by simp)),λb o e=>by
  by_cases q:b∈wr
  . exact f b q
  . exact (bQ o (t.same b q _ e)),λb o e n1 zz zz=>(ae o (t.same b (λq=>n1 (eo (.inl q))) _ e) (.refl o)),λb o e n=>by lia⟩
theorem Step.AE (fg:Step own F₀ bs₀ h₀ F bs h)(hn:∀a∈wr,h₀.get? a=none)(st:Step (wr++own) F bs h F' az h'):Step own F₀ bs₀ h₀ F' az h' :=
 Step.widen ((Step.widen (own':=wr++own) fg λa ha=>.inl (eo (.inr ha))).trans st) λa ha=>(bX ha).elim (λq=>.inr (hn a q)) .inl
def qP (c:aP)(C:Cx)(t:Expr)(v:AV)(S:AS)(K:cR):Prop :=
 match t,v with
 | .Tuple ts _ _,.tup xs=>ts.length=xs.length/\(assignEach ts C.env=ts.map λt=>(false,assign t C.env))/\yy c C (ts.zip xs) S K dT
 | t,v=>vD c C t v S K dT
structure Iter (c:aP)(target:Expr)(it:Addr)(items:bW)(live:aI->Prop)(wr:aA)(Pos:Nat->G->aA->lC):Prop where
 uv:∀{C:Cx} {i own F bs S s F' az S' s'},Pos i F bs s->bR c C F bs wr s.heap->(∀a∈wr,a∉own)->St c C F bs S s->Step own F bs s.heap F' az s'.heap->St c C F' az S' s'->Pos i F' az s'
 next:∀{C:Cx} {A:Around} {i F bs S s} (N:lC) (Y:lC) (E:vP) (K:cR),i7 C A->C.handled=none->St c C F bs S s->live S.heap->Pos i F bs s->bR c C F bs wr s.heap ->
  (items[i]?=none->∀s',St c C F bs S s'->dB wr s s'->N s') ->
  (∀y,items[i]?=some y->qP c C target y S K/\∀F' az S' s',St c C F' az S' s'->bR c C F' az wr s'.heap->Pos (i+1) F' az s'->K S' ->
   Step (wr++C.own) F bs s.heap F' az s'.heap->Y s') ->
  wpAny (model c.prog c.w) A (pyNext (.ref it)) (λr Z=>match r with
   | none=>N Z
   | some v=>wpAny (model c.prog c.w) A (letOwnedTupleGo target (.ref it) v) (λzz mQ=>wpAny (model c.prog c.w) A (assign target C.env v) (λzz am=>Y am) E mQ) E Z) E s
 self:∀{A:Around} {i F bs} {s:Shared} (Q:vP) (E:vP),A.handled=none->Pos i F bs s->Q (.ref it) s->wpAny (model c.prog c.w) A (pyIter (.ref it)) Q E s
theorem Iter.keep {Pos:Nat->G->aA->lC}(W:Iter c target it items live wr Pos)(p:Pos i F bs s)(f:bR c C F bs wr s.heap)(z:St c C F bs S s)(st:Step C.own F bs s.heap F' az s'.heap)(z':St c C F' az S' s'):Pos i F' az s' :=
 W.uv p f (λa ha=>(f.free a ha).own) z st z'
inductive Sq (c:aP)(C:Cx)(target:Expr)(F:G)(bs:aA)(h₀:Heap)(K:bW->(aI->Prop)->cR)(r:Value)(s':Shared):Prop
 | mk (F':G) (az:aA) (S':AS) (it:Addr) (items:bW) (live:aI->Prop) (wr:aA) (Pos:Nat->G->aA->lC) (e:r=.ref it) (st:Step C.own F bs h₀ F' az s'.heap) (z:St c C F' az S' s')
   (W:Iter c target it items live wr Pos) (p:Pos 0 F' az s') (hn:∀a∈wr,h₀.get? a=none) (f:bR c C F' az wr s'.heap) (hl:live S'.heap) (hk:K items live S')
def lD (c:aP)(C:Cx)(target iter:Expr)(S:AS)(K:bW->(aI->Prop)->cR)(X:cK):Prop :=
 ∀A F bs s,i7 C A->St c C F bs S s ->
  wpAny (model c.prog c.w) A (eval iter C.env) (λxv Z=>wpAny (model c.prog c.w) A (pyIter xv)
   (Sq c C target F bs s.heap K)
   (WX c C F bs s.heap X) Z)
   (WX c C F bs s.heap X) s
section
variable {c:aP}{C:Cx}{S:AS}{K:gw}{pos:Pos}
theorem AF {Pos:Nat->G->aA->lC}(hh:C.handled=none)(W:Iter c target it items live wr Pos)(I:vO)(mR:∀i S',I i S'->live S'.heap)
 (turn:∀i y S',items[i]?=some y->I i S'->qP c C target y S' (Jr c C body (rD (I (i+1)) K) dT))
 (done:∀S',I items.length S'->K .next S') (hA:i7 C A) (h0:I 0 S) (z:St c C F bs S s) (hn:∀a∈wr,h₀.get? a=none) (fg:Step C.own F₀ bs₀ h₀ F bs s.heap) (j7:bR c C F bs wr s.heap) (hp:Pos 0 F bs s) :
 wpAny (model c.prog c.w) A (runOwn (.forLoop target (.ref it) body [] C.env) C.env)
  (WV c C (mI c) F₀ bs₀ h₀ K)
  (WX c C F₀ bs₀ h₀ dT) s:=by
 refine wpAny_runOwn ?_;refine codeAny_forLoop_any (λk s'=>∃F' az S' i,Step C.own F₀ bs₀ h₀ F' az s'.heap/\St c C F' az S' s'/\bR c C F' az wr s'.heap/\I i S'/\Pos i F' az s'/\i<=items.length/\k=items.length+1 - i) ?_ (items.length+1)
  (jj F bs S 0 fg z j7 h0 hp (Nat.zero_le _) sf)
 intro k am o1;refine e4a0 o1 λaT ax aC i o3=>?_;clear o1;refine e0a6 o3 λan aG sB hI rF hi o4=>?_;clear o3;obtain rfl:=o4;have:=W.next (A:=A) (λZ=>wpAny (model c.prog c.w) A (execs [] C.env) (λf aM=>(match (Except.ok f:Except Value Flow) with | .ok f=>WV c C (mI c) F₀ bs₀ h₀ K f aM | .error _=>False)) (λzz zz=>False) Z)
  (λoC=>wpAny (model c.prog c.w) A (execs body C.env) (λf aM=>match f with
   | .next | .cont=>∃m,m < items.length+1 - i/\∃F' az S' i,Step C.own F₀ bs₀ h₀ F' az aM.heap/\St c C F' az S' aM/\bR c C F' az wr aM.heap/\I i S'/\Pos i F' az aM/\i<=items.length/\m=items.length+1 - i
   | .brk=>WV c C (mI c) F₀ bs₀ h₀ K .next aM
   | .ret v=>WV c C (mI c) F₀ bs₀ h₀ K (.ret v) aM) (λzz zz=>False) oC) (λzz zz=>False)
  (Jr c C body (rD (I (i+1)) K) dT) hA hh aG (mR i aC hI) rF sB ?_ ?_
 . refine aJ this (λr Z h₁=>?_) λzz zz e=>e.elim;cases r with
   | none=>exact aJ h₁ (λf aM ge=>ge) λzz zz e=>e.elim
   | some v=>exact aJ h₁ (λzz mQ pt=>aJ pt (λzz oC un=>aJ un (λf aM ge=>by cases f <;> exact ge) λzz zz e=>e.elim) λzz zz e=>e.elim) λzz zz e=>e.elim
 . intro he s' z' t;refine wpAny_execs_nil ?_;obtain je:i=items.length:=by rw [List.getElem?_eq_none_iff] at he;exact sI hi he
   clear he hi rF;subst je;exact ⟨aT,ax,.next,aC,an.others hn t.same,z',rfl,done aC hI⟩
 . intro y hy;refine ⟨turn i y aC hy hI,λF' az S' s' z' f' p' k' up=>?_⟩;obtain stN:=an.AE hn up;refine aJ (k' A F' az s' hA z') (λf eF Sr=>Sr.casesOn λfb dJ fl fu dl fc hf ja=>?_) (λzz zz ZT=>ZT.casesOn λzz zz zz zz zz zz zz q=>q.elim);have zC:=stN.trans dl;obtain xl:i+1<=items.length:=(bp hy).1;obtain E7:=W.keep p' f' z' dl fc;obtain E8:=(f'.step dl).1;cases fl with
   | next=>cases hf;exact (jV _ (kR hi) fb dJ fu (i+1) zC fc E8 ja E7 xl rfl)
   | cont=>cases hf;exact (jV _ (kR hi) fb dJ fu (i+1) zC fc E8 ja E7 xl rfl)
   | brk=>clear Sr;subst hf;exact ⟨fb,dJ,.next,fu,zC,fc,rfl,ja⟩
   | ret u=>clear Sr;refine e1a1 hf λru o2 Ss=>?_;clear hf;obtain rfl:=o2;exact ⟨fb,dJ,.ret u,fu,zC,fc,(ae ru rfl Ss),ja⟩
inductive Su (c:aP)(C:Cx)(t:Expr)(body:eD)(K:gw)(items:bW)(live:aI->Prop)(ac:AS):Prop
 | mk (I:vO) (h0:I 0 ac) (hl:∀i S',I i S'->live S'.heap) (turn:∀i y S',items[i]?=some y->I i S'->qP c C t y S' (Jr c C body (rD (I (i+1)) K) dT)) (done:∀S',I items.length S'->K .next S')
theorem d8 {t iter:Expr}{body:eD}(hh:C.handled=none)
 (h:lD c C t iter S (Su c C t body K) dT)
 (hs:∀x,foldedSetIterable iter C.env x=pure x:=by intro _;rfl):jK c C (.For t iter body [] pos) S K dT:=by
 intro A F bs s hA z
 skip
 refine WP.standAt ?_;obtain w:=h A F bs s hA z;refine ai (aJ w (λxv eG sW=>?_) λzz zz e=>e);rw [hs];refine ai (bo (ai (wpAny_standAt (ai (wpAny_holding ?_)))));refine aJ sW (λr Z ⟨F₁,bs₁,ac,it,items,live,wr,Ps,e,st,ap,W,ut,hn,hf,hl,I,h0,mR,turn,done⟩=>?_) λzz zz e=>e;refine rE e ?_;exact AF hh W I mR turn done hA h0 ap hn st hf ut
end
section
variable {c:aP}{C:Cx}{S:AS}{F F':G}{bs az:aA}{s s':Shared}{A:Around}{X:cK}
theorem pK {K:cR}{Y:lC}(hA:i7 C A)(z:St c C F bs S s)(hv:c.V F bs y v)(ha:qP c C (.Name x px) y S K)
 (hY:∀F' az S' s',Step C.own F bs s.heap F' az s'.heap->St c C F' az S' s'->K S'->Y s') :
 wpAny (model c.prog c.w) A (letOwnedTupleGo (.Name x px) it v) (λzz mQ=>wpAny (model c.prog c.w) A (assign (.Name x px) C.env v) (λzz am=>Y am) E mQ) E s:=by
 refine wpAny_of_eq (show letOwnedTupleGo (.Name x px) it v=pure () from rfl) ?_;obtain RR:vD c C (.Name x px) y S K dT:=by cases y <;> exact ha
 exact aJ (RR A F bs s v hA z hv) (λzz am Sv=>Sv.casesOn λF' az zz S' st z' zz k=>hY F' az S' am st z' k) λzz zz ZU=>ZU.casesOn λzz zz zz zz zz zz zz q=>q.elim
theorem Iter.walks (W:∀A:Around,A.handled=none->Walks c.prog c.w A it fp wr n P QP)(hn:n=items.length)
 (Sw:∀b∈fp,b∈wr\/∃o,F₀ b=some o) (hP:∀i v,i < n->P i v->∃y,items[i]?=some y/\c.V F₀ bs₀ y v)
 (GE:∀i h,QP i h->∀b∈wr,∃o,h.get? b=some o/\o.cls≠.none/\o.cls≠.type "frame") :
 Iter c (.Name x px) it items (λzz=>True) wr (λi F bs s=>QP i s.heap/\i<=n/\(∀b o,F₀ b=some o->F b=some o)/\∃nb,bs=bs₀++nb):=by
 have keep:∀{C:Cx} {i own F bs S s F' az S' s'},(QP i s.heap/\i<=n/\(∀b o,F₀ b=some o->F b=some o)/\∃nb,bs=bs₀++nb)->bR c C F bs wr s.heap->(∀a∈wr,a∉own)->St c C F bs S s->Step own F bs s.heap F' az s'.heap->St c C F' az S' s' ->
  (QP i s'.heap/\i<=n/\(∀b o,F₀ b=some o->F' b=some o)/\∃nb,az=bs₀++nb):=by
  intro C i own F bs S s F' az S' s' o1;obtain ⟨h1,hi,h2,nb,rfl⟩:=o1;intro hf hw z st z';refine e1a1 st.ext λvB e zz=>?_;refine (fA ((W {} rfl).frame i _ _ h1 λb hb o ho=>?_) hi (λb o e=>st.sub _ _ (h2 _ _ e)) (nb++vB) (by simp only [e,List.append_assoc]))
  (refine bh (Sw b hb) (λq=>?_) (λzx=>?_);rotate_left;refine e1a0 zx λo' q=>?_;rotate_right)
  . exact (hf.xk hw st).2 b q o ho
  . obtain this:=z.wd.sub _ _ (h2 _ _ q);refine rE (aX (aF (af ho) this)) ?_;exact z'.wd.sub _ _ (st.sub _ _ (h2 _ _ q))
 refine ⟨keep,?_,?_⟩
 . intro C A i F bs S s N Y E K hA hh z _ o2;obtain ⟨h1,hi,h2,nb,rfl⟩:=o2;intro hf hN hY;obtain WA:=W A (hA.handled.trans hh);by_cases gX:i < n
   . refine WA.item i s _ _ gX h1 λv h' tk QQ be hk=>?_;refine e1a1 (hP i v gX QQ) λy hy hv=>?_;refine e0a1 (hY y hy) λha hc=>?_;have t:dB wr s {s with heap:=h',toks:=tk}:=⟨λb hb o e=>hk b o hb e,rfl,rfl⟩
     obtain ap:=z.frees t hf;have i8:bR c C F (bs₀++nb) wr h':=⟨hf.free,GE _ _ be⟩
     refine pK hA ap (cu.mono h2 hv) ha λF' az S' s' st z' k=>?_;exact hc F' az S' s' z' (i8.step (s:={s with heap:=h',toks:=tk}) st).1 (keep (s:={s with heap:=h',toks:=tk}) (fA be gX h2 nb rfl) i8 (λa ha=>(i8.free a ha).own) ap st z') k
      ((Step.kc t λa ha=>e1a1 (i8.at_ a ha) λo e zz=>(bQ o e)).trans (st.widen λa ha=>.inl (eo (.inr ha))))
   . obtain je:i=n:=sJ hi gX;clear gX hY;cases je;refine WA.done s _ _ h1 λh' tk hk=>?_;obtain t:dB wr s {s with heap:=h',toks:=tk}:=⟨λb hb o e=>hk b o hb e,rfl,rfl⟩
     exact hN (by simp [hn]) _ (z.frees t hf) t
 . intro A i F bs s Q E hh o3;obtain ⟨h1,hi,h2,nb,rfl⟩:=o3;intro hq;exact (W A hh).self i s Q E h1 hq
theorem Iter.list (hv:c.V F₀ bs₀ v (.ref l)) :
 Iter c (.Name x px) it items (λH=>bZ ⟨[],H⟩ v items) [it] (λi F bs s=>s.heap.IsListIter it l i/\i<=items.length/\(∀b o,F₀ b=some o->F b=some o)/\∃nb,bs=bs₀++nb):=by
 have keep:∀{C:Cx} {i own F bs S s F' az S' s'},(s.heap.IsListIter it l i/\i<=items.length/\(∀b o,F₀ b=some o->F b=some o)/\∃nb,bs=bs₀++nb)->bR c C F bs [it] s.heap->(∀a∈[it],a∉own)->St c C F bs S s->Step own F bs s.heap F' az s'.heap->St c C F' az S' s' ->
  (s'.heap.IsListIter it l i/\i<=items.length/\(∀b o,F₀ b=some o->F' b=some o)/\∃nb,az=bs₀++nb):=by
  intro C i own F bs S s F' az S' s' o1;obtain ⟨⟨o,h1,r⟩,hi,h2,nb,rfl⟩:=o1;intro hf hw z st z';refine e1a1 st.ext λvB e zz=>?_;exact (fA (ae o ((hf.xk hw st).2 it (.head _) o h1) r) hi (λb o e=>st.sub _ _ (h2 _ _ e)) (nb++vB) (by rw [e,List.append_assoc]))
 refine ⟨keep,?_,?_⟩
 . intro C A i F bs S s N Y E K hA hh z hl o2;obtain ⟨h1,hi,h2,nb,rfl⟩:=o2;intro hf hN hY;have lX:bZ S v items:=hl;refine e2a3 (z.seq lX (cu.mono h2 hv)) λl' vs e hL bi zz=>?_;obtain rfl:=Value.ref.inj e;cases hx:items[i]? with
   | none =>
     refine wpAny_pyNext_list_end (hA.handled.trans hh) h1 hL.isList (by simpa using bi.get_none hx) λh' oo=>?_;obtain t:dB [it] s {s with heap:=h'}:=⟨λb hb o e=>oo b o (by simpa using hb) e,rfl,rfl⟩
     exact hN hx _ (z.frees t hf) t
   | some y =>
     refine e1a1 (bi.get hx) λrv Sy Sz=>?_;refine wpAny_pyNext_list_item h1 hL.isList (by simpa using Sy) λge lY kf=>?_;refine e0a1 (hY y hx) λha hc=>?_;have t:dB [it] s {s with heap:=ge}:=⟨λb hb o e=>(kf.2 b (by simpa using hb)).trans e,rfl,rfl⟩
     obtain ap:=z.frees t hf;have i8:bR c C F (bs₀++nb) [it] ge:=⟨hf.free,λa ha=>by refine rE (bD ha) ?_;refine e1a2 lY λo q1 q2 zz=>?_;exact (a9 o q1 (by lia) (by lia))⟩
     refine pK hA ap Sz ha λF' az S' s' st z' k=>?_;exact hc F' az S' s' z' (i8.step (s:={s with heap:=ge}) st).1 (keep (s:={s with heap:=ge}) (fA lY ((bp hx).1) h2 nb rfl) i8 (λa ha=>(i8.free a ha).own) ap st z') k
      ((Step.kc t λa ha=>e1a1 (i8.at_ a ha) λo e zz=>(bQ o e)).trans (st.widen λa ha=>.inl (eo (.inr ha))))
 . intro A i F bs s Q E hh o3;obtain ⟨h1,hi,h2,nb,rfl⟩:=o3;intro hq;exact wpAny_pyIter_listiter h1 hq
theorem xm {K:bW->(aI->Prop)->cR}
 (h:Ev c C iter S (λv ac=>∀A F bs s r,i7 C A->St c C F bs ac s->c.V F bs v r->wpAny (model c.prog c.w) A (pyIter r)
  (Sq c C t F bs s.heap K)
  (WX c C F bs s.heap X) s) X):lD c C t iter S K X:=by
 intro A F bs s hA z;refine aJ (h A F bs s hA z) (λr Z ZV=>ZV.casesOn λF₁ bs₁ v ac al ap hv k₁=>?_) λzz zz e=>e;refine aJ (k₁ A F₁ bs₁ Z r hA ap hv) (λr s' ⟨F',az,S',it,items,live,wr,Ps,e,st,z',W,p,hn,hf,hl,k⟩=>⟨F',az,S',it,items,live,wr,Ps,e,al.trans st,z',W,p,λa ha=>?_,hf,hl,k⟩)
  λx s' ZW=>ZW.casesOn λF' az cls S' st z' hx k=>⟨F',az,cls,S',al.trans st,z',hx.back al.mono,k⟩
 cases q:s.heap.get? a with
 | none=>rfl
 | some o=>refine e1a0 (al.mono _ _ q) λo' e'=>?_;exact bx (aF (af (hn a ha)) e')
theorem bR.one (z:St c C F bs S s)(hn:s.heap.get? a=none)(ho:h'.get? a=some o)(h1:o.cls≠.none)(h2:o.cls≠.type "frame"):bR c C F bs [a] h' :=
 ⟨λb hb=>by simp only [bD hb];exact z.ez hn,λb hb=>by rw [bD hb];exact (a9 o ho h1 h2)⟩
@[reducible] def SA (K:bW->(aI->Prop)->cR):cw:=λv S=>∃xs,bZ S v xs/\K xs (λH=>bZ ⟨[],H⟩ v xs) S
@[reducible] def SD (K:bW->(aI->Prop)->cR):cw:=λv S=>∃xs,v=.tup xs/\K xs (λzz=>True) S
theorem fC {K:bW->(aI->Prop)->cR}(h:Ev c C iter S (SA K) X):lD c C (.Name x px) iter S K X:=by
 refine xm (kY h λv ac ZX=>e1a1 ZX λxs lX k A F bs s r hA z hv=>?_);refine e2a3 (z.seq lX hv) λl vs Gv hL bi zz=>?_;obtain rfl:=Gv;refine wpAny_pyIter_list hL.isList ?_;obtain hn:s.heap.get? s.heap.objs.size=none:=gp (aZ _);obtain ha:(s.heap.push {cls:=.type "list_iterator",data:=.fields #[.ref l,.int 0 0]}).get? s.heap.objs.size=some {cls:=.type "list_iterator",data:=.fields #[.ref l,.int 0 0]}:=dw _ rfl;obtain m:ba c F bs s {s with heap:=s.heap.push {cls:=.type "list_iterator",data:=.fields #[.ref l,.int 0 0]}}:=⟨λb o e=>cI _ e,rfl,rfl⟩
 exact ⟨F,bs,ac,_,xs,_,_,_,rfl,.keep m,z.keep m,Iter.list hv,(fA (a9 _ ha rfl rfl) (Nat.zero_le _) (λzz zz e=>e) [] (by simp)),λa q=>by rw [bD q];exact hn,bR.one z hn ha (by simp) (by simp),lX,k⟩
theorem kh {K:bW->(aI->Prop)->cR}(h:Ev c C iter S (SD K) X):lD c C (.Name x px) iter S K X:=by
 refine xm (kY h λv ac XU=>e1a1 XU λxs e k A F bs s r hA z hv=>?_);clear XU;subst e;refine e2a2 hv.inv λa vs E1 ht bi=>?_;refine rE E1 ?_;obtain Jv:s.heap.IsTuple a vs.toArray:=(dz _ (z.wd.sub _ _ ht) rfl 0 rfl)
 refine wpAny_pyIter_tuple Jv ?_;obtain hn:s.heap.get? s.heap.objs.size=none:=gp (aZ _);obtain ha:(s.heap.push {cls:=.type "tuple_iterator",data:=.fields #[.ref a,.int 0 0]}).get? s.heap.objs.size=some {cls:=.type "tuple_iterator",data:=.fields #[.ref a,.int 0 0]}:=dw _ rfl;obtain m:ba c F bs s {s with heap:=s.heap.push {cls:=.type "tuple_iterator",data:=.fields #[.ref a,.int 0 0]}}:=⟨λb o e=>cI _ e,rfl,rfl⟩
 obtain co:a≠s.heap.objs.size:=cA (Heap.lt_size (z.wd.sub _ _ ht));refine ⟨F,bs,ac,_,xs,_,[s.heap.objs.size],_,rfl,.keep m,z.keep m,Iter.walks (F₀:=F) (bs₀:=bs) (λA hA=>Walks.tuple hA s.heap.objs.size a co vs.toArray) (bi.length) ?_ ?_ ?_,
  (fA ⟨(a9 _ ha rfl rfl),(dz _ (m.keep _ _ (z.wd.sub _ _ ht)) rfl 0 rfl)⟩ (Nat.zero_le _) (λzz zz e=>e) [] (by simp)),λa q=>by rw [bD q];exact hn,bR.one z hn ha (by simp) (by simp),trivial,k⟩
 . intro b hb;rcases er hb with e | hb
   . exact .inl (by simp [e])
   . rw [bD hb];exact .inr (bQ _ ht)
 . intro i v _ mt;obtain gX:i < vs.length:=by obtain this:=(Array.getElem?_eq_some_iff.mp mt).1;exact this
   have JD:i < xs.length:=by simp only [<-bi.length];exact gX
   refine e1a1 (bi.get (df JD)) λv' h1 h2=>?_;obtain this:vs[i]?=some v:=by simpa using mt
   refine rE (aX (aF (af this) h1)) ?_;exact (ae _ (df JD) h2)
 . intro i h o1;refine e0a1 o1 λXV zz=>?_;clear o1;refine e1a2 XV λo q1 q2 zz=>?_;clear XV;intro b hb;refine rE (bD hb) ?_;exact (a9 o q1 (by rw [q2];simp) (by rw [q2];simp))
theorem AG {x:Str}{px:Pos}{f:Expr}{args:cz}{pos:Pos}{K:bW->(aI->Prop)->cR}
 (h:Ev c C f S (λv ac=>v=.raw (.type "range")/\oR c C pos args ac (λvs aC=>∃a b d:Int,(vs=[.int b]/\a=0/\d=1\/vs=[.int a,.int b,.int d]/\d≠0/\Builtin.divisionGoesByPylong (b - a) d=false)/\Builtin.Range.small a b d=true /\
  ∃n:Nat,Builtin.Range.rangeSize a b d=n/\K ((List.range n).map λ(i:Nat)=>AV.int (a+(i:Int)*d)) (λzz=>True) aC) X) X)
 (he:eval (.Call f args [] pos) C.env=(do callWith pos (<-eval f C.env) [] (backTo pos (starEach args C.env)) (backToKw pos (keywordEach [] C.env))):=by rfl)
 (sK:(backTo pos (starEach args C.env)).any (·.1)=false:=by rfl)
 (hl:mM (backTo pos (starEach args C.env))=false:=by rfl):lD c C (.Name x px) (.Call f args [] pos) S K X:=by
 intro A F bs s hA z;simp only [he];refine ai (aJ (h A F bs s hA z) (λr Z ⟨F₁,bs₁,v,ac,al,ap,hv,e,k₁⟩=>?_) λzz zz e=>e);subst e;obtain ⟨_,rfl⟩:=hv.inv;refine PySem.callWith_type sK ?_;refine aJ (gh hA ap k₁ hl) (λa am ⟨aT,ax,vs,aC,an,aG,⟨oA,bi⟩,k₂⟩=>?_) λx am ZY=>ZY.casesOn λaT ax cls aC an aG hx k₂=>⟨aT,ax,cls,aC,al.trans an,aG,hx.back al.mono,k₂⟩
 refine rE oA ?_;obtain ⟨lo,hi,d,pu,XW,n,hsz,bv⟩:=k₂;have fin:∀(aM:Shared) (r:Addr) (t u w:Tok),ba c aT ax am aM->IsRange aM.heap r lo hi d t u w->wpAny (model c.prog c.w) A (pyIter (.ref r)) (Sq c C (.Name x px) F bs s.heap K)
  (WX c C F bs s.heap X) aM:=by
  intro aM r t u w m hr;refine wpAny_pyIter_range hr XW ?_;obtain aR:=aG.keep m;obtain hn:aM.heap.get? aM.heap.objs.size=none:=gp (aZ _);obtain ha:=dw aM.heap (o:={cls:=.type "range_iterator",data:=.fields #[rawInt lo,rawInt (Builtin.Range.rangeSize lo hi d),rawInt d]}) rfl;obtain m':ba c aT ax aM {aM with heap:=aM.heap.push {cls:=.type "range_iterator",data:=.fields #[rawInt lo,rawInt (Builtin.Range.rangeSize lo hi d),rawInt d]}}:=⟨λb o e=>cI _ e,rfl,rfl⟩
  have st:Step C.own F bs s.heap aT ax aM.heap:=(al.trans an).trans (.keep m);refine ⟨aT,ax,aC,_,_,_,[aM.heap.objs.size],_,rfl,st.trans (.keep m'),aR.keep m',Iter.walks (F₀:=aT) (bs₀:=ax) (λA hA=>Walks.range hA aM.heap.objs.size lo d n) (by simp) (λb hb=>.inl hb) ?_ ?_,
   (fA ?_ (Nat.zero_le _) (λzz zz e=>e) [] (by simp)),λa q=>?_,bR.one aR hn ha (by simp) (by simp),trivial,bv⟩
  . intro i v hi o1;refine e1a0 o1 λt E2=>?_;clear o1;obtain rfl:=E2;exact (ae (.int (lo+(i:Int)*d)) (by simp [hi]) (.int _ _))
  . rintro i h q b hb;refine rE (bD hb) ?_;exact (a9 _ q (by simp) (by simp))
  . show (aM.heap.push {cls:=.type "range_iterator",data:=.fields #[rawInt lo,rawInt (Builtin.Range.rangeSize lo hi d),rawInt d]}).get? aM.heap.objs.size=_;refine (af ha)▸(af hsz)▸?_;simp
  . refine rE (bD q) ?_;cases e:s.heap.get? aM.heap.objs.size with
    | none=>rfl
    | some o=>refine e1a0 (st.mono _ _ e) λo' e'=>?_;exact bx (aF (af hn) e')
 clear bv hsz XW;rcases pu with ⟨e,rfl,rfl⟩ | ⟨e,hd,hp⟩
 . subst e;obtain ⟨ps,kw⟩:=a;refine e2a2 bi.inv λzz zz E3 h1 h2=>?_;refine rE E3 ?_;refine e1a0 h1.inv λzz CT=>?_;refine rE CT ?_;clear bi oA;refine rE h2.inv ?_;exact call_range_1 (fin _ _ _ _ _ ⟨λb o e=>cI _ e,rfl,rfl⟩ (IsRange.new ..))
 . subst e;obtain ⟨ps,kw⟩:=a;refine e2a2 bi.inv λzz zz Am h1 h2=>?_;refine rE Am ?_;refine e1a0 h1.inv λzz zs=>?_;refine rE zs ?_;refine e2a2 h2.inv λzz zz zt h3 h4=>?_;refine rE zt ?_;refine e1a0 h3.inv λzz zu=>?_;refine rE zu ?_;refine e2a2 h4.inv λzz zz zv h5 h6=>?_;refine rE zv ?_;refine e1a0 h5.inv λzz zw=>?_;refine rE zw ?_;clear h4 bi oA h2;refine rE h6.inv ?_;exact call_range_3 hd (fin _ _ _ _ _ ⟨λb o e=>cI _ e,rfl,rfl⟩ (IsRange.new ..)) (.inl hp)
end
section
variable {c:aP}{C:Cx}{S:AS}{F F':G}{bs az:aA}{s s':Shared}{A:Around}{X:cK}{K:cw}
theorem a6.one (h:c.Vs F bs [x] rs):∃r,rs=[r]/\c.V F bs x r:=by cases h with | cons h1 h2=>cases h2;exact (ae _ rfl h1)
theorem a6.two (h:c.Vs F bs [x,y] rs):∃r q,rs=[r,q]/\c.V F bs x r/\c.V F bs y q:=by
 cases h with | cons h1 h2=>refine e1a1 (a6.one h2) λq rz h3=>?_;refine rE rz ?_;exact (ck _ q rfl h1 h3)
theorem St.gI (z:St c C F bs S s)(hv:c.V F bs (.ref k) r)(hk:S.heap[k]?=some o):∃a,r=.ref a/\bs[k]?=some a/\fm c F bs s.heap a o/\(o≠.gone->F a=none):=by
 cases hv with | ref h1=>exact (a9 _ rfl h1 (z.wd.obj k _ _ h1 hk))
theorem St.kZ (z:St c C F bs S s){k:Nat}{a:Addr}{xs xs':bW}{vs vs':iC}{n:Nat}(hk:bs[k]?=some a)(ho:S.heap[k]?=some (.list xs))(h0:s.heap.get? a=some (aY vs n))(bi:c.Vs F bs xs' vs')(f:Array Value->Array Value)(hf:(f vs.toArray).toList=vs') :
 let s':Shared:={s with heap:=s.heap.update a (Obj.mapSeq f)}
 Step C.own F bs s.heap F bs s'.heap/\St c C F bs {S with heap:=S.heap.set k (.list xs')} s':=by
 intro s';obtain e:∃n',(aY vs n).mapSeq f=aY vs' n':=by refine (bQ (if (f vs.toArray).size==vs.toArray.size then n else n+1) ?_);clear bi;subst hf;rfl
 obtain ⟨n',e⟩:=e;obtain g:s'.heap.get? a=some (aY vs' n'):=by obtain this:=jS (f:=Obj.mapSeq f) h0 (rfl);rw [e] at this;exact this
 obtain hs:Heap.SameBut a s.heap s'.heap:=Heap.SameBut.update ..;obtain T:ff a s s':=⟨λb q o e=>(hs.2 b q).trans e,(bQ _ g),rfl,rfl⟩
 exact ⟨.upd T (.inl (bJ hk)),z.upd T hk ho (by simp) (ae vs' (bQ n' g) bi)⟩
theorem dK (hk:S.heap[k]?=some (.list xs))(hsz:xs.length<=sizeLine)(k':K .none {S with heap:=S.heap.set k (.list (xs++[x]))}):eO c C (.builtin "list.append") [.ref k,x] S K X:=by intro A F bs s rs hA z hv;refine e2a2 hv.two λr q o9 h1 h2=>?_;refine rE o9 ?_;clear hv;refine e1a3 (z.gI h1 hk) λa JE hb zs zz=>?_;refine e1a1 zs λvs Gv bi=>?_;clear zs;obtain ⟨n,h0⟩:=Gv;refine rE JE ?_;refine call_meets PySem.F.slot_list_append (ae _ h0 rfl) PySem.F.entry_list_append (PySem.F.args_list_append_2 _ _) (AutoListH.list_append_list_val_0 a vs.toArray n q (by simp [bi.length,hsz])) ?_;obtain this:=z.kZ (xs':=xs++[x]) (vs':=vs++[q]) hb hk h0 (bi.append (.cons h2 .nil)) (λx=>x.push q) (by simp);exact ⟨h0,F,bs,.none,_,this.1,this.2,.none,k'⟩
theorem a6.erase (i:Nat)(h:c.Vs F bs xs vs):c.Vs F bs (xs.eraseIdx i) (vs.eraseIdx i):=by
 induction xs generalizing vs i with
 | nil=>refine rE h.inv ?_;exact .nil
 | cons x l ih =>
   refine e2a2 h.inv λzz zz o8 h1 h2=>?_;refine rE o8 ?_;cases i with
   | zero=>exact h2
   | succ i=>exact .cons h1 (ih i h2)
theorem vT (h1:-(2 ^ 63)<=i)(h2:i < 2 ^ 63):Builtin.List.listFitsIndex i=true:=by delta Builtin.List.listFitsIndex;simp only [eZ,decide_eq_true_eq];exact ⟨h1,h2⟩
set_option tactic.hygienic true in
theorem Dv (hk:S.heap[k]?=some (.list xs))(hsz:xs.length<=sizeLine)(hj:seqIndex? i xs.length=some j)(hy:xs[j]?=some y)(JF:-(2 ^ 63)<=i)(xl:i < 2 ^ 63)
 (k':K y {S with heap:=S.heap.set k (.list (xs.eraseIdx j))}):eO c C (.builtin "list.pop") [.ref k,.int i] S K X:=by
 intro A F bs s rs hA z hv;refine e2a2 hv.two λr q o7 h1 h2=>?_;refine rE o7 ?_;refine e1a3 (z.gI h1 hk) λa JG hb zt _=>?_;refine e1a1 zt λvs E1 bi=>?_;clear zt;obtain ⟨n,h0⟩:=E1;refine rE JG ?_;clear hv;refine e1a0 h2.inv λ_ o6=>?_;refine rE o6 ?_;refine e1a1 (bi.get hy) λv SC SE=>?_;refine call_meets PySem.F.slot_list_pop (ae _ h0 rfl) PySem.F.entry_list_pop (PySem.F.args_list_pop_2 _ _) (MeetsSeq.list_pop_at a vs.toArray n i _ j v (vT JF xl) (by simpa [bi.length] using hj) (by simpa using SC) (by simp [bi.length,hsz])) ?_;obtain this:=z.kZ (xs':=xs.eraseIdx j) (vs':=vs.eraseIdx j) hb hk h0 (a6.erase j bi) (λx=>x.eraseIdxIfInBounds j) (by
  simp only [Array.eraseIdxIfInBounds]
  split
  . simp
  . rename_i hn;simp at hn;rw [List.eraseIdx_of_length_le hn])
 exact ⟨h0,F,bs,y,_,this.1,this.2,SE,k'⟩
set_option tactic.hygienic true in
theorem E9 (hk:S.heap[k]?=some (.list (xs++[y])))(hsz:xs.length+1<=sizeLine)
 (k':K y {S with heap:=S.heap.set k (.list xs)}):eO c C (.builtin "list.pop") [.ref k] S K X:=by
 intro A F bs s rs hA z hv;refine e1a1 hv.one λr o5 h1=>?_;refine rE o5 ?_;clear hv;refine e1a3 (z.gI h1 hk) λa JH hb zu _=>?_;refine e1a1 zu λvs E2 bi=>?_;clear zu;obtain ⟨n,h0⟩:=E2;refine rE JH ?_;have hlen:vs.length=xs.length+1:=by rw [bi.length];simp
 refine e1a1 (bi.get (i:=xs.length) (x:=y) (by simp)) λv SC SE=>?_;refine call_meets PySem.F.slot_list_pop (ae _ h0 rfl) PySem.F.entry_list_pop (PySem.F.args_list_pop_1 _) (MeetsSeq.list_pop_last a vs.toArray n v (by simpa [hlen] using SC) (by simp [hlen,hsz])) ?_;obtain e:(xs++[y]).eraseIdx xs.length=xs:=by rw [List.eraseIdx_append_of_length_le (aZ _)];simp
 obtain this:=z.kZ (xs':=xs) (vs':=vs.eraseIdx xs.length) hb hk h0 (by obtain this:=a6.erase xs.length bi;rw [e] at this;exact this) (λx=>x.eraseIdxIfInBounds (vs.toArray.size - 1)) (by
  have e2:vs.toArray.size - 1=xs.length:=by simp [hlen]
  simp only [Array.eraseIdxIfInBounds,e2]
  split
  . simp
  . rename_i hn;simp [hlen] at hn)
 exact ⟨h0,F,bs,y,_,this.1,this.2,SE,k'⟩
theorem Dw (hk:S.heap[k]?=some (.list xs))(hsz:xs.length<=sizeLine)(k':K .none {S with heap:=S.heap.set k (.list [])}):eO c C (.builtin "list.clear") [.ref k] S K X:=by intro A F bs s rs hA z hv;refine e1a1 hv.one λr o4 h1=>?_;refine rE o4 ?_;clear hv;refine e1a3 (z.gI h1 hk) λa JI hb zv zz=>?_;refine e1a1 zv λvs E3 bi=>?_;clear zv;obtain ⟨n,h0⟩:=E3;refine rE JI ?_;refine call_meets PySem.F.slot_list_clear (ae _ h0 rfl) PySem.F.entry_list_clear (PySem.F.args_list_clear_1 _) (AutoSeq1.list_clear_list_0 a vs.toArray n (by simp [bi.length,hsz])) ?_;obtain this:=z.kZ (xs':=[]) (vs':=[]) hb hk h0 .nil (λzz=>#[]) (rfl);exact ⟨h0,F,bs,.none,_,this.1,this.2,.none,k'⟩
theorem St.uw (z:St c C F bs S s)(h:bZ S v xs)(hv:c.V F bs v r):∃l vs n,r=.ref l/\s.heap.get? l=some (aY vs n)/\c.Vs F bs xs vs:=by refine e2a3 (z.seq h hv) λl vs e zw h2 zz=>?_;refine e1a0 zw λn h1=>?_;clear zw;exact (eT l vs n e h1 h2)
theorem ux (hk:S.heap[k]?=some (.list xs))(hv:bZ S v ys)(hsz:xs.length+ys.length<=sizeLine)(k':K .none {S with heap:=S.heap.set k (.list (xs++ys))}):eO c C (.builtin "list.extend") [.ref k,v] S K X:=by
 intro A F bs s rs hA z QR;refine e2a2 QR.two λr q o3 h1 h2=>?_;refine rE o3 ?_;refine e1a3 (z.gI h1 hk) λa JJ hb zx zz=>?_;refine e1a1 zx λvs CT bi=>?_;clear zx;obtain ⟨n,h0⟩:=CT;refine rE JJ ?_;clear QR;refine e3a2 (z.uw hv h2) λb us n2 o2 h3 yA=>?_;refine rE o2 ?_;refine call_meets PySem.F.slot_list_extend (ae _ h0 rfl) PySem.F.entry_list_extend (PySem.F.args_list_extend_2 _ _) (AutoSeq1.list_extend_list_list_0 a vs.toArray n b us.toArray n2 ?_ ?_ ?_) ?_
 . obtain this:sizeLine=2 ^ 24:=rfl;simp [Builtin.List.listTooLong,bi.length,yA.length];intro _;exact hsz
 . simp [bi.length];exact Nat.le_of_add_right_le hsz
 . simp [bi.length,yA.length];exact Nat.le.step hsz
 obtain this:=z.kZ (xs':=xs++ys) (vs':=vs++us) hb hk h0 (bi.append yA) (λx=>x++us.toArray) (by simp);exact (aH h0 h3 ⟨F,bs,.none,_,this.1,this.2,.none,k'⟩)
end
def qQ (K:cw)(xs:bW)(S:AS):Prop:=K (.lst xs) S\/K (.ref S.heap.length) {S with heap:=S.heap++[.list xs]}
section
variable {c:aP}{C:Cx}{S:AS}{F F':G}{bs az:aA}{s s':Shared}{A:Around}{X:cK}{K:cw}
theorem St.AH (z:St c C F bs S s)(m:ba c F bs s s')(hn:s.heap.get? a=none)(ha:s'.heap.get? a=some (aY vs n))(bi:c.Vs F bs xs vs)(k:qQ K xs S) :
 WV c C c.V F bs s.heap K (.ref a) s':=by
 (refine bh k (λk=>?_) (λk=>?_))
 . obtain hF:=z.jm hn;refine ⟨_,bs,.lst xs,S,.frozen m hF hn,z.i6 m hn ha,.lst (bQ n bO) ?_,k⟩;simpa using a6.mono (nb:=[]) (aQ hF) bi
 . refine ⟨F,_,.ref S.heap.length,_,.new m hn,z.new (o:=.list xs) m hn ha (ae vs (bQ n ha) (a6.mono (λzz zz e=>e) bi)),.ref ?_,k⟩;refine z.wd.len▸?_;simp
theorem St.ic (s:Shared):s.heap.get? s.heap.objs.size=none:=gp (aZ _)
theorem nM (h:bZ S v xs)(hl:xs.length < 2 ^ 63)(k:K (.int xs.length) S):eO c C (.builtin "len") [v] S K X:=by
 intro A F bs s rs hA z hv;refine e1a1 hv.one λr zx h1=>?_;refine rE zx ?_;clear hv;refine e3a2 (z.uw h h1) λl vs n Gz h0 bi=>?_;refine rE Gz ?_;refine WP.kept z λQ E q=>Calls.call_len_list (items:=vs.toArray) (dz _ h0 rfl n rfl) (by simp [bi.length];exact pd hl) (q _ _ (.toks ..) (ae (.int xs.length) ?_ k));obtain this:((vs.toArray.size:Nat):Int)=xs.length:=by simp [bi.length]
 simp only [this];exact .int _ _
noncomputable def signs (x:Str):bW:=x.cps.toList.map λc=>.str ⟨#[c]⟩
theorem gj (k:K (.int (a+b)) S):iX c C (inplaceOp .Add) (.int a) (.int b) S K X:=λA F bs s ra rb hA z ha lw=>by refine e1a0 ha.inv λzz o4=>?_;refine rE o4 ?_;refine e1a0 lw.inv λzz o3=>?_;refine rE o3 ?_;exact WP.kept z λQ E q=>AutoIntOps.iadd_0 (q _ _ (.toks ..) (ae _ (.int _ _) k))
theorem Dx (k:K (.int (a - b)) S):iX c C (inplaceOp .Sub) (.int a) (.int b) S K X:=λA F bs s ra rb hA z ha lw=>by refine e1a0 ha.inv λzz o2=>?_;refine rE o2 ?_;refine e1a0 lw.inv λzz o1=>?_;refine rE o1 ?_;exact WP.kept z λQ E q=>AutoIntOps.isub_0 (q _ _ (.toks ..) (ae _ (.int _ _) k))
end
noncomputable def AI (n:Nat)(S:AS):dI->Prop
 | []=>True
 | (i,v)::l=>S.loc.lookup i=some v/\v.under n=true/\AI n S l
noncomputable def AO.bL (n:Nat):aI->Bool
 | []=>true
 | o::l=>o.under n&&AO.bL n l
@[simp] theorem uon {n:Nat}:AO.bL n []=true:=rfl
@[simp] theorem uoc {n:Nat} {o:AO} {hs:aI}:AO.bL n (o::hs)=(o.under n&&AO.bL n hs):=rfl
theorem AI.at (h:AI n S l)(x:Nat)(u:AV)(e:l.lookup x=some u):S.loc.lookup x=some u/\u.under n=true:=by
 induction l with
 | nil=>exact bx e
 | cons p l ih =>
   rw [List.lookup_cons] at e;cases q:x==p.1 with
   | true=>rw [q] at e;rw [eq_of_beq q,<-aX e];exact ⟨h.1,h.2.1⟩
   | false=>rw [q] at e;exact ih h.2.2 e
theorem AO.pL (h:AO.bL n l=true):∀o∈l,AO.under n o=true:=by
 induction l with
 | nil=>intro o m;exact absurd m List.not_mem_nil
 | cons p l ih =>
   intro o m;have h':(AO.under n p&&AO.bL n l)=true:=h;rw [eZ] at h';rcases er m with e | m
   . refine rE e ?_;exact h'.1
   . exact ih h'.2 o m
section
variable {c:aP}{C:Cx}{S:AS}
@[reducible] def Fb (n:Nat) (L:dI) (I:cR):cR:=λS=>AI n S L/\AO.bL n (S.heap.take n)=true/\I ⟨L,S.heap.take n⟩
@[reducible] def XY (n:Nat) (L:dI) (I:cR) (K:gw):gw:=λfl S=>match fl with
 | .next=>Fb n L I S
 | .cont=>Fb n L I S
 | .brk=>K .next S
 | .ret v=>K (.ret v) S
theorem d9 (n:Nat)(l:a8):AV.bL n (l.map AV.str)=true:=AV.uq n l
end
theorem uy (l r:a8):l.map AV.str++r.map AV.str=(l++r).map AV.str:=by simp
noncomputable def chars (x:Str):a8:=x.cps.toList.map λc=>⟨#[c]⟩
theorem uz (x:Str):signs x=(chars x).map AV.str:=by simp [signs,chars]
theorem mT (x:Str):(chars x).length=x.length:=by simp [chars,Str.length]
noncomputable def b9 {κ α:Type} [DecidableEq κ] (kvs:List (κ×α))(k:κ):Option α:=(kvs.find? λkv=>kv.1=k).map (·.2)
noncomputable def dC {κ α:Type} [DecidableEq κ] (kvs:List (κ×α))(k:κ)(v:α):List (κ×α) :=
 if kvs.any (λkv=>kv.1=k) then kvs.map (λkv=>if kv.1=k then (kv.1,v) else kv) else kvs++[(k,v)]
noncomputable def vU {κ α:Type} [DecidableEq κ] (kvs:List (κ×α))(k:κ):List (κ×α):=kvs.filter λkv=>kv.1≠k
section
variable {c:aP}{C:Cx}{S:AS}{F F':G}{bs az:aA}{s s':Shared}{A:Around}{X:cK}{K:cw}{mg mb:dZ}
theorem bE.keys (h:c.SV F bs kvs rs):rs.map (·.1)=kvs.map (·.1):=by
 induction kvs generalizing rs with
 | nil=>refine rE h.inv ?_;rfl
 | cons p l ih=>refine e2a2 h.inv λzz zz oS zz t=>?_;refine rE oS ?_;exact congrArg (p.1::·) (ih t)
theorem bE.get (k:Str)(h:c.SV F bs kvs rs):(∃x v,b9 kvs k=some x/\valueAt rs k=some v/\c.V F bs x v)\/(b9 kvs k=none/\valueAt rs k=none):=by
 delta b9 valueAt;induction kvs generalizing rs with
 | nil=>obtain rfl:=h.inv;exact .inr ⟨rfl,rfl⟩
 | cons p l ih =>
   refine e2a2 h.inv λw r uA hx t=>?_;refine rE uA ?_;refine (af (List.find?_cons))▸(af (List.find?_cons))▸?_;cases decide (p.1=k) with
   | true=>exact .inl (ck _ _ rfl rfl hx)
   | false=>exact ih t
theorem bE.any (k:Str)(h:c.SV F bs kvs rs):rs.any (λkv=>kv.1=k)=kvs.any (λkv=>kv.1=k):=by
 obtain e:=congrArg (List.any · λx=>decide (x=k)) h.keys
 rwa [List.any_map,List.any_map] at e
theorem bE.map (k:Str)(h:c.SV F bs kvs rs)(hv:c.V F bs x v):c.SV F bs (kvs.map λkv=>if kv.1=k then (kv.1,x) else kv) (rs.map λkv=>if kv.1=k then (kv.1,v) else kv):=by
 induction kvs generalizing rs with
 | nil=>refine rE h.inv ?_;exact .nil
 | cons p l ih =>
   refine e2a2 h.inv λw r uB hx t=>?_;refine rE uB ?_;rw [List.map_cons,List.map_cons];by_cases e:p.1=k
   . rw [if_pos e,if_pos e];exact .cons hv (ih t)
   . rw [if_neg e,if_neg e];exact .cons hx (ih t)
theorem bE.append (h:c.SV F bs kvs rs)(h':c.SV F bs vV JK):c.SV F bs (kvs++vV) (rs++JK):=by
 induction kvs generalizing rs with
 | nil=>refine rE h.inv ?_;exact h'
 | cons y ys ih=>refine e2a2 h.inv λzz zz vW h1 h2=>?_;refine rE vW ?_;exact .cons h1 (ih h2)
theorem bE.put (k:Str)(h:c.SV F bs kvs rs)(hv:c.V F bs x v):c.SV F bs (dC kvs k x) (stored rs k v):=by
 delta dC stored;rw [bE.any k h]
 split
 . exact bE.map k h hv
 . exact bE.append h (.cons hv .nil)
theorem str_is (x:Str)(t:Tok):(sk prog w).is x (.str x t)=true:=by show Value.isStrOf x (.str x t)=true;simp [Value.isStrOf]
@[reducible] def JL (c:aP) (C:Cx) (o:AV) (K:cw) (X:cK):cw:=λi S=>(∃T id,uu S o=some T/\typeLookup (.type T) "__getitem__"=pure (some (.builtin id)))/\iX c C getItem o i S K X
@[reducible] def SF (c:aP) (C:Cx) (slice:Expr) (K:cw) (X:cK):cw:=λo S=>Ev c C slice S (JL c C o K X) X
theorem bq {value slice:Expr}{pos:Pos}
 (h:Ev c C value S (SF c C slice K X) X)
 (hs:(∀o i,subscripted slice false o i=operate [o,i] (getItem o i)):=by intro _ _;rfl):Ev c C (.Subscript value slice pos) S K X:=by
 intro A F bs s hA z
 skip
 refine WP.bind (h A F bs s hA z) λF₁ bs₁ ac Z o ro al ap ho k₁=>?_;refine WP.bind (WP.holding (k₁ A F₁ bs₁ Z hA ap)) λaT ax aC am i ri an aG hi SG=>e0a1 SG λSH=>e2a1 SH λT id hT hl k₂=>?_;refine WP.standAt ?_;obtain xn:=an.V ho;refine e0a1 (aG.ty hT xn) λt1 zz=>?_;obtain w:=k₂ A aT ax am ro ri hA aG xn hi;refine ai ?_;refine ai (wpAny_specialOf t1 hl ?_);obtain fin:wpAny (model c.prog c.w) A (subscripted slice false ro ri >>= λr=>letTemporaryGo value ro r >>= λzz=>pure r)
  (WV c C c.V aT ax am.heap K)
  (WX c C aT ax am.heap X) am:=by
  rw [hs];exact ai (wpAny_operating (aJ w (λr aM ge=>ai (wpAny_letTemporaryGo (bo ge))) λzz zz x=>x))
 first
  | exact bo fin
  | exact ai (bo fin)
  | exact fin
theorem bH (h:bZ S v xs):∃T id,uu S v=some T/\typeLookup (.type T) "__getitem__"=pure (some (.builtin id)):=by
 (refine bh h (λDy=>?_) (λJM=>?_);clear h;obtain rfl:=Dy;rotate_left;clear h;refine e1a1 JM λk GM hk=>?_;clear JM;obtain rfl:=GM;rotate_right)
 . exact (dY _ _ rfl PySem.F.slot_list_getitem.lookup)
 . exact (dY ("list") _ (fB hk rfl) PySem.F.slot_list_getitem.lookup)
theorem cD (h:bZ S v xs)(h0:0<=i)(h1:i < 2 ^ 63)(hy:xs[i.toNat]?=some y)(k:K y S):iX c C getItem v (.int i) S K X:=λA F bs s ra rb hA z ha hb=>by refine e1a0 hb.inv λzz vX=>?_;refine rE vX ?_;refine e2a3 (z.seq h ha) λl vs GN hL bi zz=>?_;refine rE GN ?_;refine e1a1 (bi.get hy) λw e1 e2=>?_;exact WP.kept z λQ E q=>wpAny_getItem_list hL.isList h0 h1 (by simpa using e1) (q _ _ (.refl ..) (ae y e2 k))
theorem sX (h:bZ S v (xs++[y]))(k:K y S):iX c C getItem v (.int (-1)) S K X:=λA F bs s ra rb hA z ha hb=>by
 refine e1a0 hb.inv λzz GO=>?_;refine rE GO ?_;refine e2a3 (z.seq h ha) λl vs GP hL bi zz=>?_;refine rE GP ?_;obtain hlen:=bi.length
 skip
 refine e1a1 (bi.get (i:=xs.length) (x:=y) (by simp)) λw e1 e2=>?_;refine WP.kept z λQ E q=>wpAny_getItem_list_neg hL.isList (by decide) (by simp [hlen];exact Int.ofNat_lt.mpr (Nat.le_add_left (Nat.succ 0) _)) (by decide) (x:=w) ?_ (q _ _ (.refl ..) (ae y e2 k));obtain this:(-1+((vs.toArray.size:Nat):Int)).toNat=xs.length:=by simp [hlen];exact (by simp +arith)
 refine rE this ?_;simpa using e1
@[reducible] def GQ (v ov:AV) (K:cR):cw:=λiv S=>∃k x kvs,ov=.ref k/\iv=.str x/\S.heap[k]?=some (.aN kvs)/\kvs.length<=sizeLine/\K {S with heap:=S.heap.set k (.aN (dC kvs x v))}
@[reducible] def XZ (c:aP) (C:Cx) (i:Expr) (v:AV) (K:cR) (X:cK):cw:=λov S=>Ev c C i S (GQ v ov K) X
end
section
variable {c:aP}{C:Cx}{S:AS}{F F':G}{bs az:aA}{s s':Shared}{A:Around}{X:cK}{K:cw}{mg mb:dZ}{pos:Pos}
@[reducible] def SJ (K:Bool->cR):Bool->cR:=λb=>K (!b)
@[reducible] def JN (T:cR) (K:Bool->cR):Bool->cR:=λb S=>match b with | false=>K false S | true=>T S
@[reducible] def SK (T:cR) (K:Bool->cR):Bool->cR:=λb S=>match b with | true=>K true S | false=>T S
@[reducible] def X0 (c:aP) (C:Cx) (b:Expr) (v:AV) (K:cw) (X:cK):Bool->cR:=λt S=>match t with | false=>K v S | true=>Ev c C b S K X
@[reducible] def SM (c:aP) (C:Cx) (b:Expr) (v:AV) (K:cw) (X:cK):Bool->cR:=λt S=>match t with | true=>K v S | false=>Ev c C b S K X
@[reducible] def GR (c:aP) (C:Cx) (a b:Expr) (K:cw) (X:cK):Bool->cR:=λv S=>match v with | true=>Ev c C a S K X | false=>Ev c C b S K X
@[reducible] def SN (c:aP) (C:Cx) (t:Expr) (K:cw) (X:cK):cw:=λv S=>vD c C t v S (K v) X
theorem fX {e:Expr}{K:Bool->cR}(h:Ev c C e S (XE c C K X) X)
 (he:isTrue e C.env (eval e C.env)=(do let v <-eval e C.env;standAt e.pos;holding [v] (truthy v)):=by rfl):xd c C e S K X:=by
 intro A F bs s hA z;refine rE he ?_;refine WP.bind (h A F bs s hA z) λF₁ bs₁ ac Z v r st ap hv k=>?_;exact WP.standAt (WP.holding (k A F₁ bs₁ Z r hA ap hv))
theorem sY {K:Bool->cR}(h:xd c C e S (SJ K) X):xd c C (.UnaryOp .Not e pos) S K X:=by intro A F bs s hA z;refine WP.bind (h A F bs s hA z) λF₁ bs₁ ac Z v r st ap hv k=>?_;subst hv;exact WP.pure (v:=!r) ap rfl k
noncomputable def vY (c:aP)(C:Cx):cz->AS->(Bool->cR)->cK->Prop
 | [],S,K,_=>K true S
 | e::r,S,K,X=>xd c C e S (JN (λac=>vY c C r ac K X) K) X
noncomputable def AJ (c:aP)(C:Cx):cz->AS->(Bool->cR)->cK->Prop
 | [],S,K,_=>K false S
 | e::r,S,K,X=>xd c C e S (SK (λac=>AJ c C r ac K X) K) X
theorem GS {K:Bool->cR}(hA:i7 C A):∀(es:cz) (F:G) (bs:aA) (S:AS) (s:Shared),St c C F bs S s->vY c C es S K X->WP c C A (λzz zz b r=>r=b) (allTrue .And es C.env) F bs s K X:=by
 intro es;induction es with
 | nil =>intro F bs S s z h;exact WP.pure (v:=true) z rfl h
 | cons e es ih =>
   intro F bs S s z h;refine WP.bind (h A F bs s hA z) λF₁ bs₁ ac Z v r st ap hv k=>?_;subst hv;cases r with
   | false=>exact WP.pure (v:=false) ap rfl k
   | true=>exact ih F₁ bs₁ ac Z ap k
theorem JO {K:Bool->cR}(hA:i7 C A):∀(es:cz) (F:G) (bs:aA) (S:AS) (s:Shared),St c C F bs S s->AJ c C es S K X->WP c C A (λzz zz b r=>r=b) (allTrue .Or es C.env) F bs s K X:=by
 intro es;induction es with
 | nil =>intro F bs S s z h;exact WP.pure (v:=false) z rfl h
 | cons e es ih =>
   intro F bs S s z h;refine WP.bind (h A F bs s hA z) λF₁ bs₁ ac Z v r st ap hv k=>?_;subst hv;cases r with
   | true=>exact WP.pure (v:=true) ap rfl k
   | false=>exact ih F₁ bs₁ ac Z ap k
theorem sZ {K:Bool->cR}(h:vY c C es S K X):xd c C (.BoolOp .And es pos) S K X:=λA F bs s hA z=>GS hA es F bs S s z h
theorem AK {K:Bool->cR}(h:AJ c C es S K X):xd c C (.BoolOp .Or es pos) S K X:=λA F bs s hA z=>JO hA es F bs S s z h
theorem GU (h:Ev c C a S (λv ac=>Tr c C v ac (SM c C b v K X) X) X):Ev c C (.BoolOp .Or [a,b] pos) S K X:=by
 intro A F bs s hA z
 skip
 refine WP.bind (h A F bs s hA z) λF₁ bs₁ ac Z v r st ap hv k=>WP.standAt ?_;refine WP.bind (WP.holding (k A F₁ bs₁ Z r hA ap hv)) λaT ax aC am t rt an aG ht k₂=>?_;subst ht;cases rt with
 | true=>exact WP.pure aG (an.V hv) k₂
 | false=>exact k₂ A aT ax am hA aG
theorem pM (h:xd c C t S (GR c C a b K X) X):Ev c C (.IfExp t a b pos) S K X:=by
 intro A F bs s hA z;refine WP.bind (h A F bs s hA z) λF₁ bs₁ ac Z v r st ap hv k=>?_;subst hv;cases r with
 | true=>exact k A F₁ bs₁ Z hA ap
 | false=>exact k A F₁ bs₁ Z hA ap
theorem rG (h:Ev c C v S (SN c C t K X) X):Ev c C (.NamedExpr t v pos) S K X:=by intro A F bs s hA z;refine WP.bind (h A F bs s hA z) λF₁ bs₁ ac Z v r st ap hv k=>?_;refine WP.bind (WP.holding (k A F₁ bs₁ Z r hA ap hv)) λaT ax aC am zz zz an aG zz k₂=>?_;exact WP.pure aG (an.V hv) k₂
theorem pw {K:Bool->cR}(h:bZ S v xs)(hl:xs.length < 2 ^ 63)(k:K (!xs.isEmpty) S):Tr c C v S K X:=λA F bs s r hA z hv=>by refine e2a3 (z.seq h hv) λl vs SL hL bi zz=>?_;refine rE SL ?_;refine WP.kept z λQ E q=>wpAny_truthy_list hL.isList (by simp [bi.length];exact pd hl) (q _ _ (.toks ..) (ae _ ?_ k));have:=bi.length;clear bi hL k hl h;cases xs <;> cases vs <;> simp_all
theorem Dz {K:Bool->cR}(k:K false S):Tr c C .none S K X:=λA F bs s r hA z hv=>by obtain ⟨_,rfl⟩:=hv.inv;exact WP.kept z λQ E q=>bo (q _ _ (.refl ..) (ae _ rfl k))
theorem kj (k':K (.bool false) S):iX c C (compareOp .Is) (.ref k) .none S K X:=λA F bs s ra rb hA z ha hb=>by obtain ⟨_,rfl⟩:=hb.inv;refine e1a1 ha.inv λzz SO zz=>?_;refine rE SO ?_;exact WP.kept z λQ E q=>is_none_ne (by simp) (q _ _ (.refl ..) (ae _ (.bool _) k'))
theorem DA (k':K (.bool true) S):iX c C (compareOp .Is) .none .none S K X:=λA F bs s ra rb hA z ha hb=>by obtain ⟨_,rfl⟩:=hb.inv;obtain ⟨_,rfl⟩:=ha.inv;exact WP.kept z λQ E q=>wpAny_is_self rfl (q _ _ (.refl ..) (ae _ (.bool _) k'))
theorem lZ (k':K (.bool false) S):iX c C (compareOp .IsNot) .none .none S K X:=λA F bs s ra rb hA z ha hb=>by obtain ⟨_,rfl⟩:=hb.inv;obtain ⟨_,rfl⟩:=ha.inv;exact WP.kept z λQ E q=>isnot_none_none (q _ _ (.refl ..) (ae _ (.bool _) k'))
theorem AL (k:K (.bool !(Builtin.Str.occurrences x y 0 x.length 1).isEmpty) S):iX c C (compareOp .In) (.str y) (.str x) S K X:=λA F bs s ra rb hA z ha hb=>by refine e1a0 ha.inv λzz vW=>?_;refine rE vW ?_;refine e1a0 hb.inv λzz AC=>?_;refine rE AC ?_;exact WP.kept z λQ E q=>PyProof.Rows.in_str (q _ _ (.refl ..) (ae _ (.bool _) k))
end
section
variable {c:aP}{C:Cx}{S:AS}{X:cK}{K:cw}
end
section
variable {c:aP}{C:Cx}{S:AS}{F F':G}{bs az:aA}{s s':Shared}{A:Around}{X:cK}{K:cw}{mg mb:dZ}{pos:Pos}
theorem km (hsz:x.length+y.length<=sizeLine)(k:K (.str (x++y)) S):iX c C (inplaceOp .Add) (.str x) (.str y) S K X:=λA F bs s ra rb hA z ha hb=>by refine e1a0 ha.inv λzz SP=>?_;refine rE SP ?_;refine e1a0 hb.inv λzz SQ=>?_;refine rE SQ ?_;exact WP.kept z λQ E q=>PyProof.Rows.iadd_str (λt' tk=>q _ _ (.toks ..) (ae _ (.str _ _) k)) hsz
def Part (c:aP)(C:Cx):Option Expr->AS->(Option Int->cR)->cK->Prop
 | none,S,K,_=>K none S
 | some e,S,K,X=>Ev c C e S (λv ac=>∃i,v=.int i/\K (some i) ac) X
theorem mU {K:Option Int->cR}(hA:i7 C A)(z:St c C F bs S s)(h:Part c C e S K X):WP c C A (λzz zz i r=>IsPart r i) (evalPart e C.env) F bs s K X:=by
 cases e with
 | none=>exact WP.pure z .none h
 | some e=>exact WP.re (h A F bs s hA z) λF bs v r S hv X1=>e1a1 X1 λi e k=>by clear X1;subst e;refine e1a0 hv.inv λzz SS=>?_;refine rE SS ?_;exact (ae _ (.int _ _) k)
theorem a6.take (n:Nat)(h:c.Vs F bs xs vs):c.Vs F bs (xs.take n) (vs.take n):=by
 induction xs generalizing vs n with
 | nil=>refine rE h.inv ?_;refine (af List.take_nil)▸(af List.take_nil)▸?_;exact .nil
 | cons x l ih =>
   refine e2a2 h.inv λzz zz ST h1 h2=>?_;refine rE ST ?_;cases n with
   | zero=>exact .nil
   | succ n=>exact .cons h1 (ih n h2)
theorem a6.drop (n:Nat)(h:c.Vs F bs xs vs):c.Vs F bs (xs.drop n) (vs.drop n):=by
 induction xs generalizing vs n with
 | nil=>refine rE h.inv ?_;refine (af List.drop_nil)▸(af List.drop_nil)▸?_;exact .nil
 | cons x l ih =>
   cases n with
   | zero=>exact h
   | succ n=>refine e2a2 h.inv λzz zz SU h1 h2=>?_;refine rE SU ?_;exact ih n h2
noncomputable def cutOf (lo hi:Option Int)(xs:bW):bW:=match lo,hi with
 | none,some i=>xs.take i.toNat
 | some i,none=>xs.drop i.toNat
 | none,none=>xs
 | some i,some j=>(xs.take j.toNat).drop i.toNat
def uC (lo hi:Option Int):Prop:=match lo,hi with
 | none,some i=>0<=i
 | some i,none=>0<=i
 | none,none=>True
 | some _,some _=>False
noncomputable def GV (lo hi:Option Int)(vs:iC):iC:=match lo,hi with
 | none,some i=>vs.take i.toNat
 | some i,none=>vs.drop i.toNat
 | none,none=>vs
 | some i,some j=>(vs.take j.toNat).drop i.toNat
theorem AM (fw:uC l u)(vs:iC):slicePick vs.toArray l u none=(GV l u vs).toArray:=by
 cases l with
 | none =>
   cases u with
   | none=>rw [slicePick_all];rfl
   | some j =>obtain this:=slicePick_upto' vs.toArray j.toNat;rw [show ((j.toNat:Nat):Int)=j from Int.toNat_of_nonneg fw] at this;exact this
 | some i =>
   cases u with
   | none =>obtain this:=slicePick_from' vs.toArray i.toNat;rw [show ((i.toNat:Nat):Int)=i from Int.toNat_of_nonneg fw] at this;exact this
   | some j=>exact fw.elim
theorem a6.SW (fw:uC l u)(bi:c.Vs F bs xs vs):c.Vs F bs (cutOf l u xs) (GV l u vs):=by
 cases l with
 | none =>
   cases u with
   | none=>exact bi
   | some j=>exact a6.take _ bi
 | some i =>
   cases u with
   | none=>exact a6.drop _ bi
   | some j=>exact fw.elim
theorem mV {lo hi:Option Expr}(h:Ev c C value S (λo ac=>Part c C lo ac (λl aC=>Part c C hi aC (λu aO=>∃xs,bZ aO o xs/\uC l u/\xs.length<=sizeLine/\qQ K (cutOf l u xs) aO) X) X) X):Ev c C (.Subscript value (.Slice lo hi none p) pos) S K X:=by
 intro A F bs s hA z
 skip
 refine WP.bind (h A F bs s hA z) λF₁ bs₁ ac Z o ro al ap ho k₁=>?_;refine ai (wpAny_holding (wpAny_Slice ?_));refine aJ (mU hA ap k₁) (λrl am ZZ=>ZZ.casesOn λaT ax l aC an aG hl k₂=>?_) λzz zz e=>e;refine aJ (mU hA aG k₂) (λru aM Z0=>Z0.casesOn λbn aK u aO aE aR hu bv=>?_) λx aM Z1=>Z1.casesOn λbn aK u aO aE aR hu bv=>⟨bn,aK,u,aO,an.trans aE,aR,hu.back an.mono,bv⟩
 refine e1a3 bv λxs lX fw hsz k=>?_;refine bo ?_;have AN:=aE.V (an.V ho);clear ho;refine e3a2 (aR.uw lX AN) λa vs n SX hL bi=>?_;refine rE SX ?_;refine ai (wpAny_standAt ?_);generalize pN:({aM with heap:=aM.heap.push {cls:=.type "slice",data:=.fields #[rl,ru,.none]}}:Shared)=cr;have vZ:ba c bn aK aM cr:=by simp only [<-pN];exact ⟨λb o e=>cI _ e,rfl,rfl⟩
 obtain GT:cr.heap.IsSliceOf aM.heap.objs.size rl ru .none:=by refine pN▸?_;exact Heap.IsSliceOf.new ..
 obtain cW:=aR.keep vZ;obtain uD:cr.heap.IsList a vs.toArray:=(dz _ (vZ.keep _ _ hL) rfl n rfl)
 refine ai ?_;refine ai (wpAny_specialOf uD.typeIs list_getitem_lookup ?_);obtain fin:wpAny (model c.prog c.w) A (operate [.ref aM.heap.objs.size,.ref a] (getItem (.ref a) (.ref aM.heap.objs.size)) >>= λr=>letTemporaryGo value (.ref a) r >>= λzz=>pure r)
  (WV c C c.V F₁ bs₁ Z.heap K)
  (WX c C F₁ bs₁ Z.heap X) cr:=by
  refine ai (wpAny_operating (wpAny_getItem_list_slice uD GT hl hu .none (by decide) (ai (wpAny_letTemporaryGo (bo ?_))) (by simpa [bi.length] using hsz)));rw [AM fw];obtain mt:=a6.SW fw bi;generalize GV l u vs=ws at mt;obtain GW:ba c bn aK cr {cr with heap:=cr.heap.push (aY ws 0)}:=⟨λb o e=>cI _ e,rfl,rfl⟩
  obtain ⟨F',az,v,S',st,z',hv,kk⟩:=cW.AH GW (St.ic cr) (vs:=ws) (n:=0) (dw _ rfl) mt k;exact ⟨F',az,v,S',((an.trans aE).trans (.keep vZ)).trans st,z',hv,kk⟩
 first
  | exact bo fin
  | exact ai (bo fin)
  | exact fin
theorem rH {K:cR}(hA:i7 C A)(hh:C.handled=none)(z:St c C F bs S s)(hT:s.heap.IsTuple T rs.toArray)(hv:c.Vs F bs xs rs)(hl:ts.length=xs.length)(hp:assignEach ts C.env=ts.map λt=>(false,assign t C.env))(h:yy c C (ts.zip xs) S K X) :
 WP c C A (λ_ _ (_:Unit) (_:Unit)=>True) (assign (.Tuple ts kd pos) C.env (.ref T)) F bs s (λzz=>K) X:=by
 refine WP.standAt ?_;delta unpack;refine rE hp ?_;obtain e1:((ts.map λt=>(false,assign t C.env)).findIdx? (·.1))=none:=by simp
 obtain e2:ts.length=rs.toArray.size:=by simp only [hl,List.size_toArray];exact hv.length.symm
 simp only [e1,qL,List.map_map,e2];refine ai (wpAny_holding (wpAny_unpackItems_tuple (hA.handled.trans hh) hT λh' hx=>?_));obtain m:ba c F bs s {s with heap:=h'}:=⟨λb o e=>hx b o (cA (Heap.lt_size e)) e,rfl,rfl⟩
 obtain w:=pI (X:=X) hA ts xs rs F bs S {s with heap:=h'} K hl (z.keep m) hv h;refine aJ w (λr s' Z2=>Z2.casesOn λF' az v S' st z' hr k=>⟨F',az,v,S',(Step.keep m).trans st,z',hr,k⟩) λx s' Z3=>Z3.casesOn λF' az v S' st z' hr k=>⟨F',az,v,S',(Step.keep m).trans st,z',hr.back (Step.keep (own:=[]) m).mono,k⟩
theorem Iter.enum (hl:F₀ l=some (aY vs n))(bi:c.Vs F₀ bs₀ xs vs)(Z4:e≠it)(hle:l≠e)(QS:l≠it) :
 Iter c (.Tuple ts kd pos) e (xs.zipIdx.map λp=>.tup [.int p.2,p.1]) (λzz=>True) [e,it] (λi F bs s=>((∃old,IsEnum s.heap e it (i:Nat) old)/\s.heap.IsListIter it l i/\s.heap.IsList l vs.toArray)/\i<=xs.length/\(∀b o,F₀ b=some o->F b=some o)/\∃nb,bs=bs₀++nb):=by
 have W:=λ(A:Around) (hh:A.handled=none)=>WalksT.enumerate (prog:=c.prog) (w:=c.w) hh e it l Z4 hle QS vs.toArray;have keep:∀{C:Cx} {i:Nat} {own F bs S s F' az S' s'},(((∃old,IsEnum s.heap e it i old)/\s.heap.IsListIter it l i/\s.heap.IsList l vs.toArray)/\i<=xs.length/\(∀b o,F₀ b=some o->F b=some o)/\∃nb,bs=bs₀++nb)->bR c C F bs [e,it] s.heap->(∀a∈[e,it],a∉own)->St c C F bs S s->Step own F bs s.heap F' az s'.heap->St c C F' az S' s' ->
  (((∃old,IsEnum s'.heap e it i old)/\s'.heap.IsListIter it l i/\s'.heap.IsList l vs.toArray)/\i<=xs.length/\(∀b o,F₀ b=some o->F' b=some o)/\∃nb,az=bs₀++nb):=by
  intro C i own F bs S s F' az S' s' o1;obtain ⟨h1,hi,h2,nb,rfl⟩:=o1;intro hf hw z st z';refine e1a1 st.ext λvB e' zz=>?_;refine (fA ((W {} rfl).frame i _ _ h1 λb hb o ho=>?_) hi (λb o e=>st.sub _ _ (h2 _ _ e)) (nb++vB) (by rw [e',List.append_assoc]));by_cases q:b∈[e,it]
  . exact (hf.xk hw st).2 b q o ho
  . obtain lw:b=l:=by simp only [List.mem_cons,List.not_mem_nil,or_false,not_or] at hb q;exact (hb.resolve_left q.1).resolve_left q.2
    subst lw;obtain this:=z.wd.sub _ _ (h2 _ _ hl);refine rE (aX (aF (af ho) this)) ?_;exact z'.wd.sub _ _ (st.sub _ _ (h2 _ _ hl))
 refine ⟨keep,?_,?_⟩
 . intro C A i F bs S s N Y E K hA hh z _ o2;obtain ⟨h1,hi,h2,nb,rfl⟩:=o2;intro hf hN hY;obtain WA:=W A (hA.handled.trans hh);by_cases gX:i < xs.length
   . refine WA.item i s _ _ (by simpa [bi.length] using gX) h1 λT vals h' tk QQ SY hT hM hk=>?_;refine e2a1 QQ λt x hx SZ=>?_;clear QQ;obtain rfl:=SZ;obtain oo:vs[i]?=some x:=by simpa using hx
     obtain ⟨y,hy⟩:∃y,xs[i]?=some y:=(bQ _ (df gX))
     refine e1a1 (bi.get hy) λx' e1 e2=>?_;obtain rfl:=aX (aF (af oo) e1);refine e0a1 (hY (.tup [.int i,y]) (by simp [List.getElem?_zipIdx,hy])) λha hc=>?_;obtain Z5:=WA.apart i T h' hM;refine WA.go ts kd pos i T {s with heap:=h',toks:=tk} _ _ hM λIR be JP=>?_;have JQ:dB [e,it] s {s with heap:=IR,toks:=tk}:=⟨λb hb o e=>JP b o hb (hk b o hb e),rfl,rfl⟩
     obtain ap:=z.frees JQ hf;have i8:bR c C F (bs₀++nb) [e,it] IR:=⟨hf.free,λa ha=>by
      refine e0a2 be λJR JS zz=>?_;clear be;refine e1a0 JR λold q1=>?_;clear JR;refine e1a2 JS λo q2 q3 zz=>?_;clear JS;rcases er ha with rfl | ha
      . exact (a9 _ q1 (by simp) (by simp))
      . rw [bD ha];exact (a9 o q2 (by lia) (by lia))⟩
     obtain S0:IR.IsTuple T #[.int i t,x]:=by refine e1a1 hT λo q1 q2=>?_;exact (ae o (JP T o Z5 q1) q2)
     refine e0a2 ha λS6 S7 S8=>?_;obtain w:=rH (X:=dT) (kd:=kd) (pos:=pos) (s:={s with heap:=IR,toks:=tk}) hA hh ap (rs:=[.int i t,x]) S0 (.cons (.int _ _) (.cons (cu.mono h2 e2) .nil)) S6 S7 S8;refine aJ w (λzz s' S9=>S9.casesOn λF' az zz S' st z' zz k=>?_) λzz zz Ta=>Ta.casesOn λzz zz zz zz zz zz zz q=>q.elim;exact hc F' az S' s' z' (i8.step (s:={s with heap:=IR,toks:=tk}) st).1 (keep (s:={s with heap:=IR,toks:=tk}) (fA be gX h2 nb rfl) i8 (λa ha=>(i8.free a ha).own) ap st z') k
      ((Step.kc JQ λa ha=>e1a1 (i8.at_ a ha) λo e zz=>(bQ o e)).trans (st.widen λa ha=>.inl (eo (.inr ha))))
   . obtain je:i=xs.length:=sJ hi gX;clear gX hY;subst je;have:xs.length=vs.toArray.size:=by simp [bi.length]
     rw [this] at h1;refine WA.done s _ _ h1 λh' tk hk=>?_;obtain t:dB [e,it] s {s with heap:=h',toks:=tk}:=⟨λb hb o e=>hk b o hb e,rfl,rfl⟩
     exact hN (by simp) _ (z.frees t hf) t
 . intro A i F bs s Q E hh o3;obtain ⟨h1,hi,h2,nb,rfl⟩:=o3;intro hq;exact (W A hh).self i s Q E h1 hq
theorem lg {ts:cz}{kd:Nat}{DB:Pos}{f arg:Expr}{K:bW->(aI->Prop)->cR}
 (h:Ev c C f S (λv ac=>v=.raw (.type "enumerate")/\Ev c C arg ac (λv aC=>∃xs,v=.lst xs/\K (xs.zipIdx.map λp=>.tup [.int p.2,p.1]) (λzz=>True) aC) X) X)
 (hh:C.handled=none)
 (he:eval (.Call f [arg] [] pos) C.env=(do callWith pos (<-eval f C.env) [] (backTo pos (starEach [arg] C.env)) (backToKw pos (keywordEach [] C.env))):=by rfl)
 (Td:starEach [arg] C.env=[(false,eval arg C.env)]:=by rfl):lD c C (.Tuple ts kd DB) (.Call f [arg] [] pos) S K X:=by
 intro A F bs s hA z;simp only [he];refine ai (aJ (h A F bs s hA z) (λr Z ⟨F₁,bs₁,v,ac,al,ap,hv,e,k₁⟩=>?_) λzz zz e=>e);subst e;obtain ⟨_,rfl⟩:=hv.inv;refine PySem.callWith_type (by rw [Td];rfl) ?_;have ka:oR c C pos [arg] ac (λvs aC=>∃xs,vs=[.lst xs]/\K (xs.zipIdx.map λp=>.tup [.int p.2,p.1]) (λzz=>True) aC) X :=
  ak (kY k₁ λv aC Z6=>e1a1 Z6 λxs e k=>(ae xs (by rw [e]) k)) Td
 refine aJ (gh hA ap ka (Td.symm▸rfl)) (λa am ⟨aT,ax,vs,aC,an,aG,⟨oA,bi⟩,xs,JT,k₂⟩=>?_) λx am Z7=>Z7.casesOn λaT ax cls aC an aG hx k₂=>⟨aT,ax,cls,aC,al.trans an,aG,hx.back al.mono,k₂⟩
 simp only [oA];subst JT;obtain ⟨ps,kw⟩:=a;obtain ⟨r,e,hr⟩:=a6.one bi;have e':ps=[r]:=e;refine rE e' ?_;clear e bi oA;obtain ⟨l,vs,JU,hL,Tf⟩:=hr.inv;refine rE JU ?_;obtain ⟨n,hL⟩:=hL;have Th:=aG.wd.sub _ _ hL;refine call_enumerate_1 Th λh' xo JV hsz hk=>?_;refine wpAny_pyIter_enum xo ?_;obtain m:ba c aT ax am {am with heap:=h'}:=⟨hk,rfl,rfl⟩
 obtain st:Step C.own F bs s.heap aT ax h':=(al.trans an).trans (.keep m);obtain X2:am.heap.get? am.heap.objs.size=none:=gp (aZ _);obtain QJ:am.heap.get? (am.heap.objs.size+1)=none:=gp (Nat.le_succ _);obtain gX:l < am.heap.objs.size:=Heap.lt_size Th;refine ⟨aT,ax,aC,_,_,_,[am.heap.objs.size+1,am.heap.objs.size],_,rfl,st,aG.keep m,Iter.enum (F₀:=aT) (bs₀:=ax) hL Tf (Nat.succ_ne_self _) (cA (Nat.lt_succ_of_lt gX)) (cA gX),
  (fA (aH (bQ _ xo) JV (dz _ (hk _ _ Th) rfl n rfl)) (Nat.zero_le _) (λzz zz e=>e) [] (by simp)),λa q=>?_,⟨λa q=>?_,λa q=>?_⟩,trivial,k₂⟩
 . have:am.heap.get? a=none:=by
    (refine bh (er q) (λGX=>?_) (λq=>?_);obtain rfl:=GX)
    . exact QJ
    . refine rE (bD q) ?_;exact X2
   cases q':s.heap.get? a with
   | none=>rfl
   | some o=>obtain ⟨o',e'⟩:=(al.trans an).mono _ _ q';exact bx (aF (af this) e')
 . rcases er q with rfl | q
   . exact aG.ez QJ
   . simp only [bD q];exact aG.ez X2
 . rcases er q with rfl | q
   . exact (a9 _ xo (by simp) (by simp))
   . refine rE (bD q) ?_;obtain ⟨o,q1,q2,_⟩:=JV;exact (a9 o q1 (by lia) (by lia))
end
theorem cM (names:List (Str×NameKind))(n:Nat)(acc:List (Str×Addr)):cellsFrom n names acc=cellsFrom n names []++acc:=by
 induction names generalizing n acc with
 | nil=>rfl
 | cons p r ih =>
   dsimp only [cellsFrom];cases p.2==NameKind.cell with
   | true=>exact (ih (n+1) _).trans ((List.append_assoc _ [_] _).symm.trans (congrArg (·++acc) (ih (n+1) [_]).symm))
   | false=>exact ih n acc
theorem pO (names:List (Str×NameKind))(n:Nat)(h:∀k,(x,k)∈names->k≠.cell):(cellsFrom n names []).lookup x=none:=by
 induction names generalizing n with
 | nil=>rfl
 | cons p r ih =>
   dsimp only [cellsFrom];cases hk:p.2==NameKind.cell with
   | true =>obtain e:(x==p.1)=false:=beq_eq_false_iff_ne.mpr λe=>h p.2 (by refine rE e ?_;exact .head _) (by cases q:p.2 <;> rw [q] at hk <;> first | rfl | exact qK hk);show (cellsFrom (n+1) r [(p.1,n)]).lookup x=none;rw [cM,List.lookup_append,ih _ λk m=>h k (.tail _ m),List.lookup_cons];refine rE e ?_;rfl
   | false=>exact ih n λk m=>h k (.tail _ m)
structure JW (bs:aA)(h:Heap)(cl:List (Str×Addr)):Prop where
 cell:∀x a,cl.lookup x=some a->a∉bs/\∃o,h.get? a=some o/\o.cls=.type "cell"/\∃v,o.data=.cell v
 apart:∀x y a,cl.lookup x=some a->cl.lookup y=some a->x=y
def JX (c:aP)(F:G)(bs:aA)(h:Heap)(names:List (Str×NameKind))(cl:List (Str×Addr))(x:Str)(v:AV):Prop :=
 (∀k,(x,k)∈names->k≠.cell)/\∃a o r,cl.lookup x=some a/\h.get? a=some o/\o.data=.cell (some r)/\c.V F bs v r
section
variable {c:aP}{C:Cx}{S:AS}{F F':G}{bs az:aA}{s s':Shared}{A:Around}{X:cK}{K:cw}{mg mb:dZ}{pos:Pos}
theorem St.opens (wd:Wd c F bs H s)(dL:JW bs s.heap cl)(kd:String)(Ti:kd≠"cell")(names:List (Str×NameKind))(env:Env)(own:aA)(frames:List Env)(hd:qN)(n:Nat)(vars:a8)(caps:dI)
 (db:s'={s with heap:=pushCells (s.heap.push {cls:=.type kd,data:=.dict #[]}) names}) (hL:env.locals=s.heap.objs.size) (QT:env.cells=cellsFrom (s.heap.objs.size+1) names cl)
 (ui:own=s.heap.objs.size::(cellsFrom (s.heap.objs.size+1) names []).map (·.2))
 (hg:env.globals=mainGlobals) (Z8:env.builtins=builtinsNs) (hk:env.scope.kind=.function) (RW:vars.Nodup)
 (j7:∀e∈frames,gg s'.heap e/\∀L,e.frame=some L->F L=none/\L∉bs)
 (Tj:∀i v,caps.lookup i=some v->∃x,vars[i]?=some x/\(env.kindOf x=some .cell\/env.kindOf x=some .free)/\JX c F bs s.heap names cl x v)
 (GT:env.func=none\/∀x a,cl.lookup x=some a->∃o r,F a=some o/\o.data=.cell (some r)) :
 St c ⟨env,own,frames,hd,n,vars⟩ F bs ⟨caps,H⟩ s'/\ba c F bs s s'/\(∀b∈own,s.heap.get? b=none):=by
 have keep:∀b o,s.heap.get? b=some o->s'.heap.get? b=some o:=λb o e=>by rw [db];exact pushCells_keeps _ _ _ _ (cI _ e)
 obtain mv:ba c F bs s s':=⟨keep,by rw [db],by rw [db]⟩
 have ok:=cellsFrom_ok names (s.heap.push {cls:=.type kd,data:=.dict #[]}) (s.heap.objs.size+1) [] ⟨λzz zz hm=>(nomatch hm),List.Pairwise.nil⟩ (by simp only [iA];exact aZ _);rw [iA] at ok;generalize Ds:cellsFrom (s.heap.objs.size+1) names []=cs at ok ui;have JY:env.cells=cs++cl:=by rw [QT,cM,Ds]
 have jL:∀b∈own,s.heap.get? b=none:=λb lw=>by
  rw [ui] at lw;refine gp ?_;rcases er lw with e | m
  . simp only [e];exact aZ _
  . clear lw;refine e1a1 (fy m) λp hp Tk=>?_;refine Tk▸?_;obtain this:=(ok.empty p.1 p.2 hp).2;exact arith1 this
 have pp:∀x a,(x,a)∈cs->s'.heap.get? a=some fW:=λx a m=>by rw [db];refine mK names (s.heap.push {cls:=.type kd,data:=.dict #[]}) [] (λzz zz m=>nomatch m) x a ?_;rw [iA,Ds];exact m
 have ot:s'.heap.get? s.heap.objs.size=some {cls:=.type kd,data:=.dict #[]}:=by rw [db];exact pushCells_keeps _ _ _ _ (dw _ rfl)
 have jm:∀b,s.heap.get? b=none->F b=none/\b∉bs:=λb e=>by
  refine ⟨?_,λm=>by refine e1a0 (wd.there b m) λo' e'=>?_;exact bx (aF (af e) e')⟩;cases q:F b with
  | none=>rfl
  | some o'=>exact iY (aF (af (wd.sub _ _ q)) e)
 have xp:∀x a,env.cells.lookup x=some a->(cs.lookup x=some a)\/(cs.lookup x=none/\cl.lookup x=some a):=λx a e=>by
  rw [JY,List.lookup_append] at e;cases h:cs.lookup x with
  | some b=>rw [h] at e;exact .inl e
  | none=>rw [h] at e;exact .inr ⟨rfl,e⟩
 have tZ:∀x a,cs.lookup x=some a->a∈own:=λx a e=>by rw [ui];exact .tail _ (eK (ae (x,a) (mem_of_lookup e) rfl))
 refine (aH ⟨wd.keep (S:=⟨caps,H⟩) mv,(ae (λzz=>none) ?_ (λi v e=>?_)),(ae _ (by skip;rw [hL];exact ot) (by simp)),by show env.locals∈own;rw [hL,ui];exact .head _,λb lw=>?_,λx a e=>?_,λx y a e1 e2=>?_,j7,hg,Z8,hk,RW,λhf x a e=>?_⟩ mv jL)
 . skip
   refine rE hL ?_;exact (gq _ (#[]) 0 ot rfl (λzz he=>by simp at he) (λzz=>rfl))
 . refine e1a0 (Tj i v e) λx Tl=>?_;obtain ⟨hx,To,RF,a,o,r,q1,q2,q3,q4⟩:=Tl;obtain Ai:env.cells.lookup x=some a:=by rw [JY,List.lookup_append,<-Ds,pO names _ RF];simpa using q1
   refine (ae x hx ?_);exact .cell To ⟨a,o,r,Ai,keep _ _ q2,q3,q4⟩
 . have gM:=jL b lw;refine (aH ((jm b gM).1) ((jm b gM).2) ?_);have DC:b∈own:=lw;replace DC:=ui▸DC;rcases er DC with e | m
   . exact (bQ _ (e▸ot))
   . clear DC gM lw;refine e1a1 (fy m) λp hp GY=>?_;refine GY▸?_;exact (bQ _ (pp p.1 p.2 hp))
 . rcases xp x a e with q | ⟨_,q⟩
   . obtain gM:=jL a (tZ x a q);refine (aH ((jm a gM).2) (λw=>?_) ⟨_,pp x a (mem_of_lookup q),rfl,none,rfl⟩);have w':a=s.heap.objs.size:=by simp only [<-hL];exact w
     obtain this:=pp x a (mem_of_lookup q);rw [w',ot] at this;simp [fW,Ti] at this
   . obtain ⟨h1,o,h2,h3,h4⟩:=dL.cell x a q;refine (aH h1 (λw=>?_) ⟨o,keep _ _ h2,h3,h4⟩);obtain w':a=s.heap.objs.size:=by simp only [<-hL];exact w
     rw [w'] at h2;exact absurd (Heap.lt_size h2) (Nat.lt_irrefl _)
 . (refine bh (xp x a e1) (λq1=>?_) (λTp=>?_);rotate_left;refine e0a1 Tp λzz q1=>?_;rotate_right) <;> (refine bh (xp y a e2) (λq2=>?_) (λTq=>?_);rotate_left;refine e0a1 Tq λzz q2=>?_;rotate_right)
   . exact name_of_addr ok.apart (mem_of_lookup q1) (mem_of_lookup q2)
   . obtain ⟨_,o,h2,_⟩:=dL.cell y a q2;exact bx (aF (af (jL a (tZ x a q1))) h2)
   . obtain ⟨_,o,h2,_⟩:=dL.cell x a q1;exact bx (aF (af (jL a (tZ y a q2))) h2)
   . exact dL.apart x y a q1 q2
 . (refine bh (xp x a e) (λq=>?_) (λTt=>?_);rotate_left;refine e0a1 Tt λzz q=>?_;rotate_right)
   . exact .inl (tZ x a q)
   . exact GT.elim (λw=>absurd w hf) λw=>.inr (w x a q)
noncomputable def jM (ad:Str->Addr):List (Str×NameKind)->List (Str×Addr)->List (Str×Addr)
 | [],acc=>acc
 | (n,k)::r,acc=>if k==.free then jM ad r ((n,ad n)::acc) else jM ad r acc
set_option tactic.hygienic true in
theorem ie (ad:Str->Addr):∀(names:List (Str×NameKind)) (acc:List (Str×Addr)) (p:Str×Addr),p∈jM ad names acc->p∈acc\/(p.2=ad p.1/\(p.1,NameKind.free)∈names)
 | [],acc,p,h=>.inl h
 | (n,k)::r,acc,p,h=>by
   dsimp only [jM] at h
   split at h
   . rename_i hk;obtain pc:k=.free:=by simpa using hk
     clear hk;subst pc;rcases ie ad r _ p h with q | ⟨q1,q2⟩
     . (refine bh (er q) (λe=>?_) (λq=>?_))
       . clear q h;subst e;exact .inr ⟨rfl,.head _⟩
       . exact .inl q
     . exact .inr ⟨q1,.tail _ q2⟩
   . (refine bh (ie ad r acc p h) (λq=>?_) (λTu=>?_);rotate_left;refine e0a1 Tu λq1 q2=>?_;rotate_right)
     . exact .inl q
     . exact .inr ⟨q1,.tail _ q2⟩
theorem pP (ad:Str->Addr):∀(names:List (Str×NameKind)) (acc:List (Str×Addr)) (p:Str×Addr),p∈acc->p∈jM ad names acc
 | [],acc,p,h=>h
 | (n,k)::r,acc,p,h=>by
   dsimp only [jM]
   split
   . exact pP ad r _ p (.tail _ h)
   . exact pP ad r acc p h
theorem pQ (ad:Str->Addr):∀(names:List (Str×NameKind)) (acc:List (Str×Addr)) (x:Str),(x,NameKind.free)∈names->(x,ad x)∈jM ad names acc
 | (n,k)::r,acc,x,h=>by
   dsimp only [jM];rcases er h with e | h
   . clear h;cases e;exact pP ad r _ _ (.head _)
   . split
     . exact pQ ad r _ x h
     . exact pQ ad r acc x h
theorem qR {l:List (Str×Addr)}(h:(x,a)∈l)(hu:∀p∈l,p.1=x->p.2=a):l.lookup x=some a:=by
 induction l with
 | nil=>exact nomatch h
 | cons p l ih =>
   rw [List.lookup_cons];by_cases q:(x==p.1)=true
   . rw [q];obtain this:x=p.1:=by simpa using q
     simp only [hu p (.head _) this.symm]
   . simp only [Bool.not_eq_true] at q;rw [q];refine ih ?_ λp' m e=>hu p' (.tail _ m) e
     (refine bh (er h) (λe=>?_) (λm=>?_))
     . clear hu h;subst e;simp at q
     . exact m
theorem oD (ad:Str->Addr)(names:List (Str×NameKind))(x:Str)(h:(x,NameKind.free)∈names):(jM ad names []).lookup x=some (ad x):=by
 refine qR (pQ ad names [] x h) λp m e=>?_
 (refine bh (ie ad names [] p m) (λq=>?_) (λTv=>?_);rotate_left;refine e0a1 Tv λq zz=>?_;rotate_right)
 . cases q
 . exact (af q)▸(af e)▸rfl
theorem jF (ad:Str->Addr)(h:∀x,(x,NameKind.free)∈scope.names->env.cells.lookup x=some (ad x)):closureFor scope env=pure (jM ad scope.names []):=by
 obtain go:∀(names:List (Str×NameKind)) (acc:List (Str×Addr)),(∀x,(x,NameKind.free)∈names->env.cells.lookup x=some (ad x)) ->
  (forIn names acc λ(x:Str×NameKind) (cs:List (Str×Addr))=>(match x with | (name,kind)=>if (kind==NameKind.free)=true then (do let a <-cellOf env name;pure (ForInStep.yield ((name,a)::cs))) else pure (ForInStep.yield cs):Sem (ForInStep (List (Str×Addr)))))=pure (jM ad names acc):=by
  intro names;induction names with
  | nil=>intro acc _;rfl
  | cons p r ih =>
    intro acc h;obtain ⟨n,k⟩:=p;rw [List.forIn_cons];dsimp only [jM];by_cases hk:(k==NameKind.free)=true
    . obtain pc:k=.free:=by simpa using hk
      obtain e:cellOf env n=pure (ad n):=by delta cellOf;rw [h n (by rw [pc];exact .head _)]
      simp only [hk,if_true,e,pure_bind];exact ih _ λx m=>h x (.tail _ m)
    . skip
      simp only [hk,jT,if_false,pure_bind];exact ih _ λx m=>h x (.tail _ m)
 delta closureFor;obtain this:=go scope.names [] h;simp only [this,pure_bind]
end
noncomputable def ee (scope sc:Scope):Scope :=
 {scope with names:=scope.names.map λ(n,k)=>if (k==.free&&sc.kind==.function&&sc.names.lookup n==some .cell) then (n,.cell) else (n,k)}
theorem pR (scope:Scope)(env:Env):relabel scope env=ee scope env.scope:=rfl
theorem ig (scope sc:Scope)(x:Str):(ee scope sc).names.lookup x=(scope.names.lookup x).map λk=>if (k==.free&&sc.kind==.function&&sc.names.lookup x==some .cell) then .cell else k:=by
 delta ee;dsimp only;induction scope.names with
 | nil=>rfl
 | cons p r ih =>
   obtain ⟨n,k⟩:=p;simp only [List.map_cons];by_cases q:(x==n)=true
   . obtain this:x=n:=by simpa using q
     clear q;subst this;by_cases h:(k==NameKind.free&&sc.kind==ScopeKind.function&&sc.names.lookup x==some NameKind.cell)=true
     . simp only [h,if_true,List.lookup_cons,beq_self_eq_true,Option.map_some]
     . simp only [h,if_false,List.lookup_cons,beq_self_eq_true,Option.map_some];simp
   . skip
     by_cases h:(k==NameKind.free&&sc.kind==ScopeKind.function&&sc.names.lookup n==some NameKind.cell)=true
     . simp only [h,if_true,List.lookup_cons,q,ih]
     . simp only [h,if_false,jT,List.lookup_cons,q];exact ih
noncomputable def dc (sc scope:Scope)(fs vars:a8):Bool :=
 scope.kind==.function&&decide vars.Nodup&&fs.isPrefixOf vars &&
 fs.all (λx=>scope.names.lookup x==some .free&&(sc.names.lookup x==some .cell||sc.names.lookup x==some .free)&&scope.names.all (λp=>!(p.1==x&&p.2==.cell))) &&
 scope.names.all (λp=>!(p.2==.free)||fs.contains p.1)&&scope.names.all (λp=>!(p.2==.local)||scope.names.lookup p.1==some .local)
noncomputable abbrev qH (scope sc:Scope)(env:Env)(own:aA)(frames:List Env)(hd:qN)(n:Nat)(vars:a8):Cx:=⟨{env with scope:=ee scope sc},own,frames,hd,n,vars⟩
noncomputable def aW (S:AS):dI->Prop
 | []=>True
 | (i,v)::l=>S.loc.lookup i=some v/\aW S l
theorem aW.at (h:aW S l)(x:Nat)(u:AV)(e:l.lookup x=some u):S.loc.lookup x=some u:=by
 induction l with
 | nil=>exact bx e
 | cons p l ih =>
   rw [List.lookup_cons] at e;cases q:x==p.1 with
   | true=>rw [q] at e;rw [eq_of_beq q,<-aX e];exact h.1
   | false=>rw [q] at e;exact ih h.2 e
theorem aW.of (h:l.map (λp=>S.loc.lookup p.1)=l.map (λp=>some p.2)):aW S l:=by
 induction l with
 | nil=>trivial
 | cons p l ih=>exact ⟨(List.cons.inj h).1,ih (List.cons.inj h).2⟩
def qS (I:cR)(S:AS):Prop:=∃loc,aW S loc/\I ⟨loc,S.heap⟩
noncomputable def jN (C:Cx)(S:AS):List (Nat×Str×AV)->Prop
 | []=>True
 | (i,x,v)::r=>C.vars[i]?=some x/\S.loc.lookup i=some v/\jN C S r
noncomputable def capLoc:Nat->List (Nat×Str×AV)->dI
 | _,[]=>[]
 | n,(_,_,v)::r=>(n,v)::capLoc (n+1) r
theorem jN.mem (h:jN C S l)(p:Nat×Str×AV)(m:p∈l):C.vars[p.1]?=some p.2.1/\S.loc.lookup p.1=some p.2.2:=by
 induction l with
 | nil=>exact nomatch m
 | cons q r ih =>
   rcases er m with rfl | m
   . exact ⟨h.1,h.2.1⟩
   . exact ih h.2.2 m
theorem yB (l:List (Nat×Str×AV))(n j:Nat)(v:AV)(h:(capLoc n l).lookup j=some v):∃i x,n<=j/\l[j - n]?=some (i,x,v):=by
 induction l generalizing n with
 | nil=>exact bx h
 | cons p r ih =>
   dsimp only [capLoc] at h;rw [List.lookup_cons] at h;cases q:j==n with
   | true =>rw [q] at h;clear ih;refine (aX h)▸?_;clear h;refine (eq_of_beq q)▸?_;exact (dY p.1 p.2.1 (aZ _) (by rw [Nat.sub_self];rfl))
   | false =>rw [q] at h;refine e2a1 (ih (n+1) h) λi' x' h1 h2=>?_;refine (dY i' x' (Nat.le_of_succ_le h1) ?_);rw [show j - n=(j - (n+1))+1 by exact t6 h1];exact h2
def s6 (c:aP)(C:Cx):cz->AS->(Bool->cR)->Prop
 | [],S,K=>K true S
 | [t],S,K=>xd c C t S K dT
 | _,_,_=>False
inductive CompI {β:Type}(C:Cx)(fs:List (Nat×Str×AV))(body:AS->(Nat->List β->cR)->Nat->List β->AV->Prop)(items:bW)(live:aI->Prop)(ac:AS)(Kf:List β->aI->Prop):Prop
 | mk (I:Nat->List β->cR) (h0:I 0 [] ⟨capLoc 0 fs,ac.heap⟩) (hl:∀i acc S',I i acc S'->live S'.heap/\acc.length<=sizeLine) (turn:∀i y acc S',items[i]?=some y->I i acc S'->body S' I i acc y) (done:∀acc S',I items.length acc S'->Kf acc S'.heap)
def rI {β:Type}(c:aP)(C:Cx)(sc scope:Scope)(vars:a8)(fs:List (Nat×Str×AV))(body:Cx->AS->(Nat->List β->cR)->Nat->List β->AV->Prop)(items:bW)(live:aI->Prop)(ac:AS)(Kf:List β->aI->Prop):Prop :=
 jN C ac fs/\∀env own,(∀x,scope.names.lookup x=some .local\/scope.names.lookup x=some .cell->aV (qH scope sc env own C.frames C.handled C.n vars) (λzz=>none) x) ->
  CompI C fs (body (qH scope sc env own C.frames C.handled C.n vars)) items live ac Kf
def ko (c:aP)(target elt:Expr)(ifs:cz)(C:Cx)(S:AS)(I:Nat->sU)(i:Nat)(acc:bW)(y:AV):Prop :=
 qP c C target y S (λaC=>s6 c C ifs aC (λok aO=>match ok with | false=>qS (I (i+1) acc) aO | true=>Ev c C elt aO (λw di=>qS (I (i+1) (acc++[w])) di) dT))
def AP (c:aP)(target kx vx:Expr)(ifs:cz)(C:Cx)(S:AS)(I:Nat->fq->cR)(i:Nat)(acc:fq)(y:AV):Prop :=
 qP c C target y S (λaC=>s6 c C ifs aC (λok aO=>match ok with | false=>qS (I (i+1) acc) aO | true=>Ev c C kx aO (λw di=>∃x,w=.str x/\Ev c C vx di (λv fu=>qS (I (i+1) (dC acc x v)) fu) dT) dT))
inductive CompK | list (elt:Expr) | dict (kx vx:Expr)
noncomputable def CompK.expr (target iter:Expr)(ifs:cz)(scope:Scope)(pos:Pos):CompK->Expr
 | .list elt=>.ListComp elt [⟨target,iter,ifs,0⟩] scope pos
 | .dict kx vx=>.DictComp kx vx [⟨target,iter,ifs,0⟩] scope pos
noncomputable def CompK.emit (D:Addr)(env:Env):CompK->Sem Unit
 | .list elt=>do let _ <-call (.builtin "list.append") [.ref D,<-eval elt env]
 | .dict kx vx=>do
  let kv <-eval kx env;let vv <-holding [kv] (eval vx env)
  standAt {kx.pos with endLine:=vx.pos.endLine,endCol:=vx.pos.endCol}
  holding [kv,vv] (dictSet D kv vv)
abbrev CompK.β:CompK->Type
 | .list _=>AV
 | .dict ..=>Str×AV
def CompK.body (c:aP)(target:Expr)(ifs:cz):(k:CompK)->Cx->AS->(Nat->List k.β->cR)->Nat->List k.β->AV->Prop
 | .list elt=>ko c target elt ifs
 | .dict kx vx=>AP c target kx vx ifs
def CompK.em (c:aP):(k:CompK)->Cx->AS->List k.β->(List k.β->cR)->Prop
 | .list elt,C,S,(acc:bW),K=>Ev c C elt S (λw di=>K (acc++[w]:bW) di) dT
 | .dict kx vx,C,S,(acc:fq),K=>Ev c C kx S (λw di=>∃x,w=.str x/\Ev c C vx di (λv fu=>K (dC acc x v:fq) fu) dT) dT
theorem CompK.DD (c:aP)(target:Expr)(ifs:cz)(k:CompK)(C:Cx)(S:AS)(I:Nat->List k.β->cR)(i:Nat)(acc:List k.β)(y:AV)(h:k.body c target ifs C S I i acc y) :
 qP c C target y S (λaC=>s6 c C ifs aC (λok aO=>match ok with | false=>qS (I (i+1) acc) aO | true=>k.em c C aO acc (λim di=>qS (I (i+1) im) di))):=by
 cases k <;> exact h
def CompK.rel (c:aP)(F:G)(bs:aA)(D:Addr)(o:Obj):(k:CompK)->List k.β->Prop
 | .list _,acc=>∃vs n,o=aY vs n/\c.Vs F bs acc vs
 | .dict ..,acc=>∃rs,nE (sk c.prog c.w) (λzz=>some o) D rs/\c.SV F bs acc rs
theorem lG
 (h:Q (newEnv scope s.heap.objs.size globals (cellsFrom (s.heap.objs.size+1) scope.names cl) qual none .none (some outer) builtinsNs) {s with heap:=pushCells (s.heap.push {cls:=.type "dict",data:=.dict #[]}) scope.names}) :
 wpAny M A (newFunctionEnv scope globals cl [] qual none .none (some outer)) Q E s:=by
 skip
 refine ai (wpAny_alloc ?_);refine ai (wpAny_layCells _ (λname kind cells=>by cases Jt:kind==NameKind.cell <;> simp [Jt]) _ _ _ _ ?_);refine rE (show ({s with heap:=s.heap.push {cls:=.type "dict",data:=.dict #[]}}:Shared).heap.objs.size=s.heap.objs.size+1 from iA ..) ?_;exact ai (bo (bo h))
section
variable {c:aP}{C:Cx}{S:AS}{F F':G}{bs az:aA}{s s':Shared}{A:Around}{X:cK}{K:cw}{mg mb:dZ}{pos:Pos}
theorem St.forget (z:St c C F bs S s)(h:aW S loc):St c C F bs ⟨loc,S.heap⟩ s:=by refine e1a1 z.locs λm hN hl=>?_;exact ⟨z.wd,(ae m hN (λx u e=>hl x u (h.at x u e))),z.fV,z.cm,z.own,z.cells,z.apart,z.frames,z.glob,z.blt,z.kind,z.om,z.fo⟩
theorem kq {k:CompK}(I:Nat->lC)
 (turn:∀n s,I n s->wpAny (model prog w) A (pyNext it) (λr Z=>match r with
  | none=>R (.ok .next) Z
  | some v=>wpAny (model prog w) A (letOwnedTupleGo target it v) (λzz mQ=>wpAny (model prog w) A (assign target env v) (λzz am =>
   wpAny (model prog w) A (forIn ifs true λc r=>if r=true then do let ok <-isTrue c env (eval c env);pure (ForInStep.yield ok) else pure (ForInStep.yield r)) (λok aM =>
    if ok=true then wpAny (model prog w) A (k.emit D env) (λzz eF=>∃m,m < n/\I m eF) (notedBy (model prog w) A env λe s'=>R (.error e) s') aM
    else ∃m,m < n/\I m aM) (notedBy (model prog w) A env λe s'=>R (.error e) s') am) (notedBy (model prog w) A env λe s'=>R (.error e) s') mQ) (notedBy (model prog w) A env λe s'=>R (.error e) s') Z) (notedBy (model prog w) A env λe s'=>R (.error e) s') s)
 (n:Nat) (h:I n s) :
 codeAny (model prog w) A (.compLoop (k.expr target iter ifs scope pos) 0 it (.ref D) env) R s:=by
 refine codeAny_loop rfl I (λn s hI=>?_) n h;have hu:A.under (.compLoop (k.expr target iter ifs scope pos) 0 it (.ref D) env)=A:=by clear turn;cases k <;> rfl
 have hd:(model prog w).den (.compLoop (k.expr target iter ifs scope pos) 0 it (.ref D) env)=(compTurn (k.expr target iter ifs scope pos) 0 it (.ref D) env).onRaise (λx=>do noteFrame x env;theTreesLotGoes x):=by clear hu turn;cases k <;> rfl
 rw [hu,hd];refine wpAny_noted ?_;have e:compTurn (k.expr target iter ifs scope pos) 0 it (.ref D) env=(do
  standAt iter.pos
  match <-pyNext it with
  | none=>pure (.done .next)
  | some v =>
    letOwnedTupleGo target it v
    assign target env v
    let mut ok:=true
    for c in ifs do
     if ok then ok <-isTrue c env (eval c env)
    if ok then k.emit D env
    again (.compLoop (k.expr target iter ifs scope pos) 0 it (.ref D) env)):=by clear hd hu turn;cases k <;> rfl
 refine rE e ?_;refine ai (wpAny_standAt (ai (aJ (turn n s hI) (λr Z h₁=>?_) λzz zz h'=>h')));cases r with
 | none=>exact bo h₁
 | some v =>
   refine ai (aJ h₁ (λzz mQ pt=>?_) λzz zz h'=>h');refine ai (aJ pt (λzz am jY=>ai (aJ jY (λok aM ge=>?_) λzz zz h'=>h')) λzz zz h'=>h');cases ok with
   | false=>exact bo ⟨rfl,ge⟩
   | true=>exact ai (aJ ge (λzz cr v0=>bo ⟨rfl,v0⟩) λzz zz h'=>h')
theorem gQ (h:dc sc scope fs vars=true):scope.kind=.function/\vars.Nodup/\(∃r,fs++r=vars) /\
 (∀x∈fs,scope.names.lookup x=some .free/\(sc.names.lookup x=some .cell\/sc.names.lookup x=some .free)/\∀k,(x,k)∈scope.names->k≠.cell) /\
 (∀x,(x,NameKind.free)∈scope.names->x∈fs)/\(∀p∈scope.names,p.2=.local->scope.names.lookup p.1=some .local):=by
 simp only [dc,eZ,beq_iff_eq,decide_eq_true_eq,List.all_eq_true,Bool.or_eq_true,Bool.not_eq_true',Bool.and_eq_false_imp,beq_eq_false_iff_ne,List.contains_iff_mem] at h;refine e0a1 h λCT h6=>?_;refine e0a1 CT λE3 h5=>?_;clear CT;refine e0a1 E3 λE1 h4=>?_;clear E3;refine e0a1 E1 λGv h3=>?_;clear E1;obtain ⟨h1,h2⟩:=Gv;refine (jh h1 h2 (List.isPrefixOf_iff_prefix.mp h3) (λx hx=>?_) (λx hx=>?_) (λp hp hl=>?_))
 . refine e0a1 (h4 x hx) λAm a3=>?_;refine e0a1 Am λa1 a2=>?_;clear Am;refine (aH a1 a2 (λk hk e=>?_));obtain this:=a3 (x,k) hk rfl;exact this e
 . (refine bh (h5 (x,.free) hx) (λq=>?_) (λq=>?_))
   . exact absurd rfl q
   . exact q
 . (refine bh (h6 p hp) (λq=>?_) (λq=>?_))
   . exact absurd hl q
   . exact q
theorem mem_of_lookupK {l:List (Str×NameKind)}(h:l.lookup x=some k):(x,k)∈l:=by
 induction l with
 | nil=>exact bx h
 | cons p l ih =>
   rw [List.lookup_cons] at h;by_cases q:(x==p.1)=true
   . replace h:=q▸h;cases h;obtain this:x=p.1:=by simpa using q
     clear ih q;subst this;exact .head _
   . simp only [Bool.not_eq_true] at q;rw [q] at h;exact .tail _ (ih h)
theorem iQ.cellAt (z:iQ c C F bs h m i v)(hx:C.vars[i]?=some x)(hk:C.env.kindOf x=some .cell\/C.env.kindOf x=some .free) :
 EZ c C.env F bs h x v:=by
 refine e1a1 z λx' oo w=>?_;obtain rfl:=aX (aF (af hx) oo);cases w with
 | loc hl=>rw [hl] at hk;exact hk.elim nofun nofun
 | cell _ w=>exact w
noncomputable def ij (C:Cx)(scope:Scope):List (Str×Addr):=jM (λx=>(C.env.cells.lookup x).getD 0) scope.names []
theorem lh (na:C.env.scope=sc)(fw:dc sc scope (fs.map (·.2.1)) vars=true)(z:St c C F bs S s)(iE:jN C S fs) :
 closureFor scope C.env=pure (ij C scope)/\∀s',s'={s with heap:=pushCells (s.heap.push {cls:=.type "dict",data:=.dict #[]}) scope.names} ->
  ∃env own,newEnv scope s.heap.objs.size C.env.globals (cellsFrom (s.heap.objs.size+1) scope.names (ij C scope)) C.env.qual none .none (some C.env) builtinsNs=env /\
   St c (qH scope sc env own C.frames C.handled C.n vars) F bs ⟨capLoc 0 fs,S.heap⟩ s'/\ba c F bs s s'/\(∀b∈own,s.heap.get? b=none)/\env.locals=s.heap.objs.size /\
   (∀x,scope.names.lookup x=some .local\/scope.names.lookup x=some .cell->aV (qH scope sc env own C.frames C.handled C.n vars) (λzz=>none) x)/\(s'.heap.get? s.heap.objs.size=some {cls:=.type "dict",data:=.dict #[]}):=by
 refine e0a5 (gQ fw) λk1 k2 E2 k4 k5 k6=>?_;refine e1a0 E2 λrest k3=>?_;clear E2;refine e1a1 z.locs λm hN hl=>?_;obtain cellAt:∀x,x∈fs.map (·.2.1)->∃a,C.env.cells.lookup x=some a:=λx hx=>by refine e1a1 (fy hx) λp hp zs=>?_;obtain rfl:=zs;refine e0a1 (iE.mem p hp) λh1 h2=>?_;refine e0a2 (k4 p.2.1 hx) λzz Ti zz=>?_;obtain ⟨a,o,r,e,_⟩:=(hl _ _ h2).cellAt h1 (by delta Env.kindOf;rw [na];exact Ti);exact (bQ a e)
 let ad:Str->Addr:=λx=>(C.env.cells.lookup x).getD 0;have IS:∀x,x∈fs.map (·.2.1)->C.env.cells.lookup x=some (ad x):=λx hx=>by refine e1a0 (cellAt x hx) λa e=>?_;show _=some ((C.env.cells.lookup x).getD 0);refine rE e ?_;rfl
 refine ⟨jF ad λx hx=>IS x (k5 x hx),λs' db=>?_⟩;have v1:∀x a,(jM ad scope.names []).lookup x=some a->C.env.cells.lookup x=some a:=λx a e=>by
  (refine bh (ie ad scope.names [] (x,a) (mem_of_lookup e)) (λq=>?_) (λzt=>?_);rotate_left;refine e0a1 zt λq1 q2=>?_;rotate_right)
  . cases q
  . have:a=ad x:=q1;refine rE this ?_;exact IS x (k5 x q2)
 let cs:=cellsFrom (s.heap.objs.size+1) scope.names [];refine (dY _ (s.heap.objs.size::cs.map (·.2)) rfl ?_);have op:=St.opens (c:=c) (F:=F) (bs:=bs) (s:=s) (s':=s') (H:=S.heap) z.wd (cl:=jM ad scope.names []) ⟨λx a e=>?_,λx y a e1 e2=>z.apart x y a (v1 x a e1) (v1 y a e2)⟩ "dict" (by decide) scope.names
  {(newEnv scope s.heap.objs.size C.env.globals (cellsFrom (s.heap.objs.size+1) scope.names (jM ad scope.names [])) C.env.qual none .none (some C.env) builtinsNs) with scope:=ee scope sc}
  (s.heap.objs.size::cs.map (·.2)) C.frames C.handled C.n vars (capLoc 0 fs) db rfl rfl rfl z.glob z.blt k1 k2 (λe he=>?_) (λi v e=>?_) (.inl rfl)
 . refine e0a2 op λo1 o2 o3=>?_;refine (jh o1 o2 o3 rfl (λx hx=>?_) ?_)
   . (refine bh hx (λq=>?_) (λq=>?_))
     . refine .inl ?_;show (ee scope sc).names.lookup x=_;rw [ig,q];rfl
     . refine .inr ⟨?_,?_⟩
       . show (ee scope sc).names.lookup x=_;rw [ig,q];rfl
       . obtain zD:(cs.lookup x).isSome=true:=PySem.W.cellsFrom_some _ _ _ (.inl q);refine e1a0 (Option.isSome_iff_exists.mp zD) λa ha=>?_;refine (ae a ?_ (.tail _ (eK (ae (x,a) (mem_of_lookup ha) rfl))));show (cellsFrom (s.heap.objs.size+1) scope.names (jM ad scope.names [])).lookup x=some a;rw [cM,List.lookup_append];refine rE ha ?_;rfl
   . rw [db];exact pushCells_keeps _ _ _ _ (dw _ rfl)
 . obtain ⟨h1,h2,o,h3,h4,h5⟩:=z.cells x a (v1 x a e);exact (z6 h1 o h3 h4 h5)
 . refine e0a1 (z.frames e he) λf1 f2=>?_;refine ⟨f1.keep λb o e zz=>(ae o ?_ (.refl o)),f2⟩;rw [db];exact pushCells_keeps _ _ _ _ (cI _ e)
 . refine e2a1 (yB fs 0 i v e) λi' x h1 h2=>?_
   skip
   obtain hm:(i',x,v)∈fs:=bJ h2;have X3:x∈fs.map (·.2.1):=eK (ae _ hm rfl);refine e0a1 (iE.mem _ hm) λe1 e2=>?_;refine e0a2 (k4 x X3) λq1 q2 q3=>?_;obtain To:C.env.kindOf x=some .cell\/C.env.kindOf x=some .free:=by delta Env.kindOf;rw [na];exact q2
   obtain ⟨a,o,r,w1,w2,w3,w4⟩:=(hl _ _ e2).cellAt e1 To;refine ⟨x,?_,?_,q3,a,o,r,?_,w2,w3,w4⟩
   . rw [<-k3,et (by rw [qL];exact (bp h2).1),cj];refine rE h2 ?_;rfl
   . show (ee scope sc).names.lookup x=_\/(ee scope sc).names.lookup x=_;rw [ig,q1];by_cases h:(NameKind.free==NameKind.free&&sc.kind==ScopeKind.function&&sc.names.lookup x==some NameKind.cell)=true
     . left;simp only [Option.map_some,h,if_true]
     . right;simp only [Option.map_some,h,if_false];simp
   . rw [oD ad scope.names x (mem_of_lookupK q1)];obtain this:=IS x X3;rw [w1] at this;exact this.symm
end
structure fS (W:aA)(F:G)(bs:aA)(h:Heap)(F':G)(az:aA)(h':Heap):Prop where
 sub:∀b o,F b=some o->F' b=some o
 ext:∃nb,az=bs++nb/\∀a∈nb,h.get? a=none
 mono:∀b o,b∉W->h.get? b=some o->∃o',h'.get? b=some o'
 dQ:∀b o,h.get? b=some o->b∉W->b∉bs->o.cls≠.none->∃o',h'.get? b=some o'/\iB o o'
 i6:∀b o,F' b=some o->F b=none->h.get? b=none\/b∈bs
section
variable {W own:aA}{F F₁ aT:G}{bs bs₁ ax:aA}{h h₁ jY:Heap}
theorem fS.xq (m:ba c F bs s s'):fS W F bs s.heap F bs s'.heap :=
 ⟨λzz zz e=>e,(ae [] (by simp) (by simp)),λb o zz e=>(bQ o (m.keep _ _ e)),λb o e zz zz zz=>(ae o (m.keep _ _ e) (.refl o)),λb o e n=>by lia⟩
theorem fS.step (x:fS W F bs h F₁ bs₁ h₁)(y:Step own F₁ bs₁ h₁ aT ax jY)(ho:∀a∈own,a∈W)(hW:∀a∈W,∃o,h₁.get? a=some o):fS W F bs h aT ax jY:=by
 refine e1a1 x.ext λnb rz hn=>?_;obtain rfl:=rz;refine e1a1 y.ext λvB t0 gM=>?_;refine rE t0 ?_;have new:∀a,h₁.get? a=none->h.get? a=none:=λa ha=>by
  cases e:h.get? a with
  | none=>rfl
  | some o =>
    by_cases q:a∈W
    . refine e1a0 (hW a q) λo' e'=>?_;rw [ha] at e';cases e'
    . refine e1a0 (x.mono a o q e) λo' e'=>?_;rw [ha] at e';cases e'
 have off:∀b o,h.get? b=some o->b∉bs->b∉bs++nb:=λb o e n m=>by
  (refine bh (bX m) (λm=>?_) (λm=>?_))
  . exact n m
  . exact bx (aF (af (hn b m)) e)
 refine ⟨λb o e=>y.sub _ _ (x.sub _ _ e),(ae (nb++vB) (by simp) (λa ha=>(bX ha).elim (hn a) (λq=>new a (gM a q)))),λb o q e=>?_,λb o e n1 n2 n3=>?_,λb o e n=>?_⟩
 . refine e1a0 (x.mono b o q e) λo' e'=>?_;exact y.mono _ _ e'
 . refine e1a1 (x.dQ b o e n1 n2 n3) λo' e' s1=>?_;refine e1a1 (y.dQ b o' e' (λq=>n1 (ho b q)) (off b o e n2) (by refine rE s1.cls ?_;exact n3)) λDj Ae s2=>?_;exact (ae Dj Ae (s1.trans s2))
 . cases e1:F₁ b with
   | some o1=>exact x.i6 b o1 e1 n
   | none =>
     (refine bh (y.i6 b o e e1) (λz=>?_) (λz=>?_))
     . exact .inl (new b z)
     . (refine bh (bX z) (λz=>?_) (λz=>?_))
       . exact .inr z
       . exact .inl (hn b z)
theorem fS.others (x:fS W F bs h F₁ bs₁ s.heap)(t:dB wr s s')(hw:∀a∈wr,a∈W):fS W F bs h F₁ bs₁ s'.heap:=by
 refine ⟨x.sub,x.ext,λb o q e=>?_,λb o e n1 n2 n3=>?_,x.i6⟩
 . refine e1a0 (x.mono b o q e) λo' e'=>?_;exact (bQ o' (t.same b (λm=>q (hw b m)) _ e'))
 . refine e1a1 (x.dQ b o e n1 n2 n3) λo' e' s1=>?_;exact (ae o' (t.same b (λm=>n1 (hw b m)) _ e') s1)
theorem Step.Fc (x:Step own F bs h F₁ bs₁ h₁)(y:fS W F₁ bs₁ h₁ aT ax jY)(hW:∀a∈W,h.get? a=none):Step own F bs h aT ax jY:=by
 refine e1a1 x.ext λnb o9 hn=>?_;obtain rfl:=o9;refine e1a1 y.ext λvB o8 gM=>?_;refine rE o8 ?_;obtain off:∀b o,h.get? b=some o->b∉bs->b∉bs++nb:=λb o e n m=>by
  (refine bh (bX m) (λm=>?_) (λm=>?_))
  . exact n m
  . exact bx (aF (af (hn b m)) e)
 have nW:∀b o,h.get? b=some o->b∉W:=λb o e q=>by exact bx (aF (af (hW b q)) e)
 have new:∀a,h₁.get? a=none->h.get? a=none:=λa ha=>by
  cases e:h.get? a with
  | none=>rfl
  | some o=>refine e1a0 (x.mono _ _ e) λo' e'=>?_;exact bx (aF (af ha) e')
 refine ⟨λb o e=>y.sub _ _ (x.sub _ _ e),(ae (nb++vB) (by simp) (λa ha=>(bX ha).elim (hn a) (λq=>new a (gM a q)))),λb o e=>?_,λb o e n1 n2 n3=>?_,λb o e n=>?_⟩
 . refine e1a0 (x.mono _ _ e) λo' e'=>?_;exact y.mono b o' (nW b o e) e'
 . refine e1a1 (x.dQ b o e n1 n2 n3) λo' e' s1=>?_;refine e1a1 (y.dQ b o' e' (nW b o e) (off b o e n2) (by refine rE s1.cls ?_;exact n3)) λDj Ae s2=>?_;exact (ae Dj Ae (s1.trans s2))
 . cases e1:F₁ b with
   | some o1=>exact x.i6 b o1 e1 n
   | none =>
     (refine bh (y.i6 b o e e1) (λz=>?_) (λz=>?_))
     . exact .inl (new b z)
     . (refine bh (bX z) (λz=>?_) (λz=>?_))
       . exact .inr z
       . exact .inl (hn b z)
end
section
variable {c:aP}{C:Cx}{S:AS}{F F':G}{bs az:aA}{s s':Shared}{A:Around}{X:cK}{K:cw}{mg mb:dZ}{pos:Pos}
theorem St.AQ (x:St c C F bs S s)(st:fS W F bs s.heap F' az s'.heap)(hW:∀b∈W,s.heap.get? b=none\/cJ c C F bs b)(y:Wd c F' az H' s'):St c C F' az {S with heap:=H'} s':=by
 refine e1a1 st.ext λnb o7 RG=>?_;obtain rfl:=o7;refine e1a1 x.locs λmm hN hl=>?_;have vL:∀b o,s.heap.get? b=some o->b∉bs->b∉bs++nb:=λb o e q z=>by
  (refine bh (bX z) (λz=>?_) (λz=>?_))
  . exact q z
  . exact bx (aF (af (RG b z)) e)
 have Ag:∀b o,s.heap.get? b=some o->b∉bs->F b=none->F' b=none:=λb o e q z=>by
  cases e':F' b with
  | none=>rfl
  | some o'=>(refine bh (st.i6 b o' e' z) (λy=>?_) (λy=>?_))
             . exact bx (aF (af y) e)
             . exact absurd y q
 have GZ:∀b o,s.heap.get? b=some o->¬cJ c C F bs b->b∉W:=λb o e q m=>(hW b m).elim (λz=>by lia) q;have JZ:∀b∈C.own,∀o,s.heap.get? b=some o->b∉W:=λb hb o e=>GZ b o e λf=>f.own hb;have Fa:∀y b,C.env.cells.lookup y=some b->∀o,s.heap.get? b=some o->b∉W:=λy b hb o e=>GZ b o e λf=>f.cells y hb;obtain G0:∀e∈C.frames,∀L,e.frame=some L->∀o,s.heap.get? L=some o->L∉W:=λe he L hL o e'=>GZ L o e' λf=>f.frames e he hL;obtain hL:=(x.own _ x.cm).2.1;refine e1a1 x.fV λoL eL nL=>?_;refine e1a1 (st.dQ _ oL eL (JZ _ x.cm oL eL) hL nL) λzn wP sL=>?_;refine ⟨y,(ae mm ?_ (λz v e=>?_)),(ae zn wP (by rw [sL.cls];exact nL)),x.cm,λb hb=>?_,λz b e=>?_,x.apart,λe he=>⟨?_,λL Dl=>?_⟩,x.glob,x.blt,x.kind,x.om,x.fo.mono st.sub⟩
 . refine e3a2 hN λo es ep ho hd r=>?_;obtain rfl:=aX (aF (af eL) ho);exact (eT zn es ep wP (sL.data.trans hd) r)
 . refine iQ.mono st.sub ((hl z v e).heap λy b o e1 e2=>?_);obtain ⟨h1,h2,o2,h3,h4,_⟩:=x.cells y b e1;obtain rfl:=aX (aF (af e2) h3);refine e1a1 (st.dQ b o e2 (Fa y b e1 o e2) h1 (by rw [h4];simp)) λo' e' s1=>?_;exact (ae o' e' s1.data)
 . obtain ⟨h1,h2,o,h3⟩:=x.own b hb;exact (aH (Ag b o h3 h2 h1) (vL b o h3 h2) (st.mono b o (JZ b hb o h3) h3))
 . obtain ⟨h1,h2,o,h3,h4,v,h5⟩:=x.cells z b e;refine e1a1 (st.dQ b o h3 (Fa z b e o h3) h1 (by rw [h4];simp)) λo' e' s1=>?_;exact (aH (vL b o h3 h1) h2 ⟨o',e',s1.cls.trans h4,v,s1.data.trans h5⟩)
 . obtain ⟨hk,L,o,h1,h2,h3,h4⟩:=(x.frames e he).1;refine e1a1 (st.dQ L o h2 (G0 e he L h1 o h2) ((x.frames e he).2 L h1).2 (by rw [h3];simp)) λo' e' s1=>?_;exact ⟨hk,L,o',h1,e',s1.cls.trans h3,λvs=>by rw [s1.data];exact h4 vs⟩
 . obtain ⟨hk,L',o,h1,h2,h3,h4⟩:=(x.frames e he).1;obtain rfl:=aX (aF (af Dl) h1);obtain this:=(x.frames e he).2 L Dl;exact ⟨Ag L o h2 this.2 this.1,vL L o h2 this.2⟩
theorem xr {K:Bool->cR}(hA:i7 C A)(z:St c C F bs S s)(h:s6 c C ifs S K) :
 WP c C A (λzz zz b r=>r=b) (forIn ifs true λc r=>if r=true then do let ok <-isTrue c C.env (eval c C.env);pure (ForInStep.yield ok) else pure (ForInStep.yield r)) F bs s K dT:=by
 match ifs,h with
 | [],h=>exact wpAny_tests_nil ⟨F,bs,true,S,.refl ..,z,rfl,h⟩
 | [t],h=>exact wpAny_tests_one (h A F bs s hA z)
 | _::_::_,h=>exact h.elim
theorem CompK.jo {k:CompK}{acc:List k.β}(h:k.rel c F bs D ob acc):ob.cls≠.none/\ob.cls≠.type "frame":=by
 cases k with
 | list elt=>refine e2a1 h λvs n o6 zz=>?_;clear h;refine rE o6 ?_;simp [aY]
 | dict kx vx=>refine e1a1 h λrs An zz=>?_;clear h;obtain ⟨es,n,e,_⟩:=An;refine rE (aX e) ?_;simp [bj]
theorem CompK.mW {k:CompK}{acc:List k.β}(x:k.rel c F bs D ob acc)(st:Step own F bs h F' az h'):k.rel c F' az D ob acc:=by
 cases k with
 | list elt=>refine e2a1 x λvs n e hv=>?_;exact (dY vs n e (st.Vs hv))
 | dict kx vx =>refine e1a1 x λrs e hv=>?_;refine e1a1 st.ext λnb o5 zz=>?_;refine rE o5 ?_;exact (ae rs e (bE.mono st.sub hv))
noncomputable def CompK.obj₀:CompK->Obj
 | .list _=>aY [] 0
 | .dict ..=>bj #[] 0
noncomputable def CompK.new:CompK->Sem Value
 | .list _=>newList []
 | .dict ..=>newDict
inductive Z9 (c:aP)(C:Cx)(k:CompK)(D:Addr)(ob:Obj)(F:G)(bs:aA)(h₀:Heap)(K:List k.β->cR)(s4:Shared):Prop
 | mk (F':G) (az:aA) (S':AS) (eF:Shared) (im:List k.β) (Go:Obj) (st:Step C.own F bs h₀ F' az eF.heap) (z:St c C F' az S' eF) (h5:eF.heap.get? D=some ob) (f:cJ c C F' az D) (t:dB [D] eF s4) (h6:s4.heap.get? D=some Go) (hr:k.rel c F' az D Go im) (hk:K im S')
inductive Fd (c:aP)(C:Cx)(k:CompK)(D:Addr)(own:aA)(wr:aA)(N:Nat)(Ps:Nat->G->aA->lC)(F:G)(bs:aA)(h₀:Heap)(I:Nat->List k.β->cR)(j:Nat)(s':Shared):Prop
 | mk (F':G) (az:aA) (S':AS) (i:Nat) (acc:List k.β) (ob:Obj) (st:fS own F bs h₀ F' az s'.heap) (z:St c C F' az S' s') (f:bR c C F' az wr s'.heap) (fD:cJ c C F' az D) (h:s'.heap.get? D=some ob) (hr:k.rel c F' az D ob acc) (hI:I i acc S') (p:Ps i F' az s') (hi:i<=N) (e:j=N+1 - i)
inductive AR (c:aP)(C:Cx)(k:CompK)(D:Addr)(own:aA)(F:G)(bs:aA)(h₀:Heap)(I:List k.β->cR)(r:Except Value Flow)(s':Shared):Prop
 | mk (e:r=.ok .next) (F':G) (az:aA) (S':AS) (acc:List k.β) (ob:Obj) (st:fS own F bs h₀ F' az s'.heap) (z:St c C F' az S' s') (fD:cJ c C F' az D) (h:s'.heap.get? D=some ob) (hr:k.rel c F' az D ob acc) (hI:I acc S')
@[reducible] def Tw (c:aP) (C:Cx) (k:CompK) (i:Nat) (acc:List k.β) (I:Nat->List k.β->cR):Bool->cR:=λok aO=>match ok with | false=>qS (I (i+1) acc) aO | true=>k.em c C aO acc (λim di=>qS (I (i+1) im) di)
@[reducible] def J0 (c:aP) (C:Cx) (A:Around) (k:CompK) (D:Addr) (J:Nat->lC) (n:Nat):Bool->lC:=λok aM=>if ok=true then wpAny (model c.prog c.w) A (k.emit D C.env) (λzz eF=>∃m,m < n/\J m eF) (λzz zz=>False) aM else ∃m,m < n/\J m aM
theorem DE (hA:i7 C A)(z:St c C F bs S s){acc:List k.β}(hD:s.heap.get? D=some ob)(hr:k.rel c F bs D ob acc)(fD:cJ c C F bs D)(hl:acc.length<=sizeLine){K:List k.β->cR}(h:k.em c C S acc K) :
 wpAny (model c.prog c.w) A (k.emit D C.env) (λzz=>Z9 c C k D ob F bs s.heap K) (λzz zz=>False) s:=by
 have oE:∀{F' nK:G} {az jp:aA} {s' oG:Shared},cJ c C F' az D->s'.heap.get? D=some ob->Step C.own F' az s'.heap nK jp oG.heap->oG.heap.get? D=some ob/\cJ c C nK jp D:=by intro F' nK az jp s' oG fd hd st;refine e1a1 (st.dQ D _ hd fd.own fd.bs (CompK.jo hr).1) λo' e' sm=>?_;rw [sm.pG (CompK.jo hr).2] at e';exact ⟨e',fd.step st hd⟩
 cases k with
 | list elt =>
   refine ai (aJ (h A F bs s hA z) (λx eF q6=>q6.casesOn λfb dJ w fu kt fc hw kk=>?_) λzz zz q7=>q7.casesOn λzz zz zz zz zz zz zz q=>q.elim);refine e0a1 (oE fD hD kt) λmX rJ=>?_;refine e2a1 hr λvs n o4 bi=>?_;clear hr;clear oE hD;obtain rfl:=o4;have G1:=kt.Vs (c:=c) bi;obtain hlen:vs.length<=sizeLine:=by rw [bi.length];exact hl
   refine ai (call_meets PySem.F.slot_list_append (ae _ mX rfl) PySem.F.entry_list_append (PySem.F.args_list_append_2 _ _) (AutoListH.list_append_list_val_0 D vs.toArray n x (hlen)) ⟨mX,?_⟩);refine bo ?_;obtain e:(aY vs n).mapSeq (λTx=>Tx.push x)=aY (vs++[x]) (n+1):=by simp [aY,Obj.mapSeq]
   generalize xt:({eF with heap:=eF.heap.update D (Obj.mapSeq λTx=>Tx.push x),toks:=eF.toks}:Shared)=s4;have xu:s4.heap.get? D=some (aY (vs++[x]) (n+1)):=by refine xt▸e▸?_;exact jS _ mX (rfl)
   have hs:Heap.SameBut D eF.heap s4.heap:=by refine xt▸?_;exact Heap.SameBut.update ..
   exact ⟨fb,dJ,fu,eF,acc++[w],_,kt,fc,mX,rJ,⟨λb hb o e=>(hs.2 b (by simpa using hb)).trans e,by rw [<-xt],by rw [<-xt]⟩,xu,(dY _ _ rfl (G1.append (.cons hw .nil))),kk⟩
 | dict kx vx =>
   refine ai (aJ (h A F bs s hA z) (λkv cr ⟨d7,ce,w,di,mY,cW,hw,x,ew,v0⟩=>?_) λzz zz q9=>q9.casesOn λzz zz zz zz zz zz zz q=>q.elim);refine e0a1 (oE fD hD mY) λlH xw=>?_;subst ew;refine e1a0 hw.inv λzz o3=>?_;refine rE o3 ?_;refine ai (wpAny_holding (aJ (v0 A d7 ce cr hA cW) (λvv eF q10=>q10.casesOn λfb dJ v fu kt fc hv kk=>?_) λzz zz Sv=>Sv.casesOn λzz zz zz zz zz zz zz q=>q.elim));refine e0a1 (oE xw lH kt) λmX rJ=>?_;refine e1a1 (CompK.mW (k:=.dict kx vx) (CompK.mW (k:=.dict kx vx) hr mY) kt) λrs hd Fe=>?_;have J1:nE (sk c.prog c.w) eF.heap.get? D rs:=by obtain ⟨es,n,e,r⟩:=hd;clear lH hr oE hD;obtain rfl:=aX e;exact ⟨es,n,mX,r⟩
   have qT:(D==sysModules)=false:=(let ⟨_,_,_,_,_,_,e⟩:=hd;e)
   refine ai (wpAny_standAt (wpAny_holding (wpAny_dictSet_pairs (hsz:=by obtain e:=congrArg List.length (bE.keys Fe);simp at e;rw [e];exact hl) (str_is x _) (J1.dictOf (c:=c)) λh' v2 db=>?_)));obtain DF:=nE.vR (c:=c) v2 qT;obtain ⟨es,n,e,r⟩:=DF;exact ⟨fb,dJ,fu,eF,dC acc x v,_,mY.trans kt,fc,mX,rJ,⟨λb hb o e=>(db.2 b (by simpa using hb)).trans e,rfl,rfl⟩,e,(ae _ ⟨es,n,rfl,r⟩ (bE.put x Fe hv)),kk⟩
theorem yC (hh:C.handled=none)(W:Iter c target it items live wr Ps)
 (I:Nat->List k.β->cR) (hI:∀i acc S',I i acc S'->live S'.heap/\acc.length<=sizeLine) (turn:∀i y acc S',items[i]?=some y->I i acc S'->k.body c target ifs C S' I i acc y)
 (hA:i7 C A) (h0:I 0 [] S) (z:St c C F bs S s) (j7:bR c C F bs wr s.heap) (hp:Ps 0 F bs s) (hD:s.heap.get? D=some Ff) (Fg:k.rel c F bs D Ff []) (fD:cJ c C F bs D) (G2:D∉wr) (al:fS (wr++D::C.own) F₁ bs₁ h₁ F bs s.heap) :
 codeAny (model c.prog c.w) A (.compLoop (k.expr target iter ifs scope pos) 0 (.ref it) (.ref D) C.env)
  (AR c C k D (wr++D::C.own) F₁ bs₁ h₁ (I items.length)) s:=by
 refine kq (Fd c C k D (wr++D::C.own) wr items.length Ps F₁ bs₁ h₁ I) ?_ (items.length+1)
  ⟨F,bs,S,0,[],Ff,al,z,j7,fD,hD,Fg,h0,hp,Nat.zero_le _,sf⟩
 intro j am o1;obtain ⟨aT,ax,aC,i,acc,ob,an,aG,sB,lI,iF,uE,rK,rF,hi,rfl⟩:=o1;have G3:∀(F':G) (az:aA) (S':AS) (s':Shared),St c C F' az S' s'->bR c C F' az wr s'.heap->(∃ob,s'.heap.get? D=some ob)->∀a∈wr++D::C.own,∃o,s'.heap.get? a=some o:=λF' az S' s' z' f' v2 a ha=>by
  rcases bX ha with q | q
  . refine e1a1 (f'.at_ a q) λo e zz=>?_;exact (bQ o e)
  . clear ha uE iF lI an al G2 fD Fg hD;rcases er q with rfl | q
    . exact v2
    . exact (z'.own a q).2.2
 have G4:∀a∈wr++C.own,a∈wr++D::C.own:=λa ha=>by
  rcases bX ha with q | q
  . exact eo (.inl q)
  . exact eo (.inr (.tail _ q))
 have oE:∀{own:aA} {F' nK:G} {az jp:aA} {s' oG:Shared},(∀a∈own,a∈wr++C.own)->cJ c C F' az D->s'.heap.get? D=some ob->Step own F' az s'.heap nK jp oG.heap->oG.heap.get? D=some ob/\cJ c C nK jp D:=by
  intro own F' nK az jp s' oG ho fd hd st;obtain ⟨o',e',sm⟩:=st.dQ D _ hd (λq=>by
   rcases bX (ho D q) with q | q
   . exact G2 q
   . exact fd.own q) fd.bs (CompK.jo uE).1
  rw [sm.pG (CompK.jo uE).2] at e';exact ⟨e',fd.step st hd⟩
 have:=W.next (A:=A) (AR c C k D (wr++D::C.own) F₁ bs₁ h₁ (I items.length) (.ok .next))
  (λoC=>wpAny (model c.prog c.w) A (forIn ifs true λc r=>if r=true then do let ok <-isTrue c C.env (eval c C.env);pure (ForInStep.yield ok) else pure (ForInStep.yield r)) (J0 c C A k D (Fd c C k D (wr++D::C.own) wr items.length Ps F₁ bs₁ h₁ I) (items.length+1 - i)) (λzz zz=>False) oC) (λzz zz=>False)
  (λaC=>s6 c C ifs aC (Tw c C k i acc I)) hA hh aG (hI i acc aC rK).1 rF sB ?_ ?_
 . refine aJ this (λr Z h₁=>?_) λzz zz e=>e.elim;cases r with
   | none=>exact h₁
   | some v=>exact aJ h₁ (λzz mQ pt=>aJ pt (λzz oC un=>aJ un (λok aM ge=>by
    cases ok with
    | true=>exact aJ ge (λx cr v0=>v0) λzz zz e=>e.elim
    | false=>exact ge) λzz zz e=>e.elim) λzz zz e=>e.elim) λzz zz e=>e.elim
 . intro he s' z' t;obtain je:i=items.length:=by rw [List.getElem?_eq_none_iff] at he;exact sI hi he
   refine je▸?_;exact ⟨rfl,aT,ax,aC,acc,ob,an.others t λa ha=>eo (.inl ha),z',lI,t.same D G2 _ iF,uE,rK⟩
 . intro y hy;have xl:i+1<=items.length:=(bp hy).1;refine ⟨k.DD c target ifs C aC I i acc y (turn i y acc aC hy rK),λbn aK aO aM aR As uF bv up=>?_⟩;obtain aE:=an.step up G4 (G3 _ _ _ _ aG sB (bQ ob iF));refine e0a1 (oE (own:=wr++C.own) (λa ha=>ha) lI iF up) λFh AT=>?_;obtain J2:=CompK.mW uE up;refine aJ (xr hA aR bv) (λok cr J3=>J3.casesOn λd7 ce b di mY cW hb gP=>?_) λzz zz Ty=>Ty.casesOn λzz zz zz zz zz zz zz q=>q.elim;clear J3;subst hb;have ca:=aE.step mY (λa ha=>G4 a (eo (.inr ha))) (G3 _ _ _ _ aR As (bQ ob Fh));refine e0a1 (oE (own:=C.own) (λa ha=>eo (.inr ha)) AT Fh mY) λlH xw=>?_;have xx:=CompK.mW J2 mY;have J4:=W.keep uF As aR mY cW;have DG:=(As.step mY).1;cases ok with
   | false =>refine e1a1 gP λloc hl kk=>?_;exact (ae _ (kR hi) ⟨d7,ce,⟨loc,di.heap⟩,i+1,acc,ob,ca,cW.forget hl,DG,xw,lH,xx,kk,J4,xl,rfl⟩)
   | true =>
     refine aJ (DE hA cW lH xx xw (hI i acc aC rK).2 gP) (λ_ s4 ⟨fb,dJ,fu,eF,im,Go,kt,fc,mX,rJ,DH,xu,J5,loc,hl,kk⟩=>?_) λzz zz e=>e.elim;obtain dl:=ca.step kt (λa ha=>G4 a (eo (.inr ha))) (G3 _ _ _ _ cW DG (bQ ob lH));obtain Tz:=W.keep J4 DG cW kt fc;have G5:=(DG.step kt).1;obtain yD:=fc.frees DH ⟨λa ha=>by simp only [bD ha];exact rJ,λa ha=>by rw [bD ha];exact (a9 _ mX ((CompK.jo xx).1) ((CompK.jo xx).2))⟩;obtain sx:Step ([D]++[]) fb dJ eF.heap fb dJ s4.heap:=Step.kc DH λa ha=>by refine rE (bD ha) ?_;exact (bQ _ xu)
     obtain TA:=W.uv Tz G5 (λa ha q=>by simp at q;exact G2 (q▸ha)) fc sx yD;exact (ae _ (kR hi) ⟨fb,dJ,⟨loc,fu.heap⟩,i+1,im,Go,dl.others DH (λa ha=>by rw [bD ha];exact eo (.inr (.head _))),yD.forget hl,⟨G5.free,λa ha=>by refine e1a1 (G5.at_ a ha) λo q1 q2=>?_;exact (ae o (DH.same a (λm=>G2 (bD m▸ha)) _ q1) q2)⟩,rJ,xu,J5,kk,TA,xl,rfl⟩)
end
section
variable {c:aP}{C:Cx}{S:AS}{F F':G}{bs az:aA}{s s':Shared}{A:Around}{X:cK}{K:cw}{mg mb:dZ}{pos:Pos}{a:Addr}{ob:Obj}
set_option tactic.hygienic true in
theorem St.l2 (z:St c C F bs S s)(f:cJ c C F bs a)(ha:s.heap.get? a=some ob)(dL:ob.cls≠.none):St c C (plus F a ob) bs S s:=by
 obtain hF:=f.F;refine e1a1 z.locs λmm hN hl=>?_;have w:=z.wd;refine ⟨⟨λb o e=>?_,λb o e q=>aQ hF _ _ (w.base b o e q),w.old.plus hF (w.old.vK ha dL),w.len,w.nodup,λk b o e1 e2=>⟨by simpa using fm.mono (nb:=[]) (aQ (ob:=ob) hF) (w.obj k b o e1 e2).1,λq=>?_⟩,w.there,w.os,w.gens,λb hb o e=>(by unfold plus at e;split at e;(· rename_i q;exact absurd (q▸hb) f.bs);(· exact w.kept b hb o e))⟩,
  (ae mm hN (λx v e=>by simpa using iQ.mono (nb:=[]) (aQ (ob:=ob) hF) (hl x v e))),z.fV,z.cm,λb hb=>⟨?_,(z.own b hb).2⟩,z.cells,z.apart,λe he=>⟨(z.frames e he).1,λL hL=>⟨?_,((z.frames e he).2 L hL).2⟩⟩,z.glob,z.blt,z.kind,z.om,z.fo.mono (aQ f.F)⟩
 . unfold plus at e
   split at e
   . rename_i q;clear hF f;refine rE q ?_;cases e;exact ha
   . exact w.sub _ _ e
 . delta plus;rw [if_neg (λ(e:b=a)=>f.bs (e▸bJ e1))];exact (w.obj k b o e1 e2).2 q
 . delta plus;rw [if_neg (λ(e:b=a)=>f.own (e▸hb))];exact (z.own b hb).1
 . delta plus;rw [if_neg (λ(e':L=a)=>f.frames e he (e'▸hL))];exact ((z.frames e he).2 L hL).1
theorem St.adopt (z:St c C F bs S s)(f:cJ c C F bs a)(ha:s.heap.get? a=some ob)(hr:fm c F (bs++[a]) s.heap a o):St c C F (bs++[a]) {S with heap:=S.heap++[o]} s:=by
 refine e1a1 z.locs λmm hN hl=>?_;have w:=z.wd;refine ⟨⟨w.sub,w.base,w.old,by simp [w.len],?_,λk b o' e1 e2=>?_,λb hb=>?_,w.os,w.gens,λb hb o e=>(bX hb).elim (λq=>w.kept b q o e) λq=>by rw [bD q,f.F] at e;cases e⟩,(ae mm hN (λx v e=>iQ.mono (λzz zz e=>e) (hl x v e))),z.fV,z.cm,λb hb=>(aH ((z.own b hb).1) (λq=>?_) ((z.own b hb).2.2)),λx b e=>⟨λq=>?_,(z.cells x b e).2⟩,z.apart,λe he=>⟨(z.frames e he).1,λL hL=>⟨((z.frames e he).2 L hL).1,λq=>?_⟩⟩,z.glob,z.blt,z.kind,z.om,z.fo⟩
 . rw [List.nodup_append];refine (aH w.nodup (by simp) (λp hp q hq e=>?_));rw [bD hq] at e;exact f.bs (e▸hp)
 . by_cases hk:k < bs.length
   . rw [et hk] at e1;rw [et (by rw [<-w.len];exact hk)] at e2;exact ⟨fm.mono (λzz zz e=>e) (w.obj k b o' e1 e2).1,(w.obj k b o' e1 e2).2⟩
   . obtain pc:k=bs.length:=by obtain this:=(bp e1).1;simp at this;exact sH this hk
     clear hk;subst pc;simp at e1;rw [w.len] at e2;simp at e2;subst e1 e2;exact ⟨hr,λzz=>f.F⟩
 . (refine bh (bX hb) (λq=>?_) (λq=>?_))
   . exact w.there b q
   . rw [bD q];exact (bQ ob ha)
 . (refine bh (bX q) (λq=>?_) (λq=>?_))
   . exact (z.own b hb).2.1 q
   . exact f.own (bD q▸hb)
 . (refine bh (bX q) (λq=>?_) (λq=>?_))
   . exact (z.cells x b e).1 q
   . exact f.cells x (bD q▸e)
 . (refine bh (bX q) (λq=>?_) (λq=>?_))
   . exact ((z.frames e he).2 L hL).2 q
   . exact f.frames e he (bD q▸hL)
set_option tactic.hygienic true in
theorem Step.l2 (st:Step own F₀ bs₀ h₀ F bs h)(hF:F a=none)(hn:h₀.get? a=none):Step own F₀ bs₀ h₀ (plus F a ob) bs h :=
 ⟨λb o e=>aQ hF _ _ (st.sub b o e),st.ext,st.mono,st.dQ,λb o e n=>by
  delta plus at e
  split at e
  . rename_i q;clear hF;subst q;exact .inl hn
  . exact st.i6 b o e n⟩
theorem Step.adopt (st:Step own F₀ bs₀ h₀ F bs h)(hn:h₀.get? a=none):Step own F₀ bs₀ h₀ F (bs++[a]) h:=by refine e1a1 st.ext λnb zs h1=>?_;refine rE zs ?_;exact ⟨st.sub,(ae (nb++[a]) (by simp) (λb hb=>(bX hb).elim (h1 b) λq=>by rw [bD q];exact hn)),st.mono,st.dQ,st.i6⟩
inductive X4 (c:aP)(C:Cx)(a:Addr)(F:G)(bs:aA)(F₀:G)(bs₀:aA)(h₀:Heap)(K:cw)(s:Shared):Prop
 | mk (F':G) (az:aA) (v:AV) (S':AS) (st:Step C.own F₀ bs₀ h₀ F' az s.heap) (z:St c C F' az S' s) (hv:c.V F' az v (.ref a)) (hk:K v S') (hb:∀b,b≠a->(F b=none->F' b=none)/\(b∉bs->b∉az))
theorem St.G6 (z:St c C F bs S s)(st:Step C.own F₀ bs₀ h₀ F bs s.heap)(hn:h₀.get? a=none)(f:cJ c C F bs a)(ha:s.heap.get? a=some (aY vs n))(hv:c.Vs F bs xs vs)(k:qQ K xs S) :
 X4 c C a F bs F₀ bs₀ h₀ K s:=by
 (refine bh k (λk=>?_) (λk=>?_))
 . exact ⟨_,bs,.lst xs,S,st.l2 f.F hn,z.l2 f ha (by simp [aY]),.lst (bQ n bO) (by simpa using a6.mono (nb:=[]) (aQ f.F) hv),k,λb hb=>⟨λe=>by unfold plus;rw [if_neg hb];exact e,id⟩⟩
 . refine ⟨F,_,.ref S.heap.length,_,st.adopt hn,z.adopt (o:=.list xs) f ha (ae vs (bQ n ha) (a6.mono (λzz zz e=>e) hv)),.ref ?_,k,λb hb=>⟨id,λq m=>?_⟩⟩
   . refine z.wd.len▸?_;simp
   . rcases bX m with m | m
     . exact q m
     . exact hb (bD m)
theorem Wd.others (w:Wd c F bs H s)(t:dB wr s s')(hw:∀a∈wr,F a=none/\a∉bs/\c.h₀.get? a=none):Wd c F bs H s' :=
 ⟨λb o e=>t.same b (λq=>by exact bx (aF (af ((hw b q).1)) e)) _ (w.sub b o e),w.base,gD.mP w.old (λa ha=>(hw a ha).2.2) t.same,w.len,w.nodup,
  λk b o e1 e2=>⟨(w.obj k b o e1 e2).1.at λob e=>t.same b (λq=>(hw b q).2.1 (bJ e1)) _ e,(w.obj k b o e1 e2).2⟩,
  λb hb=>e1a0 (w.there b hb) λo e=>(bQ o (t.same b (λq=>(hw b q).2.1 hb) _ e)),t.os.trans w.os,t.gens.trans w.gens,w.kept⟩
def CompK.fin (K:cw)(S:AS):(k:CompK)->List k.β->Prop
 | .list _,acc=>qQ K acc S
 | .dict ..,acc=>K (.pF acc) S
def CompK.may (c:aP):CompK->Prop
 | .list _=>True
 | .dict ..=>∃mg mb,Base c mg mb
theorem CompK.adopt {k:CompK}(z:St c C F bs S s)(st:Step C.own F₀ bs₀ h₀ F bs s.heap)(hn:h₀.get? a=none)(f:cJ c C F bs a)(ha:s.heap.get? a=some ob){acc:List k.β}(hr:k.rel c F bs a ob acc)(kk:k.fin K S acc) :
 X4 c C a F bs F₀ bs₀ h₀ K s:=by
 cases k with
 | list elt=>refine e2a1 hr λvs n zt hv=>?_;clear hr;obtain rfl:=zt;exact z.G6 st hn f ha hv kk
 | dict kx vx =>
   refine e1a1 hr λrs hd Fe=>?_;obtain wS:nE (sk c.prog c.w) (plus F a ob) a rs:=by obtain ⟨es,n,e,r⟩:=hd;exact ⟨es,n,by rw [<-(aX e)];exact bO,r⟩
   exact ⟨_,bs,.pF acc,S,st.l2 f.F hn,z.l2 f ha (CompK.jo (k:=.dict kx vx) (ae rs hd Fe)).1,.pF wS (by simpa using bE.mono (nb:=[]) (aQ f.F) Fe),kk,λb hb=>⟨λe=>by unfold plus;rw [if_neg hb];exact e,id⟩⟩
theorem CompK.G7 {k:CompK}(h:Q (.ref s.heap.objs.size) {s with heap:=s.heap.push k.obj₀}):wpAny (model c.prog c.w) A k.new Q E s:=by
 cases k with
 | list elt=>exact wpAny_newObj_type h
 | dict kx vx=>exact wpAny_newObj_type h
theorem CompK.G8 {k:CompK}(hm:k.may c)(z:St c C F bs S s)(hn:s.heap.get? a=none):k.rel c F bs a k.obj₀ []:=by
 cases k with
 | list elt=>exact (dY [] 0 rfl (.nil))
 | dict kx vx =>refine e2a0 hm λmg mb B=>?_;exact (ae [] ⟨#[],0,rfl,λe he=>by simp at he,.nil,List.nodup_nil,z.AD B hn⟩ (.nil))
theorem uG {target iter:Expr}{k:CompK}{ifs:cz}{scope sc:Scope}{J6:Pos}{use:Option (Value->Sem Unit)}{vars:a8}(fs:List (Nat×Str×AV))(hh:C.handled=none)(na:C.env.scope=sc)(fw:dc sc scope (fs.map (·.2.1)) vars=true)(hA:i7 C A)(hm:k.may c)(z:St c C F bs S s)(iE:jN C S fs)
 (Kf:cw) {Q:vP}
 (h:lD c C target iter S (λitems live ac=>rI c C sc scope vars fs (k.body c target ifs) items live ac (λacc H=>k.fin Kf {ac with heap:=H} acc)) X)
 (hQ:match use with
  | none=>∀F' az v S' r s',Step C.own F bs s.heap F' az s'.heap->St c C F' az S' s'->c.V F' az v r->Kf v S'->Q r s'
  | some u=>∀F' az v S' r s' L,Step C.own F bs s.heap F' az s'.heap->St c C F' az S' s'->c.V F' az v r->Kf v S'->s.heap.get? L=none->cJ c C F' az L->(∃m,s'.heap.Ns L m)->(∃o,s'.heap.get? L=some o/\o.cls≠.none) ->
   wpAny (model c.prog c.w) A (u r) (λzz oG=>∃m,oG.heap.Ns L m/\∀h',Heap.SameBut L oG.heap h'->Q .none {oG with heap:=h'}) (WX c C F bs s.heap X) s')
 (hs:∀x,foldedSetIterable iter C.env x=pure x:=by intro _;rfl) :
 wpAny (model c.prog c.w) A (comprehension (k.expr target iter ifs scope pos) scope C.env J6 k.new false (eval iter C.env) use) Q (WX c C F bs s.heap X) s:=by
 refine e0a5 (gQ fw) λk1 zz zz zz zz k6=>?_;refine wpAny_comprehension_free (g:=⟨target,iter,ifs,0⟩) (gs:=[]) (by clear h hm;cases k <;> rfl) hs (lh na fw z iE).1 k1 k6 ?_;refine aJ (h A F bs s hA z) (λxv eG sW=>aJ sW (λJ7 Z ⟨F₁,bs₁,ac,it,items,live,wr,Ps,e,st,ap,W,ut,hn,hf,hl,po,body⟩=>?_) λzz zz e=>e) λzz zz e=>e;refine rE e ?_;refine CompK.G7 ?_;generalize hD:Z.heap.objs.size=D;generalize bG:({Z with heap:=Z.heap.push k.obj₀}:Shared)=am;have nD:Z.heap.get? D=none:=gp (by refine rE hD ?_;exact aZ _);have m₂:ba c F₁ bs₁ Z am:=by simp only [<-bG];exact ⟨λb o e=>cI _ e,rfl,rfl⟩
 have iF:am.heap.get? D=some k.obj₀:=by refine bG▸hD▸?_;exact dw _ (by clear bG body sW h;cases k <;> rfl)
 obtain aG:=ap.keep m₂;refine lG ?_;refine e2a0 ((lh na fw aG po).2 _ rfl) λenv own Am=>?_;refine e0a6 Am λAU aR ku AW eL be TB=>?_;clear Am;refine rE AU ?_;obtain ⟨I,i0,iL,turn,fin⟩:=body env own be;generalize kf:({am with heap:=pushCells (am.heap.push {cls:=.type "dict",data:=.dict #[]}) scope.names}:Shared)=aM at aR ku TB;have n₁:∀b,am.heap.get? b=none->Z.heap.get? b=none:=λb e=>by
  cases q:Z.heap.get? b with
  | none=>rfl
  | some o=>exact iY (aF (af (m₂.keep _ _ q)) e)
 obtain fF:∀b∈own,Z.heap.get? b=none:=λb hb=>n₁ b (AW b hb);have back:∀b,Z.heap.get? b=none->s.heap.get? b=none:=λb e=>by
  cases q:s.heap.get? b with
  | none=>rfl
  | some o=>refine e1a0 (st.mono _ _ q) λo' e'=>?_;exact bx (aF (af e) e')
 have TC:D∉own:=λq=>bx (aF (af (AW D q)) iF);obtain G2:D∉wr:=λq=>by refine e1a1 (hf.at_ D q) λo e zz=>?_;exact bx (aF (af nD) e)
 obtain v3:∀b o,Z.heap.get? b=some o->cJ c C F₁ bs₁ b->cJ c (qH scope sc env own C.frames C.handled C.n vars) F₁ bs₁ b:=λb o e f=>by
  refine ⟨f.F,f.bs,(λq=>bx (aF (af (fF b q)) e)),λx q=>?_,f.frames⟩;have q':env.cells.lookup x=some b:=q;rw [<-AU] at q';have yE:(cellsFrom (am.heap.objs.size+1) scope.names (ij C scope)).lookup x=some b:=q';rw [cM,List.lookup_append] at yE;cases hc:(cellsFrom (am.heap.objs.size+1) scope.names []).lookup x with
  | some b' =>replace yE:=hc▸yE;cases yE;obtain ok:=cellsFrom_ok scope.names (am.heap.push {cls:=.type "dict",data:=.dict #[]}) (am.heap.objs.size+1) [] ⟨λzz zz hm=>(nomatch hm),List.Pairwise.nil⟩ (by simp only [iA];exact aZ _);rw [iA] at ok;obtain h1:=(ok.empty x b (mem_of_lookup hc)).2;obtain h2:=Heap.lt_size (m₂.keep _ _ e);exact absurd h2 (Nat.not_lt.mpr (Nat.le_of_succ_le h1))
  | none =>
    rw [hc] at yE;have q3:(ij C scope).lookup x=some b:=yE
    (refine bh (ie _ scope.names [] (x,b) (mem_of_lookup q3)) (λw=>?_) (λzw=>?_);rotate_left;refine e0a1 zw λw1 w2=>?_;rotate_right)
    . exact nomatch w
    . refine e0a5 (gQ fw) λzz zz zz k4 k5 zz=>?_;refine e1a1 (fy (k5 x w2)) λp hp TD=>?_;refine e0a1 (po.mem p hp) λe1 e2=>?_;refine e1a1 ap.locs λm hN zE=>?_;obtain ⟨a',o',r',ea,_⟩:=(zE _ _ e2).cellAt e1 (by delta Env.kindOf;rw [na];exact (k4 p.2.1 (eK (ae p hp rfl))).2.1);have G9:b=(C.env.cells.lookup x).getD 0:=w1;rw [TD] at ea;rw [ea] at G9;exact f.cells x (by rw [ea,G9];rfl)
 obtain AX:bR c (qH scope sc env own C.frames C.handled C.n vars) F₁ bs₁ wr aM.heap:=⟨λb hb=>by refine e1a1 (hf.at_ b hb) λo e zz=>?_;exact v3 b o e (hf.free b hb),λb hb=>by refine e1a1 (hf.at_ b hb) λo e q=>?_;exact (ae o (ku.keep _ _ (m₂.keep _ _ e)) q)⟩
 obtain lI:cJ c C F₁ bs₁ D:=ap.ez nD;obtain AT:cJ c (qH scope sc env own C.frames C.handled C.n vars) F₁ bs₁ D:=by refine ⟨lI.F,lI.bs,TC,λx q=>?_,lI.frames⟩;obtain ⟨_,_,o,e,hc,_⟩:=aR.cells x D q;obtain rfl:=aX (aF (af (ku.keep _ _ iF)) e);clear e fin turn iL i0 I iF bG body sW h;cases k <;> simp [CompK.obj₀,aY,bj] at hc
 have uF:Ps 0 F₁ bs₁ aM:=by
  obtain DI:ba c F₁ bs₁ Z aM:=⟨λb o e=>ku.keep _ _ (m₂.keep _ _ e),ku.os.trans m₂.os,ku.gens.trans m₂.gens⟩
  exact W.uv (own:=[]) ut hf (λzz zz q=>by cases q) ap (Step.keep DI) ((ap.keep m₂).keep ku)
 obtain IT:i7 (qH scope sc env own C.frames C.handled C.n vars) A:=⟨hA.handled,hA.depth,hA.units,hA.frames⟩
 have loop:=yC (C:=qH scope sc env own C.frames C.handled C.n vars) (pos:=pos) (iter:=iter) (scope:=scope) (F₁:=F₁) (bs₁:=bs₁) (h₁:=Z.heap) hh W I iL turn IT i0 aR AX uF (ku.keep _ _ iF) (CompK.G8 hm ap nD) AT G2 (fS.xq (c:=c) ⟨λb o e=>ku.keep _ _ (m₂.keep _ _ e),ku.os.trans m₂.os,ku.gens.trans m₂.gens⟩);obtain AY:({env with scope:=relabel scope C.env}:Env)=(qH scope sc env own C.frames C.handled C.n vars).env:=by rw [pR,na]
 refine rE AY ?_;have ot:env.locals∈own:=by obtain this:=aR.cm;exact this
 have post:∀r s',AR c (qH scope sc env own C.frames C.handled C.n vars) k D (wr++D::own) F₁ bs₁ Z.heap (I items.length) r s' ->
  compPost (model c.prog c.w) A (WX c C F bs s.heap X) use Q (.ref D) env.locals r s':=by
  intro r s' o1;obtain ⟨TF,F',az,S',acc,ob,mo,z',X5,v2,bi,hI⟩:=o1;refine rE TF ?_;obtain TG:∀b∈wr++D::own,s.heap.get? b=none:=λb hb=>by
   (refine bh (bX hb) (λq=>?_) (λq=>?_))
   . exact hn b q
   . (refine bh (er q) (λzv=>?_) (λq=>?_);refine rE zv ?_)
     . exact back _ nD
     . exact back b (fF b q)
  obtain hW:∀b∈wr++D::own,Z.heap.get? b=none\/cJ c C F₁ bs₁ b:=λb hb=>by
   (refine bh (bX hb) (λq=>?_) (λq=>?_))
   . exact .inr (hf.free b q)
   . (refine bh (er q) (λzu=>?_) (λq=>?_);refine rE zu ?_)
     . exact .inl nD
     . exact .inl (fF b q)
  obtain gO:∀b,Z.heap.get? b=none->c.h₀.get? b=none:=λb e=>by
   cases q:c.h₀.get? b with
   | none=>rfl
   | some o=>refine e1a0 (ap.wd.old.there _ _ q) λo' e'=>?_;exact bx (aF (af e) e')
  have outer:∀oG,dB [env.locals] s' oG->(∀b∈[env.locals],True)->Step C.own F bs s.heap F' az oG.heap/\St c C F' az {ac with heap:=S'.heap} oG/\oG.heap.get? D=some ob:=λoG t zz=>by
   obtain w'':=z'.wd.others t λb hb=>by refine rE (bD hb) ?_;exact (aH ((z'.own _ ot).1) ((z'.own _ ot).2.1) (gO _ (fF _ ot)))
   obtain sv:=mo.others t λb hb=>by simp only [bD hb];exact eo (.inr (.tail _ ot))
   exact (aH (st.Fc sv TG) (ap.AQ sv hW w'') (t.same D (λq=>TC (bD q▸ot)) _ v2))
  obtain J8:cJ c C F' az D:=⟨X5.F,X5.bs,lI.own,lI.cells,lI.frames⟩
  refine e1a1 z'.locs λmL Ha zz=>?_;cases use with
  | none =>refine (ae mL Ha (λh' db=>?_));refine e0a2 (outer {s' with heap:=h'} ⟨λb hb o e=>(db.2 b (by simpa using hb)).trans e,rfl,rfl⟩ λzz zz=>trivial) λo1 o2 o3=>?_;obtain ⟨nK,jp,v,yz,a1,a2,a3,a4,_⟩:=CompK.adopt o2 o1 (back _ nD) J8 o3 bi (fin acc S' hI);exact hQ nK jp v yz _ _ a1 a2 a3 a4
  | some u =>
    refine e0a2 (outer s' ⟨λb zz o e=>e,rfl,rfl⟩ λzz zz=>trivial) λo1 o2 o3=>?_;obtain ⟨nK,jp,v,yz,a1,a2,a3,a4,a5⟩:=CompK.adopt o2 o1 (back _ nD) J8 o3 bi (fin acc S' hI);obtain fL:cJ c C F₁ bs₁ env.locals:=ap.ez (fF _ ot);obtain X6:=(z'.own _ ot)
    obtain X7:env.locals≠D:=λq=>TC (q▸ot);refine hQ nK jp v yz _ _ env.locals a1 a2 a3 a4 (back _ (fF _ ot)) ⟨(a5 _ X7).1 X6.1,(a5 _ X7).2 X6.2.1,fL.own,fL.cells,fL.frames⟩ (bQ mL Ha) z'.fV
 obtain xy:=codeAny_mono loop post;cases k with
 | list elt=>exact codeAny_compStart_list xy (W.self (F:=F₁) (bs:=bs₁) _ _ (hA.handled.trans hh) uF xy)
 | dict kx vx=>exact codeAny_compStart_dict xy (W.self (F:=F₁) (bs:=bs₁) _ _ (hA.handled.trans hh) uF xy)
theorem eW {target iter elt:Expr}{ifs:cz}{scope sc:Scope}(vars:a8)(fs:List (Nat×Str×AV))(hh:C.handled=none)(iE:jN C S fs)(fw:dc sc scope (fs.map (·.2.1)) vars=true)
 (h:lD c C target iter S (λitems live ac=>rI c C sc scope vars fs (ko c target elt ifs) items live ac (λacc H=>qQ K acc {ac with heap:=H})) X)
 (na:C.env.scope=sc:=by rfl) (hs:∀x,foldedSetIterable iter C.env x=pure x:=by intro _;rfl):Ev c C (.ListComp elt [⟨target,iter,ifs,0⟩] scope pos) S K X:=by
 intro A F bs s hA z;exact uG (k:=.list elt) (use:=none) fs hh na fw hA trivial z iE K h (λF' az v S' r s' st z' hv k=>⟨F',az,v,S',st,z',hv,k⟩) hs
theorem qU {k:CompK}{K:gw}(fs:List (Nat×Str×AV))(hh:C.handled=none)(na:C.env.scope=sc)(fw:dc sc scope (fs.map (·.2.1)) vars=true)(hA:i7 C A)(hm:k.may c)(z:St c C F bs S s)(iE:jN C S fs)
 (h:lD c C target iter S (λitems live ac=>rI c C sc scope vars fs (k.body c target ifs) items live ac (λacc H=>k.fin (λv aC=>vD c C (.Name y py) v aC (λaO=>K .next aO) X) {ac with heap:=H} acc)) X)
 (hs:∀x,foldedSetIterable iter C.env x=pure x) :
 wpAny (model c.prog c.w) A (comprehension (k.expr target iter ifs scope pos) scope C.env J6 k.new false (eval iter C.env) (some (assign (.Name y py) C.env))) (λzz s'=>∃F' az S',Step C.own F bs s.heap F' az s'.heap/\St c C F' az S' s'/\K .next S') (WX c C F bs s.heap X) s:=by
 refine uG (use:=some (assign (.Name y py) C.env)) fs hh na fw hA hm z iE _ h ?_ hs;intro F' az v S' r s' L st z' hv k hL fL ⟨mL,Ha⟩ ⟨oL,eL,nL⟩;refine aJ (k A F' az s' r hA z' hv) (λzz oG TH=>TH.casesOn λnK jp zz yz nN vQ zz Hb=>?_) (λx oG TI=>TI.casesOn λnK jp cls yz nN vQ hx Hb=>⟨nK,jp,cls,yz,st.trans nN,vQ,hx.back st.mono,Hb⟩);refine e1a1 (nN.dQ L oL eL fL.own fL.bs nL) λzn wP sm=>?_;refine (ae mL ?_ (λh' db=>?_))
 . refine e3a2 Ha λo es ep ho hd q=>?_;obtain rfl:=aX (aF (af eL) ho);exact (eT zn es ep wP (sm.data.trans hd) q)
 . obtain t:Other L oG {oG with heap:=h'}:=⟨λb q o e=>(db.2 b q).trans e,rfl,rfl⟩
   exact (eT nK jp yz ((st.trans nN).other hL t.same) (vQ.free t (fL.step nN eL) wP (by rw [sm.cls];exact nL)) Hb)
theorem dj {target iter elt:Expr}{y:Str}{py:Pos}{ifs:cz}{scope sc:Scope}{AZ:Pos}{K:gw}(vars:a8)(fs:List (Nat×Str×AV))(hh:C.handled=none)(iE:jN C S fs)(fw:dc sc scope (fs.map (·.2.1)) vars=true)
 (h:lD c C target iter S (λitems live ac=>rI c C sc scope vars fs (ko c target elt ifs) items live ac (λacc H=>qQ (λv aC=>vD c C (.Name y py) v aC (λaO=>K .next aO) X) acc {ac with heap:=H})) X)
 (TJ:swapsWith (.ListComp elt [⟨target,iter,ifs,0⟩] scope pos) (some (.Name y py)) AZ.line C.env=pure true:=by rfl)
 (na:C.env.scope=sc:=by rfl) (hs:∀x,foldedSetIterable iter C.env x=pure x:=by intro _;rfl):jK c C (.Assign [.Name y py] (.ListComp elt [⟨target,iter,ifs,0⟩] scope pos) AZ) S K X:=by
 intro A F bs s hA z;refine rE (exec_Assign_Name_used _ _ _ _ TJ) ?_;refine ai (wpAny_standAt (ai ?_));refine ai ?_;exact aJ (qU (k:=.list elt) fs hh na fw hA trivial z iE h hs) (λzz s' QU=>e3a2 QU λF' az S' st z' k=>bo (bo ⟨F',az,.next,S',st,z',rfl,k⟩)) λzz zz e=>e
end
end Mine.Internal
namespace Mine.Internal
open PySem PyProof.Rows PySem.W
structure dU (c:aP)(mg mb:dZ)(K:Frag):Prop extends Base c mg mb where
 uH:K.In c.h₀
 J9:∀a o,K.lookup a=some o->o.cls≠.none
theorem uI (v:Value)(x:Str):v.isStr x=Value.isStrOf x v:=by cases v <;> rfl
section
variable {c:aP}{C:Cx}{S:AS}{F F':G}{bs az:aA}{s s':Shared}{A:Around}{X:cK}{K:cw}{mg mb:dZ}{pos:Pos}{Kf:Frag}{Cl:Addr}
theorem Wd.uH (B:dU c mg mb Kf)(w:Wd c F bs H s):Kf.In s.heap:=λa o e=>w.sub _ _ (w.base _ _ (B.uH a o e) (.inl (B.J9 a o e)))
theorem St.uH (B:dU c mg mb Kf)(z:St c C F bs S s):Kf.In s.heap:=z.wd.uH B
theorem pS (hk:KeysOf (sk c.prog c.w) es):es.toList.any (·.refKey)=false:=by rw [List.any_eq_false];intro e he;refine e1a1 (hk e (by simpa using he)) λk h1 zz=>?_;refine e1a0 (Value.isStrOf_shape h1) λt ht=>?_;simp [DictEntry.refKey,ht]
theorem l4 (hk:KeysOf (sk c.prog c.w) es)(hp:Pairs (sk c.prog c.w) es.toList rs)(x:Str):lookIn x (bj es n)=some (valueAt rs x):=by
 delta lookIn bj;dsimp only;refine (hp.find x)▸(af (show (λe:DictEntry=>(sk c.prog c.w).is x e.key)=λe=>e.key.isStr x from funext λe=>(uI e.key x).symm))▸?_;cases h:es.toList.find? (·.key.isStr x) with
 | some e=>rfl
 | none=>simp only [pS hk];rfl
theorem uJ {name:Str}{Cl:Addr}{cd:ClassData}{es:Array DictEntry}{n:Nat}{rs:Dp}{w:Value}(t3:(findIn Kf (.ref Cl) name==some none)=true)(A0:clsIn Kf Cl=some cd)(DJ:cd.hasDict=true)(hk:KeysOf (sk c.prog c.w) es)(hp:Pairs (sk c.prog c.w) es.toList rs)(e2:valueAt rs name=some w):findObj Kf Cl (some (bj es n)) name=some (.value w):=by delta findObj;refine (af A0)▸(af (beq_iff_eq.mp t3))▸?_;simp only [Option.bind_some,W.ownOf,DJ,if_true,l4 hk hp,e2]
theorem uK (hD:nE (sk c.prog c.w) s.heap.get? a rs)
 (hQ:∀h',nE (sk c.prog c.w) h'.get? a (stored rs name v)->Heap.SameBut a s.heap h'->Q () {s with heap:=h',toks:=s.toks+1}):wpAny (model c.prog c.w) A (nsSet a name v) Q E s:=by
 obtain ⟨es,n,ho,hk,hp,hn,qT⟩:=hD;refine ai (ai (wpAny_askSetting (bo ?_)));refine ai (wpAny_mkText ?_);refine ai (wpAny_loadPart (s:={s with toks:=s.toks+1}) ho ?_);have yv:es.any (·.refKey)=false:=by refine Array.any_toList▸?_;exact pS hk
 have hf:aRefKeyMayBeTheName name es=false:=by rw [aRefKeyMayBeTheName_eq];unfold aRefKeyMayBeTheNameByArray;simp [yv]
 dsimp only [bj];refine rE hf ?_;refine wpAny_updatePart (s:={s with toks:=s.toks+1}) ho ?_;obtain X8:(λe:DictEntry=>e.key.isStr name)=λe=>(sk c.prog c.w).is name e.key:=funext λe=>uI e.key name;have A1:(es.findIdx? λe=>(sk c.prog c.w).is name e.key)=rs.findIdx? λkv=>decide (kv.1=name):=by simp only [<-hp.findIdx name];obtain ⟨l⟩:=es;simp
 generalize hh:(if name.cps.isEmpty=true then (0:Int) else reduceHash ((model c.prog c.w).w.params.strHash name.cps))=hs;obtain hhs:hs=(sk c.prog c.w).hash name:=by simp only [<-hh];rfl
 cases hi:es.findIdx? λe=>(sk c.prog c.w).is name e.key with
 | some i =>
   have e:Obj.putName name hs (.str name s.toks) v (bj es n)=bj (es.modify i λe=>{e with val:=v}) n:=by rw [Obj.putName_eq];simp only [Obj.putNameByArray,bj,X8,hi]
   have g:=jS (f:=Obj.putName name hs (.str name s.toks) v) ho (by refine rE e ?_;rfl);replace g:=e▸g;refine hQ _ ⟨_,n,g,hk.modify _ _,?_,?_,qT⟩ (Heap.SameBut.update ..)
   . rw [stored,if_pos (any_of_findIdx_some (A1▸hi))];obtain hl:(es.toList.findIdx? λe=>(sk c.prog c.w).is name e.key)=some i:=by simp only [<-hi];obtain ⟨l⟩:=es;simp
     obtain this:=hp.modify hn hl v;simpa using this
   . rw [stored,if_pos (any_of_findIdx_some (A1▸hi)),keys_map_store];exact hn
 | none =>
   have e:Obj.putName name hs (.str name s.toks) v (bj es n)=bj (es.push ⟨hs,.str name s.toks,v⟩) (n+1):=by rw [Obj.putName_eq];simp only [Obj.putNameByArray,bj,X8,hi]
   have g:=jS (f:=Obj.putName name hs (.str name s.toks) v) ho (by rw [e];rfl);rw [e] at g;have DK:name∉rs.map (·.1):=not_mem_of_findIdx_none (A1▸hi);have yv:¬(rs.any λkv=>decide (kv.1=name))=true:=by rw [List.any_eq_true];(intro o1;refine e1a1 o1 λkv X9 he=>?_);exact DK (eK (ae kv X9 (of_decide_eq_true he)))
   refine hQ _ ⟨_,n+1,g,by rw [hhs];exact hk.push (str_is name _) v,?_,?_,qT⟩ (Heap.SameBut.update ..)
   . rw [stored,if_neg yv];obtain this:=hp.append (str_is (prog:=c.prog) (w:=c.w) name s.toks) hs v;simpa using this
   . rw [stored,if_neg yv,List.map_append,List.nodup_append];refine (aH hn (by simp) ?_);intro a ha b hb;simp only [List.map_cons,List.map_nil,List.mem_singleton] at hb;cases hb;exact λe=>DK (e▸ha)
def fT (S:AS)(k d:Nat)(Cl:Addr)(kvs:fq):Prop:=S.heap[k]?=some (.inst Cl d)/\S.heap[d]?=some (.aN kvs)
inductive Ka (c:aP)(F:G)(bs:aA)(s:Shared)(Cl:Addr)(k d:Nat)(kvs:fq)(r:Value):Prop
 | mk (x dx:Addr) (rs:Dp) (es:Array DictEntry) (n:Nat) (h1:r=.ref x) (h2:bs[k]?=some x) (h3:bs[d]?=some dx) (h4:InstAt s.heap x {cls:=.ref Cl,dict:=some dx,data:=.plain,slots:=#[]} Cl (some (bj es n))) (h5:s.heap.get? dx=some (bj es n)) (h6:KeysOf (sk c.prog c.w) es) (h7:Pairs (sk c.prog c.w) es.toList rs) (h8:c.SV F bs kvs rs) (h9:nE (sk c.prog c.w) s.heap.get? dx rs)
theorem St.inst (z:St c C F bs S s)(h:fT S k d Cl kvs)(hv:c.V F bs (.ref k) r) :
 Ka c F bs s Cl k d kvs r:=by
 refine e1a3 (z.gI hv h.1) λx TK hb DL zz=>?_;refine e1a1 DL λda h1 h2=>?_;clear DL;refine rE TK ?_;refine e0a1 (z.wd.obj d da _ h1 h.2) λA2 zz=>?_;refine e1a1 A2 λrs hD h4=>?_;clear A2;obtain ⟨es,n,h5,h6,h7,_⟩:=id hD;exact ⟨x,da,rs,es,n,rfl,hb,h1,⟨h2,rfl,rfl,h5⟩,h5,h6,h7,h4,hD⟩
noncomputable def iG (Kf:Frag)(Cl:Addr):Bool :=
 findIn Kf (.ref Cl) "__getattribute__"==some (some (.builtin "object.__getattribute__"))&&findIn Kf (.ref Cl) "__getattr__"==some none&&findIn Kf (.ref Cl) "__setattr__"==some (some (.builtin "object.__setattr__"))&&plainOver Kf Cl&&(clsIn Kf Cl).any (·.hasDict)
theorem pT (h:c.V F bs v r)(hr:∀u,v≠.raw u):handedIn r=true:=by
 cases h <;> first | rfl | exact absurd rfl (hr _)
inductive Kb (Cl:Addr)(name:Str)(K:cw)(o:AV)(ac:AS):Prop
 | mk (k d:Nat) (kvs:fq) (v:AV) (h1:o=.ref k) (h2:fT ac k d Cl kvs) (h3:b9 kvs name=some v) (h4:∀u,v≠.raw u) (h5:K v ac)
theorem QV (B:dU c mg mb Kf){value:Expr}{name:Str}(Cl:Addr)(dL:iG Kf Cl=true)(t3:(findIn Kf (.ref Cl) name==some none)=true)
 (h:Ev c C value S (Kb Cl name K) X)
 (ib:attributeBase value name C.env (eval value C.env)=eval value C.env:=by rfl):Ev c C (.Attribute value name pos) S K X:=by
 intro A F bs s hA z;show WP c C A c.V (do
  let o <-attributeBase value name C.env (eval value C.env)
  standAt pos.atName
  let r <-holding [o] (getAttr o name true)
  letTemporaryGo value o r
  pure r) F bs s K X
 refine rE ib ?_;refine WP.bind (h A F bs s hA z) λF₁ bs₁ ac Z o ro al ap ho QW=>QW.casesOn λk d kvs v e hi hg A3 kk=>?_;clear QW;subst e;obtain ⟨x,dx,rs,es,n,TL,_,_,I,_,hk,hp,oq,_⟩:=ap.inst hi ho;refine rE TL ?_;simp only [iG,eZ,beq_iff_eq] at dL;refine e0a1 dL λKc c5=>?_;refine e0a1 Kc λKd c4=>?_;clear Kc;refine e0a1 Kd λA4 c3=>?_;clear Kd;refine e0a1 A4 λc1 c2=>?_;clear A4;refine e1a1 (any_some c5) λcd A0 DJ=>?_
 (refine bh (bE.get name oq) (λTM=>?_) (λTN=>?_);refine e2a2 TM λv' w e1 e2 e3=>?_;rotate_left;refine e0a1 TN λe1 zz=>?_;rotate_right)
 . obtain rfl:=aX (aF (af hg) e1);obtain hf:=uJ (n:=n) t3 A0 DJ hk hp e2;refine WP.standAt (ai (wpAny_holding (get_value (ap.uH B) I c1 hf (pT e3 A3) (ai (wpAny_letTemporaryGo (bo ?_))))));exact ⟨F₁,bs₁,v,ac,.keep (.toks c F₁ bs₁ Z _),ap.keep (.toks ..),e3,kk⟩
 . exact iY (aF (af hg) e1)
noncomputable def storeOk (Kf:Frag)(Cl:Addr)(name:Str):Bool:=iG Kf Cl&&takerIn Kf Cl name==some none
theorem v5 (B:dU c mg mb Kf)(dL:storeOk Kf Cl name=true){K:cR}(z:St c C F bs S s)(hi:fT S k d Cl kvs)(ho:c.V F bs (.ref k) ro)(hv:c.V F bs v r)
 (hsz:kvs.length<=1000) (kk:K {S with heap:=S.heap.set d (.aN (dC kvs name v))}):WP c C A (λ_ _ (_:Unit) (_:Unit)=>True) (setAttr ro name r) F bs s (λzz=>K) X:=by
 obtain ⟨x,dx,rs,es,n,TO,hbk,Hd,I,hdx,hk,hp,oq,hD⟩:=z.inst hi ho;refine rE TO ?_;simp only [storeOk,iG,eZ,beq_iff_eq] at dL;refine e0a1 dL λQX c6=>?_;refine e0a1 QX λKe c5=>?_;clear QX;refine e0a1 Ke λKg c4=>?_;clear Ke;refine e0a1 Kg λGX c3=>?_;clear Kg;obtain ⟨c1,c2⟩:=GX;refine e1a1 (any_some c5) λcd A0 DJ=>?_;have X:=z.uH B;refine set_plain X I c3 ?_;generalize A5:s.toks=tk;generalize fh:({s with toks:=tk+1}:Shared)=Z;obtain m:ba c F bs s Z:=by simp only [<-fh];exact .toks ..
 obtain Kh:Kf.In Z.heap:=by refine fh▸?_;exact X
 obtain Ki:InstAt Z.heap x {cls:=.ref Cl,dict:=some dx,data:=.plain,slots:=#[]} Cl (some (bj es n)):=by refine fh▸?_;exact I
 obtain Kj:nE (sk c.prog c.w) Z.heap.get? dx rs:=by refine fh▸?_;exact hD
 obtain ap:=z.keep m;obtain al:Step C.own F bs s.heap F bs Z.heap:=.keep m;refine osa_open Kh Ki c4 c6 λb=>?_;dsimp only;refine ai (bo (ai (ai (wpAny_loadPart Ki.at_ (ai ((looks_clsIn Kh A0).here ?_))))));refine rE DJ ?_;refine bo (a:=some dx) (ai (bo (ai ?_)));refine uK Kj λh' v2 db=>?_;generalize bG:({Z with heap:=h',toks:=Z.toks+1}:Shared)=am;obtain T:ff dx Z am:=by simp only [<-bG];exact ⟨λb q o e=>(db.2 b q).trans e,(let ⟨_,_,e,_⟩:=v2;(bQ _ e)),rfl,rfl⟩
 obtain aG:=ap.upd (o':=.aN (dC kvs name v)) T Hd hi.2 (by simp) (ae _ (by rw [<-bG];exact v2) (bE.put name oq hv));obtain an:Step C.own F bs s.heap F bs am.heap:=al.trans (.upd T (.inl (bJ Hd)));obtain ⟨Ap,n',tX,_,He,_⟩:=v2;have hlen:Ap.size<=1001:=by obtain e1:=He.length;obtain e2:Ap.toList.length=Ap.size:=rfl;obtain e3:=stored_length_le rs name r;obtain e4:=congrArg List.length (bE.keys oq);simp at e4;exact e2▸e1▸ct e3 (e4▸Nat.succ_le_succ hsz)
 obtain TP:am.heap.get? dx=some (bj Ap n'):=by refine bG▸?_;exact tX
 refine ai (wpAny_lookBehind TP (pastItsLine_dict (by skip;exact ct hlen (Nat.le_add_left 1001 16776216))) ?_);exact bo ⟨F,bs,(),_,an,aG,trivial,kk⟩
noncomputable def fY (Kf:Frag)(Cl:Addr)(name:Str)(f:Addr):Bool:=iG Kf Cl&&findIn Kf (.ref Cl) name==some (some (.ref f))&&typeIn Kf (.ref f)==some (.type "function")&&fnIn Kf f
inductive A6 (c:aP)(C:Cx)(Cl f:Addr)(name:Str)(n:Nat)(pos:Pos)(args:cz)(K:cw)(X:cK)(ov:AV)(ac:AS):Prop
 | mk (k d:Nat) (kvs:fq) (h1:ov=.ref k) (h2:fT ac k d Cl kvs) (h3:b9 kvs name=none) (h4:oR c C pos args ac (xh ov (Ju c n (.ref f) K)) X)
set_option tactic.hygienic true in
theorem cT (B:dU c mg mb Kf){o:Expr}{name:Str}{apos:Pos}{args:cz}{n:Nat}(Cl f:Addr)(dL:fY Kf Cl name f=true)(hh:C.handled=none)(hn:n<=C.n)
 (h:Ev c C o S (A6 c C Cl f name n pos args K X) X)
 (ib:attributeBase o name C.env (eval o C.env)=eval o C.env:=by rfl)
 (pu:methodCallForm (args.length+([]:List Keyword).length) (backTo pos (starEach args C.env)) (backToKw pos (keywordEach [] C.env))=true:=by rfl)
 (hline:(apos.endLine==pos.line)=true:=by rfl)
 (hl:mM (backTo pos (starEach args C.env))=false:=by rfl):Ev c C (.Call (.Attribute o name apos) args [] pos) S K X:=by
 intro A F bs s hA z;simp only [fY,eZ,beq_iff_eq] at dL;refine e0a1 dL λAz c3=>?_;refine e0a1 Az λDM c2=>?_;clear Az;refine e0a1 DM λc0 c1=>?_;clear DM;simp only [iG,eZ,beq_iff_eq] at c0;refine e0a1 c0 λKk g5=>?_;refine e0a1 Kk λDN g4=>?_;clear Kk;refine e0a1 DN λyt g3=>?_;clear DN;refine e0a1 yt λg1 g2=>?_;clear yt;simp only [arm_eval_Call,ib];refine ai (aJ (h A F bs s hA z) (λr Z ⟨F₁,bs₁,ov,ac,al,ap,oB,k,d,kvs,e,hi,t3,k₁⟩=>?_) λ_ _ e=>e);subst e;obtain ⟨x,dx,rs,es,m,rfl,_,_,I,_,hk,hp,oq,_⟩:=ap.inst hi oB;refine ai (wpAny_standAt ?_);obtain yF:methodCallPos true o C.env apos pos=pure pos:=by delta methodCallPos;simp [hline]
 delta methodCall;refine rE pu ?_;obtain hsh:shadowIn (some (bj es m)) name=some false:=by
  show Option.map _ (lookIn name (bj es m))=some false;rw [l4 hk hp]
  (refine bh (bE.get name oq) (λGK=>?_) (λGJ=>?_);obtain ⟨v',w,e1,e2,e3⟩:=GK;rotate_left;obtain ⟨e1,e2⟩:=GJ;rotate_right)
  . exact bx (aF (af t3) e1)
  . refine rE e2 ?_;rfl
 refine ai (wpAny_holding (method_fn (ap.uH B) I g1 g2 c1 c2 hsh ?_));refine ai (wpAny_of_eq yF ?_);obtain Kl:∃oc od fd sl,Kf.lookup f=some ⟨oc,od,.func fd,sl⟩:=by
  delta fnIn at c3
  split at c3
  . rename_i e;exact ⟨_,_,_,_,e⟩
  . exact qK c3
 obtain ⟨oc,od,fd,sl,Kl⟩:=Kl;refine Calls.callWith_function (o:=⟨oc,od,.func fd,sl⟩) (fd:=fd) ?_;refine aJ (gh hA ap k₁ hl) (λa am Km=>Km.casesOn λaT ax vs aC an aG QW=>e0a1 QW λoA bi k₂=>?_) (λx am TQ=>TQ.casesOn λaT ax cls aC an aG hx k₂=>⟨aT,ax,cls,aC,al.trans an,aG,hx.back al.mono,k₂⟩);obtain ⟨ps,kw⟩:=a;have pr:kw=[]:=oA;clear oA Km;refine rE pr ?_;refine ⟨⟨aG.uH B f _ Kl,rfl⟩,?_⟩;obtain zF:=al.trans an;refine aJ (wp_call (X:=X) (s:=am) (rs:=.ref x::ps) hA hh hn aG (.cons (an.V oB) bi) k₂) (λv aM TR=>TR.casesOn λbn aK v' aO aE aR fR bv=>⟨bn,aK,v',aO,zF.trans aE,aR,fR,bv⟩) λx aM TT=>TT.casesOn λbn aK v' aO aE aR fR bv=>⟨bn,aK,v',aO,zF.trans aE,aR,fR.back zF.mono,bv⟩
theorem bC.cls (B:dU c mg mb Kf){K:AV->aI->Prop}(hm:makesIn Kf Cl=true)(hi:(findIn Kf (.ref Cl) "__init__"==some (some (.ref fI))&&typeIn Kf (.ref fI)==some (.type "function"))=true)
 (h:bC c n (.ref fI) (.ref (H.length+1)::args) (H++[.aN [],.inst Cl H.length]) (λv H'=>v=.none/\K (.ref (H.length+1)) H')):bC c (n+1) (.ref Cl) args H K:=by
 intro A F bs s rs fr hh hd hu j7 ms wd hv;simp only [eZ,beq_iff_eq] at hi;have X:=wd.uH B;obtain ⟨hp,g,d,t,os⟩:=s;refine make_core (makes_of X hm) (looks_findIn X hi.1) (λself=>bind_fn X self hi.2) (.inl rfl) ?_;generalize A7:(⟨hp,g,d,t,os⟩:Shared)=eG at wd;have ehp:hp=eG.heap:=by rw [<-A7]
 generalize fh:({eG with heap:=eG.heap.push emptyDict}:Shared)=Z;have m₁:ba c F bs eG Z:=by rw [<-fh];exact ⟨λb o e=>cI _ e,rfl,rfl⟩
 have n₁:eG.heap.get? eG.heap.objs.size=none:=St.ic eG;have Kn:Z.heap.get? eG.heap.objs.size=some (bj #[] 0):=by rw [<-fh];exact dw _ rfl
 have sy:(eG.heap.objs.size==sysModules)=false:=by
  refine e1a0 B.Gs λo e=>?_;refine e1a0 (wd.old.there _ _ e) λo' e'=>?_;have:eG.heap.objs.size≠sysModules:=λq=>by rw [q] at n₁;rw [e'] at n₁;cases n₁
  simpa using this
 have TU:Wd c F (bs++[eG.heap.objs.size]) (H++[.aN []]) Z:=Wd.new (S:=⟨[],H⟩) (o:=.aN []) wd m₁ n₁ Kn (ae [] ⟨#[],0,Kn,λe he=>by simp at he,.nil,List.nodup_nil,sy⟩ (.nil));generalize bG:({Z with heap:=Z.heap.push (instObj Cl eG.heap.objs.size)}:Shared)=am;have m₂:ba c F (bs++[eG.heap.objs.size]) Z am:=by rw [<-bG];exact ⟨λb o e=>cI _ e,rfl,rfl⟩
 have Hf:Z.heap.get? Z.heap.objs.size=none:=St.ic Z;have Ko:am.heap.get? Z.heap.objs.size=some (instObj Cl eG.heap.objs.size):=by rw [<-bG];exact dw _ rfl
 have hlen:bs.length=H.length:=wd.len;have Hg:Wd c F ((bs++[eG.heap.objs.size])++[Z.heap.objs.size]) ((H++[.aN []])++[.inst Cl H.length]) am:=Wd.new (S:=⟨[],H++[.aN []]⟩) (o:=.inst Cl H.length) TU m₂ Hf Ko (ae eG.heap.objs.size (by rw [<-hlen];simp) Ko);have hsz:Z.heap.objs.size=eG.heap.objs.size+1:=by rw [<-fh];exact iA ..
 have keep:∀b o,eG.heap.get? b=some o->am.heap.get? b=some o:=λb o e=>m₂.keep _ _ (m₁.keep _ _ e);have stN:Step [] F bs eG.heap F ((bs++[eG.heap.objs.size])++[Z.heap.objs.size]) am.heap:=(Step.new m₁ n₁).trans (Step.new m₂ Hf);have Yb:c.Vs F ((bs++[eG.heap.objs.size])++[Z.heap.objs.size]) (.ref (H.length+1)::args) (.ref Z.heap.objs.size::rs):=by refine .cons (.ref ?_) (stN.Vs hv);rw [List.append_assoc,<-hlen,gn arith2];simp
 have goal:=h (A.under (.builtin "type.__call__" ⟨.ref Cl::rs,[]⟩)) F _ am (.ref Z.heap.objs.size::rs) fr hh (by show A.depth+1+n < _;exact pn hd) (by show A.units+1+20*n < _;exact zZ hu) j7 (λe he=>?_) (by simpa using Hg) Yb
 . subst A7;have E5:(⟨(hp.push emptyDict).push (instObj Cl hp.objs.size),g,d,t,os⟩:Shared)=am:=by rw [<-bG,<-fh]
   have ex:hp.objs.size+1=Z.heap.objs.size:=by rw [hsz]
   rw [E5,ex];refine codeAny_mono goal λr s' ⟨F',az,v,H',rv,own,e,gM,st,w',mt,ev,kk⟩=>?_;subst e ev;obtain ⟨_,rfl⟩:=mt.inv;have jL:∀b∈own,hp.get? b=none:=λb hb=>by
    cases q:hp.get? b with
    | none=>rfl
    | some o=>have:=keep b o q;exact bx (aF (af (gM b hb)) this)
   refine ⟨rfl,F',az,.ref (H.length+1),H',.ref Z.heap.objs.size,own,rfl,jL,(stN.widen (by simp)).trans st,w',?_,kk⟩;have:=st.Vs (c:=c) Yb;cases this with
   | cons q _=>exact q
 . refine e0a1 (ms e he) λf1 f2=>?_;rw [A7] at f1;refine ⟨f1.keep λb o e zz=>(ae o (keep _ _ e) (.refl o)),λL hL=>⟨(f2 L hL).1,λq=>?_⟩⟩;obtain ⟨_,L',o,q1,q2,_⟩:=f1;obtain rfl:=aX (aF (af hL) q1)
   (refine bh (bX q) (λq=>?_) (λq=>?_))
   . (refine bh (bX q) (λq=>?_) (λq=>?_))
     . exact (f2 L hL).2 q
     . rw [bD q,n₁] at q2;cases q2
   . have:=m₁.keep _ _ q2;rw [bD q,Hf] at this;cases this
theorem mZ (B:dU c mg mb Kf){f:Expr}{args:cz}{n:Nat}(fa:Addr)(hk:keepIn Kf (.ref fa)=true)(hh:C.handled=none)(hn:n<=C.n)
 (h:Ev c C f S (λfv ac=>fv=.raw (.ref fa)/\oR c C pos args ac (λvs aC=>bC c n (.ref fa) vs aC.heap (λv H'=>K v {aC with heap:=H'})) X) X)
 (he:eval (.Call f args [] pos) C.env=(do callWith pos (<-eval f C.env) [] (backTo pos (starEach args C.env)) (backToKw pos (keywordEach [] C.env))):=by rfl)
 (sK:((backTo pos (starEach args C.env)).any (·.1)||([]:List (Option Str×Sem Value)).any (·.1.isNone))=false:=by rfl)
 (hl:mM (backTo pos (starEach args C.env))=false:=by rfl):Ev c C (.Call f args [] pos) S K X:=by
 intro A F bs s hA z;refine (af he)▸?_;refine WP.bind (h A F bs s hA z) λF₁ bs₁ ac Z fv r al ap Av Kp=>e0a1 Kp λe k₁=>?_;clear Kp;subst e;obtain ⟨_,rfl⟩:=Av.inv;refine callWith_of (P:=λh=>Kf.In h) sK (keeps_K hk) ?_;refine aJ (gh hA ap k₁ hl) (λa am Kq=>Kq.casesOn λaT ax vs aC an aG TV=>e0a1 TV λoA bi k₂=>?_) (λzz zz e=>e);obtain ⟨ps,kw⟩:=a;have pr:kw=[]:=oA;clear oA Kq;refine pr▸?_;refine ⟨aG.uH B,?_⟩;refine aJ (wp_call (X:=X) (s:=am) hA hh hn aG bi k₂) (λv aM TX=>TX.casesOn λbn aK v' aO aE aR fR bv=>⟨bn,aK,v',aO,an.trans aE,aR,fR,bv⟩) λx aM TY=>TY.casesOn λbn aK v' aO aE aR fR bv=>⟨bn,aK,v',aO,an.trans aE,aR,fR.back an.mono,bv⟩
theorem pU {fl:Bool}(B:dU c mg mb Kf)(dL:iG Kf Cl=true)(t3:(findIn Kf (.ref Cl) name==some none)=true)(z:St c C F bs S s)(hi:fT S k d Cl kvs)(ho:c.V F bs (.ref k) ro)(hg:b9 kvs name=some v)(A3:∀u,v≠.raw u)(kk:K v S) :
 WP c C A c.V (getAttr ro name fl) F bs s K X:=by
 obtain ⟨x,dx,rs,es,n,Kr,_,_,I,_,hk,hp,oq,_⟩:=z.inst hi ho;refine Kr▸?_;simp only [iG,eZ,beq_iff_eq] at dL;refine e0a1 dL λKs c5=>?_;refine e0a1 Ks λKu c4=>?_;clear Ks;refine e0a1 Ku λKv c3=>?_;clear Ku;refine e0a1 Kv λc1 c2=>?_;clear Kv;refine e1a1 (any_some c5) λcd A0 DJ=>?_
 (refine bh (bE.get name oq) (λTZ=>?_) (λT1=>?_);refine e2a2 TZ λv' w e1 e2 e3=>?_;rotate_left;refine e0a1 T1 λe1 zz=>?_;rotate_right)
 . obtain rfl:=aX (aF (af hg) e1);obtain hf:=uJ (n:=n) t3 A0 DJ hk hp e2;exact get_value (z.uH B) I c1 hf (pT e3 A3) ⟨F,bs,v,S,.keep (.toks c F bs s _),z.keep (.toks ..),e3,kk⟩
 . exact iY (aF (af hg) e1)
end
noncomputable def xA (h:Heap)(a:Addr):Heap:=h.update a λo=>{o with data:=.freed}
theorem v7 (h:Heap)(a:Addr):(xA h a).get? a=none:=by
 cases h with
 | mk objs l =>
   simp only [xA,Heap.update,Heap.get?,Array.getElem?_modify];cases e:objs[a]? with
   | none=>rfl
   | some o=>rfl
theorem A8 (h:Heap)(hb:b≠a):(xA h a).get? b=h.get? b:=Heap.get?_update_ne h b a _ hb
noncomputable def uL (h:Heap):aA->Heap
 | []=>h
 | a::l=>xA (uL h l) a
theorem uM (h:Heap)(l:aA)(b:Addr)(hb:b∈l):(uL h l).get? b=none:=by
 induction l with
 | nil=>exact nomatch hb
 | cons a l ih =>
   dsimp only [uL];by_cases e:b=a
   . refine rE e ?_;exact v7 ..
   . rw [A8 _ e];exact ih ((er hb).resolve_left e)
structure SameBut (wr:aA)(s s':Shared):Prop where
 same:∀b,b∉wr->∀o,s.heap.get? b=some o->∃o',s'.heap.get? b=some o'/\iB o o'
 exact:∀b,b∉wr->∀o,s.heap.get? b=some o->o.cls≠.type "frame"->s'.heap.get? b=some o
 os:s'.os=s.os
 gens:s'.gens=s.gens
section
variable {c:aP}{C:Cx}{S:AS}{F F':G}{bs az:aA}{s s':Shared}{A:Around}{X:cK}{wr fl:aA}
theorem St.aB (z:St c C F bs S s)(f:bR c C F bs wr s.heap)(same:∀b,b∉wr->b∉fl->∀o,s.heap.get? b=some o->s'.heap.get? b=some o)
 (xz:∀b∈fl,F b=none/\b∉bs/\∃o o',s.heap.get? b=some o/\o.cls=.type "frame"/\s'.heap.get? b=some o'/\iB o o') (Hh:s'.os=s.os) (hg:s'.gens=s.gens):St c C F bs S s':=by
 obtain inW:∀b,b∈wr->b∉fl:=λb hb q=>by obtain ⟨_,_,o,_,e,hc,_⟩:=xz b q;refine e1a2 (f.at_ b hb) λo2 e2 zz h3=>?_;obtain rfl:=aX (aF (af e) e2);exact h3 hc
 have any:∀b,b∉wr->∀o,s.heap.get? b=some o->∃o',s'.heap.get? b=some o'/\iB o o':=λb hb o e=>by
  by_cases q:b∈fl
  . obtain ⟨_,_,o2,o',e1,_,e2,sm⟩:=xz b q;refine rE (aX (aF (af e) e1)) ?_;exact (ae o' e2 sm)
  . exact (ae o (same b hb q o e) (.refl o))
 obtain Kw:∀b o,F b=some o->s'.heap.get? b=some o:=λb o e=>same b (λq=>by exact bx (aF (af ((f.free b q).F)) e)) (λq=>by rw [(xz b q).1] at e;cases e) o (z.wd.sub b o e);have Fi:∀b∈bs,∀o,s.heap.get? b=some o->s'.heap.get? b=some o:=λb hb o e=>same b (λq=>(f.free b q).bs hb) (λq=>(xz b q).2.1 hb) o e;obtain gO:∀a∈wr++fl,c.h₀.get? a=none:=λa ha=>by
  (refine bh (bX ha) (λq=>?_) (λq=>?_))
  . refine e1a2 (f.at_ a q) λo h1 h2 zz=>?_;exact z.wd.gO (S:=S) (f.free a q).F (ae o h1 h2)
  . obtain ⟨q1,_,o,_,e,hc,_⟩:=xz a q;exact z.wd.gO (S:=S) q1 (ae o e (by rw [hc];simp))
 obtain old:gD c F s'.heap:=gD.mP (wr:=wr++fl) z.wd.old gO λb hb o e=>same b (λq=>hb (eo (.inl q))) (λq=>hb (eo (.inr q))) o e;obtain hL:C.env.locals∉wr:=λe=>(f.free _ e).own z.cm;refine e1a1 z.locs λmm hN hl=>?_;refine e1a1 z.fV λoL eL nL=>?_;refine e1a1 (any _ hL oL eL) λzn wP sL=>?_;refine ⟨⟨Kw,z.wd.base,old,z.wd.len,z.wd.nodup,λj b ao e1 e2=>⟨(z.wd.obj j b ao e1 e2).1.at λob e=>Fi b (bJ e1) ob e,(z.wd.obj j b ao e1 e2).2⟩,λb m=>(e1a0 (z.wd.there b m) λo e=>(bQ o (Fi b m o e))),Hh.trans z.wd.os,hg.trans z.wd.gens,z.wd.kept⟩,
  (ae mm ?_ (λy v e=>(hl y v e).heap λx b o e1 e2=>?_)),(ae zn wP (by rw [sL.cls];exact nL)),z.cm,λb hb=>?_,λy b e=>?_,z.apart,λe he=>⟨?_,(z.frames e he).2⟩,z.glob,z.blt,z.kind,z.om,z.fo⟩
 . refine e3a2 hN λo es ep ho hd r=>?_;obtain rfl:=aX (aF (af eL) ho);exact (eT zn es ep wP (sL.data.trans hd) r)
 . refine e1a1 (any b (λq=>(f.free b q).cells x e1) o e2) λo' e' sm=>?_;exact (ae o' e' sm.data)
 . obtain ⟨h1,h2,o,h3⟩:=z.own b hb;refine e1a1 (any b (λq=>(f.free b q).own hb) o h3) λo' e' zz=>?_;exact (pC h1 h2 o' e')
 . obtain ⟨h1,h2,o,h3,h4,v,h5⟩:=z.cells y b e;refine e1a1 (any b (λq=>(f.free b q).cells y e) o h3) λo' e' sm=>?_;exact (aH h1 h2 ⟨o',e',sm.cls.trans h4,v,sm.data.trans h5⟩)
 . obtain ⟨hk,L,o,h1,h2,h3,h4⟩:=(z.frames e he).1;refine e1a1 (any L (λq=>(f.free L q).frames e he h1) o h2) λo' e' sm=>?_;exact ⟨hk,L,o',h1,e',sm.cls.trans h3,λvs=>by rw [sm.data];exact h4 vs⟩
def fU (C:Cx):Prop:=∃fr,C.frames=C.env::fr
inductive T2 (c:aP)(C:Cx)(F:G)(bs:aA)(h₀ h:Heap)(e:Addr)(cls:String)(aB:Bool):Prop
 | mk (ob:Obj) (vs:Array Value) (h1:h.get? e=some ob) (h2:ob.cls=.type (fQ cls)) (h3:ob.data=.fields vs) (h4:vs.size=6/\(fQ cls=cls->vs[2]?=some .none)) (h5:cJ c C F bs e) (h6:aB=false->vs[1]?=some .none) (h7:aB=true->Jk c C F bs h₀ h e vs)
structure gJ (c:aP)(C:Cx)(F:G)(bs:aA)(h₀ h:Heap)(e:Addr)(cls:String)(aB:Bool):Prop where
 new:h₀.get? e=none
 at_:T2 c C F bs h₀ h e cls aB
theorem gJ.exc (x:gJ c C F bs h₀ h e cls aB)(hc:fQ cls≠"frame"):ExcAt c C F bs h₀ h (.ref e) cls:=by
 obtain ⟨ob,vs,h1,h2,h3,h4,h5,h6,h7⟩:=x.at_;cases aB with
 | false=>exact ⟨⟨e,ob,vs,rfl,x.new,h1,h2,h3,h4,h5,.inl (h6 rfl)⟩,hc⟩
 | true=>exact ⟨⟨e,ob,vs,rfl,x.new,h1,h2,h3,h4,h5,.inr (h7 rfl)⟩,hc⟩
theorem ExcAt.split (z:ExcAt c C F bs h₀ h x cls):∃e aB,x=.ref e/\fQ cls≠"frame"/\gJ c C F bs h₀ h e cls aB:=by
 obtain ⟨e,ob,vs,Kx,h0,h1,h2,h3,h4,h5,h6⟩:=z.at_;refine rE Kx ?_;rcases h6 with q | q
 . exact (ck e false rfl z.Aj ⟨h0,ob,vs,h1,h2,h3,h4,h5,λzz=>q,λw=>by cases w⟩)
 . exact (ck e true rfl z.Aj ⟨h0,ob,vs,h1,h2,h3,h4,h5,(λw=>by cases w),λzz=>q⟩)
theorem yG:∀(l:List Env),(∀e∈l,gg h e/\∀L,e.frame=some L->base.get? L=none)->h.FunFrames base l:=by
 intro l;induction l with
 | nil =>intro _;exact trivial
 | cons env r ih =>intro hl;refine e0a1 (hl env (.head _)) λo4 hb=>?_;obtain ⟨hk,L,o,h1,h2,h3,h4⟩:=o4;exact (aH hk (dA L o h1 (hb L h1) h2 h4) (ih λe he=>hl e (.tail _ he)))
theorem m6 (hA:i7 C A)(ht:fU C)(fg:Step C.own F₀ bs₀ h₀ F bs s.heap)(z:St c C F bs S s)(x:gJ c C F bs h₀ s.heap e cls aB)(hcn:fQ cls≠"frame")
 (h:∀s',Step C.own F₀ bs₀ h₀ F bs s'.heap->St c C F bs S s'->gJ c C F bs h₀ s'.heap e cls true->Q () s'):wpAny (model c.prog c.w) A (noteFrame (.ref e) C.env) Q E s:=by
 refine e1a0 ht λfr j7=>?_;obtain ⟨_,L,oL,Fj,hL,hLc,hLd⟩:=(z.frames C.env (by rw [j7];exact .head _)).1;cases aB with
 | true =>obtain ⟨ob,vs,h1,h2,h3,h4,h5,h6,h7⟩:=id x.at_;obtain ⟨tb,lf,nw,L',k1,k2,k3,k4,k5,k6,k7,k8,k9,nF⟩:=h7 rfl;obtain rfl:=aX (aF (af Fj) k6);refine wpAny_noteFrame_againW (base:=uL s.heap [tb]) (cls:=.type (fQ cls)) (a0:=vs[0]?.getD .none) Fj ⟨ob,vs,tb,lf,nw,h1,⟨h2,?_⟩,h3,k1,(uM _ _ _ (.head _)),k8,k2,k4,k7⟩ (h s fg z x);rw [Array.getElem?_eq_getElem (show 0 < vs.size by obtain this:=h4.1;exact af this▸dm (Nat.le_add_left (Nat.succ 0).succ 4))];rfl
 | false =>
   obtain ⟨ob,vs,h1,h2,h3,h4,h5,h6,_⟩:=id x.at_;obtain T3:=h6 rfl;obtain hl:s.heap.FunFrames (uL s.heap (C.frames.filterMap (·.frame))) (C.env::fr):=by
    rw [<-j7];refine yG _ λe' xo=>⟨(z.frames e' xo).1,λL' Dl=>uM _ _ _ (List.mem_filterMap.mpr (ae e' xo Dl))⟩
   obtain hAf:A.frames=some (C.env::fr):=by rw [hA.frames,j7]
   unfold noteFrame;simp only [Fj];refine ai (wpAny_field h1 h3 T3 ?_);refine ai (wpAny_frameOf_fun hAf hl Fj λh₁ fh=>?_);refine ai (wpAny_entryPlaceOf λpl sK=>?_);refine ai (wpAny_newObj_type ?_ (sK.sizeOk5 _ _ _ _ _));have xz:∀b∈(C.env::fr).filterMap (·.frame),F b=none/\b∉bs/\∃o,s.heap.get? b=some o/\o.cls=.type "frame"/\∀vs,o.data≠.fields vs:=λb hb=>by rw [<-j7] at hb;refine e1a1 (List.mem_filterMap.mp hb) λe' xo Dl=>?_;refine e0a1 (z.frames e' xo) λo3 q5=>?_;obtain ⟨_,L',o,q1,q2,q3,q4⟩:=o3;have Hi:e'.frame=some b:=Dl;obtain rfl:=aX (aF (af Hi) q1);exact (kS ((q5 b Hi).1) ((q5 b Hi).2) o q2 q3 q4)
   have Ky:e∉(C.env::fr).filterMap (·.frame):=λhm=>by obtain ⟨_,_,o,q1,_,q2⟩:=xz e hm;obtain rfl:=aX (aF (af h1) q1);exact q2 vs h3
   have A9:h₁.get? e=some ob:=(fh.2.1 e Ky).trans h1;generalize s7:h₁.objs.size=T;generalize T4:({cls:=.type "traceback",dict:=none,data:=.fields ([.none,.ref L,.none,rawInt L,.none]++(if pl.isEmpty then List.replicate 6 Value.none else pl)).toArray}:Obj)=oT;have T5:T≠e:=by rw [<-s7];exact dP (Heap.lt_size A9)
   obtain hTn:h₁.get? T=none:=gp (by rw [s7];exact aZ _);have SY:s.heap.get? T=none:=by
    cases q:s.heap.get? T with
    | none=>rfl
    | some o=>refine e1a0 (fh.2.2 T o q) λsl w=>?_;exact bx (aF (af hTn) w)
   obtain Ba:=cI (h:=h₁) oT A9;refine wpAny_setField Ba h3 (by obtain this:=h4.1;exact zO this) ?_;obtain Fk:=Obj.data_mapFields h3 (·.setIfInBounds 1 (Value.ref T));obtain Fl:=jS (Obj.mapFields (·.setIfInBounds 1 (Value.ref T))) Ba (Obj.isFreed_of_fields Fk);have Fn:((h₁.push oT).update e (Obj.mapFields (·.setIfInBounds 1 (Value.ref T)))).get? T=some oT:=by rw [Heap.get?_update_other _ _ (Ne.symm T5),<-s7];exact dw h₁ (by rw [<-T4];rfl)
   have keep:∀b o,b≠e->h₁.get? b=some o->((h₁.push oT).update e (Obj.mapFields (·.setIfInBounds 1 (Value.ref T)))).get? b=some o:=λb o hbe hb=>by rw [Heap.get?_update_other _ _ (Ne.symm hbe)];exact cI _ hb
   generalize db:({s with heap:=(h₁.push oT).update e (Obj.mapFields (·.setIfInBounds 1 (Value.ref T)))}:Shared)=s';obtain xo:s'.heap.get? e=some (Obj.mapFields (·.setIfInBounds 1 (Value.ref T)) ob):=by rw [<-db];exact Fl
   obtain IU:s'.heap.get? T=some oT:=by rw [<-db];exact Fn
   have same:∀b,b∉[e]->b∉(C.env::fr).filterMap (·.frame)->∀o,s.heap.get? b=some o->s'.heap.get? b=some o:=λb hb hbf o hbo=>by rw [<-db];exact keep b o (by simpa using hb) ((fh.2.1 b hbf).trans hbo)
   have Hj:∀b∈(C.env::fr).filterMap (·.frame),F b=none/\b∉bs/\∃o o',s.heap.get? b=some o/\o.cls=.type "frame"/\s'.heap.get? b=some o'/\iB o o':=λb hb=>by obtain ⟨q1,q2,o,q3,q4,q5⟩:=xz b hb;refine e1a0 (fh.2.2 b o q3) λsl w=>?_;refine ⟨q1,q2,o,({o with slots:=sl}),q3,q4,?_,(.inr (eM q4 rfl rfl rfl))⟩;rw [<-db];exact keep b _ (λw=>by clear same xo db keep Fn Fl Ba T5 A9 h5 h1 x h;subst w;exact Ky hb) w
   have fE:bR c C F bs [e] s.heap:=⟨λa ha=>by rw [bD ha];exact h5,λa ha=>by rw [bD ha];exact (a9 ob h1 (by rw [h2];simp) (by rw [h2];simpa using hcn))⟩
   have z':=z.aB (s':=s') (fl:=(C.env::fr).filterMap (·.frame)) fE same Hj (by rw [<-db]) (by rw [<-db]);obtain Kz:h₀.get? T=none:=by
    cases q:h₀.get? T with
    | none=>rfl
    | some o=>refine e1a0 (fg.mono _ _ q) λo' w=>?_;exact bx (aF (af SY) w)
   refine h s' (fg.AE (wr:=[e]) (λa ha=>by rw [bD ha];exact x.new) ⟨λzz zz q=>q,(ae [] (by simp) (by simp)),λb o q=>?_,λb o q n1 n2 zz=>?_,λb o q w=>by rw [q] at w;cases w⟩) z' ⟨x.new,_,_,xo,(Obj.cls_mapFields _ _).trans h2,Fk,⟨by simpa using h4.1,λq=>by rw [Array.getElem?_setIfInBounds_ne (by decide)];exact h4.2 q⟩,h5,(λw=>by cases w),λzz=>⟨T,oT,_,L,by simp [h4.1],IU,by rw [<-T4],by rw [<-T4],?_,Fj,?_,T5,Kz,z.ez SY⟩⟩
   . by_cases w:b∈(C.env::fr).filterMap (·.frame)
     . obtain ⟨_,_,_,o',_,_,e2,_⟩:=Hj b w;exact (bQ o' e2)
     . by_cases w2:b=e
       . refine rE w2 ?_;exact (bQ _ xo)
       . exact (bQ o (same b (by simpa using w2) w o q))
   . by_cases w:b∈(C.env::fr).filterMap (·.frame)
     . obtain ⟨_,_,o1,o',e1,_,e2,sm⟩:=Hj b w;refine rE (aX (aF (af q) e1)) ?_;exact (ae o' e2 sm)
     . exact (ae o (same b (λm=>n1 (eo (.inl m))) w o q) (.refl o))
   . simp only [List.size_toArray,List.length_append,List.length_cons,List.length_nil];exact dm (b8 (Nat.succ 3).succ _)
   . first | (rfl;done) | (rcases sK with rfl | ⟨_,_,_,_,_,_,_,rfl⟩ <;> simp)
theorem xB (fg:Step C.own F₀ bs₀ h₀ F bs s.heap)(z:St c C F bs S s)(x:gJ c C F bs h₀ s.heap e cls true)
 (h:∀s',Step C.own F₀ bs₀ h₀ F bs s'.heap->St c C F bs S s'->gJ c C F bs h₀ s'.heap e cls true->E (.ref e) s'):cameBackBy (model c.prog c.w) A C.env E (.ref e) s:=by
 obtain ⟨ob,vs,h1,h2,h3,h4,h5,h6,h7⟩:=id x.at_;obtain ⟨tb,lf,nw,L,k1,k2,k3,k4,k5,k6,k7,k8,k9,nF⟩:=h7 rfl;refine ai (wpAny_field h1 h3 k1 ?_);refine ai (wpAny_field h1 h3 k1 ?_);rw [if_pos (by simp)];refine rE k6 ?_;refine wpAny_setField k2 k4 k5 ?_;generalize db:({s with heap:=s.heap.update tb (Obj.mapFields (·.setIfInBounds 3 ((some L).elim Value.none λf=>rawInt f)))}:Shared)=s';obtain hs:Heap.SameBut tb s.heap s'.heap:=by refine db▸?_;exact Heap.SameBut.update ..
 obtain t:dB [tb] s s':=⟨λb hb o e=>(hs.2 b (by simpa using hb)).trans e,by rw [<-db],by rw [<-db]⟩
 obtain hd:=Obj.data_mapFields k4 (·.setIfInBounds 3 ((some L).elim Value.none λf=>rawInt f));obtain s7:s'.heap.get? tb=some (Obj.mapFields (·.setIfInBounds 3 ((some L).elim Value.none λf=>rawInt f)) lf):=by refine db▸?_;exact jS _ k2 (Obj.isFreed_of_fields hd)
 obtain z':=z.frees t ⟨λa ha=>by simp only [bD ha];exact nF,λa ha=>by rw [bD ha];exact (a9 _ k2 (by lia) (by lia))⟩;refine h s' (fg.others (λa ha=>by refine rE (bD ha) ?_;exact k9) t.same) z' ⟨x.new,ob,vs,t.same e (by simpa using Ne.symm k8) _ h1,h2,h3,h4,h5,(λw=>by cases w),λzz=>⟨tb,_,_,L,k1,s7,(Obj.cls_mapFields _ _).trans k3,hd,by simpa using k5,k6,by simp [k5],k8,k9,nF⟩⟩
end
section
variable {c:aP}{C:Cx}{S:AS}{F F':G}{bs az:aA}{s s':Shared}{A:Around}{X:cK}{pos:Pos}
theorem St.raised (z:St c C F bs S s)(x:Heap.NewExc s.heap h' e cls)(hu:fQ cls=cls)(hc:cls≠"frame")(hs:s'.heap=h')(ho:s'.os=s.os)(hg:s'.gens=s.gens) :
 Step C.own F bs s.heap F bs s'.heap/\St c C F bs S s'/\ExcAt c C F bs s.heap s'.heap (.ref e) cls:=by
 subst hs;have m:ba c F bs s s':=⟨x.keeps,ho,hg⟩
 refine e2a2 x.there λob t h1 h2 h3=>?_;exact (aH (.keep m) (z.keep m) ⟨⟨e,ob,_,rfl,x.new,h1,by rw [hu];exact h2,h3,⟨rfl,λzz=>rfl⟩,z.ez x.new,.inl rfl⟩,by rw [hu];exact hc⟩)
theorem fj {K:cw}(h:bZ S v xs)(hh:C.handled=none)(h0:(xs.length:Int)<=i)(h1:i < 2 ^ 63)(k:X "IndexError" S):iX c C getItem v (.int i) S K X:=λA F bs s ra rb hA z ha hb=>by refine e1a0 hb.inv λzz o5=>?_;refine rE o5 ?_;refine e2a3 (z.seq h ha) λl vs o4 hL bi zz=>?_;refine rE o4 ?_;refine wpAny_getItem_list_out (hA.handled.trans hh) hL.isList (.inr (by simpa [bi.length] using h0)) (t5 h0) h1 λh' tk e x=>?_;refine e0a2 (z.raised (s':={s with heap:=h',toks:=tk}) x (rfl) (by decide) rfl rfl rfl) λa1 a2 a3=>?_;exact ⟨F,bs,_,S,a1,a2,a3,k⟩
theorem gY (hA:i7 C A)(ht:fU C)(st:Step C.own F₀ bs₀ h₀ F bs s.heap)(z:St c C F bs S s)(hx:ExcAt c C F bs h₀ s.heap x cls)(k:X cls S) :
 notedBy (model c.prog c.w) A C.env (cameBackBy (model c.prog c.w) A C.env (WX c C F₀ bs₀ h₀ X)) x s:=by
 refine e2a2 hx.split λe aB o3 hc hi=>?_;refine rE o3 ?_;refine m6 hA ht st z hi hc λs' mo z' je=>?_;exact xB mo z' je λoG nN vQ T6=>⟨F,bs,cls,S,nN,vQ,T6.exc hc,k⟩
inductive pV (I:vO)(n:Nat)(S:AS):Prop
 | mk (m:Nat) (hm:m < n) (hI:I m S)
@[reducible] def Fo (I:vO) (n:Nat) (K:gw):gw:=λfl S=>match fl with
 | .next=>pV I n S
 | .cont=>pV I n S
 | .brk=>K .next S
 | .ret v=>K (.ret v) S
@[reducible] def Hk (c:aP) (C:Cx) (body:eD) (I:vO) (n:Nat) (K:gw) (X:cK):Bool->cR:=λb S=>match b with
 | true=>Ex c C body S (Fo I n K) X
 | false=>K .next S
@[reducible] def DO (c:aP) (C:Cx) (body orelse:eD) (I:vO) (n:Nat) (K:gw) (X:cK):Bool->cR:=λb S=>match b with
 | true=>Ex c C body S (Fo I n K) X
 | false=>Ex c C orelse S K X
theorem lj {K:gw}(ht:fU C)(I:vO)(n:Nat)(h0:I n S)
 (turn:∀n S',I n S'->xd c C test S' (Hk c C body I n K X) X):jK c C (.While test body [] pos) S K X:=by
 intro A F bs s hA z;refine WP.standAt (wpAny_runOwn ?_);refine codeAny_whileLoop (λn s'=>∃F' az S',Step C.own F bs s.heap F' az s'.heap/\St c C F' az S' s'/\I n S') ?_ n (eT F bs S (.refl ..) z h0);intro n Z o1;refine e3a2 o1 λF₁ bs₁ ac al ap hI=>?_;refine aJ (turn n ac hI A F₁ bs₁ Z hA ap) (λb am KA=>KA.casesOn λaT ax b' aC an aG hb k₂=>?_) (λx am T7=>T7.casesOn λaT ax cls aC an aG hx k₂=>gY hA ht (al.trans an) aG (hx.back al.mono) k₂);clear KA;subst hb;have st:=al.trans an;cases b with
 | false =>exact wpAny_execs_nil ⟨aT,ax,.next,aC,st,aG,rfl,k₂⟩
 | true =>
   skip
   refine aJ (k₂ A aT ax am hA aG) (λf aM Hl=>Hl.casesOn λbn aK fl aO aE aR hf bv=>?_) (λx aM T8=>T8.casesOn λbn aK cls aO aE aR hx bv=>gY hA ht (st.trans aE) aR (hx.back st.mono) bv);cases fl with
   | next=>cases hf;obtain ⟨m,hm,k⟩:=bv;exact (kT m hm bn aK aO (st.trans aE) aR k)
   | cont=>cases hf;obtain ⟨m,hm,k⟩:=bv;exact (kT m hm bn aK aO (st.trans aE) aR k)
   | brk=>clear Hl;subst hf;exact ⟨bn,aK,.next,aO,st.trans aE,aR,rfl,bv⟩
   | ret v=>clear Hl;refine e1a1 hf λr o2 hr=>?_;clear hf;obtain rfl:=o2;exact ⟨bn,aK,.ret v,aO,st.trans aE,aR,(ae r rfl hr),bv⟩
noncomputable abbrev Cx.cf (C:Cx)(x:qN):Cx:={C with handled:=x}
theorem St.cf (z:St c C F bs S s)(x:qN):St c (C.cf x) F bs S s:=⟨z.wd,z.locs,z.fV,z.cm,z.own,z.cells,z.apart,z.frames,z.glob,z.blt,z.kind,z.om,z.fo⟩
theorem St.dW (z:St c (C.cf x) F bs S s):St c C F bs S s:=⟨z.wd,z.locs,z.fV,z.cm,z.own,z.cells,z.apart,z.frames,z.glob,z.blt,z.kind,z.om,z.fo⟩
theorem i7.cf (hA:i7 C A):i7 (C.cf (some x)) (A.mark (some x)):=⟨rfl,hA.depth,hA.units,hA.frames⟩
inductive T9 (c:aP)(C:Cx)(F:G)(bs:aA)(h₀ h:Heap)(e:Addr)(cls:String):Prop
 | mk (ob:Obj) (vs:Array Value) (tb:Addr) (lf:Obj) (nw:Array Value) (h1:h.get? e=some ob) (h2:ob.cls=.type (fQ cls)) (h3:ob.data=.fields vs) (h4:vs.size=6/\(fQ cls=cls->vs[2]?=some .none)) (h5:cJ c C F bs e) (k1:vs[1]?=some (.ref tb)) (k2:h.get? tb=some lf) (k3:lf.cls=.type "traceback") (k4:lf.data=.fields nw) (k5:3 < nw.size) (k8:tb≠e) (k9:h₀.get? tb=none) (nF:cJ c C F bs tb)
structure iH (c:aP)(C:Cx)(F:G)(bs:aA)(h₀ h:Heap)(e:Addr)(cls:String):Prop where
 new:h₀.get? e=none
 at_:T9 c C F bs h₀ h e cls
theorem gJ.held (x:gJ c C F bs h₀ h e cls true):iH c C F bs h₀ h e cls:=by obtain ⟨ob,vs,h1,h2,h3,h4,h5,h6,h7⟩:=x.at_;obtain ⟨tb,lf,nw,L,k1,k2,k3,k4,k5,k6,k7,k8,k9,nF⟩:=h7 rfl;exact ⟨x.new,ob,vs,tb,lf,nw,h1,h2,h3,h4,h5,k1,k2,k3,k4,k5,k8,k9,nF⟩
theorem iH.step (x:iH c C F bs h₀ s.heap e cls)(hc:fQ cls≠"frame")(st:Step C.own F bs s.heap F' az s'.heap):iH c C F' az h₀ s'.heap e cls:=by obtain ⟨ob,vs,tb,lf,nw,h1,h2,h3,h4,h5,k1,k2,k3,k4,k5,k8,k9,nF⟩:=x.at_;refine e1a1 (st.dQ e ob h1 h5.own h5.bs (by rw [h2];simp)) λo1 e1 s1=>?_;rw [s1.pG (by rw [h2];simpa using hc)] at e1;refine e1a1 (st.dQ tb lf k2 nF.own nF.bs (by rw [k3];simp)) λo2 e2 s2=>?_;rw [s2.pG (by lia)] at e2;exact ⟨x.new,ob,vs,tb,lf,nw,e1,h2,h3,h4,h5.step st h1,k1,e2,k3,k4,k5,k8,k9,nF.step st k2⟩
theorem s8 (fg:Step C.own F₀ bs₀ h₀ F bs s.heap)(z:St c C F bs S s)(x:iH c C F bs h₀ s.heap e cls)
 (h:∀s',Step C.own F₀ bs₀ h₀ F bs s'.heap->St c C F bs S s'->iH c C F bs h₀ s'.heap e cls->Q () s'):wpAny (model c.prog c.w) A' (setFlight (.ref e) none) Q E s:=by
 obtain ⟨ob,vs,tb,lf,nw,h1,h2,h3,h4,h5,k1,k2,k3,k4,k5,k8,k9,nF⟩:=x.at_;refine wpAny_setFlight_none h1 h3 k1 k2 k4 k5 ?_;generalize db:({s with heap:=s.heap.update tb (Obj.mapFields (·.setIfInBounds 3 .none))}:Shared)=s';obtain hs:Heap.SameBut tb s.heap s'.heap:=by refine db▸?_;exact Heap.SameBut.update ..
 obtain t:dB [tb] s s':=⟨λb hb o e=>(hs.2 b (by simpa using hb)).trans e,by rw [<-db],by rw [<-db]⟩
 obtain hd:=Obj.data_mapFields k4 (·.setIfInBounds 3 Value.none);obtain s7:s'.heap.get? tb=some (Obj.mapFields (·.setIfInBounds 3 Value.none) lf):=by refine db▸?_;exact jS _ k2 (Obj.isFreed_of_fields hd)
 obtain z':=z.frees t ⟨λa ha=>by simp only [bD ha];exact nF,λa ha=>by rw [bD ha];exact (a9 _ k2 (by lia) (by lia))⟩;exact h s' (fg.others (λa ha=>by rw [bD ha];exact k9) t.same) z' ⟨x.new,ob,vs,tb,_,_,t.same e (by simpa using Ne.symm k8) _ h1,h2,h3,h4,h5,k1,s7,(Obj.cls_mapFields _ _).trans k3,hd,by simpa using k5,k8,k9,nF⟩
theorem s9 {K:gw}(ht:fU C)(T:String)
 (Ua:isSubtype (.type T) (.type "BaseException")=pure true) (Yc:isSubtype (.type ((Manifest.find? T).elim "type" λx=>x.metatype)) (.type "tuple")=pure false) (ls:isSubtype (.type T) (.type T)=pure true)
 (h:Ex c C body S K (λcls ac=>fQ cls=T/\∀e,Ev c (C.cf (some (.ref e))) t ac (λv aC=>v=.raw (.type T)/\Ex c (C.cf (some (.ref e))) (Ub::KB) aC K dT) dT)) :
 jK c C (.Try body [.ExceptHandler (some t) none (Ub::KB) yF] [] [] pos) S K X:=by
 intro A F bs s hA z;refine wpAny_Try_except (aJ (h A F bs s hA z) (λf Z KC=>KC.el λF₁ bs₁ fl ac al ap hf k₁=>?_) (λx Z ⟨F₁,bs₁,cls,ac,al,ap,hx,Uc,k₁⟩=>?_))
 . cases fl with
   | next=>refine rE hf ?_;exact wpAny_execs_nil ⟨F₁,bs₁,.next,ac,al,ap,rfl,k₁⟩
   | brk=>subst hf;exact ⟨F₁,bs₁,.brk,ac,al,ap,rfl,k₁⟩
   | cont=>subst hf;exact ⟨F₁,bs₁,.cont,ac,al,ap,rfl,k₁⟩
   | ret v=>clear KC;refine e1a1 hf λr o4 hr=>?_;clear hf;refine rE o4 ?_;exact ⟨F₁,bs₁,.ret v,ac,al,ap,(ae r rfl hr),k₁⟩
 . refine e2a2 hx.split λe aB o3 hc hi=>?_;refine rE o3 ?_;refine m6 hA ht al ap hi hc λam an aG Bb=>?_;refine s8 an aG Bb.held λaM aE aR KD=>?_;refine wpAny_handleBy_builtin (b:=true) Ua Yc ls ?_;refine aJ (k₁ e (A.mark (some (.ref e))) F₁ bs₁ aM hA.cf (aR.cf _)) (λv cr ⟨d7,ce,u,di,ca,cW,hu,eu,gP⟩=>?_) λzz zz Ud=>Ud.casesOn λzz zz zz zz zz zz zz q=>q.elim;subst eu;obtain ⟨_,rfl⟩:=hu.inv;have rL:=KD.step hc ca;refine (aH rfl ?_ ?_)
   . obtain ⟨ob,_,_,_,_,q1,q2,_⟩:=rL.at_;exact (ae ob q1 (by rw [q2,Uc]))
   refine s8 (aE.trans ca) cW.dW rL λeF dl fc zz=>?_;refine aJ (gP (A.mark (some (.ref e))) d7 ce eF hA.cf (fc.cf _)) (λf s4 Ue=>Ue.casesOn λUf KG fl Ug Bc yD hf Uh=>⟨Uf,KG,fl,Ug,dl.trans Bc,yD.dW,hf,Uh⟩) λzz zz Ui=>Ui.casesOn λzz zz zz zz zz zz zz q=>q.elim
end
structure pW (g:Addr)(h h':Heap)(e:Addr)(cls:String):Prop where
 keeps:∀b o,h.get? b=some o->h'.get? b=some o
 new:h.get? e=none
 there:∃ob t,h'.get? e=some ob/\ob.cls=.type cls/\ob.data=.fields #[t,.none,.ref g,.none,.bool false,.none]
theorem qV:entryFor table "proto.unchain"=some Builtin.«proto.unchain»:=entryFor_of_fast (by kernel_rfl)
section
variable {prog:Program}{w:World}{A:Around}{E:vP}{s:Shared}{α:Type}
theorem pX (hh:A.handled=some (.ref g))(co:g≠e)
 (hg:s.heap.get? g=some og) (CU:og.data=.fields vg) (CV:vg[2]?=some .none)
 (he:s.heap.get? e=some oe) (hed:oe.data=.fields ve) (QY:2 < ve.size)
 (h:E (.ref e) {s with heap:=s.heap.update e (Obj.mapFields (·.setIfInBounds 2 (.ref g)))}):wpAny (model prog w) A (raiseNew (.ref e):Sem α) Q E s:=by
 refine ai (wpAny_handled ?_);refine rE hh ?_;have hb:(Value.ref g != Value.ref e)=true:=by simpa using co
 simp only [hb,if_true];refine ai (wpAny_holding (wpAny_runValue (codeAny_builtin qV ?_)));refine ai (wpAny_field hg CU CV ?_);refine ai (bo ?_);refine bo ?_;refine ai (ai (wpAny_load he ?_));refine rE hed ?_;simp only [QY,if_true];exact wpAny_update he (wpAny_throw h)
theorem ta (hp:PlainExc cls)(hh:A.handled=some (.ref g))
 (hg:s.heap.get? g=some og) (CU:og.data=.fields vg) (CV:vg[2]?=some .none)
 (h:∀h' e,pW g s.heap h' e cls->E (.ref e) {s with heap:=h'}):wpAny (model prog w) A (newExc (.type cls) [arg] >>= λx=>(raiseNew x:Sem α)) Q E s:=by
 refine ai (ai (wpAny_newObj_type ?_));refine ai (m:=firstArgMember _ _) (wpAny_of_eq (a:=Value.none) (by simp only [firstArgMember,hp.first];rfl) ?_);rw [hp.own];refine wpAny_newObj_type ?_;obtain hl:g < s.heap.objs.size:=Heap.lt_size hg;refine pX hh ?_ (cI _ (cI _ hg)) CU CV (dw _ rfl) rfl (by simp) ?_
 . refine cA ?_;simp only [iA];exact Nat.lt_succ_of_lt hl
 . refine h _ _ ⟨λb o hb=>?_,gp (by simp),?_⟩
   . rw [Heap.get?_update_ne]
     . exact cI _ (cI _ hb)
     . refine cA ?_;simp only [iA];exact Nat.lt_succ_of_lt (Heap.lt_size hb)
   . refine (ck _ (.ref s.heap.objs.size) (jS _ (dw _ rfl) (Obj.isFreed_of_fields (Obj.data_mapFields rfl _))) rfl ?_);rfl
theorem eB (hp:PlainExc cls)(hh:A.handled=some (.ref g))
 (hg:s.heap.get? g=some og) (CU:og.data=.fields vg) (CV:vg[2]?=some .none)
 (h:∀h' tk e,pW g s.heap h' e cls->E (.ref e) {s with heap:=h',toks:=tk}):wpAny (model prog w) A (raiseErrorWords cls msg:Sem α) Q E s:=by
 exact ai (wpAny_mkText (ta (s:={s with toks:=_}) hp hh hg CU CV λh' e x=>h h' _ e x))
theorem m7 (hh:A.handled=some (.ref g))
 (hg:s.heap.get? g=some og) (CU:og.data=.fields vg) (CV:vg[2]?=some .none) (hl:s.heap.IsList l items)
 (Be:(items.size:Int)<=k) (QZ:k < 2 ^ 63)
 (hE:∀h' tk e,pW g s.heap h' e "IndexError"->E (.ref e) {s with heap:=h',toks:=tk}) :
 wpAny (model prog w) A (getItem (.ref l) (.int k t)) Q E s:=by
 obtain ⟨o,ho,hc,ne,hd⟩:=id hl;unfold getItem
 try with_reducible refine wpAny_holding ?_
 first | refine ai (bo ?_) | skip
 refine ai (wpAny_sequenceKey hl.typeIs (rfl) ?_);refine ai (wpAny_callSpecial?_slot (name:=Str.ofString "__getitem__") hl.typeIs slot_list_getitem
  (wpAny_call_entry slot_list_getitem hl.typeIs entry_list_getitem ?_ (args_list_getitem _ _)))
 show wpAny _ _ (Builtin.List.listSubscript? (.int k t) >>= _) _ _ s;refine ai (wpAny_listSubscript_int (fitsIndex_both (t5 Be) QZ) ?_);clear QZ;obtain ⟨j,rfl⟩:∃j:Nat,k=Int.ofNat j:=(bQ k.toNat (by simp only [Int.ofNat_eq_natCast];exact (Int.toNat_of_nonneg (Int.le_trans (Int.natCast_nonneg _) Be)).symm))
 obtain hx:items[j]?=none:=Array.getElem?_eq_none (by have:(items.size:Int)<=(j:Int):=Be;exact Int.ofNat_le.mp this);refine ai (ai (wpAny_seqItemAt ho hd (bo ?_)));rw [hx]
 first
  | exact ai (wpAny_rule (eB plainExc_IndexError hh hg CU CV hE))
  | exact ai (wpAny_rule (ai (eB plainExc_IndexError hh hg CU CV hE)))
  | exact ai (ai (wpAny_rule (eB plainExc_IndexError hh hg CU CV hE)))
  | exact wpAny_rule (eB plainExc_IndexError hh hg CU CV hE)
end
section
variable {c:aP}{C:Cx}{S:AS}{F F':G}{bs az:aA}{s s':Shared}{A:Around}{X:cK}{pos:Pos}
theorem cJ.dW (f:cJ c (C.cf y) F bs a):cJ c C F bs a:=⟨f.F,f.bs,f.own,f.cells,f.frames⟩
theorem cJ.cf (f:cJ c C F bs a):cJ c (C.cf y) F bs a:=⟨f.F,f.bs,f.own,f.cells,f.frames⟩
theorem ExcAt.dW (z:ExcAt c (C.cf y) F bs h₀ h x cls):ExcAt c C F bs h₀ h x cls:=by obtain ⟨a,ob,vs,h1,h0,h2,h3,h4,h5,h6,h7⟩:=z.at_;refine ⟨⟨a,ob,vs,h1,h0,h2,h3,h4,h5,h6.dW,h7.imp id ?_⟩,z.Aj⟩;intro o1;obtain ⟨tb,lf,nw,L,k1,k2,k3,k4,k5,k6,k7,k8,k9,nF⟩:=o1;exact ⟨tb,lf,nw,L,k1,k2,k3,k4,k5,k6,k7,k8,k9,nF.dW⟩
theorem gJ.dW (z:gJ c (C.cf y) F bs h₀ h e cls n):gJ c C F bs h₀ h e cls n:=by obtain ⟨ob,vs,h1,h2,h3,h4,h5,h6,h7⟩:=z.at_;refine ⟨z.new,ob,vs,h1,h2,h3,h4,h5.dW,h6,λq=>?_⟩;obtain ⟨tb,lf,nw,L,k1,k2,k3,k4,k5,k6,k7,k8,k9,nF⟩:=h7 q;exact ⟨tb,lf,nw,L,k1,k2,k3,k4,k5,k6,k7,k8,k9,nF.dW⟩
theorem gJ.cf (z:gJ c C F bs h₀ h e cls n):gJ c (C.cf y) F bs h₀ h e cls n:=by obtain ⟨ob,vs,h1,h2,h3,h4,h5,h6,h7⟩:=z.at_;refine ⟨z.new,ob,vs,h1,h2,h3,h4,h5.cf,h6,λq=>?_⟩;obtain ⟨tb,lf,nw,L,k1,k2,k3,k4,k5,k6,k7,k8,k9,nF⟩:=h7 q;exact ⟨tb,lf,nw,L,k1,k2,k3,k4,k5,k6,k7,k8,k9,nF.cf⟩
theorem tc {K:cw}{k:Nat}(h:bZ S v xs)(hh:C.handled=some (.ref g))(hk:S.heap[k]?=some (.exc g ob))(h0:(xs.length:Int)<=i)(h1:i < 2 ^ 63)(kx:X "IndexError+" S):iX c C getItem v (.int i) S K X:=λA F bs s ra rb hA z ha hb=>by
 refine e1a0 hb.inv λzz o9=>?_;refine rE o9 ?_;refine e2a3 (z.seq h ha) λl vs o8 hL bi zz=>?_;refine rE o8 ?_;obtain gX:k < bs.length:=by simp only [z.wd.len];exact (bp hk).1
 obtain ⟨ga,hga⟩:∃a,bs[k]?=some a:=(bQ _ (df gX))
 refine e0a1 (z.wd.obj k ga _ hga hk) λrz zz=>?_;obtain ⟨e1,vg,e2,_,_,e3,e4⟩:=rz;clear hk;subst e1;refine m7 (hA.handled.trans hh) e2 e3 e4 hL.isList (by simpa [bi.length] using h0) h1 λh' tk e x=>?_;obtain m:ba c F bs s {s with heap:=h',toks:=tk}:=⟨x.keeps,rfl,rfl⟩
 refine e2a2 x.there λoe t q1 q2 q3=>?_;exact ⟨F,bs,_,S,.keep m,z.keep m,⟨⟨e,oe,_,rfl,x.new,q1,by exact q2,q3,⟨rfl,λq=>by simp [fQ] at q⟩,z.ez x.new,.inl rfl⟩,by decide⟩,kx⟩
theorem DP (ht:fU C)(fg:Step C.own F₀ bs₀ h₀ F bs s.heap)(z:St c C F bs S s)(x:iH c C F bs h₀ s.heap e cls)
 (h:∀s',Step C.own F₀ bs₀ h₀ F bs s'.heap->St c C F bs S s'->gJ c C F bs h₀ s'.heap e cls true->E (.ref e) s'):wpAny (model c.prog c.w) A (PySem.passOn aaa (.ref e) C.env:Sem α) Q E s:=by
 refine e1a0 ht λfr j7=>?_;obtain ⟨_,L,oL,Fj,hL,hLc,hLd⟩:=(z.frames C.env (by refine rE j7 ?_;exact .head _)).1;obtain ⟨ob,vs,tb,lf,nw,h1,h2,h3,h4,h5,k1,k2,k3,k4,k5,k8,k9,nF⟩:=id x.at_;refine ai (wpAny_field h1 h3 k1 ?_);refine ai (ai (wpAny_field h1 h3 k1 ?_));rw [if_pos (by simp)];refine rE Fj ?_;refine wpAny_setField k2 k4 k5 ?_;refine wpAny_throw ?_;generalize db:({s with heap:=s.heap.update tb (Obj.mapFields (·.setIfInBounds 3 ((some L).elim Value.none λf=>rawInt f)))}:Shared)=s';obtain hs:Heap.SameBut tb s.heap s'.heap:=by refine db▸?_;exact Heap.SameBut.update ..
 obtain t:dB [tb] s s':=⟨λb hb o e=>(hs.2 b (by simpa using hb)).trans e,by rw [<-db],by rw [<-db]⟩
 obtain hd:=Obj.data_mapFields k4 (·.setIfInBounds 3 ((some L).elim Value.none λf=>rawInt f));obtain s7:s'.heap.get? tb=some (Obj.mapFields (·.setIfInBounds 3 ((some L).elim Value.none λf=>rawInt f)) lf):=by refine db▸?_;exact jS _ k2 (Obj.isFreed_of_fields hd)
 obtain z':=z.frees t ⟨λa ha=>by simp only [bD ha];exact nF,λa ha=>by rw [bD ha];exact (a9 _ k2 (by lia) (by lia))⟩;refine h s' (fg.others (λa ha=>by refine rE (bD ha) ?_;exact k9) t.same) z' ⟨x.new,ob,vs,t.same e (by simpa using Ne.symm k8) _ h1,h2,h3,h4,h5,(λw=>by cases w),λzz=>⟨tb,_,_,L,k1,s7,(Obj.cls_mapFields _ _).trans k3,hd,by simpa using k5,Fj,by simp [k5],k8,k9,nF⟩⟩
theorem Step.Fp (x:Step own F bs h F' (b1++nb) h')(e:∃n0,b1=bs++n0):Step own F bs h F' b1 h':=by refine e1a0 e λn0 o7=>?_;clear e;obtain rfl:=o7;refine e1a1 x.ext λvB e' hn=>?_;rw [List.append_assoc,List.append_cancel_left_eq] at e';exact ⟨x.sub,(ae n0 rfl (λa ha=>hn a (by rw [<-e'];exact eo (.inl ha)))),x.mono,x.dQ,x.i6⟩
def Cut (n:Nat)(S:AS)(I:cR):Prop:=∃L,AI n S L/\AO.bL n (S.heap.take n)=true/\I ⟨L,S.heap.take n⟩
theorem uN {K:gw}(ht:fU C)
 (h:Ex c C body S (λfl ac=>match fl with | .next=>Ex c C (KH::fs) ac (λg aC=>match g with | .next=>K .next aC | _=>False) X | _=>False)
  (λcls ac=>∀e ob,Ex c (C.cf (some (.ref e))) (KH::fs) {ac with heap:=ac.heap++[.exc e ob]}
   (λg aC=>match g with | .next=>aC.heap[ac.heap.length]?=some (.exc e ob)/\Cut ac.heap.length aC (X cls) | _=>False)
   (λHm aC=>Cut ac.heap.length aC (X Hm))/\fQ cls=cls)) :
 jK c C (.Try body [] [] (KH::fs) pos) S K X:=by
 intro A F bs s hA z;refine wpAny_Try_finally (aJ (h A F bs s hA z) (λf Z KI=>KI.casesOn λF₁ bs₁ fl ac al ap hf k₁=>?_) (λx Z KJ=>KJ.casesOn λF₁ bs₁ cls ac al ap hx k₁=>?_))
 . cases fl with
   | next =>
     clear KI;subst hf;refine wpAny_execs_nil ?_;refine aJ (k₁ A F₁ bs₁ Z hA ap) (λf am KK=>KK.casesOn λaT ax fl aC an aG hf k₂=>?_) (λx am Uj=>Uj.casesOn λaT ax cls aC an aG hx k₂=>gY hA ht (al.trans an) aG (hx.back al.mono) k₂);cases fl with
     | next=>clear KK;subst hf;exact ⟨aT,ax,.next,aC,al.trans an,aG,rfl,k₂⟩
     | brk=>exact k₂.elim
     | cont=>exact k₂.elim
     | ret v=>exact k₂.elim
   | brk=>exact k₁.elim
   | cont=>exact k₁.elim
   | ret v=>exact k₁.elim
 . clear KJ;refine e2a2 hx.split λe aB o6 hc hi=>?_;refine rE o6 ?_;refine m6 hA ht al ap hi hc λam an aG Bb=>?_;refine ⟨by simp [byPass],?_⟩;refine m6 hA ht an aG Bb hc λaM aE aR KL=>?_;refine s8 aE aR KL.held λcr ca cW rL=>?_;obtain ⟨ob,vs,tb,lf,nw,h1,h2,h3,h4,h5,j1,j2,j3,j4,j5,j8,j9,Hn⟩:=id rL.at_;obtain hu:fQ cls=cls:=(k₁ e ob).2;obtain zA:=cW.adopt h5 h1 (o:=.exc e ob) ⟨rfl,vs,h1,(by rw [h2];simp),(by rw [h2];simpa using hc),h3,(h4.2 hu)⟩;obtain hlen:ac.heap.length=bs₁.length:=cW.wd.len.symm;obtain Bf:∃n0,bs₁=bs++n0:=ca.fresh;obtain Uk:Step C.own F bs s.heap F₁ (bs₁++[e]) cr.heap:=Step.adopt ca rL.new;refine aJ ((k₁ e ob).1 (A.mark (some (.ref e))) F₁ (bs₁++[e]) cr hA.cf (zA.cf _)) (λg eF KM=>KM.casesOn λfb dJ fl fu dl fc hf ja=>?_) (λx eF DQ=>DQ.casesOn λfb dJ Hm fu dl fc hx ja=>?_)
   . cases fl with
     | next =>
       clear KM;subst hf;obtain ⟨Yd,L,u1,u2,kx⟩:=ja;rw [hlen] at Yd u1 u2 kx;refine e1a0 dl.fresh λnb o5=>?_;obtain rfl:=o5;obtain rM:=fc.dW;obtain m0:Step C.own F bs s.heap fb (bs₁++[e]++nb) eF.heap:=Uk.trans dl;rw [List.append_assoc] at m0 rM;obtain Ho:(bs₁++([e]++nb))[bs₁.length]?=some e:=by simp
       refine e0a1 (rM.wd.obj _ _ _ Ho Yd) λt0 g2=>?_;obtain ⟨_,vs',g1,_⟩:=t0;obtain Q1:=g2 (by simp);obtain KN:tb∉bs₁++[e]:=λm=>by
        (refine bh (bX m) (λm=>?_) (λm=>?_))
        . exact Hn.bs m
        . exact j8 (bD m)
       refine e1a1 (dl.dQ tb lf j2 Hn.own KN (by rw [j3];simp)) λo2 e2 sm=>?_;rw [sm.pG (by rw [j3];simp)] at e2;obtain tbF:fb tb=none:=by
        cases q:fb tb with
        | none=>rfl
        | some o'=>(refine bh (dl.i6 tb o' q Hn.F) (λy=>?_) (λy=>?_))
                   . exact bx (aF (af y) j2)
                   . exact absurd y KN
       obtain KO:iH c C fb bs₁ s.heap eF.heap e cls:=⟨rL.new,ob,vs,tb,lf,nw,g1,h2,h3,h4,⟨Q1,h5.bs,h5.own,h5.cells,h5.frames⟩,j1,e2,j3,j4,j5,j8,j9,⟨tbF,Hn.bs,Hn.own,Hn.cells,Hn.frames⟩⟩
       obtain zT:=rM.trim (loc:=L) ⟨u1.at,AO.pL u2⟩;refine DP ht (m0.Fp Bf) zT KO λs' mo z' je=>?_;exact ⟨fb,bs₁,cls,_,mo,z',je.exc hc,kx⟩
     | brk=>exact ja.elim
     | cont=>exact ja.elim
     | ret v=>exact ja.elim
   . refine e1a2 ja λL u1 u2 kx=>?_;rw [hlen] at u1 u2 kx;refine e1a0 dl.fresh λnb o4=>?_;obtain rfl:=o4;obtain rM:=fc.dW;obtain m0:Step C.own F bs s.heap fb (bs₁++[e]++nb) eF.heap:=Uk.trans dl;obtain oo:=hx.dW.back Uk.mono;rw [List.append_assoc] at m0 rM oo;obtain zT:=rM.trim (loc:=L) ⟨u1.at,AO.pL u2⟩;obtain Ul:=oo.trim;clear oo DQ;refine e2a2 Ul.split λe' Um o3 xC je=>?_;refine rE o3 ?_;refine m6 (C:=C.cf (some (.ref e))) hA.cf ht (m0.Fp Bf) (zT.cf (some (.ref e))) je.cf xC λs4 Bc yD KP=>?_;exact xB Bc yD.dW KP.dW λaab KQ Un KR=>⟨fb,bs₁,Hm,_,KQ,Un,KR.exc xC,kx⟩
theorem bV {st:eD}{K:gw}(L:dI)(hL:aW S L)(h:Ex c C st ⟨L,S.heap⟩ K X):Ex c C st S K X :=
 mO (cG.forget L hL.at) h
theorem oH {t u value:Expr}{K:gw}(h:Ev c C value S (λv ac=>vD c C t v ac (λaC=>vD c C u v aC (λaO=>K .next aO) X) X) X)
 (hw:swappedStores [t,u] value C.env=pure none:=by rfl) (hp:assignEach [t,u] C.env=[(false,assign t C.env),(false,assign u C.env)]:=by rfl):jK c C (.Assign [t,u] value pos) S K X:=by
 intro A F bs s hA z;show WP c C A (mI c) (do
  standAt pos
  if <-swapsWithSole [t,u] value pos.line C.env then do
   evalThenUse value C.env λv=>assignAll v ((assignEach [t,u] C.env).map (·.2))
   pure .next
  else do
   let v <-eval value C.env
   assignStores C.env v (<-swappedStores [t,u] value C.env) ((assignEach [t,u] C.env).map (·.2))) F bs s K X
 refine (af (show swapsWithSole [t,u] value pos.line C.env=pure false from rfl))▸(af hw)▸(af hp)▸?_;refine WP.standAt ?_;refine WP.bind (R:=λ_ _ (_:Unit) b=>b=false) (K₁:=λzz S'=>S'=S) (WP.pure (v:=()) z rfl rfl) λF₁ bs₁ ac Z zz b al ap hb sw=>?_;clear z;subst hb sw;refine WP.bind (h A F₁ bs₁ Z hA ap) λaT ax aC am v r an aG hv k₂=>?_;refine WP.bind (R:=λ_ _ (_:Unit) b=>b=none) (K₁:=λzz S'=>S'=aC) (WP.pure (v:=()) aG rfl rfl) λbn aK aO aM zz b aE aR hb nH=>?_;clear aG;subst hb nH;refine WP.bind (R:=λ_ _ (_:Unit) (_:Unit)=>True) (K₁:=λzz S'=>K .next S') ?_ λd7 ce di cr zz zz ca cW zz gP=>WP.pure (v:=vC.next) cW rfl gP;refine WP.bind (WP.holding (k₂ A bn aK aM r hA aR (aE.V hv))) λd7 ce di cr zz zz ca cW zz gP=>?_;exact gP A d7 ce cr r hA cW (ca.V (aE.V hv))
theorem Hp {K:cw}(k:K (.bool (b.cps.toList < a.cps.toList)) S):iX c C (compareOp .Gt) (.str a) (.str b) S K X:=λA F bs s ra rb hA z ha hb=>by refine e1a0 ha.inv λzz o5=>?_;refine rE o5 ?_;refine e1a0 hb.inv λzz o4=>?_;refine rE o4 ?_;exact WP.kept z λQ E q=>PySem.P.gt_str (q _ _ (.refl ..) (ae _ (.bool _) k))
theorem ky {nx ni ne:Str}{q1 q2 q3 q4 q5 q6 q7 q8 q9:Pos}{kd:Nat}{K:gw}(kx ki ke:Nat){xv:AV}{l:a8}{x:Str}(L:Nat->dI){H:aI}(ht:fU C)
 (hx:C.vars[kx]?=some nx) (hi:C.vars[ki]?=some ni) (he:C.vars[ke]?=some ne) (be:aV C (λzz=>none) ni)
 (lX:bZ ⟨[],H⟩ xv (l.map .str)) (hlx:∀i,(L i).lookup kx=some xv) (QS:∀i,(L i).lookup ki=some (.int i)) (hle:∀i,(L i).lookup ke=some (.str x)) (hup:∀i,a7 (L i) ki (.int ((i:Nat)+1))=L (i+1))
 (i:Nat) (hS:S=⟨L i,H⟩) (hil:i<=l.length) (hlen:l.length < 2 ^ 62)
 (Be:∀(K':cw),(l.drop i).dropWhile (·==x)=[]->iX c C getItem xv (.int l.length) ⟨L l.length,H⟩ K' X)
 (KS:∀j,i<=j->j < l.length->l.drop j=(l.drop i).dropWhile (·==x)->K .next ⟨L j,H⟩)
 (d1:(nx==("__debug__":Str))=false:=by decide +kernel) (d2:(nx==("__classdict__":Str))=false:=by decide +kernel)
 (d3:(ni==("__debug__":Str))=false:=by decide +kernel) (d4:(ni==("__classdict__":Str))=false:=by decide +kernel)
 (d5:(ne==("__debug__":Str))=false:=by decide +kernel) (d6:(ne==("__classdict__":Str))=false:=by decide +kernel) :
 jK c C (.While (.Compare (.Subscript (.Name nx q1) (.Name ni q2) q3) [.Eq] [.Name ne q4] q5) [.AugAssign (.Name ni q6) .Add (.Constant (.int 1) kd q7) q8] [] q9) S K X:=by
 subst hS;obtain sq:∀lc,bZ ⟨lc,H⟩ xv (l.map .str):=λlc=>lX;refine lj ht (λn S'=>∃j,S'=⟨L j,H⟩/\i<=j/\j<=l.length/\(l.drop j).dropWhile (·==x)=(l.drop i).dropWhile (·==x)/\n=l.length - j) (l.length - i) ⟨i,rfl,(aZ _),hil,rfl,rfl⟩ ?_;intro n S' o1;refine e1a4 o1 λj o2 h1 h2 h3 o3=>?_;clear o1;obtain rfl:=o2;obtain rfl:=o3;refine aL (bq (aa kx hx (hlx j) (aa ki hi (QS j) ⟨bH (sq _),?_⟩ d3 d4) d1 d2));by_cases hj:j < l.length
 . obtain hy:(l.map AV.str)[((j:Nat):Int).toNat]?=some (.str l[j]):=by simp only [Int.toNat_natCast,cj,df hj];rfl
   refine cD (sq _) vF (Int.ofNat_lt.mpr (mw (dX h2 hlen) rfl)) hy (aa ke he (hle j) (jn (aD ?_)) d5 d6);have hd:l.drop j=l[j]::l.drop (j+1):=List.drop_eq_getElem_cons hj;cases hb:l[j]==x with
   | true =>
     refine ab (eV ki hi (QS j) be (av (gj ?_)) d4);refine aq ⟨l.length - (j+1),Nat.sub_succ_lt_self _ _ hj,j+1,?_,C9 h1,kQ hj,?_,rfl⟩
     . show (⟨a7 (L j) ki _,H⟩:AS)=_;rw [hup]
     . refine h3▸?_;rw [hd,List.dropWhile_cons,hb];rfl
   | false =>refine KS j h1 hj ?_;refine h3▸?_;rw [hd,List.dropWhile_cons,hb];rfl
 . obtain e:j=l.length:=sJ h2 hj;clear hj;subst e;refine Be _ ?_;refine h3▸?_;simp
end
end Mine.Internal
namespace Mine.Internal
open PySem PyProof.Rows
structure kz (W:aA)(F:G)(bs:aA)(h:Heap)(F':G)(az:aA)(h':Heap):Prop where
 sub:∀b o,F b=some o->F' b=some o
 ext:∃nb,az=bs++nb/\∀a∈nb,h.get? a=none
 mono:∀b o,h.get? b=some o->∃o',h'.get? b=some o'
 dQ:∀b o,h.get? b=some o->b∉W->b∉bs->o.cls≠.none->∃o',h'.get? b=some o'/\iB o o'
 i6:∀b o,F' b=some o->F b=none->h.get? b=none\/b∈bs\/b∈W
section
variable {W W' own:aA}{F F₁ aT:G}{bs bs₁ ax:aA}{h h₁ jY:Heap}
theorem Step.toR (x:Step W F bs h F₁ bs₁ h₁):kz W F bs h F₁ bs₁ h₁:=⟨x.sub,x.ext,x.mono,x.dQ,λb o e n=>(x.i6 b o e n).imp id .inl⟩
theorem kz.wide (x:kz W F bs h F₁ bs₁ h₁)(hw:∀a∈W,a∈W'):kz W' F bs h F₁ bs₁ h₁ :=
 ⟨x.sub,x.ext,x.mono,λb o e n=>x.dQ b o e λq=>n (hw b q),λb o e n=>(x.i6 b o e n).imp id λq=>q.imp id (hw b)⟩
theorem kz.trans (x:kz W F bs h F₁ bs₁ h₁)(y:kz W F₁ bs₁ h₁ aT ax jY):kz W F bs h aT ax jY:=by
 refine e1a1 x.ext λnb Uo hn=>?_;obtain rfl:=Uo;refine e1a1 y.ext λvB Up gM=>?_;refine rE Up ?_;have new:∀a,h₁.get? a=none->h.get? a=none:=λa ha=>by
  cases e:h.get? a with
  | none=>rfl
  | some o=>refine e1a0 (x.mono _ _ e) λo' e'=>?_;exact bx (aF (af ha) e')
 have off:∀b o,h.get? b=some o->b∉bs->b∉bs++nb:=λb o e n m=>by
  (refine bh (bX m) (λm=>?_) (λm=>?_))
  . exact n m
  . exact bx (aF (af (hn b m)) e)
 refine ⟨λb o e=>y.sub _ _ (x.sub _ _ e),(ae (nb++vB) (by simp) (λa ha=>(bX ha).elim (hn a) λq=>new a (gM a q))),λb o e=>?_,λb o e n1 n2 n3=>?_,λb o e n=>?_⟩
 . refine e1a0 (x.mono _ _ e) λo' e'=>?_;exact y.mono _ _ e'
 . refine e1a1 (x.dQ b o e n1 n2 n3) λo' e' s1=>?_;refine e1a1 (y.dQ b o' e' n1 (off b o e n2) (by refine rE s1.cls ?_;exact n3)) λDj Ae s2=>?_;exact (ae Dj Ae (s1.trans s2))
 . cases e1:F₁ b with
   | some o1=>exact x.i6 b o1 e1 n
   | none =>
     rcases y.i6 b o e e1 with z | z | z
     . exact .inl (new b z)
     . (refine bh (bX z) (λz=>?_) (λz=>?_))
       . exact .inr (.inl z)
       . exact .inl (hn b z)
     . exact .inr (.inr z)
theorem Step.Fq (x:Step own F bs h F₁ bs₁ h₁)(y:kz W F₁ bs₁ h₁ aT ax jY)(hW:∀a∈W,h.get? a=none):Step own F bs h aT ax jY:=by
 have z:=(x.toR.wide (W':=own++W) λa ha=>eo (.inl ha)).trans (y.wide λa ha=>eo (.inr ha));refine ⟨z.sub,z.ext,z.mono,λb o e n1 n2 n3=>z.dQ b o e (λq=>(bX q).elim n1 λq=>by exact bx (aF (af (hW b q)) e)) n2 n3,λb o e n=>?_⟩;refine e1a1 x.ext λnb Uq hn=>?_;obtain rfl:=Uq;have new:∀a,h₁.get? a=none->h.get? a=none:=λa ha=>by
  cases e:h.get? a with
  | none=>rfl
  | some o=>refine e1a0 (x.mono _ _ e) λo' e'=>?_;exact bx (aF (af ha) e')
 cases e1:F₁ b with
 | some o1=>exact x.i6 b o1 e1 n
 | none =>
   rcases y.i6 b o e e1 with q | q | q
   . exact .inl (new b q)
   . (refine bh (bX q) (λq=>?_) (λq=>?_))
     . exact .inr q
     . exact .inl (hn b q)
   . exact .inl (hW b q)
end
inductive Ur (c:aP)(C:Cx)(F:G)(bs:aA)(h₀:Heap)(K:AV->aI->Prop)(f:Flow)(s':Shared):Prop
 | mk (F':G) (az:aA) (v:AV) (H':aI) (st:kz C.own F bs h₀ F' az s'.heap) (wd:Wd c F' az H' s') (hk:K v H') (e:f=.next/\v=.none\/∃r,f=.ret r/\c.V F' az v r)
def qI (c:aP)(C:Cx)(ss:eD)(S:AS)(K:AV->aI->Prop):Prop :=
 ∀A F bs s,i7 C A->St c C F bs S s->wpAny (model c.prog c.w) A (execs ss C.env) (Ur c C F bs s.heap K) (λzz zz=>False) s
section
variable {c:aP}{C:Cx}{S:AS}{F F':G}{bs az:aA}{s s':Shared}{A:Around}{mg mb:dZ}
theorem Bg {K:AV->aI->Prop}(h:Ex c C ss S (Au K) dT):qI c C ss S K:=λA F bs s hA z =>
 aJ (h A F bs s hA z) (λf s' Us=>Us.casesOn λF' az fl S' st z' hf k=>match fl with
  | .next=>⟨F',az,.none,S'.heap,st.toR,z'.wd,k,.inl ⟨hf,rfl⟩⟩
  | .ret v=>e1a1 hf λr e hr=>⟨F',az,v,S'.heap,st.toR,z'.wd,k,.inr (ae r e hr)⟩
  | .brk=>k.elim
  | .cont=>k.elim) λzz zz Ut=>Ut.casesOn λzz zz zz zz zz zz zz q=>q.elim
@[reducible] def Uu (c:aP) (C:Cx) (rest:eD) (K:AV->aI->Prop):gw:=λfl S=>match fl with | .next=>qI c C rest S K | .ret v=>K v S.heap | _=>False
theorem cZ {st:Stmt}{K:AV->aI->Prop}(h:jK c C st S (Uu c C rest K) dT):qI c C (st::rest) S K:=by
 intro A F bs s hA z;refine ai (aJ (h A F bs s hA z) (λf Z Hq=>Hq.casesOn λF₁ bs₁ fl ac al ap hf k₁=>?_) λzz zz Uv=>Uv.casesOn λzz zz zz zz zz zz zz q=>q.elim);cases fl with
 | next =>clear Hq;subst hf;exact aJ (k₁ A F₁ bs₁ Z hA ap) (λf am Uw=>Uw.casesOn λaT ax v H an Hg k e=>⟨aT,ax,v,H,al.toR.trans an,Hg,k,e⟩) λzz zz q=>q
 | brk=>exact k₁.elim
 | cont=>exact k₁.elim
 | ret v=>clear Hq;refine e1a1 hf λr Ux hr=>?_;clear hf;obtain rfl:=Ux;exact bo ⟨F₁,bs₁,v,ac.heap,al.toR,ap.wd,k₁,.inr (ae r rfl hr)⟩
theorem gZ {st:eD}{K:AV->aI->Prop}(sh:cG c C S S')(h:qI c C st S' K):qI c C st S K:=by intro A F bs s hA z;refine e1a1 (sh F bs s z) λF' al z'=>?_;exact aJ (h A F' bs s hA z') (λr s' Uy=>Uy.casesOn λnK az v H' st w k e=>⟨nK,az,v,H',al.toR.trans st,w,k,e⟩) λzz zz q=>q
set_option tactic.hygienic true in
theorem uO (i:Nat){K:AV->aI->Prop}(hi:C.vars[i]?=some x)(hv:S.loc.lookup i=some v)(hk:C.env.kindOf x=some .cell)
 (h:∀own',(∀a∈own',a∈C.own)->(∀a,C.env.cells.lookup x=some a->a∉own')->(∀y,y≠x->aV C (λ_=>none) y->aV {C with own:=own'} (λ_=>none) y)->qI c {C with own:=own'} ss S K):qI c C ss S K:=by
 intro A F bs s hA z;refine e1a1 z.locs λm hN hl=>?_;obtain ⟨a,ob,r,ha,kU,hd,hr⟩:=(hl i v hv).cellAt hi (.inl hk);obtain ⟨E0,IN,Aq,xn,dL,_⟩:=z.cells x a ha;obtain rfl:=aX (aF (af kU) xn);generalize Bh:C.own.filter (λb=>b != a)=own';have ls:∀b∈own',b∈C.own:=λb hb=>by rw [<-Bh] at hb;exact (List.mem_filter.mp hb).1
 have co:∀b∈own',b≠a:=λb hb=>by rw [<-Bh] at hb;obtain this:=(List.mem_filter.mp hb).2;simpa using this
 have tZ:∀b∈C.own,b≠a->b∈own':=λb hb n=>by refine Bh▸?_;exact List.mem_filter.mpr ⟨hb,by simpa using n⟩
 obtain h':=h own' ls (λb e q=>co b q (by lia)) λy hy hs=>by
  (refine bh hs (λq=>?_) (λUz=>?_);rotate_left;obtain ⟨q,b,e,hb⟩:=Uz;rotate_right)
  . exact .inl q
  . exact .inr (oi q b e (tZ b hb λe'=>hy (z.apart y x a (e'▸e) ha)))
 by_cases hF:F a=none
 . have z':St c {C with own:=own'} (plus F a ob) bs S s:=by
    have w:=z.wd;refine ⟨⟨λb o e=>?_,λb o e q=>aQ hF _ _ (w.base b o e q),w.old.plus hF (w.old.vK kU (by refine rE dL ?_;simp)),w.len,w.nodup,λk b o e1 e2=>⟨by simpa using fm.mono (nb:=[]) (aQ (ob:=ob) hF) (w.obj k b o e1 e2).1,λq=>?_⟩,w.there,w.os,w.gens,λb hb o e=>?_⟩,
     (ae m hN (λy u e=>(by obtain q:=iQ.mono (nb:=[]) (aQ (ob:=ob) hF) (hl y u e);rw [List.append_nil] at q;exact q))),z.fV,tZ _ z.cm (Ne.symm IN),λb hb=>?_,z.cells,z.apart,λe he=>⟨(z.frames e he).1,λL hL=>⟨?_,((z.frames e he).2 L hL).2⟩⟩,z.glob,z.blt,z.kind,z.om,λhf y b e=>?_⟩
    . unfold plus at e
      split at e
      . rename_i q;cases q;cases e;exact kU
      . exact w.sub _ _ e
    . delta plus;rw [if_neg (λ(e:b=a)=>E0 (e▸bJ e1))];exact (w.obj k b o e1 e2).2 q
    . unfold plus at e
      split at e
      . rename_i q;exact absurd (q▸hb) E0
      . exact w.kept b hb o e
    . obtain h3:=z.own b (ls b hb);refine ⟨?_,h3.2⟩;delta plus;rw [if_neg (co b hb)];exact h3.1
    . delta plus;rw [if_neg]
      . exact ((z.frames e he).2 L hL).1
      . intro q;obtain ⟨_,L',o,e1,e2,e3,_⟩:=(z.frames e he).1;obtain rfl:=aX (aF (af hL) e1);rw [q,kU] at e2;cases e2;rw [dL] at e3;simp at e3
    . by_cases q:b=a
      . clear e;cases q;exact .inr (dY ob r bO hd)
      . (refine bh (z.fo hf y b e) (λw=>?_) (λUA=>?_);rotate_left;refine e2a1 UA λo u w1 w2=>?_;rotate_right)
        . exact .inl (tZ b w q)
        . exact .inr (dY o u (aQ hF _ _ w1) w2)
   obtain st:kz C.own F bs s.heap (plus F a ob) bs s.heap\/a∉C.own:=by
    by_cases q:a∈C.own
    . refine .inl ⟨aQ hF,(ae [] (by simp) (by simp)),λb o e=>(bQ o e),λb o e _ _ _=>(ae o e (.refl o)),λb o e n=>?_⟩;unfold plus at e
      split at e
      . rename_i w;clear n;cases w;exact .inr (.inr q)
      . exact iY (aF (af e) n)
    . exact .inr q
   (refine bh st (λst=>?_) (λq=>?_))
   . exact aJ (h' A _ bs s ⟨hA.handled,hA.depth,hA.units,hA.frames⟩ z') (λf s' UB=>UB.casesOn λF' az v H' mo w k e=>⟨F',az,v,H',st.trans (mo.wide ls),w,k,e⟩) λ_ _ q=>q
   . obtain vQ:St c {C with own:=own'} F bs S s:=by
      refine ⟨z.wd,z.locs,z.fV,tZ _ z.cm (Ne.symm IN),λb hb=>z.own b (ls b hb),z.cells,z.apart,z.frames,z.glob,z.blt,z.kind,z.om,λhf y b e=>?_⟩
      (refine bh (z.fo hf y b e) (λw=>?_) (λw=>?_))
      . exact .inl (tZ b w λe=>q (e▸w))
      . exact .inr w
     exact aJ (h' A _ bs s ⟨hA.handled,hA.depth,hA.units,hA.frames⟩ vQ) (λf s' UC=>UC.casesOn λF' az v H' mo w k e=>⟨F',az,v,H',mo.wide ls,w,k,e⟩) λ_ _ q=>q
 . have q:a∉C.own:=λq=>hF (z.own a q).1;have vQ:St c {C with own:=own'} F bs S s:=by
    refine ⟨z.wd,z.locs,z.fV,tZ _ z.cm (Ne.symm IN),λb hb=>z.own b (ls b hb),z.cells,z.apart,z.frames,z.glob,z.blt,z.kind,z.om,λhf y b e=>?_⟩
    (refine bh (z.fo hf y b e) (λw=>?_) (λw=>?_))
    . exact .inl (tZ b w λe=>q (e▸w))
    . exact .inr w
   exact aJ (h' A _ bs s ⟨hA.handled,hA.depth,hA.units,hA.frames⟩ vQ) (λf s' UD=>UD.casesOn λF' az v H' mo w k e=>⟨F',az,v,H',mo.wide ls,w,k,e⟩) λ_ _ q=>q
end
end Mine.Internal
namespace Mine.Internal
open PySem PyProof.Rows PySem.W
theorem qW {code:Value}
 (h:wpAny M A (forIn binds PUnit.unit λp zz=>(do storeName (newEnv scope s.heap.objs.size globals (cellsFrom (s.heap.objs.size+1) scope.names cl) qual func code none builtins) p.1 p.2;pure (.yield PUnit.unit)))
  (λzz s'=>Q (newEnv scope s.heap.objs.size globals (cellsFrom (s.heap.objs.size+1) scope.names cl) qual func code none builtins) s') E {s with heap:=pushCells (s.heap.push {cls:=.type "frame",data:=.dict #[]}) scope.names}) :
 wpAny M A (newFunctionEnv scope globals cl binds qual func code none builtins) Q E s:=by
 skip
 refine ai (wpAny_alloc ?_);refine ai (wpAny_layCells _ (λname kind cells=>by cases Jt:kind==NameKind.cell <;> simp [Jt]) _ _ _ _ ?_);refine rE (show ({s with heap:=s.heap.push {cls:=.type "frame",data:=.dict #[]}}:Shared).heap.objs.size=s.heap.objs.size+1 from iA ..) ?_;exact ai (aJ h (λzz zz q=>bo q) λzz zz e=>e)
noncomputable def fZ:Nat->fq->dI
 | _,[]=>[]
 | n,(_,v)::r=>(n,v)::fZ (n+1) r
theorem yH (l:fq)(n j:Nat)(v:AV)(h:(fZ n l).lookup j=some v):∃x,n<=j/\l[j - n]?=some (x,v):=by
 induction l generalizing n with
 | nil=>exact bx h
 | cons p r ih =>
   dsimp only [fZ] at h;rw [List.lookup_cons] at h;cases q:j==n with
   | true =>rw [q] at h;clear ih;refine (aX h)▸?_;clear h;refine (eq_of_beq q)▸?_;exact (ae p.1 (aZ _) (by rw [Nat.sub_self];rfl))
   | false =>rw [q] at h;refine e1a1 (ih (n+1) h) λx' h1 h2=>?_;refine (ae x' (Nat.le_of_succ_le h1) ?_);rw [show j - n=(j - (n+1))+1 by exact t6 h1];exact h2
theorem bE.mem {c:aP}(h:c.SV F bs xs rs)(x:Str)(v:AV)(m:(x,v)∈xs):∃r,(x,r)∈rs/\c.V F bs v r:=by
 induction xs generalizing rs with
 | nil=>exact nomatch m
 | cons p l ih =>
   refine e2a2 h.inv λzz zz Fr h t=>?_;refine rE Fr ?_;rcases er m with e | m
   . clear m;clear Fr;subst e;exact (ae _ (.head _) h)
   . refine e1a1 (ih t m) λr h1 h2=>?_;exact (ae r (.tail _ h1) h2)
structure rN (C:Cx)(sc:Scope)(code:Value)(qual:Str)(n:Nat)(vars:a8):Prop where
 scope:C.env.scope=sc
 vars:C.vars=vars
 handled:C.handled=none
 n:C.n=n
 top:fU C
 cell:∀x,sc.names.lookup x=some .cell->aV C (λzz=>none) x
 code:C.env.code=code
 qual:C.env.qual=qual
 func:C.env.func≠none
section
variable {c:aP}{F F':G}{bs az:aA}{s s':Shared}{A:Around}{mg mb:dZ}
noncomputable def gR (scope:Scope)(names caps vars:a8):Bool :=
 scope.kind==.function&&!scope.isCoroutine&&!scope.isGenerator&&decide vars.Nodup&&(names++caps).isPrefixOf vars&&names.all (λp=>scope.names.lookup p==some .local||scope.names.lookup p==some .cell) &&
 caps.all (λx=>scope.names.lookup x==some .free&&scope.names.all (λp=>!(p.1==x&&p.2==.cell)))
theorem DR {code:Value}(n:Nat)(vars:a8)
 (fw:gR scope (binds.map (·.1)) (caps.map (·.1)) vars=true) (wd:Wd c F bs H s) (dL:vJ F cl crs) (IW:c.SV F bs caps crs) (oq:c.SV F bs binds rb)
 (ms:∀e∈fr,gg s.heap e/\∀L,e.frame=some L->F L=none/\L∉bs) (E:vP) :
 wpAny (model c.prog c.w) A (newFunctionEnv scope mainGlobals cl rb qual (some fa) code none builtinsNs) (λenv aM=>∃own bn aK,let C:Cx:=⟨env,own,env::fr,none,n,vars⟩
  rN C scope code qual n vars/\St c C bn aK ⟨cX 0 binds (fZ binds.length caps),H⟩ aM/\Step own F bs s.heap bn aK aM.heap/\(∀b∈own,s.heap.get? b=none)) E s:=by
 simp only [gR,eZ,Bool.not_eq_true',beq_iff_eq,decide_eq_true_eq,List.all_eq_true,Bool.or_eq_true,Bool.and_eq_false_imp,beq_eq_false_iff_ne] at fw;refine e0a1 fw λKU k7=>?_;refine e0a1 KU λKV k6=>?_;clear KU;refine e0a1 KV λDS k5=>?_;clear KV;refine e0a1 DS λHr k4=>?_;clear DS;obtain ⟨⟨k1,k2⟩,k3⟩:=Hr;refine e1a0 (List.isPrefixOf_iff_prefix.mp k5) λrest wT=>?_;refine qW ?_;generalize bG:({s with heap:=pushCells (s.heap.push {cls:=.type "frame",data:=.dict #[]}) scope.names}:Shared)=am;generalize hE:newEnv scope s.heap.objs.size mainGlobals (cellsFrom (s.heap.objs.size+1) scope.names cl) qual (some fa) code none builtinsNs=env;have zy:env.scope=scope:=by refine hE▸?_;rfl
 obtain hL:env.locals=s.heap.objs.size:=by refine hE▸?_;rfl
 obtain QT:env.cells=cellsFrom (s.heap.objs.size+1) scope.names cl:=by refine hE▸?_;rfl
 have KW:env.frame=some s.heap.objs.size:=by rw [<-hE];rfl
 generalize how:s.heap.objs.size::(cellsFrom (s.heap.objs.size+1) scope.names []).map (·.2)=own;obtain n0:s.heap.get? s.heap.objs.size=none:=St.ic s;obtain F0:F s.heap.objs.size=none:=by
  cases q:F s.heap.objs.size with
  | none=>rfl
  | some o'=>exact iY (aF (af (wd.sub _ _ q)) n0)
 obtain b0:s.heap.objs.size∉bs:=λm=>by refine e1a0 (wd.there _ m) λo' e'=>?_;exact bx (aF (af n0) e')
 have keep:∀b o,s.heap.get? b=some o->am.heap.get? b=some o:=λb o e=>by refine bG▸?_;exact pushCells_keeps _ _ _ _ (cI _ e)
 obtain ot:am.heap.get? s.heap.objs.size=some {cls:=.type "frame",data:=.dict #[]}:=by refine bG▸?_;exact pushCells_keeps _ _ _ _ (dw _ rfl)
 have zz:=St.opens (c:=c) (s:=s) (s':=am) wd (cl:=cl) ⟨λx a e=>?_,dL.apart⟩ "frame" (by decide) scope.names env own (env::fr) none n vars (fZ binds.length caps) bG.symm hL QT how.symm (by refine hE▸?_;rfl) (by rw [<-hE];rfl) (by rw [zy];exact k1) k4 (λe he=>?_) (λi v e=>?_)
  (.inr λx a e=>e2a2 (dL.all x a e) λoc v e1 zz e3=>(dY oc v e1 e3))
 . refine e0a2 zz λz mv jL=>?_;have be:∀x,scope.names.lookup x=some .cell->aV ⟨env,own,env::fr,none,n,vars⟩ (λzz=>none) x:=λx e=>by
    obtain db:((cellsFrom (s.heap.objs.size+1) scope.names []).lookup x).isSome=true:=PySem.W.cellsFrom_some _ _ _ (.inl e);refine e1a0 (Option.isSome_iff_exists.mp db) λa ha=>?_;refine .inr (oi (by skip;unfold Env.kindOf;rw [zy];exact e) a ?_ ?_)
    . skip
      rw [QT,cM,List.lookup_append,ha];rfl
    . show a∈own;refine how▸?_;exact .tail _ (eK (ae (x,a) (mem_of_lookup ha) rfl))
   obtain IQ:=uk (c:=c) (C:=⟨env,own,env::fr,none,n,vars⟩) (A:=A) (X:=dT) (λp zz=>(do storeName env p.1 p.2;pure (.yield PUnit.unit))) (λzz zz zz=>rfl) binds 0 rb F bs ⟨fZ binds.length caps,H⟩ am (λzz S'=>S'=⟨cX 0 binds (fZ binds.length caps),H⟩) z oq
    (λj p e=>by
     rw [Nat.zero_add];show vars[j]?=_;obtain hj:j < binds.length:=(bp e).1;refine wT▸?_;rw [et (by simp;exact dO hj (b8 _ _)),et (by simpa using hj),cj,e];rfl)
    (λx v m=>(k6 x (eK (ae (x,v) m rfl))).elim (λe=>.inl (by skip;unfold Env.kindOf;rw [zy];exact e)) (be x)) rfl
   refine aJ IQ (λzz aM UE=>UE.casesOn λbn aK zz aO aE aR zz nH=>?_) (λzz zz UF=>UF.casesOn λzz zz zz zz zz zz zz q=>q.elim);refine nH▸?_;exact (gq own bn aK ⟨zy,rfl,rfl,rfl,(bQ fr rfl),be,by show env.code=_;rw [<-hE];rfl,by show env.qual=_;rw [<-hE];rfl,by show env.func≠_;rw [<-hE];simp [newEnv]⟩ aR ((Step.keep mv).trans aE) jL)
 . refine e2a2 (dL.all x a e) λoc v e1 e2 e3=>?_;refine ⟨(λq=>wd.kept a q oc e1 e2),oc,(wd.sub _ _ e1),e2,_,e3⟩
 . rcases er he with e' | he
   . refine rE e' ?_;refine ⟨⟨by refine (af zy)▸(af k1)▸?_;simp,s.heap.objs.size,_,KW,ot,rfl,λvs q=>by cases q⟩,λL' q=>?_⟩;refine (aX (aF (af KW) q))▸?_;exact ⟨F0,b0⟩
   . refine e0a1 (ms e he) λf1 f2=>?_;exact ⟨f1.keep λb o e zz=>(ae o (keep _ _ e) (.refl o)),f2⟩
 . refine e1a1 (yH caps binds.length i v e) λx h1 h2=>?_;have hm:(x,v)∈caps:=bJ h2;refine e0a1 (k7 x (eK (ae _ hm rfl))) λq1 q2=>?_;refine e1a1 (bE.mem IW x v hm) λr m1 hr=>?_;refine e2a2 (dL.has x r m1) λa oc w1 w2 w3=>?_;refine ⟨x,?_,(.inr (by delta Env.kindOf;rw [zy];exact q1)),(λk hk e=>q2 (x,k) hk rfl e),a,oc,r,w1,(wd.sub _ _ w2),w3,hr⟩;obtain gX:i - binds.length < caps.length:=(bp h2).1;rw [<-wT,et (by simp;exact (dX (Nat.sub_le_iff_le_add'.mp (aZ (_-_))) (hX gX _))),gn (by simpa using h1),cj,qL,h2];rfl
def gx (c:aP)(n:Nat)(fv:AV)(args:bW)(H:aI)(K:AV->aI->Prop):Prop :=
 ∀A F bs s r rs fr,A.handled=none->A.depth+n < recursionLimit->A.units+20*n < cLine->A.frames=some fr->(∀e∈fr,gg s.heap e/\∀L,e.frame=some L->F L=none/\L∉bs) ->
  Wd c F bs H s->c.V F bs fv r->c.Vs F bs args rs ->
  codeAny (model c.prog c.w) A (.call r ⟨rs,[]⟩) (GD c F bs s.heap K) s
theorem Bi (B:Base c mg mb){K:AV->aI->Prop}(vars:a8)
 (hh:A.handled=none) (hd:A.depth+(n+1) < recursionLimit) (hu:A.units+20*(n+1) < cLine) (j7:A.frames=some fr) (ms:∀e∈fr,gg s.heap e/\∀L,e.frame=some L->F L=none/\L∉bs)
 (hf:s.heap.get? fa=some o) (xf:o.data=.func fd) (gH:s.heap.CodeRec fd.code fd.qualname) (xg:fd.globals=mainGlobals) (Dq:fd.builtins=builtinsNs)
 (wd:Wd c F bs H s) (hv:c.Vs F bs args rs) (dL:vJ F fd.closure crs) (IW:c.SV F bs caps crs) (hb:mJ c fd args binds) (fw:gR fd.scope (binds.map (·.1)) (caps.map (·.1)) vars=true)
 (h:(∃body,fd.body=.stmts body/\∀C,rN C fd.scope fd.code (fd.qualname++".<locals>.") n vars->qI c C body ⟨cX 0 binds (fZ binds.length caps),H⟩ K) \/
  (∃body,fd.body=.expr body/\∀C,rN C fd.scope fd.code (fd.qualname++".<locals>.") n vars->Ev c C body ⟨cX 0 binds (fZ binds.length caps),H⟩ (λv S'=>K v S'.heap) dT)) :
 codeAny (model c.prog c.w) A (.call (.ref fa) ⟨rs,[]⟩) (GD c F bs s.heap K) s:=by
 have QL:fd.scope.isCoroutine=false:=by simp only [gR,eZ,Bool.not_eq_true'] at fw;exact fw.1.1.1.1.1.2
 have Dr:fd.scope.isGenerator=false:=by simp only [gR,eZ,Bool.not_eq_true'] at fw;exact fw.1.1.1.1.2
 obtain op:∀(E:vP) (Q:Env->lC),(∀own bn aK env aM,rN ⟨env,own,env::fr,none,n,vars⟩ fd.scope fd.code (fd.qualname++".<locals>.") n vars->St c ⟨env,own,env::fr,none,n,vars⟩ bn aK ⟨cX 0 binds (fZ binds.length caps),H⟩ aM->Step own F bs s.heap bn aK aM.heap->(∀b∈own,s.heap.get? b=none)->Q env aM) ->
  wpAny (model c.prog c.w) A.in1 (bindArgs fd ⟨rs,[]⟩) (λrb Z=>wpAny (model c.prog c.w) A.in1 (newFunctionEnv fd.scope fd.globals fd.closure rb (fd.qualname++".<locals>.") (some fa) fd.code none fd.builtins) Q E Z) E s:=λE Q q=>by
  refine hb _ F bs H s rs _ _ wd hv λF₁ Z rb al um oq=>?_;refine (af xg)▸(af Dq)▸?_;obtain UG:c.SV F₁ bs caps crs:=by obtain this:=bE.mono (nb:=[]) al.sub IW;rwa [List.append_nil] at this
  refine aJ (DR (c:=c) (A:=A.in1) (fr:=fr) n vars fw um (dL.mono al.sub) UG oq (λe he=>?_) E) (λenv aM UH=>e3a3 UH λown bn aK v4 z st hn=>?_) λzz zz e=>e
  . refine e0a1 (ms e he) λUI f2=>?_;obtain ⟨k1,L',o',e1,e2,e3,e4⟩:=UI;refine e0a1 (f2 L' e1) λq1 q2=>?_;refine e1a1 (al.dQ L' o' e2 (by simp) q2 (by rw [e3];simp)) λAq e5 s5=>?_;refine ⟨⟨k1,L',Aq,e1,e5,s5.cls.trans e3,λvs=>by refine rE s5.data ?_;exact e4 vs⟩,λZw q=>?_⟩;refine (aX (aF (af e1) q))▸?_;refine ⟨?_,q2⟩;cases q3:F₁ L' with
    | none=>rfl
    | some Ar=>(refine bh (al.i6 L' Ar q3 q1) (λy=>?_) (λy=>?_))
               . exact bx (aF (af y) e2)
               . exact absurd y q2
  . exact q own bn aK env aM v4 z ((al.widen (by simp)).trans st) λb lw=>by
     cases q:s.heap.get? b with
     | none=>rfl
     | some o'=>refine e1a0 (al.mono _ _ q) λDj Ae=>?_;exact bx (aF (af (hn b lw)) Ae)
 (refine bh h (λUJ=>?_) (λUK=>?_);refine e1a1 UJ λbody ul h=>?_;rotate_left;refine e1a1 UK λbody ul h=>?_;rotate_right)
 . refine codeAny_call_function (sM hd) hf xf QL Dr ul gH ?_;refine op _ _ λown bn aK env aM v4 z st hn=>⟨z.wd.Ak B,codeAny_func ?_⟩
   refine aJ (h _ v4 (A.deeper env) bn aK aM ⟨hh,by show A.depth+1+n < _;exact pn hd,by show A.units+3+20*n < _;exact sO hu,by show A.frames.map _=_;rw [j7];rfl⟩ z) (λf cr KY=>KY.casesOn λd7 ce v H' ca KZ k e=>?_) (λzz zz q=>q.elim);clear KY;rcases e with ⟨rfl,rfl⟩ | ⟨r,rfl,hr⟩
   . exact ⟨d7,ce,.none,H',_,own,rfl,hn,st.Fq ca hn,KZ,.none,k⟩
   . exact ⟨d7,ce,v,H',_,own,rfl,hn,st.Fq ca hn,KZ,hr,k⟩
 . refine kla_callFunE (sM hd) hf xf QL Dr ul gH ?_;refine op _ _ λown bn aK env aM v4 z st hn=>⟨z.wd.Ak B,kla_codeExpr ?_⟩
   refine aJ (h _ v4 (A.deeper env) bn aK aM ⟨hh,by show A.depth+1+n < _;exact pn hd,by show A.units+3+20*n < _;exact sO hu,by show A.frames.map _=_;rw [j7];rfl⟩ z) (λr cr UL=>UL.casesOn λd7 ce v di ca cW hr k=>?_) (λzz zz UM=>UM.casesOn λzz zz zz zz zz zz zz q=>q.elim);exact ⟨d7,ce,v,di.heap,_,own,rfl,hn,st.trans ca,cW.wd,hr,k⟩
end
structure TabAt (c:aP)(cc P:Addr)(q:Pos->Str):Prop where
 code:CodeHd c.h₀ cc P
 tab:c.tab P=some q
 yu:∃ps,c.h₀.get? P=some (tabObj ps)
 line:∀p p':Pos,p.line=p'.line->p.col=p'.col->q p=q p'
def pY (c:aP)(mg:dZ):Prop :=
 ∃bm ob,mg "__builtins__"=some (.ref bm)/\bm≠builtinsNs/\c.h₀.get? bm=some ob/\ob.cls=.type "module"/\ob.dict=some builtinsNs/\ob.data=.plain
set_option tactic.hygienic true in
theorem oU (l:iC)(h:TriplesOk l)(hv:codeAmong pos (l++[rawInt a,rawInt b,x])=some v):codeAmong pos l=some v\/((a==pos.line&&b==pos.col)=true/\v=x):=by
 fun_induction TriplesOk l with
 | case1 =>
   right;dsimp only [List.nil_append,codeAmong,rawInt] at hv
   split at hv
   . rename_i q;refine rE (aX hv) ?_;exact ⟨q,rfl⟩
   . exact bx hv
 | case2 a' t b' u y rest ih =>
   dsimp only [List.cons_append,codeAmong] at hv ⊢
   split at hv
   . rename_i q;left;rw [if_pos q];exact hv
   . rename_i q;rw [if_neg q];exact ih h hv
 | case3 l h1 h2=>exact h.elim
section
variable {c:aP}{C:Cx}{S:AS}{F F':G}{bs az:aA}{s s':Shared}{A:Around}{mg mb:dZ}{X:cK}{K:cw}
theorem Base.v8 (B:Base c mg mb)(t:TabAt c cc P q):mainGlobals≠P/\P≠cStatics:=by
 refine e1a0 t.yu λps e=>?_;refine ⟨λw=>?_,λw=>?_⟩
 . refine e3a2 B.g λo es ep ho hd zz=>?_;rw [w,e] at ho;cases ho;cases hd
 . refine e1a1 B.lim λmc DT zz=>?_;refine e3a2 DT λo es ep ho hd zz=>?_;clear DT;rw [w] at e;obtain rfl:=aX (aF (af e) ho);cases hd
theorem St.Bk (z:St c C F bs S s)(h:CodeHd c.h₀ cc P):CodeHd s.heap cc P:=by refine e7a0 h λo vs file tf flags tg UN qX=>?_;clear h;refine e2a2 qX λtext tt e1 e2 r=>?_;clear qX;exact ⟨o,vs,file,tf,flags,tg,UN,text,tt,(z.yu (ae o e1 (by rw [e2];simp)) _ e1),e2,r⟩
theorem St.K0 (z:St c C F bs S s)(B:Base c mg mb)(hb:pY c mg)(t:TabAt c cc P q):s.heap.BuiltinsAt mg P:=by
 refine e2a5 hb λbm ob b1 b2 b3 b4 b5 b6=>?_;refine ⟨bm,ob,b1,b2,(λw=>?_),(λw=>?_),(z.yu (ae ob b3 (by refine rE b4 ?_;simp)) _ b3),b4,b5,b6⟩
 . refine e3a2 B.g λo es ep e hd zz=>?_;rw [w,e] at b3;clear e;cases b3;rw [hd] at b6;cases b6
 . refine e1a0 t.yu λps e=>?_;rw [w,e] at b3;clear b6 b5;cases b3;cases b4
set_option tactic.hygienic true in
theorem St.Hs (B:Base c mg mb)(z:St c C F bs S s)(t:TabAt c cc P q)(hP:s.heap.get? P=some (tabObj ps))(hx:Heap.ExtBut P s.heap s'.heap)(ha:s.heap.get? a=none)
 (hoc:s'.heap.get? a=some oc) (hd:oc.data=.fields vs) (hv:vs[1]?=some (.str (q pos) tk)) (s7:s'.heap.get? P=some (tabObj (ps++#[rawInt pos.line,rawInt pos.col,.ref a])))
 (Hh:s'.os=s.os) (hg:s'.gens=s.gens):St c C (plus F a oc) bs S s'/\Step C.own F bs s.heap (plus F a oc) bs s'.heap:=by
 have w:=z.wd;obtain ⟨hFP,⟨o0,h0⟩,ps',hP',K1,Bj⟩:=w.old.tabs P q t.tab;have Ye:F a=none:=z.jm ha;have co:∀b o,s.heap.get? b=some o->o.cls≠.none->b≠P:=λb o e n w=>by lia
 have keep:∀b o,s.heap.get? b=some o->o.cls≠.none->s'.heap.get? b=some o:=λb o e n=>hx b o (co b o e n) e;have any:∀b o,s.heap.get? b=some o->∃o',s'.heap.get? b=some o':=λb o e=>by
  by_cases q:b=P
  . rw [q];exact (bQ _ s7)
  . exact (bQ o (hx b o q e))
 have new:∀b,(∃o,s.heap.get? b=some o)->b≠a:=λb UO=>e1a0 UO λo e q=>by lia
 have pZ:∀b o,F b=some o->plus F a oc b=some o:=aQ Ye;refine e1a0 t.yu λps0 e0=>?_;have C':=z.Bk t.code;have C'':CodeHd s'.heap cc P:=by refine e7a0 C' λo vs file tf flags tg UN oS=>?_;clear C';refine e2a2 oS λtext tt e1 e2 r=>?_;clear oS;exact ⟨o,vs,file,tf,flags,tg,UN,text,tt,(keep _ _ e1 (by rw [e2];simp)),e2,r⟩
 have old:gD c (plus F a oc) s'.heap:=by
  refine ⟨OldK.step_table w.old.toOldK (t.code.tab e0) (C'.tab hP) (C''.tab s7) hx (B.v8 t).2,λDU UP e=>?_⟩;obtain ⟨g1,g2,K2,g3,g4,g5⟩:=w.old.tabs DU UP e;obtain Yg:plus F a oc DU=none:=by
   unfold plus;rw [if_neg]
   . exact g1
   . exact new DU (bQ _ g3)
  by_cases hp:DU=P
  . subst hp;obtain rfl:=aX (aF (af t.tab) e);rw [hP] at g3;cases g3;refine (kS Yg g2 _ s7 (by rw [Array.toList_append];exact TriplesOk_snoc _ _ _ _ g4) (λpos' v mt=>?_));rw [Array.toList_append] at mt
    (refine bh (oU _ g4 mt) (λq=>?_) (λuB=>?_);rotate_left;refine e0a1 uB λq uA=>?_;clear uB;refine rE uA ?_;rotate_right)
    . refine e4a2 (g5 pos' v q) λb o us t' e1 e2 e3=>?_;exact ⟨b,o,us,t',e1,(pZ _ _ e2),e3⟩
    . simp only [eZ,beq_iff_eq] at q;refine (i4 a oc vs tk rfl bO hd ?_);rw [hv,t.line pos pos' (by exact_mod_cast q.1) (by exact_mod_cast q.2)]
  . refine (kS Yg g2 K2 (hx _ _ hp g3) g4 (λpos' v mt=>?_));refine e4a2 (g5 pos' v mt) λb o us t' e1 e2 e3=>?_;exact ⟨b,o,us,t',e1,(pZ _ _ e2),e3⟩
 refine e1a1 z.locs λm hN hl=>?_;refine e1a1 z.fV λoL eL nL=>?_;refine ⟨⟨⟨λb o e=>?_,λb o e q=>pZ _ _ (w.base b o e q),old,w.len,w.nodup,λk b o e1 e2=>⟨?_,λq=>?_⟩,λb hb=>(e1a0 (w.there b hb) λo e=>any b o e),Hh.trans w.os,hg.trans w.gens,λb hb o e=>?_⟩,
  (ae m ?_ (λy v e=>?_)),(ae oL (keep _ _ eL nL) nL),z.cm,λb hb=>?_,λy b e=>?_,z.apart,λe he=>⟨?_,λL hL=>?_⟩,z.glob,z.blt,z.kind,z.om,z.fo.mono pZ⟩,
  ⟨pZ,(ae [] (by simp) (by simp)),any,λb o e _ _ n=>(ae o (keep _ _ e n) (.refl o)),λb o e n=>?_⟩⟩
 . unfold plus at e
   split at e
   . rename_i q;cases q;cases e;exact hoc
   . exact hx b o (λq=>by lia) (w.sub _ _ e)
 . by_cases q:o=.gone
   . refine rE q ?_;trivial
   . refine e0a1 (w.obj k b o e1 e2) λhr _=>?_;refine e1a2 (hr.cls q) λob g1 g2 _=>?_;obtain tY:=hr.at (h':=s'.heap) λGo e'=>by refine (aX (aF (af g1) e'))▸?_;exact keep _ _ g1 g2
     simpa using fm.mono (nb:=[]) pZ tY
 . delta plus;rw [if_neg (new b (w.there b (bJ e1)))];exact (w.obj k b o e1 e2).2 q
 . unfold plus at e
   split at e
   . rename_i q;exact absurd q (new b (w.there b hb))
   . exact w.kept b hb o e
 . refine e3a1 hN λo es ep ho r=>?_;obtain rfl:=aX (aF (af eL) ho);exact (jW oL es ep (keep _ _ eL nL) r)
 . obtain q:=iQ.mono (nb:=[]) pZ ((hl y v e).heap (h':=s'.heap) λx b o e1 e2=>by
    obtain ⟨_,_,o',h3,h4,_⟩:=z.cells x b e1;obtain rfl:=aX (aF (af e2) h3);exact (ae o (keep _ _ e2 (by rw [h4];simp)) rfl))
   rw [List.append_nil] at q;exact q
 . obtain ⟨h1,h2,o,h3⟩:=z.own b hb;refine (aH ?_ h2 (any b o h3));delta plus;rw [if_neg (new b (bQ o h3))];exact h1
 . obtain ⟨h1,h2,o,h3,h4,h5⟩:=z.cells y b e;exact (aH h1 h2 ⟨o,keep _ _ h3 (by rw [h4];simp),h4,h5⟩)
 . exact (z.frames e he).1.keep λb o e' hc=>(ae o (keep _ _ e' (by rw [hc];simp)) (.refl o))
 . refine e0a1 (z.frames e he) λf1 f2=>?_;obtain ⟨_,L',o,e1,e2,_⟩:=f1;obtain rfl:=aX (aF (af hL) e1);refine ⟨?_,(f2 L hL).2⟩;delta plus;rw [if_neg (new L (bQ o e2))];exact (f2 L hL).1
 . unfold plus at e
   split at e
   . rename_i q;clear n;cases q;exact .inl ha
   . exact iY (aF (af e) n)
end
noncomputable def ll (C:Cx)(S:AS):List (Nat×Str×AV)->Prop
 | []=>True
 | (i,x,v)::r=>C.vars[i]?=some x/\S.loc.lookup i=some v/\(∀a,C.env.cells.lookup x=some a->a∉C.own)/\(C.env.kindOf x=some .cell\/C.env.kindOf x=some .free)/\ll C S r
theorem ll.mem (h:ll C S l)(p:Nat×Str×AV)(m:p∈l):C.vars[p.1]?=some p.2.1/\S.loc.lookup p.1=some p.2.2/\(∀a,C.env.cells.lookup p.2.1=some a->a∉C.own)/\(C.env.kindOf p.2.1=some .cell\/C.env.kindOf p.2.1=some .free):=by
 induction l with
 | nil=>exact nomatch m
 | cons q r ih =>
   rcases er m with rfl | m
   . exact (eM h.1 h.2.1 h.2.2.1 h.2.2.2.1)
   . exact ih h.2.2.2.2 m
noncomputable def freeOk (scope:Scope)(xs:a8):Bool:=xs.all (λx=>scope.names.lookup x==some .free)&&scope.names.all (λp=>!(p.2==.free)||xs.contains p.1)
section
variable {c:aP}{C:Cx}{S:AS}{F F':G}{bs az:aA}{s s':Shared}{A:Around}{mg mb:dZ}{X:cK}{K:cw}
theorem St.sealed (z:St c C F bs S s)(hf:C.env.func≠none)(h:ll C S fs)(fw:freeOk scope (fs.map (·.2.1))=true) :
 closureFor scope C.env=pure (ij C scope)/\∃crs,vJ F (ij C scope) crs/\c.SV F bs (fs.map (·.2)) crs:=by
 simp only [freeOk,eZ,List.all_eq_true,beq_iff_eq,Bool.or_eq_true,Bool.not_eq_true',beq_eq_false_iff_ne,List.contains_iff_mem] at fw;refine e0a1 fw λk1 k2=>?_;refine e1a1 z.locs λm hN hl=>?_;have one:∀p∈fs,∃a o r,C.env.cells.lookup p.2.1=some a/\F a=some o/\o.cls=.type "cell"/\o.data=.cell (some r)/\c.V F bs p.2.2 r:=λp hp=>by
  refine e0a3 (h.mem p hp) λh1 h2 h3 h4=>?_;obtain ⟨a,o,r,w1,w2,w3,w4⟩:=(hl _ _ h2).cellAt h1 h4
  (refine bh (z.fo hf _ _ w1) (λq=>?_) (λUQ=>?_);rotate_left;refine e2a1 UQ λo' r' q1 q2=>?_;rotate_right)
  . exact absurd q (h3 a w1)
  . obtain this:=z.wd.sub _ _ q1;clear q2;obtain rfl:=aX (aF (af w2) this);obtain ⟨_,_,o2,e2,e3,_⟩:=z.cells _ _ w1;obtain rfl:=aX (aF (af w2) e2);exact (iZ a o r w1 q1 e3 w3 w4)
 have IS:∀x,x∈fs.map (·.2.1)->C.env.cells.lookup x=some ((C.env.cells.lookup x).getD 0):=λx hx=>by refine e1a1 (fy hx) λp hp UR=>?_;clear hx;obtain rfl:=UR;refine e3a1 (one p hp) λa o r e zz=>?_;refine rE e ?_;rfl
 have Fs:∀x,(x,NameKind.free)∈scope.names->x∈fs.map (·.2.1):=λx hx=>by
  (refine bh (k2 (x,.free) hx) (λq=>?_) (λq=>?_))
  . exact absurd rfl q
  . exact q
 have v1:∀x a,(ij C scope).lookup x=some a->C.env.cells.lookup x=some a/\x∈fs.map (·.2.1):=λx a e=>by
  (refine bh (ie _ scope.names [] (x,a) (mem_of_lookup e)) (λq=>?_) (λUS=>?_);rotate_left;refine e0a1 US λq1 q2=>?_;rotate_right)
  . cases q
  . have hx:=Fs x q2;exact ⟨by rw [IS x hx];exact congrArg some q1.symm,hx⟩
 refine ⟨jF _ λx hx=>IS x (Fs x hx),?_⟩;obtain build:∀l:List (Nat×Str×AV),(∀p∈l,p∈fs)->∃crs,c.SV F bs (l.map (·.2)) crs/\∀x r,(x,r)∈crs->∃a oc,(ij C scope).lookup x=some a/\F a=some oc/\oc.data=.cell (some r):=by
  intro l;induction l with
  | nil=>intro _;exact (ae [] (.nil) (λzz zz m=>nomatch m))
  | cons p l ih =>
    intro ls;refine e1a1 (ih λq hq=>ls q (.tail _ hq)) λcrs h1 h2=>?_;refine e3a4 (one p (ls p (.head _))) λa o r w1 w2 zz w3 w4=>?_;have hx:p.2.1∈fs.map (·.2.1):=eK (ae p (ls p (.head _)) rfl);refine (ae ((p.2.1,r)::crs) (.cons w4 h1) (λx r' hm=>?_))
    (refine bh (er hm) (λe=>?_) (λhm=>?_))
    . clear hm;cases e;refine (ck a o ?_ w2 w3);show (jM _ scope.names []).lookup p.2.1=_;rw [oD _ scope.names p.2.1 (mem_of_lookupK (k1 _ hx))];exact congrArg some (by rw [w1];rfl)
    . exact h2 x r' hm
 refine e1a1 (build fs λzz m=>m) λcrs h1 h2=>?_;refine (ae crs ⟨h2,λx a e=>?_,λx y a e1 e2=>z.apart x y a (v1 x a e1).1 (v1 y a e2).1⟩ h1);refine e0a1 (v1 x a e) λe1 hx=>?_;clear e;refine e1a1 (fy hx) λp hp UT=>?_;clear hx;obtain rfl:=UT;refine e3a4 (one p hp) λa' o r w1 w2 w3 w4 zz=>?_;refine rE (aX (aF (af e1) w1)) ?_;exact (ck o r w2 w3 w4)
theorem CodeRec.i6 {code:Value}(h:vI F code q)(hs:∀b o,F b=some o->s.heap.get? b=some o):s.heap.CodeRec code q :=
 let ⟨cc,oc,vs,t,e1,e2,e3,e4⟩:=h;(i4 cc oc vs t e1 (hs _ _ e2) e3 e4)
theorem yI (B:Base c mg mb)(hb:pY c mg)(z:St c C F bs S s)(site:Nat)(fs:List (Nat×Str×AV))
 (gH:C.env.code=.ref cc) (t:TabAt c cc P q) (hq:C.env.qual++name=q pos) (hf:C.env.func≠none) (hS:ll C S fs) (fw:freeOk scope (fs.map (·.2.1))=true) (jG:c.ay site=⟨name,q pos,params,body,scope⟩) (k:K (.fn site (fs.map (·.2))) S) :
 WP c C A c.V (makeFunction name (C.env.qual++name) params body scope C.env [] [] [] pos fl) F bs s K X:=by
 obtain ⟨dL,crs,hC,hV⟩:=z.sealed hf hS fw;obtain ⟨hFP,⟨o0,h0⟩,ps,hP,K1,Bj⟩:=z.wd.old.tabs P q t.tab;have C':=z.Bk t.code;have bm:=z.K0 B hb t;have Q2:=z.QI B;have fin:∀(F₁:G) (Z:Shared) (h':Heap) (tk:Tok) (fd:FuncData),(∀b o,F b=some o->F₁ b=some o)->Step C.own F bs s.heap F₁ bs Z.heap->St c C F₁ bs S Z->(∀b o,Z.heap.get? b=some o->h'.get? b=some o)->Z.heap.objs.size<=h'.objs.size->Z.os=s.os->Z.gens=s.gens ->
  fd.name=name->fd.qualname=q pos->fd.params=params->fd.body=body->fd.scope=scope->fd.globals=mainGlobals->fd.builtins=builtinsNs->fd.defaults=.none->fd.kwdefaults=.none->fd.closure=ij C scope ->
  vI F₁ fd.code (q pos) ->
  WV c C c.V F bs s.heap K (.ref h'.objs.size) {s with heap:=h'.push {cls:=.type "function",data:=.func fd},toks:=tk}:=by
  intro F₁ Z h' tk fd ls st ap hk hsz Hh hg e1 e2 e3 e4 e5 e6 e7 e8 e9 UU e11;obtain m:ba c F₁ bs Z {s with heap:=h'.push {cls:=.type "function",data:=.func fd},toks:=tk}:=⟨λb o e=>cI _ (hk b o e),Hh.symm,hg.symm⟩
  obtain hn:Z.heap.get? h'.objs.size=none:=gp hsz;obtain ha:(h'.push {cls:=.type "function",data:=.func fd}).get? h'.objs.size=some {cls:=.type "function",data:=.func fd}:=dw _ rfl;have hF:=ap.jm hn;obtain ⟨cc,oc,vs,t,w1,w2,w3,w4⟩:=e11;refine ⟨_,bs,.fn site (fs.map (·.2)),S,st.trans (.frozen m hF hn),ap.i6 m hn ha,?_,k⟩;obtain qJ:∀b o,F b=some o->plus F₁ h'.objs.size {cls:=.type "function",data:=.func fd} b=some o:=λb o e=>aQ hF _ _ (ls b o e);refine .fn ⟨_,_,bO,rfl,rfl,rfl,(by rw [jG];exact e1),(by rw [jG];exact e2),(by rw [jG];exact e3),(by rw [jG];exact e4),(by rw [jG];exact e5),e6,e7,e8,e9,⟨cc,oc,vs,t,w1,aQ hF _ _ w2,w3,by rw [e2];exact w4⟩,(by rw [UU];exact hC.mono qJ)⟩ ?_;obtain this:=bE.mono (nb:=[]) qJ hV
  rwa [List.append_nil] at this
 cases Ai:codeAmong pos ps.toList with
 | some cv =>
   clear jG;refine e4a3 (Bj pos cv Ai) λa oc vs tk UV w1 w2 w3=>?_;obtain rfl:=UV;cases body with
   | stmts body =>refine makeFunction_hit dL z.glob Q2 gH C' hP K1 Ai bm λUW doc h' Ht hk hsz=>?_;exact fin F s h' Ht _ (λzz zz e=>e) (.refl ..) z hk hsz rfl rfl rfl hq rfl rfl rfl rfl rfl rfl rfl rfl ⟨a,oc,vs,tk,rfl,w1,w2,w3⟩
   | expr body =>refine kla_makeFunctionHit dL z.glob Q2 gH C' hP K1 Ai bm λUW h' Ht hk hsz=>?_;exact fin F s h' Ht _ (λzz zz e=>e) (.refl ..) z hk hsz rfl rfl rfl hq rfl rfl rfl rfl rfl rfl rfl rfl ⟨a,oc,vs,tk,rfl,w1,w2,w3⟩
 | none =>
   have miss:∀(c':Addr) (h':Heap),Heap.ExtBut P s.heap h'->s.heap.objs.size<=c'->c' < h'.objs.size->h'.CodeRec (.ref c') (C.env.qual++name)->h'.get? P=some (tabObj (ps++#[rawInt pos.line,rawInt pos.col,.ref c'])) ->
    ∃oc vs tk,St c C (plus F c' oc) bs S {s with heap:=h'}/\Step C.own F bs s.heap (plus F c' oc) bs h'/\oc.data=.fields vs/\vs[1]?=some (.str (q pos) tk):=by
    intro c' h' hx Ho gX Bl s7;refine e4a3 Bl λc2 oc vs tk e1 e2 e3 e4=>?_;obtain rfl:=Value.ref.inj e1;replace e4:=hq▸e4;obtain hn:s.heap.get? c'=none:=gp Ho;refine e0a1 (z.Hs (s':={s with heap:=h'}) B t hP (pos:=pos) hx hn e2 e3 e4 s7 rfl rfl) λz' mo=>?_;exact (gq oc vs tk z' mo e3 e4)
   cases body with
   | stmts body =>refine makeFunction_K dL z.glob Q2 gH C' hP K1 Ai (B.v8 t).1 bm λc' UW doc h' Ht hx Ho gX Bl s7=>?_;refine e3a3 (miss c' h' hx Ho gX Bl s7) λoc vs tk z' mo e3 e4=>?_;exact fin _ {s with heap:=h'} h' Ht _ mo.sub mo z' (λzz zz e=>e) (aZ _) rfl rfl rfl hq rfl rfl rfl rfl rfl rfl rfl rfl ⟨c',oc,vs,tk,rfl,bO,e3,e4⟩
   | expr body =>refine kla_makeFunction dL z.glob Q2 gH C' hP K1 Ai (B.v8 t).1 bm λc' UW h' Ht hx Ho gX Bl s7=>?_;refine e3a3 (miss c' h' hx Ho gX Bl s7) λoc vs tk z' mo e3 e4=>?_;exact fin _ {s with heap:=h'} h' Ht _ mo.sub mo z' (λzz zz e=>e) (aZ _) rfl rfl rfl hq rfl rfl rfl rfl rfl rfl rfl rfl ⟨c',oc,vs,tk,rfl,bO,e3,e4⟩
theorem td (B:Base c mg mb)(hb:pY c mg)(site:Nat)(i:Nat){name:Str}{params:Arguments}{body:eD}{scope:Scope}{pos:Pos}{cc P:Addr}{q:Pos->Str}{K:gw}(fs:List (Nat×Str×AV))
 (gH:C.env.code=.ref cc) (t:TabAt c cc P q) (hq:C.env.qual++name=q pos) (hf:C.env.func≠none) (hS:ll C S fs) (fw:freeOk scope (fs.map (·.2.1))=true) (jG:c.ay site=⟨name,q pos,params,.stmts body,scope⟩)
 (hi:C.vars[i]?=some name) (be:aV C (λzz=>none) name) (k:K .next (S.put i (.fn site (fs.map (·.2)))))
 (hd0:params.defaults=[]:=by rfl) (v6:params.kw_defaults=[]:=by rfl) (ha:annTrees params none C.env=[]:=by rfl):jK c C (.FunctionDef name params body [] none [] scope none name pos) S K X:=λA F bs s hA z=>by
 refine nestDef_K hd0 v6 ha ?_;obtain hqn:qualnameIn C.env name name=C.env.qual++name:=by
  delta qualnameIn
  (refine bh be (λq=>?_) (λUX=>?_);rotate_left;refine e0a1 UX λq zz=>?_;rotate_right) <;> rw [q] <;> rfl
 refine rE hqn ?_;refine aJ (yI (A:=A) (X:=X) B hb z site fs gH t hq hf hS fw jG (K:=λv S'=>v=.fn site (fs.map (·.2))/\S'=S) ⟨rfl,rfl⟩) (λr Z ⟨F₁,bs₁,v,ac,al,ap,hv,e,e'⟩=>?_) λzz zz q=>q;clear z hS;subst e e';refine aJ (pH (A:=A) (X:=X) ap hi be hv (K:=λzz S'=>K .next S') k) (λzz am UY=>UY.casesOn λaT ax zz aC an aG zz k₂=>⟨aT,ax,.next,aC,al.trans an,aG,rfl,k₂⟩) λx am UZ=>UZ.casesOn λaT ax cls aC an aG hx k₂=>⟨aT,ax,cls,aC,al.trans an,aG,hx.back al.mono,k₂⟩
end
section
variable {prog:Program}{w:World}{A:Around}{E:vP}{s:Shared}
noncomputable abbrev IX (w:World):Obj:={cls:=.type "set",dict:=none,data:=.set #[] 0 (.fresh 0 0 (!Ac w))}
set_option maxHeartbeats 3200000 in
end
structure Kept (s s':Shared):Prop where
 heap:∀b o,s.heap.get? b=some o->s'.heap.get? b=some o
 os:s'.os=s.os
 gens:s'.gens=s.gens
theorem Kept.moves (x:Kept s s'):ba c F bs s s':=⟨x.heap,x.os,x.gens⟩
theorem Kept.new (x:Kept s s')(h:s'.heap.get? a=none):s.heap.get? a=none:=by
 cases e:s.heap.get? a with
 | none=>rfl
 | some o=>exact iY (aF (af (x.heap _ _ e)) h)
section
variable {prog:Program}{w:World}{A:Around}{E:vP}{s:Shared}
end
section
variable {c:aP}{C:Cx}{S:AS}{F F':G}{bs az:aA}{s s':Shared}{A:Around}{X:cK}{K:cw}
theorem St.Hu (z:St c C F bs S s)(m:ba c F bs s s')(hn:s.heap.get? a=none)(ha:s'.heap.get? a=some ob)(hr:fm c F (bs++[a]) s'.heap a o)(k:K (.ref S.heap.length) {S with heap:=S.heap++[o]}) :
 WV c C c.V F bs s.heap K (.ref a) s':=by
 obtain f:=z.ez hn;obtain z':=(z.keep m).adopt f ha (o:=o) hr;refine ⟨F,bs++[a],.ref S.heap.length,_,Step.adopt (.keep m) hn,z',.ref ?_,k⟩;refine z.wd.len▸?_;simp
theorem St.K3 (z:St c C F bs S s)(hk:bs[k]?=some a)(ho:S.heap[k]?=some o)(co:o≠.gone)(hs:Heap.SameBut a s.heap h')(he:s'.heap=h')(Hh:s'.os=s.os)(hg:s'.gens=s.gens)
 (dL:∃ob,h'.get? a=some ob) (hr:fm c F bs h' a o'):Step C.own F bs s.heap F bs s'.heap/\St c C F bs {S with heap:=S.heap.set k o'} s':=by
 subst he;have T:ff a s s':=⟨λb q o e=>(hs.2 b q).trans e,dL,Hh,hg⟩
 exact ⟨.upd T (.inl (bJ hk)),z.upd T hk ho co hr⟩
end
section
variable {c:aP}{C:Cx}{S:AS}{F F':G}{bs az:aA}{s s':Shared}{A:Around}{X:cK}{pos:Pos}
theorem qa (n:Nat):Builtin.Range.rangeSize 0 (n:Int) 1=n:=by delta Builtin.Range.rangeSize;simp;exact zN
theorem uP (n:Nat)(h:n < 2 ^ 62):Builtin.Range.small 0 (n:Int) 1=true:=by
 delta Builtin.Range.small;obtain e:Builtin.Range.rangeFitsLong (n:Int)=true:=by delta Builtin.Range.rangeFitsLong;simp;exact Int.ofNat_lt.mpr (mw h rfl)
 rw [qa];simp [e];decide +kernel
theorem g8 {x:Str}{px:Pos}{f:Expr}{args:cz}{K:bW->(aI->Prop)->cR}
 (h:Ev c C f S (λv ac=>v=.raw (.type "range")/\oR c C pos args ac (λvs aC=>∃n:Nat,vs=[.int n]/\n < 2 ^ 62/\K ((List.range n).map λ(i:Nat)=>AV.int i) (λzz=>True) aC) X) X)
 (he:eval (.Call f args [] pos) C.env=(do callWith pos (<-eval f C.env) [] (backTo pos (starEach args C.env)) (backToKw pos (keywordEach [] C.env))):=by rfl)
 (sK:(backTo pos (starEach args C.env)).any (·.1)=false:=by rfl)
 (hl:mM (backTo pos (starEach args C.env))=false:=by rfl):lD c C (.Name x px) (.Call f args [] pos) S K X:=by
 refine AG (kY h λv ac U0=>e0a1 U0 λh1 h2=>⟨h1,λA F bs s hA z=>(h2 A F bs s hA z).mono (λvs aC U1=>e1a2 U1 λn e hn k=>⟨0,n,1,(.inl (aH e rfl rfl)),(uP n hn),n,(qa n),?_⟩) λzz zz q=>q⟩) he sK hl;obtain this:(λ(i:Nat)=>AV.int (0+(i:Int)*1))=λ(i:Nat)=>AV.int i:=by funext i;simp
 refine rE this ?_;exact k
end
noncomputable def slotAt (Kf:Frag)(Cl:Addr)(name:Str):Option Nat:=match findIn Kf (.ref Cl) name with
 | some (some (.ref p))=>if (plainGet Kf Cl name&&(clsIn Kf Cl).isSome&&specialIn Kf (.ref p) "__get__"==some (some (.builtin "member_descriptor.__get__"))&&takesIn Kf (.ref p)==some true &&
  findIn Kf (.ref Cl) "__setattr__"==some (some (.builtin "object.__setattr__"))&&plainOver Kf Cl&&takerIn Kf Cl name==some (some (.ref p))&&typeIn Kf (.ref p)==some (.type "member_descriptor"))=true then slotIn Kf p Cl else none
 | _=>none
noncomputable def il (vs:uj)(i:Nat)(v:AV):uj:=(vs++List.replicate (i+1 - vs.length) none).set i (some v)
def m8 (S:AS)(k d:Nat)(Cl:Addr)(vs:uj):Prop:=((S.heap[k]?=some (.inst Cl d)/\vs=[])\/S.heap[k]?=some (.slots Cl d vs))/\∃kvs,S.heap[d]?=some (.aN kvs)
section
variable {c:aP}{C:Cx}{S:AS}{F F':G}{bs az:aA}{s s':Shared}{A:Around}{X:cK}{K:cw}{mg mb:dZ}{pos:Pos}{Kf:Frag}{Cl:Addr}
theorem oj.length (h:oj c F bs vs rs):rs.length=vs.length:=by
 induction h with
 | nil=>rfl
 | no _ ih=>simp [ih]
 | yes _ _ ih=>simp [ih]
theorem oj.get (h:oj c F bs vs rs):∀{i:Nat} {v:AV},vs[i]?=some (some v)->∃r,rs[i]?=some (some r)/\c.V F bs v r:=by
 induction h with
 | nil=>intro i v e;simp at e
 | no _ ih=>intro i v e;cases i with
   | zero=>simp at e
   | succ i=>exact ih (e)
 | yes hv _ ih=>intro i v e;cases i with
   | zero=>simp at e;subst e;exact (ae _ rfl hv)
   | succ i=>exact ih (e)
theorem oj.append (h:oj c F bs vs rs)(h':oj c F bs us ts):oj c F bs (vs++us) (rs++ts):=by
 induction h with
 | nil=>exact h'
 | no _ ih=>exact .no ih
 | yes hv _ ih=>exact .yes hv ih
theorem oj.K4:∀n:Nat,oj c F bs (List.replicate n none) (List.replicate n none):=by
 intro n;induction n with
 | zero =>exact .nil
 | succ n ih =>exact .no (ih)
theorem oj.set (h:oj c F bs vs rs)(hv:c.V F bs v r):∀i,oj c F bs (vs.set i (some v)) (rs.set i (some r)):=by
 induction h with
 | nil=>intro i;exact .nil
 | no hh ih=>intro i;cases i with
   | zero=>exact .yes hv hh
   | succ i=>exact .no (ih i)
 | yes hx hh ih=>intro i;cases i with
   | zero=>exact .yes hv hh
   | succ i=>exact .yes hx (ih i)
noncomputable abbrev th (Cl dx:Addr)(rs:List qN):Obj:={cls:=.ref Cl,dict:=some dx,data:=.plain,slots:=rs.toArray}
inductive Hv (c:aP)(F:G)(bs:aA)(s:Shared)(S:AS)(Cl:Addr)(k d:Nat)(vs:uj)(r:Value):Prop
 | mk (x dx:Addr) (rs:List qN) (od:Obj) (h1:r=.ref x) (h2:bs[k]?=some x) (h3:bs[d]?=some dx) (h4:oj c F bs vs rs) (h5:InstAt s.heap x (th Cl dx rs) Cl (some od)) (h6:∃o,S.heap[k]?=some o/\o≠.gone)
theorem St.Ft (z:St c C F bs S s)(h:m8 S k d Cl vs)(hv:c.V F bs (.ref k) r) :
 Hv c F bs s S Cl k d vs r:=by
 obtain ⟨h1,kvs,h2⟩:=h;refine e1a1 hv.inv λx o2 hk=>?_;refine rE o2 ?_;rcases h1 with ⟨h1,rfl⟩ | h1
 . refine e0a1 (z.wd.obj _ _ _ hk h1) λrz zz=>?_;refine e1a1 rz λdx e1 e2=>?_;clear rz;refine e0a1 (z.wd.obj _ _ _ e1 h2) λt0 zz=>?_;refine e1a1 t0 λrs zu zz=>?_;clear t0;obtain ⟨es,n,e3,_⟩:=zu;exact ⟨x,dx,[],_,rfl,hk,e1,.nil,⟨e2,rfl,rfl,e3⟩,_,h1,by simp⟩
 . refine e0a1 (z.wd.obj _ _ _ hk h1) λo9 zz=>?_;refine e2a2 o9 λdx rs e1 e4 e2=>?_;clear o9;refine e0a1 (z.wd.obj _ _ _ e1 h2) λo8 zz=>?_;refine e1a1 o8 λzz zv zz=>?_;clear o8;obtain ⟨es,n,e3,_⟩:=zv;exact ⟨x,dx,rs,_,rfl,hk,e1,e4,⟨e2,rfl,rfl,e3⟩,_,h1,by simp⟩
set_option tactic.hygienic true in
theorem rO (h:slotAt Kf Cl name=some i):∃p,plainGet Kf Cl name=true/\(clsIn Kf Cl).isSome=true/\findIn Kf (.ref Cl) name=some (some (.ref p))/\specialIn Kf (.ref p) "__get__"=some (some (.builtin "member_descriptor.__get__"))/\takesIn Kf (.ref p)=some true /\
 findIn Kf (.ref Cl) "__setattr__"=some (some (.builtin "object.__setattr__"))/\plainOver Kf Cl=true/\takerIn Kf Cl name=some (some (.ref p))/\typeIn Kf (.ref p)=some (.type "member_descriptor")/\slotIn Kf p Cl=some i:=by
 delta slotAt at h
 split at h
 . rename_i p hp
   split at h
   . rename_i q;simp only [eZ,beq_iff_eq] at q;refine e0a1 q λo1 q8=>?_;refine e0a1 o1 λo3 q7=>?_;clear o1;refine e0a1 o3 λo7 q6=>?_;clear o3;refine e0a1 o7 λzw q5=>?_;clear o7;obtain ⟨⟨⟨q1,q2⟩,q3⟩,q4⟩:=zw;exact ⟨p,q1,q2,hp,q3,q4,q5,q6,q7,q8,h⟩
   . exact bx h
 . exact bx h
theorem v9 (B:dU c mg mb Kf)(hs:slotAt Kf Cl name=some i)(z:St c C F bs S s)(hi:m8 S k d Cl vs)(ho:c.V F bs (.ref k) ro)(hg:vs[i]?=some (some v))(A3:∀u,v≠.raw u)(kk:K v S) :
 WP c C A c.V (getAttr ro name true) F bs s K X:=by
 obtain ⟨x,dx,rs,od,U2,hk,hd,oB,I,_⟩:=z.Ft hi ho;refine rE U2 ?_;refine e1a0 (rO hs) λp o6=>?_;refine e0a6 o6 λp1 p2 p3 p4 p5 p6 zx=>?_;clear o6;obtain ⟨p7,p8,p9,Da⟩:=zx;refine e1a1 (oB.get hg) λr hr Yh=>?_;obtain XX:=z.uH B;refine WP.kept z λQ E q=>?_;refine get_bind XX I (plainGet_of p1).1 (findObj_data p2 p3 p4 p5) (plainGet_of p1).2 (wpAny_call (slot_get (s:={s with toks:=s.toks+1}) XX I Da (v:=r) (by simp [hr]) (handed_on (pT Yh A3) (q _ _ (.toks ..) (ae v Yh kk)))))
open Builtin Builtin.ObjectAttr Builtin.Getset_descriptor in
theorem yJ (XX:Kf.In s.heap)(I:InstAt s.heap x ox Cl od)(hp:slotIn Kf p Cl=some i)(hi:i < 1000)
 (h:R (.ok (.ret .none)) {s with heap:=s.heap.update x λo=>{o with slots:=(o.slots++Array.replicate (i+1 - o.slots.size) none).setIfInBounds i (some v)}}) :
 codeAny (model c.prog c.w) A (.call (.builtin "member_descriptor.__set__") ⟨[.ref p,.ref x,v],[]⟩) R s:=by
 refine e7a0 (slot_of XX hp) λn tn owner behind tb d sl o5=>?_;refine e1a4 o5 λcd ho hc hm hb Gz=>?_;clear o5;obtain rfl:=Gz;obtain ⟨hh,g,dr,t,os⟩:=s;have L0:=I.type (M:=model c.prog c.w);have L1:=looks_mroIn (M:=model c.prog c.w) XX hm;have L2:Looks (model c.prog c.w) hh (Slots.slotNamesOf (.ref Cl)) cd.slotNames:=(looks_clsIn XX hc).andThen .now;have hx:=I.at_;dsimp only at ho hx L0 L1;have f0:=looks_field (M:=model c.prog c.w) ho 0 (v:=.str n tn) rfl;have f1:=looks_field (M:=model c.prog c.w) ho 1 (v:=owner) rfl;have f3:=looks_field (M:=model c.prog c.w) ho 3 (v:=.builtin "proto.slot#set") rfl;have f4:=looks_field (M:=model c.prog c.w) ho 4 (v:=.int behind tb) rfl;refine codeAny_call_builtin KF.slot_mset.plain KF.entry_mset (KF.slot_mset.check _ _ _ _ _ _ _ _ (ae _ ho rfl) (KF.args_mset _ _ _) ?_);unfold Builtin.«member_descriptor.__set__» descrSet descrStoreThrough descrCheckInstance descrNameAndClass isInstance;have f5:Looks (model c.prog c.w) hh (descrItself (.ref p)) [.ref p]:=((Looks.ld (part:=none) ho).andThen .now).andThen (Looks.of_pure (by kernel_rfl))
 repeat lk
 refine ⟨Code.quiet_builtin _ (by decide +kernel),codeAny_builtin KF.entry_slotset ?_⟩;unfold Builtin.«proto.slot#set» Slots.target
 repeat lk
 rw [if_neg hb];refine bo (ai ?_);unfold setSlotAt;dsimp only;rw [if_neg (by rw [sizeLine_eq];exact Nat.not_le.mpr (mw hi rfl))];exact wpAny_updatePart hx (bo h)
theorem wa (B:dU c mg mb Kf){K:cR}(hs:slotAt Kf Cl name=some i)(JF:i < 1000)(z:St c C F bs S s)(hi:m8 S k d Cl vs)(ho:c.V F bs (.ref k) ro)(hv:c.V F bs v r)
 (kk:K {S with heap:=S.heap.set k (.slots Cl d (il vs i v))}):WP c C A (λ_ _ (_:Unit) (_:Unit)=>True) (setAttr ro name r) F bs s (λzz=>K) X:=by
 obtain ⟨x,dx,rs,od,U3,hk,hd,oB,I,o,fw,hng⟩:=z.Ft hi ho;refine rE U3 ?_;refine e1a0 (rO hs) λp o4=>?_;refine e0a6 o4 λp1 p2 p3 p4 p5 p6 An=>?_;clear o4;obtain ⟨p7,p8,p9,Da⟩:=An;obtain XX:=z.uH B;refine set_plain XX I p6 (osa_descr (s:={s with toks:=s.toks+1}) KF.slot_mset XX I p7 p8 p9 (yJ (s:={s with toks:=s.toks+1}) XX I Da JF ?_));generalize bG:({s with heap:=s.heap.update x λo=>{o with slots:=(o.slots++Array.replicate (i+1 - o.slots.size) none).setIfInBounds i (some r)},toks:=s.toks+1}:Shared)=am;obtain g:am.heap.get? x=some (th Cl dx ((rs++List.replicate (i+1 - rs.length) none).set i (some r))):=by refine bG▸?_;rw [jS _ I.at_ rfl];obtain e:Array.replicate (i+1 - rs.length) (none:qN)=(List.replicate (i+1 - rs.length) none).toArray:=rfl;simp only [th,List.size_toArray,e,List.append_toArray,List.setIfInBounds_toArray]
 obtain Hw:Heap.SameBut x s.heap am.heap:=by refine bG▸?_;exact Heap.SameBut.update ..
 obtain T:ff x s am:=⟨λb q o e=>(Hw.2 b q).trans e,(bQ _ g),by rw [<-bG],by rw [<-bG]⟩
 refine ⟨F,bs,(),_,.upd T (.inl (bJ hk)),z.upd T hk fw hng (o':=.slots Cl d (il vs i v)) (ck dx _ hd ?_ g),trivial,kk⟩;refine rE oB.length ?_;exact (oB.append (.K4 _)).set hv i
def Bo (c:aP)(C:Cx)(name:Str)(ov v:AV)(S:AS)(K:cR)(X:cK):Prop :=
 ∀A F bs s ro r,i7 C A->St c C F bs S s->c.V F bs ov ro->c.V F bs v r->WP c C A (λ_ _ (_:Unit) (_:Unit)=>True) (setAttr ro name r) F bs s (λzz=>K) X
abbrev uQ (c:aP)(C:Cx)(name:Str)(ov:AV)(S:AS)(K:cw)(X:cK):Prop:=RP c C (λr=>getAttr r name true) ov S K X
theorem eC (B:dU c mg mb Kf)(Cl:Addr)(hs:slotAt Kf Cl name=some i)(hi:m8 S k d Cl vs)(hg:vs[i]?=some (some v))(A3:∀u,v≠.raw u)(kk:K v S):uQ c C name (.ref k) S K X :=
 λA F bs s r hA z hv=>v9 B hs z hi hv hg A3 kk
theorem br (B:dU c mg mb Kf)(Cl:Addr)(dL:iG Kf Cl=true)(t3:(findIn Kf (.ref Cl) name==some none)=true)(hi:fT S k d Cl kvs)(hg:b9 kvs name=some v)(A3:∀u,v≠.raw u)(kk:K v S):uQ c C name (.ref k) S K X :=
 λA F bs s r hA z hv=>pU B dL t3 z hi hv hg A3 kk
theorem gb (B:dU c mg mb Kf)(Cl:Addr){K:cR}(hs:slotAt Kf Cl name=some i)(JF:i < 1000)(hi:m8 S k d Cl vs)(kk:K {S with heap:=S.heap.set k (.slots Cl d (il vs i v))}):Bo c C name (.ref k) v S K X :=
 λA F bs s ro r hA z ho hv=>wa B hs JF z hi ho hv kk
theorem cP (B:dU c mg mb Kf)(Cl:Addr){K:cR}(dL:storeOk Kf Cl name=true)(hi:fT S k d Cl kvs)(hsz:kvs.length<=1000)(kk:K {S with heap:=S.heap.set d (.aN (dC kvs name v))}):Bo c C name (.ref k) v S K X :=
 λA F bs s ro r hA z ho hv=>v5 B dL z hi ho hv hsz kk
@[reducible] def K5 (c:aP) (C:Cx) (name:Str) (K:cw) (X:cK):cw:=λo S=>uQ c C name o S K X
@[reducible] def K6 (c:aP) (C:Cx) (name:Str) (v:AV) (K:cR) (X:cK):cw:=λo S=>Bo c C name o v S K X
theorem bc {value:Expr}{name:Str}(h:Ev c C value S (K5 c C name K X) X)
 (ib:attributeBase value name C.env (eval value C.env)=eval value C.env:=by rfl):Ev c C (.Attribute value name pos) S K X:=by
 intro A F bs s hA z;show WP c C A c.V (do
  let o <-attributeBase value name C.env (eval value C.env)
  standAt pos.atName
  let r <-holding [o] (getAttr o name true)
  letTemporaryGo value o r
  pure r) F bs s K X
 refine rE ib ?_;refine WP.bind (h A F bs s hA z) λF₁ bs₁ ac Z o ro al ap ho k₁=>?_;refine WP.standAt (WP.bind (WP.holding (k₁ A F₁ bs₁ Z ro hA ap ho)) λaT ax aC am v rv an aG hv k₂=>?_);exact ai (wpAny_letTemporaryGo (WP.pure aG hv k₂))
theorem cg {K:cR}(h:Ev c C o S (K6 c C name v K X) X):vD c C (.Attribute o name pos) v S K X:=by
 intro A F bs s r hA z hv
 skip
 refine WP.bind (WP.holding (h A F bs s hA z)) λF₁ bs₁ ac Z ov K7 al ap oB kk=>?_;exact WP.standAt (ai (wpAny_holding (aJ (kk A F₁ bs₁ Z K7 r hA ap oB (al.V hv)) (λzz am q=>wpAny_release q) λzz zz e=>e)))
theorem fG {K:gw}
 (h:Ev c C o S (λov ac=>uQ c C name ov ac (λv aC=>Ev c C value aC (λw aO=>iX c C (inplaceOp op) v w aO (λr di=>Bo c C name ov r di (λfu=>K .next fu) X) X) X) X) X) :
 jK c C (.AugAssign (.Attribute o name DB) op value pos) S K X:=by
 intro A F bs s hA z;refine WP.standAt (WP.bind (h A F bs s hA z) λF₁ bs₁ ac Z ov K7 al ap oB k₁=>?_);refine WP.bind (R:=c.V) (K₁:=λr di=>Bo c C name ov r di (λfu=>K .next fu) X) ?_ λd7 ce di cr r rr ca cW hr kk=>?_
 . refine WP.holding (WP.standAt (WP.bind (k₁ A F₁ bs₁ Z K7 hA ap oB) λaT ax aC am u ru an aG hu k₂=>?_));refine WP.bind (WP.holding (k₂ A aT ax am hA aG)) λbn aK aO aM w XK aE aR hw bv=>?_;exact WP.standAt (wpAny_operating (bv A bn aK aM ru XK hA aR (aE.V hu) hw))
 . refine WP.standAt (ai (wpAny_holding (aJ (kk A d7 ce cr K7 rr hA cW (ca.V oB) hr) (λzz eF q84=>q84.casesOn λfb dJ zz fu dl fc zz ja=>?_) λzz zz e=>e)));exact ai (wpAny_release (bo ⟨fb,dJ,.next,fu,dl,fc,rfl,ja⟩))
end
end Mine.Internal
namespace Mine.Internal
open PySem
theorem meets_bool_new_listM (l:Addr)(items:Array Value)(Hx:(items.size:Int) < 2 ^ 63) :
 Meets (Builtin.«bool.__new__» ⟨[.type "bool",.ref l],[]⟩) (λzz R s=>s.heap.IsList l items/\R (.ok (.ret (.bool (!items.isEmpty)))) {s with toks:=s.toks+1+1}) :=
 Meets.of_wp λprog w A R s hs=>by
  obtain ⟨hl,hs⟩:=hs;obtain f1:=F.conv_sub_bool
  repeat (any_goals (first | assumption | (with_reducible refine wpAny_truthy_list hl Hx ?_) | wp_step))
  all_goals first | exact ⟨_,rfl,hs⟩ | exact hs | skip
end Mine.Internal
namespace Mine.Internal
open PySem PyProof.Rows PySem.W
section
variable {c:aP}{C:Cx}{S:AS}{F F':G}{bs az:aA}{s s':Shared}{A:Around}{X:cK}{K:cw}{mg mb:dZ}{pos:Pos}{Kf:Frag}{Cl:Addr}
theorem DV (h:bZ S v xs)(hl:xs.length < 2 ^ 63)(k:K (.bool (!xs.isEmpty)) S):eO c C (.type "bool") [v] S K X:=by
 intro A F bs s rs hA z hv;refine e1a1 hv.one λr AC h1=>?_;refine rE AC ?_;clear hv;refine e2a3 (z.seq h h1) λl vs Hy hL bi zz=>?_;refine rE Hy ?_;have hlen:=bi.length;refine WP.kept z λQ E q=>call_bool_1 (meets_bool_new_listM l vs.toArray (by simp [hlen];exact pd hl)) (aH hL.isList rfl (q _ _ (.toks ..) (ae _ ?_ k)));obtain this:(!vs.toArray.isEmpty)=!xs.isEmpty:=by cases xs <;> cases vs <;> simp_all
 simp only [this];exact .bool _
theorem Bp (h:bZ S v xs)(hl:xs.length<=sizeLine)(k:K (.tup xs) S):eO c C (.type "tuple") [v] S K X:=by
 intro A F bs s rs hA z hv;refine e1a1 hv.one λr Hz h1=>?_;refine rE Hz ?_;clear hv;refine e2a3 (z.seq h h1) λl vs Bm hL bi zz=>?_;refine rE Bm ?_;refine call_tuple_list hL.isList (λh' hk=>?_) (by simp [bi.length,hl]);obtain kp:Kept s {s with heap:=h'.push {cls:=.type "tuple",data:=.seq vs.toArray}}:=⟨λb o e=>cI _ (hk b o e),rfl,rfl⟩
 obtain hn:s.heap.get? h'.objs.size=none:=by
  cases e:s.heap.get? h'.objs.size with
  | none=>rfl
  | some o=>exact absurd (Heap.lt_size (hk _ _ e)) (Nat.lt_irrefl _)
 obtain ha:(h'.push {cls:=.type "tuple",data:=.seq vs.toArray}).get? h'.objs.size=some (iP vs):=dw _ rfl;obtain z':=(z.keep (kp.moves (c:=c) (F:=F) (bs:=bs))).l2 (z.ez hn) ha (by simp [iP]);refine ⟨plus F h'.objs.size (iP vs),bs,.tup xs,S,Step.l2 (.keep (kp.moves (c:=c))) (z.ez hn).F hn,z',.tup bO ?_,k⟩;simpa using a6.mono (nb:=[]) (aQ (z.ez hn).F) bi
theorem nE.dictAt {Kt:Type} [DecidableEq Kt] {knd:KeyKind c.prog c.w Kt}{h:Heap}{a:Addr}{kvs:List (Kt×Value)}(x:nE knd h.get? a kvs):∃ep,h.DictAt knd a kvs ep :=
 let ⟨es,n,e,hk,hp,hn,_⟩:=x;(ji n _ es e (aH rfl rfl rfl) rfl hk hp hn)
noncomputable def ti (k:Nat)(v':AV):fq->fq->Prop
 | [],[]=>True
 | p::l,q::r=>p.1=q.1/\(q.2=p.2\/(p.2=.ref k/\q.2=v'))/\ti k v' l r
 | _,_=>False
theorem ti.rel (hv:∀r,c.V F bs (.ref k) r->c.V F bs v' r)(hr:ti k v' l l')(h:c.SV F bs l rs):c.SV F bs l' rs:=by
 induction l generalizing l' rs with
 | nil =>
   cases l' with
   | nil=>exact h
   | cons=>exact hr.elim
 | cons p l ih =>
   cases l' with
   | nil=>exact hr.elim
   | cons q l' =>
     refine e0a2 hr λe hq t=>?_;refine e2a2 h.inv λw r GN hx ht=>?_;refine rE GN ?_;refine rE e ?_;refine .cons ?_ (ih t ht)
     (refine bh hq (λhq=>?_) (λGP=>?_);rotate_left;refine e0a1 GP λq1 q2=>?_;rotate_right)
     . rw [hq];exact hx
     . rw [q2];rw [q1] at hx;exact hv _ hx
end
noncomputable def lq (Kf:Frag)(Cl:Addr)(name:Str)(f:Addr):Bool:=fY Kf Cl name f&&specialIn Kf (.ref f) "__get__"==some (some (.builtin "function.__get__"))&&takesIn Kf (.ref f)==some false&&!copiedNames.contains name
section
variable {c:aP}{C:Cx}{S:AS}{F F':G}{bs az:aA}{s s':Shared}{A:Around}{X:cK}{K:cw}{mg mb:dZ}{pos:Pos}{Kf:Frag}{Cl:Addr}
theorem qb (B:dU c mg mb Kf)(Cl f:Addr)(dL:lq Kf Cl name f=true)(hi:fT S k d Cl kvs)(t3:b9 kvs name=none)(kk:K (.bm "method" (.ref f) (.ref k)) S):uQ c C name (.ref k) S K X:=by
 intro A F bs s r hA z hv;simp only [lq,fY,eZ,beq_iff_eq,Bool.not_eq_true'] at dL;refine e0a1 dL λKe q3=>?_;refine e0a1 Ke λKg q2=>?_;clear Ke;refine e0a1 Kg λA2 q1=>?_;clear Kg;refine e0a1 A2 λDL c3=>?_;clear A2;obtain ⟨⟨c0,c1⟩,c2⟩:=DL;simp only [iG,eZ,beq_iff_eq] at c0;refine e0a1 c0 λKc g5=>?_;refine e0a1 Kc λKd g4=>?_;clear Kc;refine e0a1 Kd λA4 g3=>?_;clear Kd;refine e0a1 A4 λg1 g2=>?_;clear A4;obtain ⟨x,dx,rs,es,m,rfl,_,_,I,_,hk,hp,oq,_⟩:=z.inst hi hv;refine e1a1 (any_some g5) λcd A0 DJ=>?_;obtain hf:findObj Kf Cl (some (bj es m)) name=some (.bind (.builtin "function.__get__") (.ref f)):=by
  delta findObj;refine (af A0)▸(af c1)▸?_;simp only [Option.bind_some,q1,q2,W.ownOf,DJ,if_true,l4 hk hp]
  (refine bh (bE.get name oq) (λo91=>?_) (λo92=>?_);refine e2a2 o91 λv' w e1 e2 e3=>?_;rotate_left;refine e0a1 o92 λe1 e2=>?_;rotate_right)
  . exact bx (aF (af t3) e1)
  . rw [e2];simp only [Option.bind_some,q3,Bool.false_and,jT,if_false]
 obtain XX:=z.uH B;refine get_bind XX I g1 hf g2 (wpAny_call (fn_get (s:={s with toks:=s.toks+1}) XX c2 (handed_on rfl ?_)));obtain hn:s.heap.get? s.heap.objs.size=none:=St.ic s;obtain mv:ba c F bs s {s with heap:=s.heap.push (methodObj (.ref f) (.ref x)),toks:=s.toks+1}:=⟨λb o e=>cI _ e,rfl,rfl⟩
 obtain ha:(s.heap.push (methodObj (.ref f) (.ref x))).get? s.heap.objs.size=some (methodObj (.ref f) (.ref x)):=dw _ rfl;refine ⟨_,bs,.bm "method" (.ref f) (.ref k),S,.frozen mv (z.jm hn) hn,z.i6 mv hn ha,.bm (r:=.ref x) ?_ ?_,kk⟩
 . exact bO
 . simpa using cu.mono (nb:=[]) (aQ (z.jm hn)) hv
theorem DW (z:St c C F bs S s)(h:bZ S v xs\/v=.tup xs)(hl:xs.length<=sizeLine)(hv:c.V F bs v r)
 (hq:∀h' vs,ba c F bs s {s with heap:=h'}->c.Vs F bs xs vs->Q vs {s with heap:=h'}):StarOf (model c.prog c.w) A E r Q s:=by
 obtain main:∀(a:Addr) (vs:iC) (o:Obj) (T:String) (n:Nat),r=.ref a->s.heap.get? a=some o->o.cls=.type T->o.data=.seq vs.toArray n->T="list"\/T="tuple"->c.Vs F bs xs vs->StarOf (model c.prog c.w) A E r Q s:=by
  intro a vs o T n e ho hc hd hT bi;clear hv;subst e;obtain IU:s.TypeIs (.ref a) T:=(ae o ho hc)
  obtain zz:wpAny (model c.prog c.w) A (collect (.ref a)) Q E s:=by refine wpAny_collect_seq a hT ho hc hd (λh' hk=>?_) (by simp [bi.length,hl]);obtain this:=hq h' vs ⟨hk,rfl,rfl⟩ bi;exact this
  clear hc;rcases hT with rfl | rfl
  . exact ai (wpAny_specialOf IU PySem.F.slot_list_iter.lookup (bo ⟨rfl,zz⟩))
  . exact ai (wpAny_specialOf IU PySem.F.slot_tuple_iter.lookup (bo ⟨rfl,zz⟩))
 rcases h with h | h
 . refine e3a2 (z.uw h hv) λl vs n QX h0 bi=>?_;clear hv;obtain rfl:=QX;exact main l vs _ "list" n rfl h0 rfl rfl (.inl rfl) bi
 . subst h;refine e2a2 hv.inv λzz zz TN ht bi=>?_;obtain rfl:=TN;exact main _ _ _ "tuple" 0 rfl (z.wd.sub _ _ ht) rfl rfl (.inr rfl) bi
theorem Br {e:Expr}{p:Pos}{es:cz}{K:sU}(h:Ev c C e S (λv ac=>∃xs,(bZ ac v xs\/v=.tup xs)/\xs.length<=sizeLine/\oR c C pos es ac (λvs aC=>K (xs++vs) aC) X) X)
 (he:starEach (.Starred e p::es) C.env=(true,eval e C.env)::starEach es C.env:=by rfl):oR c C pos (.Starred e p::es) S K X:=by
 intro A F bs s hA z;refine items_star (aJ (h A F bs s hA z) (λr Z ⟨F₁,bs₁,v,ac,al,ap,hv,xs,U4,hl,k₁⟩=>?_) (λzz zz e=>e)) he;refine DW ap U4 hl hv λh' vs m bi=>?_;obtain aG:=ap.keep m;refine aJ (k₁ A F₁ bs₁ _ hA aG) (λus aM q97=>q97.casesOn λbn aK ws aO aE aR hws bv=>?_) (λx aM q98=>q98.casesOn λbn aK cls aO aE aR hx bv=>?_)
 . exact ⟨bn,aK,xs++ws,aO,(al.trans (.keep m)).trans aE,aR,(aE.Vs bi).append hws,bv⟩
 . exact ⟨bn,aK,cls,aO,(al.trans (.keep m)).trans aE,aR,hx.back (al.trans (.keep m)).mono,bv⟩
theorem uR (B:dU c mg mb Kf){o:Expr}{name:Str}{apos:Pos}{args:cz}{n:Nat}(hh:C.handled=none)(hn:n<=C.n)
 (h:Ev c C o S (λov ac=>uQ c C name ov ac (λfv aC=>∃f self,fv=.bm "method" (.ref f) self/\fnIn Kf f=true/\oR c C pos args aC (λvs aO=>bC c n (.ref f) (self::vs) aO.heap (λv H'=>K v {aO with heap:=H'})) X) X) X)
 (ib:attributeBase o name C.env (eval o C.env)=eval o C.env:=by rfl)
 (pu:methodCallForm (args.length+([]:List Keyword).length) (backTo pos (starEach args C.env)) (backToKw pos (keywordEach [] C.env))=false:=by rfl)
 (be:(backTo pos (starEach args C.env)).any (·.1)=true:=by rfl)
 (hl:mM (backTo pos (starEach args C.env))=false:=by rfl):Ev c C (.Call (.Attribute o name apos) args [] pos) S K X:=by
 intro A F bs s hA z;simp only [arm_eval_Call,ib];refine ai (aJ (h A F bs s hA z) (λr Z U5=>U5.casesOn λF₁ bs₁ ov ac al ap oB k₁=>?_) λzz zz e=>e);refine ai (wpAny_standAt ?_);obtain yF:methodCallPos false o C.env apos pos=pure pos:=rfl;delta methodCall calleeOf;refine rE pu ?_;refine ai (wpAny_holding (ai (aJ (k₁ A F₁ bs₁ Z r hA ap oB) (λfr am ⟨aT,ax,fv,aC,an,aG,Av,f,self,e,Kl,k₂⟩=>?_) λx am U6=>U6.casesOn λaT ax cls aC an aG hx k₂=>⟨aT,ax,cls,aC,al.trans an,aG,hx.back al.mono,k₂⟩)));subst e;have wb:=al.trans an;refine e2a2 Av.inv λq oI TM kU rP=>?_;refine rE TM ?_;refine bo (ai (wpAny_of_eq yF ?_));refine ks_call (P:=λh=>MethP Kf q f oI h) be (keeps_M Kl) ?_;refine aJ (gh hA aG k₂ hl) (λa aM K8=>K8.casesOn λbn aK vs aO aE aR U7=>e0a1 U7 λoA bi bv=>?_) (λx aM U8=>U8.casesOn λbn aK cls aO aE aR hx bv=>⟨bn,aK,cls,aO,wb.trans aE,aR,hx.back wb.mono,bv⟩);obtain ⟨ps,kw⟩:=a;have pr:kw=[]:=oA;clear oA K8;refine rE pr ?_;have hq:aM.heap.get? q=some (methodObj (.ref f) oI):=aR.wd.sub _ _ (aE.sub _ _ kU);refine ⟨⟨hq,aR.uH B⟩,?_⟩;show wpAny _ _ (call (.ref q) ps) _ _ _;obtain zF:=wb.trans aE;obtain hd:=hA.depth;obtain hu:=hA.units;refine wpAny_call (method_call hq ?_);refine codeAny_mono (bv A bn aK aM (oI::ps) C.frames (hA.handled.trans hh) (se hd hn) (r9 hu hn) hA.frames aR.frames aR.wd (.cons (aE.V rP) bi)) λr s' ⟨F',az,v,H',rv,own,e,gM,st,wd,mt,k⟩=>?_;refine rE e ?_;exact ⟨F',az,v,{aO with heap:=H'},zF.trans (st.widen λa ha=>.inr (gM a ha)),aR.after st gM wd,mt,k⟩
theorem mJ.star (ns:a8)(a:Str)(hl:args.length=ns.length)(hsz:xs.length<=sizeLine)
 (h:∀rs us:iC,rs.length=ns.length->bindArgs fd ⟨rs++us,[]⟩=(do let t <-newTuple us;pure (ns.zip rs++[(a,t)]))):mJ c fd (args++xs) (ns.zip args++[(a,.tup xs)]):=by
 intro A F bs H s rs E Q wd hv k;obtain ⟨r1,r2,rfl,h1,h2⟩:∃r1 r2,rs=r1++r2/\c.Vs F bs args r1/\c.Vs F bs xs r2:=by
  refine (ck (rs.take args.length) (rs.drop args.length) ((List.take_append_drop _ _).symm) ?_ ?_)
  . simpa using a6.take args.length hv
  . simpa using a6.drop args.length hv
 refine rE (h r1 r2 (h1.length.trans hl)) ?_;refine ai (wpAny_newTuple ?_ (by refine rE h2.length ?_;exact hsz));obtain hn:s.heap.get? s.heap.objs.size=none:=St.ic s;obtain mv:ba c F bs s {s with heap:=s.heap.push {cls:=.type "tuple",data:=.seq r2.toArray}}:=⟨λb o e=>cI _ e,rfl,rfl⟩
 obtain ha:(s.heap.push {cls:=.type "tuple",data:=.seq r2.toArray}).get? s.heap.objs.size=some (iP r2):=dw _ rfl;have hF:F s.heap.objs.size=none:=by
  cases q:F s.heap.objs.size with
  | none=>rfl
  | some o=>exact iY (aF (af (wd.sub _ _ q)) hn)
 obtain sub:=aQ (ob:=iP r2) hF;refine bo (k (plus F s.heap.objs.size (iP r2)) _ _ (.frozen mv hF hn) (Wd.i6 (S:=⟨[],H⟩) wd mv hn ha) ?_);refine bE.append (bE.zip (by simpa using a6.mono (nb:=[]) sub h1)) (.cons (.tup bO ?_) .nil);simpa using a6.mono (nb:=[]) sub h2
end
end Mine.Internal
namespace Mine.Internal
open PySem
open Sem (wp)
namespace Fm
theorem slot_li_ga:Slot "list_iterator" "__getattribute__" "object.__getattribute__" :=
 .of (owner:="object") (n:="__getattribute__") (rfl) (rfl) (rfl) (rfl)
  (by first | exact .inl (rfl) | exact .inr (rfl)) (rfl)
theorem entry_o_ga:entryFor table "object.__getattribute__"=some Builtin.«object.__getattribute__»:=entryFor_of_tree (by kernel_rfl)
theorem args_o_ga (a b:Value):argsOk "object.__getattribute__" ⟨[a,b],[]⟩:=by unfold argsOk;kernel_rfl
theorem type_li_next:typeOf (.builtin "list_iterator.__next__")=pure (.type "wrapper_descriptor"):=by show builtinType _=_;rw [builtinType_eq_fast];kernel_rfl
theorem slot_wd_get:Slot "wrapper_descriptor" "__get__" "wrapper_descriptor.__get__" :=
 .of (owner:="wrapper_descriptor") (n:="__get__") (rfl) (rfl) (rfl) (rfl)
  (by first | exact .inl (rfl) | exact .inr (rfl)) (rfl)
theorem entry_wd_get:entryFor table "wrapper_descriptor.__get__"=some Builtin.«wrapper_descriptor.__get__»:=entryFor_of_tree (by kernel_rfl)
theorem args_wd_get (a b c:Value):argsOk "wrapper_descriptor.__get__" ⟨[a,b,c],[]⟩:=by unfold argsOk;kernel_rfl
theorem no_wd_set:typeLookup (.type "wrapper_descriptor") "__set__"=pure none:=rfl
theorem no_wd_del:typeLookup (.type "wrapper_descriptor") "__delete__"=pure none:=rfl
theorem sub_li:isSubtype (.type "list_iterator") (.type (".".intercalate ("list_iterator.__next__".cutAt '.').dropLast))=pure true:=rfl
end Fm
section
variable {prog:Program}{w:World}{A:Around}{E:vP}{h:Heap}{g:Array GenState}{d:Drawn}{t:Nat}{os:OsState}{a:Addr}{vs:Array Value}
noncomputable abbrev wrapObj (f self:Value):Obj:={cls:=.type "method-wrapper",data:=.fields #[f,self]}
theorem next_get_li (hx:h.get? a=some {cls:=.type "list_iterator",data:=.fields vs})(hq:R (.ok (.ret (.ref h.objs.size))) ⟨h.push (wrapObj (.builtin "list_iterator.__next__") (.ref a)),g,d,t,os⟩) :
 codeAny (model prog w) A (.call (.builtin "wrapper_descriptor.__get__") ⟨[.builtin "list_iterator.__next__",.ref a,.type "list_iterator"],[]⟩) R ⟨h,g,d,t,os⟩:=by
 obtain hT:(⟨h,g,d,t,os⟩:Shared).TypeIs (.ref a) "list_iterator":=⟨_,hx,rfl⟩
 obtain Yi:(⟨h,g,d,t,os⟩:Shared).TypeIs (.builtin "list_iterator.__next__") "wrapper_descriptor":=Fm.type_li_next;obtain f8:=Fm.sub_li;refine codeAny_call_builtin Fm.slot_wd_get.plain Fm.entry_wd_get (Fm.slot_wd_get.check _ _ _ _ _ _ _ _ Yi (Fm.args_wd_get _ _ _) ?_)
 repeat (any_goals (first | assumption | wp_step))
theorem next_entry_li (hx:h.get? a=some {cls:=.type "list_iterator",data:=.fields vs})(hq:Q (.done (.ret (.ref h.objs.size))) ⟨h.push (wrapObj (.builtin "list_iterator.__next__") (.ref a)),g,d,t,os⟩) :
 wpAny (model prog w) A (Builtin.«object.__getattribute__» ⟨[.ref a,.str "__next__" tk],[]⟩) Q E ⟨h,g,d,t,os⟩:=by
 obtain hT:(⟨h,g,d,t,os⟩:Shared).TypeIs (.ref a) "list_iterator":=⟨_,hx,rfl⟩
 obtain Yi:(⟨h,g,d,t,os⟩:Shared).TypeIs (.builtin "list_iterator.__next__") "wrapper_descriptor":=Fm.type_li_next;obtain f4:=slot_listiter_next.lookup;obtain f6:=Fm.slot_wd_get.lookup;obtain f7:=Fm.no_wd_set;obtain f8:=Fm.no_wd_del
 repeat (any_goals (first | assumption | wp_step))
 refine next_get_li hx ?_
 repeat (any_goals (first | assumption | wp_step))
theorem next_call_li (hx:h.get? a=some {cls:=.type "list_iterator",data:=.fields vs})(hq:R (.ok (.ret (.ref h.objs.size))) ⟨h.push (wrapObj (.builtin "list_iterator.__next__") (.ref a)),g,d,t,os⟩) :
 codeAny (model prog w) A (.call (.builtin "object.__getattribute__") ⟨[.ref a,.str "__next__" tk],[]⟩) R ⟨h,g,d,t,os⟩ :=
 codeAny_call_builtin Fm.slot_li_ga.plain Fm.entry_o_ga (Fm.slot_li_ga.check _ _ _ _ _ _ _ _ (show (⟨h,g,d,t,os⟩:Shared).TypeIs (.ref a) "list_iterator" from ⟨_,hx,rfl⟩) (Fm.args_o_ga _ _) (next_entry_li hx hq))
theorem next_attr_li (hx:h.get? a=some {cls:=.type "list_iterator",data:=.fields vs})(hq:Q (.ref h.objs.size) ⟨h.push (wrapObj (.builtin "list_iterator.__next__") (.ref a)),g,d,t+1,os⟩) :
 wpAny (model prog w) A (getAttr (.ref a) "__next__" true) Q E ⟨h,g,d,t,os⟩:=by
 obtain hT:(⟨h,g,d,t+1,os⟩:Shared).TypeIs (.ref a) "list_iterator":=⟨_,hx,rfl⟩
 obtain f2:=Fm.slot_li_ga.lookup;obtain f3:=Fm.slot_li_ga.bind (.ref a)
 repeat (any_goals (first | assumption | wp_step))
 refine next_call_li hx ?_
 repeat (any_goals (first | assumption | wp_step))
 all_goals trace_state
end
end Mine.Internal
namespace Mine.Internal
open PySem PyProof.Rows PySem.W
section
variable {c:aP}{C:Cx}{S:AS}{F F':G}{bs az:aA}{s s':Shared}{A:Around}{X:cK}{K:cw}{mg mb:dZ}{pos:Pos}{Kf:Frag}{Cl:Addr}
theorem wc {K:gw}(ht:fU C)(I:vO)(n:Nat)(h0:I n S)
 (turn:∀n S',I n S'->xd c C test S' (DO c C body orelse I n K X) X):jK c C (.While test body orelse pos) S K X:=by
 intro A F bs s hA z;refine WP.standAt (wpAny_runOwn ?_);refine codeAny_whileLoop (λn s'=>∃F' az S',Step C.own F bs s.heap F' az s'.heap/\St c C F' az S' s'/\I n S') ?_ n (eT F bs S (.refl ..) z h0);intro n Z o1;refine e3a2 o1 λF₁ bs₁ ac al ap hI=>?_;refine aJ (turn n ac hI A F₁ bs₁ Z hA ap) (λb am Yj=>Yj.casesOn λaT ax b' aC an aG hb k₂=>?_) (λx am q49=>q49.casesOn λaT ax cls aC an aG hx k₂=>gY hA ht (al.trans an) aG (hx.back al.mono) k₂);clear Yj;subst hb;have st:=al.trans an;cases b with
 | false =>exact aJ (k₂ A aT ax am hA aG) (λf aM q50=>q50.casesOn λbn aK fl aO aE aR hf bv=>⟨bn,aK,fl,aO,st.trans aE,aR,hf,bv⟩) (λx aM q51=>q51.casesOn λbn aK cls aO aE aR hx bv=>gY hA ht (st.trans aE) aR (hx.back st.mono) bv)
 | true =>
   skip
   refine aJ (k₂ A aT ax am hA aG) (λf aM U9=>U9.casesOn λbn aK fl aO aE aR hf bv=>?_) (λx aM q53=>q53.casesOn λbn aK cls aO aE aR hx bv=>gY hA ht (st.trans aE) aR (hx.back st.mono) bv);cases fl with
   | next=>cases hf;obtain ⟨m,hm,k⟩:=bv;exact (kT m hm bn aK aO (st.trans aE) aR k)
   | cont=>cases hf;obtain ⟨m,hm,k⟩:=bv;exact (kT m hm bn aK aO (st.trans aE) aR k)
   | brk=>clear U9;subst hf;exact ⟨bn,aK,.next,aO,st.trans aE,aR,rfl,bv⟩
   | ret v=>clear U9;refine e1a1 hf λr Gk hr=>?_;clear hf;obtain rfl:=Gk;exact ⟨bn,aK,.ret v,aO,st.trans aE,aR,(ae r rfl hr),bv⟩
theorem DX (h:bZ S v xs)(k:K (.ref S.heap.length) {S with heap:=S.heap++[.gu v 0]}):eO c C (.builtin "iter") [v] S K X:=by
 intro A F bs s rs hA z hv;refine e1a1 hv.one λr Dh h1=>?_;refine rE Dh ?_;clear hv;refine e2a3 (z.seq h h1) λl vs Gj hL bi zz=>?_;clear Dh;obtain rfl:=Gj;refine Calls.call_function_entry (rfl) (rfl) kdk_entry_iter (kdk_args_iter _) ?_;refine ai (m:=someArgs "iter" 1 2 _) (bo ?_);refine ai (wpAny_pyIter_list hL.isList (bo (ae _ rfl ?_)));obtain mv:ba c F bs s {s with heap:=s.heap.push {cls:=.type "list_iterator",data:=.fields #[.ref l,.int 0 0]}}:=⟨λb o e=>cI _ e,rfl,rfl⟩
 refine z.Hu (o:=.gu v 0) mv (St.ic s) (dw _ rfl) ?_ k;exact (ae l (cu.mono (λzz zz e=>e) h1) (dw _ rfl))
theorem yK (h:S.heap[k]?=some (.gu l i))(kk:K (.bm "method-wrapper" (.builtin "list_iterator.__next__") (.ref k)) S):uQ c C "__next__" (.ref k) S K X:=by
 intro A F bs s r hA z hv;refine e1a3 (z.gI hv h) λa Gn ha Dk zz=>?_;obtain rfl:=Gn;refine e1a1 Dk λla h1 h2=>?_;clear Dk;obtain ⟨hp,g,d,t,os⟩:=s;refine next_attr_li h2 ?_;obtain hn:hp.get? hp.objs.size=none:=gp (aZ _);obtain mv:ba c F bs ⟨hp,g,d,t,os⟩ ⟨hp.push (wrapObj (.builtin "list_iterator.__next__") (.ref a)),g,d,t+1,os⟩:=⟨λb o e=>cI _ e,rfl,rfl⟩
 refine ⟨_,bs,.bm "method-wrapper" (.builtin "list_iterator.__next__") (.ref k),S,.frozen mv (z.jm hn) hn,z.i6 mv hn (dw _ rfl),.bm (r:=.ref a) bO ?_,kk⟩;simpa using cu.mono (nb:=[]) (aQ (z.jm hn)) hv
theorem yL (ho:s.heap.get? q=some (wrapObj (.builtin "list_iterator.__next__") self))(hT:s.TypeIs self "list_iterator")
 (h:codeAny (model c.prog c.w) A (.builtin "list_iterator.__next__" ⟨[self],[]⟩) R s):codeAny (model c.prog c.w) A (.call (.ref q) ⟨[],[]⟩) R s:=by
 refine codeAny_of_tree ?_;refine nd_load ho ?_;show wpAny _ _ (checkBoundCall "list_iterator.__next__" ⟨[self],[]⟩ >>= λzz=>again (.builtin "list_iterator.__next__" ⟨[self],[]⟩)) _ _ _;obtain hc:checkBoundCall "list_iterator.__next__" ⟨[self],[]⟩=pure ():=by kernel_rfl
 refine ai (wpAny_of_eq hc (bo ⟨plainId_quiet (by decide +kernel) _,h⟩))
theorem uS {f:Expr}(hh:C.handled=none)
 (h:Ev c C f S (λfv ac=>∃k l i xs,fv=.bm "method-wrapper" (.builtin "list_iterator.__next__") (.ref k)/\ac.heap[k]?=some (.gu l i)/\bZ ac l xs /\
  (match xs[i]? with | some y=>K y {ac with heap:=ac.heap.set k (.gu l (i+1))} | none=>X "StopIteration" {ac with heap:=ac.heap.set k .gone})) X)
 (he:eval (.Call f [] [] pos) C.env=(do callWith pos (<-eval f C.env) [] (backTo pos (starEach [] C.env)) (backToKw pos (keywordEach [] C.env))):=by rfl):Ev c C (.Call f [] [] pos) S K X:=by
 intro A F bs s hA z;rw [he];refine WP.bind (h A F bs s hA z) λF₁ bs₁ ac Z v r al ap hv K9=>e4a3 K9 λk l i xs e hk U4 k₁=>?_;clear K9;subst e;refine e2a2 hv.inv λq oI Dg kU rP=>?_;refine rE Dg ?_;obtain hq:Z.heap.get? q=some (wrapObj (.builtin "list_iterator.__next__") oI):=ap.wd.sub _ _ kU;clear kU;refine e1a3 (ap.gI rP hk) λa Gm ha Di Ye=>?_;obtain rfl:=Gm;refine e1a1 Di λla Yk hit=>?_;clear Di;refine e2a3 (ap.seq U4 Yk) λl' vs e hL bi zz=>?_;obtain rfl:=Value.ref.inj e;obtain hT:Z.TypeIs (.ref a) "list_iterator":=(ae _ hit rfl)
 show wpAny _ _ (callWith pos (.ref q) [] (backTo pos (starEach [] C.env)) []) _ _ _;refine callWith_of (P:=λh=>h.get? q=some (wrapObj (.builtin "list_iterator.__next__") (.ref a))) rfl (λh X=>⟨.machine,.inr (.inl rfl),(Looks.ld (part:=none) X).andThen .now⟩) (evalArgs_nil3 ⟨hq,?_⟩);show wpAny _ _ (call (.ref q) []) _ _ _;refine wpAny_call (yL hq hT (codeAny_builtin entry_listiter_next ?_));rw [Around.under_plainId (by decide +kernel) _];refine e1a0 (id hL) λol hol=>?_;show wpAny _ _ (field (.ref a) 0 >>= _) _ _ Z;refine ai (wpAny_field hit rfl (x:=.ref la) rfl ?_);show wpAny _ _ (if (Value.ref la==Value.none)=true then _ else _) _ _ Z;rw [if_neg (show ¬((Value.ref la==Value.none)=true) from Bool.false_ne_true)];show wpAny _ _ (field (.ref a) 1 >>= _) _ _ Z;refine ai (wpAny_field hit rfl (x:=.int i 0) rfl ?_);show wpAny _ _ (seqItems? (.ref la) >>= _) _ _ Z;refine ai (wpAny_seqItems hol rfl ?_);obtain La:=bJ ha;cases hx:xs[i]? with
 | some y =>
   rw [hx] at k₁;refine e1a1 (bi.get hx) λw hw Lb=>?_;obtain HA:vs.toArray[i]?=some w:=by simpa using hw
   simp only [Int.toNat_natCast,HA];refine ai (wpAny_setField hit rfl (by simp) (bo ?_));generalize bG:({Z with heap:=Z.heap.update a (Obj.mapFields (·.setIfInBounds 1 (rawInt ((i:Int)+1))))}:Shared)=am;obtain g:am.heap.get? a=some {cls:=.type "list_iterator",data:=.fields #[.ref la,.int ((i+1:Nat):Int) 0]}:=by rw [<-bG];show (Z.heap.update a _).get? a=_;rw [jS _ hit (Obj.isFreed_of_fields (Obj.data_mapFields rfl _))];rfl
   obtain Hw:Heap.SameBut a Z.heap am.heap:=by rw [<-bG];exact Heap.SameBut.update ..
   obtain T:ff a Z am:=⟨λb q o e=>(Hw.2 b q).trans e,(bQ _ g),by rw [<-bG],by rw [<-bG]⟩
   exact ⟨F₁,bs₁,y,_,.upd T (.inl La),ap.upd T ha hk (by simp) (o':=.gu l (i+1)) (ae la Yk g),Lb,k₁⟩
 | none =>
   rw [hx] at k₁;obtain HA:vs.toArray[i]?=none:=by simpa using bi.get_none hx
   simp only [Int.toNat_natCast,HA];refine ai (wpAny_rule (ai (wpAny_setField hit rfl (by simp) ?_)));generalize bG:({Z with heap:=Z.heap.update a (Obj.mapFields (·.setIfInBounds 0 Value.none))}:Shared)=am;obtain g:∃o,am.heap.get? a=some o:=by rw [<-bG];exact (bQ _ (jS _ hit (Obj.isFreed_of_fields (Obj.data_mapFields rfl _))))
   obtain Hw:Heap.SameBut a Z.heap am.heap:=by rw [<-bG];exact Heap.SameBut.update ..
   obtain T:ff a Z am:=⟨λb q o e=>(Hw.2 b q).trans e,g,by rw [<-bG],by rw [<-bG]⟩
   obtain aG:=ap.upd T ha hk (by simp) (o':=.gone) trivial;obtain an:Step C.own F₁ bs₁ Z.heap F₁ bs₁ am.heap:=.upd T (.inl La);refine ai ?_;refine ai (wpAny_newObj_type ?_ (by size_fits));refine ai (m:=firstArgMember _ _) (wpAny_of_eq (a:=Value.none) (by first | rfl | (simp only [firstArgMember];rfl)) ?_);refine wpAny_newObj_type ?_ (by size_fits);refine ai (wpAny_handled ?_);rw [show A.in1.handled=none from hA.handled.trans hh];refine ai (bo (wpAny_throw ?_));obtain x:∀ht,Heap.NewExc am.heap ((am.heap.push {cls:=.type "tuple",data:=.seq ([]:iC).toArray}).push {cls:=.type "StopIteration",data:=.fields (#[ht,.none,.none,.none,.bool false,.none]++#[])}) (am.heap.push {cls:=.type "tuple",data:=.seq ([]:iC).toArray}).objs.size "StopIteration":=by intro ht;exact ⟨λb o e=>cI _ (cI _ e),gp (by rw [iA];exact Nat.le_succ _),_,ht,dw _ rfl,rfl,rfl⟩
   obtain r:=aG.raised (s':={am with heap:=_}) (x (.ref am.heap.objs.size)) (rfl) (by decide) rfl rfl rfl;exact ⟨F₁,bs₁,"StopIteration",_,an.trans r.1,r.2.1,r.2.2.back an.mono,k₁⟩
end
end Mine.Internal
namespace Mine.Internal
open PySem PyProof.Rows
structure lJ where
 params:Arguments
 body:eD
 scope:Scope
structure Va where
 f:lJ
 es:cz
noncomputable def CW:lJ:=⟨⟨[],[],none,[],[],none,[]⟩,[],{kind:=.function,names:=[],isGenerator:=false,isCoroutine:=false}⟩
noncomputable def exP:Expr->Va
 | .ListComp _ _ sc _=>⟨{CW with scope:=sc},[]⟩
 | .DictComp _ _ _ sc _=>⟨{CW with scope:=sc},[]⟩
 | .Lambda ps b sc _=>⟨⟨ps,[],sc⟩,[b]⟩
 | .Call _ _ ks _=>⟨CW,ks.map (·.value)⟩
 | _=>⟨CW,[]⟩
noncomputable def stP:Stmt->Va
 | .FunctionDef _ a b _ _ _ s _ _ _=>⟨⟨a,b,s⟩,[]⟩
 | .ClassDef _ _ _ b _ _ _ _ _ _ _=>⟨{CW with body:=b},[]⟩
 | .While _ b _ _=>⟨{CW with body:=b},[]⟩
 | .For _ _ b _ _=>⟨{CW with body:=b},[]⟩
 | .Assign _ e _=>exP e
 | .Return e _=>⟨CW,e.toList⟩
 | _=>⟨CW,[]⟩
noncomputable def Bt (ss:eD)(i:Nat):Va:=(ss[i]?.map stP).getD ⟨CW,[]⟩
noncomputable def de (ss:eD)(i:Nat):lJ:=(Bt ss i).f
noncomputable def jq (ss:eD)(i:Nat):eD:=(Bt ss i).f.body
inductive Vc (c:aP)(fa:Addr)(f:lJ)(dV:Value):Prop
 | mk (o:Obj) (fd:FuncData) (h1:c.h₀.get? fa=some o) (h2:o.cls≠.none) (h3:o.data=.func fd) (h4:fd.params=f.params) (h5:fd.body=.stmts f.body) (h6:fd.scope=f.scope) (h7:fd.globals=mainGlobals) (h8:fd.builtins=builtinsNs) (h9:fd.closure=[]) (CS:fd.defaults=dV) (Db:fd.kwdefaults=.none) (Dc:Ad c.h₀ fd.code fd.qualname)
structure gy (c:aP)(fa:Addr)(f:lJ)(dV:Value):Prop where
 at_:Vc c fa f dV
noncomputable abbrev l5 (f:lJ)(env:Env)(own:aA)(frames:List Env)(n:Nat)(vars:a8):Cx:=⟨{env with scope:=f.scope},own,frames,none,n,vars⟩
section
variable {c:aP}{mg mb:dZ}
@[reducible] def Stores (C:Cx):Prop:=∀(i:Nat) x,C.vars[i]?=some x->aV C (λzz=>none) x
noncomputable def tj (f:lJ)(names vars:a8):Bool:=f.scope.kind==.function&&!f.scope.isCoroutine&&!f.scope.isGenerator&&decide vars.Nodup&&names.isPrefixOf vars&&vars.all (λp=>f.scope.names.lookup p==some .local||f.scope.names.lookup p==some .cell)
theorem gy.call (B:Base c mg mb)(F:gy c fa f dV){K:AV->aI->Prop}(binds:fq)(names vars:a8)(lc:dI)
 (hb:∀fd:FuncData,fd.params=f.params->fd.defaults=dV->fd.kwdefaults=.none->mJ c fd args binds)
 (DY:cX 0 binds []=lc) (HB:binds.map (·.1)=names) (fw:tj f names vars=true)
 (h:∀env own frames,Stores (l5 f env own frames n vars)->fU (l5 f env own frames n vars) ->
  Ex c (l5 f env own frames n vars) f.body ⟨lc,H⟩ (Au K) dT):bC c (n+1) (.ref fa) args H K:=by
 subst DY HB;obtain ⟨o,fd,h1,h2,h3,h4,h5,h6,h7,h8,h9,CS,Db,Dc⟩:=F.at_;simp only [tj,eZ,Bool.not_eq_true',beq_iff_eq,decide_eq_true_eq] at fw;refine e0a1 fw λo1 k4=>?_;clear fw;refine e0a1 o1 λo2 k6=>?_;clear o1;refine e0a1 o2 λo3 k5=>?_;clear o2;refine e0a1 o3 λo4 k3=>?_;clear o3;obtain ⟨k1,k2⟩:=o4;refine e1a0 (List.isPrefixOf_iff_prefix.mp k6) λt ht=>?_;refine enter B vars k5 (λj p e=>?_) h1 h2 h3 h5 Dc h7 h8 h9 (by refine rE h6 ?_;exact k1) (by rw [h6];exact k2) (by rw [h6];exact k3) (hb fd h4 CS Db) (λx v m=>?_) λC op=>?_
 . rw [<-ht,et (by rw [qL];exact (bp e).1),cj,e];rfl
 . obtain this:=List.all_eq_true.mp k4 x (by rw [<-ht];exact eo (.inl (eK (ae (x,v) m rfl))));refine rE h6 ?_;simpa using this
 . obtain ⟨env,own,frames,hd,n',vs⟩:=C;obtain e1:vs=vars:=op.vars;obtain e2:hd=none:=op.handled;obtain e3:n'=n:=op.n;clear ht k6;subst e1 e2 e3;have e4:env={env with scope:=f.scope}:=by obtain this:env.scope=f.scope:=op.scope.trans h6;rw [<-this]
   refine rE e4 ?_;refine h env own frames (λi x hx=>?_) ?_
   rotate_left
   . refine e1a0 op.frames λfr j7=>?_;replace j7:=e4▸j7;exact (bQ fr j7)
   obtain hk:=op.kind x;rw [e4] at hk;obtain this:=List.all_eq_true.mp k4 x (bJ hx);rcases Bool.or_eq_true_iff.mp this with q | q
   . exact .inl (hk.trans (by rw [h6];simpa using q))
   . obtain w:=op.cell x (by rw [h6];simpa using q);replace w:=e4▸w;exact w
theorem gy.gz (B:Base c mg mb)(F:gy c fa f dV){K:AV->aI->Prop}(names:a8)(vars:a8)(lc:dI)
 (hb:Plain f.params dV names args.length) (hlen:names.length=args.length) (DY:cX 0 (names.zip args) []=lc) (fw:tj f names vars=true)
 (h:∀env own frames,Stores (l5 f env own frames n vars)->fU (l5 f env own frames n vars) ->
  Ex c (l5 f env own frames n vars) f.body ⟨lc,H⟩ (Au K) dT):bC c (n+1) (.ref fa) args H K :=
 gy.call B F (names.zip args) names vars lc (λzz h1 h2 h3=>hb.bind h1 h2 h3) DY (List.map_fst_zip (Nat.le_of_eq hlen)) fw h
end
def dp (mg mb:dZ)(x:Str)(v:Value):Prop:=mg x=none/\mb x=some v
end Mine.Internal
namespace Mine.Internal
open PySem PyProof.Rows PySem.W
section
variable {c:aP}{C:Cx}{S:AS}{F F':G}{bs az:aA}{s s':Shared}{A:Around}{mg mb:dZ}{X:cK}{K:cw}{pos:Pos}{Kf:Frag}{Cl:Addr}
noncomputable abbrev lE (scope:Scope)(env:Env)(own:aA)(frames:List Env)(n:Nat)(vars:a8):Cx:=⟨{env with scope:=scope},own,frames,none,n,vars⟩
theorem rN.Vd {code:Value}{qual:Str}{n:Nat}{vars:a8}(f:rN C sc code qual n vars)(hv:vars.all (λx=>sc.names.lookup x==some .local||sc.names.lookup x==some .cell||sc.names.lookup x==some .free)=true) :
 ∃env own frames,C=lE sc env own frames n vars/\(∀(i:Nat) x,vars[i]?=some x->(sc.names.lookup x==some .free)=false->aV (lE sc env own frames n vars) (λzz=>none) x)/\fU (lE sc env own frames n vars)/\env.code=code/\env.qual=qual/\env.func≠none:=by
 obtain ⟨env,own,frames,hd,n',vs⟩:=C;obtain e1:vs=vars:=f.vars;obtain e2:hd=none:=f.handled;obtain e3:n'=n:=f.n;subst e1 e2 e3;have e4:env={env with scope:=sc}:=by obtain this:env.scope=sc:=f.scope;rw [<-this]
 refine (ji env own frames (by delta lE;rw [<-e4]) (λi x hx co=>?_) ?_ f.code f.qual f.func)
 . obtain this:=List.all_eq_true.mp hv x (bJ hx);rw [co,Bool.or_false] at this;rcases Bool.or_eq_true_iff.mp this with q | q
   . exact .inl (by show sc.names.lookup x=_;simpa using q)
   . obtain w:=f.cell x (by simpa using q);replace w:=e4▸w;exact w
 . refine e1a0 f.top λfr j7=>?_;replace j7:=e4▸j7;exact (bQ fr j7)
noncomputable def tm (sc:Scope)(vars:a8):Bool:=vars.all (λx=>sc.names.lookup x==some .local||sc.names.lookup x==some .cell||sc.names.lookup x==some .free)
theorem gx.fn (B:Base c mg mb){K:AV->aI->Prop}(st:jJ)(jG:c.ay site=st)(binds:fq)(vars:a8)
 (hb:∀fd:FuncData,fd.params=st.params->fd.defaults=.none->fd.kwdefaults=.none->mJ c fd args binds)
 (fw:gR st.scope (binds.map (·.1)) (caps.map (·.1)) vars=true) (bi:tm st.scope vars=true)
 (h:∀env own frames,(∀(i:Nat) x,vars[i]?=some x->(st.scope.names.lookup x==some .free)=false->aV (lE st.scope env own frames n vars) (λzz=>none) x)->fU (lE st.scope env own frames n vars) ->
  match st.body with
  | .stmts body=>qI c (lE st.scope env own frames n vars) body ⟨cX 0 binds (fZ binds.length caps),H⟩ K
  | .expr body=>Ev c (lE st.scope env own frames n vars) body ⟨cX 0 binds (fZ binds.length caps),H⟩ (λv S'=>K v S'.heap) dT) :
 gx c (n+1) (.fn site caps) args H K:=by
 subst jG;intro A F bs s r rs fr hh hd hu j7 ms wd hf hv;refine e2a2 hf.inv λa crs Vb o58 IW=>?_;obtain ⟨o,fd,h0,c1,c2,c3,e1,e2,e3,e4,e5,e6,e7,e8,e9,hc,dL⟩:=o58;refine Vb▸?_;refine Bi B (binds:=binds) (caps:=caps) vars hh hd hu j7 ms (wd.sub _ _ h0) c3 (CodeRec.i6 hc wd.sub) e6 e7 wd hv dL IW (hb fd e3 e8 e9) (by refine (af e5)▸?_;exact fw) ?_;cases Hd:(c.ay site).body with
 | stmts body =>refine .inl (ae body (by rw [e4,Hd]) (λC v4=>?_));rw [e5] at v4;refine e3a3 (v4.Vd bi) λenv own frames o51 k1 k2 zz=>?_;obtain rfl:=o51;have:=h env own frames k1 k2;rw [Hd] at this;exact this
 | expr body =>refine .inr (ae body (by rw [e4,Hd]) (λC v4=>?_));rw [e5] at v4;refine e3a3 (v4.Vd bi) λenv own frames o50 k1 k2 zz=>?_;obtain rfl:=o50;have:=h env own frames k1 k2;rw [Hd] at this;exact this
theorem gx.Ve (B:Base c mg mb){K:AV->aI->Prop}(st:jJ)(jG:c.ay site=st)(names cnames vars:a8)(lc:dI)
 (hb:Plain st.params .none names args.length) (hlen:names.length=args.length) (hc:caps.map (·.1)=cnames) (DY:cX 0 (names.zip args) (fZ (names.zip args).length caps)=lc)
 (fw:gR st.scope names cnames vars=true) (bi:tm st.scope vars=true)
 (h:∀env own frames,(∀(i:Nat) x,vars[i]?=some x->(st.scope.names.lookup x==some .free)=false->aV (lE st.scope env own frames n vars) (λzz=>none) x)->fU (lE st.scope env own frames n vars) ->
  match st.body with
  | .stmts body=>qI c (lE st.scope env own frames n vars) body ⟨lc,H⟩ K
  | .expr body=>Ev c (lE st.scope env own frames n vars) body ⟨lc,H⟩ (λv S'=>K v S'.heap) dT) :
 gx c (n+1) (.fn site caps) args H K:=by
 subst hc DY;exact gx.fn B st jG (names.zip args) vars (λzz h1 h2 h3=>hb.bind h1 h2 h3) (by rw [List.map_fst_zip (Nat.le_of_eq hlen)];exact fw) bi h
inductive Lc (c:aP)(fa:Addr)(f:lJ)(dV:Value)(qn:Str)(cc:Addr):Prop
 | mk (o:Obj) (fd:FuncData) (h1:c.h₀.get? fa=some o) (h2:o.cls≠.none) (h3:o.data=.func fd) (h4:fd.params=f.params) (h5:fd.body=.stmts f.body) (h6:fd.scope=f.scope) (h7:fd.globals=mainGlobals) (h8:fd.builtins=builtinsNs) (h9:fd.closure=[]) (CS:fd.defaults=dV) (Db:fd.kwdefaults=.none) (Dc:fd.qualname=qn) (Jc:fd.code=.ref cc)
   (QH:∃oc vs t,c.h₀.get? cc=some oc/\oc.cls≠.none/\oc.data=.fields vs/\vs[1]?=some (.str fd.qualname t))
structure l6 (c:aP)(fa:Addr)(f:lJ)(dV:Value)(qn:Str)(cc P:Addr)(q:Pos->Str):Prop where
 at_:Lc c fa f dV qn cc
 tab:TabAt c cc P q
theorem l6.call (B:Base c mg mb)(F:l6 c fa f dV qn cc P q){K:AV->aI->Prop}(binds:fq)(vars:a8)
 (hb:∀fd:FuncData,fd.params=f.params->fd.defaults=dV->fd.kwdefaults=.none->mJ c fd args binds)
 (fw:gR f.scope (binds.map (·.1)) [] vars=true) (bi:tm f.scope vars=true)
 (h:∀env own frames,(∀(i:Nat) x,vars[i]?=some x->(f.scope.names.lookup x==some .free)=false->aV (lE f.scope env own frames n vars) (λzz=>none) x)->fU (lE f.scope env own frames n vars)->env.code=.ref cc->env.qual=qn++".<locals>."->env.func≠none ->
  qI c (lE f.scope env own frames n vars) f.body ⟨cX 0 binds [],H⟩ K):bC c (n+1) (.ref fa) args H K:=by
 intro A F' bs s rs fr hh hd hu j7 ms wd hv;obtain ⟨o,fd,h1,h2,h3,h4,h5,h6,h7,h8,h9,CS,Db,Dc,Jc,oc,vs,t,QH,Jd,Rv,Rw⟩:=F.at_;obtain yu:∀b o,c.h₀.get? b=some o->o.cls≠.none->s.heap.get? b=some o:=λb o e q=>wd.sub _ _ (wd.base _ _ e (.inl q));refine Bi B (binds:=binds) (caps:=[]) (crs:=[]) vars hh hd hu j7 ms (yu _ _ h1 h2) h3 (i4 cc oc vs t Jc (yu _ _ QH Jd) Rv Rw) h7 h8 wd hv ⟨λzz zz m=>(nomatch m),λx a e=>(by replace e:=h9▸e;cases e),λx y a e=>(by rw [h9] at e;cases e)⟩ .nil (hb fd h4 CS Db) (by rw [h6];exact fw) (.inl (ae f.body h5 (λC v4=>?_)));replace v4:=h6▸v4;refine e3a0 (v4.Vd bi) λenv own frames Yl=>?_;refine e0a5 Yl λVf k1 k2 k3 k4 k5=>?_;clear Yl;refine Vf▸?_;exact h env own frames k1 k2 (k3.trans Jc) (by rw [k4,Dc]) k5
theorem l6.gz (B:Base c mg mb)(F:l6 c fa f dV qn cc P q){K:AV->aI->Prop}(names vars:a8)(lc:dI)
 (hb:Plain f.params dV names args.length) (hlen:names.length=args.length) (DY:cX 0 (names.zip args) []=lc)
 (fw:gR f.scope names [] vars=true) (bi:tm f.scope vars=true)
 (h:∀env own frames,(∀(i:Nat) x,vars[i]?=some x->(f.scope.names.lookup x==some .free)=false->aV (lE f.scope env own frames n vars) (λzz=>none) x)->fU (lE f.scope env own frames n vars)->env.code=.ref cc->env.qual=qn++".<locals>."->env.func≠none ->
  qI c (lE f.scope env own frames n vars) f.body ⟨lc,H⟩ K):bC c (n+1) (.ref fa) args H K:=by
 subst DY;exact F.call B (names.zip args) vars (λzz h1 h2 h3=>hb.bind h1 h2 h3) (by rw [List.map_fst_zip (Nat.le_of_eq hlen)];exact fw) bi h
theorem uT (hA:i7 C A)(hh:C.handled=none)(hn:n<=C.n)(z:St c C F bs S s)(hf:c.V F bs fv rf)(hv:c.Vs F bs args rs)
 (h:gx c n fv args S.heap (λv H'=>K v {S with heap:=H'})):WP c C A c.V (call rf rs) F bs s K X:=by
 refine wpAny_call ?_;obtain hd:=hA.depth;obtain hu:=hA.units;refine codeAny_mono (h A F bs s rf rs C.frames (hA.handled.trans hh) (se hd hn) (r9 hu hn) hA.frames z.frames z.wd hf hv) λr s' ⟨F',az,v,H',rv,own,e,gM,st,wd,mt,k⟩=>?_;refine e▸?_;exact ⟨F',az,v,{S with heap:=H'},st.widen λa ha=>.inr (gM a ha),z.after st gM wd,mt,k⟩
theorem uU (B:dU c mg mb Kf)(dL:iG Kf Cl=true)(t3:(findIn Kf (.ref Cl) name==some none)=true)(z:St c C F bs S s)(hi:fT S k d Cl kvs)(ho:c.V F bs (.ref k) ro)(hg:b9 kvs name=some v)(A3:∀u,v≠.raw u)(kk:K v S) :
 WP c C A c.V (getAttr ro name) F bs s K X:=pU B dL t3 z hi ho hg A3 kk
inductive HC (c:aP)(C:Cx)(Cl:Addr)(name:Str)(n:Nat)(pos:Pos)(args:cz)(K:cw)(X:cK)(ov:AV)(ac:AS):Prop
 | mk (k d:Nat) (kvs:fq) (site:Nat) (caps:fq) (h1:ov=.ref k) (h2:fT ac k d Cl kvs) (h3:b9 kvs name=some (.fn site caps)) (h4:oR c C pos args ac (λvs aC=>gx c n (.fn site caps) vs aC.heap (xi K aC)) X)
theorem uV (B:dU c mg mb Kf){o:Expr}{name:Str}{apos:Pos}{args:cz}{n:Nat}(Cl:Addr)(dL:iG Kf Cl=true)(t3:(findIn Kf (.ref Cl) name==some none)=true)(hh:C.handled=none)(hn:n<=C.n)
 (h:Ev c C o S (HC c C Cl name n pos args K X) X)
 (ib:attributeBase o name C.env (eval o C.env)=eval o C.env:=by rfl)
 (pu:methodCallForm (args.length+([]:List Keyword).length) (backTo pos (starEach args C.env)) (backToKw pos (keywordEach [] C.env))=true:=by rfl)
 (hline:(apos.endLine==pos.line)=true:=by rfl)
 (hl:mM (backTo pos (starEach args C.env))=false:=by rfl):Ev c C (.Call (.Attribute o name apos) args [] pos) S K X:=by
 intro A F bs s hA z;have Do:=dL;simp only [iG,eZ,beq_iff_eq] at Do;refine e0a1 Do λYm g5=>?_;refine e0a1 Ym λYn g4=>?_;clear Ym;refine e0a1 Yn λYo g3=>?_;clear Yn;refine e0a1 Yo λg1 g2=>?_;clear Yo;simp only [arm_eval_Call,ib];refine ai (aJ (h A F bs s hA z) (λr Z ⟨F₁,bs₁,ov,ac,al,ap,oB,k,d,kvs,site,caps,e,hi,hg,k₁⟩=>?_) λzz zz e=>e);subst e;obtain ⟨x,dx,rs,es,m,rfl,_,_,I,_,hk,hp,oq,_⟩:=ap.inst hi oB;refine ai (wpAny_standAt ?_);obtain yF:methodCallPos true o C.env apos pos=pure pos:=by delta methodCallPos;simp [hline]
 delta methodCall;refine (af pu)▸?_;refine ai (wpAny_holding (method_usual (ap.uH B) I g1 g2 (beq_iff_eq.mp t3) rfl ?_));have ga:=uU (A:=A) (X:=X) (K:=λv S'=>v=.fn site caps/\S'=ac) B dL t3 ap hi oB hg (λu q=>by cases q) ⟨rfl,rfl⟩;refine aJ ga (λfr am ⟨aT,ax,fv,aC,an,aG,Av,e,e'⟩=>?_) λx am q55=>q55.casesOn λaT ax cls aC an aG hx k₂=>⟨aT,ax,cls,aC,al.trans an,aG,hx.back al.mono,k₂⟩
 clear ga hi ap;subst e e';refine ai (wpAny_of_eq yF ?_);have wb:=al.trans an;obtain ⟨a,oF,fd,rfl,q1,q2⟩:∃a oF fd,fr=.ref a/\aT a=some oF/\oF.data=.func fd:=by refine e2a2 Av.inv λzz zz Vg o54 zz=>?_;obtain ⟨_,_,h0,_,_,c3,_⟩:=o54;refine Vg▸?_;exact (eT _ _ _ rfl h0 c3)
 refine Calls.callWith_function (o:=oF) (fd:=fd) ?_;refine aJ (gh hA aG (k₁) hl) (λa aM Yp=>Yp.casesOn λbn aK vs aO aE aR q31=>e0a1 q31 λoA bi bv=>?_) (λx aM q57=>q57.casesOn λbn aK cls aO aE aR hx bv=>⟨bn,aK,cls,aO,wb.trans aE,aR,hx.back wb.mono,bv⟩);obtain ⟨ps,kw⟩:=a;have pr:kw=[]:=oA;clear oA Yp;refine pr▸?_;refine ⟨⟨aR.wd.sub _ _ (aE.sub _ _ q1),q2⟩,?_⟩;obtain zF:=wb.trans aE;refine aJ (uT (X:=X) (s:=aM) (rs:=ps) hA hh hn aR (aE.V Av) bi bv) (λv cr q58=>q58.casesOn λd7 ce v' di ca cW Bn gP=>⟨d7,ce,v',di,zF.trans ca,cW,Bn,gP⟩) λx cr q59=>q59.casesOn λd7 ce v' di ca cW Bn gP=>⟨d7,ce,v',di,zF.trans ca,cW,Bn.back zF.mono,gP⟩
end
end Mine.Internal
namespace Mine.Internal
open PySem
namespace Fm
theorem slot_ci_next:Slot "callable_iterator" "__next__" "callable_iterator.__next__" :=
 .of (owner:="callable_iterator") (n:="__next__") (rfl) (rfl) (rfl) (rfl)
  (by first | exact .inl (rfl) | exact .inr (rfl)) (rfl)
theorem slot_ci_iter:Slot "callable_iterator" "__iter__" "callable_iterator.__iter__" :=
 .of (owner:="callable_iterator") (n:="__iter__") (rfl) (rfl) (rfl) (rfl)
  (by first | exact .inl (rfl) | exact .inr (rfl)) (rfl)
theorem entry_ci_next:entryFor table "callable_iterator.__next__"=some Builtin.«callable_iterator.__next__»:=entryFor_of_tree (by kernel_rfl)
theorem entry_ci_iter:entryFor table "callable_iterator.__iter__"=some Builtin.«dict_keyiterator.__iter__» :=
 entryFor_alias (id':="dict_keyiterator.__iter__") (by kernel_rfl) rfl (by decide +kernel) (by kernel_rfl)
theorem args_ci_next (a:Value):argsOk "callable_iterator.__next__" ⟨[a],[]⟩:=by unfold argsOk;kernel_rfl
theorem args_ci_iter (a:Value):argsOk "callable_iterator.__iter__" ⟨[a],[]⟩:=by unfold argsOk;kernel_rfl
theorem slot_m_call:Slot "method" "__call__" "method.__call__" :=
 .of (owner:="method") (n:="__call__") (rfl) (rfl) (rfl) (rfl)
  (by first | exact .inl (rfl) | exact .inr (rfl)) (rfl)
theorem args_iter2 (a b:Value):argsOk "iter" ⟨[a,b],[]⟩:=by unfold argsOk;kernel_rfl
end Fm
end Mine.Internal
namespace Mine.Internal
open PySem PyProof.Rows PySem.W
section
variable {prog:Program}{w:World}{A:Around}{E:vP}{s:Shared}
theorem l7 (hc:codeAny (model prog w) A (.call f ⟨pos,[]⟩) (λr s'=>match r with | .ok (.ret v)=>Q v s' | .ok _=>False | .error e=>E e s') s):wpAny (model prog w) A (callBorrowed f pos) Q E s:=λΓ p hΓ=>by
 refine wpCode_mono (λr s' hr=>?_) (hc _ p rfl (hΓ.enter _ none p (by intro x;exact bx x)));cases r with
 | error e=>exact hr
 | ok f=>cases f <;> exact hr
noncomputable abbrev iR (x y:Value)(b:Bool):Obj:={cls:=.type "callable_iterator",data:=.fields #[x,y,.bool b]}
theorem yM (ho:s.heap.get? it=some (iR x y b))(hQ:Q (.ref it) s):wpAny (model prog w) A (pyIter (.ref it)) Q E s:=by
 obtain hT:s.TypeIs (.ref it) "callable_iterator":=(ae _ ho rfl)
 refine wpAny_pyIter_slot hT Fm.slot_ci_iter (wpAny_call_entry Fm.slot_ci_iter hT Fm.entry_ci_iter ?_ (Fm.args_ci_iter _));exact bo ⟨_,rfl,("callable_iterator"),_,hT,Fm.slot_ci_next.lookup,hQ⟩
theorem qc (hh:A.handled=none)(h:∀h' e,Heap.NewExc s.heap h' e "StopIteration"->E (.ref e) {s with heap:=h'}):wpAny (model prog w) A (Builtin.SmallTypes.stopIteration:Sem α) Q E s:=by refine ai ?_;refine ai (wpAny_newObj_type ?_ (by size_fits));refine ai (m:=firstArgMember _ _) (wpAny_of_eq (a:=Value.none) (by first | rfl | (rfl;rfl)) ?_);refine wpAny_newObj_type ?_ (by size_fits);refine ai (wpAny_handled ?_);refine rE hh ?_;refine ai (bo (wpAny_throw (h _ _ ⟨λb o e=>cI _ (cI _ e),gp (by simp only [iA];exact Nat.le_succ _),_,.ref s.heap.objs.size,dw _ rfl,rfl,rfl⟩)))
theorem rQ (hq:s.heap.get? q=some (methodObj (.ref f) self))(hf:s.heap.get? f=some o)(hd:o.data=.func fd)(h:Q true s):wpAny (model prog w) A (borrowsExactly (.ref q)) Q E s:=by refine ai (wpAny_load hq ?_);refine ai (wpAny_load hf ?_);refine rE hd ?_;exact bo h
inductive Ld (it f:Addr)(o:Obj)(snt:Str)(Q:qN->lC)(r:Except Value Flow)(s':Shared):Prop
 | mk (x:Str) (t:Tok) (q':Addr) (ts':Tok) (Le:Value) (h1:r=.ok (.ret (.str x t))) (h2:s'.heap.get? it=some (iR (.ref q') (.str snt ts') false)) (h3:s'.heap.get? q'=some (methodObj (.ref f) Le)) (h4:s'.heap.get? f=some o)
   (h5:(snt==x)=false/\Q (some (.str x t)) s'\/(snt==x)=true/\∀h',(∀b,b≠it->∀ob,s'.heap.get? b=some ob->h'.get? b=some ob)->h'.get? it=some (iR .none .none true)->Q none {s' with heap:=h'})
theorem DZ (hh:A.handled=none)(ho:s.heap.get? it=some (iR (.ref q) (.str snt ts) false))
 (hq:s.heap.get? q=some (methodObj (.ref f) self)) (hf:s.heap.get? f=some o) (hd:o.data=.func fd)
 (hc:codeAny (model prog w) A.in1 (.call (.ref f) ⟨[self],[]⟩) (Ld it f o snt Q) s):wpAny (model prog w) A (pyNext (.ref it)) Q E s:=by
 obtain hT:s.TypeIs (.ref it) "callable_iterator":=(ae _ ho rfl)
 refine ai (wpAny_attempt (wpAny_callSpecial?_slot (name:=Str.ofString "__next__") hT Fm.slot_ci_next
  (wpAny_call_entry Fm.slot_ci_next hT Fm.entry_ci_next ?_ (Fm.args_ci_next _))))
 refine ai (m:=slotArgs _ _ _) (bo ?_);refine ai (wpAny_field ho rfl (x:=.bool false) rfl ?_);refine ai (wpAny_field ho rfl (x:=.ref q) rfl (ai (wpAny_attempt ?_)));refine ai (rQ hq hf hd ?_);refine l7 (method_call hq (codeAny_mono hc λr s' Lf=>Lf.casesOn λx t q ts self e tX CX QN k=>?_));clear Lf;subst e;refine ai (wpAny_field tX rfl (x:=.bool false) rfl ?_);refine ai (wpAny_field tX rfl (x:=.str snt ts) rfl ?_);refine ai (wpAny_holding (eqBool_str ?_))
 (refine bh k (λVh=>?_) (λVi=>?_);refine e0a1 Vh λe k=>?_;rotate_left;refine e0a1 Vi λe k=>?_;rotate_right)
 . refine rE e ?_;exact bo (ae _ rfl (bo k))
 . refine rE e ?_;refine ai (wpAny_rule (ai ?_));refine ai (wpAny_field tX rfl (x:=.ref q) rfl (ai ?_));refine ai (rQ CX QN hd ?_);refine bo ?_;obtain g0:=jS (Obj.mapFields (·.setIfInBounds 0 Value.none)) tX (Obj.isFreed_of_fields (Obj.data_mapFields rfl _));generalize zD:({s' with heap:=s'.heap.update it (Obj.mapFields (·.setIfInBounds 0 Value.none))}:Shared)=s1;obtain e1:s1.heap.get? it=some (iR .none (.str snt ts) false):=by refine zD▸?_;refine g0.trans ?_;simp [Obj.mapFields]
   refine ai (wpAny_setField tX rfl (by simp) ?_);refine rE zD ?_;obtain g1:=jS (Obj.mapFields (·.setIfInBounds 1 Value.none)) e1 (Obj.isFreed_of_fields (Obj.data_mapFields rfl _));generalize qJ:({s1 with heap:=s1.heap.update it (Obj.mapFields (·.setIfInBounds 1 Value.none))}:Shared)=s2;obtain e2:s2.heap.get? it=some (iR .none .none false):=by rw [<-qJ];refine g1.trans ?_;simp [Obj.mapFields]
   refine ai (wpAny_setField e1 rfl (by simp) ?_);rw [qJ];obtain g2:=jS (Obj.mapFields (·.setIfInBounds 2 (Value.bool true))) e2 (Obj.isFreed_of_fields (Obj.data_mapFields rfl _));generalize qY:({s2 with heap:=s2.heap.update it (Obj.mapFields (·.setIfInBounds 2 (Value.bool true)))}:Shared)=s3;obtain e3:s3.heap.get? it=some (iR .none .none true):=by rw [<-qY];refine g2.trans ?_;simp [Obj.mapFields]
   refine wpAny_setField e2 rfl (Nat.le_of_ble_eq_true rfl) ?_;rw [qY];obtain same:∀b,b≠it->∀ob,s'.heap.get? b=some ob->s3.heap.get? b=some ob:=λb hb ob e=>by rw [<-qY];refine (Heap.get?_update_ne _ _ _ _ hb).trans ?_;rw [<-qJ];refine (Heap.get?_update_ne _ _ _ _ hb).trans ?_;rw [<-zD];exact (Heap.get?_update_ne _ _ _ _ hb).trans e
   obtain rest:s3={s' with heap:=s3.heap}:=by rw [<-qY,<-qJ,<-zD]
   refine qc (A:=A.in1) hh λh' e x=>?_;refine e2a2 x.there λob t' w1 w2 w3=>?_;refine ai (wpAny_isInstance (T:="StopIteration") (b:=true) (ae _ w1 w2) isSubtype_stop ?_);refine bo ?_;rw [rest];exact k h' (λb hb ob e=>x.keeps _ _ (same b hb ob e)) (x.keeps _ _ e3)
theorem uW (hh:A.handled=none)(ho:s.heap.get? it=some (iR x y true))(h:∀h',(∀b ob,s.heap.get? b=some ob->h'.get? b=some ob)->Q none {s with heap:=h'}):wpAny (model prog w) A (pyNext (.ref it)) Q E s:=by
 obtain hT:s.TypeIs (.ref it) "callable_iterator":=(ae _ ho rfl)
 refine ai (wpAny_attempt (wpAny_callSpecial?_slot (name:=Str.ofString "__next__") hT Fm.slot_ci_next
  (wpAny_call_entry Fm.slot_ci_next hT Fm.entry_ci_next ?_ (Fm.args_ci_next _))))
 refine ai (m:=slotArgs _ _ _) (bo ?_);refine ai (wpAny_field ho rfl (x:=.bool true) rfl ?_);refine ai (wpAny_rule (ai (qc (A:=A.in1) hh λh' e x=>?_)));refine e2a2 x.there λob t' w1 w2 w3=>?_;refine ai (wpAny_isInstance (T:="StopIteration") (b:=true) (ae _ w1 w2) isSubtype_stop ?_);exact bo (h h' x.keeps)
end
section
variable {c:aP}{C:Cx}{S:AS}{F F':G}{bs az:aA}{s s':Shared}{A:Around}{mg mb:dZ}{X:cK}{K:cw}{pos:Pos}
theorem D0 (k:K (.ref S.heap.length) {S with heap:=S.heap++[.eN (some (.bm "method" f self,.str x))]}):eO c C (.builtin "iter") [.bm "method" f self,.str x] S K X:=by
 intro A F bs s rs hA z hv;refine e2a2 hv.inv λzz zz D1 h1 h2=>?_;refine rE D1 ?_;refine e2a2 h2.inv λzz zz HD h3 h4=>?_;refine rE HD ?_;refine rE h4.inv ?_;clear h2;refine e1a0 h3.inv λtk HE=>?_;refine rE HE ?_;clear hv;refine e2a2 h1.inv λq oI D2 kU rP=>?_;clear D1;obtain rfl:=D2;refine Calls.call_function_entry (rfl) (rfl) kdk_entry_iter (Fm.args_iter2 _ _) ?_;refine ai (m:=someArgs "iter" 1 2 _) (bo ?_);refine ai (wpAny_specialOf (ae _ (z.wd.sub _ _ kU) rfl) Fm.slot_m_call.lookup ?_);refine ai (wpAny_rule (ai (wpAny_newObj_type (bo (ae _ rfl ?_)) (by size_fits))));obtain mv:ba c F bs s {s with heap:=s.heap.push (iR (.ref q) (.str x tk) false)}:=⟨λb o e=>cI _ e,rfl,rfl⟩
 refine z.Hu (o:=.eN (some (.bm "method" f self,.str x))) mv (St.ic s) (dw _ rfl) ?_ k;exact (ck _ _ (cu.mono (λzz zz e=>e) h1) (.str x tk) (dw _ rfl))
def Fu (c:aP)(C:Cx)(x:Str)(px:Pos)(body:eD)(K:gw)(n:Nat)(f:Addr)(self:AV)(snt:Str)(k:Nat)(I:vO)(m:Nat)(S:AS):Prop :=
 (S.heap[k]?=some (.eN none)/\K .next S) \/
 (S.heap[k]?=some (.eN (some (.bm "method" (.ref f) self,.str snt)))/\bC c n (.ref f) [self] S.heap (λv H'=>∃y,v=.str y/\H'[k]?=some (.eN (some (.bm "method" (.ref f) self,.str snt))) /\
  ((snt==y)=true/\K .next {S with heap:=H'.set k (.eN none)}\/(snt==y)=false/\vD c C (.Name x px) (.str y) {S with heap:=H'} (Jr c C body (rD (pV I m) K) dT) dT)))
@[reducible] def Lg (c:aP) (C:Cx) (F:G) (bs:aA) (h₀:Heap) (K:gw) (J:Nat->lC) (n:Nat):Flow->lC:=λf s=>match f with
 | .next=>∃m,m < n/\J m s
 | .cont=>∃m,m < n/\J m s
 | .brk=>WV c C (mI c) F bs h₀ K .next s
 | .ret v=>WV c C (mI c) F bs h₀ K (.ret v) s
def Q3:vP:=λzz zz=>False
@[reducible] def Lh (c:aP) (C:Cx) (A:Around) (t:Expr) (it:Addr) (body:eD) (Q:Flow->lC) (v:Value):lC:=λZ =>
 wpAny (model c.prog c.w) A (letOwnedTupleGo t (.ref it) v) (λzz am=>wpAny (model c.prog c.w) A (assign t C.env v) (λzz aM=>wpAny (model c.prog c.w) A (execs body C.env) Q Q3 aM) Q3 am) Q3 Z
@[reducible] def Li (c:aP) (C:Cx) (A:Around) (t:Expr) (it:Addr) (body:eD) (F:G) (bs:aA) (h₀:Heap) (K:gw) (J:Nat->lC) (n:Nat):qN->lC:=λr Z=>match r with
 | none=>WV c C (mI c) F bs h₀ K .next Z
 | some v=>Lh c C A t it body (Lg c C F bs h₀ K J n) v Z
theorem HF {K:gw}(J:Nat->lC)(n:Nat)(h:J n s)
 (turn:∀n am,J n am->wpAny (model c.prog c.w) (A.mark none) (pyNext (.ref it)) (Li c C (A.mark none) t it body F bs h₀ K J n) Q3 am) :
 wpAny (model c.prog c.w) A (runOwn (.forLoop t (.ref it) body [] C.env) C.env) (WV c C (mI c) F bs h₀ K) (WX c C F bs h₀ dT) s:=by
 refine wpAny_runOwn (codeAny_forLoop_any J (λn am hJ=>aJ (turn n am hJ) (λr Z q=>?_) λzz zz e=>e.elim) n h) (by intro e;exact bx e);cases r with
 | none=>exact wpAny_execs_nil q
 | some v=>exact aJ q (λzz zz q=>aJ q (λzz zz q=>aJ q (λf zz q=>by cases f <;> exact q) λzz zz e=>e.elim) λzz zz e=>e.elim) λzz zz e=>e.elim
inductive Lj (c:aP)(C:Cx)(F:G)(bs:aA)(h₀:Heap)(k:Nat)(it:Addr)(I:vO)(m:Nat)(s':Shared):Prop
 | mk (F':G) (az:aA) (S':AS) (st:Step C.own F bs h₀ F' az s'.heap) (z:St c C F' az S' s') (hit:az[k]?=some it) (hI:I m S')
theorem qd {x:Str}{px:Pos}{iter:Expr}{body:eD}{K:gw}{n:Nat}{f:Addr}{self:AV}{snt:Str}(hh:C.handled=none)(hn:n+1<=C.n)(hf:FnAt c f)
 (h:Ev c C iter S (λv ac=>∃k,v=.ref k/\(∃o,ac.heap[k]?=some (.eN o))/\∃I m,I m ac/\∀m S',I m S'->Fu c C x px body K n f self snt k I m S') dT)
 (hs:∀x,foldedSetIterable iter C.env x=pure x:=by intro _;rfl):jK c C (.For (.Name x px) iter body [] pos) S K dT:=by
 intro A F bs s hA z
 skip
 refine e2a2 hf λof fd hf1 IY hf3=>?_;refine WP.standAt ?_;refine ai (aJ (h A F bs s hA z) (λxv Z ⟨F₁,bs₁,v,ac,al,ap,hv,k,e,⟨o,ho⟩,I,m,hI,turn⟩=>?_) λzz zz e=>e);subst e;rw [hs];refine e1a3 (ap.gI hv ho) λit HG hit hr hF=>?_;refine rE HG ?_;refine ai (bo (ai (wpAny_standAt (ai (wpAny_holding ?_)))));obtain obj:∃x y b,Z.heap.get? it=some (iR x y b):=by
  cases o with
  | none=>refine e2a0 hr λx y e=>?_;exact ⟨x,y,true,e⟩
  | some o=>refine e2a2 hr λx y zz zz e=>?_;exact ⟨x,y,false,e⟩
 refine e3a0 obj λox oy ob kU=>?_;refine yM kU ?_;refine HF (Lj c C F bs s.heap k it I) m ⟨F₁,bs₁,ac,al,ap,hit,hI⟩ ?_;intro m am o1;obtain ⟨aT,ax,aC,an,aG,tq,rK⟩:=o1
 (refine bh (turn m aC rK) (λVj=>?_) (λVk=>?_);refine e0a1 Vj λhk kk=>?_;rotate_left;refine e0a1 Vk λhk hc=>?_;rotate_right)
 . refine e0a1 (aG.wd.obj k it _ tq hk) λDy zz=>?_;refine e2a0 Dy λx' y' e'=>?_;clear Dy;refine uW (hA.handled.trans hh) e' λh' keep=>?_;obtain mv:ba c aT ax am {am with heap:=h'}:=⟨keep,rfl,rfl⟩
   exact ⟨aT,ax,.next,aC,an.trans (.keep mv),aG.keep mv,rfl,kk⟩
 . refine e0a1 (aG.wd.obj k it _ tq hk) λLl zB=>?_;refine e2a2 Ll λx' y' oo Q4 e'=>?_;clear Ll;refine e1a0 Q4.inv λts Vl=>?_;obtain rfl:=Vl;refine e2a2 oo.inv λq oI Vm kU rP=>?_;obtain rfl:=Vm;obtain Yq:∀(F':G) (az:aA) (H':aI) (s':Shared),Wd c F' az H' s'->s'.heap.get? f=some of:=λF' az H' s' w=>w.sub _ _ (w.base _ _ hf1 (.inl IY));refine DZ (hA.handled.trans hh) e' (aG.wd.sub _ _ kU) (Yq _ _ _ _ aG.wd) hf3 ?_;obtain hd:=hA.depth;obtain hu:=hA.units;refine codeAny_mono (hc A.in1 aT ax am [oI] C.frames (hA.handled.trans hh) (by skip;exact Nat.lt_trans (hX hn _) hd) (by show A.units+1+20*n < _;exact z4 hn hu) hA.frames aG.frames aG.wd (.cons rP .nil)) λr aM ⟨bn,aK,v,H',rv,own,e,gM,aE,D3,fR,y,ev,Fv,kk⟩=>?_;subst e ev;refine e1a0 fR.inv λty Vn=>?_;refine rE Vn ?_;refine e1a0 aE.fresh λnb Vo=>?_;clear fR;obtain rfl:=Vo;have qe:(ax++nb)[k]?=some it:=by refine rE (et (bp tq).1) ?_;exact tq
   refine e0a1 (D3.obj k it _ qe Fv) λD4 Yr=>?_;refine e2a2 D4 λaac Bq Fw oJ nH=>?_;clear D4;have aR:=aG.after aE gM D3;have zF:=an.trans (aE.widen λa ha=>.inr (gM a ha));refine e1a0 oJ.inv λLm Vp=>?_;clear oJ;obtain rfl:=Vp;refine e2a2 Fw.inv λVq Bs Vr HH Ln=>?_;clear Fw;obtain rfl:=Vr;refine ⟨y,ty,Vq,Lm,Bs,rfl,nH,D3.sub _ _ HH,Yq _ _ _ _ D3,?_⟩
   (refine bh kk (λVt=>?_) (λVu=>?_);refine e0a1 Vt λe kk=>?_;rotate_left;refine e0a1 Vu λe kk=>?_;rotate_right)
   . refine .inr ⟨e,λh' same e4=>?_⟩;obtain T:ff it aM {aM with heap:=h'}:=⟨λb q o e=>same b q o e,(bQ _ e4),rfl,rfl⟩
     exact ⟨bn,_,.next,_,zF.trans (.upd T (.inl (bJ qe))),aR.upd T qe Fv (by simp) (o':=.eN none) (z7 _ _ e4),rfl,kk⟩
   . refine .inl ⟨e,?_⟩;refine pK hA aR (.str y ty) (K:=Jr c C body (rD (pV I m) K) dT) kk λd7 ce di cr ca cW gP=>?_;refine aJ (gP A d7 ce cr hA cW) (λfl eF Lo=>Lo.casesOn λfb dJ fv fu dl fc xz ja=>?_) (λzz zz Vv=>Vv.casesOn λzz zz zz zz zz zz zz q=>q.elim);have zC:=(zF.trans ca).trans dl;obtain Bu:dJ[k]?=some it:=by refine e1a0 ((ca.trans dl).fresh) λvB e5=>?_;refine (af e5)▸(af (et (bp qe).1))▸?_;exact qe
     cases fv with
     | next=>subst xz;obtain ⟨m',hm,D5⟩:=ja;exact (ae m' hm ⟨fb,dJ,fu,zC,fc,Bu,D5⟩)
     | cont=>subst xz;obtain ⟨m',hm,D5⟩:=ja;exact (ae m' hm ⟨fb,dJ,fu,zC,fc,Bu,D5⟩)
     | brk=>subst xz;exact ⟨fb,dJ,.next,fu,zC,fc,rfl,ja⟩
     | ret u=>clear Lo;refine e1a1 xz λru Vw Ss=>?_;clear xz;obtain rfl:=Vw;exact ⟨fb,dJ,.ret u,fu,zC,fc,(ae ru rfl Ss),ja⟩
end
noncomputable def kA {α:Type}(lo hi st:Option Int)(xs:List α):List α:=(sliceRange (sliceBounds lo hi st xs.length).1 (sliceBounds lo hi st xs.length).2.1 (sliceBounds lo hi st xs.length).2.2).filterMap (xs[·]?)
section
variable {c:aP}{C:Cx}{S:AS}{F F':G}{bs az:aA}{s s':Shared}{A:Around}{mg mb:dZ}{X:cK}{K:cw}{pos:Pos}
theorem a6.pick (h:c.Vs F bs xs vs)(l:aS):c.Vs F bs (l.filterMap (xs[·]?)) (l.filterMap (vs[·]?)):=by
 induction l with
 | nil=>exact .nil
 | cons i l ih =>
   refine (af List.filterMap_cons)▸(af List.filterMap_cons)▸?_;cases hx:xs[i]? with
   | none=>simp only [h.get_none hx];exact ih
   | some x=>refine e1a1 (h.get hx) λv e hv=>?_;simp only [e];exact .cons hv ih
theorem yN {lo hi:Option Expr}{st:Expr}(h:Ev c C value S (λo ac=>Part c C lo ac (λl aC=>Part c C hi aC (λu aO=>Part c C (some st) aO (λd di=>∃xs,bZ di o xs/\d≠some 0/\xs.length<=sizeLine/\qQ K (kA l u d xs) di) X) X) X) X):Ev c C (.Subscript value (.Slice lo hi (some st) p) pos) S K X:=by
 intro A F bs s hA z
 skip
 refine WP.bind (h A F bs s hA z) λF₁ bs₁ ac Z o ro al ap ho k₁=>?_;refine ai (wpAny_holding (wpAny_Slice ?_));refine aJ (mU hA ap k₁) (λrl am Vx=>Vx.casesOn λaT ax l aC an aG hl k₂=>?_) λzz zz e=>e;refine aJ (mU hA aG k₂) (λru aM Vy=>Vy.casesOn λbn aK u aO aE aR hu bv=>?_) λx aM Vz=>Vz.casesOn λbn aK u aO aE aR hu bv=>⟨bn,aK,u,aO,an.trans aE,aR,hu.back an.mono,bv⟩
 refine aJ (mU hA aR bv) (λrd eG VA=>VA.casesOn λF₀ bs₀ d aad fg Lp hd VB=>?_) λx aM VC=>VC.casesOn λF₀ bs₀ u aO fg aR hu bv=>⟨F₀,bs₀,u,aO,(an.trans aE).trans fg,aR,hu.back (an.trans aE).mono,bv⟩
 refine e1a3 VB λxs lX fw hsz k=>?_;obtain AN:=fg.V (aE.V (an.V ho));clear ho;refine e3a2 (Lp.uw lX AN) λa vs n o1 hL bi=>?_;refine rE o1 ?_;refine ai (wpAny_standAt ?_);generalize pN:({eG with heap:=eG.heap.push {cls:=.type "slice",data:=.fields #[rl,ru,rd]}}:Shared)=cr;obtain vZ:ba c F₀ bs₀ eG cr:=by simp only [<-pN];exact ⟨λb o e=>cI _ e,rfl,rfl⟩
 obtain GT:cr.heap.IsSliceOf eG.heap.objs.size rl ru rd:=by refine pN▸?_;exact Heap.IsSliceOf.new ..
 obtain cW:=Lp.keep vZ;obtain uD:cr.heap.IsList a vs.toArray:=(dz _ (vZ.keep _ _ hL) rfl n rfl)
 refine ai ?_;refine ai (wpAny_specialOf uD.typeIs list_getitem_lookup ?_);obtain fin:wpAny (model c.prog c.w) A (operate [.ref a,.ref eG.heap.objs.size] (getItem (.ref a) (.ref eG.heap.objs.size)) >>= λr=>letTemporaryGo value (.ref a) r >>= λzz=>pure r)
  (WV c C c.V F₁ bs₁ Z.heap K)
  (WX c C F₁ bs₁ Z.heap X) cr:=by
  refine ai (wpAny_operating (wpAny_getItem_list_slice uD GT hl hu hd fw (ai (wpAny_letTemporaryGo (bo ?_))) (by simpa [bi.length] using hsz)));obtain e:slicePick vs.toArray l u d=(kA l u d vs).toArray:=by delta slicePick kA;simp
  refine rE e ?_;obtain mt:c.Vs F₀ bs₀ (kA l u d xs) (kA l u d vs):=by delta kA;rw [bi.length];exact bi.pick _
  generalize kA l u d vs=ws at mt;obtain GW:ba c F₀ bs₀ cr {cr with heap:=cr.heap.push (aY ws 0)}:=⟨λb o e=>cI _ e,rfl,rfl⟩
  obtain ⟨F',az,v,S',st,z',hv,kk⟩:=cW.AH GW (St.ic cr) (vs:=ws) (n:=0) (dw _ rfl) mt k;exact ⟨F',az,v,S',(((an.trans aE).trans fg).trans (.keep vZ)).trans st,z',hv,kk⟩
 first
  | exact bo fin
  | exact ai (bo fin)
  | exact fin
end
end Mine.Internal
namespace Mine.Internal
open PySem PyProof.Rows
section
variable {c:aP}{C:Cx}{S:AS}{F F':G}{bs az:aA}{s s':Shared}{A:Around}{X:cK}{K:cw}{mg mb:dZ}{pos:Pos}
theorem a6.ints (h:c.Vs F bs (l.map .int) vs):IntsAre vs l:=by
 induction l generalizing vs with
 | nil=>refine rE h.inv ?_;exact .nil
 | cons x l ih=>refine e2a2 h.inv λzz zz Lq h t=>?_;refine rE Lq ?_;refine e1a0 h.inv λzz Lr=>?_;refine rE Lr ?_;exact .cons _ _ (ih t)
theorem HI (k:K (.int i) S):eO c C (.type "int") [.int i] S K X:=by intro A F bs s rs hA z hv;refine e1a1 hv.one λr An h1=>?_;refine rE An ?_;clear hv;refine e1a0 h1.inv λzz rz=>?_;refine rE rz ?_;exact call_int_int ⟨F,bs,.int i,S,.refl ..,z,.int _ _,k⟩
theorem Fx {ns:List Int}(hh:C.handled=none)(h:bZ S v (ns.map .int))(k:K (.int ns.sum) S):eO c C (.builtin "sum") [v] S K X:=by
 intro A F bs s rs hA z hv;refine e1a1 hv.one λr t0 h1=>?_;refine rE t0 ?_;clear hv;refine e3a2 (z.uw h h1) λl vs n o9 h0 bi=>?_;refine rE o9 ?_;have hi:=bi.ints;refine e1a0 hi.allInts.items λxs hx=>?_;obtain hl:s.heap.IsList l vs.toArray:=(dz _ h0 rfl n rfl)
 replace hl:=hx▸hl;refine sum_intListG (hA.handled.trans hh) hl λh' tk t' hk=>?_;obtain e1:ns=xs.toList.map (·.1):=by rw [<-nums_intItems];refine hx▸?_;exact (show numsOf vs.toArray.toList=ns from hi.numsOf).symm
 obtain e2:preSum (numAt xs) xs.size=ns.sum:=by rw [preSum_eq,List.take_of_length_le (by simp),e1]
 refine rE e2 ?_;obtain m:ba c F bs s {s with heap:=h',toks:=tk}:=⟨hk,rfl,rfl⟩
 exact ⟨F,bs,.int ns.sum,S,.keep m,z.keep m,.int _ _,k⟩
end
end Mine.Internal
namespace Mine.Internal
open PySem PyProof.Rows PySem.W
section
variable {prog:Program}{w:World}{c:aP}{C:Cx}{S:AS}{F F':G}{bs az:aA}{s s':Shared}{A:Around}{X:cK}{K:cw}{mg mb:dZ}{pos:Pos}{Kf:Frag}{Cl:Addr}
theorem bF.keys {kvs:List (Int×AV)}{rs:List (Int×Value)}(h:c.IV F bs kvs rs):rs.map (·.1)=kvs.map (·.1):=by
 induction kvs generalizing rs with
 | nil=>refine rE h.inv ?_;rfl
 | cons p l ih=>refine e2a2 h.inv λzz zz oS zz t=>?_;refine rE oS ?_;exact congrArg (p.1::·) (ih t)
theorem bF.get {kvs:List (Int×AV)}{rs:List (Int×Value)}(k:Int)(h:c.IV F bs kvs rs):(∃x v,b9 kvs k=some x/\valueAt rs k=some v/\c.V F bs x v)\/(b9 kvs k=none/\valueAt rs k=none):=by
 delta b9 valueAt;induction kvs generalizing rs with
 | nil=>obtain rfl:=h.inv;exact .inr ⟨rfl,rfl⟩
 | cons p l ih =>
   refine e2a2 h.inv λw r uA hx t=>?_;refine rE uA ?_;refine (af (List.find?_cons))▸(af (List.find?_cons))▸?_;cases decide (p.1=k) with
   | true=>exact .inl (ck _ _ rfl rfl hx)
   | false=>exact ih t
theorem bF.any {kvs:List (Int×AV)}{rs:List (Int×Value)}(k:Int)(h:c.IV F bs kvs rs):rs.any (λkv=>kv.1=k)=kvs.any (λkv=>kv.1=k):=by
 obtain e:=congrArg (List.any · λx=>decide (x=k)) h.keys
 rwa [List.any_map,List.any_map] at e
theorem bF.map {kvs:List (Int×AV)}{rs:List (Int×Value)}(k:Int)(h:c.IV F bs kvs rs)(hv:c.V F bs x v):c.IV F bs (kvs.map λkv=>if kv.1=k then (kv.1,x) else kv) (rs.map λkv=>if kv.1=k then (kv.1,v) else kv):=by
 induction kvs generalizing rs with
 | nil=>refine rE h.inv ?_;exact .nil
 | cons p l ih =>
   refine e2a2 h.inv λw r uB hx t=>?_;refine rE uB ?_;rw [List.map_cons,List.map_cons];by_cases e:p.1=k
   . rw [if_pos e,if_pos e];exact .cons hv (ih t)
   . rw [if_neg e,if_neg e];exact .cons hx (ih t)
theorem bF.append {kvs:List (Int×AV)}{rs:List (Int×Value)}(h:c.IV F bs kvs rs)(h':c.IV F bs vV JK):c.IV F bs (kvs++vV) (rs++JK):=by
 induction kvs generalizing rs with
 | nil=>refine rE h.inv ?_;exact h'
 | cons y ys ih=>refine e2a2 h.inv λzz zz vW h1 h2=>?_;refine rE vW ?_;exact .cons h1 (ih h2)
theorem bF.put {kvs:List (Int×AV)}{rs:List (Int×Value)}(k:Int)(h:c.IV F bs kvs rs)(hv:c.V F bs x v):c.IV F bs (dC kvs k x) (stored rs k v):=by
 delta dC stored;rw [bF.any k h]
 split
 . exact bF.map k h hv
 . exact bF.append h (.cons hv .nil)
theorem bF.del {kvs:List (Int×AV)}{rs:List (Int×Value)}(k:Int)(h:c.IV F bs kvs rs):c.IV F bs (vU kvs k) (rs.filter λkv=>kv.1≠k):=by
 delta vU;induction kvs generalizing rs with
 | nil=>refine rE h.inv ?_;exact .nil
 | cons p l ih =>
   refine e2a2 h.inv λw r AC hx t=>?_;refine rE AC ?_;refine rE List.filter_cons ?_;simp only [List.filter_cons];cases decide (p.1≠k) with
   | true=>exact .cons hx (ih t)
   | false=>exact ih t
def we (S:AS)(v:AV)(kvs:List (Int×AV)):Prop:=v=.cV kvs\/∃k,v=.ref k/\S.heap[k]?=some (.bt kvs)
theorem St.tabI (z:St c C F bs S s)(h:we S v kvs)(hv:c.V F bs v r):∃d rs,r=.ref d/\s.heap.DictOf (ik c.prog c.w) d rs/\(d==sysModules)=false/\c.IV F bs kvs rs:=by
 (refine bh h (λHG=>?_) (λD2=>?_);obtain rfl:=HG;rotate_left;clear h;refine e1a1 D2 λk Hy hk=>?_;clear D2;obtain rfl:=Hy;rotate_right)
 . refine e2a2 hv.inv λzz zz Hz h1 h2=>?_;obtain rfl:=Hz;have D6:=h1.sub z.wd.sub;exact ⟨_,_,rfl,D6.dictOf (c:=c),(let ⟨_,_,_,_,_,_,e⟩:=h1;e),h2⟩
 . refine e1a3 (z.gI hv hk) λa Ls hb DT zz=>?_;refine e1a1 DT λrs h1 h2=>?_;refine rE Ls ?_;exact ⟨a,rs,rfl,h1.dictOf (c:=c),(let ⟨_,_,_,_,_,_,e⟩:=h1;e),h2⟩
theorem int_is (x:Int)(t:Tok):(ik prog w).is x (.int x t)=true:=by show Value.isInt x (.int x t)=true;simp [Value.isInt]
theorem tr (h:we S v kvs)(k:K (.bool (b9 kvs x).isSome) S):iX c C (compareOp .In) (.int x) v S K X:=λA F bs s ra rb hA z ha hb=>by
 refine e1a0 ha.inv λzz Bm=>?_;refine rE Bm ?_;refine e2a3 (z.tabI h hb) λd rs Bv h1 h2 h3=>?_;refine rE Bv ?_;refine WP.kept z λQ E q=>wpAny_in_of (int_is x _) h2 h1.mapOf (q _ _ (.toks ..) (ae (.bool (b9 kvs x).isSome) ?_ k));obtain this:(valueAt rs x).isSome=(b9 kvs x).isSome:=by
  (refine bh (bF.get x h3) (λHE=>?_) (λHD=>?_);refine e2a2 HE λzz zz e1 e2 zz=>?_;rotate_left;refine e0a1 HD λe1 e2=>?_;rotate_right) <;> simp [e1,e2]
 refine rE this ?_;exact .bool _
theorem kB (h:we S v kvs)(hy:b9 kvs x=some y)(k:K y S):iX c C getItem v (.int x) S K X:=λA F bs s ra rb hA z ha hb=>by
 refine e1a0 hb.inv λzz HJ=>?_;refine rE HJ ?_;refine e2a3 (z.tabI h ha) λd rs HK h1 h2 h3=>?_;refine rE HK ?_
 (refine bh (bF.get x h3) (λD1=>?_) (λD4=>?_);refine e2a2 D1 λy' w e1 e2 e3=>?_;rotate_left;refine e0a1 D4 λe1 e2=>?_;rotate_right)
 . obtain rfl:=aX (aF (af hy) e1);exact WP.kept z λQ E q=>wpAny_getItem_of (int_is x _) h1.mapOf e2 (q _ _ (.toks ..) (ae y e3 k))
 . exact iY (aF (af hy) e1)
theorem jb (h:we S v xs):∃T id,uu S v=some T/\typeLookup (.type T) "__getitem__"=pure (some (.builtin id)):=by
 (refine bh h (λVD=>?_) (λLu=>?_);clear h;obtain rfl:=VD;rotate_left;clear h;refine e1a1 Lu λk HL hk=>?_;clear Lu;obtain rfl:=HL;rotate_right)
 . exact (dY _ _ rfl PySem.F.slot_dict_getitem.lookup)
 . exact (dY ("dict") _ (fB hk rfl) PySem.F.slot_dict_getitem.lookup)
@[reducible] def D7 (v ov:AV) (K:cR):cw:=λiv S=>∃k x kvs,ov=.ref k/\iv=.int x/\S.heap[k]?=some (.bt kvs)/\kvs.length<=sizeLine/\K {S with heap:=S.heap.set k (.bt (dC kvs x v))}
@[reducible] def HM (c:aP) (C:Cx) (i:Expr) (v:AV) (K:cR) (X:cK):cw:=λov S=>Ev c C i S (D7 v ov K) X
theorem lr {K:cR}(h:Ev c C o S (HM c C i v K X) X):vD c C (.Subscript o i pos) v S K X:=by
 intro A F bs s r hA z hv;refine WP.bind (WP.holding (h A F bs s hA z)) λF₁ bs₁ ac Z ov K7 al ap oB k₁=>?_;refine WP.bind (WP.holding (k₁ A F₁ bs₁ Z hA ap)) λaT ax aC am iv riv an aG hiv Lv=>e3a4 Lv λk x kvs e1 e2 hk hsz k₂=>?_;clear Lv k₁;subst e1 e2;refine e1a0 hiv.inv λzz VE=>?_;refine rE VE ?_;refine e1a3 (aG.gI (an.V oB) hk) λa Lw hb qX zz=>?_;refine e1a1 qX λrs hD Fe=>?_;refine rE Lw ?_;refine WP.standAt (ai (wpAny_holding ?_));refine wpAny_setItem_pairs (int_is x _) (hD.dictOf (c:=c)) (λh' v2 db=>wpAny_release ?_) (by obtain this:=congrArg List.length (bF.keys Fe);simp at this;exact af this▸hsz);obtain qT:(a==sysModules)=false:=(let ⟨_,_,_,_,_,_,e⟩:=hD;e)
 obtain DF:=nE.vR (c:=c) v2 qT;obtain T:ff a am {am with heap:=h',toks:=am.toks+1}:=⟨λb q o e=>(db.2 b q).trans e,(let ⟨_,_,e,_⟩:=DF;(bQ _ e)),rfl,rfl⟩
 exact ⟨aT,ax,(),_,.upd T (.inl (bJ hb)),aG.upd (o':=.bt (dC kvs x v)) T hb hk (by simp) (ae _ DF (bF.put x Fe (an.V (al.V hv)))),trivial,k₂⟩
theorem ly (B:Base c mg mb)(k:K (.ref S.heap.length) {S with heap:=S.heap++[.bt []]}):Ev c C (.Dict [] [] pos) S K X:=by
 intro A F bs s hA z;refine wpAny_Dict_empty ?_;obtain hn:s.heap.get? s.heap.objs.size=none:=gp (aZ _);obtain m:ba c F bs s {s with heap:=s.heap.push (bj #[] 0)}:=⟨λb o e=>cI _ e,rfl,rfl⟩
 obtain ha:({s with heap:=s.heap.push (bj #[] 0)}:Shared).heap.get? s.heap.objs.size=some (bj #[] 0):=dw _ rfl;refine ⟨F,_,.ref S.heap.length,_,.new m hn,z.new (o:=.bt []) m hn ha (ae [] ⟨#[],0,ha,λe he=>by simp at he,?_,List.nodup_nil,z.AD B hn⟩ (.nil)),.ref ?_,k⟩
 . exact .nil
 . refine z.wd.len▸?_;simp
theorem cG.bt (x:Nat)(hx:S.loc.lookup x=some (.ref k))(hk:S.heap[k]?=some (.bt xs)):cG c C S ⟨a7 S.loc x (.cV xs),S.heap.set k .gone⟩:=λF bs s z=>by
 obtain gX:k < bs.length:=by simp only [z.wd.len];exact (bp hk).1
 obtain ⟨a,ha⟩:∃a,bs[k]?=some a:=(bQ _ (df gX))
 refine e0a1 (z.wd.obj k a _ ha hk) λo6 hF=>?_;refine e1a1 o6 λrs o8 h2=>?_;obtain ⟨es,n,h1,h3⟩:=o8;obtain zB:=hF (by simp);refine (ae (plus F a (bj es n)) (Step.freeze (bJ ha) zB) ?_);obtain z':=z.freeze ha hk (by simp) h1 (by simp [aY,bj]);refine z'.AA x (.ref k) (.cV xs) hx λr hr=>?_;refine e1a1 hr.inv λzz o2 e=>?_;refine rE o2 ?_;clear hr;refine (aX (ha.symm.trans e))▸?_;refine .cV ⟨es,n,bO,h3⟩ ?_;simpa using bF.mono (nb:=[]) (aQ zB) h2
theorem qf (h:we S v kvs)(k:K ((b9 kvs x).getD .none) S):eO c C (.builtin "dict.get") [v,.int x] S K X:=by
 intro A F bs s rs hA z hv;refine e2a2 hv.two λr q Bv h1 h2=>?_;refine rE Bv ?_;refine e1a0 h2.inv λzz HJ=>?_;refine rE HJ ?_;clear hv;refine e2a3 (z.tabI h h1) λd rs HK hD HN oq=>?_;refine rE HK ?_;refine WP.kept z λQ E q=>call_meetsIn PySem.F.slot_dict_get hD.typeIs PySem.F.entry_dict_get (PySem.F.args_dict_get_2 _ _) (meets_dict_get (ik c.prog c.w) d (hkey:=int_is x _) HN) (ae _ hD.mapOf (q _ _ (.toks ..) (ae _ ?_ k)))
 (refine bh (bF.get x oq) (λDS=>?_) (λHr=>?_);refine e2a2 DS λy w e1 e2 e3=>?_;rotate_left;refine e0a1 Hr λe1 e2=>?_;rotate_right)
 . refine rE e1 ?_;have:(valueAt rs x)=some w:=e2;simp only [this];exact e3
 . refine (af e1)▸?_;have:(valueAt rs x)=none:=e2;simp only [this];exact .none
theorem bF.at {kvs:List (Int×AV)}{rs:List (Int×Value)}(h:c.IV F bs kvs rs)(i:Nat)(k:Int)(v:Value)(e:rs[i]?=some (k,v)):∃y,kvs[i]?=some (k,y)/\c.V F bs y v:=by
 induction kvs generalizing rs i with
 | nil=>obtain rfl:=h.inv;exact bx e
 | cons p l ih =>
   obtain ⟨_,_,rfl,h,t⟩:=h.inv;cases i with
   | zero=>clear ih;obtain ⟨rfl,Lx⟩:=Prod.mk.inj (aX e);refine Lx▸?_;exact (ae _ rfl h)
   | succ i=>exact ih t i e
theorem bF.length {kvs:List (Int×AV)}{rs:List (Int×Value)}(h:c.IV F bs kvs rs):rs.length=kvs.length:=by obtain this:=congrArg List.length (bF.keys h);simpa using this
theorem Bw {K:bW->(aI->Prop)->cR}(h:Ev c C iter S (λv ac=>∃kvs,v=.cV kvs/\K (kvs.map λp=>.int p.1) (λzz=>True) ac) X):lD c C (.Name x px) iter S K X:=by
 refine xm (kY h λv ac Ly=>e1a1 Ly λkvs e k A F bs s r hA z hv=>?_);clear Ly;subst e;refine e2a2 hv.inv λa rs GM hd bi=>?_;refine rE GM ?_;obtain HN:(a==sysModules)=false:=let ⟨_,_,_,_,_,_,q⟩:=hd;q;obtain ⟨o,ho⟩:∃o,F a=some o:=let ⟨_,_,e,_⟩:=hd;(bQ _ e);obtain wS:nE (ik c.prog c.w) s.heap.get? a rs:=hd.sub z.wd.sub;refine e1a0 wS.dictAt λep nO=>?_;refine wpAny_pyIter_dict HN nO ?_;obtain hn:s.heap.get? s.heap.objs.size=none:=gp (aZ _);generalize kU:({cls:=.type "dict_keyiterator",data:=.fields #[.ref a,.int 0 0,.int rs.length 0,.int ep 0]}:Obj)=ob;obtain ha:(s.heap.push ob).get? s.heap.objs.size=some ob:=dw _ (by refine kU▸?_;rfl);have m:ba c F bs s {s with heap:=s.heap.push ob}:=⟨λb o e=>cI _ e,rfl,rfl⟩
 obtain co:a≠s.heap.objs.size:=cA (Heap.lt_size (z.wd.sub _ _ ho));refine ⟨F,bs,ac,_,kvs.map λp=>.int p.1,_,[s.heap.objs.size],_,rfl,.keep m,z.keep m,Iter.walks (F₀:=F) (bs₀:=bs) (λA hA=>Walks.dictKeys hA s.heap.objs.size a co rs ep) (by simpa using bF.length bi) ?_ ?_ ?_,
  (fA ⟨(a9 ob ha (by rw [<-kU]) (by rw [<-kU];rfl)),nO.at' λo e=>m.keep _ _ e⟩ (Nat.zero_le _) (λzz zz e=>e) [] (by simp)),λa q=>by rw [bD q];exact hn,bR.one z hn ha (by rw [<-kU];simp) (by rw [<-kU];simp),trivial,k⟩
 . intro b hb;rcases er hb with e | hb
   . exact .inl (by simp [e])
   . rw [bD hb];exact .inr (bQ _ ho)
 . intro i v _ ⟨kk,u,h1,h2⟩;refine e1a1 (bF.at bi i kk u h1) λy e1 zz=>?_;refine (ae (.int kk) (by simp only [cj,e1];rfl) ?_);refine e1a0 (Value.isInt_shape h2) λt HL=>?_;refine rE HL ?_;exact .int _ _
 . intro i h be b hb;refine e0a1 be λoS zz=>?_;refine e1a2 oS λo e1 e2 zz=>?_;refine rE (bD hb) ?_;exact (a9 o e1 (by rw [e2];simp) (by rw [e2];simp))
theorem wg {x:Str}{px apos:Pos}{o:Expr}{K:bW->(aI->Prop)->cR}(h:Ev c C o S (λv ac=>∃kvs,v=.cV kvs/\K (kvs.map (·.2)) (λzz=>True) ac) X)
 (ib:attributeBase o "values" C.env (eval o C.env)=eval o C.env:=by rfl)
 (AB:((backTo pos (starEach [] C.env)).all (λx=>!x.1)&&(backToKw pos (keywordEach [] C.env)).all (λx=>x.1.isSome)
  && decide (([]:cz).length+([]:List Keyword).length+(if ([]:List Keyword).isEmpty then 0 else 1) < 30))=true:=by rfl)
 (hline:(apos.endLine==pos.line)=true:=by rfl):lD c C (.Name x px) (.Call (.Attribute o "values" apos) [] [] pos) S K X:=by
 intro A F bs s hA z;refine wpAny_Call_method_lateS ib AB hline (aJ (h A F bs s hA z) (λr Z ⟨F₁,bs₁,ov,ac,al,ap,oB,kvs,e,k₁⟩=>?_) λzz zz e=>e);subst e;refine e0a1 (ap.ty (T:="dict") rfl oB) λt1 t2=>?_;refine (yq ("dict") ("dict.values") PySem.F.plainAttrs_dict PySem.F.slot_dict_values PySem.F.type_dict_values t1 t2 (Calls.callWith_builtin (by rfl) ?_));refine oz _ (λzz q=>nomatch q) ?_;show wpAny _ _ (spliced []) _ _ _;refine bo ?_;refine e2a2 oB.inv λa rs vX hd bi=>?_;clear t2 oB;obtain rfl:=vX;obtain HN:(a==sysModules)=false:=let ⟨_,_,_,_,_,_,q⟩:=hd;q;obtain ⟨o,ho⟩:∃o,F₁ a=some o:=let ⟨_,_,e,_⟩:=hd;(bQ _ e);obtain wS:nE (ik c.prog c.w) Z.heap.get? a rs:=hd.sub ap.wd.sub;refine e1a0 wS.dictAt λep nO=>?_;refine call_meetsIn PySem.F.slot_dict_values t1 PySem.F.entry_dict_values (PySem.F.args_dict_values_1 _) (meets_dict_values (ik c.prog c.w) a HN) ⟨(bQ _ nO.dictOf),?_⟩;generalize Lb:({cls:=.type "dict_values",data:=.fields #[.ref a]}:Obj)=ow;generalize bG:({Z with heap:=Z.heap.push ow}:Shared)=am;obtain m₂:ba c F₁ bs₁ Z am:=by rw [<-bG];exact ⟨λb o e=>cI _ e,rfl,rfl⟩
 obtain aG:=ap.keep m₂;obtain hw:am.heap.IsValuesView Z.heap.objs.size a:=by rw [<-bG];exact (a9 ow (dw _ (by rw [<-Lb];rfl)) (by rw [<-Lb]) (by rw [<-Lb]))
 obtain Bx:am.heap.DictAt (ik c.prog c.w) a rs ep:=nO.at' λo e=>m₂.keep _ _ e;refine wpAny_pyIter_values hw Bx ?_;obtain hn:am.heap.get? am.heap.objs.size=none:=gp (aZ _);generalize kU:({cls:=.type "dict_valueiterator",data:=.fields #[.ref a,.int 0 0,.int rs.length 0,.int ep 0]}:Obj)=ob;obtain ha:(am.heap.push ob).get? am.heap.objs.size=some ob:=dw _ (by rw [<-kU];rfl);obtain m:ba c F₁ bs₁ am {am with heap:=am.heap.push ob}:=⟨λb o e=>cI _ e,rfl,rfl⟩
 obtain co:a≠am.heap.objs.size:=cA (Heap.lt_size (aG.wd.sub _ _ ho));obtain hn0:s.heap.get? am.heap.objs.size=none:=by
  cases q:s.heap.get? am.heap.objs.size with
  | none=>rfl
  | some o=>refine e1a0 ((al.trans (.keep m₂)).mono _ _ q) λo' e'=>?_;exact bx (aF (af hn) e')
 refine ⟨F₁,bs₁,ac,_,kvs.map (·.2),_,[am.heap.objs.size],_,rfl,(al.trans (.keep m₂)).trans (.keep m),aG.keep m,Iter.walks (F₀:=F₁) (bs₀:=bs₁) (λA hA=>Walks.dictValues hA am.heap.objs.size a co rs ep) (by simpa using bF.length bi) ?_ ?_ ?_,
  (fA ⟨(a9 ob ha (by rw [<-kU]) (by rw [<-kU];rfl)),Bx.at' λo e=>m.keep _ _ e⟩ (Nat.zero_le _) (λzz zz e=>e) [] (by simp)),λa q=>by rw [bD q];exact hn0,bR.one aG hn ha (by rw [<-kU];simp) (by rw [<-kU];simp),trivial,k₁⟩
 . intro b hb;rcases er hb with e | hb
   . exact .inl (by simp [e])
   . rw [bD hb];exact .inr (bQ _ ho)
 . intro i v _ ⟨kk,h1⟩;refine e1a1 (bF.at bi i kk v h1) λy e1 e2=>?_;exact (ae y (by rw [cj,e1];rfl) e2)
 . intro i h be b hb;refine e0a1 be λuA zz=>?_;clear be;refine e1a2 uA λo e1 e2 zz=>?_;clear uA;rw [bD hb];exact (a9 o e1 (by rw [e2];simp) (by rw [e2];simp))
theorem cG.yO (d:Nat)(By:fq)(hd:S.heap[d]?=some (.aN Lz))(hk:S.heap[k]?=some (.bt kvs))(co:d≠k)(hr:ti k (.cV kvs) Lz By) :
 cG c C S ⟨S.loc,(S.heap.set k .gone).set d (.aN By)⟩:=λF bs s z=>by
 obtain gX:k < bs.length:=by simp only [z.wd.len];exact (bp hk).1
 obtain ⟨a,ha⟩:∃a,bs[k]?=some a:=(bQ _ (df gX))
 refine e0a1 (z.wd.obj k a _ ha hk) λuB hF=>?_;refine e1a1 uB λrs qX h2=>?_;obtain ⟨es,n,h1,h3⟩:=qX;obtain zB:=hF (by simp);refine (ae (plus F a (bj es n)) (Step.freeze (bJ ha) zB) ?_);have z':=z.freeze ha hk (by simp) h1 (by simp [aY,bj]);obtain VF:d < bs.length:=by simp only [z.wd.len];exact (bp hd).1
 obtain ⟨da,Gr⟩:∃a,bs[d]?=some a:=(bQ _ (df VF))
 have wS:(S.heap.set k .gone)[d]?=some (.aN Lz):=by refine (af (aU (Ne.symm co)))▸?_;exact hd
 refine e0a1 (z'.wd.obj d da _ Gr wS) λvW zz=>?_;refine e1a1 vW λJK g1 g2=>?_;obtain T:ff da s s:=⟨λzz zz zz e=>e,z.wd.there da (bJ Gr),rfl,rfl⟩
 refine z'.upd T Gr wS (by simp) (o':=.aN By) (ae JK g1 (hr.rel (λr hv=>?_) g2));refine e1a1 hv.inv λzz GO e=>?_;refine rE GO ?_;clear hv;refine (aX (ha.symm.trans e))▸?_;refine .cV ⟨es,n,bO,h3⟩ ?_;simpa using bF.mono (nb:=[]) (aQ zB) h2
theorem qZ {kvs:List (Int×AV)}{rs:List (Int×Value)}(h:c.IV F bs kvs rs)(x:Int):c.IV F bs (vU kvs x) (without rs x):=bF.del x h
theorem yP {K:gw}(h:Ev c C o S (λov ac=>Ev c C i ac (λiv aC=>∃k x kvs,ov=.ref k/\iv=.int x/\aC.heap[k]?=some (.bt kvs)/\kvs.length<=sizeLine/\(b9 kvs x).isSome=true/\K .next {aC with heap:=aC.heap.set k (.bt (vU kvs x))}) X) X) :
 jK c C (.Delete [.Subscript o i tp] pos) S K X:=by
 intro A F bs s hA z;show wpAny _ _ (do standAt pos;(do (do let ov <-eval o C.env;let iv <-holding [ov] (eval i C.env);standAt tp;holding [ov,iv] (delItem ov iv);release [ov,iv] []);pure ());pure Flow.next) _ _ _;refine ai (wpAny_standAt ?_);refine ai (ai ?_);refine ai (aJ (h A F bs s hA z) (λov Z LA=>LA.casesOn λF₁ bs₁ v ac al ap hv k₁=>?_) λzz zz e=>e);refine ai (wpAny_holding (aJ (k₁ A F₁ bs₁ Z hA ap) (λiv am ⟨aT,ax,v',aC,an,aG,mt,k,x,kvs,e1,e2,hk,hl,hx,k₂⟩=>?_) λx am VG=>VG.casesOn λaT ax cls aC an aG hx k₂=>⟨aT,ax,cls,aC,al.trans an,aG,hx.back al.mono,k₂⟩));clear k₁;subst e1 e2;refine ai (wpAny_standAt ?_);have LB:=an.V hv;clear hv LA;refine e1a3 (aG.gI LB hk) λa LC ha Gl zz=>?_;refine e1a1 Gl λrs hD oq=>?_;refine rE LC ?_;refine e1a0 mt.inv λtk yt=>?_;refine rE yt ?_;obtain v2:=hD.dictOf;refine ai (wpAny_holding (wpAny_delItem_slot v2.typeIs (rfl) PySem.F.slot_dict_delitem (call_meetsIn PySem.F.slot_dict_delitem v2.typeIs PySem.F.entry_dict_delitem (PySem.F.args_dict_delitem_2 _ _) (meets_dict_delitem_pairs (ik c.prog c.w) a (int_is x tk)) (hZ rs v2 (by refine rE (bF.length oq) ?_;exact hl) ?_ (λh' hm hs=>?_)))))
 . (refine bh (bF.get x oq) (λDN=>?_) (λDM=>?_);refine e2a2 DN λy w e1 e2 e3=>?_;rotate_left;refine e0a1 DM λe1 e2=>?_;rotate_right)
   . refine rE e2 ?_;rfl
   . replace hx:=e1▸hx;exact qK hx
 . refine wpAny_release (bo (bo ?_));obtain HN:(a==sysModules)=false:=let ⟨_,_,_,_,_,_,q⟩:=hD;q;refine e3a1 (id hm) λob zz zz kU zz=>?_;obtain this:=aG.K3 (s':={am with heap:=h',toks:=am.toks+1}) (o':=.bt (vU kvs x)) ha hk (by simp) hs rfl rfl rfl (bQ ob kU) (ae (without rs x) (nE.vR hm HN) (qZ oq x));exact ⟨aT,ax,.next,_,(al.trans an).trans this.1,this.2,rfl,k₂⟩
theorem D8 (k:K (.ref S.heap.length) {S with heap:=S.heap++[.i5 []]}):eO c C (.type "set") [] S K X:=by
 intro A F bs s rs hA z hv;cases hv;refine call_set_0 λled=>?_;obtain m:ba c F bs s {s with heap:=s.heap.push {cls:=.type "set",dict:=none,data:=.set #[] 0 (.fresh 0 0 led)}}:=⟨λb o e=>cI _ e,rfl,rfl⟩
 obtain hg:(s.heap.push {cls:=.type "set",dict:=none,data:=.set #[] 0 (.fresh 0 0 led)}).get? s.heap.objs.size=some {cls:=.type "set",dict:=none,data:=.set #[] 0 (.fresh 0 0 led)}:=dw _ rfl;refine z.Hu (o:=.i5 []) m (St.ic s) hg ?_ k;exact PyProof.Rows.SetOf_congr ((PyProof.Rows.setObjOf_fresh (knd:=ik c.prog c.w) led).setOf hg (by unfold scanBound;exact (Nat.le_of_ble_eq_true rfl))) (λzz=>rfl) rfl
theorem xD (h:S.heap[k]?=some (.i5 D))(kk:K (.bool (decide (x∈D))) S):iX c C (compareOp .In) (.int x) (.ref k) S K X:=λA F bs s ra rb hA z ha hb=>by refine e1a0 ha.inv λzz o5=>?_;refine rE o5 ?_;refine e1a3 (z.gI hb h) λa o4 ha hS zz=>?_;refine rE o4 ?_;exact WP.kept z λQ E q=>wpAny_inSet_of (int_is x _) rfl hS (q _ _ (.toks ..) (ae _ (.bool _) kk))
theorem yQ (h:S.heap[k]?=some (.i5 D))(hl:D.length < 1000)(kk:K .none {S with heap:=S.heap.set k (.i5 (if x∈D then D else D++[x]))}):eO c C (.builtin "set.add") [.ref k,.int x] S K X:=by
 intro A F bs s rs hA z hv;refine e2a2 hv.two λr q o3 h1 h2=>?_;refine rE o3 ?_;refine e1a0 h2.inv λzz o2=>?_;refine rE o2 ?_;clear hv;refine e1a3 (z.gI h1 h) λa o1 ha hS zz=>?_;refine rE o1 ?_;refine call_set_add (int_is x _) rfl hS (by skip;exact dX hl (Nat.le_add_left (Nat.succ 1000) 3095)) λh' Hw Ys=>?_;refine e4a1 (id Ys) λob zz zz zz kU zz=>?_;have:=z.K3 (s':={s with heap:=h',toks:=s.toks+1}) (o':=.i5 (if x∈D then D else D++[x])) ha h (by simp) Hw rfl rfl rfl (bQ ob kU) (SetOf_congr Ys (λy=>?_) ?_)
 . exact ⟨F,bs,.none,_,this.1,this.2,.none,kk⟩
 . by_cases q:x∈D
   . simp only [q,if_true];by_cases e:y=x
     . cases e;simp [q]
     . simp [e]
   . simp only [q,if_false,List.mem_append,List.mem_singleton];by_cases e:y∈D <;> simp [e]
 . by_cases q:x∈D <;> simp [q]
end
end Mine.Internal
namespace Mine.Internal
open PySem PyProof.Rows
noncomputable def rg {κ α β:Type}(f:α->β)(kvs:List (κ×α)):List (κ×β):=kvs.map λp=>(p.1,f p.2)
theorem rR {κ α β:Type} [DecidableEq κ] (f:α->β)(kvs:List (κ×α))(k:κ):b9 (rg f kvs) k=(b9 kvs k).map f:=by
 induction kvs with
 | nil=>rfl
 | cons p l ih =>
   by_cases e:p.1=k
   . simp [b9,rg,e]
   . simp only [b9,rg,List.map_cons,List.find?_cons,e,decide_false] at ih ⊢;exact ih
theorem yR {κ α β:Type} [DecidableEq κ] (f:α->β)(kvs:List (κ×α))(k:κ)(v:α):dC (rg f kvs) k (f v)=rg f (dC kvs k v):=by
 delta dC rg;obtain h:(kvs.map λp=>(p.1,f p.2)).any (λkv=>decide (kv.1=k))=kvs.any (λkv=>decide (kv.1=k)):=by simp [Function.comp_def]
 rw [h]
 split
 . simp only [List.map_map];apply List.map_congr_left;intro p _;by_cases e:p.1=k <;> simp [e]
 . simp
noncomputable abbrev cq (l:a8):AV:=.lst (l.map .str)
theorem iI (n:Nat)(l:a8):(cq l).under n=true:=by simp [d9]
theorem uX {κ α:Type} [DecidableEq κ] (kvs:List (κ×α))(k:κ)(v:α):(dC kvs k v).length<=kvs.length+1:=by delta dC;split <;> simp
theorem len_app (x y:Str):(x++y).length=x.length+y.length:=by show (x.cps++y.cps).size=_;simp [Str.length]
end Mine.Internal
namespace Mine.Internal
open PySem PyProof.Rows PySem.W
section
variable {c:aP}{C:Cx}{S:AS}{F F':G}{bs az:aA}{s s':Shared}{A:Around}{mg mb:dZ}{X:cK}{K:cw}{pos:Pos}
end
end Mine.Internal
namespace Mine.Internal
theorem Bz {a:Nat}:0<=(↑a:Int):=by simp +arith
theorem Fy :0 < 3:=by simp +arith
theorem Fz :1 < 3:=by simp +arith
theorem FA :2 < 3:=by simp +arith
theorem FC {a:Nat}{b:Nat}:a < 60->b < a->(↑b:Int) < 2 ^ 63:=by lia
theorem HO {a:Nat}{b:Nat}{c:Nat}:a < b->b < c->a < c:=by lia
theorem IZ {a:Nat}:a < 0->False:=by simp +arith
theorem I1 {a:Nat}{b:Nat}:a < b+1->¬a=b->a < b:=by lia
theorem LD {a:Nat}:a+1<=a+6:=by simp +arith
theorem LF {a:Nat}:a < 3->a=0\/a=1\/a=2:=by lia
theorem BA {a:Nat}:a < 60->a<=2 ^ 24:=by lia
theorem BC {a:Nat}{b:Nat}:(↑a:Int)=(↑b:Int)->a=b:=by lia
theorem BD {a:Nat}{b:Nat}:a < 3->b < 3->3*a+b < 9:=by lia
theorem BE {a:Nat}{b:Nat}:a < 60->b<=a->b<=2 ^ 24:=by lia
theorem D9 {a:Nat}:-2 ^ 64 < (↑a:Int):=by lia
theorem Ea {a:Nat}:a+8≠0:=by lia
theorem Eb {a:Nat}:a < 3->(↑a:Int) < 2 ^ 64:=by lia
theorem Ec {a:Nat}{b:Nat}:a+1<=b->a < b:=λh=>h
theorem Ed {a:Nat}{b:Nat}:¬a < b->b<=a:=by simp +arith
theorem HP {a:Nat}:a < 9->a<=9:=by lia
theorem HQ {a:Nat}:a<=40->a<=2 ^ 24:=by lia
theorem HR {a:Nat}{b:Nat}:3*(↑a:Int)+(↑b:Int)=(↑(3*a+b):Int):=rfl
theorem HS {a:Nat}{b:Nat}:a < b->a=b->False:=by lia
theorem HT {a:Nat}{b:Nat}:a < b->a<=b:=by lia
theorem HU {a:Nat}{b:Nat}:¬a=b->(↑a:Int)≠(↑b:Int):=by lia
theorem LG :0<=3:=by simp +arith
theorem LH :0<=9:=by simp +arith
theorem LI :63 < 75:=by simp +arith
theorem LJ :64 < 75:=by simp +arith
theorem LK :74 < 75:=by simp +arith
theorem LL {a:Int}{b:Nat}:a.toNat < b->a < (↑b:Int):=by lia
theorem LN {a:Nat}:(↑a:Int) % 2=(↑(a % 2):Int):=rfl
theorem LO {a:Nat}:(↑a:Int) % 3=(↑(a % 3):Int):=rfl
theorem LP {a:Nat}:63≠65+a:=by simp +arith
theorem LQ {a:Nat}:64≠65+a:=by simp +arith
theorem LR {a:Nat}:a+1≠0:=by simp +arith
theorem LS {a:Nat}:a+1<=6->a < 6:=λh=>h
theorem LU {a:Nat}:a+1<=6->a<=6:=by lia
theorem LV {a:Nat}:a+2<=a+6:=by simp +arith
theorem LW {a:Nat}:a < 3->a+1<=3:=λh=>h
theorem LY {a:Nat}:a < 9->(↑a:Int) < 2 ^ 63:=by lia
theorem LZ {a:Nat}:a < 9->65+a < 75:=by lia
theorem L4 {a:Nat}:a=0+2->a=3\/a=4->False:=by lia
theorem L5 {a:Nat}:a=0->a=3\/a=4->False:=by lia
theorem L6 {a:Nat}:a<=18->a < 60:=by lia
theorem L7 {a:Nat}:a<=2->a<=2 ^ 24:=by lia
theorem L8 {a:Nat}:a<=40->a < 2 ^ 63:=by lia
theorem L9 {a:Nat}:a<=9->a<=16777216:=by lia
theorem Ma {a:Nat}:¬a+3 < 3:=by lia
theorem VH {a:Nat}{b:Nat}:(↑a:Int) < (↑b:Int)↔a < b:=by simp +arith
theorem Mb {a:Nat}{b:Nat}:(↑a:Int)=(↑(b - 97):Int)->a=b - 97:=by lia
theorem Mc {a:Nat}{b:Nat}:0<=(↑(3*a+b):Int):=by lia
theorem Md {a:Nat}{b:Nat}:0<=3*(↑a:Int)+(↑b:Int):=by lia
theorem Me {a:Nat}{b:Nat}:5<=a->a<=b->5<=b:=by lia
theorem Mf {a:Nat}{b:Nat}:5<=a->b=3\/b=4->b=a+1\/b=a+2->False:=by lia
theorem Mg {a:Nat}{b:Nat}:75<=a->b < 75->b < a:=by lia
theorem Mh {a:Nat}{b:Nat}:a+1<=b->a<=b:=by lia
theorem VI {a:Nat}{b:Nat}:a+b - a=b:=by simp +arith
theorem Mi {a:Nat}{b:Nat}:a+b<=11->a+b<=2 ^ 24:=by lia
theorem Mj {a:Nat}{b:Nat}:a < 3->b < 3->(↑(3*a+b):Int) < 2 ^ 63:=by lia
theorem Mk {a:Nat}{b:Nat}:a < 3->b < 3->3*(↑a:Int)+(↑b:Int) < 2 ^ 63:=by lia
theorem Ml {a:Nat}{b:Nat}:a < 60->b<=a->b < 100:=by lia
theorem Mm {a:Nat}{b:Nat}:a < 60->b<=a->b < 1000:=by lia
theorem Mn {a:Nat}{b:Nat}:a < b+1->a<=b:=by simp +arith
theorem Mo {a:Nat}{b:Nat}:a < b->a < b+1:=by lia
theorem Mp {a:Nat}{b:Nat}:a<=18->b<=a->b < 60:=by lia
theorem Mq {a:Nat}{b:Nat}:a<=40+b->a<=40+(b+1):=by lia
theorem Mr {a:Nat}{b:Nat}:a<=b->b=a+(b - a):=by lia
theorem Ms {a:Nat}{b:Nat}:¬a+b < a:=by simp +arith
theorem Mt {a:Nat}{b:Nat}{c:Nat}:a+20*b < c->b≠0->a+1 < c:=by lia
theorem Mu {a:Nat}{b:Nat}{c:Nat}:a+b+c<=15->a+b+c<=2 ^ 24:=by lia
theorem Mv {a:Nat}{b:Nat}{c:Nat}:a+b<=c->a<=c:=by lia
theorem Mw {a:Nat}{b:Nat}{c:Nat}:a < b->b=c->a < c:=by lia
theorem Mx {a:Nat}{b:Nat}{c:Nat}:a=97+b->c<=b->97+c<=a:=by lia
theorem My {a:Nat}{b:Nat}{c:Nat}{d:Nat}:a+(b+1)=c+b->a+2*(3 - d) < c+2*(3 - d):=by lia
theorem Mz {a:Nat}{b:Nat}{c:Nat}{d:Nat}:a+b<=c->b=d->c<=18->d<=40:=by lia
theorem MA {a:Nat}{b:Nat}{c:Nat}{d:Nat}:a=b->b=c->d=c->a=d:=by lia
theorem MB {a:Nat}{b:Nat}{c:Nat}{d:Nat}:a=b->b=c/\d=c->a=d:=by lia
theorem MC {a:Nat}{b:Nat}{c:Nat}{d:Nat}:a=b->c=b/\d=b->a=d:=by lia
theorem VJ :0≠1:=by simp +arith
theorem VK :0≠2:=by decide
theorem VL :0<=6:=by simp +arith
theorem VM :1≠0:=by simp +arith
theorem VN :1≠2:=by decide
theorem VO :2≠0:=by decide
theorem VP :2≠1:=by simp +arith
theorem VQ :63<=63:=by simp +arith
theorem VR :63<=64:=by simp +arith
theorem VS :63<=74:=by simp +arith
theorem VT :¬(3=0\/3=0+2):=by decide
theorem VU :¬(4=0\/4=0+2):=by decide
theorem VV {a:Int}:0<=a->-2 ^ 63<=a:=by lia
theorem VW {a:Int}:0<=a->a < 1000->-9223372036854775808<=a/\a < 9223372036854775808:=by lia
theorem VX {a:Int}:0<=a->a < 2 ^ 63->-9223372036854775808<=a/\a < 9223372036854775808:=by lia
theorem VY {a:Int}{b:Int}:a<=b->b<=a->a=b:=by lia
theorem VZ {a:Int}{b:Int}:a<=b\/b<=a:=by lia
theorem V0 {a:Int}{b:Int}{c:Int}:a<=b->b<=c->a<=c:=by lia
theorem V1 {a:Nat}:(2+(↑a:Int) / 3) % 9=(↑((2+a / 3) % 9):Int):=rfl
theorem V2 {a:Nat}:(↑a:Int)+1+(↑(a / 3 % 2):Int)=(↑(a+1+a / 3 % 2):Int):=rfl
theorem V3 {a:Nat}:(↑a:Int)+1=1->a=0:=by simp +arith
theorem MD {a:Nat}:(↑a:Int) / 3=(↑(a / 3):Int):=rfl
theorem ME {a:Nat}:(↑a:Int) / 6=(↑(a / 6):Int):=rfl
theorem MF {a:Nat}:(↑a:Int)=(↑a:Int)+1 - 1:=by simp +arith
theorem MG {a:Nat}:5<=a->3≠a:=by lia
theorem MH {a:Nat}:5<=a->3≠a+1:=by lia
theorem MI {a:Nat}:5<=a->3≠a+2:=by lia
theorem MJ {a:Nat}:5<=a->4≠a:=by lia
theorem MK {a:Nat}:5<=a->4≠a+1:=by lia
theorem ML {a:Nat}:5<=a->4≠a+2:=by lia
theorem MM {a:Nat}:5<=a->a≠4:=by lia
theorem MN {a:Nat}:6+6*a=6*(a+1):=by simp +arith
theorem MO {a:Nat}:63<=65+a:=by simp +arith
theorem MP {a:Nat}:65+a=63+(2+a):=by simp +arith
theorem MQ {a:Nat}:65+a≠63:=by simp +arith
theorem MR {a:Nat}:65+a≠64:=by simp +arith
theorem MS {a:Nat}:7*a+7=7*(a+1):=rfl
theorem MT {a:Nat}:7*a≠64:=by lia
theorem MU {a:Nat}:7*a≠74:=by lia
theorem MV {a:Nat}:9<=a->6<=a:=by lia
theorem MW {a:Nat}:97<=a->97+(a - 97)=a:=by omega
theorem MX {a:Nat}:97<=a->a≠34:=by lia
theorem MY {a:Nat}:97<=a->a≠92:=by lia
theorem MZ {a:Nat}:a+1<=9->a<=9:=by lia
theorem M0 {a:Nat}:a+2<=a+8:=by simp +arith
theorem M1 {a:Nat}:a+4<=a+6:=by simp +arith
theorem M3 {a:Nat}:a+7≠0:=by lia
theorem M4 {a:Nat}:a+7<=a+8:=by simp +arith
theorem M5 {a:Nat}:a < 100->0+a < 1000:=by lia
theorem M6 {a:Nat}:a < 100->a < 1000:=by lia
theorem M7 {a:Nat}:a < 115->a - 97 < 18:=by simp +arith
theorem M8 {a:Nat}:a < 18->(↑a:Int) < 2 ^ 63:=by lia
theorem M9 {a:Nat}:a < 18->a < 2 ^ 63:=by lia
theorem Na {a:Nat}:a < 18->a<=2 ^ 24:=by lia
theorem Nb {a:Nat}:a < 3->(↑a:Int)=0\/(↑a:Int)=1\/(↑a:Int)=2:=by lia
theorem Nc {a:Nat}:a < 6->a=0\/a=1\/a=2\/a=3\/a=4\/a=5:=by lia
theorem Nf {a:Nat}:a < 6->a<=6:=by lia
theorem Ng {a:Nat}:a < 60->a < 2 ^ 62:=by lia
theorem Nh {a:Nat}:a < 60->a < 2 ^ 63:=by lia
theorem Ni {a:Nat}:a < 60->a<=16777216:=by lia
theorem Nj {a:Nat}:a < 9->65+a≠74:=by lia
theorem Nk {a:Nat}:a < 9->7*a+7<=63:=by lia
theorem Nl {a:Nat}:a < 9->7*a+7<=64:=by lia
theorem Nm {a:Nat}:a < 9->7*a+7<=74:=by lia
theorem Nn {a:Nat}:a < 9->7*a≠63:=by lia
theorem Np {a:Nat}:a < 9->74≠65+a:=by lia
theorem Nq {a:Nat}:a < a+1:=by simp +arith
theorem Nr {a:Nat}:a=0->a=3->False:=by lia
theorem Nt {a:Nat}:a=0\/a≠0:=by lia
theorem Nu {a:Nat}:a=1\/a=2\/a=3\/a=5\/a=6\/a=7->a < 9:=by lia
theorem Nv {a:Nat}:a=1\/a≠1:=by lia
theorem Nw {a:Nat}:a=2\/a≠2:=by lia
theorem Nx {a:Nat}:a<=12->a<=2 ^ 24:=by lia
theorem Ny {a:Nat}:a<=18->a<=20:=by lia
theorem Nz {a:Nat}:a<=18->a<=40:=by lia
theorem NA {a:Nat}:a<=256->a<=1152921504606846975:=by lia
theorem NB {a:Nat}:a<=256->a<=16777216:=by lia
theorem NC {a:Nat}:a<=3->a < 64:=by lia
theorem ND {a:Nat}:a<=3->a<=40:=by lia
theorem NF {a:Nat}:a<=39->a<=40:=by lia
theorem NG {a:Nat}:a<=40->6*a+6<=2 ^ 24:=by lia
theorem NH {a:Nat}:a<=40->6*a < 900:=by lia
theorem NI {a:Nat}:a<=40->a < 60:=by lia
theorem NJ {a:Nat}:a<=40->a<=16777216:=by lia
theorem NK {a:Nat}:a<=6->a < 64:=by lia
theorem NL {a:Nat}:a<=6->a<=2 ^ 24:=by lia
theorem NM {a:Nat}:a<=6->a<=40:=by lia
theorem NN {a:Nat}:a<=60->a<=2 ^ 24:=by lia
theorem NO {a:Nat}:a<=63->a<=2 ^ 24:=by lia
theorem NP {a:Nat}:min 12 a<=12:=by lia
theorem NQ {a:Nat}:min 12 a<=2 ^ 24:=by lia
theorem NR {a:Nat}:¬97+a=32:=by simp +arith
theorem NS {a:Nat}:¬a / 6=1->(↑(a / 6):Int)≠1:=by lia
theorem NT {a:Nat}:¬a < 9->9<=a:=by simp +arith
theorem NU {a:Nat}{b:Nat}:(↑a:Int)+(↑b:Int)=(↑(a+b):Int):=rfl
theorem NV {a:Nat}{b:Nat}:(↑a:Int)=(↑b:Int)->b=a:=by lia
theorem NW {a:Nat}{b:Nat}:(↑a:Int)=(↑b:Int)->¬a=b->False:=by lia
theorem NX {a:Nat}{b:Nat}:(↑a:Int)=(↑b:Int)↔a=b:=by lia
theorem NY {a:Nat}{b:Nat}:5<=a->b=3\/b=4->b=a->False:=by lia
theorem NZ {a:Nat}{b:Nat}:63<=a->7*b<=a/\a < 7*b+7->b < 9->False:=by lia
theorem N0 {a:Nat}{b:Nat}:75<=a->b < 75->b=a->False:=by lia
theorem N1 {a:Nat}{b:Nat}:97+a<=b->¬b < 97+a:=by simp +arith
theorem N2 {a:Nat}{b:Nat}:97<=a->(a - 97 < b↔a < 97+b):=by lia
theorem N3 {a:Nat}{b:Nat}:a+1 < b+1->a < b:=by simp +arith
theorem N4 {a:Nat}{b:Nat}:a+1<=9->b=9->a < b:=by lia
theorem N5 {a:Nat}{b:Nat}:a+1<=b->b=b - 1+1:=by lia
theorem N6 {a:Nat}{b:Nat}:a+b<=2->a<=2:=by lia
theorem N7 {a:Nat}{b:Nat}:a - b=0->a - b=0:=λh=>h
theorem N8 {a:Nat}{b:Nat}:a - b=0->¬a < b->a=b:=by lia
theorem N9 {a:Nat}{b:Nat}:a < 100->b < 1000->b+a<=2 ^ 24:=by lia
theorem Oa {a:Nat}{b:Nat}:a < 20->b<=2->2*a+b < 900:=by lia
theorem Ob {a:Nat}{b:Nat}:a < 20->b<=a->b<=2 ^ 24:=by lia
theorem Oc {a:Nat}{b:Nat}:a < 3->a≠b->b < 3->(↑(3*a+b):Int)=1\/(↑(3*a+b):Int)=2\/(↑(3*a+b):Int)=3\/(↑(3*a+b):Int)=5\/(↑(3*a+b):Int)=6\/(↑(3*a+b):Int)=7:=by lia
theorem Od {a:Nat}{b:Nat}:a < 3->a≠b->b < 3->3*a+b=1\/3*a+b=2\/3*a+b=3\/3*a+b=5\/3*a+b=6\/3*a+b=7:=by lia
theorem Oe {a:Nat}{b:Nat}:a < 3->b≠1->¬3*b+a=3:=by lia
theorem Of {a:Nat}{b:Nat}:a < 3->b≠1->¬3*b+a=5:=by lia
theorem Og {a:Nat}{b:Nat}:a < 3->b≠2->¬3*b+a=6:=by lia
theorem Oh {a:Nat}{b:Nat}:a < 3->b≠2->¬3*b+a=7:=by lia
theorem Oi {a:Nat}{b:Nat}:a < 3->b<=40+a->6*b+6<=2 ^ 24:=by lia
theorem Oj {a:Nat}{b:Nat}:a < 60->b<=a->b < 64:=by lia
theorem Ol {a:Nat}{b:Nat}:a < 64->b=a->b < 64:=by lia
theorem Om {a:Nat}{b:Nat}:a < 7*b+7->b < 9->a < 75:=by lia
theorem Oo {a:Nat}{b:Nat}:a < 9->7*a+7<=65+b:=by lia
theorem Oq {a:Nat}{b:Nat}:a < 9->7*a≠65+b:=by lia
theorem Ot {a:Nat}{b:Nat}:a < 9->b<=2*a->b < 18:=by lia
theorem Ou {a:Nat}{b:Nat}:a < 9->b<=2*a->b<=18:=by lia
theorem Ov {a:Nat}{b:Nat}:a < b->(↑a:Int) < (↑b:Int):=by simp +arith
theorem Ow {a:Nat}{b:Nat}:a < b->(↑a:Int)<=(↑b:Int):=by lia
theorem Ox {a:Nat}{b:Nat}:a < b->(↑a:Int).toNat < (↑b:Int).toNat:=λh=>h
theorem Oy {a:Nat}{b:Nat}:a < b->97+a < 97+b:=by simp +arith
theorem Oz {a:Nat}{b:Nat}:a < b->a≠b:=by lia
theorem OA {a:Nat}{b:Nat}:a < b->b < a->False:=by lia
theorem OB {a:Nat}{b:Nat}:a < b->b<=0->False:=by lia
theorem OC {a:Nat}{b:Nat}:a < b->b<=20->a < 20:=by lia
theorem OD {a:Nat}{b:Nat}:a < b↔97+a < 97+b:=by simp +arith
theorem OE {a:Nat}{b:Nat}:a=6->b<=a->b<=2 ^ 24:=by lia
theorem OF {a:Nat}{b:Nat}:a=7*9->a<=63+b:=by lia
theorem OG {a:Nat}{b:Nat}:a=97+b->97<=a:=by lia
theorem OH {a:Nat}{b:Nat}:a=97+b->a - 97=b:=by omega
theorem OI {a:Nat}{b:Nat}:a=97+b->a≠32:=by lia
theorem OJ {a:Nat}{b:Nat}:a=b->a<=b:=by lia
theorem OK {a:Nat}{b:Nat}:a≠0->¬(a=0/\b≠0):=by lia
theorem OL {a:Nat}{b:Nat}:a≠0->¬3*a+b=1:=by lia
theorem OM {a:Nat}{b:Nat}:a≠0->¬3*a+b=2:=by lia
theorem ON {a:Nat}{b:Nat}:a≠1->¬(a=1/\b≠1):=by lia
theorem OO {a:Nat}{b:Nat}:a≠2->¬(a=2/\b≠2):=by lia
theorem OP {a:Nat}{b:Nat}:a≠b - 97->¬(↑a:Int)=(↑(b - 97):Int):=by lia
theorem OQ {a:Nat}{b:Nat}:a<=2*b->a<=2*(b+1):=by lia
theorem OR {a:Nat}{b:Nat}:a<=2*b->b<=9->a<=18:=by lia
theorem OS {a:Nat}{b:Nat}:a<=20->b<=3*a->b < 900:=by lia
theorem OT {a:Nat}{b:Nat}:a<=40+b->a+1<=40+(b+1):=by simp +arith
theorem OU {a:Nat}{b:Nat}:a<=60->b<=a->b < 1000:=by lia
theorem OV {a:Nat}{b:Nat}:a<=a+b:=by simp +arith
theorem OW {a:Nat}{b:Nat}:a<=b->a<=b:=λh=>h
theorem OX {a:Nat}{b:Nat}:a<=b->a<=b+1:=by lia
theorem OY {a:Nat}{b:Nat}:a<=b->¬(↑b:Int) < (↑a:Int):=by simp +arith
theorem OZ {a:Nat}{b:Nat}:a<=b->¬a=b->a+1<=b:=by lia
theorem O0 {a:Nat}{b:Nat}:a<=b->¬a=b->a < b:=by lia
theorem O1 {a:Nat}{b:Nat}:a<=b->¬a=b->b - (a+1) < b - a:=by lia
theorem O2 {a:Nat}{b:Nat}:a<=b->¬b=a->a < b:=by lia
theorem O3 {a:Nat}{b:Nat}:¬a=b->65+b≠65+a:=by lia
theorem O4 {a:Nat}{b:Nat}:¬a=b->7*b < 7*a\/7*a+7<=7*b:=by lia
theorem O5 {a:Nat}{b:Nat}:¬a=b->¬(↑a:Int)=(↑b:Int):=by lia
theorem O6 {a:Nat}{b:Nat}{c:Nat}:(↑a:Int)=3*(↑b:Int)+(↑c:Int)->a=3*b+c:=by lia
theorem O7 {a:Nat}{b:Nat}{c:Nat}:7*a<=b->7*c<=b/\b < 7*c+7->b < 7*a+7->¬a=c->False:=by lia
theorem O8 {a:Nat}{b:Nat}{c:Nat}:97<=a->a - 97 < b->b < c->c<=18->97<=a/\a < 115:=by lia
theorem O9 {a:Nat}{b:Nat}{c:Nat}:a+b<=c->a+b<=c+1:=by lia
theorem Pa {a:Nat}{b:Nat}{c:Nat}:a < 20->b<=2->c<=3*a->c+b < 900:=by lia
theorem Pb {a:Nat}{b:Nat}{c:Nat}:a < 60->b<=a->c<=a->b<=60/\c<=60:=by lia
theorem Pc {a:Nat}{b:Nat}{c:Nat}:a < b+7->a=c->b<=a->c < b\/b+7<=c->False:=by lia
theorem Pd {a:Nat}{b:Nat}{c:Nat}:a < b->b<=c+1->a<=c:=by lia
theorem Pe {a:Nat}{b:Nat}{c:Nat}:a < b->c+a < c+b:=by simp +arith
theorem Pf {a:Nat}{b:Nat}{c:Nat}:a < b->c=97+a->97<=c/\c < 97+b:=by lia
theorem Pg {a:Nat}{b:Nat}{c:Nat}:a < b->¬c < b->a < c:=by lia
theorem Ph {a:Nat}{b:Nat}{c:Nat}:a < min b c->a < b:=by lia
theorem Pj {a:Nat}{b:Nat}{c:Nat}:a=b->¬c < a->b<=c:=by lia
theorem Pk {a:Nat}{b:Nat}{c:Nat}:a<=1->b<=10->c<=4->a+b<=11/\a+b+c<=15:=by lia
theorem Pl {a:Nat}{b:Nat}{c:Nat}:a<=2*b+c->c<=2->a<=2*(b+1):=by lia
theorem Pm {a:Nat}{b:Nat}{c:Nat}:a<=b+1->b<=c->a<=c+1:=by lia
theorem Pn {a:Nat}{b:Nat}{c:Nat}{d:Nat}:3*a+b=3*c+d->b < 3->d < 3->a=c/\b=d:=by lia
theorem Po {a:Nat}{b:Nat}{c:Nat}{d:Nat}:a+(b+1)=c+2*1+b->d+1<=3->a+2*(3 - (d+1)) < c+2*(3 - d):=by lia
theorem Pp {a:Nat}{b:Nat}{c:Nat}{d:Nat}:a+(b+1)=c+b->d+1+a=d+c:=by simp +arith
theorem Pq {a:Nat}{b:Nat}{c:Nat}{d:Nat}:a+b=c+2*0+b->d+a=d+c:=by simp +arith
theorem Pr {a:Nat}{b:Nat}{c:Nat}{d:Nat}:a+b=c+b->d+a=d+c:=by simp +arith
theorem Pt {a:Nat}{b:Nat}{c:Nat}{d:Nat}:a < b+1->b < a->c≠d:=by lia
theorem Pu {a:Nat}{b:Nat}{c:Nat}{d:Nat}:a < b->c=97+a->d=b->c - 97 < d:=by lia
theorem Px {a:Nat}{b:Nat}{c:Nat}{d:Nat}:a < b->c=b+d->a < c:=by lia
theorem Py {a:Nat}{b:Nat}{c:Nat}{d:Nat}:a=b->b<=c+1->a+d<=c+1+d:=by lia
theorem Pz {a:Nat}{b:Nat}{c:Nat}{d:Nat}:a<=18->b<=a - c->d<=b->d<=40:=by lia
theorem PA {a:Nat}{b:Nat}{c:Nat}{d:Nat}:a<=2->b<=3*c->d<=b+1+a->d<=3*(c+1):=by lia
theorem PB {a:Nat}{b:Nat}{c:Nat}{d:Nat}{e:Nat}:a+(b+1)=c->d+a+b<=e->e<=18->c<=40:=by lia
theorem PC {a:Nat}{b:Nat}{c:Nat}{d:Nat}{e:Nat}:a+b=c+(b+1)->d+c<=2*e->d+1+a<=2*(e+1):=by lia
theorem PD {a:Nat}{b:Nat}{c:Nat}{d:Nat}{e:Nat}{f:Nat}{g:Nat}:a+b+(c+b)+d+e+f+g=a+c+d+e+f+g+2*b:=by simp +arith
theorem PE {a:Nat}{b:Nat}{c:Nat}{d:Nat}{e:Nat}{f:Nat}{g:Nat}:a+b+(c+d)+(e+d)+f+g=a+b+c+e+f+g+2*d:=by simp +arith
theorem PF {a:Nat}{b:Nat}{c:Nat}{d:Nat}{e:Nat}{f:Nat}{g:Nat}:a+b+c+d+(e+f)+(g+f)=a+b+c+d+e+g+2*f:=by simp +arith
theorem PG {a:Nat}{b:Nat}{c:Nat}{d:Nat}{e:Nat}{f:Nat}{g:Nat}:a+b+c+d+e+f+g=a+b+c+d+e+g+f:=by simp +arith
theorem PH {a:Nat}{b:Nat}{c:Nat}{d:Nat}{e:Nat}{f:Nat}{g:Nat}:a+b+c+d+e+f+g=a+b+c+d+g+f+e:=by simp +arith
theorem PJ {a:Nat}{b:Nat}{c:Nat}{d:Nat}{e:Nat}{f:Nat}{g:Nat}:a+b+c+d+e+f+g=a+b+c+g+e+f+d:=by simp +arith
theorem PK {a:Nat}{b:Nat}{c:Nat}{d:Nat}{e:Nat}{f:Nat}{g:Nat}:a+b+c+d+e+f+g=a+b+g+d+e+f+c:=by simp +arith
theorem PL {a:Nat}{b:Nat}{c:Nat}{d:Nat}{e:Nat}{f:Nat}{g:Nat}:a+b+c+d+e+f+g=a+g+c+d+e+f+b:=by simp +arith
theorem PM {a:Nat}{b:Nat}{c:Nat}{d:Nat}{e:Nat}{f:Nat}{g:Nat}:a+b+c+d+e+f+g=g+b+c+d+e+f+a:=by simp +arith
end Mine.Internal
namespace Mine.Internal
open PySem PyProof.Rows PySem.W
section
variable {c:aP}{C:Cx}{S:AS}{F F':G}{bs az:aA}{s s':Shared}{A:Around}{X:cK}{K:cw}{mg mb:dZ}{pos:Pos}
theorem wh (h:we S v kvs)(k:K (.bool (!(b9 kvs x).isSome)) S):iX c C (compareOp .NotIn) (.int x) v S K X:=λA F bs s ra rb hA z ha hb=>by
 refine e1a0 ha.inv λzz Bm=>?_;refine rE Bm ?_;refine e2a3 (z.tabI h hb) λd rs Bv h1 h2 h3=>?_;refine rE Bv ?_;refine WP.kept z λQ E q=>wpAny_notIn_of (int_is x _) h2 h1.mapOf (q _ _ (.toks ..) (ae (.bool (!(b9 kvs x).isSome)) ?_ k));obtain this:(valueAt rs x).isSome=(b9 kvs x).isSome:=by rcases bF.get x h3 with ⟨_,_,e1,e2,_⟩ | ⟨e1,e2⟩ <;> simp [e1,e2]
 refine rE this ?_;exact .bool _
theorem Ee {l:List Int}(h:bZ S v (l.map .int))(k:K (.bool (l.any (·==x))) S):iX c C (compareOp .In) (.int x) v S K X:=λA F bs s ra rb hA z ha hb=>by refine e1a0 ha.inv λzz qX=>?_;refine rE qX ?_;refine e2a3 (z.seq h hb) λa vs oS hL bi zz=>?_;refine rE oS ?_;exact WP.kept z λQ E q=>in_list_ints hL.isList bi.ints (q _ _ (.refl ..) (ae _ (.bool _) k))
theorem jr {l:List Int}(h:bZ S v (l.map .int))(k:K (.bool (!(l.any (·==x)))) S):iX c C (compareOp .NotIn) (.int x) v S K X:=λA F bs s ra rb hA z ha hb=>by refine e1a0 ha.inv λzz qX=>?_;refine rE qX ?_;refine e2a3 (z.seq h hb) λa vs oS hL bi zz=>?_;refine rE oS ?_;exact WP.kept z λQ E q=>notin_list_ints hL.isList bi.ints (q _ _ (.refl ..) (ae _ (.bool _) k))
theorem cB:∃T id,uu S (.tup xs)=some T/\typeLookup (.type T) "__getitem__"=pure (some (.builtin id)):=(dY _ _ rfl PySem.F.slot_tuple_getitem.lookup)
theorem uY:∃T id,uu S (.str x)=some T/\typeLookup (.type T) "__getitem__"=pure (some (.builtin id)):=(dY _ _ rfl PySem.F.slot_str_getitem.lookup)
theorem dg (h0:0<=i)(h1:i < 2 ^ 63)(hy:xs[i.toNat]?=some y)(k:K y S):iX c C getItem (.tup xs) (.int i) S K X:=λA F bs s ra rb hA z ha hb=>by refine e1a0 hb.inv λzz vX=>?_;refine rE vX ?_;refine e2a2 ha.inv λa vs o3 ht bi=>?_;refine rE o3 ?_;refine e1a1 (bi.get hy) λw e1 e2=>?_;refine WP.kept z λQ E q=>PyProof.Rows.getItem_tuple (items:=vs.toArray) (j:=i.toNat) (x:=w) (dz _ (z.wd.sub _ _ ht) rfl 0 rfl) (VV h0) h1 (seqIndex_of h0 ?_) (by simpa using e1) (q _ _ (.refl ..) (ae y e2 k));have:=(bp e1).1;simp;exact LL this
theorem xE {cp:Nat}(h0:0<=i)(h1:i < 2 ^ 63)(hy:x.cps[i.toNat]?=some cp)(k:K (.str ⟨#[cp]⟩) S):iX c C getItem (.str x) (.int i) S K X:=λA F bs s ra rb hA z ha hb=>by
 refine e1a0 hb.inv λzz vX=>?_;refine rE vX ?_;refine e1a0 ha.inv λzz o3=>?_;refine rE o3 ?_;refine WP.kept z λQ E q=>PyProof.Rows.getItem_str (c:=cp) (by simp;exact VX h0 h1) ?_ (q _ _ (.toks ..) (ae _ (.str _ _) k));have gX:i.toNat < x.cps.size:=by rw [Array.getElem?_eq_some_iff] at hy;exact hy.1
 rw [seqIndex_of h0 (by show i < x.length;simp only [Str.length];exact LL gX)];exact hy
end
section
variable {prog:Program}{w:World}{A:Around}{s:Shared}
theorem yS {I:Addr}{fp wr:aA}{G:Array GenState->Array GenState->Prop}{n:Nat}{P:Nat->Value->Prop}{St:Nat->lC}(W:WalksS prog w A I fp wr G n P St)(m:Nat)(O:Nat->Value->Prop) :
 WalksS prog w A I fp wr G (m+n) (λj v=>if j < m then O j v else P (j - m) v) (λi s=>m<=i/\St (i - m) s) where
 sub:=W.sub
 grefl:=W.grefl
 gtrans:=W.gtrans
 frame:=λi s h' tk hs ht hk=>⟨hs.1,W.frame _ s h' tk hs.2 ht hk⟩
 item:=λi s Q E hi hs k=>W.item (i - m) s Q E (by omega) hs.2 λv s' hp be mv=>k v s' (by simp only [show ¬i < m by omega,if_false];exact hp) ⟨by omega,by rw [show i+1 - m=(i - m)+1 by lia];exact be⟩ mv
 done:=λs Q E hs k=>W.done s Q E (by obtain this:=hs.2;rwa [show m+n - m=n by simp] at this) k
 self:=λi s Q E hs k=>W.self (i - m) s Q E hs.2 k
theorem extend_signs {R:Result->lC}(hh:A.handled=none)(x:Str)(t:Tok)(D:Addr)(res:Value)(oV:Array Value)(c₀:Nat)(hS:s.heap.get? D=some {cls:=.type "list",data:=.seq oV c₀})
 (hR:∀h' tk im c',(∀b o,b≠D->s.heap.get? b=some o->h'.get? b=some o)->h'.get? D=some {cls:=.type "list",dict:=none,data:=.seq im c',slots:=#[]} ->
  ItemsOf (λj v=>if j < oV.size then oV[j]?=some v else SignAt x (j - oV.size) v) im (oV.size+x.cps.size)->R (.ok (.ret res)) {s with heap:=h',toks:=tk}) (hn:oV.size+x.cps.size<=sizeLine) :
 wpAny (model prog w) A.in1 (Builtin.List.listExtendWith (.ref D) (.str x t) res)
  (λfin s'=>match fin with | .done f=>R (.ok f) s' | .again c'=>c'.quiet=true/\codeAny (model prog w) A c' R s') (λe s'=>R (.error e) s') s:=by
 have co:D≠s.heap.objs.size:=Nat.ne_of_lt (Heap.lt_size hS);have HV:D∉[s.heap.objs.size]:=λq=>co (bD q);delta Builtin.List.listExtendWith;refine ai (wpAny_typeOf (T:="str") (v:=.str x t) rfl ?_);have e1:Builtin.List.listSameRef (.ref D) (.str x t)=false:=rfl;have e2:(Value.type "str"==Value.type "list")=false:=rfl;have e3:(Value.type "str"==Value.type "tuple")=false:=rfl;simp only [e1,e2,e3,Bool.or_false,jT,if_false];refine ai (wpAny_pyIter_str λo Sx W h0=>?_);refine ai (wpAny_holding ?_);delta Builtin.List.listLengthHint;refine ai (wpAny_specialOf (T:="str") (v:=.str x t) rfl PySem.F.str_len ?_)
 wp_delta
 refine ai (wpAny_isInstance (T:="str") (v:=.str x t) (b:=true) rfl (rfl) ?_);refine ai (wpAny_typeOf (T:="str") (v:=.str x t) rfl (bo ?_));rw [if_neg (by decide)];have W':=yS (W A.in1 hh).toS oV.size (λj v=>oV[j]?=some v);refine bo ⟨plainId_quiet PySem.F.plain_extend_loop _,codeAny_extend_loopS W' hn D HV res x.cps.size oV.size _ oV c₀ (VI) (OV) ⟨aZ _,by rw [Nat.sub_self];exact h0⟩ (cI _ hS) ⟨rfl,λj v e=>?_⟩ λs' im c' mv hD V4=>?_⟩
 . have hj:j < oV.size:=(Array.getElem?_eq_some_iff.mp e).1;simp only [hj,if_true];exact e
 . rw [Moved.eq_with mv];refine hR s'.heap s'.toks im c' (λb ob hb e=>mv.heap b ob (λq=>?_) (cI _ e)) hD V4;rcases er q with q | q
   . exact hb q
   . exact absurd (Heap.lt_size e) (by rw [bD q];exact Nat.lt_irrefl _)
end
section
variable {c:aP}{C:Cx}{S:AS}{F F':G}{bs az:aA}{s s':Shared}{A:Around}{X:cK}{K:cw}{mg mb:dZ}{pos:Pos}
theorem BF (F:G)(bs:aA):∀(cs:aS) (vs:iC),vs.length=cs.length->(∀(j:Nat) (v:Value),vs[j]?=some v->∃d u,cs[j]?=some d/\v=Value.str ⟨#[d]⟩ u)->c.Vs F bs (cs.map λc=>AV.str ⟨#[c]⟩) vs:=by
 intro cs;induction cs with
 | nil=>intro vs hl _;cases vs with | nil=>exact .nil | cons=>simp at hl
 | cons d cs ih =>
   intro vs hl hj;cases vs with
   | nil=>simp at hl
   | cons v vs =>refine e2a1 (hj 0 v rfl) λd' u e1 e2=>?_;simp at e1;subst e1 e2;exact .cons (.str _ _) (ih vs (by simpa using hl) λj w hw=>hj (j+1) w (hw))
set_option tactic.hygienic true in
theorem rS (hh:C.handled=none)(hk:S.heap[k]?=some (.list xs))(hsz:xs.length+x.cps.size<=sizeLine)(k':K .none {S with heap:=S.heap.set k (.list (xs++signs x))}):eO c C (.builtin "list.extend") [.ref k,.str x] S K X:=by
 intro A F bs s rs hA z QR;refine e2a2 QR.two λr q o4 h1 h2=>?_;obtain rfl:=o4;refine e1a0 h2.inv λt o3=>?_;obtain rfl:=o3;refine e1a3 (z.gI h1 hk) λa o1 hb o2 hF=>?_;obtain rfl:=o1;obtain ⟨vs,⟨n,h0⟩,bi⟩:=o2;have hl:=bi.length;refine wpAny_call (codeAny_call_builtin PySem.F.slot_list_extend.plain PySem.F.entry_list_extend (PySem.F.slot_list_extend.check _ _ _ _ _ _ _ _ (ae _ h0 rfl) (PySem.F.args_list_extend_2 _ _) ?_));show wpAny _ _ (Builtin.List.listExtendWith (.ref a) (.str x t) .none) _ _ _;refine extend_signs (prog:=c.prog) (w:=c.w) (R:=λr s'=>match r with | .ok (.ret v)=>WV c C c.V F bs s.heap K v s' | .ok _=>False | .error e=>WX c C F bs s.heap X e s') (hA.handled.trans hh) x t a .none vs.toArray n h0 (λh' tk im c' keep ha hi=>?_) (by simpa [hl] using hsz);have hlen:im.toList.length=vs.length+x.cps.size:=by have:=hi.1;simpa using this
 have e1:im.toList.take vs.length=vs:=by
  refine List.ext_getElem? λj=>?_;rw [List.getElem?_take]
  split
  . rename_i hj;have FB:j < im.toList.length:=Px hj hlen;have:=hi.2 j im.toList[j] (by simpa using df FB);simp only [List.size_toArray,hj,if_true] at this;rw [df FB];simpa using this.symm
  . rename_i hj;rw [List.getElem?_eq_none_iff.mpr (Ed hj)]
 have V5:c.Vs F bs (signs x) (im.toList.drop vs.length):=by refine BF F bs x.cps.toList _ (by simp [hlen]) λj v hj=>?_;rw [List.getElem?_drop] at hj;have:=hi.2 (vs.length+j) v (by simpa using hj);simp only [List.size_toArray,show ¬vs.length+j < vs.length by exact Ms,if_false,Nat.add_sub_cancel_left] at this;refine e2a1 this λd u q1 q2=>?_;clear this;exact (dY d u (by simpa using q1) q2)
 have V6:c.Vs F bs (xs++signs x) im.toList:=by rw [<-List.take_append_drop vs.length im.toList,e1];exact bi.append V5
 obtain T:ff a s {s with heap:=h',toks:=tk}:=⟨λb q o e=>keep b o q e,(bQ _ ha),rfl,rfl⟩
 exact ⟨F,bs,.none,_,.upd T (.inl (bJ hb)),z.upd (o':=.list (xs++signs x)) T hb hk (by simp) (ae im.toList (bQ c' (ha)) V6),.none,k'⟩
end
structure qg {α:Type} [DecidableEq α] (c:aP)(f:α->AV):Prop where
 eq:∀(A:Around) (F:G) (bs:aA) (s:Shared) (a b:α) (ra rb:Value),c.V F bs (f a) ra->c.V F bs (f b) rb->SeqAt.EqAt A s ra rb (decide (a=b))
 inj:∀(F:G) (bs:aA) (a b:α) (r:Value),c.V F bs (f a) r->c.V F bs (f b) r->a=b
theorem qg.int (c:aP):qg c AV.int where
 eq:=λA F bs s a b ra rb ha hb=>by
  refine e1a0 ha.inv λt CT=>?_;obtain rfl:=CT;refine e1a0 hb.inv λu Am=>?_;obtain rfl:=Am
  skip;exact SeqAt.EqAt.int_int a t b u
 inj:=λF bs a b r ha hb=>by refine e1a0 ha.inv λt zs=>?_;obtain rfl:=zs;refine e1a0 hb.inv λu e=>?_;exact (Value.int.inj e).1
theorem qg.str (c:aP):qg c AV.str where
 eq:=λA F bs s a b ra rb ha hb=>by
  refine e1a0 ha.inv λt zt=>?_;obtain rfl:=zt;refine e1a0 hb.inv λu zu=>?_;obtain rfl:=zu
  skip;exact SeqAt.EqAt.str_str a t b u
 inj:=λF bs a b r ha hb=>by refine e1a0 ha.inv λt zv=>?_;obtain rfl:=zv;refine e1a0 hb.inv λu e=>?_;exact (Value.str.inj e).1
section
variable {α:Type} [DecidableEq α] {f:α->AV}{c:aP}{C:Cx}{S:AS}{F F':G}{bs az:aA}{s s':Shared}{A:Around}{X:cK}{K:cw}
theorem qg.V7 (h:qg c f){xs ys:List α}{vs:iC}(h1:c.Vs F bs (xs.map f) vs)(h2:c.Vs F bs (ys.map f) vs):xs=ys:=by
 induction xs generalizing ys vs with
 | nil =>
   obtain rfl:=h1.inv;cases ys with
   | nil=>rfl
   | cons=>refine e2a1 h2.inv λzz zz q zz=>?_;cases q
 | cons x xs ih =>
   refine e2a2 h1.inv λv us zw a1 a2=>?_;obtain rfl:=zw;cases ys with
   | nil=>cases h2.inv
   | cons y ys =>refine e2a2 h2.inv λzz zz q b1 b2=>?_;cases q;exact (af (h.inj _ _ _ _ _ a1 b1))▸(af (ih a2 b2))▸rfl
theorem xF (xs ys:List α)(h:xs.length=ys.length):(List.range xs.length).all (λj=>decide (xs[j]?=ys[j]?))=decide (xs=ys):=by
 rw [Bool.eq_iff_iff,List.all_eq_true,decide_eq_true_iff];constructor
 . intro q;refine List.ext_getElem? λi=>?_;by_cases hi:i < xs.length
   . exact of_decide_eq_true (q i (List.mem_range.mpr hi))
   . exact (af (List.getElem?_eq_none_iff.mpr (Ed hi)))▸(af (List.getElem?_eq_none_iff.mpr (Pj h hi)))▸rfl
 . rintro rfl i _;exact decide_eq_true rfl
theorem qg.at_ (h:qg c f){xs ys:List α}{vs us:iC}(h1:c.Vs F bs (xs.map f) vs)(h2:c.Vs F bs (ys.map f) us)(A:Around)(s:Shared)(j:Nat)(j1:j < vs.toArray.size)(j2:j < us.toArray.size) :
 SeqAt.EqAt A s vs.toArray[j] us.toArray[j] (decide (xs[j]?=ys[j]?)):=by
 obtain e1:=h1.length;obtain e2:=h2.length;simp only [List.length_map,List.size_toArray] at e1 e2 j1 j2;have k1:j < xs.length:=Mw j1 e1;have k2:j < ys.length:=Mw j2 e2;refine e1a1 (h1.get (i:=j) (x:=f xs[j]) (by simp only [cj,df k1];rfl)) λv w1 w2=>?_;refine e1a1 (h2.get (i:=j) (x:=f ys[j]) (by simp only [cj,df k2];rfl)) λu w3 w4=>?_;obtain q1:vs.toArray[j]=v:=(bp w1).2;obtain q2:us.toArray[j]=u:=(bp w3).2;obtain this:=h.eq A F bs s _ _ _ _ w2 w4;simp only [q1,q2,df k1,df k2];simpa using this
theorem qg.rc (h:qg c f){a b:Addr}{xs ys:List α}{vs us:iC}(h1:c.Vs F bs (xs.map f) vs)(h2:c.Vs F bs (ys.map f) us)(hl:s.heap.IsList a vs.toArray)(zE:s.heap.IsList b us.toArray)(hu:A.units < cLine) :
 SeqAt.RcAt A s (.ref a) (.ref b) (decide (xs=ys)):=by
 obtain e1:=h1.length;obtain e2:=h2.length;simp only [List.length_map] at e1 e2;by_cases hlen:xs.length=ys.length
 . rw [<-xF xs ys hlen];obtain this:=SeqAt.RcAt.lists hl zE (by skip;exact MA e1 hlen e2) hu (λj j1 j2=>h.at_ h1 h2 A.in1 s j j1 j2);simpa [e1] using this
 . rw [decide_eq_false (λe=>hlen (by rw [e]))];exact SeqAt.RcAt.lists_lengths hl zE (by simpa [e1,e2] using hlen) hu
theorem qg.V8 (h:qg c f){a b:Addr}{xs ys:List α}{vs us:iC}(h1:c.Vs F bs (xs.map f) vs)(h2:c.Vs F bs (ys.map f) us)(hl:s.heap.IsList a vs.toArray)(zE:s.heap.IsList b us.toArray)(hu:A.units < cLine) :
 SeqAt.RcNeAt A s (.ref a) (.ref b) (!decide (xs=ys)):=by
 obtain e1:=h1.length;obtain e2:=h2.length;simp only [List.length_map] at e1 e2;by_cases hlen:xs.length=ys.length
 . rw [<-xF xs ys hlen];obtain this:=SeqAt.RcNeAt.lists hl zE (by skip;exact MA e1 hlen e2) hu (λj j1 j2=>h.at_ h1 h2 A.in1 s j j1 j2);simpa [e1] using this
 . rw [decide_eq_false (λe=>hlen (by rw [e]))];exact SeqAt.RcNeAt.lists_lengths hl zE (by simpa [e1,e2] using hlen) hu
theorem HW (h:qg c f){xs ys:List α}(ha:bZ S a (xs.map f))(hb:bZ S b (ys.map f))(hn:C.n≠0)(k:K (.bool (decide (xs=ys))) S):iX c C (compareOp .Eq) a b S K X:=λA F bs s ra rb hA z h1 h2=>by refine e2a3 (z.seq ha h1) λl vs zx hL bi zz=>?_;obtain rfl:=zx;refine e2a3 (z.seq hb h2) λm us Gz hM yA zz=>?_;obtain rfl:=Gz;exact WP.kept z λQ E q=>h.rc bi yA hL.isList hM.isList (pq hA.units) _ _ _ _ (q _ _ (.refl ..) (ae _ (.bool _) k))
theorem tu (h:qg c f){xs ys:List α}(ha:bZ S a (xs.map f))(hb:bZ S b (ys.map f))(hn:C.n≠0)(k:K (.bool (!decide (xs=ys))) S):iX c C (compareOp .NotEq) a b S K X:=λA F bs s ra rb hA z h1 h2=>by refine e2a3 (z.seq ha h1) λl vs An hL bi zz=>?_;obtain rfl:=An;refine e2a3 (z.seq hb h2) λm us rz hM yA zz=>?_;obtain rfl:=rz;exact WP.kept z λQ E q=>h.V8 bi yA hL.isList hM.isList (pq hA.units) _ _ _ _ (q _ _ (.refl ..) (ae _ (.bool _) k))
def Ef (c:aP)(a b:AV)(r:Bool):Prop:=∀(A:Around) (F:G) (bs:aA) (s:Shared) (ra rb:Value),(∀b o,F b=some o->s.heap.get? b=some o)->A.units < cLine->c.V F bs a ra->c.V F bs b rb->SeqAt.EqAt A s ra rb r
inductive nP (c:aP):bW->bW->List Bool->Prop
 | nil:nP c [] [] []
 | cons {a b xs ys r rs}:Ef c a b r->nP c xs ys rs->nP c (a::xs) (b::ys) (r::rs)
theorem Ef.bool (a b:Bool):Ef c (.bool a) (.bool b) (a==b):=λA F bs s ra rb hs hu ha hb=>by obtain rfl:=ha.inv;obtain rfl:=hb.inv;exact SeqAt.EqAt.bool_bool a b
theorem Ef.list (h:qg c f)(xs ys:List α):Ef c (.lst (xs.map f)) (.lst (ys.map f)) (decide (xs=ys)):=λA F bs s ra rb hs hu ha hb=>by
 refine e2a2 ha.inv λa vs o9 t0 h1=>?_;obtain rfl:=o9;obtain ⟨n,g1⟩:=t0;refine e2a2 hb.inv λb us o7 o8 h2=>?_;obtain rfl:=o7;obtain ⟨n',g2⟩:=o8;by_cases E0:a=b
 . subst E0;have e:=aX (g1.symm.trans g2);injection e with _ _ e _;injection e with e _;obtain e':vs=us:=by simpa using congrArg Array.toList e
   subst e';simp only [decide_eq_true (h.V7 h1 h2)];exact SeqAt.EqAt.same _
 . exact SeqAt.EqAt.of_refs E0 (h.rc h1 h2 (dz _ (hs _ _ g1) rfl n rfl) (dz _ (hs _ _ g2) rfl n' rfl) hu)
theorem nP.len (h:nP c xs ys rs):xs.length=ys.length/\rs.length=ys.length:=by
 induction h with
 | nil=>exact ⟨rfl,rfl⟩
 | cons _ _ ih=>exact ⟨congrArg Nat.succ ih.1,congrArg Nat.succ ih.2⟩
theorem nP.at_ (h:nP c xs ys rs)(hs:∀b o,F b=some o->s.heap.get? b=some o)(hu:A.units < cLine)(h1:c.Vs F bs xs us)(h2:c.Vs F bs ys vs)(j:Nat)(u v:Value)(e1:us[j]?=some u)(e2:vs[j]?=some v):SeqAt.EqAt A s u v (rs.getD j true):=by
 induction h generalizing us vs j with
 | nil=>obtain rfl:=h1.inv;exact bx e1
 | cons a b ih =>
   refine e2a2 h1.inv λzz zz o6 g1 g2=>?_;obtain rfl:=o6;refine e2a2 h2.inv λzz zz o5 k1 k2=>?_;obtain rfl:=o5;cases j with
   | zero=>obtain rfl:=Option.some.inj e1;cases e2;exact a A F bs s _ _ hs hu g1 k1
   | succ j=>exact ih g2 k2 j (e1) (e2)
theorem all_range (rs:List Bool):(List.range rs.length).all (λj=>rs.getD j true)=rs.all id:=by
 rw [Bool.eq_iff_iff,List.all_eq_true,List.all_eq_true];constructor
 . intro q b hb;obtain ⟨i,hi,rfl⟩:=List.getElem_of_mem hb;obtain this:=q i (List.mem_range.mpr hi)
   rwa [I9,df hi] at this
 . intro q i hi;obtain hi:=List.mem_range.mp hi;rw [I9,df hi];exact q _ (List.getElem_mem hi)
theorem Eg (h:nP c xs ys rs)(hn:C.n≠0)(k:K (.bool (rs.all id)) S):iX c C (compareOp .Eq) (.tup xs) (.tup ys) S K X:=λA F bs s ra rb hA z ha hb=>by
 refine e2a2 ha.inv λa us o4 g1 h1=>?_;obtain rfl:=o4;refine e2a2 hb.inv λb vs o3 g2 h2=>?_;obtain rfl:=o3;obtain hu:=hA.units;refine WP.kept z λQ E q=>SeqAt.RcAt.tuples (items:=us.toArray) (items2:=vs.toArray) (e:=λj=>rs.getD j true) (dz _ (z.wd.sub _ _ g1) rfl 0 rfl) (dz _ (z.wd.sub _ _ g2) rfl 0 rfl) (pq hu) (λj j1 j2=>h.at_ z.wd.sub (by skip;exact Mt hu hn) h1 h2 j _ _ (by simpa using df (j1)) (by simpa using df (j2))) _ _ _ _ (q _ _ (.refl ..) (ae _ (.bool _) ?_));obtain e1:=h1.length;obtain e2:=h2.length;obtain e3:=h.len;obtain this:((List.range (min us.toArray.size vs.toArray.size)).all (λj=>rs.getD j true)&&us.toArray.size==vs.toArray.size)=rs.all id:=by
  obtain q1:us.toArray.size=rs.length:=by skip;exact MB e1 e3
  obtain q2:vs.toArray.size=rs.length:=by skip;exact MC e2 e3
  refine (af q1)▸?_;rw [q2,Nat.min_self,all_range];simp
 refine (af this)▸?_;exact k
theorem Eh (h:nP c xs ys rs)(hn:C.n≠0)(k:K (.bool (!rs.all id)) S):iX c C (compareOp .NotEq) (.tup xs) (.tup ys) S K X:=λA F bs s ra rb hA z ha hb=>by
 refine e2a2 ha.inv λa us o2 g1 h1=>?_;obtain rfl:=o2;refine e2a2 hb.inv λb vs o1 g2 h2=>?_;obtain rfl:=o1;obtain hu:=hA.units;refine WP.kept z λQ E q=>SeqAt.RcNeAt.tuples (items:=us.toArray) (items2:=vs.toArray) (e:=λj=>rs.getD j true) (dz _ (z.wd.sub _ _ g1) rfl 0 rfl) (dz _ (z.wd.sub _ _ g2) rfl 0 rfl) (pq hu) (λj j1 j2=>h.at_ z.wd.sub (by skip;exact Mt hu hn) h1 h2 j _ _ (by simpa using df (j1)) (by simpa using df (j2))) _ _ _ _ (q _ _ (.refl ..) (ae _ (.bool _) ?_));obtain e1:=h1.length;obtain e2:=h2.length;obtain e3:=h.len;obtain this:((List.range (min us.toArray.size vs.toArray.size)).all (λj=>rs.getD j true)&&us.toArray.size==vs.toArray.size)=rs.all id:=by
  obtain q1:us.toArray.size=rs.length:=by skip;exact MB e1 e3
  obtain q2:vs.toArray.size=rs.length:=by skip;exact MC e2 e3
  refine (af q1)▸?_;rw [q2,Nat.min_self,all_range];simp
 refine (af this)▸?_;exact k
end
section
variable {M:Model}{A:Around}{E:vP}{s:Shared}
theorem wi {α:Type}{c:Bool}{e f:Sem α}{Q:α->lC}(h:c=false)(k:wpAny M A f Q E s):wpAny M A (if c=true then e else f) Q E s:=by subst h;exact k
theorem tv {a b:Value}{T U nm:String}{Q:qN->lC}(hTU:(Value.type T==Value.type U)=false)(ha:s.TypeIs a T)(hb:s.TypeIs b U)
 (hT:fillsNumberSlot (.type T) nm=pure false) (hU:fillsNumberSlot (.type U) nm=pure false) (h:Q none s):wpAny M A (binaryOp1 nm a b) Q E s:=by
 delta binaryOp1;exact ai (wpAny_typeOf ha (ai (wpAny_typeOf hb (ai (wpAny_of_eq hT (wi hTU (ai (wpAny_of_eq hU (bo h)))))))))
theorem rh (ha:s.TypeIs (.ref a) "list")(hb:s.TypeIs (.ref b) "tuple")
 (hc:wpAny M A (call (.builtin "list.__iadd__") [.ref a,.ref b]) Q E s):wpAny M A (inplaceOp .Add (.ref a) (.ref b)) Q E s:=by
 refine wpAny_holding ?_;have V9:fillsInplaceSlot (.type "list") "add" (Operator.Add==.Add)=pure false:=rfl;have hsi:seqSlot? (.type "list") (dunderI "add")=pure (some (.builtin "list.__iadd__")):=rfl;refine ai (wpAny_typeOf ha (ai (wpAny_of_eq V9 ?_)));refine ai (tv (nm:="add") (rfl) ha hb (by first | exact BG | kernel_rfl) noFill_tuple_add ?_);refine ai (wpAny_of_eq hsi ?_);exact ai (wpAny_rule hc)
end
theorem wj (l:Addr)(items:Array Value)(n:Nat)(b:Addr)(items2:Array Value)(n2:Nat)(Q5:¬(!items.isEmpty&&Builtin.List.listTooLong (items.size+items2.size))=true)(zD:items.size<=sizeLine)(qJ:items.size+items2.size<=sizeLine+1) :
 Meets (Builtin.«list.__iadd__» ⟨[.ref l,.ref b],[]⟩) (λzz R s=>s.heap.get? l=some {cls:=.type "list",dict:=none,data:=.seq items n,slots:=#[]}/\s.heap.get? b=some {cls:=.type "tuple",dict:=none,data:=.seq items2 n2,slots:=#[]}/\R (.ok (.ret (Value.ref l))) {s with heap:=s.heap.update l (Obj.mapSeq λx=>x++items2),toks:=s.toks}) :=
 .of_wp λprog w A R s h=>by
  obtain ⟨hp,g,d,tk,os⟩:=s;obtain ⟨hl,hb,h⟩:=h;obtain f2:=AutoSeq1.sub_tuple_tuple;obtain f5:=AutoSeq1.sub_list_tuple;obtain f4:=AutoSeq1.sub_tuple_list;obtain hz:(items++items2).size<=sizeLine+1:=by rw [Array.size_append];exact qJ
  wp_walk using (wpAny_updateSeq hl rfl (hz:=zD) (_hz':=hz)),wpAny_loadPart' hl,wpAny_loadPart' hb
  exact (ae _ rfl h)
noncomputable def PN (x y:Int):Bool:=decide (x<=y)
noncomputable def jc (l:List Int):List Int:=l.mergeSort PN
theorem wk (l:List Int):(jc l).Perm l:=List.mergeSort_perm l PN
theorem tw (l:List Int):(jc l).Pairwise (·<=·):=by obtain this:=List.pairwise_mergeSort (le:=PN) (λa b c h1 h2=>by simp only [PN,decide_eq_true_eq] at *;exact V0 h1 h2) (λa b=>by simp only [PN,Bool.or_eq_true,decide_eq_true_eq];exact VZ) l;exact this.imp λh=>of_decide_eq_true h
theorem qh {l r:List Int}(hp:l.Perm r)(hl:l.Pairwise (·<=·))(hr:r.Pairwise (·<=·)):l=r:=by
 induction l generalizing r with
 | nil=>exact (List.Perm.nil_eq hp)
 | cons x l ih =>
   cases r with
   | nil=>exact absurd hp.symm (List.Perm.nil_eq · |> λh=>by cases h)
   | cons y r =>
     obtain hxy:x=y:=by
      rcases er (hp.subset (.head _)) with e | m
      . exact e
      . rcases er (hp.symm.subset (.head _)) with e | m'
        . exact e.symm
        . have h1:=(List.pairwise_cons.mp hl).1 _ m';obtain h2:=(List.pairwise_cons.mp hr).1 _ m;exact VY h1 h2
     subst hxy;rw [ih (List.Perm.cons_inv hp) (List.pairwise_cons.mp hl).2 (List.pairwise_cons.mp hr).2]
theorem kC {l r:List Int}(hp:l.Perm r)(hl:l.Pairwise (·<=·)):l=jc r:=qh (hp.trans (wk r).symm) hl (tw r)
section
variable {c:aP}{C:Cx}{S:AS}{F F':G}{bs az:aA}{s s':Shared}{A:Around}{X:cK}{K:cw}{mg mb:dZ}{pos:Pos}
theorem IntsAre.vs {vs:iC}(h:IntsAre vs l):c.Vs F bs (l.map .int) vs:=by
 induction h with
 | nil=>exact .nil
 | cons x t _ ih=>exact .cons (.int x t) ih
theorem rT (h:bZ S v (l.map .int))(Ei:l.length < 64)(k:qQ K ((jc l).map .int) S):eO c C (.builtin "sorted") [v] S K X:=by
 intro A F bs s rs hA z hv;refine e1a1 hv.one λr rz h1=>?_;obtain rfl:=rz;refine e3a2 (z.uw h h1) λa vs n t0 h0 bi=>?_;obtain rfl:=t0;refine sorted_ints (l:=a) (vs:=vs) (ns:=l) (dz _ h0 rfl n rfl) bi.ints (by obtain this:=bi.length;simp at this;exact Ol Ei this) λout Q6 a1 a2 a3=>?_;refine e1a0 (sortedAll_at s.heap vs out) λe he=>?_;obtain rfl:=kC a2 a3;obtain m:ba c F bs s {s with heap:=sortedAll s.heap vs out}:=⟨λb o e=>sortedAll_old e,rfl,rfl⟩
 exact z.AH m (gp (Nat.le_succ _)) (vs:=out.toList) (n:=e) he (IntsAre.vs a1) k
theorem BH (hk:S.heap[k]?=some (.list xs))(hsz:xs.length+ys.length<=sizeLine)(k':K (.ref k) {S with heap:=S.heap.set k (.list (xs++ys))}):iX c C (inplaceOp .Add) (.ref k) (.tup ys) S K X:=by
 intro A F bs s ra rb hA z h1 h2;have D6:=h1;refine e1a3 (z.gI h1 hk) λa o8 hb o9 hF=>?_;obtain rfl:=o8;obtain ⟨vs,⟨n,h0⟩,bi⟩:=o9;refine e2a2 h2.inv λb us o7 ht yA=>?_;obtain rfl:=o7;obtain h3:=z.wd.sub _ _ ht;refine rh (ae _ h0 rfl) (ae _ h3 rfl) ?_;refine call_meets PySem.F.slot_list_iadd (ae _ h0 rfl) PySem.F.entry_list_iadd (PySem.F.args_list_iadd_2 _ _) (wj a vs.toArray n b us.toArray 0 ?_ ?_ ?_) ?_
 . obtain this:sizeLine=2 ^ 24:=rfl;simp [Builtin.List.listTooLong,bi.length,yA.length];intro _;exact hsz
 . simp [bi.length];exact Mv hsz
 . simp [bi.length,yA.length];exact O9 hsz
 obtain this:=z.kZ (xs':=xs++ys) (vs':=vs++us) hb hk h0 (bi.append yA) (λx=>x++us.toArray) (by simp);exact (aH h0 h3 ⟨F,bs,.ref k,_,this.1,this.2,D6,k'⟩)
theorem BI (hi:Builtin.Str.occurrences x y 0 x.length 1=i::r)(k:K (.int i) S):eO c C (.builtin "str.index") [.str x,.str y] S K X:=by intro A F bs s rs hA z hv;refine e2a2 hv.two λzz zz o6 h1 h2=>?_;obtain rfl:=o6;refine e1a0 h1.inv λt o5=>?_;obtain rfl:=o5;refine e1a0 h2.inv λu o4=>?_;obtain rfl:=o4;exact WP.kept z λQ E q=>call_gives PySem.F.slot_str_index (typeIs_str s x t) PySem.F.entry_str_index (PySem.F.args_str_index_2 _ _) (gives_str_index x y t u i r hi) (q _ _ (.toks ..) (ae _ (.int _ _) k))
theorem Ej {m:Int}(ha:bZ S a xs)(FD:0<=m)(QZ:m < 1000)(hsz:xs.length*m.toNat<=256)(k:qQ K (List.replicate m.toNat xs).flatten S):iX c C (binaryOp .Mult) a (.int m) S K X:=λA F bs s ra rb hA z h1 h2=>by
 refine e1a0 h2.inv λu o3=>?_;obtain rfl:=o3;refine e3a2 (z.uw ha h1) λl vs n o2 h0 bi=>?_;obtain rfl:=o2;obtain hl:=bi.length;refine wpAny_binaryOp_repeat_ref (T:="list") (U:="int") (rfl) (ae _ h0 rfl) (λs'=>typeIs_int s' m u) noFill_list_mul PySem.F.fills_int_mul PySem.F.slot_int_rmul repeat_list PySem.F.slot_int_index.lookup
  (call_meets PySem.F.slot_int_rmul (typeIs_int s m u) PySem.F.entry_int_rmul (PySem.F.args_int_rmul_2 _ _) (lm_int_rmul_list_any m u l vs.toArray n none #[])
   ⟨h0,rfl,(ae _ h0 rfl),call_meets PySem.F.slot_list_mul (ae _ h0 rfl) PySem.F.entry_list_mul (PySem.F.args_list_mul_2 _ _)
    (lm_list_mul_any l vs.toArray n none #[] m u (by simp [Builtin.List.listFitsIndex];exact VW FD QZ) (by simp [hl];exact NA hsz) (by simp [Builtin.List.listTooLong,sizeLine,hl];exact NB hsz))
    ⟨h0,?_⟩⟩)
 rw [listMul_foldl_if];obtain mt:c.Vs F bs (List.replicate m.toNat xs).flatten (List.replicate m.toNat vs).flatten:=by
  generalize m.toNat=q;induction q with
  | zero=>exact .nil
  | succ q ih=>skip;exact bi.append ih
 obtain mv:ba c F bs s {s with heap:=s.heap.push (aY (List.replicate m.toNat vs).flatten 0)}:=⟨λb o e=>cI _ e,rfl,rfl⟩
 exact z.AH mv (St.ic s) (vs:=(List.replicate m.toNat vs).flatten) (n:=0) (dw _ rfl) mt k
@[reducible] def Wa (c:aP) (C:Cx) (pos:Pos) (args:cz) (n:Nat) (K:cw) (X:cK):cw:=λfv S=>∃site caps,fv=.fn site caps/\oR c C pos args S (λvs aC=>gx c n (.fn site caps) vs aC.heap (xi K aC)) X
theorem m9 {f:Expr}{args:cz}{K:cw}{n:Nat}(hh:C.handled=none)(hn:n<=C.n)
 (h:Ev c C f S (Wa c C pos args n K X) X)
 (he:eval (.Call f args [] pos) C.env=(do callWith pos (<-eval f C.env) [] (backTo pos (starEach args C.env)) (backToKw pos (keywordEach [] C.env))):=by rfl)
 (hl:mM (backTo pos (starEach args C.env))=false:=by rfl):Ev c C (.Call f args [] pos) S K X:=by
 intro A F bs s hA z;refine rE he ?_;refine WP.bind (h A F bs s hA z) λF₁ bs₁ ac Z fv r al ap Av q2=>?_;refine e2a1 q2 λsite caps e k₁=>?_;clear q2;subst e;refine e2a2 Av.inv λa crs o1 h0 IW=>?_;obtain rfl:=o1;obtain ⟨o,fd,h1,_,_,h3,_⟩:=id h0;refine Calls.callWith_function (o:=o) (fd:=fd) ?_;refine aJ (gh hA ap k₁ hl) (λa am q3=>q3.casesOn λaT ax vs aC an aG q6=>e0a1 q6 λoA bi k₂=>?_) (λzz zz e=>e);obtain ⟨ps,kw⟩:=a;have pr:kw=[]:=oA;refine rE pr ?_;refine ⟨⟨aG.wd.sub _ _ (an.sub _ _ h1),h3⟩,?_⟩;refine aJ (uT (X:=X) (s:=am) hA hh hn aG (an.V Av) bi k₂) (λv aM q4=>q4.casesOn λbn aK v' aO aE aR fR bv=>⟨bn,aK,v',aO,an.trans aE,aR,fR,bv⟩) λx aM q5=>q5.casesOn λbn aK v' aO aE aR fR bv=>⟨bn,aK,v',aO,an.trans aE,aR,fR.back an.mono,bv⟩
end
section
variable {prog:Program}{w:World}{A:Around}{E:vP}{s:Shared}
theorem HX {vs:iC}{l:List Int}(h:IntsAre vs l):vs.length=l.length:=by
 induction h with
 | nil=>rfl
 | cons _ _ _ ih=>exact congrArg Nat.succ ih
theorem wm {ss:List Int}(hc:∀(A:Around)(Q':iC->lC),A.handled=none->(∀s' vs Q6,Kept s s'->IntsAre vs Q6->Q6.Perm ss->Q' vs s')->wpAny (model prog w) A (collect r) Q' E s)(hh:A.handled=none)(Ei:ss.length < 64)
 (h:∀s' D out e,Kept s s'->s.heap.get? D=none->s'.heap.get? D=some (aY out e)->IntsAre out (jc ss)->Q (.ref D) s'):wpAny (model prog w) A (call (.builtin "sorted") [r]) Q E s:=by
 refine Calls.call_function_entry kind_sorted plain_sorted entry_sorted (args_sorted1 _) ?_;refine ai (m:=checkCount "sorted" 1 1 _) (bo ?_);refine ai (hc _ _ hh λZ vs Q6 k₁ hv hp=>?_);have Yt:vs.length < 64:=by rw [HX hv,hp.length_eq];exact Ei
 refine ai (wpAny_newList ?_ (lU Yt rfl));have Jo:(Z.heap.push (seqObj "list" vs.toArray 0)).get? Z.heap.objs.size=some (seqObj "list" vs.toArray 0):=dw _ rfl;refine ai (wpAny_holding (wpAny_call_entry slot_list_sort (ae _ Jo rfl) entry_list_sort (list_sort_tree (s:={Z with heap:=Z.heap.push (seqObj "list" vs.toArray 0)}) Jo hv Yt λout ss2 h1 h2 h3=>(ae _ rfl ?_)) (args_list_sort _)));refine bo (ae _ rfl ?_);refine e1a0 (sortedHeap_at (n:=0) (out:=out) Jo) λe he=>?_;obtain rfl:=kC (h2.trans hp) h3;refine h _ _ out.toList e ⟨λb o q=>?_,k₁.os,k₁.gens⟩ (k₁.new (gp (aZ _))) (by assumption) h1;have hq:=k₁.heap _ _ q;have gX:=Heap.lt_size hq;rw [sortedHeap_old (cA gX) (by rw [iA];exact Nat.lt_succ_of_lt gX)];exact cI _ hq
end
section
variable {c:aP}{C:Cx}{S:AS}{F F':G}{bs az:aA}{s s':Shared}{A:Around}{X:cK}{K:cw}{mg mb:dZ}{pos:Pos}
theorem yT {rs:List (Int×Value)}(hl:acc.length=rs.length)(h:∀(j:Nat) v,acc[j]?=some v->∃k x,rs[j]?=some (k,x)/\(ik c.prog c.w).is k v=true):IntsAre acc (rs.map (·.1)):=by
 induction rs generalizing acc with
 | nil=>cases acc with | nil=>exact .nil | cons=>simp at hl
 | cons p r ih =>
   cases acc with
   | nil=>simp at hl
   | cons v vs =>refine e2a1 (h 0 v rfl) λk x e1 e2=>?_;simp at e1;subst e1;refine e1a0 (Value.isInt_shape e2) λt o7=>?_;obtain rfl:=o7;exact .cons k t (ih (by simpa using hl) λj w hw=>h (j+1) w hw)
theorem wo (hh:C.handled=none)(h:we S v kvs)(Ei:kvs.length < 64)(k:qQ K ((jc (kvs.map (·.1))).map .int) S):eO c C (.builtin "sorted") [v] S K X:=by
 intro A F bs s rs hA z hv;refine e1a1 hv.one λr o6 h1=>?_;obtain rfl:=o6;refine e2a3 (z.tabI h h1) λd rs o5 hD qT oq=>?_;obtain rfl:=o5;obtain ⟨ep,hDA⟩:∃ep,s.heap.DictAt (ik c.prog c.w) d rs ep:=e3a0 hD λo es ep r=>(Je ep o es r)
 obtain hk:=bF.keys oq;obtain Q7:rs.length=kvs.length:=bF.length oq;refine wm (ss:=kvs.map (·.1)) (λA' Q' hh' hq=>kdu_collect (kdl_dict (knd:=ik c.prog c.w) (kvs:=rs) (ep:=ep) qT) hh' hDA (by skip;exact Q7▸lU Ei rfl) λh' tk acc keep hit=>?_) (hA.handled.trans hh) (by simpa using Ei) λs' D' out e kp hn ho be=>?_
 . refine hq _ acc.toList (kvs.map (·.1)) ⟨keep,rfl,rfl⟩ ?_ (List.Perm.refl _);simp only [<-hk];exact yT (c:=c) (hit.1) λj w hw=>hit.2 j w (by simpa using hw)
 . exact z.AH kp.moves hn ho (IntsAre.vs be) k
noncomputable def eX (k:Nat)(v':AV):bW->bW->Prop
 | [],[]=>True
 | x::l,y::l'=>(y=x\/(x=.ref k/\y=v'))/\eX k v' l l'
 | _,_=>False
theorem eX.rel (hv:∀r,c.V F bs (.ref k) r->c.V F bs v' r)(hr:eX k v' l l')(h:c.Vs F bs l rs):c.Vs F bs l' rs:=by
 induction l generalizing l' rs with
 | nil =>
   cases l' with
   | nil=>exact h
   | cons=>exact hr.elim
 | cons x l ih =>
   cases l' with
   | nil=>exact hr.elim
   | cons y l' =>
     refine e2a2 h.inv λv vs o4 h1 h2=>?_;obtain rfl:=o4;rcases hr.1 with e | ⟨e1,e2⟩
     . subst e;exact .cons h1 (ih hr.2 h2)
     . subst e1 e2;exact .cons (hv _ h1) (ih hr.2 h2)
theorem cG.elem (x:Nat)(hx:S.loc.lookup x=some (.lst l))(hk:S.heap[k]?=some (.list xs))(hr:eX k (.lst xs) l l'):cG c C S ⟨a7 S.loc x (.lst l'),S.heap.set k .gone⟩:=λF bs s z=>by
 obtain gX:k < bs.length:=by simp only [z.wd.len];exact (bp hk).1
 obtain ⟨a,ha⟩:∃a,bs[k]?=some a:=(bQ _ (df gX))
 refine e0a1 (z.wd.obj k a _ ha hk) λo3 hF=>?_;obtain ⟨vs,⟨n,h1⟩,h2⟩:=o3;obtain zB:=hF (by simp);refine (ae (plus F a (aY vs n)) (Step.freeze (bJ ha) zB) ?_);obtain z':=z.freeze ha hk (by simp) h1 (by simp [aY,bj]);refine z'.AA x (.lst l) (.lst l') hx λr tY=>?_;refine e2a2 tY.inv λb us o2 g1 g2=>?_;obtain rfl:=o2;refine .lst g1 (hr.rel (λr hv=>?_) g2);refine e1a1 hv.inv λzz o1 e=>?_;obtain rfl:=o1;obtain rfl:=aX (ha.symm.trans e);refine .lst (bQ n bO) ?_;simpa using a6.mono (nb:=[]) (aQ zB) h2
theorem eX.refl (k:Nat)(v:AV):∀l:bW,eX k v l l
 | []=>trivial
 | _::l=>⟨.inl rfl,eX.refl k v l⟩
theorem eX.mid (k:Nat)(v:AV)(r:bW):∀d:bW,eX k v (d++.ref k::r) (d++v::r)
 | []=>⟨.inr ⟨rfl,rfl⟩,eX.refl k v r⟩
 | _::d=>⟨.inl rfl,eX.mid k v r d⟩
theorem cG.refl:cG c C S S:=λF bs s z=>(ae F (.refl ..) z)
inductive HY (c:aP)(C:Cx)(S:AS)(x:Nat)(ks:aS)(l':bW):Prop
 | mk (loc:dI) (H:aI) (sh:cG c C S ⟨loc,H⟩) (h1:loc.lookup x=some (.lst l')) (h2:∀y,y≠x->loc.lookup y=S.loc.lookup y) (h3:∀j,j∉ks->H[j]?=S.heap[j]?)
theorem cG.elems (x:Nat)(ks:aS):∀(rows:List bW) (d:bW) (S:AS),S.loc.lookup x=some (.lst (d++ks.map .ref))->ks.length=rows.length->(∀(i k:Nat) (r:bW),ks[i]?=some k->rows[i]?=some r->S.heap[k]?=some (.list r))->ks.Nodup ->
 HY c C S x ks (d++rows.map .lst):=by
 induction ks with
 | nil =>
   intro rows d S hx hl hk hn;cases rows with
   | cons=>cases hl
   | nil=>exact ⟨S.loc,S.heap,cG.refl,hx,λzz zz=>rfl,λzz zz=>rfl⟩
 | cons k ks ih =>
   intro rows d S hx hl hk hn;cases rows with
   | nil=>cases hl
   | cons r rows =>
     obtain gM:=List.nodup_cons.mp hn;obtain sh1:=cG.elem (c:=c) (C:=C) x hx (hk 0 k r rfl rfl) (eX.mid k (.lst r) (ks.map .ref) d);obtain ⟨loc,H,sh,h1,h2,h3⟩:=ih rows (d++[.lst r]) ⟨a7 S.loc x (.lst (d++.lst r::ks.map .ref)),S.heap.set k .gone⟩ (by rw [au,if_pos rfl];simp) (by simpa using hl)
      (λi k' r' e1 e2=>by
       obtain co:k≠k':=λe=>gM.1 (e▸bJ e1);show (S.heap.set k .gone)[k']?=_;rw [aU co];exact hk (i+1) k' r' (e1) (e2)) gM.2
     refine ⟨loc,H,sh1.trans sh,by simpa using h1,λy hy=>?_,λj hj=>?_⟩
     . rw [h2 y hy];show (a7 S.loc x _).lookup y=_;rw [au,if_neg hy]
     . obtain q1:k≠j:=λe=>hj (by refine (af e)▸?_;exact .head _);rw [h3 j (λq=>hj (.tail _ q))];exact aU q1
end
def HZ (c:aP)(C:Cx)(kD:Nat)(D:Addr)(em:Sem Unit)(S:AS)(K:cR):Prop :=
 ∀A F bs s,i7 C A->St c C F bs S s->bs[kD]?=some D->WP c C A (λ_ _ (_:Unit) (_:Unit)=>True) em F bs s (λzz=>K) dT
inductive Wb (c:aP)(C:Cx)(R:G->aA->lC)(kD:Nat)(D:Addr)(wr:aA)(N:Nat)(Ps:Nat->G->aA->lC)(I:vO)(j:Nat)(s':Shared):Prop
 | mk (F':G) (az:aA) (S':AS) (i:Nat) (st:R F' az s') (hD:az[kD]?=some D) (z:St c C F' az S' s') (f:bR c C F' az wr s'.heap) (hI:I i S') (p:Ps i F' az s') (hi:i<=N) (e:j=N+1 - i)
inductive Wc (c:aP)(C:Cx)(R:G->aA->lC)(K:cR)(r:Except Value Flow)(s':Shared):Prop
 | mk (e:r=.ok .next) (F':G) (az:aA) (S':AS) (st:R F' az s') (z:St c C F' az S' s') (hk:K S')
structure qi (C:Cx)(wr:aA)(R:G->aA->lC):Prop where
 step:∀F bs s F' az s',R F bs s->Step (wr++C.own) F bs s.heap F' az s'.heap->(∀a∈wr++C.own,∃o,s.heap.get? a=some o)->R F' az s'
 others:∀F bs s s',R F bs s->dB wr s s'->R F bs s'
theorem qi.H6 (hn:∀a∈wr,h₀.get? a=none):qi C wr (λF bs s=>Step C.own F₀ bs₀ h₀ F bs s.heap) :=
 ⟨λF bs s F' az s' st up zz=>st.AE hn up,λF bs s s' st t=>st.others hn t.same⟩
theorem qi.ofV {W:aA}(hw:∀a∈wr++C.own,a∈W)(hW:∀a∈W,a∈wr++C.own):qi C wr (λF bs s=>fS W F₀ bs₀ h₀ F bs s.heap) :=
 ⟨λF bs s F' az s' st up ex=>st.step up hw λa ha=>ex a (hW a ha),λF bs s s' st t=>st.others t λa ha=>hw a (eo (.inl ha))⟩
section
variable {c:aP}{C:Cx}{S:AS}{F F' F₀:G}{bs az bs₀:aA}{h₀:Heap}{s s':Shared}{A:Around}{X:cK}{mg mb:dZ}{pos:Pos}
theorem Step.nc {own:aA}{h h':Heap}{k:Nat}{D:Addr}(st:Step own F bs h F' az h')(hk:bs[k]?=some D):az[k]?=some D:=by refine e1a1 st.ext λnb e zz=>?_;refine (af e)▸(af (et (bp hk).1))▸?_;exact hk
theorem uZ {e:Expr}{d:Nat}{target:Expr}{ifs:cz}{em:Sem Unit}{D:Addr}{kD it:Nat}{p:Pos}{items:bW}{live:aI->Prop}{wr:aA}{Ps:Nat->G->aA->lC}{R:G->aA->lC}
 (H7:(model c.prog c.w).den (.compLoop e d (.ref it) (.ref D) C.env)=(do
  standAt p
  match <-pyNext (.ref it) with
  | none=>pure (.done .next)
  | some v =>
    letOwnedTupleGo target (.ref it) v
    assign target C.env v
    let mut ok:=true
    for c in ifs do
     if ok then ok <-isTrue c C.env (eval c C.env)
    if ok then em
    again (.compLoop e d (.ref it) (.ref D) C.env):Sem Fin).onRaise (λx=>do noteFrame x C.env;theTreesLotGoes x))
 (hu:A.under (.compLoop e d (.ref it) (.ref D) C.env)=A)
 (hh:C.handled=none) (W:Iter c target it items live wr Ps) (I:vO) (mR:∀i S',I i S'->live S'.heap)
 (turn:∀i y S',items[i]?=some y->I i S'->qP c C target y S' (λaC=>s6 c C ifs aC (λok aO=>match ok with | false=>I (i+1) aO | true=>HZ c C kD D em aO (I (i+1)))))
 (hA:i7 C A) (h0:I 0 S) (z:St c C F bs S s) (hR:qi C wr R) (fg:R F bs s) (j7:bR c C F bs wr s.heap) (hp:Ps 0 F bs s) (hD:bs[kD]?=some D) :
 codeAny (model c.prog c.w) A (.compLoop e d (.ref it) (.ref D) C.env) (Wc c C R (I items.length)) s:=by
 have JT:∀F bs S s,St c C F bs S s->bR c C F bs wr s.heap->∀a∈wr++C.own,∃o,s.heap.get? a=some o:=λF bs S s z f a ha=>by
  rcases bX ha with q | q
  . refine e1a1 (f.at_ a q) λo e zz=>?_;exact (bQ o e)
  . exact (z.own a q).2.2
 have Yu:∀{F bs h F' az h'},Step C.own F bs h F' az h'->Step (wr++C.own) F bs h F' az h':=λst=>st.widen λa ha=>.inl (eo (.inr ha));refine codeAny_loop rfl (Wb c C R kD D wr items.length Ps I) (λj am hJ=>?_) (items.length+1) ⟨F,bs,S,0,fg,hD,z,j7,h0,hp,Nat.zero_le _,sf⟩;obtain ⟨aT,ax,aC,i,an,iF,aG,sB,hI,rF,hi,rfl⟩:=hJ;rw [hu,H7];refine wpAny_noted ?_;have:=W.next (A:=A) (Wc c C R (I items.length) (.ok .next))
  (λoC=>wpAny (model c.prog c.w) A (forIn ifs true λc r=>if r=true then do let ok <-isTrue c C.env (eval c C.env);pure (ForInStep.yield ok) else pure (ForInStep.yield r))
   (λok aM=>if ok=true then wpAny (model c.prog c.w) A em (λzz eF=>∃m,m < items.length+1 - i/\Wb c C R kD D wr items.length Ps I m eF) (λzz zz=>False) aM else ∃m,m < items.length+1 - i/\Wb c C R kD D wr items.length Ps I m aM) (λzz zz=>False) oC) (λzz zz=>False)
  (λaC=>s6 c C ifs aC (λok aO=>match ok with | false=>I (i+1) aO | true=>HZ c C kD D em aO (I (i+1)))) hA hh aG (mR i aC hI) rF sB ?_ ?_
 . refine ai (wpAny_standAt (ai (aJ this (λr Z h₁=>?_) λzz zz q=>q.elim)));cases r with
   | none=>exact bo h₁
   | some v =>
     refine ai (aJ h₁ (λzz mQ pt=>ai (aJ pt (λzz oC un=>ai (aJ un (λok aM ge=>?_) λzz zz q=>q.elim)) λzz zz q=>q.elim)) λzz zz q=>q.elim);cases ok with
     | false=>exact bo ⟨rfl,ge⟩
     | true=>exact ai (aJ ge (λzz cr v0=>bo ⟨rfl,v0⟩) λzz zz q=>q.elim)
 . intro he s' z' t;obtain je:i=items.length:=by rw [List.getElem?_eq_none_iff] at he;exact sI hi he
   subst je;exact ⟨rfl,aT,ax,aC,hR.others _ _ _ _ an t,z',hI⟩
 . intro y hy;refine ⟨turn i y aC hy hI,λF' az S' s' z' f' p' k' up=>?_⟩;have stN:=hR.step _ _ _ _ _ _ an up (JT _ _ _ _ aG sB);have xl:i+1<=items.length:=(bp hy).1;refine aJ (xr hA z' k') (λok cr J3=>J3.casesOn λd7 ce b di ca cW hb gP=>?_) λzz zz Ty=>Ty.casesOn λzz zz zz zz zz zz zz q=>q.elim;clear J3;subst hb;have zC:=hR.step _ _ _ _ _ _ stN (Yu ca) (JT _ _ _ _ z' f');have FE:=W.keep p' f' z' ca cW;have ou:=(f'.step ca).1;have lH:=ca.nc (up.nc iF);cases ok with
   | false=>exact (ae _ (kR hi) ⟨d7,ce,di,i+1,zC,lH,cW,ou,gP,FE,xl,rfl⟩)
   | true =>refine aJ (gP A d7 ce cr hA cW lH) (λzz eF q=>q.casesOn λfb dJ zz fu dl fc zz ja=>?_) λzz zz q=>q.casesOn λzz zz zz zz zz zz zz q=>q.elim;exact (ae _ (kR hi) ⟨fb,dJ,fu,i+1,hR.step _ _ _ _ _ _ zC (Yu dl) (JT _ _ _ _ cW ou),dl.nc lH,fc,(ou.step dl).1,ja,W.keep FE ou cW dl fc,xl,rfl⟩)
theorem yU {elt:Expr}{K:cR}{kD:Nat}{D:Addr}(h:Ev c C elt S (λw S'=>∃acc,S'.heap[kD]?=some (.list acc)/\acc.length<=sizeLine/\K {S' with heap:=S'.heap.set kD (.list (acc++[w]))}) dT) :
 HZ c C kD D (do let _ <-call (.builtin "list.append") [.ref D,<-eval elt C.env]) S K:=λA F bs s hA z hD=>by
 refine WP.bind (h A F bs s hA z) λF₁ bs₁ ac Z w r al ap hw q=>?_;refine e1a2 q λacc h1 h2 k=>?_;refine WP.bind (dK (K:=λzz S'=>K S') h1 h2 k A F₁ bs₁ Z _ hA ap (.cons (.ref (al.nc hD)) (.cons hw .nil))) λaT ax aC am v r an aG zz k₂=>?_;exact WP.pure (v:=()) aG trivial k₂
inductive InC (c:aP)(C:Cx)(D:Addr)(t2:Expr)(iS:cz)(elt:Expr)(kD:Nat)(K:cR)(items:bW)(live:aI->Prop)(ac:AS):Prop
 | mk (I:vO) (h0:I 0 ac) (hl:∀i S',I i S'->live S'.heap)
  (turn:∀i y S',items[i]?=some y->I i S'->qP c C t2 y S' (λaC=>s6 c C iS aC (λok aO=>match ok with
   | false=>I (i+1) aO
   | true=>HZ c C kD D (do let _ <-call (.builtin "list.append") [.ref D,<-eval elt C.env]) aO (I (i+1)))))
  (done:∀S',I items.length S'->K S')
noncomputable abbrev I2 (e:Expr)(i2:Expr)(D:Addr)(env:Env):Sem Unit:=do
 let x <-eval i2 env
 standAt i2.pos
 let x <-foldedSetIterable i2 env x;let _ <-runOwn (.compStart e 1 (<-holding [x] (pyIter x)) (.ref D) env) env
theorem H8 {e:Expr}{i2:Expr}{it acc:Value}{env:Env}{R:Result->lC}(hc:((clausesOf e)[1]?).elim false (·.is_async != 0)=false)
 (H7:(model c.prog c.w).den (.compStart e 1 it acc env)=(compStart e 1 it acc env).onRaise (λx=>do noteFrame x env;standAt theWindowsPlace))
 (hu:A.under (.compStart e 1 it acc env)=A)
 (h0:codeAny (model c.prog c.w) A (.compLoop e 1 it acc env) R s)
 (h:wpAny (model c.prog c.w) A (pyIter it) (λWe s'=>codeAny (model c.prog c.w) A (.compLoop e 1 We acc env) R s') (λzz zz=>False) s) :
 codeAny (model c.prog c.w) A (.compStart e 1 it acc env) R s:=by
 refine codeAny_of_tree ?_;refine (af hu)▸(af H7)▸?_;refine wpAny_notedAt ?_;delta compStart;refine (af hc)▸?_
 skip
 refine ai (wpAny_askSetting (wpAny_ite ?_))
 split
 . exact ai (bo (bo ⟨rfl,h0⟩))
 . refine ai (wpAny_rule ?_);cases (clausesOf e)[1]? with
   | none=>exact ai (aJ h (λWe s' h'=>bo ⟨rfl,h'⟩) λzz zz q=>q.elim)
   | some g=>exact ai (wpAny_standAt (ai (aJ h (λWe s' h'=>bo ⟨rfl,h'⟩) λzz zz q=>q.elim)))
noncomputable abbrev zG (elt t1 i1 t2 i2:Expr)(io iS:cz)(scope:Scope)(pos:Pos):Expr:=.ListComp elt [⟨t1,i1,io,0⟩,⟨t2,i2,iS,0⟩] scope pos
theorem Ek {elt t1 i1 t2 i2:Expr}{io iS:cz}{scope:Scope}{K:cR}{kD:Nat}{D:Addr}(hh:C.handled=none)
 (h:lD c C t2 i2 S (InC c C D t2 iS elt kD K) dT) (hs:∀x,foldedSetIterable i2 C.env x=pure x) :
 HZ c C kD D (I2 (zG elt t1 i1 t2 i2 io iS scope pos) i2 D C.env) S K:=λA F bs s hA z hD=>by
 refine ai (aJ (h A F bs s hA z) (λxv eG sW=>?_) λzz zz q=>q);refine ai (wpAny_standAt ?_);rw [hs];refine ai (bo (ai (wpAny_holding ?_)));refine aJ sW (λr Z q=>?_) λzz zz q=>q;obtain ⟨F₁,bs₁,ac,it,items,live,wr,Ps,e,st,ap,W,ut,hn,hf,hl,I,h0,mR,turn,done⟩:=q;subst e;refine ai (wpAny_runOwn ?_);obtain IT:i7 C (A.mark none):=⟨hA.handled,hA.depth,hA.units,hA.frames⟩
 obtain lp:=uZ (c:=c) (C:=C) (e:=zG elt t1 i1 t2 i2 io iS scope pos) (d:=1) (p:=i2.pos) (D:=D) (kD:=kD) (em:=(do let _ <-call (.builtin "list.append") [.ref D,<-eval elt C.env])) (A:=A.mark none) rfl rfl hh W I mR turn IT h0 ap (qi.H6 hn) st hf ut (st.nc hD);obtain fin:codeAny (model c.prog c.w) (A.mark none) (.compLoop (zG elt t1 i1 t2 i2 io iS scope pos) 1 (.ref it) (.ref D) C.env) (λr s'=>match r with
  | .ok f=>wpAny (model c.prog c.w) A (pure ():Sem Unit) (WV c C (λ_ _ (_:Unit) (_:Unit)=>True) F bs s.heap (λzz=>K)) (WX c C F bs s.heap dT) s'
  | .error e=>cameBackBy (model c.prog c.w) A C.env (WX c C F bs s.heap dT) e s') Z:=codeAny_mono lp λr s' q=>by
  obtain ⟨rfl,aT,ax,aC,an,aG,hk⟩:=q;exact bo ⟨aT,ax,(),aC,an,aG,trivial,done aC hk⟩
 exact H8 (i2:=i2) rfl rfl rfl fin (W.self _ _ (IT.handled.trans hh) ut fin)
inductive Wf (c:aP)(C:Cx)(D:Addr)(t1:Expr)(io:cz)(e i2:Expr)(kD:Nat)(K:cR)(items:bW)(live:aI->Prop)(ac:AS):Prop
 | mk (I:vO) (h0:I 0 ac) (hl:∀i S',I i S'->live S'.heap)
  (turn:∀i y S',items[i]?=some y->I i S'->qP c C t1 y S' (λaC=>s6 c C io aC (λok aO=>match ok with
   | false=>I (i+1) aO
   | true=>HZ c C kD D (I2 e i2 D C.env) aO (I (i+1)))))
  (done:∀S',I items.length S'->K S')
theorem PO (elt t1 i1 t2 i2:Expr)(io iS:cz)(scope:Scope)(pos:Pos)(it D:Addr)(env:Env):compTurn (zG elt t1 i1 t2 i2 io iS scope pos) 0 (.ref it) (.ref D) env=(do
 standAt i1.pos
 match <-pyNext (.ref it) with
 | none=>pure (.done .next)
 | some v =>
   letOwnedTupleGo t1 (.ref it) v
   assign t1 env v
   let mut ok:=true
   for c in io do
    if ok then ok <-isTrue c env (eval c env)
   if ok then I2 (zG elt t1 i1 t2 i2 io iS scope pos) i2 D env
   again (.compLoop (zG elt t1 i1 t2 i2 io iS scope pos) 0 (.ref it) (.ref D) env):Sem Fin):=by
 refine bind_congr λzz=>bind_congr λr=>?_;cases r with
 | none=>rfl
 | some v =>
   refine bind_congr λzz=>bind_congr λzz=>bind_congr λok=>?_;cases ok with
   | false=>rfl
   | true =>show _=I2 (zG elt t1 i1 t2 i2 io iS scope pos) i2 D env >>= _;simp only [I2,bind_assoc,pure_bind];rfl
theorem jN.heap (H:aI):∀(l:List (Nat×Str×AV)),jN C S l->jN C {S with heap:=H} l
 | [],_=>trivial
 | _::l,h=>(aH h.1 h.2.1 (jN.heap H l h.2.2))
theorem oW {elt t1 i1 t2 i2:Expr}{io iS:cz}{y:Str}{py:Pos}{scope sc:Scope}{AZ:Pos}{K:gw}(vars:a8)(fs:List (Nat×Str×AV))(hh:C.handled=none)(iE:jN C S fs)(fw:dc sc scope (fs.map (·.2.1)) vars=true)
 (h:lD c C t1 i1 S (λitems live ac=>jN C ac fs/\∀env own D,(∀x,scope.names.lookup x=some .local\/scope.names.lookup x=some .cell->aV (qH scope sc env own C.frames C.handled C.n vars) (λzz=>none) x) ->
  Wf c (qH scope sc env own C.frames C.handled C.n vars) D t1 io (zG elt t1 i1 t2 i2 io iS scope pos) i2 ac.heap.length (λS'=>vD c C (.Name y py) (.ref ac.heap.length) {ac with heap:=S'.heap} (λaO=>K .next aO) X) items live ⟨capLoc 0 fs,ac.heap++[.list []]⟩) X)
 (TJ:swapsWith (zG elt t1 i1 t2 i2 io iS scope pos) (some (.Name y py)) AZ.line C.env=pure true:=by rfl)
 (na:C.env.scope=sc:=by rfl) (hs:∀x,foldedSetIterable i1 C.env x=pure x:=by intro _;rfl):jK c C (.Assign [.Name y py] (zG elt t1 i1 t2 i2 io iS scope pos) AZ) S K X:=by
 intro A F bs s hA z;refine rE (exec_Assign_Name_used _ _ _ _ TJ) ?_;refine ai (wpAny_standAt (ai ?_));refine ai ?_;refine aJ (?_:wpAny _ _ _ (λzz s'=>∃F' az S',Step C.own F bs s.heap F' az s'.heap/\St c C F' az S' s'/\K .next S') _ _) (λzz s' QU=>by
  refine e3a2 QU λF' az S' st z' k=>?_;clear QU;exact bo (bo ⟨F',az,.next,S',st,z',rfl,k⟩)) λzz zz e=>e
 refine e0a5 (gQ fw) λk1 zz zz k4 k5 k6=>?_;refine wpAny_comprehension_free (g:=⟨t1,i1,io,0⟩) (gs:=[⟨t2,i2,iS,0⟩]) rfl hs (lh na fw z iE).1 k1 k6 ?_;refine aJ (h A F bs s hA z) (λxv eG sW=>aJ sW (λJ7 Z q=>?_) λzz zz e=>e) λzz zz e=>e;obtain ⟨F₁,bs₁,ac,it,items,live,wr,Ps,e,st,ap,W,ut,hn,hf,hl,po,body⟩:=q;refine rE e ?_;refine wpAny_newObj_type ?_;generalize hD:Z.heap.objs.size=D;generalize bG:({Z with heap:=Z.heap.push (aY [] 0)}:Shared)=am;have nD:Z.heap.get? D=none:=gp (by rw [hD];exact aZ _);have m₂:ba c F₁ bs₁ Z am:=by rw [<-bG];exact ⟨λb o e=>cI _ e,rfl,rfl⟩
 have iF:am.heap.get? D=some (aY [] 0):=by rw [<-bG,<-hD];exact dw _ rfl
 have aG:St c C F₁ (bs₁++[D]) {ac with heap:=ac.heap++[.list []]} am:=ap.new m₂ nD iF (ae [] (bQ 0 iF) (.nil));have an:Step C.own F bs s.heap F₁ (bs₁++[D]) am.heap:=st.trans (.new m₂ nD);have Yv:Step C.own F₁ bs₁ Z.heap F₁ (bs₁++[D]) am.heap:=.new m₂ nD;have kD:(bs₁++[D])[ac.heap.length]?=some D:=by rw [gn (by rw [ap.wd.len];exact aZ _),ap.wd.len];simp
 have xG:jN C {ac with heap:=ac.heap++[.list []]} fs:=jN.heap _ fs po;refine lG ?_;rw [show ({Z with heap:=Z.heap.push {cls:=.type "list",data:=.seq #[]}}:Shared)=am from bG];refine e2a0 ((lh na fw aG xG).2 _ rfl) λenv own o1=>?_;obtain ⟨AU,aR,ku,AW,eL,be,TB⟩:=o1;refine rE AU ?_;obtain ⟨I,i0,iL,turn,fin⟩:=body env own D be;generalize kf:({am with heap:=pushCells (am.heap.push {cls:=.type "dict",data:=.dict #[]}) scope.names}:Shared)=aM at aR ku TB;have n₁:∀b,am.heap.get? b=none->Z.heap.get? b=none:=λb e=>by
  cases q:Z.heap.get? b with
  | none=>rfl
  | some o=>exact iY (aF (af (m₂.keep _ _ q)) e)
 have fF:∀b∈own,Z.heap.get? b=none:=λb hb=>n₁ b (AW b hb);have back:∀b,Z.heap.get? b=none->s.heap.get? b=none:=λb e=>by
  cases q:s.heap.get? b with
  | none=>rfl
  | some o=>refine e1a0 (st.mono _ _ q) λo' e'=>?_;exact bx (aF (af e) e')
 have Wg:bR c C F₁ (bs₁++[D]) wr am.heap:=(hf.step Yv).1;have v3:∀b o,Z.heap.get? b=some o->cJ c C F₁ (bs₁++[D]) b->cJ c (qH scope sc env own C.frames C.handled C.n vars) F₁ (bs₁++[D]) b:=λb o e f=>by
  refine ⟨f.F,f.bs,(λq=>bx (aF (af (fF b q)) e)),λx q=>?_,f.frames⟩;have q':env.cells.lookup x=some b:=q;rw [<-AU] at q';have yE:(cellsFrom (am.heap.objs.size+1) scope.names (ij C scope)).lookup x=some b:=q';rw [cM,List.lookup_append] at yE;cases hc:(cellsFrom (am.heap.objs.size+1) scope.names []).lookup x with
  | some b' =>replace yE:=hc▸yE;cases yE;obtain ok:=cellsFrom_ok scope.names (am.heap.push {cls:=.type "dict",data:=.dict #[]}) (am.heap.objs.size+1) [] ⟨λzz zz hm=>(nomatch hm),List.Pairwise.nil⟩ (by simp only [iA];exact aZ _);rw [iA] at ok;obtain h1:=(ok.empty x b (mem_of_lookup hc)).2;obtain h2:=Heap.lt_size (m₂.keep _ _ e);exact absurd h2 (Nat.not_lt.mpr (Nat.le_of_succ_le h1))
  | none =>
    rw [hc] at yE;have q3:(ij C scope).lookup x=some b:=yE
    (refine bh (ie _ scope.names [] (x,b) (mem_of_lookup q3)) (λw=>?_) (λo6=>?_);rotate_left;obtain ⟨w1,w2⟩:=o6;rotate_right)
    . exact nomatch w
    . refine e1a1 (fy (k5 x w2)) λp hp TD=>?_;refine e0a1 (xG.mem p hp) λe1 e2=>?_;refine e1a1 aG.locs λm hN zE=>?_;obtain ⟨a',o',r',ea,_⟩:=(zE _ _ e2).cellAt e1 (by delta Env.kindOf;rw [na];exact (k4 p.2.1 (eK (ae p hp rfl))).2.1);have G9:b=(C.env.cells.lookup x).getD 0:=w1;rw [TD] at ea;rw [ea] at G9;exact f.cells x (by rw [ea,G9];rfl)
 obtain AX:bR c (qH scope sc env own C.frames C.handled C.n vars) F₁ (bs₁++[D]) wr aM.heap:=⟨λb hb=>by refine e1a1 (hf.at_ b hb) λo e zz=>?_;exact v3 b o e (Wg.free b hb),λb hb=>by refine e1a1 (hf.at_ b hb) λo e q=>?_;exact (ae o (ku.keep _ _ (m₂.keep _ _ e)) q)⟩
 obtain Wh:Ps 0 F₁ (bs₁++[D]) am:=W.keep ut hf ap Yv aG;obtain uF:Ps 0 F₁ (bs₁++[D]) aM:=W.uv (own:=[]) Wh Wg (λzz zz q=>by cases q) aG (Step.keep ku) (aG.keep ku);obtain IT:i7 (qH scope sc env own C.frames C.handled C.n vars) A:=⟨hA.handled,hA.depth,hA.units,hA.frames⟩
 obtain stV:fS (wr++own) F₁ (bs₁++[D]) am.heap F₁ (bs₁++[D]) aM.heap:=fS.xq ku;obtain lp:=uZ (c:=c) (C:=qH scope sc env own C.frames C.handled C.n vars) (e:=zG elt t1 i1 t2 i2 io iS scope pos) (d:=0) (p:=i1.pos) (D:=D) (kD:=ac.heap.length) (em:=I2 (zG elt t1 i1 t2 i2 io iS scope pos) i2 D (qH scope sc env own C.frames C.handled C.n vars).env) (A:=A) (congrArg (λt=>Sem.onRaise t _) (PO elt t1 i1 t2 i2 io iS scope pos it D _)) rfl hh W I iL turn IT i0 aR (qi.ofV (λzz q=>q) (λzz q=>q)) stV AX uF kD;obtain AY:({env with scope:=relabel scope C.env}:Env)=(qH scope sc env own C.frames C.handled C.n vars).env:=by rw [pR,na]
 refine rE AY ?_;obtain ot:env.locals∈own:=by obtain this:=aR.cm;exact this
 obtain post:∀r s',Wc c (qH scope sc env own C.frames C.handled C.n vars) (λF' az s'=>fS (wr++own) F₁ (bs₁++[D]) am.heap F' az s'.heap) (I items.length) r s' ->
  compPost (model c.prog c.w) A (WX c C F bs s.heap X) (some (assign (.Name y py) C.env)) (λzz s'=>∃F' az S',Step C.own F bs s.heap F' az s'.heap/\St c C F' az S' s'/\K .next S') (.ref D) env.locals r s':=by
  intro r s' q;obtain ⟨rfl,F',az,S',mo,z',hI⟩:=q;obtain TG:∀b∈wr++own,s.heap.get? b=none:=λb hb=>by
   (refine bh (bX hb) (λq=>?_) (λq=>?_))
   . exact hn b q
   . exact back b (fF b q)
  obtain hW:∀b∈wr++own,am.heap.get? b=none\/cJ c C F₁ (bs₁++[D]) b:=λb hb=>by
   (refine bh (bX hb) (λq=>?_) (λq=>?_))
   . exact .inr (Wg.free b q)
   . exact .inl (AW b q)
  obtain sT:=an.Fc mo TG;obtain zT:St c C F' az {ac with heap:=S'.heap} s':=aG.AQ mo hW z'.wd;obtain hv:c.V F' az (.ref ac.heap.length) (.ref D):=by refine e1a1 mo.ext λnb e zz=>?_;exact .ref (by rw [e,et (bp kD).1];exact kD)
  refine e0a2 (z'.own _ ot) λeL1 eL2 zz=>?_;obtain BJ:cJ c C F₁ bs₁ env.locals:=ap.ez (fF _ ot);obtain fL:cJ c C F' az env.locals:=⟨eL1,eL2,BJ.own,BJ.cells,BJ.frames⟩
  refine e1a1 z'.locs λmL Ha zz=>?_;refine e1a1 z'.fV λoL eL nL=>?_;refine aJ (fin S' hI A F' az s' (.ref D) hA zT hv) (λzz oG TH=>TH.casesOn λnK jp zz yz nN vQ zz Hb=>?_) (λx oG TI=>TI.casesOn λnK jp cls yz nN vQ hx Hb=>⟨nK,jp,cls,yz,sT.trans nN,vQ,hx.back sT.mono,Hb⟩);refine e1a1 (nN.dQ _ oL eL fL.own fL.bs nL) λzn wP sm=>?_;refine (ae mL ?_ (λh' db=>?_))
  . refine e3a2 Ha λo es ep ho hd q=>?_;clear Ha;obtain rfl:=aX (aF (af eL) ho);exact (eT zn es ep wP (sm.data.trans hd) q)
  . obtain t:Other env.locals oG {oG with heap:=h'}:=⟨λb q o e=>(db.2 b q).trans e,rfl,rfl⟩
    exact (eT nK jp yz ((sT.trans nN).other (back _ (fF _ ot)) t.same) (vQ.free t (fL.step nN eL) wP (by rw [sm.cls];exact nL)) Hb)
 obtain Yw:=codeAny_mono lp post;exact codeAny_compStart_list Yw (W.self _ _ (hA.handled.trans hh) uF Yw)
end
noncomputable abbrev kE:eD:=Challenge.pw_oc0219_03.main.body
theorem qj (n:Nat)(l:List Int):AV.bL n (l.map AV.int)=true:=AV.ur n l
theorem ints_snoc (l:List Int)(x:Int):l.map AV.int++[AV.int x]=(l++[x]).map AV.int:=by simp
end Mine.Internal
namespace Mine.Internal
open PySem PyProof.Rows
noncomputable def slt (a b:Str):Bool:=decide (a.cps.toList < b.cps.toList)
noncomputable def ng:Nat->a8->a8->a8×List Str
 | n+1,x::xs,y::ys =>
   if slt x y then (x::(ng n (xs.dropWhile (·==x)) (y::ys)).1,(ng n (xs.dropWhile (·==x)) (y::ys)).2)
   else if slt y x then ((ng n (x::xs) (ys.dropWhile (·==y))).1,y::(ng n (x::xs) (ys.dropWhile (·==y))).2)
   else ng n (xs.dropWhile (·==x)) (ys.dropWhile (·==y))
 | _,xs,ys=>(xs,ys)
theorem BK (n:Nat)(x y:Str)(xs ys:a8):ng (n+1) (x::xs) (y::ys) =
 if slt x y then (x::(ng n (xs.dropWhile (·==x)) (y::ys)).1,(ng n (xs.dropWhile (·==x)) (y::ys)).2)
 else if slt y x then ((ng n (x::xs) (ys.dropWhile (·==y))).1,y::(ng n (x::xs) (ys.dropWhile (·==y))).2)
 else ng n (xs.dropWhile (·==x)) (ys.dropWhile (·==y)):=rfl
theorem dropWhile_len {α:Type}(p:α->Bool)(l:List α):(l.dropWhile p).length<=l.length:=(List.dropWhile_sublist p).length_le
theorem gT (n:Nat)(ys:a8):ng n [] ys=([],ys):=by cases n <;> rfl
theorem eP (n:Nat)(xs:a8):ng n xs []=(xs,[]):=by cases n <;> cases xs <;> rfl
theorem El (n:Nat):∀(xs ys:a8),(ng n xs ys).1.length<=xs.length/\(ng n xs ys).2.length<=ys.length:=by
 induction n with
 | zero=>intro xs ys;exact ⟨aZ _,aZ _⟩
 | succ n ih =>
   intro xs ys;cases xs with
   | nil=>rw [gT];simp
   | cons x xs =>
     cases ys with
     | nil=>rw [eP];simp
     | cons y ys =>
       obtain hx:=dropWhile_len (·==x) xs;obtain hy:=dropWhile_len (·==y) ys;rw [BK]
       split
       . obtain this:=ih (xs.dropWhile (·==x)) (y::ys);simp at this ⊢;exact (⟨ct this.1 hx,this.2⟩)
       . split
         . obtain this:=ih (x::xs) (ys.dropWhile (·==y));simp at this ⊢;exact (⟨this.1,ct this.2 hy⟩)
         . obtain this:=ih (xs.dropWhile (·==x)) (ys.dropWhile (·==y));skip;exact (⟨Nat.le_succ_of_le (ct this.1 hx),Nat.le_succ_of_le (ct this.2 hy)⟩)
noncomputable def BL:lJ:=de kE 10
section
variable {c:aP}{C:Cx}{S:AS}{mg mb:dZ}
theorem PQ {st:eD}{K:gw}(h:Ex c C st S K X)(hx:∀cls S,X cls S->X' cls S):Ex c C st S K X':=λA F bs s hA z=>(h A F bs s hA z).mono (λzz zz q=>q) hx
inductive PR (xs ys R1 R2:a8)(i j:Nat)(m u:a8)(S':AS):Prop
 | mk (hL:aW S' [(0,cq xs),(1,cq ys),(2,.int i),(3,.int j),(4,.ref 0),(5,.ref 1)]) (hH:S'.heap=[.list (m.map .str),.list (u.map .str)]) (hi:i<=xs.length) (hj:j<=ys.length)
inductive Wi (xs ys R1 R2:a8)(S':AS):Prop
 | mk (i j:Nat) (m u:a8) (h:PR xs ys R1 R2 i j m u S') (h1:m++xs.drop i=R1/\u++ys.drop j=R2)
inductive Wj (xs ys:a8)(R:a8×List Str)(k:Nat)(S':AS):Prop
 | mk (i j:Nat) (m u:a8) (h:PR xs ys R.1 R.2 i j m u S') (hk:(xs.length - i)+(ys.length - j)<=k) (h1:m++(ng k (xs.drop i) (ys.drop j)).1=R.1) (h2:u++(ng k (xs.drop i) (ys.drop j)).2=R.2)
theorem H9 (B:Base c mg mb)(hf:gy c fa BL .none)(nQ:dp mg mb "IndexError" (.type "IndexError"))(xs ys:a8)(tx:xs.length < 1000)(BM:ys.length < 1000)(n:Nat) :
 bC c (n+1) (.ref fa) [cq xs,cq ys] [] (λv zz=>v.under 0=true/\v=.tup [cq (ng (xs.length+ys.length) xs ys).1,cq (ng (xs.length+ys.length) xs ys).2]):=by
 refine hf.gz B ["expected","actual"] ["expected","actual","i","j","missing","unexpected","e","a"] [(0,cq xs),(1,cq ys)] (λzz zz zz=>rfl) rfl rfl (by decide +kernel) λenv own frames be jQ=>?_
 . refine e0a1 (El (xs.length+ys.length) xs ys) λr1 r2=>?_;generalize hR:ng (xs.length+ys.length) xs ys=R at r1 r2;refine ab (oH (av (ag 2 rfl (be 2 _ rfl) (ag 3 rfl (be 3 _ rfl) ?_))));refine ab (aj (eA (bI ⟨by simp [sizeLine],ag 4 rfl (be 4 _ rfl) ?_⟩)));refine ab (aj (eA (bI ⟨by simp [sizeLine],ag 5 rfl (be 5 _ rfl) ?_⟩)));refine ab (lj jQ (Wj xs ys R) (xs.length+ys.length)
    ⟨0,0,[],[],⟨(aW.of rfl),rfl,Nat.le_add_left 0 _,Nat.le_add_left 0 _⟩,(aZ (_ - 0+(_ - 0))),by simp [hR],by simp [hR]⟩ ?_)
   intro k S' o1;obtain ⟨i,j,m,u,⟨hL,hH,hi,hj⟩,hk,hm,hu⟩:=o1;refine fX (kX (aD ?_));refine bV _ hL ?_;rw [hH];have lm:m.length<=xs.length:=by have:=congrArg List.length hm;simp at this;exact ct (b8 _ _) (this▸r1)
   have lu:u.length<=ys.length:=by have:=congrArg List.length hu;simp at this;exact ct (b8 _ _) (this▸r2)
   refine ab (s9 jQ "IndexError" (by rfl) (by rfl) (by rfl) (PQ (X:=λcls ac=>fQ cls="IndexError"/\Wi xs ys R.1 R.2 ac) ?_ ?_))
   . refine ab (aj (bq (aa 0 rfl rfl (aa 2 rfl rfl ⟨bH (.inl rfl),?_⟩))));by_cases je:i < xs.length
     rotate_left
     . refine fj (.inl rfl) rfl (by simp;exact mx je) (pj tx hi) ⟨by decide,i,j,m,u,⟨(aW.of rfl),rfl,hi,hj⟩,?_⟩;rw [List.drop_eq_nil_of_le (mx je),gT] at hm hu;rw [List.drop_eq_nil_of_le (mx je)];exact ⟨hm,hu⟩
     have dx:xs.drop i=xs[i]::xs.drop (i+1):=List.drop_eq_getElem_cons je;generalize hx:xs[i]=x at dx;refine cD (y:=.str x) (.inl rfl) vF (pj tx hi) (by rw [Int.toNat_natCast,cj,df je,hx];rfl) ?_;refine ag 6 rfl (be 6 _ rfl) ?_;refine ab (aj (bq (aa 1 rfl rfl (aa 3 rfl rfl ⟨bH (.inl rfl),?_⟩))));by_cases FF:j < ys.length
     rotate_left
     . refine fj (.inl rfl) rfl (by simp;exact mx FF) (pj BM hj) ⟨by decide,i,j,m,u,⟨(aW.of rfl),rfl,hi,hj⟩,?_⟩;have dn:ys.drop j=[]:=List.drop_eq_nil_of_le (mx FF);rw [dn,eP] at hm hu;rw [dn];exact ⟨hm,hu⟩
     have dy:ys.drop j=ys[j]::ys.drop (j+1):=List.drop_eq_getElem_cons FF;generalize hy:ys[j]=y at dy;refine cD (y:=.str y) (.inl rfl) vF (pj BM hj) (by rw [Int.toNat_natCast,cj,df FF,hy];rfl) ?_;refine ag 7 rfl (be 7 _ rfl) ?_;obtain ⟨k,rfl⟩:∃k',k=k'+1:=(bQ (k - 1) ((Nat.succ_pred_eq_of_pos (dO (Nat.sub_pos_of_lt je) (ct (b8 ..) hk))).symm))
     rw [dx,dy] at hm hu;rw [BK] at hm hu;have up:∀a:Nat,((a:Nat):Int)+1=((a+1:Nat):Int):=λa=>rfl;refine ab (bz (aL (aa 6 rfl rfl (aa 7 rfl rfl (GA (aD ?_))))));cases h1:slt x y with
     | true =>
       rw [h1] at hm hu;simp only [if_true] at hm hu;rw [show decide (x.cps.toList < y.cps.toList)=true from h1];refine ab (bw (bT "list" "list.append" PySem.F.plainAttrs_list PySem.F.slot_list_append PySem.F.type_list_append (aa 4 rfl rfl ⟨by rfl,?_⟩)) (by rfl));refine ak (aa 6 rfl rfl (dK rfl (by simp [sizeLine];exact lU (dX lm tx) rfl) ?_));refine ab (eV 2 rfl rfl (be 2 _ rfl) (av (gj ?_)));rw [up];refine ab (ky 0 2 6 (xv:=cq xs) (l:=xs) (x:=x) (λi=>[(0,cq xs),(1,cq ys),(2,.int i),(3,.int j),(4,.ref 0),(5,.ref 1),(6,.str x),(7,.str y)]) jQ rfl rfl rfl (be 2 _ rfl) (.inl rfl) (λzz=>rfl) (λzz=>rfl) (λzz=>rfl) (λzz=>rfl) (i+1) rfl (kQ je) (mE tx) ?_ ?_)
       . intro K' hd;refine fj (.inl rfl) rfl (by simp) (mD tx) ⟨by decide,xs.length,j,m++[x],u,⟨(aW.of rfl),?_,jg,hj⟩,?_⟩
         . simp
         . rw [hd,gT] at hm hu;simp only [List.drop_length,List.append_nil];rw [dy];exact ⟨hm,hu⟩
       . intro i' h2 h3 h4;refine aq (aq (aq ⟨k,vG,i',j,m++[x],u,⟨(aW.of rfl),?_,nC h3,hj⟩,(Nat.le_of_lt_succ (dO (Nat.add_lt_add_right (Nat.sub_lt_sub_left je h2) _) hk)),?_,?_⟩))
         . simp
         . rw [h4,dy,List.append_assoc];exact hm
         . rw [h4,dy];exact hu
     | false =>
       rw [h1] at hm hu;simp only [jT,if_false] at hm hu;rw [show decide (x.cps.toList < y.cps.toList)=false from h1];refine ab (bz (aL (aa 6 rfl rfl (aa 7 rfl rfl (Hp (aD ?_))))));cases h2:slt y x with
       | true =>
         rw [h2] at hm hu;simp only [if_true] at hm hu;rw [show decide (y.cps.toList < x.cps.toList)=true from h2];refine ab (bw (bT "list" "list.append" PySem.F.plainAttrs_list PySem.F.slot_list_append PySem.F.type_list_append (aa 5 rfl rfl ⟨by rfl,?_⟩)) (by rfl));refine ak (aa 7 rfl rfl (dK rfl (by simp [sizeLine];exact lU (dX lu BM) rfl) ?_));refine ab (eV 3 rfl rfl (be 3 _ rfl) (av (gj ?_)));rw [up];refine ab (ky 1 3 7 (xv:=cq ys) (l:=ys) (x:=y) (λj=>[(0,cq xs),(1,cq ys),(2,.int i),(3,.int j),(4,.ref 0),(5,.ref 1),(6,.str x),(7,.str y)]) jQ rfl rfl rfl (be 3 _ rfl) (.inl rfl) (λzz=>rfl) (λzz=>rfl) (λzz=>rfl) (λzz=>rfl) (j+1) rfl (kQ FF) (mE BM) ?_ ?_)
         . intro K' hd;refine fj (.inl rfl) rfl (by simp) (mD BM) ⟨by decide,i,ys.length,m,u++[y],⟨(aW.of rfl),?_,hi,jg⟩,?_⟩
           . simp
           . rw [hd,eP] at hm hu;simp only [List.drop_length,List.append_nil];rw [dx];exact ⟨hm,hu⟩
         . intro j' h3 h4 h5;refine aq (aq (aq (aq ⟨k,vG,i,j',m,u++[y],⟨(aW.of rfl),?_,hi,nC h4⟩,(Nat.le_of_lt_succ (dO (hX (Nat.sub_lt_sub_left FF h3) _) hk)),?_,?_⟩)))
           . simp
           . rw [h5,dx];exact hm
           . rw [h5,dx,List.append_assoc];exact hu
       | false =>
         rw [h2] at hm hu;simp only [jT,if_false] at hm hu;rw [show decide (y.cps.toList < x.cps.toList)=false from h2];refine ab (eV 2 rfl rfl (be 2 _ rfl) (av (gj ?_)));rw [up];refine ab (uN jQ ?_);refine ab (ky 0 2 6 (xv:=cq xs) (l:=xs) (x:=x) (λi=>[(0,cq xs),(1,cq ys),(2,.int i),(3,.int j),(4,.ref 0),(5,.ref 1),(6,.str x),(7,.str y)]) jQ rfl rfl rfl (be 2 _ rfl) (.inl rfl) (λzz=>rfl) (λzz=>rfl) (λzz=>rfl) (λzz=>rfl) (i+1) rfl (kQ je) (mE tx) ?_ ?_)
         . intro K' hd;refine fj (.inl rfl) rfl (by simp) (mD tx) λe ob=>⟨?_,by decide⟩
           rw [hd] at hm hu;rw [gT] at hm hu;have nil:xs.drop xs.length=[]:=by simp
           refine ab (eV 3 rfl rfl (be 3 _ rfl) (av (gj ?_)));rw [up];refine ab (ky 1 3 7 (xv:=cq ys) (l:=ys) (x:=y) (λj=>[(0,cq xs),(1,cq ys),(2,.int xs.length),(3,.int j),(4,.ref 0),(5,.ref 1),(6,.str x),(7,.str y)]) jQ rfl rfl rfl (be 3 _ rfl) (.inl rfl) (λzz=>rfl) (λzz=>rfl) (λzz=>rfl) (λzz=>rfl) (j+1) rfl (kQ FF) (mE BM) ?_ ?_)
           . intro K' wS;rw [wS] at hm hu;refine tc (k:=2) (g:=e) (ob:=ob) (.inl rfl) rfl rfl (by simp) (mD BM) (hZ [(0,cq xs),(1,cq ys),(2,.int xs.length),(3,.int ys.length),(4,.ref 0),(5,.ref 1)] ⟨rfl,(iI _ _),rfl,(iI _ _),rfl,rfl,rfl,rfl,rfl,rfl,rfl,rfl,trivial⟩ ?_ (rfl) ⟨xs.length,ys.length,m,u,⟨(aW.of rfl),rfl,jg,jg⟩,?_⟩)
             . simp [d9]
             . simp only [List.drop_length];exact ⟨hm,hu⟩
           . intro j' h3 h4 h5;refine aq ⟨rfl,[(0,cq xs),(1,cq ys),(2,.int xs.length),(3,.int j'),(4,.ref 0),(5,.ref 1)],⟨rfl,(iI _ _),rfl,(iI _ _),rfl,rfl,rfl,rfl,rfl,rfl,rfl,rfl,trivial⟩,?_,(by decide),⟨xs.length,j',m,u,⟨(aW.of rfl),rfl,jg,nC h4⟩,?_⟩⟩
             . simp [d9]
             . rw [h5,nil];exact ⟨hm,hu⟩
         . intro i' h3 h4 h5;refine aq ?_;refine ab (eV 3 rfl rfl (be 3 _ rfl) (av (gj ?_)));rw [up];refine ab (ky 1 3 7 (xv:=cq ys) (l:=ys) (x:=y) (λj=>[(0,cq xs),(1,cq ys),(2,.int i'),(3,.int j),(4,.ref 0),(5,.ref 1),(6,.str x),(7,.str y)]) jQ rfl rfl rfl (be 3 _ rfl) (.inl rfl) (λzz=>rfl) (λzz=>rfl) (λzz=>rfl) (λzz=>rfl) (j+1) rfl (kQ FF) (mE BM) ?_ ?_)
           . intro K' wS;refine fj (.inl rfl) rfl (by simp) (mD BM) ⟨by decide,i',ys.length,m,u,⟨(aW.of rfl),rfl,nC h4,jg⟩,?_⟩;rw [wS,eP] at hm hu;simp only [List.drop_length,List.append_nil];rw [h5];exact ⟨hm,by simpa using hu⟩
           . intro j' h6 h7 h8;refine aq (aq (aq (aq (aq ⟨k,vG,i',j',m,u,⟨(aW.of rfl),rfl,nC h4,nC h7⟩,z5 h3 h6 hk,?_,?_⟩))))
             . rw [h5,h8];exact hm
             . rw [h5,h8];exact hu
   . intro cls ac o2;obtain ⟨hc,i,j,m,u,⟨hL,hH,hi,hj⟩,hm,hu⟩:=o2;refine ⟨hc,λe=>bM B (rfl) nQ.1 nQ.2 ⟨rfl,?_⟩⟩;refine bV _ hL ?_;rw [hH];have lm:m.length<=xs.length:=by have:=congrArg List.length hm;simp at this;exact ct (b8 ..) (this▸r1)
     have lu:u.length<=ys.length:=by have:=congrArg List.length hu;simp at this;exact ct (b8 ..) (this▸r2)
     have e1:cutOf (some ((i:Nat):Int)) none (xs.map AV.str)=(xs.drop i).map AV.str:=by simp [cutOf,List.map_drop]
     have e2:cutOf (some ((j:Nat):Int)) none (ys.map AV.str)=(ys.drop j).map AV.str:=by simp [cutOf,List.map_drop]
     refine ab (bw (bT "list" "list.extend" PySem.F.plainAttrs_list PySem.F.slot_list_extend PySem.F.type_list_extend (aa 4 rfl rfl ⟨by rfl,?_⟩)) (by rfl));refine ak (mV (aa 0 rfl rfl (aa 2 rfl rfl (jU _ rfl _ (.inl rfl) (by simp [uC]) (by simp [sizeLine];exact my tx) (.inl ?_)))));rw [e1];refine ux rfl (.inl rfl) (by simp [sizeLine];exact ud tx lm) ?_;refine ab (bw (bT "list" "list.extend" PySem.F.plainAttrs_list PySem.F.slot_list_extend PySem.F.type_list_extend (aa 5 rfl rfl ⟨by rfl,?_⟩)) (by rfl));refine ak (mV (aa 1 rfl rfl (aa 3 rfl rfl (jU _ rfl _ (.inl rfl) (by simp [uC]) (by simp [sizeLine];exact my BM) (.inl ?_)))));rw [e2];refine ux rfl (.inl rfl) (by simp [sizeLine];exact ud BM lu) ?_;refine ab (nJ ?_);refine mO (cG.list 4 rfl rfl) (mO (cG.list 5 rfl rfl) ?_);refine ab (bf (cY (aw (aa 4 rfl rfl (ak (aa 5 rfl rfl (aH (by simp [sizeLine]) ?_ ?_)))))))
     . simp [<-List.map_drop,<-List.map_append,d9]
     . simp only [uy,hm,hu]
end
end Mine.Internal
namespace Mine.Internal
open PySem PyProof.Rows PySem.W
noncomputable def gk:eD:=jq kE 8
noncomputable def PS:eD:=jq kE 6
noncomputable def pz:lJ:=de gk 0
noncomputable def wq:lJ:=de gk 1
noncomputable def u0:lJ:=de gk 2
noncomputable def tA:lJ:=de gk 3
noncomputable def tB:lJ:=de gk 4
noncomputable def qk:lJ:=de gk 5
noncomputable def wu:lJ:=de gk 7
noncomputable def nh:lJ:=de gk 8
noncomputable def tC:lJ:=de PS 1
structure ql where
 cS:Addr
 cN:Addr
 rU:Addr
 info:Addr
 add:Addr
 u3:Addr
 ready:Addr
 kF:Addr
 done:Addr
 oK:Addr
 oM:Addr
noncomputable def attrOk (Kf:Frag)(Cl:Addr)(name:Str):Bool:=storeOk Kf Cl name&&findIn Kf (.ref Cl) name==some none
structure tD (c:aP)(mg mb:dZ)(Kf:Frag)(a:ql):Prop where
 B:dU c mg mb Kf
 attrs:(attrOk Kf a.cS "_node2info"&&attrOk Kf a.cS "_ready_nodes"&&attrOk Kf a.cS "_npassedout"&&attrOk Kf a.cS "_nfinished")=true
 slots:slotAt Kf a.cN "node"=some 0/\slotAt Kf a.cN "npredecessors"=some 1/\slotAt Kf a.cN "successors"=some 2
 Yx:makesIn Kf a.cN=true
 FG:(findIn Kf (.ref a.cN) "__init__"==some (some (.ref a.oM))&&typeIn Kf (.ref a.oM)==some (.type "function"))=true
 Yy:makesIn Kf a.cS=true
 FH:(findIn Kf (.ref a.cS) "__init__"==some (some (.ref a.rU))&&typeIn Kf (.ref a.rU)==some (.type "function"))=true
 FI:keepIn Kf (.ref a.cN)=true
 FJ:keepIn Kf (.ref a.cS)=true
 gN:mg "_NodeInfo"=some (.ref a.cN)
 gS:mg "TopologicalSorter"=some (.ref a.cS)
 BN:fY Kf a.cS "_get_nodeinfo" a.info=true
 Ia:lq Kf a.cS "add" a.add=true
 FK:fY Kf a.cS "prepare" a.u3=true
 wx:fY Kf a.cS "get_ready" a.ready=true
 xH:fY Kf a.cS "is_active" a.kF=true
 BO:fY Kf a.cS "done" a.done=true
 BP:fY Kf a.cS "_find_cycle" a.oK=true
 oM:gy c a.oM tC .none
 info:gy c a.info wq .none
 add:gy c a.add u0 .none
 u3:gy c a.u3 tA .none
 ready:gy c a.ready tB .none
 kF:gy c a.kF qk .none
 done:gy c a.done wu .none
 oK:gy c a.oK nh .none
noncomputable abbrev Nd:=Int×Int×List Int
structure Lk (H:aI)(cN:Addr)(n:Nat)(x:Nd):Prop where
 dict:H[n]?=some (.aN [])
 slots:H[n+1]?=some (.slots cN n [some (.int x.1),some (.int x.2.1),some (.ref (n+2))])
 list:H[n+2]?=some (.list (x.2.2.map .int))
structure vE (H:aI)(cN:Addr)(lo:Nat)(ns:aS)(ah:List Nd):Prop where
 len:ns.length=ah.length
 at_:∀(i n:Nat) (x:Nd),ns[i]?=some n->ah[i]?=some x->Lk H cN n x
 low:∀n∈ns,lo<=n
 gap:ns.Pairwise λm n=>m+3<=n
noncomputable def tabOf (ns:aS)(ah:List Nd):List (Int×AV):=(ah.zip ns).map λp=>(p.1.1,.ref (p.2+1))
structure SB (H:aI)(a:ql)(d:Nat)(ns:aS)(ah:List Nd):Prop where
 inst:H[d+1]?=some (.inst a.cS d)
 dict:H[d]?=some (.aN [("_node2info",.ref (d+2)),("_ready_nodes",.none),("_npassedout",.int 0),("_nfinished",.int 0)])
 tab:H[d+2]?=some (.bt (tabOf ns ah))
 nodes:vE H a.cN (d+3) ns ah
 names:(ah.map (·.1)).Nodup
def xI (d:Nat)(ns:aS)(j:Nat):Prop:=j=d\/j=d+2\/∃n∈ns,j=n+1\/j=n+2
structure Ext (H H':aI)(P:Nat->Prop):Prop where
 le:H.length<=H'.length
 same:∀j,j < H.length->¬P j->H'[j]?=H[j]?
theorem Ext.refl (H:aI)(P:Nat->Prop):Ext H H P:=⟨aZ _,λzz zz zz=>rfl⟩
theorem Ext.trans (x:Ext H H' P)(y:Ext H' Q8 P):Ext H Q8 P :=
 ⟨ct x.le y.le,λj h n=>(y.same j (dO h x.le) n).trans (x.same j h n)⟩
theorem Ext.mono (x:Ext H H' P)(h:∀j,j < H.length->P j->Q j):Ext H H' Q :=
 ⟨x.le,λj hj n=>x.same j hj λp=>n (h j hj p)⟩
noncomputable def bA (ah:List Nd)(x:Int):List Nd:=if ah.any (λp=>decide (p.1=x)) then ah else ah++[(x,0,[])]
section
variable {c:aP}{mg mb:dZ}{Kf:Frag}{a:ql}
theorem yV (W:tD c mg mb Kf a)(x:Int)(H:aI)(n:Nat) :
 bC c (n+1) (.ref a.oM) [.ref (H.length+1),.int x] (H++[.aN [],.inst a.cN H.length]) (λv H'=>v=.none/\H'=H++[.aN [],.slots a.cN H.length [some (.int x),some (.int 0),some (.ref (H.length+2))],.list []]):=by
 refine W.oM.gz W.B.toBase ["self","node"] ["self","node"] [(0,.ref (H.length+1)),(1,.int x)] (λzz zz zz=>rfl) rfl rfl (rfl) λenv own frames be jQ=>?_
 . obtain e0:∀(l:aI),(H++l)[H.length]?=l[0]?:=λl=>by rw [gn (aZ _)];simp
   obtain e1:∀(l:aI),(H++l)[H.length+1]?=l[1]?:=λl=>by rw [gn arith2];simp
   obtain e2:∀(l:aI) (v:AO),(H++l).set (H.length+1) v=H++l.set 1 v:=λl v=>by rw [List.set_append_right _ _ arith2];simp
   obtain zH:∀(o:AO) (vs:uj) (lc:dI),(o=.inst a.cN H.length/\vs=[]\/o=.slots a.cN H.length vs)->m8 ⟨lc,H++[.aN [],o]⟩ (H.length+1) H.length a.cN vs:=by
    intro o vs lc h;refine (yp ?_ [] (by simp))
    (refine bh h (λGY=>?_) (λh=>?_);refine e0a1 GY λh h'=>?_)
    . exact .inl ⟨by rw [e1,h];rfl,h'⟩
    . exact .inr (by rw [e1,h];rfl)
   refine ab (aj (aa 1 rfl rfl (cg (aa 0 rfl rfl (gb W.B a.cN W.slots.1 zK (zH _ [] _ (.inl ⟨rfl,rfl⟩)) ?_)))));rw [e2];refine ab (aj (av (cg (aa 0 rfl rfl (gb W.B a.cN W.slots.2.1 mz (zH _ _ _ (.inr rfl)) ?_)))));rw [e2];refine ab (aj (eA (bI ⟨by simp,cg (aa 0 rfl rfl (gb (d:=H.length) (vs:=[some (.int x),some (.int 0)]) W.B a.cN W.slots.2.2 zL (yp (.inr ?_) [] ?_) ?_))⟩)))
   . simp [gn];rfl
   . simp
   refine aq ⟨rfl,?_⟩;simp [List.set_append_right,il]
theorem ar {Cl:Addr}(h:attrOk Kf Cl name=true):storeOk Kf Cl name=true/\(findIn Kf (.ref Cl) name==some none)=true/\iG Kf Cl=true:=by simp only [attrOk,eZ] at h;exact (aH h.1 h.2 (by have:=h.1;simp only [storeOk,eZ] at this;exact this.1))
theorem tD.a1 (W:tD c mg mb Kf a):attrOk Kf a.cS "_node2info"=true:=by have:=W.attrs;simp only [eZ] at this;exact this.1.1.1
theorem tD.a2 (W:tD c mg mb Kf a):attrOk Kf a.cS "_ready_nodes"=true:=by have:=W.attrs;simp only [eZ] at this;exact this.1.1.2
theorem tD.a3 (W:tD c mg mb Kf a):attrOk Kf a.cS "_npassedout"=true:=by have:=W.attrs;simp only [eZ] at this;exact this.1.2
theorem tD.a4 (W:tD c mg mb Kf a):attrOk Kf a.cS "_nfinished"=true:=by have:=W.attrs;simp only [eZ] at this;exact this.2
theorem u4 (W:tD c mg mb Kf a)(hf:gy c a.rU pz (.ref t))(ht:c.h₀.get? t=some o)(hc:o.cls≠.none)(hd:o.data=.seq #[.none] tn)(H:aI)(n:Nat) :
 bC c (n+1) (.ref a.rU) [.ref (H.length+1)] (H++[.aN [],.inst a.cS H.length]) (λv H'=>v=.none/\H'=H++[.aN [("_node2info",.ref (H.length+2)),("_ready_nodes",.none),("_npassedout",.int 0),("_nfinished",.int 0)],.inst a.cS H.length,.bt []]):=by
 refine hf.call W.B.toBase [("self",.ref (H.length+1)),("graph",.none)] ["self","graph"] ["self","graph"] [(0,.ref (H.length+1)),(1,.none)] (λfd h1 h2 h3=>?_) rfl rfl (by decide +kernel) λenv own frames be jQ=>?_
 . intro A F bs H s rs E Q wd hv k;refine e1a1 hv.one λr o1 hr=>?_;refine rE o1 ?_;unfold bindArgs;rw [h1,h2];have Jv:s.heap.get? t=some o:=wd.sub _ _ (wd.base _ _ ht (.inl hc));refine ai (bo (ai (wpAny_seqItems Jv hd ?_)));refine bo (k F s [("self",r),("graph",.none)] (.refl ..) wd (.cons hr (.cons .none .nil)))
 . have e0:∀(l:aI),(H++l)[H.length]?=l[0]?:=λl=>by rw [gn (aZ _)];simp
   have e1:∀(l:aI),(H++l)[H.length+1]?=l[1]?:=λl=>by rw [gn arith2];simp
   have e2:∀(l:aI) (v:AO),(H++l).set H.length v=H++l.set 0 v:=λl v=>by rw [List.set_append_right _ _ (aZ _)];simp
   have zH:∀(lc:dI) (kvs:fq) (l:aI),fT ⟨lc,H++(.aN kvs::.inst a.cS H.length::l)⟩ (H.length+1) H.length a.cS kvs:=λlc kvs l=>⟨by rw [e1];rfl,by rw [e0];rfl⟩
   refine ab (aj (ly W.B.toBase (cg (aa 0 rfl rfl (cP (d:=H.length) (kvs:=[]) W.B a.cS (ar W.a1).1 ?_ (by simp) ?_)))))
   . exact ⟨by rw [List.append_assoc,e1];rfl,by rw [List.append_assoc,e0];rfl⟩
   have f1:((H++[AO.aN [],.inst a.cS H.length])++[AO.bt []]).set H.length (.aN (dC [] "_node2info" (.ref (H++[AO.aN [],.inst a.cS H.length]).length)))=H++[.aN [("_node2info",.ref (H.length+2))],.inst a.cS H.length,.bt []]:=by rw [List.append_assoc,e2];simp;rfl
   simp only [f1];refine ab (aj (eU (cg (aa 0 rfl rfl (cP W.B a.cS (ar W.a2).1 (zH _ _ _) (by simp) ?_)))));rw [e2];refine ab (aj (av (cg (aa 0 rfl rfl (cP W.B a.cS (ar W.a3).1 (zH _ _ _) (Nat.le_of_ble_eq_true rfl) ?_)))));rw [e2];refine ab (aj (av (cg (aa 0 rfl rfl (cP W.B a.cS (ar W.a4).1 (zH _ _ _) (Nat.le_of_ble_eq_true rfl) ?_)))));rw [e2];refine ab (bz (aL (aa 1 rfl rfl (eU (lZ (aD ?_))))));refine aq (aq ?_);constructor <;> first | trivial | rfl
end
theorem bC.mono {K K':AV->aI->Prop}(h:bC c n fv args H K)(hk:∀v H',K v H'->K' v H'):bC c n fv args H K' :=
 λA F bs s rs fr h1 h2 h3 h4 h5 wd hv=>codeAny_mono (h A F bs s rs fr h1 h2 h3 h4 h5 wd hv) λr s' LE=>by obtain ⟨F',az,v,H',rv,own,e1,e2,e3,e4,e5,e6⟩:=LE;exact ⟨F',az,v,H',rv,own,e1,e2,e3,e4,e5,hk v H' e6⟩
theorem iT {i n:Nat}(hn:(ah.map (·.1)).Nodup)(h1:ah[i]?=some y)(h2:ns[i]?=some n):b9 (tabOf ns ah) y.1=some (.ref (n+1)):=by
 induction ah generalizing ns i with
 | nil=>exact bx h1
 | cons z ah ih =>
   cases ns with
   | nil=>exact bx h2
   | cons m ns =>
     delta tabOf b9;refine (af List.zip_cons_cons)▸(af List.map_cons)▸(af (List.find?_cons))▸?_;dsimp only;cases i with
     | zero =>refine rE (aX h1) ?_;clear ih;refine rE (aX h2) ?_;rw [decide_eq_true rfl];rfl
     | succ i =>obtain gM:=List.nodup_cons.mp hn;rw [decide_eq_false λe:z.1=y.1=>gM.1 (eK (ae y (bJ h1) e.symm))];exact ih gM.2 h1 h2
theorem rj (h:ah.any (λp=>decide (p.1=x))=false):b9 (tabOf ns ah) x=none:=by
 induction ah generalizing ns with
 | nil=>delta tabOf;rw [List.zip_nil_left];rfl
 | cons z ah ih =>
   cases ns with
   | nil=>rfl
   | cons m ns =>refine e0a1 (Bool.or_eq_false_iff.mp h) λh1 h2=>?_;delta tabOf b9;rw [List.zip_cons_cons,List.map_cons,List.find?_cons];dsimp only at h1 ⊢;refine rE h1 ?_;exact ih h2
theorem qm {κ α:Type} [DecidableEq κ] {kvs:List (κ×α)}{k:κ}(v:α)(h:b9 kvs k=none):dC kvs k v=kvs++[(k,v)]:=by
 delta dC;rw [if_neg];intro q;refine e1a1 (List.any_eq_true.mp q) λp hp e=>?_;delta b9 at h;cases e2:kvs.find? λkv=>kv.1=k with
 | none=>obtain this:=List.find?_eq_none.mp e2 p hp;exact this e
 | some p'=>replace h:=e2▸h;cases h
theorem wy (hl:ns.length=ah.length)(n:Nat)(x:Nd):tabOf (ns++[n]) (ah++[x])=tabOf ns ah++[(x.1,.ref (n+1))]:=by delta tabOf;simp only [List.zip_append hl.symm];simp
theorem Em {ah:List Nd}(h:ah.any (λp=>decide (p.1=x))=true):∃(i:Nat) (y:Nd),ah[i]?=some y/\y.1=x:=by refine e1a1 (List.any_eq_true.mp h) λy hy e=>?_;obtain ⟨i,hi,e2⟩:=List.getElem_of_mem hy;exact (dY i y (by rw [df hi,e2]) (by simpa using e))
theorem wz {ah:List Nd}(h:(ah.map (·.1)).Nodup)(hx:ah.any (λp=>decide (p.1=x))=false)(y:Int×List Int):((ah++[(x,y)]).map (·.1)).Nodup:=by rw [List.map_append,List.nodup_append];refine (aH h (by simp) (λu hu v hv=>?_));simp at hv;refine rE hv ?_;refine e1a1 (fy hu) λp hp o1=>?_;refine o1▸?_;intro e;obtain this:=List.any_eq_false.mp hx p hp;exact this (by simpa using e)
theorem Lk.set (h:Lk H cN n x)(o:AO)(h0:j≠n)(h1:j≠n+1)(h2:j≠n+2):Lk (H.set j o) cN n x :=
 ⟨by rw [aU h0];exact h.dict,by rw [aU h1];exact h.slots,by rw [aU h2];exact h.list⟩
theorem fH {H l:aI}{j:Nat}(h:H[j]?=some o):(H++l)[j]?=some o:=by refine rE (et (bp h).1) ?_;exact h
theorem Lk.app (h:Lk H cN n x):Lk (H++l) cN n x:=⟨fH h.dict,fH h.slots,fH h.list⟩
theorem Lk.lt (h:Lk H cN n x):n+2 < H.length:=(bp h.list).1
theorem vE.lt {lo:Nat}(h:vE H cN lo ns ah):∀n∈ns,n+2 < H.length:=λn hn=>by
 obtain ⟨i,hi,e⟩:=List.getElem_of_mem hn;obtain je:i < ah.length:=by simp only [<-h.len];exact hi
 exact (h.at_ i n ah[i] (by rw [df hi,e]) (df je)).lt
section
variable {c:aP}{mg mb:dZ}{Kf:Frag}{a:ql}
theorem xJ (W:tD c mg mb Kf a)(hs:SB H a d ns ah)(x:Int)(n:Nat)(hlen:ah.length < 1000) :
 bC c (n+3) (.ref a.info) [.ref (d+1),.int x] H (λv H'=>∃(rm:aS) (i nn:Nat) (y:Nd),SB H' a d rm (bA ah x)/\(bA ah x)[i]?=some y/\y.1=x/\rm[i]?=some nn/\v=.ref (nn+1)/\Ext H H' (λj=>j=d+2)/\(rm=ns\/rm=ns++[H.length])):=by
 refine W.info.gz W.B.toBase ["self","node"] ["self","node","result"] [(0,.ref (d+1)),(1,.int x)] (λzz zz zz=>rfl) rfl rfl (rfl) λenv own frames be jQ=>?_
 . have hI:∀lc,fT ⟨lc,H⟩ (d+1) d a.cS _:=λlc=>⟨hs.inst,hs.dict⟩
   have hg:∀{C:Cx} {lc:dI} {K:cw} {X:cK},K (.ref (d+2)) ⟨lc,H⟩->uQ c C "_node2info" (.ref (d+1)) ⟨lc,H⟩ K X:=λk=>br W.B a.cS (ar W.a1).2.2 (ar W.a1).2.1 (hI _) rfl (by simp) k;refine ab (bz (aL (rG (bT "dict" "dict.get" PySem.F.plainAttrs_dict PySem.F.slot_dict_get PySem.F.type_dict_get (bc (aa 0 rfl rfl (hg ⟨fB hs.tab rfl,ak (aa 1 rfl rfl (qf (.inr (ae (d+2) rfl hs.tab)) ?_))⟩)))))));refine ag 2 rfl (be 2 _ rfl) ?_;cases hx:ah.any (λp=>decide (p.1=x)) with
   | true =>
     refine e2a1 (Em hx) λi y h1 h2=>?_;have hi:i < ns.length:=by rw [hs.nodes.len];exact (bp h1).1
     have hn:=df hi;have BQ:=iT hs.names h1 hn;rw [h2] at BQ;rw [BQ];refine eU (kj (aD ?_));refine aq (ab (bf (aa 2 rfl rfl (jj ns i (ns[i]) y ?_ ?_ h2 hn rfl (.refl ..) (.inl rfl)))))
     . simp only [bA,hx,if_true];exact hs
     . simp only [bA,hx,if_true];exact h1
   | false =>
     have BQ:=rj (ns:=ns) hx;rw [BQ];refine eU (DA (aD ?_));refine ab (oH (mZ W.B a.cN W.FI rfl (n:=n+2) (aZ _) (kW W.B.toBase (rfl) W.gN ⟨rfl,ak (aa 1 rfl rfl (bC.cls W.B W.Yx W.FG ((yV W x H n).mono λv H' DQ=>e0a1 DQ λe1 e2=>⟨e1,?_⟩)))⟩)));refine rE e2 ?_;generalize hl:([.aN [],.slots a.cN H.length [some (.int x),some (.int 0),some (.ref (H.length+2))],.list []]:aI)=l;have D5:∀lc,fT ⟨lc,H++l⟩ (d+1) d a.cS _:=λlc=>⟨fH hs.inst,fH hs.dict⟩
     refine lr (bc (aa 0 rfl rfl (br W.B a.cS (ar W.a1).2.2 (ar W.a1).2.1 (D5 _) rfl (by simp) (aa 1 rfl rfl (iZ (d+2) x (tabOf ns ah) rfl rfl (fH hs.tab) ?_ ?_)))))
     . simp [tabOf,sizeLine];exact lU (dX (Nat.min_le_left ..) hlen) rfl
     refine ag 2 rfl (be 2 _ rfl) (aq ?_);have hd2:d+2 < H.length:=(bp hs.tab).1;have FD:d+3<=H.length:=pg hd2;refine ab (bf (aa 2 rfl rfl (jj (ns++[H.length]) ah.length H.length (x,0,[]) ?_ ?_ rfl ?_ rfl ⟨?_,?_⟩ (.inr rfl))))
     . rw [qm _ BQ,bA,hx];simp only [jT,if_false];have lt:=hs.nodes.lt;refine ⟨?_,?_,?_,⟨?_,?_,?_,?_⟩,wz hs.names hx _⟩
       . rw [aU mC];exact fH hs.inst
       . rw [aU mB];exact fH hs.dict
       . rw [gL (by simp;exact dO hd2 (b8 _ _)),wy hs.nodes.len]
       . simp [hs.nodes.len]
       . intro i m y h1 h2;by_cases hi:i < ns.length
         . rw [et hi] at h1;rw [et (by rw [<-hs.nodes.len];exact hi)] at h2;have:=hs.nodes.low m (bJ h1);exact ((hs.nodes.at_ i m y h1 h2).app).set _ (cA this) (cA (Nat.le.step this)) (cA (dO this (b8 _ 2)))
         . have e:i=ns.length:=by have:=(bp h1).1;simp at this;exact sH this hi
           clear hi;subst e;rw [gn (aZ _)] at h1;rw [hs.nodes.len,gn (aZ _)] at h2;simp at h1 h2;subst h1 h2;have e0:∀(l:aI),(H++l)[H.length]?=l[0]?:=λl=>by rw [gn (aZ _)];simp
           have e1:∀(l:aI),(H++l)[H.length+1]?=l[1]?:=λl=>by rw [gn arith2];simp
           have e2:∀(l:aI),(H++l)[H.length+2]?=l[2]?:=λl=>by rw [gn pf];simp
           refine hl▸?_;exact ⟨by rw [aU (cA hd2),e0];rfl,by rw [aU (cA (Nat.le.step hd2)),e1];rfl,by rw [aU (cA (dO hd2 (b8 _ 2))),e2];rfl⟩
       . intro m hm;rcases bX hm with q | q
         . exact hs.nodes.low m q
         . rw [bD q];exact FD
       . rw [List.pairwise_append];refine (aH hs.nodes.gap (by simp) (λm hm k hk=>?_));rw [bD hk];have:=lt m hm;exact pg this
     . simp [bA,hx]
     . rw [<-hs.nodes.len];simp
     . simp
     . intro j hj co;rw [aU (Ne.symm co),et hj]
end
section
variable {c:aP}{C:Cx}{S:AS}{X:cK}{K:cw}
theorem BR (hl:xs.length < 2 ^ 63)(k:K (.int xs.length) S):eO c C (.builtin "len") [.tup xs] S K X:=by
 intro A F bs s rs hA z hv;refine e1a1 hv.one λr o4 h1=>?_;refine rE o4 ?_;clear hv;refine e2a2 h1.inv λa vs o3 ht bi=>?_;refine rE o3 ?_;refine WP.kept z λQ E q=>PyProof.Rows.len_tuple (items:=vs.toArray) (dz _ (z.wd.sub _ _ ht) rfl 0 rfl) (by simp [bi.length];exact pd hl) (q _ _ (.toks ..) (ae (.int xs.length) ?_ k));obtain this:((vs.toArray.size:Nat):Int)=xs.length:=by simp [bi.length]
 simp only [this];exact .int _ _
end
noncomputable def bump (ah:List Nd)(x:Int)(k:Int):List Nd:=ah.map λp=>if p.1=x then (p.1,p.2.1+k,p.2.2) else p
noncomputable def dD (ah:List Nd)(p x:Int):List Nd:=ah.map λq=>if q.1=p then (q.1,q.2.1,q.2.2++[x]) else q
noncomputable def b7 (ah:List Nd)(x:Int)(bN:List Int):List Nd:=bN.foldl (λl p=>dD (bA l p) p x) ah
noncomputable def dF (ah:List Nd)(x:Int)(bN:List Int):List Nd:=b7 (bump (bA ah x) x bN.length) x bN
theorem Ib {ah:List Nd}(hn:(ah.map (·.1)).Nodup)(h:ah[i]?=some y)(f:Nd->Nd):(ah.map λp=>if p.1=y.1 then f p else p)=ah.set i (f y):=by
 refine List.ext_getElem? λj=>?_;refine rE (cj) ?_;by_cases e:i=j
 . refine e▸?_;refine (af h)▸(af (gL (bp h).1))▸?_;simp
 . refine rE (aU e) ?_;cases hj:ah[j]? with
   | none=>rfl
   | some z =>
     obtain co:z.1≠y.1:=λq=>by
      obtain h1:(ah.map (·.1))[i]?=some y.1:=by refine (af (cj))▸(af h)▸?_;rfl
      obtain h2:(ah.map (·.1))[j]?=some y.1:=by refine (af (cj))▸(af hj)▸q▸?_;rfl
      exact e ((List.getElem?_inj (bp h1).1 hn).mp (h1.trans h2.symm))
     simp [co]
theorem lz {ah:List Nd}(h:ah[i]?=some y)(e:y'.1=y.1):(ah.set i y').map (·.1)=ah.map (·.1):=by
 refine List.ext_getElem? λj=>?_;refine rE (cj) ?_;rw [cj];by_cases q:i=j
 . subst q;rw [h,gL (bp h).1];simp [e]
 . rw [aU q]
theorem dq (ns:aS)(ah:List Nd):tabOf ns ah=((ah.map (·.1)).zip ns).map λp=>(p.1,.ref (p.2+1)):=by refine (af List.zip_map_left)▸(af List.map_map)▸?_;rfl
theorem nR (h:ah[i]?=some y)(e:y'.1=y.1):tabOf ns (ah.set i y')=tabOf ns ah:=by simp only [dq,dq,lz h e]
theorem BS {ns:aS}(h:ns.Pairwise λm n=>m+3<=n){i j:Nat}(h1:ns[i]?=some m)(h2:ns[j]?=some n)(e:i≠j):m+3<=n\/n+3<=m:=by
 refine e1a0 (bp h1) λhi e1=>?_;refine e1a0 (bp h2) λhj e2=>?_;rcases Nat.lt_or_gt_of_ne e with q | q
 . left;refine e1▸e2▸?_;exact List.pairwise_iff_getElem.mp h i j hi hj q
 . right;rw [<-e1,<-e2];exact List.pairwise_iff_getElem.mp h j i hj hi q
theorem vE.u5 {lo:Nat}(h:vE H cN lo ns ah)(h1:ns[i]?=some n)(h2:ah[i]?=some y)(np:Int) :
 vE (H.set (n+1) (.slots cN n [some (.int y.1),some (.int np),some (.ref (n+2))])) cN lo ns (ah.set i (y.1,np,y.2.2)):=by
 refine ⟨by simp [h.len],λj m z e1 e2=>?_,h.low,h.gap⟩;obtain L:=h.at_ i n y h1 h2;by_cases e:i=j
 . subst e;refine (aX (aF (af h1) e1))▸?_;refine (aX (aF (af (gL (bp h2).1)) e2))▸?_;obtain this:=L.lt;exact ⟨by rw [aU mA];exact L.dict,by rw [gL (dm this)],by rw [aU sj];exact L.list⟩
 . rw [aU e] at e2;obtain g:=BS h.gap h1 e1 e;exact (h.at_ j m z e1 e2).set _ (zS g) (zU g) (zV g)
theorem vE.Ic {lo:Nat}(h:vE H cN lo ns ah)(h1:ns[i]?=some n)(h2:ah[i]?=some y)(sc:List Int) :
 vE (H.set (n+2) (.list (sc.map .int))) cN lo ns (ah.set i (y.1,y.2.1,sc)):=by
 refine ⟨by simp [h.len],λj m z e1 e2=>?_,h.low,h.gap⟩;obtain L:=h.at_ i n y h1 h2;by_cases e:i=j
 . subst e;refine (aX (aF (af h1) e1))▸?_;refine (aX (aF (af (gL (bp h2).1)) e2))▸?_;obtain this:=L.lt;exact ⟨by rw [aU mB];exact L.dict,by rw [aU mC];exact L.slots,by rw [gL this]⟩
 . rw [aU e] at e2;obtain g:=BS h.gap h1 e1 e;exact (h.at_ j m z e1 e2).set _ (zW g) (zX g) (zY g)
section
variable {a:ql}
theorem SB.u5 (h:SB H a d ns ah)(h1:ns[i]?=some n)(h2:ah[i]?=some y)(np:Int) :
 SB (H.set (n+1) (.slots a.cN n [some (.int y.1),some (.int np),some (.ref (n+2))])) a d ns (ah.set i (y.1,np,y.2.2)):=by
 obtain lo:=h.nodes.low n (bJ h1);exact ⟨by rw [aU (t8 lo)];exact h.inst,by rw [aU (t7 lo)];exact h.dict,by rw [aU (dP (Nat.le.step lo)),nR (y':=(y.1,np,y.2.2)) h2 rfl];exact h.tab,h.nodes.u5 h1 h2 np,by rw [lz (y':=(y.1,np,y.2.2)) h2 rfl];exact h.names⟩
theorem SB.Ic (h:SB H a d ns ah)(h1:ns[i]?=some n)(h2:ah[i]?=some y)(sc:List Int) :
 SB (H.set (n+2) (.list (sc.map .int))) a d ns (ah.set i (y.1,y.2.1,sc)):=by
 obtain lo:=h.nodes.low n (bJ h1);exact ⟨by rw [aU (zR lo)];exact h.inst,by rw [aU (dP (dO (Nat.lt_of_succ_lt (Nat.lt_of_succ_lt lo)) (b8 _ 2)))];exact h.dict,by rw [aU (dP (dO lo (b8 _ 2))),nR (y':=(y.1,y.2.1,sc)) h2 rfl];exact h.tab,h.nodes.Ic h1 h2 sc,by rw [lz (y':=(y.1,y.2.1,sc)) h2 rfl];exact h.names⟩
theorem l8 (ah:List Nd)(x:Int):(bA ah x).length<=ah.length+1:=by delta bA;split <;> simp
theorem nj (x:Int):∀(bN:List Int) (ah:List Nd),(b7 ah x bN).length<=ah.length+bN.length:=by
 intro bN;induction bN with
 | nil =>intro ah;simp [b7]
 | cons p l ih =>
   intro ah;obtain this:=ih (dD (bA ah p) p x);obtain h2:=l8 ah p;obtain e:b7 ah x (p::l)=b7 (dD (bA ah p) p x) x l:=rfl;obtain e3:(dD (bA ah p) p x).length=(bA ah p).length:=by simp [dD]
   skip;simp;exact (ct this (e3▸Nat.succ_add_eq_add_succ _ _▸Nat.add_le_add_right h2 _))
def lK (lo:Nat)(ns rm:aS):Prop:=∃r,rm=ns++r/\∀m∈r,lo<=m
theorem lK.refl (lo:Nat)(ns:aS):lK lo ns ns:=(ae [] (by simp) (by simp))
theorem lK.trans {lo lo':Nat}(x:lK lo ns rm)(y:lK lo' rm Wk)(h:lo<=lo'):lK lo ns Wk:=by refine e1a1 x λr o2 h1=>?_;clear x;obtain rfl:=o2;refine e1a1 y λr' o1 h2=>?_;clear y;obtain rfl:=o1;exact (ae (r++r') (by simp) (λm hm=>(bX hm).elim (h1 m) λq=>ct h (h2 m q)))
end
section
variable {c:aP}{mg mb:dZ}{Kf:Frag}{a:ql}
theorem SB.slot (h:SB H a d ns ah){i n:Nat}(h1:ns[i]?=some n)(h2:ah[i]?=some y)(lc:dI) :
 m8 ⟨lc,H⟩ (n+1) n a.cN [some (.int y.1),some (.int y.2.1),some (.ref (n+2))] :=
 (yp (.inr (h.nodes.at_ i n y h1 h2).slots) [] ((h.nodes.at_ i n y h1 h2).dict))
theorem Ext.set (j:Nat)(o:AO)(h:P j):Ext H (H.set j o) P :=
 ⟨by simp,λi hi n=>by rw [aU];intro e;clear hi;subst e;exact n h⟩
theorem nq {ah:List Nd}(hn:(ah.map (·.1)).Nodup)(h:ah[i]?=some y)(hx:y.1=x)(f:Nd->Nd):(ah.map λp=>if p.1=x then f p else p)=ah.set i (f y):=by subst hx;exact Ib hn h f
def eg (ah:List Nd)(m:Nat):Prop:=∀y∈ah,y.2.2.length<=m
theorem eg.bA {ah:List Nd}{m:Nat}(h:eg ah m)(x:Int):eg (bA ah x) m:=by
 delta Mine.Internal.bA
 split
 . exact h
 . intro y hy
   (refine bh (bX hy) (λq=>?_) (λq=>?_))
   . exact h y q
   . refine rE (bD q) ?_;simp
theorem eg.bump {ah:List Nd}{m:Nat}(h:eg ah m)(x:Int)(k:Int):eg (bump ah x k) m:=by
 intro y hy;refine e1a1 (fy hy) λz hz o6=>?_;refine o6▸?_
 split
 . exact h z hz
 . exact h z hz
theorem eg.succ (h:eg ah m)(p x:Int):eg (dD ah p x) (m+1):=by
 intro y hy;refine e1a1 (fy hy) λz hz o5=>?_;refine o5▸?_
 split
 . simpa using h z hz
 . exact Nat.le_succ_of_le (h z hz)
theorem rn (ah:List Nd)(x:Int)(l:List Int)(p:Int):b7 ah x (l++[p])=dD (bA (b7 ah x l) p) p x:=by simp [b7]
theorem eg.bN (l:List Int)(h:eg ah m):eg (b7 ah x l) (m+l.length):=by
 induction l generalizing ah m with
 | nil=>exact h
 | cons p l ih =>obtain this:=ih ((h.bA p).succ p x);rw [Nat.add_assoc,Nat.add_comm 1] at this;exact this
theorem Ext.then (x:Ext H H' P)(hl:H'.length<=Q8.length)(h:∀j,j < H.length->¬P j->Q8[j]?=H'[j]?):Ext H Q8 P :=
 ⟨ct x.le hl,λj hj n=>(h j hj n).trans (x.same j hj n)⟩
theorem aW.put (h:aW S L)(hi:L.all (λp=>p.1 != i)=true):aW (S.put i v) (L++[(i,v)]):=by
 induction L with
 | nil=>exact ⟨by show (a7 S.loc i v).lookup i=_;rw [au];simp,trivial⟩
 | cons p L ih =>simp only [List.all_cons,eZ,bne_iff_ne] at hi;refine ⟨?_,ih h.2 hi.2⟩;rw [au,if_neg hi.1];exact h.1
def Ie (ps:Arguments)(dV:Value)(ns:a8)(x:Str):Prop:=∀fd us,Each ns.length λrs=>bindArgs (fdOf fd ps dV) ⟨rs++us,[]⟩=(do let t <-newTuple us;pure (ns.zip rs++[(x,t)]))
theorem gy.FL (B:Base c mg mb)(F:gy c fa f dV){K:AV->aI->Prop}(names:a8)(x:Str)(args xs:bW)(vars:a8)(lc:dI)
 (hb:Ie f.params dV names x) (hlen:args.length=names.length) (hsz:xs.length<=sizeLine) (DY:cX 0 (names.zip args++[(x,.tup xs)]) []=lc) (fw:tj f (names++[x]) vars=true)
 (h:∀env own frames,Stores (l5 f env own frames n vars)->fU (l5 f env own frames n vars) ->
  Ex c (l5 f env own frames n vars) f.body ⟨lc,H⟩ (Au K) dT):bC c (n+1) (.ref fa) (args++xs) H K :=
 gy.call B F (names.zip args++[(x,.tup xs)]) (names++[x]) vars lc (λfd h1 h2 h3=>mJ.star names x hlen hsz λrs us e=>by refine (xe h1 h2 h3)▸?_;exact (hb fd us).all rs e) DY (by rw [List.map_append,List.map_fst_zip (Nat.le_of_eq hlen.symm)];rfl) fw h
inductive PT (H:aI)(a:ql)(d:Nat)(ns:aS)(Wl:List Nd)(H':aI):Prop
 | mk (rm:aS) (h1:SB H' a d rm Wl) (h2:Ext H H' (xI d ns)) (h3:lK H.length ns rm)
theorem Ig (W:tD c mg mb Kf a)(nQ:dp mg mb "len" (.builtin "len"))(hs:SB H a d ns ah)(x:Int)(bN:List Int)(n:Nat)(hlen:ah.length+bN.length < 900)(GT:eg ah sl)(Wm:sl+bN.length < 900) :
 bC c (n+4) (.ref a.add) ([.ref (d+1),.int x]++bN.map .int) H (λv H'=>v=.none/\PT H a d ns (dF ah x bN) H'):=by
 refine W.add.FL W.B.toBase ["self","node"] "predecessors" [.ref (d+1),.int x] (bN.map .int) ["self","node","predecessors","nodeinfo","pred","pred_info"] [(0,.ref (d+1)),(1,.int x),(2,.tup (bN.map .int))] (λzz us zz zz=>by cases us <;> rfl) rfl (by simp [sizeLine];exact lU (dX (Nat.le_add_left ..) hlen) rfl) rfl (by decide +kernel) λenv own frames be jQ=>?_
 . have hI:∀lc,fT ⟨lc,H⟩ (d+1) d a.cS _:=λlc=>⟨hs.inst,hs.dict⟩
   refine ab (bz (aL (bc (aa 0 rfl rfl (br W.B a.cS (ar W.a2).2.2 (ar W.a2).2.1 (hI _) rfl (by simp) (eU (lZ (aD ?_))))))));refine aq ?_;refine ab (aj (cT W.B a.cS a.info W.BN rfl (n:=n+3) (aZ _) (aa 0 rfl rfl ⟨d+1,d,_,rfl,hI _,rfl,ak (aa 1 rfl rfl ((xJ W hs x n (mw (dX (b8 ..) hlen) rfl)).mono ?_))⟩)));intro v l9 o1;refine e4a0 o1 λFM i nn y o8=>?_;clear o1;refine e0a6 o8 λfh hy I3 LT t0 M2 No=>?_;clear o8;obtain rfl:=t0;refine ag 3 rfl (be 3 _ rfl) ?_;have aae:=fh.nodes.at_ i nn y LT hy;refine ab (fG (aa 3 rfl rfl (eC W.B a.cN W.slots.2.1 (fh.slot LT hy _) rfl (by simp) (bU (.builtin "len") (bM W.B.toBase (rfl) nQ.1 nQ.2 ⟨rfl,ak (aa 2 rfl rfl (BR (by simp;exact mw (dX (Nat.le_add_left ..) hlen) rfl) (gj ?_)))⟩)))));refine gb W.B a.cN W.slots.2.1 mz (fh.slot LT hy _) ?_;have bG:=fh.u5 LT hy (y.2.1+((bN.map AV.int).length:Int));have e2:(bA ah x).set i (y.1,y.2.1+((bN.map AV.int).length:Int),y.2.2)=bump (bA ah x) x bN.length:=by unfold bump;rw [nq fh.names hy I3 (λp=>(p.1,p.2.1+(bN.length:Int),p.2.2))];simp
   rw [e2] at bG;have BT:lK H.length ns FM:=by
    rcases No with rfl | rfl
    . exact .refl ..
    . exact (ae [H.length] rfl (by simp))
   have hd2:d+2 < H.length:=(bp hs.tab).1;have ft:∀{rm:aS} {m:Nat},lK H.length ns rm->m∈rm->∀j,j < H.length->(j=m+1\/j=m+2)->xI d ns j:=λFN hm j hj q=>by
    refine e1a1 FN λr e hr=>?_;clear FN;subst e;rcases bX hm with w | w
    . exact .inr (.inr (ae _ w q))
    . have:=hr _ w;exact (z1 hj q this).elim
   have FO:Ext H (l9.set (nn+1) (.slots a.cN nn [some (.int y.1),some (.int (y.2.1+((bN.map AV.int).length:Int))),some (.ref (nn+2))])) (xI d ns):=by refine (M2.mono λj zz e=>.inr (.inl e)).then (by simp) λj hj HV=>?_;rw [aU];intro e;exact HV (ft BT (bJ LT) j hj (.inl e.symm))
   have FP:eg (bump (bA ah x) x bN.length) sl:=(GT.bA x).bump x _;have BU:(bump (bA ah x) x bN.length).length<=ah.length+1:=by have:=l8 ah x;simpa [bump] using this
   generalize Ok:l9.set (nn+1) (.slots a.cN nn [some (.int y.1),some (.int (y.2.1+((bN.map AV.int).length:Int))),some (.ref (nn+2))])=tz at bG FO;have Id:l9.set (nn+1) (.slots a.cN nn (il [some (.int y.1),some (.int y.2.1),some (.ref (nn+2))] 1 (.int (y.2.1+((bN.map AV.int).length:Int)))))=tz:=Ok;rw [Id];generalize ib:bump (bA ah x) x bN.length=base at bG FP BU;refine ab (d8 rfl (kh (aa 2 rfl rfl (ae _ rfl ?_))));refine ⟨λj S'=>aW S' [(0,.ref (d+1)),(1,.int x),(2,.tup (bN.map .int))]/\PT H a d ns (b7 base x (bN.take j)) S'.heap,⟨(aW.of rfl),FM,bG,FO,BT⟩,λzz zz zz=>trivial,?_,?_⟩
   . intro j v S' hj o2;obtain ⟨hL,rm,db,t4,Q9⟩:=o2;rw [cj] at hj;cases hp:bN[j]? with
     | none=>rw [hp] at hj;cases hj
     | some p =>
       rw [hp] at hj;cases hj;have hjl:j < bN.length:=(bp hp).1;have A5:bN.take (j+1)=bN.take j++[p]:=by rw [List.take_add_one,hp];rfl
       have zE:=nj x (bN.take j) base;have Yz:=eg.bN (x:=x) (bN.take j) FP;rw [List.length_take] at zE Yz;refine ag 4 rfl (be 4 _ rfl) (bV _ (hL.put (i:=4) (v:=.int p) (rfl)) ?_);show Ex c _ _ ⟨[(0,.ref (d+1)),(1,.int x),(2,.tup (bN.map .int)),(4,.int p)],S'.heap⟩ _ dT;generalize YA:S'.heap=H' at db t4;refine ab (aj (cT W.B a.cS a.info W.BN rfl (n:=n+3) (aZ _) (aa 0 rfl rfl ⟨d+1,d,_,rfl,⟨db.inst,db.dict⟩,rfl,ak (aa 4 rfl rfl ((xJ W db p n (mw (dX (ct zE (Nat.add_le_add BU (Nat.min_le_right _ _))) (Nat.succ_add _ _▸Nat.succ_lt_succ hlen:_+1+_ < 901)) rfl)).mono ?_))⟩)));intro v yW o3;refine e4a0 o3 λFQ Wn Wo Bq o7=>?_;clear o3;refine e0a6 o7 λkf oJ Ih u6 o9 FR On=>?_;clear o7;obtain rfl:=o9;have BV:lK H.length ns FQ:=by
        refine Q9.trans (lo':=H'.length) ?_ t4.le;clear u6 kf db Q9;rcases On with rfl | rfl
        . exact .refl ..
        . exact (ae [H'.length] rfl (by simp))
       refine ag 5 rfl (be 5 _ rfl) ?_;have Op:=kf.nodes.at_ Wn Wo Bq u6 oJ;have Os:Bq.2.2.length<=sl+bN.length:=by have:=(Yz.bA p) Bq (bJ oJ);exact ct this (jR (Nat.min_le_right ..) _)
       refine ab (bw (bT "list" "list.append" PySem.F.plainAttrs_list PySem.F.slot_list_append PySem.F.type_list_append (bc (aa 5 rfl rfl (eC W.B a.cN W.slots.2.2 (kf.slot u6 oJ _) rfl (by simp) ⟨fB Op.list rfl,ak (aa 1 rfl rfl (dK Op.list (by simp [sizeLine];exact lU (dX Os Wm) rfl) ?_))⟩)))) (rfl));refine aq ⟨(aW.of rfl),FQ,?_,?_,BV⟩
       . have pN:=kf.Ic u6 oJ (Bq.2.2++[x]);rw [A5,rn];unfold dD;rw [nq kf.names oJ Ih (λq=>(q.1,q.2.1,q.2.2++[x]))];rw [ints_snoc];exact pN
       . refine (t4.then FR.le λj hj HV=>FR.same j (dO hj t4.le) λe=>HV (.inr (.inl e))).then (by simp) λj hj HV=>?_;rw [aU];intro e;exact HV (ft BV (bJ u6) j hj (.inr e.symm))
   . intro S' o4;obtain ⟨hL,rm,db,t4,Q9⟩:=o4;rw [qL,List.take_length] at db;refine aq ⟨rfl,rm,?_,t4,Q9⟩;unfold dF;rw [ib];exact db
end
structure Fm where
 x:Int
 k:Nat
 i:Nat
 p:Nat
noncomputable def bY (ah:List Nd)(x:Int):List Int:=((ah.find? λy=>y.1=x).map (·.2.2)).getD []
theorem jd (hn:(ah.map (·.1)).Nodup)(h:y∈ah):bY ah y.1=y.2.2:=by
 induction ah with
 | nil=>exact absurd h List.not_mem_nil
 | cons z l ih =>
   have gM:=List.nodup_cons.mp (by exact hn:(z.1::l.map (·.1)).Nodup)
   (refine bh (er h) (λe=>?_) (λh=>?_))
   . clear gM h;clear hn;subst e;simp [bY]
   . have co:z.1≠y.1:=λe=>gM.1 (by simp only [e];exact eK (ae y h rfl));obtain this:=ih gM.2 h;simp only [bY,List.find?_cons,co,decide_false] at this ⊢;exact this
noncomputable abbrev nextOf (k:Nat):AV:=.bm "method-wrapper" (.builtin "list_iterator.__next__") (.ref k)
noncomputable abbrev ma (fs:List Fm):AO:=.list (fs.map λf=>.int f.x)
noncomputable abbrev wA (fs:List Fm):AO:=.list (fs.map λf=>nextOf f.k)
noncomputable abbrev wB (fs:List Fm):AO:=.bt (fs.zipIdx.map λp=>(p.1.x,.int p.2))
noncomputable abbrev oN (x:Int)(k p:Nat):Fm:=⟨x,k,0,p⟩
structure Cy (H:aI)(ah:List Nd)(rk:Int->Nat)(fs:List Fm)(sn:List Int)(S':aI):Prop where
 ext:Ext H S' (λzz=>False)
 stack:S'[H.length]?=some (ma fs)
 oV:S'[H.length+1]?=some (wA fs)
 seen:S'[H.length+2]?=some (.i5 sn)
 idx:S'[H.length+3]?=some (wB fs)
 it:∀f∈fs,H.length+4<=f.k/\S'[f.k]?=some (.gu (.ref (f.p+2)) f.i)/\f.p+2 < H.length/\H[f.p+2]?=some (.list ((bY ah f.x).map .int))/\f.i<=(bY ah f.x).length/\f.x∈ah.map (·.1)
 ks:(fs.map (·.k)).Nodup
 u7:(fs.map λf=>rk f.x).Pairwise (· < ·)
 sub:∀f∈fs,f.x∈sn
 names:∀x∈sn,x∈ah.map (·.1)
 snd:sn.Nodup
noncomputable def ip (ah:List Nd)(sn:List Int):Nat:=(ah.map λy=>if y.1∈sn then 0 else 2+y.2.2.length).sum
noncomputable def qo (ah:List Nd)(fs:List Fm):Nat:=(fs.map λf=>1+((bY ah f.x).length - f.i)).sum
theorem wC (hn:(ah.map (·.1)).Nodup)(h:y∈ah)(hy:y.1∉sn):ip ah (sn++[y.1])+(2+y.2.2.length)=ip ah sn:=by
 have same:∀(l:List Nd),y.1∉l.map (·.1)->ip l (sn++[y.1])=ip l sn:=by intro l hl;delta ip;congr 1;apply List.map_congr_left;intro z hz;obtain co:z.1≠y.1:=λe=>hl (by simp only [<-e];exact eK (ae z hz rfl));simp [co]
 induction ah with
 | nil=>exact absurd h List.not_mem_nil
 | cons z l ih =>
   have gM:=List.nodup_cons.mp (by exact hn:(z.1::l.map (·.1)).Nodup);obtain e1:∀Ra,ip (z::l) Ra=(if z.1∈Ra then 0 else 2+z.2.2.length)+ip l Ra:=λRa=>rfl;simp only [e1,e1]
   (refine bh (er h) (λe=>?_) (λh=>?_))
   . clear e1 h hn;subst e;simp only [same l gM.1];simp [hy];exact Nat.add_comm ..
   . obtain co:z.1≠y.1:=λe=>gM.1 (by simp only [e];exact eK (ae y h rfl));obtain this:=ih gM.2 h;obtain e2:(z.1∈sn++[y.1])=(z.1∈sn):=by simp [co]
     simp only [e2];exact (this▸Nat.add_assoc _ _ (2+_))
theorem Ext.app (x:Ext H H' P):Ext H (H'++l) P :=
 ⟨by obtain this:=x.le;simp;exact ct this (b8 _ _),λj hj n=>by rw [et (dO hj x.le)];exact x.same j hj n⟩
theorem Ext.iJ (x:Ext H H' P)(hj:H.length<=j)(o:AO):Ext H (H'.set j o) P :=
 ⟨by obtain this:=x.le;simpa using this,λi hi n=>by rw [aU (dP (dO hi hj))];exact x.same i hi n⟩
section
variable {c:aP}{mg mb:dZ}{Kf:Frag}{a:ql}
theorem Cy.push (h:Cy H ah rk fs sn S')(hn:(ah.map (·.1)).Nodup)(hy:y∈ah)(hs:y.1∉sn)(hp:H[p+2]?=some (.list (y.2.2.map .int)))(hr:∀f∈fs,rk f.x < rk y.1) :
 Cy H ah rk (fs++[oN y.1 S'.length p]) (sn++[y.1])
  (((((S'.set (H.length+2) (AO.i5 (sn++[y.1])))++[AO.gu (.ref (p+2)) 0]).set (H.length+1) (wA (fs++[oN y.1 S'.length p]))).set (H.length+3) (wB (fs++[oN y.1 S'.length p]))).set H.length (ma (fs++[oN y.1 S'.length p]))):=by
 obtain l3:H.length+3 < S'.length:=(bp h.idx).1;obtain CY:=jd hn hy;refine ⟨?_,?_,?_,?_,?_,?_,?_,?_,?_,?_,?_⟩
 . exact ((((h.ext.iJ pf _).app).iJ arith2 _).iJ sD _).iJ (aZ _) _
 . rw [gL (by simp;exact Nat.lt_succ_of_le (ct (b8 _ 4) l3))]
 . rw [aU jf,aU sA,gL (by simp;exact mF l3)]
 . rw [aU pe,aU (dP Nat.le.refl),aU sj,et (by simp;exact dm l3),gL (dm l3)]
 . rw [aU (cA (Nat.lt_succ_of_le (b8 _ 2))),gL (by simp;exact Nat.le.step l3)]
 . intro f hf;rcases bX hf with q | q
   . refine e0a2 (h.it f q) λh1 h2 h3=>?_;refine (aH h1 ?_ h3);obtain gX:f.k < S'.length:=(bp h2).1;rw [aU (ub h1),aU (cA h1),aU (ua h1),et (by simpa using gX),aU (cA (dm h1))];exact h2
   . rw [bD q];refine (jh (by assumption) ?_ ((bp hp).1) (by rw [CY];exact hp) (Nat.zero_le _) (eK (ae y hy rfl)));simp only;rw [aU (cA (dX (b8 _ 3) l3)),aU (cA l3),aU (zP l3),gn (by simp)];simp
 . rw [List.map_append,List.nodup_append];refine (aH h.ks (by simp) (λu hu v hv=>?_));refine e1a1 (fy hu) λf hf o2=>?_;obtain rfl:=o2;simp at hv;subst hv;obtain this:=(bp (h.it f hf).2.1).1;exact cA this
 . rw [List.map_append,List.pairwise_append];refine (aH h.u7 (by simp) (λu hu v hv=>?_));refine e1a1 (fy hu) λf hf o1=>?_;obtain rfl:=o1;simp at hv;subst hv;exact hr f hf
 . intro f hf;rcases bX hf with q | q
   . exact eo (.inl (h.sub f q))
   . rw [bD q];simp
 . intro x hx;rcases bX hx with q | q
   . exact h.names x q
   . simp only [bD q];exact eK (ae y hy rfl)
 . rw [List.nodup_append];exact (aH h.snd (by simp) (λu hu v hv=>by rw [bD hv];exact λe=>hs (e▸hu)))
theorem Cy.step (h:Cy H ah rk (fs++[f]) sn S')(hi:f.i < (bY ah f.x).length) :
 Cy H ah rk (fs++[{f with i:=f.i+1}]) sn (S'.set f.k (.gu (.ref (f.p+2)) (f.i+1))):=by
 refine e0a5 (h.it f (by simp)) λg1 g2 g3 g4 g5 g6=>?_;obtain gX:f.k < S'.length:=(bp g2).1;obtain hm:∀{β:Type} (φ:Fm->β),φ {f with i:=f.i+1}=φ f->(fs++[{f with i:=f.i+1}]).map φ=(fs++[f]).map φ:=λφ e=>by simp [e]
 obtain hz:wB (fs++[{f with i:=f.i+1}])=wB (fs++[f]):=by simp [wB,List.zipIdx_append]
 obtain hz1:ma (fs++[{f with i:=f.i+1}])=ma (fs++[f]):=by simp [ma]
 obtain hz2:wA (fs++[{f with i:=f.i+1}])=wA (fs++[f]):=by simp [wA]
 refine ⟨h.ext.iJ (Nat.le_of_add_right_le g1) _,?_,?_,?_,?_,?_,?_,?_,?_,h.names,h.snd⟩
 . refine rE (aU (sF g1)) ?_;rw [hz1];exact h.stack
 . refine rE (aU (sG g1)) ?_;rw [hz2];exact h.oV
 . refine rE (aU (dP (dm g1))) ?_;exact h.seen
 . refine rE (aU (dP g1)) ?_;rw [hz];exact h.idx
 . intro e he;rcases bX he with q | q
   . refine e0a2 (h.it e (eo (.inl q))) λh1 h2 h3=>?_;refine (aH h1 ?_ h3);obtain co:f.k≠e.k:=λw=>by obtain this:=h.ks;rw [List.map_append,List.nodup_append] at this;exact this.2.2 e.k (eK (ae e q rfl)) f.k (by simp) w.symm
     refine rE (aU co) ?_;exact h2
   . rw [bD q];exact (jh g1 (by simp only;rw [gL gX]) g3 g4 hi g6)
 . simp only [hm (λf=>f.k) rfl];exact h.ks
 . simp only [hm (λf=>rk f.x) rfl];exact h.u7
 . intro e he;rcases bX he with q | q
   . exact h.sub e (eo (.inl q))
   . rw [bD q];exact h.sub f (by simp)
theorem yX {l:List (Int×AV)}(h:x∉l.map (·.1)):vU (l++[(x,v)]) x=l:=by
 delta vU;rw [List.filter_append];obtain this:l.filter (λkv=>decide (kv.1≠x))=l:=by rw [List.filter_eq_self];intro p hp;simp only [decide_eq_true_eq];exact λe=>h (by rw [<-e];exact eK (ae p hp rfl))
 simp only [this];simp
theorem Cy.PU (h:Cy H ah rk fs sn S'):(fs.map (·.x)).Nodup:=by
 obtain this:=h.u7;rw [List.pairwise_map] at this;rw [List.nodup_iff_pairwise_ne,List.pairwise_map];exact this.imp λ{u v} q e=>by rw [e] at q;exact absurd q (Nat.lt_irrefl _)
theorem Cy.pop (h:Cy H ah rk (fs++[f]) sn S') :
 Cy H ah rk fs sn ((((S'.set f.k .gone).set H.length (ma fs)).set (H.length+3) (wB fs)).set (H.length+1) (wA fs)):=by
 refine e0a2 (h.it f (by simp)) λg1 g2 zz=>?_;obtain l3:H.length+3 < S'.length:=(bp h.idx).1;refine ⟨?_,?_,?_,?_,?_,?_,?_,?_,?_,h.names,h.snd⟩
 . exact (((h.ext.iJ (Nat.le_of_add_right_le g1) _).iJ (aZ _) _).iJ sD _).iJ arith2 _
 . rw [aU mA,aU su,gL (by simp;exact mF l3)]
 . rw [gL (by simp;exact dm (dm l3))]
 . rw [aU sj,aU (dP Nat.le.refl),aU pe,aU (dP (dm g1))];exact h.seen
 . rw [aU (cA (dm Nat.le.refl)),gL (by simp;exact l3)]
 . intro e he;refine e0a2 (h.it e (eo (.inl he))) λh1 h2 h3=>?_;obtain co:f.k≠e.k:=λw=>by obtain this:=h.ks;rw [List.map_append,List.nodup_append] at this;exact this.2.2 e.k (eK (ae e he rfl)) f.k (by simp) w.symm
   refine (aH h1 ?_ h3);rw [aU (ua h1),aU (cA h1),aU (ub h1),aU co];exact h2
 . obtain this:=h.ks;rw [List.map_append,List.nodup_append] at this;exact this.1
 . obtain this:=h.u7;rw [List.map_append,List.pairwise_append] at this;exact this.1
 . exact λe he=>h.sub e (eo (.inl he))
end
theorem lL {fs:List Fm}(h:∀f∈fs,f.x≠x):b9 (fs.zipIdx.map λp=>(p.1.x,AV.int p.2)) x=none:=by
 delta b9;rw [List.find?_eq_none.mpr]
 . rfl
 . intro p hp;refine e1a1 (fy hp) λq hq o9=>?_;refine o9▸?_;simp only [decide_eq_true_eq];exact h q.1 (by obtain this:=List.mem_zipIdx' hq;rw [this.2];exact List.getElem_mem _)
theorem nS (ah:List Nd)(fs:List Fm)(f:Fm):qo ah (fs++[f])=qo ah fs+(1+((bY ah f.x).length - f.i)):=by simp [qo]
theorem u9 (fs:List Fm)(f:Fm):(fs++[f]).zipIdx.map (λp=>(p.1.x,AV.int p.2))=fs.zipIdx.map (λp=>(p.1.x,AV.int p.2))++[(f.x,.int fs.length)]:=by simp [List.zipIdx_append]
noncomputable def En:eD:=(jq (jq nh.body 5) 1).drop 1
section
variable {c:aP}{mg mb:dZ}{Kf:Frag}{a:ql}
inductive PV (H:aI)(d:Nat)(ns:aS)(ah:List Nd)(rk:Int->Nat)(m:Nat)(S:AS):Prop
 | mk (x:Int) (fs:List Fm) (sn:List Int) (hL:aW S [(0,.ref (d+1)),(1,.cV (tabOf ns ah)),(2,.ref H.length),(3,.ref (H.length+1)),(4,.ref (H.length+2)),(5,.ref (H.length+3)),(6,.int x)]) (cy:Cy H ah rk fs sn S.heap) (hx:x∈ah.map (·.1)) (hr:∀f∈fs,rk f.x < rk x) (e:m=ip ah sn+qo ah fs)
inductive Wq (H:aI)(d:Nat)(ns:aS)(ah:List Nd)(rk:Int->Nat)(Φ:Nat)(m:Nat)(S:AS):Prop
 | mk (fs:List Fm) (sn:List Int) (hL:aW S [(0,.ref (d+1)),(1,.cV (tabOf ns ah)),(2,.ref H.length),(3,.ref (H.length+1)),(4,.ref (H.length+2)),(5,.ref (H.length+3))]) (cy:Cy H ah rk fs sn S.heap) (Eo:ip ah sn+qo ah fs<=Φ) (e:m=fs.length)
inductive PW (H:aI)(d:Nat)(ns:aS)(ah:List Nd)(rk:Int->Nat)(S:AS):Prop
 | mk (hL:aW S [(0,.ref (d+1)),(1,.cV (tabOf ns ah)),(2,.ref H.length),(3,.ref (H.length+1)),(4,.ref (H.length+2)),(5,.ref (H.length+3))]) (sn:List Int) (cy:Cy H ah rk [] sn S.heap)
@[reducible] def Wr (H:aI) (d:Nat) (ns:aS) (ah:List Nd) (rk:Int->Nat) (Φ:Nat):gw:=λfl S=>match fl with
 | .next=>pV (PV H d ns ah rk) Φ S
 | .brk=>PW H d ns ah rk S
 | _=>False
theorem BW (W:tD c mg mb Kf a)(nQ:dp mg mb "set" (.type "set"))(wf:dp mg mb "iter" (.builtin "iter"))(yY:dp mg mb "len" (.builtin "len"))(Rb:dp mg mb "StopIteration" (.type "StopIteration"))
 {H:aI} {d lo:Nat} {rk:Int->Nat} (Pi:H[d+1]?=some (.inst a.cS d)) (Pv:H[d]?=some (.aN kvs)) (hg:b9 kvs "_node2info"=some (.cV (tabOf ns ah)))
 (hN:vE H a.cN lo ns ah) (HB:(ah.map (·.1)).Nodup) (PP:∀y∈ah,∀s∈y.2.2,s∈ah.map (·.1)/\rk y.1 < rk s) (hlen:ah.length < 900) (n:Nat) :
 bC c (n+1) (.ref a.oK) [.ref (d+1)] H (λv H'=>v=.none/\Ext H H' (λzz=>False)):=by
 refine W.oK.gz W.B.toBase ["self"] ["self","n2i","stack","itstack","seen","node2stacki","node"] [(0,.ref (d+1))] (λzz zz=>rfl) rfl rfl (by decide +kernel) λenv own frames be jQ=>?_
 . refine ab (aj (bc (aa 0 rfl rfl (br W.B a.cS (ar W.a1).2.2 (ar W.a1).2.1 ⟨Pi,Pv⟩ hg (by simp) (ag 1 rfl (be 1 _ rfl) ?_)))));refine ab (aj (eA (bI ⟨by simp [sizeLine],ag 2 rfl (be 2 _ rfl) ?_⟩)));refine ab (aj (eA (bI ⟨by simp [sizeLine],ag 3 rfl (be 3 _ rfl) ?_⟩)));refine ab (aj (bU (.type "set") (bM W.B.toBase (by rfl) nQ.1 nQ.2 ⟨rfl,bI (D8 (ag 4 rfl (be 4 _ rfl) ?_))⟩)));refine ab (aj (ly W.B.toBase (ag 5 rfl (be 5 _ rfl) ?_)));have Wp:Cy H ah rk [] [] ((((H++[AO.list []])++[.list []])++[.i5 []])++[.bt []]):=by
    have e:((((H++[AO.list []])++[.list []])++[.i5 []])++[.bt []])=H++[AO.list [],.list [],.i5 [],.bt []]:=by simp
    rw [e];refine ⟨⟨by simp,λj hj zz=>by rw [et hj]⟩,?_,?_,?_,?_,by simp,by simp,by simp,by simp,by simp,by simp⟩
    . rw [gn (aZ _)];simp
    . rw [gn arith2];simp
    . rw [gn pf];simp
    . rw [gn sD];simp
   have Ws:∀x,x∈ah.map (·.1)->∃p y,y∈ah/\y.1=x/\b9 (tabOf ns ah) x=some (.ref (p+1))/\Lk H a.cN p y:=by
    intro x hx;refine e1a1 (fy hx) λy hy o8=>?_;obtain rfl:=o8;obtain ⟨i,hi,e⟩:=List.getElem_of_mem hy;have je:i < ns.length:=by rw [hN.len];exact hi
    have h1:ah[i]?=some y:=by rw [df hi,e]
    have h2:=df je;exact (dA (ns[i]) y hy rfl (iT HB h1 h2) (hN.at_ i _ y h2 h1))
   have IQ:∀{fs:List Fm} {sn:List Int} {S':aI},Cy H ah rk fs sn S'->fs.length<=ah.length/\sn.length<=ah.length:=by intro fs sn S' h;have h2:sn.length<=(ah.map (·.1)).length:=h.snd.length_le_of_subset h.names;have h1:(fs.map (·.x)).length<=sn.length:=h.PU.length_le_of_subset (λx hx=>by refine e1a1 (fy hx) λf hf o7=>?_;obtain rfl:=o7;exact h.sub f hf);simp at h1 h2;exact (⟨ct h1 h2,h2⟩)
   generalize Wt:([(0,.ref (d+1)),(1,.cV (tabOf ns ah)),(2,.ref H.length),(3,.ref (H.length+1)),(4,.ref (H.length+2)),(5,.ref (H.length+3))]:dI)=L0;refine ab (d8 rfl (Bw (aa 1 rfl rfl (ae _ rfl ?_))));refine ⟨λzz=>PW H d ns ah rk,?_,λzz zz zz=>trivial,?_,?_⟩
   . subst Wt;refine ⟨⟨rfl,rfl,rfl,?_,?_,?_,trivial⟩,[],?_⟩
     . simp;rfl
     . simp;rfl
     . simp;rfl
     . exact Wp
   . intro j v S' hj o1;obtain ⟨hL,sn,cy⟩:=o1;rw [cj] at hj;refine e1a1 (nB hj) λq hq e=>?_;subst e;have hx:q.1∈ah.map (·.1):=by have:=bJ hq;unfold tabOf at this;refine e1a1 (fy this) λw hw o6=>?_;obtain rfl:=o6;exact eK (ae w.1 ((List.of_mem_zip hw).1) rfl)
     generalize q.1=x at hx;refine ag 6 rfl (be 6 _ rfl) (bV _ (hL.put (i:=6) (v:=.int x) (by subst Wt;rfl)) ?_);subst Wt;show Ex c _ _ ⟨[(0,.ref (d+1)),(1,.cV (tabOf ns ah)),(2,.ref H.length),(3,.ref (H.length+1)),(4,.ref (H.length+2)),(5,.ref (H.length+3)),(6,.int x)],S'.heap⟩ _ dT;refine ab (bz (aL (aa 6 rfl rfl (aa 4 rfl rfl (xD cy.seen (aD ?_))))));by_cases tx:x∈sn
     . rw [decide_eq_true tx];exact ab (uo ⟨(aW.of rfl),sn,cy⟩)
     rw [decide_eq_false tx];refine aq (ab (lj jQ (PV H d ns ah rk) _ ⟨x,[],sn,(aW.of rfl),cy,hx,by simp,rfl⟩ ?_));clear tx hx hL cy sn x hj hq;intro m ac o2;obtain ⟨x,fs,sn,hL,cy,hx,hr,rfl⟩:=o2;refine fX (kX (aD (bV _ hL ?_)));have u8:=IQ cy;have inner:∀(x:Int) (fs:List Fm) (sn:List Int) (Hc:aI) (Φ:Nat),Cy H ah rk fs sn Hc->ip ah sn+qo ah fs<=Φ ->
      Ex c (l5 nh env own frames n ["self","n2i","stack","itstack","seen","node2stacki","node"]) En
       ⟨[(0,.ref (d+1)),(1,.cV (tabOf ns ah)),(2,.ref H.length),(3,.ref (H.length+1)),(4,.ref (H.length+2)),(5,.ref (H.length+3)),(6,.int x)],Hc⟩
       (Wr H d ns ah rk Φ) dT:=by
      intro x fs sn Hc Φ cy Eo;refine ab (wc jQ (Wq H d ns ah rk Φ) fs.length ⟨fs,sn,(aW.of rfl),cy,Eo,rfl⟩ ?_);clear cy Eo fs sn Hc;intro m aC o3;obtain ⟨fs,sn,hL,cy,Eo,rfl⟩:=o3;have lb:=IQ cy;rcases List.eq_nil_or_concat fs with rfl | ⟨BX,f,rfl⟩
      . refine fX (aa 2 rfl hL.2.2.1 (pw (xs:=[]) (.inr (ae H.length rfl cy.stack)) (by simp) ?_));exact ab (nJ ⟨hL,sn,cy⟩)
      simp only [List.concat_eq_append] at cy Eo lb ⊢;have Ep:aC.heap[H.length]?=some (.list ((BX.map λf=>AV.int f.x)++[.int f.x])):=by have:=cy.stack;simpa [ma] using this
      have oV:aC.heap[H.length+1]?=some (.list ((BX.map λf=>nextOf f.k)++[nextOf f.k])):=by have:=cy.oV;simpa [wA] using this
      have idx:=cy.idx;unfold wB at idx;rw [u9] at idx;refine e0a5 (cy.it f (by simp)) λg1 g2 g3 g4 g5 g6=>?_;have g7:aC.heap[f.p+2]?=some (.list ((bY ah f.x).map .int)):=(cy.ext.same _ g3 id).trans g4;simp only [List.length_append,List.length_singleton] at lb;refine fX (aa 2 rfl hL.2.2.1 (pw (.inr (ae H.length rfl Ep)) (by simp;exact (mw (dX lb.1 hlen) rfl)) ?_));have ne:(!((BX.map λf=>AV.int f.x)++[AV.int f.x]).isEmpty)=true:=by simp
      rw [ne];refine bV _ hL ?_;have cy':=cy;generalize aC.heap=Hc at Ep oV idx g2 g7 cy cy';refine ab (s9 jQ "StopIteration" (by rfl) (by rfl) (by rfl) ?_);refine ab (aj (uS rfl (bq (aa 3 rfl rfl (Jn (av (Gy ⟨bH (.inr (ae _ rfl oV)),sX (.inr (ae _ rfl oV)) (i4 f.k (.ref (f.p+2)) f.i ((bY ah f.x).map .int) rfl g2 (.inr (ae _ rfl g7)) ?_)⟩)))))));rw [cj];cases Rc:(bY ah f.x)[f.i]? with
      | some s =>
        have gX:f.i < (bY ah f.x).length:=(bp Rc).1;refine ag 6 rfl (be 6 _ rfl) (ab (nJ (aq ?_)));refine e1a1 (fy g6) λy hy I3=>?_;have CY:=jd HB hy;rw [I3] at CY;refine e0a1 (PP y hy s (by rw [<-CY];exact bJ Rc)) λk1 k2=>?_;rw [I3] at k2;refine ⟨_,?_,s,BX++[{f with i:=f.i+1}],sn,(aW.of rfl),cy.step gX,k1,λe he=>?_,rfl⟩
        . rw [nS] at Eo ⊢;simp only;exact (dO (hX (hX (hX (Nat.sub_lt_sub_left gX (Nat.lt_succ_self _)) 1) _) _) Eo)
        . rcases bX he with q | q
          . have hp:=cy.u7;rw [List.map_append,List.pairwise_append] at hp;have:=hp.2.2 (rk e.x) (eK (ae e q rfl)) (rk f.x) (by simp);exact Gg this k2
          . rw [bD q];exact k2
      | none =>
        refine ⟨by decide,λe=>bM W.B.toBase (by rfl) Rb.1 Rb.2 ⟨rfl,?_⟩⟩;have l3:H.length+3 < Hc.length:=(bp idx).1;have PU:=cy.PU;rw [List.map_append,List.nodup_append] at PU;have YB:f.x∉(BX.zipIdx.map λp=>(p.1.x,AV.int p.2)).map (·.1):=by intro w;refine e1a1 (fy w) λp hp e=>?_;refine e1a1 (fy hp) λq hq o5=>?_;obtain rfl:=o5;refine PU.2.2 q.1.x (eK (ae q.1 ?_ rfl)) f.x (by simp) e;have:=List.mem_zipIdx' hq;rw [this.2];exact List.getElem_mem _
        refine ab (yP (aa 5 rfl rfl (bT "list" "list.pop" PySem.F.plainAttrs_list PySem.F.slot_list_pop PySem.F.type_list_pop (aa 2 rfl rfl ⟨?_,bI (E9 (xs:=BX.map λf=>AV.int f.x) (y:=.int f.x) ?_ (by simp [sizeLine];exact sN lb hlen) (ji (H.length+3) f.x (BX.zipIdx.map (λp=>(p.1.x,AV.int p.2))++[(f.x,.int BX.length)]) rfl rfl ?_ ?_ ?_ ?_))⟩))))
        . exact fB (o:=.list _) (by rw [aU (sF g1)];exact Ep) rfl
        . rw [aU (sF g1)];exact Ep
        . rw [aU (cA (Nat.lt_succ_of_le (b8 _ 2))),aU (dP g1)];exact idx
        . simp [sizeLine];exact sN lb hlen
        . unfold b9;rw [List.find?_append,List.find?_eq_none.mpr]
          . simp
          . intro p hp;simp only [decide_eq_true_eq];exact λe=>YB (by rw [<-e];exact eK (ae p hp rfl))
        . rw [yX YB];refine ab (bw (bT "list" "list.pop" PySem.F.plainAttrs_list PySem.F.slot_list_pop PySem.F.type_list_pop (aa 3 rfl rfl ⟨?_,bI (E9 (xs:=BX.map λf=>nextOf f.k) (y:=nextOf f.k) ?_ (by simp [sizeLine];exact sN lb hlen) ?_)⟩)) (by rfl))
          . exact fB (o:=.list _) (by rw [aU sA,aU jf,aU (sG g1)];exact oV) rfl
          . rw [aU sA,aU jf,aU (sG g1)];exact oV
          . refine aq (aq ⟨BX.length,by simp,BX,sn,(aW.of rfl),cy.pop,?_,rfl⟩);rw [nS] at Eo;exact (ct (jR (b8 ..) _) Eo)
     refine ab (bz (aL (aa 6 rfl rfl (aa 4 rfl rfl (xD cy.seen (aD ?_))))));by_cases tx:x∈sn
     . rw [decide_eq_true tx];refine ab (bz (aL (aa 6 rfl rfl (aa 5 rfl rfl (tr (.inr (ae _ rfl cy.idx)) (aD ?_))))));rw [lL (λf hf e=>by have:=hr f hf;rw [e] at this;exact absurd this (Nat.lt_irrefl _))];refine aq (aq (pv (inner x fs sn _ _ cy (aZ _)) λfl aC h=>?_));cases fl with
       | next=>exact h
       | brk=>exact aq h
       | cont=>exact h.elim
       | ret v=>exact h.elim
     . rw [decide_eq_false tx];refine e2a3 (Ws x hx) λp y hy I3 BQ lk=>?_;subst I3;have Wu:∀{j:Nat} {o:AO},H[j]?=some o->ac.heap[j]?=some o:=λh=>(cy.ext.same _ (bp h).1 id).trans h;have l3:H.length+3 < ac.heap.length:=(bp cy.idx).1;have PX:=lk.lt;have YC:=cy.push HB hy tx lk.list hr;have hun:=wC HB hy tx;have seen:=cy.seen;have oV:=cy.oV;have Ep:=cy.stack;have idx:=cy.idx;have CY:=jd HB hy;have d0:=Wu lk.dict;have d1:=Wu lk.slots;have d2:=Wu lk.list;generalize ac.heap=Hc at seen oV Ep idx d0 d1 d2 l3 YC cy;refine ab (bw (bT "set" "set.add" PySem.F.plainAttrs_set PySem.F.slot_set_add PySem.F.type_set_add (aa 4 rfl rfl ⟨fB seen rfl,ak (aa 6 rfl rfl (yQ seen (mw (dX u8.2 hlen) rfl) ?_))⟩)) (by rfl));rw [if_neg tx];refine ab (bw (bT "list" "list.append" PySem.F.plainAttrs_list PySem.F.slot_list_append PySem.F.type_list_append (aa 3 rfl rfl ⟨?_,ak (bc (bU (.builtin "iter") (bM W.B.toBase (by rfl) wf.1 wf.2 ⟨rfl,ak (bc (bq (aa 1 rfl rfl (aa 6 rfl rfl ⟨jb (.inl rfl),kB (.inl rfl) BQ (eC W.B a.cN W.slots.2.2 (d:=p) (vs:=[some (.int y.1),some (.int y.2.1),some (.ref (p+2))]) (yp (.inr ?_) [] ?_) rfl (by simp) (DX (xs:=y.2.2.map .int) (.inr (ae (p+2) rfl ?_)) (yK (l:=.ref (p+2)) (i:=0) ?_ (dK (xs:=fs.map λf=>nextOf f.k) ?_ (by simp [sizeLine];exact sR hlen u8) ?_))))⟩))))⟩)))⟩)) (by rfl))
       . exact fB (o:=.list _) (by rw [aU mC];exact oV) rfl
       . rw [aU (dP (dO (Nat.lt_of_succ_lt PX) (b8 _ 2)))];exact d1
       . rw [aU (dP (dO (Nat.lt_of_succ_lt (Nat.lt_of_succ_lt PX)) (b8 _ 2)))];exact d0
       . rw [aU (dP (dO PX (b8 _ 2)))];exact d2
       . rw [gn (aZ _)];simp
       . rw [et (by simp;exact (dm (dm l3))),aU mC];exact oV
       have co:∀f∈fs,f.x≠y.1:=λf hf e=>by have:=hr f hf;rw [e] at this;exact absurd this (Nat.lt_irrefl _)
       have e1:(fs.map λf=>nextOf f.k)++[nextOf (Hc.set (H.length+2) (AO.i5 (sn++[y.1]))).length]=(fs++[oN y.1 Hc.length p]).map λf=>nextOf f.k:=by simp
       have e3:dC (fs.zipIdx.map λp=>(p.1.x,AV.int p.2)) y.1 (.int ((fs.map λf=>AV.int f.x).length:Nat))=(fs++[oN y.1 Hc.length p]).zipIdx.map λp=>(p.1.x,AV.int p.2):=by rw [qm _ (lL co),u9];simp
       have e0:(fs.map λf=>AV.int f.x)++[AV.int y.1]=(fs++[oN y.1 Hc.length p]).map λf=>AV.int f.x:=by simp
       rw [e1];refine ab (aj (bU (.builtin "len") (bM W.B.toBase (by rfl) yY.1 yY.2 ⟨rfl,ak (aa 2 rfl rfl (nM (xs:=fs.map λf=>AV.int f.x) (.inr (ae H.length rfl ?_)) (by simp;exact (mw (dX u8.1 hlen) rfl)) (lr (aa 5 rfl rfl (aa 6 rfl rfl (iZ (H.length+3) y.1 (fs.zipIdx.map (λp=>(p.1.x,AV.int p.2))) rfl rfl ?_ ?_ ?_))))))⟩)))
       . rw [aU mA,et (by simp;exact mF l3),aU mB];exact Ep
       . rw [aU (cA (dm Nat.le.refl)),et (by simp;exact l3),aU (cA Nat.le.refl)];exact idx
       . simp [sizeLine];exact sR hlen u8
       rw [e3];refine ab (bw (bT "list" "list.append" PySem.F.plainAttrs_list PySem.F.slot_list_append PySem.F.type_list_append (aa 2 rfl rfl ⟨?_,ak (aa 6 rfl rfl (dK (xs:=fs.map λf=>AV.int f.x) ?_ (by simp [sizeLine];exact sR hlen u8) ?_))⟩)) (by rfl))
       . exact fB (o:=.list _) (by rw [aU su,aU mA,et (by simp;exact mF l3),aU mB];exact Ep) rfl
       . rw [aU su,aU mA,et (by simp;exact mF l3),aU mB];exact Ep
       rw [e0];refine aq (pv (inner y.1 (fs++[oN y.1 Hc.length p]) (sn++[y.1]) _ (ip ah sn+qo ah fs) YC ?_) λfl aC h=>?_)
       . rw [nS,CY];simp only;exact z3 hun
       cases fl with
       | next=>exact h
       | brk=>exact aq h
       | cont=>exact h.elim
       | ret v=>exact h.elim
   . intro S' o4;obtain ⟨hL,sn,cy⟩:=o4;refine ab (bf (eU ⟨rfl,cy.ext⟩))
end
noncomputable abbrev c7 (ns:aS)(ah:List Nd)(r:Nat)(bg fin:Int):fq :=
 [("_node2info",.cV (tabOf ns ah)),("_ready_nodes",.ref r),("_npassedout",.int bg),("_nfinished",.int fin)]
structure SR (H:aI)(a:ql)(d:Nat)(ns:aS)(ah:List Nd)(r:Nat)(ready:List Int)(bg fin:Int):Prop where
 inst:H[d+1]?=some (.inst a.cS d)
 dict:H[d]?=some (.aN (c7 ns ah r bg fin))
 list:H[r]?=some (.list (ready.map .int))
 nodes:vE H a.cN (d+3) ns ah
 names:(ah.map (·.1)).Nodup
 yZ:d+3<=r
 I4:∀n∈ns,n+3<=r
def fk (d:Nat)(ns:aS)(r:Nat)(j:Nat):Prop:=j=d\/j=d+2\/j=r\/∃n∈ns,j=n+1\/j=n+2
theorem Lk.same (h:Lk H cN n x)(e:∀j,j < H.length->(j=n\/j=n+1\/j=n+2)->H'[j]?=H[j]?):Lk H' cN n x:=by obtain this:=h.lt;exact ⟨(e n (dm (dm this)) (.inl rfl)).trans h.dict,(e (n+1) (dm this) (.inr (.inl rfl))).trans h.slots,(e (n+2) this (.inr (.inr rfl))).trans h.list⟩
theorem vE.same {lo:Nat}(h:vE H cN lo ns ah)(e:∀j,j < H.length->lo<=j->H'[j]?=H[j]?):vE H' cN lo ns ah :=
 ⟨h.len,λi n x h1 h2=>(h.at_ i n x h1 h2).same λj hj q=>e j hj (by obtain this:=h.low n (bJ h1);exact z2 q this),h.low,h.gap⟩
noncomputable def c8 (ah:List Nd):List Int:=(ah.filter λy=>y.2.1==0).map (·.1)
section
variable {c:aP}{mg mb:dZ}{Kf:Frag}{a:ql}
theorem Er (W:tD c mg mb Kf a)(nQ:dp mg mb "set" (.type "set"))(wf:dp mg mb "iter" (.builtin "iter"))(yY:dp mg mb "len" (.builtin "len"))(Rb:dp mg mb "StopIteration" (.type "StopIteration"))
 {rk:Int->Nat} (hs:SB H a d ns ah) (PP:∀y∈ah,∀s∈y.2.2,s∈ah.map (·.1)/\rk y.1 < rk s) (hlen:ah.length < 900) (n:Nat) :
 bC c (n+2) (.ref a.u3) [.ref (d+1)] H (λv H'=>v=.none/\SR H' a d ns ah H.length (c8 ah) 0 0/\Ext H H' (λj=>j=d\/j=d+2)):=by
 refine W.u3.gz W.B.toBase ["self"] ["self","cycle"] [(0,.ref (d+1))] (λzz zz=>rfl) rfl rfl (by decide +kernel) λenv own frames be jQ=>?_
 . have hd2:d+2 < H.length:=(bp hs.tab).1;refine mO (cG.yO d [("_node2info",.cV (tabOf ns ah)),("_ready_nodes",.none),("_npassedout",.int 0),("_nfinished",.int 0)] hs.dict hs.tab pe (vH rfl (.inr ⟨rfl,rfl⟩) rfl (.inl rfl) rfl (.inl rfl) rfl (.inl rfl) trivial)) ?_;have i1:((H.set (d+2) .gone).set d (.aN [("_node2info",.cV (tabOf ns ah)),("_ready_nodes",.none),("_npassedout",.int 0),("_nfinished",.int 0)]))[d+1]?=some (.inst a.cS d):=by rw [aU jf,aU mC];exact hs.inst
   have i2:((H.set (d+2) .gone).set d (.aN [("_node2info",.cV (tabOf ns ah)),("_ready_nodes",.none),("_npassedout",.int 0),("_nfinished",.int 0)]))[d]?=some (.aN [("_node2info",.cV (tabOf ns ah)),("_ready_nodes",.none),("_npassedout",.int 0),("_nfinished",.int 0)]):=by rw [gL (by simp;exact dm (dm hd2))]
   have Wv:vE ((H.set (d+2) .gone).set d (.aN [("_node2info",.cV (tabOf ns ah)),("_ready_nodes",.none),("_npassedout",.int 0),("_nfinished",.int 0)])) a.cN (d+3) ns ah:=hs.nodes.same λj hj hl=>by rw [aU (ph hl),aU (cA hl)]
   have YD:Ext H ((H.set (d+2) .gone).set d (.aN [("_node2info",.cV (tabOf ns ah)),("_ready_nodes",.none),("_npassedout",.int 0),("_nfinished",.int 0)])) (λj=>j=d\/j=d+2) :=
    ⟨by simp,λj hj co=>by rw [aU (λe=>co (.inl e.symm)),aU (λe=>co (.inr e.symm))]⟩
   have y0:((H.set (d+2) .gone).set d (.aN [("_node2info",.cV (tabOf ns ah)),("_ready_nodes",.none),("_npassedout",.int 0),("_nfinished",.int 0)])).length=H.length:=by simp
   generalize (H.set (d+2) .gone).set d (.aN [("_node2info",.cV (tabOf ns ah)),("_ready_nodes",.none),("_npassedout",.int 0),("_nfinished",.int 0)])=l9 at i1 i2 Wv YD y0;refine ab (bz (aL (bc (aa 0 rfl rfl (br W.B a.cS (ar W.a2).2.2 (ar W.a2).2.1 ⟨i1,i2⟩ rfl (by simp) (eU (lZ (aD ?_))))))));refine aq (ab (aj (eW (sc:=tA.scope) ["i"] [] rfl trivial (rfl) (wg (bc (aa 0 rfl rfl (br W.B a.cS (ar W.a1).2.2 (ar W.a1).2.1 ⟨i1,i2⟩ rfl (by simp) (a9 _ rfl trivial (λlv own' dG=>?_)))))))));refine ⟨λi acc S'=>S'=⟨[],l9⟩/\acc=(c8 (ah.take i)).map .int,⟨rfl,rfl⟩,?_,?_,?_⟩
   . intro i acc S' o1;refine e0a1 o1 λt0 rz=>?_;clear o1;obtain rfl:=t0;obtain rfl:=rz;refine ⟨trivial,?_⟩;have:(c8 (ah.take i)).length<=ah.length:=by unfold c8;rw [qL];exact ct (List.length_filter_le _ _) (by simp;exact Nat.min_le_right _ _)
     simp [sizeLine];exact lU (dX this hlen) rfl
   . intro i y acc S' hy o2;refine e0a1 o2 λo8 o9=>?_;clear o2;obtain rfl:=o8;obtain rfl:=o9;obtain ⟨p,nd,h1,h2,rfl⟩:∃p nd,ns[i]?=some p/\ah[i]?=some nd/\y=.ref (p+1):=by rw [cj] at hy;refine e1a1 (nB hy) λq hq e=>?_;unfold tabOf at hq;rw [cj] at hq;refine e1a1 (nB hq) λw hw e2=>?_;refine e0a1 (List.getElem?_zip_eq_some.mp hw) λw1 w2=>?_;clear hy;subst e2 e;exact (ck w.2 w.1 w2 w1 rfl)
     have L:=Wv.at_ i p nd h1 h2;have slot:∀lc,m8 ⟨lc,l9⟩ (p+1) p a.cN [some (.int nd.1),some (.int nd.2.1),some (.ref (p+2))]:=λlc=>(yp (.inr L.slots) [] L.dict)
     have A5:ah.take (i+1)=ah.take i++[nd]:=by rw [List.take_add_one,h2];rfl
     refine ag 0 rfl (dG _ (.inl rfl)) ?_;refine aL (bc (aa 0 rfl rfl (eC W.B a.cN W.slots.2.1 (slot _) rfl (by simp) (av (nG (aD ?_))))));cases hz:nd.2.1==0 with
     | false =>refine (a9 [] trivial rfl ?_);rw [A5];simp [c8,List.filter_append,hz]
     | true =>refine bc (aa 0 rfl rfl (eC W.B a.cN W.slots.1 (slot _) rfl (by simp) (a9 [] trivial rfl ?_)));rw [A5];simp [c8,List.filter_append,hz]
   . intro acc S' o3;refine e0a1 o3 λo6 o7=>?_;clear o3;obtain rfl:=o6;obtain rfl:=o7;refine .inr ?_;have Ii:((tabOf ns ah).map (·.2)).length=ah.length:=by simp [tabOf,hs.nodes.len]
     rw [Ii,List.take_length];refine cg (aa 0 rfl rfl (cP (d:=d) (kvs:=[("_node2info",.cV (tabOf ns ah)),("_ready_nodes",.none),("_npassedout",.int 0),("_nfinished",.int 0)]) W.B a.cS (ar W.a2).1 ⟨fH i1,fH i2⟩ (by simp) ?_));have e1:dC ([("_node2info",.cV (tabOf ns ah)),("_ready_nodes",.none),("_npassedout",.int 0),("_nfinished",.int 0)]:fq) "_ready_nodes" (.ref l9.length)=c7 ns ah H.length 0 0:=by rw [y0];rfl
     rw [e1];have j1:((l9++[AO.list ((c8 ah).map .int)]).set d (.aN (c7 ns ah H.length 0 0)))[d+1]?=some (.inst a.cS d):=by rw [aU jf];exact fH i1
     have j2:((l9++[AO.list ((c8 ah).map .int)]).set d (.aN (c7 ns ah H.length 0 0)))[d]?=some (.aN (c7 ns ah H.length 0 0)):=by rw [gL (by simp;exact y0▸Nat.lt_succ_of_le (ct (b8 _ 3) hd2))]
     have j3:((l9++[AO.list ((c8 ah).map .int)]).set d (.aN (c7 ns ah H.length 0 0)))[H.length]?=some (.list ((c8 ah).map .int)):=by rw [aU (cA (dX (b8 _ 2) hd2)),gn (Nat.le_of_eq y0)];simp [y0]
     have Rd:vE ((l9++[AO.list ((c8 ah).map .int)]).set d (.aN (c7 ns ah H.length 0 0))) a.cN (d+3) ns ah:=Wv.same λj hj hl=>by rw [aU (ph hl),et hj]
     have FS:Ext H ((l9++[AO.list ((c8 ah).map .int)]).set d (.aN (c7 ns ah H.length 0 0))) (λj=>j=d\/j=d+2) :=
      (YD.app (l:=[AO.list ((c8 ah).map .int)])).then (by simp) λj hj co=>by rw [aU (λe=>co (.inl e.symm))]
     have BY:((l9++[AO.list ((c8 ah).map .int)]).set d (.aN (c7 ns ah H.length 0 0))).length=H.length+1:=by simp [y0]
     generalize (l9++[AO.list ((c8 ah).map .int)]).set d (.aN (c7 ns ah H.length 0 0))=tz at j1 j2 j3 Rd FS BY;refine ab (aj (cT W.B a.cS a.oK W.BP rfl (n:=n+1) (aZ _) (aa 0 rfl rfl ⟨d+1,d,_,rfl,⟨j1,j2⟩,rfl,bI ((BW W nQ wf yY Rb j1 j2 rfl Rd hs.names PP hlen n).mono ?_)⟩)));intro v yW o4;refine e0a1 o4 λo5 Ij=>?_;clear o4;refine rE o5 ?_;refine ag 1 rfl (be 1 _ rfl) ?_;refine ab (bz (fX (aa 1 rfl rfl (Dz ?_))));have same:∀j,j < tz.length->yW[j]?=tz[j]?:=λj hj=>Ij.same j hj id;have lt:=Rd.lt;refine aq (aq (aH rfl ⟨?_,?_,?_,Rd.same λj hj zz=>same j hj,hs.names,pg hd2,λm hm=>?_⟩ (FS.then Ij.le λj hj zz=>same j (af BY▸Nat.le.step hj))))
     . rw [same _ (BY▸Nat.lt_succ_of_lt (Nat.lt_of_succ_lt hd2))];exact j1
     . rw [same _ (BY▸Nat.lt_succ_of_le (ct (b8 _ 3) hd2))];exact j2
     . rw [same _ (af BY▸Nat.succ_le_of_lt Nat.le.refl)];exact j3
     . have:=hs.nodes.lt m hm;exact pg this
end
noncomputable def dh (ah:List Nd)(x:Int)(k:Int):List Nd:=ah.map λp=>if p.1=x then (p.1,k,p.2.2) else p
noncomputable def outs (ah:List Nd)(xs:List Int):List Nd:=xs.foldl (λl x=>dh l x (-1)) ah
section
variable {c:aP}{mg mb:dZ}{Kf:Frag}{a:ql}
variable {H:aI}{d r:Nat}{ns:aS}{ah:List Nd}{ready:List Int}{bg fin:Int}
theorem SR.u5 (h:SR H a d ns ah r ready bg fin)(h1:ns[i]?=some n)(h2:ah[i]?=some y)(np:Int) :
 SR (H.set (n+1) (.slots a.cN n [some (.int y.1),some (.int np),some (.ref (n+2))])) a d ns (ah.set i (y.1,np,y.2.2)) r ready bg fin:=by
 obtain lo:=h.nodes.low n (bJ h1);obtain hi:=h.I4 n (bJ h1);exact ⟨by rw [aU (t8 lo)];exact h.inst,by rw [aU (t7 lo),c7,nR (y':=(y.1,np,y.2.2)) h2 rfl];exact h.dict,by rw [aU (cA (dm hi))];exact h.list,h.nodes.u5 h1 h2 np,by rw [lz (y':=(y.1,np,y.2.2)) h2 rfl];exact h.names,h.yZ,h.I4⟩
theorem SR.PY (h:SR H a d ns ah r ready bg fin)(BZ:List Int):SR (H.set r (.list (BZ.map .int))) a d ns ah r BZ bg fin:=by obtain lo:=h.yZ;obtain lt:r < H.length:=(bp h.list).1;refine ⟨by rw [aU (dP (dm lo))];exact h.inst,by rw [aU (t9 lo)];exact h.dict,by rw [gL lt],⟨h.nodes.len,λi n x h1 h2=>?_,h.nodes.low,h.nodes.gap⟩,h.names,h.yZ,h.I4⟩;obtain hi:=h.I4 n (bJ h1);exact (h.nodes.at_ i n x h1 h2).set _ (t9 hi) (dP (dm hi)) (dP hi)
theorem SR.PZ (h:SR H a d ns ah r ready bg fin)(xK P0:Int):SR (H.set d (.aN (c7 ns ah r xK P0))) a d ns ah r ready xK P0:=by obtain lo:=h.yZ;obtain lt:d < H.length:=(bp h.dict).1;refine ⟨by rw [aU jf];exact h.inst,by rw [gL lt],by rw [aU (ph lo)];exact h.list,⟨h.nodes.len,λi n x h1 h2=>?_,h.nodes.low,h.nodes.gap⟩,h.names,h.yZ,h.I4⟩;obtain this:=h.nodes.low n (bJ h1);exact (h.nodes.at_ i n x h1 h2).set _ (ph this) (cA (Nat.lt_succ_of_lt (Nat.lt_of_succ_lt (Nat.lt_of_succ_lt this)))) (zQ this)
theorem SR.node (h:SR H a d ns ah r ready bg fin)(hx:x∈ah.map (·.1)):∃(i p:Nat) (y:Nd),ns[i]?=some p/\ah[i]?=some y/\y.1=x/\b9 (tabOf ns ah) x=some (.ref (p+1)):=by
 refine e1a1 (fy hx) λy hy o3=>?_;clear hx;obtain rfl:=o3;obtain ⟨i,hi,e⟩:=List.getElem_of_mem hy;have je:i < ns.length:=by simp only [h.nodes.len];exact hi
 obtain h1:ah[i]?=some y:=by exact (af (df hi))▸(af e)▸rfl
 obtain h2:=df je;exact (gq i (ns[i]) y h2 h1 rfl (iT h.names h1 h2))
theorem SR.slot (h:SR H a d ns ah r ready bg fin){i n:Nat}(h1:ns[i]?=some n)(h2:ah[i]?=some y)(lc:dI) :
 m8 ⟨lc,H⟩ (n+1) n a.cN [some (.int y.1),some (.int y.2.1),some (.ref (n+2))] :=
 (yp (.inr (h.nodes.at_ i n y h1 h2).slots) [] ((h.nodes.at_ i n y h1 h2).dict))
theorem dd (ah:List Nd)(x:Int)(k:Int):(dh ah x k).map (·.1)=ah.map (·.1):=by
 delta dh;rw [List.map_map];apply List.map_congr_left;intro p _;simp only [Function.comp]
 split <;> rfl
theorem gf:∀(xs:List Int) (ah:List Nd),(outs ah xs).map (·.1)=ah.map (·.1):=by
 intro xs;induction xs with
 | nil =>intro _;exact rfl
 | cons x xs ih =>intro ah;show (outs (dh ah x (-1)) xs).map _=_;rw [ih,dd]
theorem y1 (W:tD c mg mb Kf a)(nQ:dp mg mb "bool" (.type "bool"))(hs:SR H a d ns ah r ready bg fin)(hl:ready.length < 1000)(n:Nat) :
 bC c (n+1) (.ref a.kF) [.ref (d+1)] H (λv H'=>v=.bool (decide (fin < bg)||!ready.isEmpty)/\H'=H):=by
 refine W.kF.gz W.B.toBase ["self"] ["self"] [(0,.ref (d+1))] (λzz zz=>rfl) rfl rfl (rfl) λenv own frames be jQ=>?_
 . refine ab (bz (aL (bc (aa 0 rfl rfl (br W.B a.cS (ar W.a2).2.2 (ar W.a2).2.1 ⟨hs.inst,hs.dict⟩ rfl (by simp) (eU (kj (aD ?_))))))));refine aq (ab (bf (GU (Al (bc (aa 0 rfl rfl (br W.B a.cS (ar W.a4).2.2 (ar W.a4).2.1 ⟨hs.inst,hs.dict⟩ rfl (by simp) (bc (aa 0 rfl rfl (br W.B a.cS (ar W.a3).2.2 (ar W.a3).2.1 ⟨hs.inst,hs.dict⟩ rfl (by simp) (vN (aD ?_))))))))))));cases hq:decide (fin < bg) with
   | true=>exact ⟨rfl,rfl⟩
   | false =>refine bU (.type "bool") (bM W.B.toBase (rfl) nQ.1 nQ.2 ⟨rfl,ak (bc (aa 0 rfl rfl (br W.B a.cS (ar W.a2).2.2 (ar W.a2).2.1 ⟨hs.inst,hs.dict⟩ rfl (by simp) (DV (.inr (ae r rfl hs.list)) (by simp;exact sC hl) ⟨by simp,rfl⟩))))⟩)
theorem fk.ext (x:Ext H H' (fk d ns r))(h:fk d ns r j)(o:AO):Ext H (H'.set j o) (fk d ns r) :=
 x.then (by simp) λi hi hn=>by rw [aU];intro e;clear hi;subst e;exact hn h
theorem B0 (W:tD c mg mb Kf a)(nQ:dp mg mb "tuple" (.type "tuple"))(wf:dp mg mb "len" (.builtin "len"))(hO:mg "_NODE_OUT"=some (.int (-1) tk))(hs:SR H a d ns ah r ready bg fin)(tZ:∀x∈ready,x∈ah.map (·.1))(hl:ready.length < 1000)(n:Nat) :
 bC c (n+1) (.ref a.ready) [.ref (d+1)] H (λv H'=>v=.tup (ready.map .int)/\SR H' a d ns (outs ah ready) r [] (bg+ready.length) fin/\Ext H H' (fk d ns r)):=by
 refine W.ready.gz W.B.toBase ["self"] ["self","result","n2i","node"] [(0,.ref (d+1))] (λzz zz=>rfl) rfl rfl (by decide +kernel) λenv own frames be jQ=>?_
 . refine ab (bz (aL (bc (aa 0 rfl rfl (br W.B a.cS (ar W.a2).2.2 (ar W.a2).2.1 ⟨hs.inst,hs.dict⟩ rfl (by simp) (eU (kj (aD ?_))))))));refine aq (ab (aj (bU (.type "tuple") (bM W.B.toBase (by rfl) nQ.1 nQ.2 ⟨rfl,ak (bc (aa 0 rfl rfl (br W.B a.cS (ar W.a2).2.2 (ar W.a2).2.1 ⟨hs.inst,hs.dict⟩ rfl (by simp) (Bp (.inr (ae r rfl hs.list)) (by simp [sizeLine];exact my hl) (ag 1 rfl (be 1 _ rfl) ?_)))))⟩))));refine ab (aj (bc (aa 0 rfl rfl (br W.B a.cS (ar W.a1).2.2 (ar W.a1).2.1 ⟨hs.inst,hs.dict⟩ rfl (by simp) (ag 2 rfl (be 2 _ rfl) ?_)))));refine ab (d8 rfl (kh (aa 1 rfl rfl (ae _ rfl ?_))));refine ⟨λj S'=>aW S' [(0,.ref (d+1)),(1,.tup (ready.map .int)),(2,.cV (tabOf ns ah))]/\SR S'.heap a d ns (outs ah (ready.take j)) r ready bg fin/\Ext H S'.heap (fk d ns r),(aH (aW.of rfl) hs (.refl ..)),λzz zz zz=>trivial,?_,?_⟩
   . intro j v S' hj o1;refine e0a2 o1 λhL db t4=>?_;rw [cj] at hj;refine e1a1 (nB hj) λx hx e=>?_;refine e▸?_;have A5:ready.take (j+1)=ready.take j++[x]:=by rw [List.take_add_one,hx];rfl
     have hxn:x∈(outs ah (ready.take j)).map (·.1):=by rw [gf];exact tZ x (bJ hx)
     refine e3a3 (db.node hxn) λi p y h1 h2 h3 h4=>?_;rw [dq,gf,<-dq] at h4;refine ag 3 rfl (be 3 _ rfl) (bV _ (hL.put (i:=3) (v:=.int x) (by rfl)) ?_);show Ex c _ _ ⟨[(0,.ref (d+1)),(1,.tup (ready.map .int)),(2,.cV (tabOf ns ah)),(3,.int x)],S'.heap⟩ _ dT;refine ab (aj (lV W.B.toBase (by rfl) hO (cg (bq (aa 2 rfl rfl (aa 3 rfl rfl ⟨jb (.inl rfl),kB (.inl rfl) h4 (gb W.B a.cN W.slots.2.1 mz (db.slot h1 h2 _) ?_)⟩))))));refine aq (aH (aW.of rfl) ?_ (fk.ext t4 (.inr (.inr (.inr (ae p (bJ h1) (.inl rfl))))) _));have e:outs ah (ready.take (j+1))=(outs ah (ready.take j)).set i (y.1,-1,y.2.2):=by rw [A5];unfold outs;rw [List.foldl_append];exact nq db.names h2 h3 (λp=>(p.1,-1,p.2.2))
     rw [e];exact db.u5 h1 h2 (-1)
   . intro S' o2;refine e0a2 o2 λhL db t4=>?_;rw [qL,List.take_length] at db;refine bV _ hL ?_;have tb:tabOf ns (outs ah ready)=tabOf ns ah:=by rw [dq,gf,<-dq]
     have len:((ready.map AV.int).length:Int)=ready.length:=by simp
     generalize S'.heap=Hc at db t4;refine ab (bw (bT "list" "list.clear" PySem.F.plainAttrs_list PySem.F.slot_list_clear PySem.F.type_list_clear (bc (aa 0 rfl rfl (br W.B a.cS (ar W.a2).2.2 (ar W.a2).2.1 ⟨db.inst,db.dict⟩ rfl (by simp) ⟨fB db.list rfl,bI (Dw db.list (by simp [sizeLine];exact my hl) ?_)⟩)))) (by rfl));have qJ:=db.PY [];have FS:Ext H (Hc.set r (.list (([]:List Int).map .int))) (fk d ns r):=fk.ext t4 (.inr (.inr (.inl rfl))) _;generalize Ww:Hc.set r (.list (([]:List Int).map .int))=tz at qJ FS;have Ik:Hc.set r (.list [])=tz:=Ww;rw [Ik];refine ab (fG (aa 0 rfl rfl (br W.B a.cS (ar W.a3).2.2 (ar W.a3).2.1 ⟨qJ.inst,qJ.dict⟩ rfl (by simp) (bU (.builtin "len") (bM W.B.toBase (by rfl) wf.1 wf.2 ⟨rfl,ak (aa 1 rfl rfl (BR (by simp;exact sC hl) (gj (cP (kvs:=c7 ns (outs ah ready) r bg fin) W.B a.cS (ar W.a3).1 ⟨qJ.inst,qJ.dict⟩ (by simp) ?_))))⟩)))));rw [len];refine ab (bf (aa 1 rfl rfl (aH rfl (qJ.PZ (bg+ready.length) fin) (fk.ext FS (.inl rfl) _))))
end
section
variable {c:aP}{C:Cx}{S:AS}{X:cK}{K:cw}
theorem wD (k:K (.bool (a != b)) S):iX c C (compareOp .NotEq) (.int a) (.int b) S K X:=λA F bs s ra rb hA z ha hb=>by refine e1a0 ha.inv λzz o7=>?_;refine rE o7 ?_;refine e1a0 hb.inv λzz o6=>?_;refine rE o6 ?_;exact WP.kept z λQ E q=>PyProof.Rows.ne_int (q _ _ (.refl ..) (ae _ (.bool _) k))
end
noncomputable def c9 (ah:List Nd)(x:Int):List Nd:=ah.map λp=>if p.1=x then (p.1,p.2.1 - 1,p.2.2) else p
noncomputable def eI (ah:List Nd)(x:Int):Int:=((ah.find? λy=>y.1=x).map (·.2.1)).getD 0
noncomputable def cC (st:List Nd×List Int)(s:Int):List Nd×List Int:=(c9 st.1 s,if eI (c9 st.1 s) s==0 then st.2++[s] else st.2)
noncomputable def eh (ah:List Nd)(ready:List Int)(x:Int):List Nd×List Int:=(bY ah x).foldl cC (dh ah x (-2),ready)
noncomputable def dR (ah:List Nd)(ready:List Int)(x:Int)(j:Nat):List Nd×List Int:=((bY ah x).take j).foldl cC (dh ah x (-2),ready)
theorem nT (hn:(ah.map (·.1)).Nodup)(h:y∈ah):eI ah y.1=y.2.1:=by
 induction ah with
 | nil=>exact absurd h List.not_mem_nil
 | cons z l ih =>
   have gM:=List.nodup_cons.mp (by exact hn:(z.1::l.map (·.1)).Nodup)
   (refine bh (er h) (λe=>?_) (λh=>?_))
   . refine rE e ?_;simp [eI]
   . have co:z.1≠y.1:=λe=>gM.1 (by simp only [e];exact eK (ae y h rfl));obtain this:=ih gM.2 h;simp only [eI,List.find?_cons,co,decide_false] at this ⊢;exact this
theorem gm (ah:List Nd)(x:Int):(c9 ah x).map (·.1)=ah.map (·.1):=by
 delta c9;rw [List.map_map];apply List.map_congr_left;intro p _;simp only [Function.comp]
 split <;> rfl
theorem qp:∀(l:List Int) (st:List Nd×List Int),(l.foldl cC st).1.map (·.1)=st.1.map (·.1):=by
 intro l;induction l with
 | nil =>intro _;exact rfl
 | cons s l ih =>intro st;simp only [List.foldl_cons,ih];exact gm _ _
theorem js (ah:List Nd)(ready:List Int)(x:Int)(j:Nat):(dR ah ready x j).1.map (·.1)=ah.map (·.1):=by delta dR;rw [qp];exact dd ..
theorem wF:∀(l:List Int) (st:List Nd×List Int),(l.foldl cC st).1.map (·.2.2)=st.1.map (·.2.2):=by
 intro l;induction l with
 | nil =>intro _;exact rfl
 | cons s l ih =>
   intro st;simp only [List.foldl_cons,ih];show (c9 st.1 s).map _=_;delta c9;rw [List.map_map];apply List.map_congr_left;intro p _;simp only [Function.comp]
   split <;> rfl
theorem tE (ah:List Nd)(ready:List Int)(x:Int)(j:Nat):(dR ah ready x j).1.map (·.2.2)=ah.map (·.2.2):=by
 delta dR;simp only [wF];delta dh;rw [List.map_map];apply List.map_congr_left;intro p _;simp only [Function.comp]
 split <;> rfl
theorem B1:∀(l:List Int) (st:List Nd×List Int),(l.foldl cC st).2.length<=st.2.length+l.length:=by
 intro l;induction l with
 | nil =>intro _;simp
 | cons s l ih =>
   intro st;obtain this:=ih (cC st s);obtain h2:(cC st s).2.length<=st.2.length+1:=by delta cC;simp only;split <;> simp
   skip;simp;exact zJ h2 this
section
variable {c:aP}{mg mb:dZ}{Kf:Frag}{a:ql}
variable {H:aI}{d r:Nat}{ns:aS}{ah:List Nd}{ready:List Int}{bg fin:Int}
theorem Es (W:tD c mg mb Kf a)(hO:mg "_NODE_OUT"=some (.int (-1) tk))(hD:mg "_NODE_DONE"=some (.int (-2) tk2))(hs:SR H a d ns ah r ready bg fin)(hx:x∈ah.map (·.1))(hp:eI ah x=-1)(hsu:∀s∈bY ah x,s∈ah.map (·.1))(hl:ready.length+(bY ah x).length < 1000)(n:Nat) :
 bC c (n+1) (.ref a.done) [.ref (d+1),.int x] H (λv H'=>v=.none/\SR H' a d ns (eh ah ready x).1 r (eh ah ready x).2 bg (fin+1)/\Ext H H' (fk d ns r)):=by
 refine W.done.FL W.B.toBase ["self"] "nodes" [.ref (d+1)] [.int x] ["self","nodes","n2i","node","nodeinfo","stat","successor","successor_info"] [(0,.ref (d+1)),(1,.tup [.int x])] (λzz us zz=>by cases us <;> rfl) rfl (by simp [sizeLine]) rfl (by decide +kernel) λenv own frames be jQ=>?_
 . refine ab (bz (aL (bc (aa 0 rfl rfl (br W.B a.cS (ar W.a2).2.2 (ar W.a2).2.1 ⟨hs.inst,hs.dict⟩ rfl (by simp) (eU (kj (aD ?_))))))));refine aq (ab (aj (bc (aa 0 rfl rfl (br W.B a.cS (ar W.a1).2.2 (ar W.a1).2.1 ⟨hs.inst,hs.dict⟩ rfl (by simp) (ag 2 rfl (be 2 _ rfl) ?_))))));refine ab (d8 rfl (kh (aa 1 rfl rfl (ae _ rfl ?_))));refine ⟨λj S'=>aW S' [(0,.ref (d+1)),(1,.tup [.int x]),(2,.cV (tabOf ns ah))]/\Ext H S'.heap (fk d ns r)/\(j=0/\SR S'.heap a d ns ah r ready bg fin\/j=1/\SR S'.heap a d ns (eh ah ready x).1 r (eh ah ready x).2 bg (fin+1)),(aH (aW.of rfl) (.refl ..) (.inl ⟨rfl,hs⟩)),λzz zz zz=>trivial,?_,?_⟩
   . intro j v S' hj o1;refine e0a2 o1 λhL t4 hq=>?_;clear o1;have hj0:j=0:=by have:=(bp hj).1;simpa using this
     subst hj0;have db:SR S'.heap a d ns ah r ready bg fin:=by rcases hq with ⟨_,q⟩ | ⟨q,_⟩;exact q;cases q
     simp at hj;subst hj;refine e3a3 (db.node hx) λi p y h1 h2 h3 h4=>?_;have YE:=bJ h2;have hpy:y.2.1=-1:=by rw [<-h3,nT hs.names YE] at hp;exact hp
     have CY:bY ah x=y.2.2:=by rw [<-h3];exact jd hs.names YE
     refine ag 3 rfl (be 3 _ rfl) (bV _ (hL.put (i:=3) (v:=.int x) (by rfl)) ?_);show Ex c _ _ ⟨[(0,.ref (d+1)),(1,.tup [.int x]),(2,.cV (tabOf ns ah)),(3,.int x)],S'.heap⟩ _ dT;generalize S'.heap=Hc at db t4;refine ab (bz (aL (rG (bT "dict" "dict.get" PySem.F.plainAttrs_dict PySem.F.slot_dict_get PySem.F.type_dict_get (aa 2 rfl rfl ⟨rfl,ak (aa 3 rfl rfl (qf (.inl rfl) ?_))⟩)))));rw [h4];refine ag 4 rfl (be 4 _ rfl) (eU (kj (aD (aq ?_))));refine ab (aj (bc (aa 4 rfl rfl (eC W.B a.cN W.slots.2.1 (db.slot h1 h2 _) rfl (by simp) (ag 5 rfl (be 5 _ rfl) ?_)))));refine ab (bz (aL (aa 5 rfl rfl (lV W.B.toBase (by rfl) hO (wD (aD ?_))))));have e1:(y.2.1 != -1)=false:=by rw [hpy];rfl
     rw [e1];refine aq (ab (aj (lV W.B.toBase (by rfl) hD (cg (aa 4 rfl rfl (gb W.B a.cN W.slots.2.1 mz (db.slot h1 h2 _) ?_))))));have qJ:=db.u5 h1 h2 (-2);have e2:ah.set i (y.1,-2,y.2.2)=dh ah x (-2):=(nq hs.names h2 h3 (λp=>(p.1,-2,p.2.2))).symm;rw [e2] at qJ;have FS:Ext H (Hc.set (p+1) (.slots a.cN p [some (.int y.1),some (.int (-2)),some (.ref (p+2))])) (fk d ns r):=fk.ext t4 (.inr (.inr (.inr (ae p (bJ h1) (.inl rfl))))) _;generalize Ww:Hc.set (p+1) (.slots a.cN p [some (.int y.1),some (.int (-2)),some (.ref (p+2))])=tz at qJ FS;have Ik:Hc.set (p+1) (.slots a.cN p (il [some (.int y.1),some (.int y.2.1),some (.ref (p+2))] 1 (.int (-2))))=tz:=Ww;rw [Ik];have YF:(dh ah x (-2))[i]?=some (y.1,-2,y.2.2):=by rw [<-e2,gL (bp h2).1]
     have L2:=qJ.nodes.at_ i p _ h1 YF;refine ab (d8 rfl (fC (bc (aa 4 rfl rfl (eC W.B a.cN W.slots.2.2 (qJ.slot h1 YF _) rfl (by simp) (ae (y.2.2.map .int) (.inr (ae (p+2) rfl L2.list)) ?_))))));refine ⟨λj S'=>aW S' [(0,.ref (d+1)),(1,.tup [.int x]),(2,.cV (tabOf ns ah))]/\SR S'.heap a d ns (dR ah ready x j).1 r (dR ah ready x j).2 bg fin/\Ext H S'.heap (fk d ns r),(aH (aW.of rfl) (by simpa [dR] using qJ) FS),?_,?_,?_⟩
     . intro j aO o2;refine e0a2 o2 λzz qY zz=>?_;have FT:i < (dR ah ready x j).1.length:=by have:=congrArg List.length (js ah ready x j);simp at this;rw [this];exact (bp h2).1
       have L3:=qY.nodes.at_ i p _ h1 (df FT);have na:((dR ah ready x j).1.map (·.2.2))[i]?=(ah.map (·.2.2))[i]?:=by rw [tE]
       rw [cj,cj,h2,df FT] at na;simp only [Option.map_some,Option.some.injEq] at na;have:=L3.list;rw [na] at this;exact .inr (ae (p+2) rfl this)
     . intro j v aO hj o3;refine e0a2 o3 λtF qY Ij=>?_;rw [cj] at hj;refine e1a1 (nB hj) λs YG e=>?_;subst e;have YH:s∈(dR ah ready x j).1.map (·.1):=by rw [js];exact hsu s (by rw [CY];exact bJ YG)
       refine e3a3 (qY.node YH) λk q z g1 g2 g3 g4=>?_;rw [dq,js,<-dq] at g4;have m0:dR ah ready x (j+1)=cC (dR ah ready x j) s:=by unfold dR;rw [CY,List.take_add_one,YG];simp
       have Q7:(dR ah ready x j).2.length < 1000:=by have:=B1 ((bY ah x).take j) (dh ah x (-2),ready);simp only [List.length_take] at this;unfold dR;exact (dX (ct this (jR (Nat.min_le_right ..) _)) hl)
       generalize dR ah ready x j=st at qY g2 YH m0 Q7;refine ag 6 rfl (be 6 _ rfl) (bV _ (tF.put (i:=6) (v:=.int s) (by rfl)) ?_);show Ex c _ _ ⟨[(0,.ref (d+1)),(1,.tup [.int x]),(2,.cV (tabOf ns ah)),(6,.int s)],aO.heap⟩ _ dT;generalize aO.heap=yW at qY Ij;refine ab (aj (bq (aa 2 rfl rfl (aa 6 rfl rfl ⟨jb (.inl rfl),kB (.inl rfl) g4 (ag 7 rfl (be 7 _ rfl) ?_)⟩))));refine ab (fG (aa 7 rfl rfl (eC W.B a.cN W.slots.2.1 (qY.slot g1 g2 _) rfl (by simp) (av (Dx (gb W.B a.cN W.slots.2.1 mz (qY.slot g1 g2 _) ?_))))));have CZ:=qY.u5 g1 g2 (z.2.1 - 1);have e4:st.1.set k (z.1,z.2.1 - 1,z.2.2)=c9 st.1 s:=(nq qY.names g2 g3 (λp=>(p.1,p.2.1 - 1,p.2.2))).symm;have Q1:(c9 st.1 s)[k]?=some (z.1,z.2.1 - 1,z.2.2):=by rw [<-e4,gL (bp g2).1]
       rw [e4] at CZ;have Wx:Ext H (yW.set (q+1) (.slots a.cN q [some (.int z.1),some (.int (z.2.1 - 1)),some (.ref (q+2))])) (fk d ns r):=fk.ext Ij (.inr (.inr (.inr (ae q (bJ g1) (.inl rfl))))) _;generalize hH4:yW.set (q+1) (.slots a.cN q [some (.int z.1),some (.int (z.2.1 - 1)),some (.ref (q+2))])=Wy at CZ Wx;have Wz:yW.set (q+1) (.slots a.cN q (il [some (.int z.1),some (.int z.2.1),some (.ref (q+2))] 1 (.int (z.2.1 - 1))))=Wy:=hH4;rw [Wz];have YI:eI (c9 st.1 s) s=z.2.1 - 1:=by have:=nT CZ.names (bJ Q1);rw [<-g3];rw [<-g3] at this;exact this
       refine ab (bz (aL (bc (aa 7 rfl rfl (eC W.B a.cN W.slots.2.1 (CZ.slot g1 Q1 _) rfl (by simp) (av (nG (aD ?_))))))));cases hz:(z.2.1 - 1:Int)==0 with
       | true =>refine ab (bw (bT "list" "list.append" PySem.F.plainAttrs_list PySem.F.slot_list_append PySem.F.type_list_append (bc (aa 0 rfl rfl (br W.B a.cS (ar W.a2).2.2 (ar W.a2).2.1 ⟨CZ.inst,CZ.dict⟩ rfl (by simp) ⟨fB CZ.list rfl,ak (aa 6 rfl rfl (dK CZ.list (by simp [sizeLine];exact my Q7) ?_))⟩)))) (by rfl));refine aq (aq (aH (aW.of rfl) ?_ (fk.ext Wx (.inr (.inr (.inl rfl))) _)));rw [m0,cC,YI,hz];simp only [if_true];rw [ints_snoc];exact CZ.PY (st.2++[s])
       | false =>refine aq (aq (aH (aW.of rfl) ?_ Wx));rw [m0,cC,YI,hz];simp only [jT,if_false];exact CZ
     . intro aO o4;refine e0a2 o4 λtF qY Ij=>?_;have ef:dR ah ready x (y.2.2.map AV.int).length=eh ah ready x:=by unfold dR eh;rw [CY,qL,List.take_length]
       rw [ef] at qY;refine bV _ tF ?_;refine ab (fG (aa 0 rfl rfl (br W.B a.cS (ar W.a4).2.2 (ar W.a4).2.1 ⟨qY.inst,qY.dict⟩ rfl (by simp) (av (gj (cP (kvs:=c7 ns (eh ah ready x).1 r bg fin) W.B a.cS (ar W.a4).1 ⟨qY.inst,qY.dict⟩ (by simp) ?_))))));exact aq (aH (aW.of rfl) (fk.ext Ij (.inl rfl) _) (.inr ⟨rfl,qY.PZ bg (fin+1)⟩))
   . intro S' o5;refine e0a2 o5 λhL t4 hq=>?_;have db:SR S'.heap a d ns (eh ah ready x).1 r (eh ah ready x).2 bg (fin+1):=by rcases hq with ⟨q,_⟩ | ⟨_,q⟩;cases q;exact q
     exact aq (aH rfl db t4)
end
noncomputable def Et:eD:=jq kE 2
noncomputable def tG:lJ:=de Et 0
noncomputable def wG:lJ:=de Et 1
noncomputable def xM:lJ:=de Et 2
noncomputable def nU:lJ:=de kE 12
noncomputable def tH:lJ:=de nU.body 2
noncomputable def tI:jJ:=⟨"_law_piece","_law_wire.<locals>._law_piece",tH.params,.stmts tH.body,tH.scope⟩
structure iq where
 cL:Addr
 init:Addr
 read:Addr
 get:Addr
structure Lex (c:aP)(mg mb:dZ)(Kf:Frag)(l:iq):Prop where
 B:dU c mg mb Kf
 a1:attrOk Kf l.cL "lineno"=true
 a2:attrOk Kf l.cL "instream"=true
 a3:attrOk Kf l.cL "whitespace"=true
 a4:attrOk Kf l.cL "pushback"=true
 a5:attrOk Kf l.cL "read"=true
 WB:makesIn Kf l.cL=true
 B2:(findIn Kf (.ref l.cL) "__init__"==some (some (.ref l.init))&&typeIn Kf (.ref l.init)==some (.type "function"))=true
 keep:keepIn Kf (.ref l.cL)=true
 g:mg "_netrclex"=some (.ref l.cL)
 B3:lq Kf l.cL "_read_char" l.read=true
 P1:fY Kf l.cL "get_token" l.get=true
 init:gy c l.init tG .none
 read:gy c l.read wG .none
 get:gy c l.get xM .none
 site:c.ay 0=tI
noncomputable abbrev gE:Str:="\n\t\r "
noncomputable def eY (line:Int)(ins:AV)(pb:Nat):fq:=[("lineno",.int line),("instream",ins),("whitespace",.str gE),("pushback",.ref pb)]
structure LX (H:aI)(cL:Addr)(n:Nat)(signs:a8)(line:Int)(push:a8):Prop where
 sg:H[n]?=some (.list (signs.map .str))
 sd:H[n+1]?=some (.aN (eY 1 .none (n+3)++[(("read":Str),AV.fn 0 [(("signs":Str),AV.ref n)])]))
 si:H[n+2]?=some (.inst cL (n+1))
 ld:H[n+4]?=some (.aN (eY line (.ref (n+2)) (n+6)))
 li:H[n+5]?=some (.inst cL (n+4))
 pb:H[n+6]?=some (.list (push.map .str))
abbrev ir (n:Nat)(j:Nat):Prop:=n<=j/\j < n+7
theorem cH {α:Type}{H:List α}{v:α}(h:i≠j):(H.set i v)[j]?=H[j]?:=aU h
theorem lM {α:Type}{H:List α}{v o:α}(h:H[i]?=some o):(H.set i v)[i]?=some v:=gL (bp h).1
section
variable {H H':aI}{cL:Addr}{n:Nat}{signs B4:a8}{line FU:Int}{push YJ:a8}
theorem LX.vb (x:LX H cL n signs line push):LX (H.set n (.list (B4.map .str))) cL n B4 line push :=
 ⟨lM x.sg,(cH jf).trans x.sd,(cH pe).trans x.si,(cH (cA (Nat.lt_succ_of_le (b8 _ 3)))).trans x.ld,(cH (cA (Nat.lt_succ_of_le (b8 _ 4)))).trans x.li,(cH (cA (Nat.lt_succ_of_le (b8 _ 5)))).trans x.pb⟩
theorem LX.Eu (x:LX H cL n signs line push):LX (H.set (n+4) (.aN (eY FU (.ref (n+2)) (n+6)))) cL n signs FU push :=
 ⟨(cH (dP (Nat.lt_succ_of_le (b8 _ 3)))).trans x.sg,(cH (dP (hX (by decide) _))).trans x.sd,(cH (dP (dm Nat.le.refl))).trans x.si,lM x.ld,(cH (cA Nat.le.refl)).trans x.li,(cH (cA (dm Nat.le.refl))).trans x.pb⟩
theorem LX.ext (x:LX H cL n signs line push)(e:Ext H H' P)(h:∀j,n<=j->j < n+7->¬P j):LX H' cL n signs line push:=by
 obtain lt:∀{j o},H[j]?=some o->j < H.length:=λh=>(bp h).1;exact ⟨(e.same _ (lt x.sg) (h _ jg (Nat.lt_succ_of_le (b8 _ 6)))).trans x.sg,(e.same _ (lt x.sd) (h _ arith2 (hX (by decide) _))).trans x.sd,(e.same _ (lt x.si) (h _ pf (hX (by decide) _))).trans x.si,(e.same _ (lt x.ld) (h _ (b8 _ 4) (dm (dm Nat.le.refl)))).trans x.ld,
  (e.same _ (lt x.li) (h _ (b8 _ 5) (dm Nat.le.refl))).trans x.li,(e.same _ (lt x.pb) (h _ (b8 _ 6) (aZ (_+6).succ))).trans x.pb⟩
end
theorem set_same {α:Type}{H:List α}{o:α}(h:H[k]?=some o):H.set k o=H:=by refine e1a0 (bp h) λhk e=>?_;clear h;subst e;exact List.set_getElem_self hk
noncomputable def nl (x:Str)(l:Int):Int:=if x=="\n" then l+1 else l
noncomputable def isWs (x:Str):Bool:=!(Builtin.Str.occurrences gE x 0 gE.length 1).isEmpty
section
variable {c:aP}{mg mb:dZ}{Kf:Frag}{l:iq}
theorem gy.fnAt (h:gy c fa f dV):FnAt c fa:=by obtain ⟨o,fd,h1,h2,h3,_⟩:=h.at_;exact (ck o fd h1 h2 h3)
theorem B5 (W:Lex c mg mb Kf l){signs:a8}(hk:H[k]?=some (.list (signs.map .str)))(hl:signs.length < 1000)(m:Nat) :
 gx c (m+1) (.fn 0 [("signs",.ref k)]) [.int 1] H (λv H'=>v=.str (signs.headD "")/\H'=H.set k (.list (signs.tail.map .str))):=by
 refine gx.Ve W.B.toBase tI W.site ["count"] ["signs"] ["count","signs"] [(1,.ref k),(0,.int 1)] (λzz zz=>rfl) rfl rfl rfl (rfl) (rfl) λenv own frames be jQ=>?_
 . refine cZ (bf (pM (fX (aa 1 (by rfl) (by rfl) (pw (.inr (ae k rfl hk)) (by simp;exact sC hl) ?_)))));cases signs with
   | nil =>refine cQ ⟨rfl,?_⟩;exact (set_same hk).symm
   | cons x r =>refine bT "list" "list.pop" PySem.F.plainAttrs_list PySem.F.slot_list_pop PySem.F.type_list_pop ?_;refine aa 1 (by rfl) (by rfl) ⟨fB hk rfl,?_⟩;refine ak (av (Dv (j:=0) hk (by simp [sizeLine] at *;exact lU (Nat.lt_of_succ_lt hl) rfl) ?_ rfl (by decide) (by decide) ⟨rfl,rfl⟩));exact seqIndex_of (by decide) (by simp)
theorem LX.lex {cL n:Nat}{signs:a8}(x:LX H cL n signs line push):fT ⟨lc,H⟩ (n+5) (n+4) cL (eY line (.ref (n+2)) (n+6)):=⟨x.li,x.ld⟩
theorem LX.str {cL n:Nat}{signs:a8}(x:LX H cL n signs line push):fT ⟨lc,H⟩ (n+2) (n+1) cL (eY 1 .none (n+3)++[(("read":Str),AV.fn 0 [(("signs":Str),AV.ref n)])]):=⟨x.si,x.sd⟩
theorem Ew (W:Lex c mg mb Kf l){signs:a8}(x:LX H l.cL n signs line push)(hl:signs.length < 1000)(m:Nat) :
 bC c (m+2) (.ref l.read) [.ref (n+5)] H (λv H'=>v=.str (signs.headD "")/\LX H' l.cL n signs.tail (nl (signs.headD "") line) push/\Ext H H' (ir n)/\H'.length=H.length):=by
 refine W.read.gz W.B.toBase ["self"] ["self","ch"] [(0,.ref (n+5))] (λzz zz=>rfl) rfl rfl (rfl) λenv own frames be jQ=>?_
 . obtain k1:=ar W.a1;obtain k2:=ar W.a2;obtain k5:=ar W.a5;refine ab (aj (uV W.B l.cL (n:=m+1) k5.2.2 k5.2.1 rfl (aZ _) ?_));refine bc (aa 0 rfl rfl (br W.B l.cL k2.2.2 k2.2.1 x.lex (v:=.ref (n+2)) rfl (λzz q=>by cases q) ?_));refine ⟨n+2,n+1,_,0,[("signs",.ref n)],rfl,x.str,rfl,?_⟩;refine ak (av ?_);intro A F bs s r rs fr h1 h2 h3 h4 h5 wd hf hv;refine codeAny_mono (B5 W x.sg hl m A F bs s r rs fr h1 h2 h3 h4 h5 wd hf hv) λr s' ⟨F',az,v,H',rv,own,e1,e2,e3,e4,e5,ev,eH⟩=>⟨F',az,v,H',rv,own,e1,e2,e3,e4,e5,?_⟩
   clear e4 e5;subst ev eH;obtain x1:LX (H.set n (.list (signs.tail.map .str))) l.cL n signs.tail line push:=x.vb;refine ag 1 rfl (be 1 _ rfl) ?_;refine ab (bz (aL (aa 1 rfl rfl (cQ (jn (aD ?_))))));obtain e0:Ext H (H.set n (.list (signs.tail.map .str))) (ir n):=Ext.set _ _ ⟨aZ _,Nat.lt_succ_of_le (b8 _ 6)⟩;cases hb:(signs.headD ""==("\n":Str)) with
   | true =>
     refine ab (fG (aa 0 rfl rfl (br W.B l.cL k1.2.2 k1.2.1 x1.lex (v:=.int line) rfl (λzz q=>by cases q) (av (gj ?_)))));refine cP W.B l.cL k1.1 x1.lex (Nat.le_of_ble_eq_true rfl) (aq (ab (bf (aa 1 rfl rfl (eM rfl ?_ ?_ (by simp))))))
     . obtain this:nl (signs.headD "") line=line+1:=by unfold nl;rw [hb];rfl
       rw [this];exact x1.Eu
     . exact e0.trans (Ext.set _ _ ⟨b8 _ 4,dm (dm Nat.le.refl)⟩)
   | false =>
     refine aq (ab (bf (aa 1 rfl rfl (eM rfl ?_ e0 (by simp)))));obtain this:nl (signs.headD "") line=line:=by delta nl;rw [hb];rfl
     rw [this];exact x1
end
inductive LM where
 | top | xN | unq | vc | qq
noncomputable def cE:LM->a8->Int->Str->Str×List Str×Int
 | _,[],l,t=>(t,[],l)
 | .top,x::r,l,t=>if isWs x then cE .top r (nl x l) t else if x=="\"" then cE .xN r (nl x l) t else if x=="\\" then cE .qq r (nl x l) t else cE .unq r (nl x l) (t++x)
 | .xN,x::r,l,t=>if x=="\"" then (t,r,nl x l) else if x=="\\" then cE .vc r (nl x l) t else cE .xN r (nl x l) (t++x)
 | .unq,x::r,l,t=>if isWs x then (t,r,nl x l) else if x=="\\" then cE .qq r (nl x l) t else cE .unq r (nl x l) (t++x)
 | .vc,x::r,l,t=>cE .xN r (nl x l) (t++x)
 | .qq,x::r,l,t=>cE .unq r (nl x l) (t++x)
theorem P4 (x:Str)(r:a8)(l:Int)(t:Str):cE .top (x::r) l t=if isWs x then cE .top r (nl x l) t else if x=="\"" then cE .xN r (nl x l) t else if x=="\\" then cE .qq r (nl x l) t else cE .unq r (nl x l) (t++x):=rfl
theorem WC (x:Str)(r:a8)(l:Int)(t:Str):cE .vc (x::r) l t=cE .xN r (nl x l) (t++x):=rfl
theorem P5 (x:Str)(r:a8)(l:Int)(t:Str):cE .qq (x::r) l t=cE .unq r (nl x l) (t++x):=rfl
theorem lN (t:Str):t++(Str.ofString "")=t:=by
 skip
 skip
 rfl
structure GI (n k:Nat)(S:AS)(tok:Str):Prop where
 self:S.loc.lookup 0=some (.ref (n+5))
 tok:S.loc.lookup 1=some (.str tok)
 it:S.loc.lookup 2=some (.ref k)
theorem GI.put3 {tok:Str}(g:GI n k S tok)(v:AV)(H:aI):GI n k ({S with heap:=H}.put 3 v) tok :=
 ⟨by show (a7 S.loc 3 v).lookup 0=_;rw [au];exact g.self,by show (a7 S.loc 3 v).lookup 1=_;rw [au];exact g.tok,by show (a7 S.loc 3 v).lookup 2=_;rw [au];exact g.it⟩
theorem GI.y3 {tok:Str}(g:GI n k S tok)(t:Str):GI n k (S.put 1 (.str t)) t :=
 ⟨by skip;rw [au];exact g.self,by show (a7 S.loc 1 _).lookup 1=_;rw [au];rfl,by show (a7 S.loc 1 _).lookup 2=_;rw [au];exact g.it⟩
theorem GI.heap {tok:Str}(g:GI n k S tok)(H:aI):GI n k {S with heap:=H} tok:=⟨g.self,g.tok,g.it⟩
theorem iu (S:AS)(i:Nat)(v:AV):(S.put i v).loc.lookup i=some v:=by skip;rw [au,if_pos rfl]
section
variable {c:aP}{mg mb:dZ}{Kf:Frag}{l:iq}
noncomputable abbrev y4 (l:iq)(n:Nat):AO:=.eN (some (.bm "method" (.ref l.read) (.ref (n+5)),.str ""))
inductive Act (l:iq)(n k:Nat)(iU:aI)(R:Str×List Str×Int)(md:LM)(m:Nat)(S:AS):Prop
 | mk (sg:a8) (ln:Int) (tok:Str) (g:GI n k S tok) (x:LX S.heap l.cL n sg ln []) (hc:S.heap[k]?=some (y4 l n)) (e:Ext iU S.heap (ir n)) (hl:sg.length+tok.length < 1000) (h1:∀x∈sg,x.length=1) (hj:sg.length=m) (hR:cE md sg ln tok=R)
structure Done (l:iq)(n k:Nat)(iU:aI)(R:Str×List Str×Int)(S:AS):Prop where
 gi:GI n k S R.1
 lx:LX S.heap l.cL n R.2.1 R.2.2 []
 ci:S.heap[k]?=some (.eN none)
 ext:Ext iU S.heap (ir n)
@[reducible] def y5 (l:iq) (n k:Nat) (iU:aI) (R:Str×List Str×Int) (md:LM):vO:=λj S=>Act l n k iU R md j S\/Done l n k iU R S
theorem LX.lt {cL n:Nat}{signs:a8}(x:LX H cL n signs line push):n+6 < H.length:=(bp x.pb).1
theorem nV (W:Lex c mg mb Kf l){S:AS}(hk:n+7<=k)(v6:iU.length<=k)(x:LX S.heap l.cL n sg ln [])(hl:sg.length < 1000)(hc:S.heap[k]?=some (y4 l n))(e:Ext iU S.heap (ir n))(m:Nat) :
 bC c (m+2) (.ref l.read) [.ref (n+5)] S.heap (λv H'=>v=.str (sg.headD "")/\LX H' l.cL n sg.tail (nl (sg.headD "") ln) []/\H'[k]?=some (y4 l n)/\Ext iU H' (ir n)) :=
 (Ew W x hl m).mono λv H' WD=>e0a3 WD λh1 h2 h3 zz=>(eM h1 h2 ((h3.same k (bp hc).1 (λq=>(Nat.not_le.mpr q.2 hk))).trans hc) (e.trans h3))
theorem vd (h:x.length=1):(("":Str)==x)=false:=by
 obtain this:("":Str)≠x:=λe=>by rw [<-e] at h;exact absurd h (by decide)
 simpa using this
noncomputable abbrev Ey:a8:=["self","token","fiter","ch"]
noncomputable abbrev B6 (env:Env)(own:aA)(frames:List Env)(m:Nat):Cx:=l5 xM env own frames (m+3) Ey
theorem tJ (W:Lex c mg mb Kf l)(be:∀(i:Nat) x,Ey[i]?=some x->aV (B6 env own frames m) (λzz=>none) x)(hk:n+7<=k)(v6:iU.length<=k)
 (g:GI n k S tok) (x:LX S.heap l.cL n sg ln []) (hl:sg.length < 1000) (hc:S.heap[k]?=some (y4 l n)) (e:Ext iU S.heap (ir n)) {K:gw}
 (kk:∀H',LX H' l.cL n sg.tail (nl (sg.headD "") ln) []->H'[k]?=some (y4 l n)->Ext iU H' (ir n)->K .next ({S with heap:=H'}.put 3 (.str (sg.headD "")))) (hline:(p3.endLine==p4.line)=true) :
 jK c (B6 env own frames m) (.Assign [.Name "ch" p1] (.Call (.Attribute (.Name "self" p2) "_read_char" p3) [] [] p4) p5) S K X:=by
 obtain mr:fY Kf l.cL "_read_char" l.read=true:=by obtain this:=W.B3;simp only [lq,eZ] at this;exact this.1.1.1
 refine aj (cT W.B l.cL l.read (n:=m+2) mr rfl (by skip;exact dm Nat.le.refl) (aa 0 rfl g.self ⟨n+5,n+4,_,rfl,x.lex,rfl,?_⟩) (hline:=hline));refine bI ((nV W hk v6 x hl hc e m).mono λv H' P3=>e0a3 P3 λev x' xC e'=>?_);clear P3;subst ev;exact ag 3 rfl (be 3 _ rfl) (kk H' x' xC e')
theorem qr (W:Lex c mg mb Kf l)(be:∀(i:Nat) x,Ey[i]?=some x->aV (B6 env own frames m) (λzz=>none) x)(hk:n+7<=k)(v6:iU.length<=k)
 (md me:LM) {K:gw} (hm:md≠.top)
 (hmd:md=.xN/\me=.vc\/md=.unq/\me=.qq)
 (hb:∀(j:Nat) (S:AS) (y:Str) (sg:a8) (ln:Int) (tok:Str),S.loc.lookup 3=some (.str y)->GI n k S tok->LX S.heap l.cL n sg ln []->S.heap[k]?=some (y4 l n)->Ext iU S.heap (ir n)->sg.length+y.length+tok.length < 1000->(∀x∈sg,x.length=1)->y.length=1->sg.length < j ->
  cE md (y::sg) (ln - (nl y 0)) tok=R->Ex c (B6 env own frames m) body S (rD (pV (y5 l n k iU R md) j) K) dT)
 (YK:∀S,Done l n k iU R S->K .next S) (j:Nat) (S:AS) (h:Act l n k iU R md j S\/Done l n k iU R S) :
 Fu c (B6 env own frames m) "ch" px body K (m+2) l.read (.ref (n+5)) "" k (y5 l n k iU R md) j S:=by
 rcases h with ⟨sg,ln,tok,g,x,hc,e,hl,h1,hj,hR⟩ | d
 . refine .inr ⟨hc,(nV W hk v6 x (Nat.lt_of_add_right_lt hl) hc e m).mono λv H' WE=>e0a3 WE λev x' xC e'=>(a9 _ ev xC ?_)⟩;cases sg with
   | nil =>
     refine .inl ⟨rfl,YK _ ⟨?_,?_,lM xC,e'.iJ v6 _⟩⟩
     . obtain this:R=(tok,[],ln):=by rw [<-hR];cases md <;> rfl
       simp only [this];exact g.heap _
     . have:R=(tok,[],ln):=by rw [<-hR];cases md <;> rfl
       refine rE this ?_;exact x'.ext (P:=λj=>j=k) (Ext.set k _ rfl) λj h1 h2 h3=>Nat.not_le.mpr h2 (h3▸hk)
   | cons y r =>
     have hy:=h1 y (.head _);refine .inr ⟨vd hy,ag 3 rfl (be 3 _ rfl) ?_⟩;obtain hn:nl y ln - nl y 0=ln:=by delta nl;split <;> first | exact (by simp +arith) | exact Int.sub_zero _
     refine hb j _ y r (nl y ln) tok (iu _ _ _) (g.put3 _ _) x' xC e' (af hy▸hl) (λz hz=>h1 z (.tail _ hz)) hy (sE hj) (by refine rE hn ?_;exact hR)
 . exact .inl ⟨d.ci,YK S d⟩
end
theorem xO (y:Str)(ln:Int):nl y (ln - nl y 0)=ln:=by delta nl;split <;> first | exact Int.sub_add_cancel _ (0+1) | exact Int.sub_zero _
theorem y6 (x:Str)(r:a8)(l:Int)(t:Str):cE .xN (x::r) l t=if x=="\"" then (t,r,nl x l) else if x=="\\" then cE .vc r (nl x l) t else cE .xN r (nl x l) (t++x):=rfl
theorem B7 (x:Str)(r:a8)(l:Int)(t:Str):cE .unq (x::r) l t=if isWs x then (t,r,nl x l) else if x=="\\" then cE .qq r (nl x l) t else cE .unq r (nl x l) (t++x):=rfl
theorem B8 (sg:a8)(ln:Int)(t:Str):cE .vc sg ln t=cE .xN sg.tail (nl (sg.headD "") ln) (t++sg.headD ""):=by
 cases sg with
 | nil=>show (t,[],ln)=(t++Str.ofString "",[],ln);rw [lN]
 | cons x r=>rfl
theorem vf (sg:a8)(ln:Int)(t:Str):cE .qq sg ln t=cE .unq sg.tail (nl (sg.headD "") ln) (t++sg.headD ""):=by
 cases sg with
 | nil=>show (t,[],ln)=(t++Str.ofString "",[],ln);rw [lN]
 | cons x r=>rfl
theorem nX {sg:a8}(h:∀x∈sg,x.length=1):(sg.headD "").length<=1/\sg.tail.length+(sg.headD "").length<=sg.length:=by
 cases sg with
 | nil=>exact ⟨by decide,by decide⟩
 | cons x r=>simp [h x (.head _)]
section
variable {c:aP}{mg mb:dZ}{Kf:Frag}{l:iq}
theorem kG (g:GI n k S tok)(x:LX S.heap l.cL n sg ln [])(hc:S.heap[k]?=some (y4 l n))(e:Ext iU S.heap (ir n))(hl:sg.length+tok.length < 1000)(h1:∀x∈sg,x.length=1)
 (hR:cE md sg ln tok=R) (hj:sg.length < j):pV (y5 l n k iU R md) j S:=⟨sg.length,hj,.inl ⟨sg,ln,tok,g,x,hc,e,hl,h1,rfl,hR⟩⟩
inductive WG (l:iq)(n k:Nat)(H:aI)(R:Str×List Str×Int)(tok:Str)(j:Nat)(fl:vC)(ac:AS):Prop
 | mk (e0:fl=.next) (FV:a8) (Re:Int) (I5:Str) (h1:ac.loc.lookup 3=some (.str I5)) (h2:GI n k ac tok) (h3:LX ac.heap l.cL n FV Re []) (h4:ac.heap[k]?=some (y4 l n)) (h5:Ext H ac.heap (ir n)) (h6:FV.length+I5.length+tok.length < 1000) (h7:I5.length<=1) (h8:∀x∈FV,x.length=1) (h9:FV.length < j) (CS:cE .unq FV Re (tok++I5)=R)
theorem Ez (W:Lex c mg mb Kf l)(nQ:dp mg mb "iter" (.builtin "iter")){signs:a8}(x:LX H l.cL n signs line [])(hl:signs.length < 900)(h1:∀x∈signs,x.length=1)(m:Nat) :
 bC c (m+4) (.ref l.get) [.ref (n+5)] H (λv H'=>v=.str (cE .top signs line "").1/\LX H' l.cL n (cE .top signs line "").2.1 (cE .top signs line "").2.2 []/\Ext H H' (ir n)):=by
 generalize hRR:cE .top signs line ""=R;refine W.get.gz W.B.toBase (n:=m+3) ["self"] Ey [(0,.ref (n+5))] (λzz zz=>rfl) rfl rfl (by decide +kernel) λenv own frames be jQ=>?_;have k3:=ar W.a3;have k4:=ar W.a4;have nk:n+7<=H.length:=x.lt;have v6:H.length<=H.length:=aZ _;refine ab (bz (fX (bc (aa 0 rfl rfl (br W.B l.cL k4.2.2 k4.2.1 x.lex (v:=.ref (n+6)) rfl (λzz q=>by cases q) (pw (.inr (ae (n+6) rfl x.pb)) (by simp) ?_))))));simp only [List.map_nil,List.isEmpty_nil,Bool.not_true,jT,if_false];refine aq (ab (aj (cQ (ag 1 rfl (be 1 _ rfl) ?_))));refine ab (aj (bU (.builtin "iter") (bM W.B.toBase (by rfl) nQ.1 nQ.2 ⟨rfl,?_⟩)));refine aw (bc (aa 0 rfl rfl (qb W.B l.cL l.read W.B3 x.lex rfl (ak (cQ (D0 ?_))))));refine ag 2 rfl (be 2 _ rfl) ?_;have WF:Ext H (H++[y4 l n]) (ir n):=⟨by simp,λj hj zz=>et hj⟩
 have x0:LX (H++[y4 l n]) l.cL n signs line []:=x.ext (P:=λzz=>False) ⟨by simp,λj hj zz=>et hj⟩ λj zz zz q=>q;have YL:(H++[y4 l n])[H.length]?=some (y4 l n):=by rw [gn (aZ _)];simp
 refine ab (qd (n:=m+2) (f:=l.read) (self:=.ref (n+5)) (snt:="") rfl (by show m+2+1<=m+3;exact so) W.read.fnAt ?_);refine aa 2 rfl rfl ⟨H.length,rfl,(bQ _ YL),(y5 l n H.length H R .top),signs.length,(.inl ⟨signs,line,"",⟨rfl,rfl,rfl⟩,x0,YL,WF,by rw [show Str.length ""=0 from by decide +kernel];exact dO hl (Nat.le_add_left 900 100),h1,rfl,hRR⟩),(λj S hI=>?_)⟩;rcases hI.symm with d | ⟨sg,ln,tok,g,x,hc,e,hl,h1,hj,hR⟩
 . exact .inl ⟨d.ci,ab (bf (aa 1 rfl d.gi.tok (aH rfl d.lx d.ext)))⟩
 refine .inr ⟨hc,(nV W nk v6 x (Nat.lt_of_add_right_lt hl) hc e m).mono λv H' U5=>e0a3 U5 λev x' xC e'=>(a9 _ ev xC ?_)⟩;cases sg with
 | nil =>
   refine .inl ⟨rfl,ab (bf (aa 1 rfl (g.heap _).tok (aH ?_ ?_ (e'.iJ v6 _))))⟩
   . rw [<-hR];rfl
   . have:R=(tok,[],ln):=by rw [<-hR];rfl
     rw [this];exact x'.ext (P:=λj=>j=H.length) (Ext.set _ _ rfl) λj h1 h2 h3=>Nat.not_le.mpr h2 (h3▸nk)
 | cons y r =>
   have hy:=h1 y (.head _);simp only [List.headD_cons,List.tail_cons,List.length_cons] at *;refine .inr ⟨vd hy,ag 3 rfl (be 3 _ rfl) ?_⟩;clear ev x e hc;generalize hS:({S with heap:=H'}.put 3 (.str y))=ac;have g1:GI n H.length ac tok:=hS▸g.put3 _ _;have Rf:ac.loc.lookup 3=some (.str y):=hS▸iu _ _ _;have x1:LX ac.heap l.cL n r (nl y ln) []:=hS▸x';have GG:ac.heap[H.length]?=some (y4 l n):=hS▸xC;have e1:Ext H ac.heap (ir n):=hS▸e';have D6:∀z∈r,z.length=1:=λz hz=>h1 z (.tail _ hz);clear hS;have wl:(if isWs y then cE .top r (nl y ln) tok else if y=="\"" then cE .xN r (nl y ln) tok else if y=="\\" then cE .qq r (nl y ln) tok else cE .unq r (nl y ln) (tok++y))=R:=hR;refine ab (bz (aL (aa 3 rfl Rf (bc (aa 0 rfl g1.self (br W.B l.cL k3.2.2 k3.2.1 x1.lex (v:=.str gE) rfl (λzz q=>by cases q) (AL (aD ?_))))))));cases hw:(!(Builtin.Str.occurrences gE y 0 gE.length 1).isEmpty) with
   | true =>have HA:isWs y=true:=hw;refine ab (uo ?_);rw [HA] at wl;exact kG g1 x1 GG e1 (dX (Nat.add_le_add_right (Nat.le_succ _) _) hl) D6 wl (sE hj)
   | false =>
     have HA:isWs y=false:=hw;rw [HA] at wl;simp only [jT,if_false] at wl ⊢;refine aq (ab (bz (aL (aa 3 rfl Rf (cQ (jn (aD ?_)))))));cases hq:(y==("\"":Str)) with
     | true =>
       rw [hq] at wl;simp only [if_true] at wl ⊢;refine ab (qd (n:=m+2) (f:=l.read) (self:=.ref (n+5)) (snt:="") rfl (by show m+2+1<=m+3;exact so) W.read.fnAt ?_);refine aa 2 rfl g1.it ⟨H.length,rfl,(bQ _ GG),(y5 l n H.length H R .xN),r.length,(.inl ⟨r,nl y ln,tok,g1,x1,GG,e1,dX (Nat.add_le_add_right (Nat.le_succ _) _) hl,D6,rfl,wl⟩),(λj' S' D5=>?_)⟩;refine qr W be nk v6 .xN .vc (by simp) (.inl ⟨rfl,rfl⟩) (λj2 S2 y2 Il ln2 wn wv g2 x2 yw e2 B9 h2 hy2 FB WH=>?_) (λS3 d3=>aq (aq ⟨0,hj▸Nat.succ_le_of_lt (Nat.le_add_left (Nat.succ 0) _),.inr d3⟩)) j' S' D5;have ii:(if y2=="\"" then (wn,Il,ln2) else if y2=="\\" then cE .vc Il ln2 wn else cE .xN Il ln2 (wn++y2))=R:=by rw [<-WH];simp only [y6,B7,xO]
       refine ab (bz (aL (aa 3 rfl wv (cQ (jn (aD ?_))))));cases wf:(y2==("\"":Str)) with
       | true =>rw [wf] at ii;simp only [if_true] at ii ⊢;refine ab (bf (aa 1 rfl g2.tok ?_));subst ii;exact (aH rfl x2 e2)
       | false =>
         rw [wf] at ii;simp only [jT,if_false] at ii ⊢;refine ab (bz (aL (aa 3 rfl wv (cQ (jn (aD ?_))))));cases yY:(y2==("\\":Str)) with
         | true =>rw [yY] at ii;simp only [if_true] at ii ⊢;refine ab (tJ W be nk v6 g2 x2 (uc B9) yw e2 (λH3 x3 GH e3=>?_) (by rfl));refine e0a1 (nX h2) λq1 q2=>?_;refine aq (aq (ab (eV 1 rfl (g2.put3 _ _).tok (be 1 _ rfl) (aa 3 rfl (iu _ _ _) (km (by simp only [sizeLine];exact ue B9 q1) ?_)))));refine aq (kG ((g2.put3 _ _).y3 _) x3 GH e3 (by rw [len_app];exact uf B9 q2) (λz hz=>h2 z (List.mem_of_mem_tail hz)) (by rw [<-B8];exact ii) (by simp;exact Nat.sub_lt_of_lt FB))
         | false =>rw [yY] at ii;simp only [jT,if_false] at ii ⊢;refine aq (aq (ab (eV 1 rfl g2.tok (be 1 _ rfl) (aa 3 rfl wv (km (by simp only [sizeLine];exact sQ B9) ?_)))));refine aq (kG (g2.y3 _) x2 yw e2 (by rw [len_app];exact sP B9) h2 ii FB)
     | false =>
       rw [hq] at wl;simp only [jT,if_false] at wl ⊢;refine ab (ia (K':=WG l n H.length H R tok j) (bz (aL (aa 3 rfl Rf (cQ (jn (aD ?_)))))) λfl ac ⟨efl,FV,Re,I5,WI,g4,x4,QM,e4,YM,hy4,h4,hj4,hR4⟩=>?_)
       . cases yY:(y==("\\":Str)) with
         | true =>rw [yY] at wl;simp only [if_true] at wl ⊢;refine e0a1 (nX D6) λq1 q2=>?_;refine ab (tJ W be nk v6 g1 x1 (dX (ct (Nat.le_succ _) (b8 ..)) hl) GG e1 (λH3 x3 GH e3=>?_) (by rfl));exact aq ⟨rfl,r.tail,_,r.headD "",iu _ _ _,g1.put3 _ _,x3,GH,e3,dX (Nat.add_le_add_right (Nat.le_succ_of_le q2) _) hl,q1,λz hz=>D6 z (List.mem_of_mem_tail hz),by simp;exact hj▸Nat.lt_succ_of_le (Nat.sub_le _ 1),by rw [<-vf];exact wl⟩
         | false =>rw [yY] at wl;simp only [jT,if_false] at wl ⊢;exact aq ⟨rfl,r,_,y,Rf,g1,x1,GG,e1,af hy▸hl,Nat.le_of_eq hy,D6,sE hj,wl⟩
       refine rE efl ?_;refine ab (eV 1 rfl g4.tok (be 1 _ rfl) (aa 3 rfl WI (km (by simp only [sizeLine];exact sQ YM) ?_)));refine ab (qd (n:=m+2) (f:=l.read) (self:=.ref (n+5)) (snt:="") rfl (by show m+2+1<=m+3;exact so) W.read.fnAt ?_);refine aa 2 rfl (g4.y3 _).it ⟨H.length,rfl,(bQ _ QM),(y5 l n H.length H R .unq),FV.length,(.inl ⟨FV,Re,tok++I5,g4.y3 _,x4,QM,e4,by rw [len_app];exact sP YM,h4,rfl,hR4⟩),(λj' S' D5=>?_)⟩;refine qr W be nk v6 .unq .qq (by simp) (.inr ⟨rfl,rfl⟩) (λj2 S2 y2 Il ln2 wn wv g2 x2 yw e2 B9 h2 hy2 FB WH=>?_) (λS3 d3=>aq (aq ⟨0,hj▸Nat.succ_le_of_lt (Nat.le_add_left (Nat.succ 0) _),.inr d3⟩)) j' S' D5;have ii:(if isWs y2 then (wn,Il,ln2) else if y2=="\\" then cE .qq Il ln2 wn else cE .unq Il ln2 (wn++y2))=R:=by rw [<-WH];simp only [y6,B7,xO]
       refine ab (bz (aL (aa 3 rfl wv (bc (aa 0 rfl g2.self (br W.B l.cL k3.2.2 k3.2.1 x2.lex (v:=.str gE) rfl (λzz q=>by cases q) (AL (aD ?_))))))));cases YN:(!(Builtin.Str.occurrences gE y2 0 gE.length 1).isEmpty) with
       | true =>have Im:isWs y2=true:=YN;rw [Im] at ii;simp only [if_true] at ii ⊢;refine ab (bf (aa 1 rfl g2.tok ?_));refine ii▸?_;exact (aH rfl x2 e2)
       | false =>
         have Im:isWs y2=false:=YN;rw [Im] at ii;simp only [jT,if_false] at ii ⊢;refine ab (bz (aL (aa 3 rfl wv (cQ (jn (aD ?_))))));cases yY:(y2==("\\":Str)) with
         | true =>rw [yY] at ii;simp only [if_true] at ii ⊢;refine ab (tJ W be nk v6 g2 x2 (uc B9) yw e2 (λH3 x3 GH e3=>?_) (by rfl));refine e0a1 (nX h2) λq1 q2=>?_;refine aq (aq (ab (eV 1 rfl (g2.put3 _ _).tok (be 1 _ rfl) (aa 3 rfl (iu _ _ _) (km (by simp only [sizeLine];exact ue B9 q1) ?_)))));refine aq (kG ((g2.put3 _ _).y3 _) x3 GH e3 (by rw [len_app];exact uf B9 q2) (λz hz=>h2 z (List.mem_of_mem_tail hz)) (by rw [<-vf];exact ii) (by simp;exact Nat.sub_lt_of_lt FB))
         | false =>rw [yY] at ii;simp only [jT,if_false] at ii ⊢;refine aq (aq (ab (eV 1 rfl g2.tok (be 1 _ rfl) (aa 3 rfl wv (km (by simp only [sizeLine];exact sQ B9) ?_)))));refine aq (kG (g2.y3 _) x2 yw e2 (by rw [len_app];exact sP B9) h2 ii FB)
theorem gF {H L:aI}(i:Nat):(H++L)[H.length+i]?=L[i]?:=by rw [gn (b8 _ _)];congr 1;exact Nat.add_sub_cancel_left ..
theorem tK {H L:aI}(i:Nat)(v:AO):(H++L).set (H.length+i) v=H++L.set i v:=by simp
theorem vh (W:Lex c mg mb Kf l)(H:aI)(fp:AV)(m:Nat) :
 bC c (m+1) (.ref l.init) [.ref (H.length+1),fp] (H++[.aN [],.inst l.cL H.length]) (λv H'=>v=.none/\H'=H++[.aN (eY 1 fp (H.length+2)),.inst l.cL H.length,.list []]):=by
 refine W.init.gz W.B.toBase ["self","fp"] ["self","fp"] [(0,.ref (H.length+1)),(1,fp)] (λzz zz zz=>rfl) rfl rfl (rfl) λenv own frames be jQ=>?_;obtain zH:∀(lc:dI) (kvs:fq) (l':aI),fT ⟨lc,H++(.aN kvs::.inst l.cL H.length::l')⟩ (H.length+1) H.length l.cL kvs:=λlc kvs l'=>⟨by rw [gF 1];rfl,by obtain this:=gF (H:=H) (L:=.aN kvs::.inst l.cL H.length::l') 0;simpa using this⟩
 obtain WJ:∀(kvs vV:fq) (l':aI),(H++(.aN kvs::.inst l.cL H.length::l')).set H.length (.aN vV)=H++(.aN vV::.inst l.cL H.length::l'):=λkvs vV l'=>tK (H:=H) 0 _;refine ab (aj (av (cg (aa 0 rfl rfl (cP W.B l.cL (ar W.a1).1 (zH _ [] []) (Nat.le_of_ble_eq_true rfl) ?_)))));rw [WJ];refine ab (aj (aa 1 rfl rfl (cg (aa 0 rfl rfl (cP W.B l.cL (ar W.a2).1 (zH _ _ _) (Nat.le_of_ble_eq_true rfl) ?_)))));rw [WJ];refine ab (aj (cQ (cg (aa 0 rfl rfl (cP W.B l.cL (ar W.a3).1 (zH _ _ _) (Nat.le_of_ble_eq_true rfl) ?_)))));rw [WJ];refine ab (aj (eA (bI ⟨by simp,cg (aa 0 rfl rfl (cP W.B l.cL (ar W.a4).1 (kvs:=dC (dC (dC [] "lineno" (.int 1)) "instream" fp) "whitespace" (.str gE)) (d:=H.length) ?_ (Nat.le_of_ble_eq_true rfl) ?_))⟩)))
 . refine ⟨?_,?_⟩
   . rw [List.append_assoc,gF 1];rfl
   . obtain this:=gF (H:=H) (L:=[AO.aN (dC (dC (dC [] "lineno" (.int 1)) "instream" fp) "whitespace" (.str gE)),.inst l.cL H.length]++[.list []]) 0;rw [List.append_assoc];simpa using this
 refine aq ⟨rfl,?_⟩;rw [List.append_assoc];refine (tK (H:=H) 0 _).trans ?_;obtain this:(H++[AO.aN (dC (dC (dC [] "lineno" (.int 1)) "instream" fp) "whitespace" (.str gE)),.inst l.cL H.length]).length=H.length+2:=by simp
 rw [this];rfl
end
@[reducible] def PI (g:Nat->Option AV) (L:dI) (H:aI) (n:Nat):Nat->sU:=λi acc S'=>S'=⟨L,H⟩/\acc=(List.range i).filterMap g/\i<=n
section
variable {c:aP}{C:Cx}{S:AS}{F F':G}{bs az:aA}{s s':Shared}{A:Around}{X:cK}{K:cw}{mg mb:dZ}{pos:Pos}
theorem xP (g:Nat->Option AV)(i:Nat):(List.range (i+1)).filterMap g=(List.range i).filterMap g++(g i).toList:=by rw [List.range_succ,List.filterMap_append];cases h:g i <;> simp [h]
theorem iw {g:Nat->Option AV}{L:dI}{H:aI}{n i:Nat}(hi:i < n)(h:g i=none)(hL:aW S L)(hH:S.heap=H):qS (PI g L H n (i+1) ((List.range i).filterMap g)) S:=by subst hH;exact (hZ L hL rfl (by rw [xP,h];simp) hi)
theorem dH {g:Nat->Option AV}{L:dI}{H:aI}{n i:Nat}{w:AV}(hi:i < n)(h:g i=some w)(hL:aW S L)(hH:S.heap=H):qS (PI g L H n (i+1) ((List.range i).filterMap g++[w])) S:=by subst hH;exact (hZ L hL rfl (by rw [xP,h];simp) hi)
theorem cx {target elt:Expr}{ifs:cz}{sc scope:Scope}{vars:a8}{fs:List (Nat×Str×AV)}{items:bW}{live:aI->Prop}{ac:AS}{Kf:bW->aI->Prop}(g:Nat->Option AV)(iE:jN C ac fs)(hsz:items.length<=sizeLine)(mR:live ac.heap)
 (turn:∀env own,(∀x,scope.names.lookup x=some .local\/scope.names.lookup x=some .cell->aV (qH scope sc env own C.frames C.handled C.n vars) (λzz=>none) x)->∀i y,items[i]?=some y->i < items.length ->
  ko c target elt ifs (qH scope sc env own C.frames C.handled C.n vars) ⟨capLoc 0 fs,ac.heap⟩ (PI g (capLoc 0 fs) ac.heap items.length) i ((List.range i).filterMap g) y)
 (k:Kf ((List.range items.length).filterMap g) ac.heap):rI c C sc scope vars fs (ko c target elt ifs) items live ac Kf:=by
 have hlen:∀i,((List.range i).filterMap g).length<=i:=λi=>by have:=List.length_filterMap_le g (List.range i);simpa using this
 refine ⟨iE,λenv own be=>⟨PI g (capLoc 0 fs) ac.heap items.length,(aH rfl rfl (Nat.zero_le _)),?_,?_,?_⟩⟩
 . rintro i acc S' ⟨rfl,rfl,hi⟩;exact ⟨mR,by have:=hlen i;omega⟩
 . rintro i y acc S' hy ⟨rfl,rfl,hi⟩;exact turn env own be i y hy (bp hy).1
 . rintro acc S' ⟨rfl,rfl,hi⟩;exact k
end
section
variable {c:aP}{C:Cx}{mg mb:dZ}{Kf:Frag}{l:iq}
noncomputable abbrev kH (cL n:Nat):aI:=[.list [],.aN (eY 1 .none (n+3)++[(("read":Str),AV.fn 0 [(("signs":Str),AV.ref n)])]),.inst cL (n+1),.list [],.aN (eY 1 (.ref (n+2)) (n+6)),.inst cL (n+4),.list []]
theorem vi (H:aI)(cL:Addr):LX (H++kH cL H.length) cL H.length [] 1 []:=by refine ⟨?_,by refine rE (gF 1) ?_;rfl,by rw [gF 2];rfl,by rw [gF 4];rfl,by rw [gF 5];rfl,by rw [gF 6];rfl⟩;have:=gF (H:=H) (L:=kH cL H.length) 0;simpa using this
theorem EA (W:Lex c mg mb Kf l)(hf:l6 c fa nU .none "_law_wire" cc P (λzz=>"_law_wire.<locals>._law_piece"))(hb:pY c mg)(H:aI)(m:Nat) :
 bC c (m+3) (.ref fa) [] H (λv H'=>v=.tup [.ref H.length,.ref (H.length+5)]/\H'=H++kH l.cL H.length):=by
 refine hf.gz W.B.toBase (n:=m+2) [] ["signs","stream","_law_piece"] [] (λzz=>rfl) rfl rfl (by decide +kernel) (by decide +kernel) λenv own frames be jQ gH xL xQ=>?_;refine cZ (aj (eA (bI ⟨by simp [sizeLine],ag 0 rfl (be 0 _ rfl rfl) ?_⟩)));refine cZ (aj (mZ W.B l.cL W.keep rfl (n:=m+2) (aZ _) (kW W.B.toBase (by rfl) W.g ⟨rfl,ak (eU (bC.cls W.B W.WB W.B2 ((vh W (H++[.list []]) .none m).mono λv H' WK=>e0a1 WK λe1 e2=>⟨e1,?_⟩)))⟩)));refine rE e2 ?_;refine ag 1 rfl (be 1 _ rfl rfl) ?_;have hn:(H++[AO.list []]).length=H.length+1:=by simp
 rw [hn];refine uO 0 (x:="signs") rfl rfl (rfl) λown' ls DK WL=>?_;show qI c (lE nU.scope env own' frames (m+2) ["signs","stream","_law_piece"]) _ _ _;have P6:=WL "_law_piece" (by decide) (be 2 _ rfl rfl);have hq:env.qual++("_law_piece":Str)="_law_wire.<locals>._law_piece":=by rw [xL];decide +kernel
 refine cZ (td W.B.toBase hb 0 2 [(0,"signs",.ref H.length)] gH hf.tab hq xQ (fz rfl rfl DK (.inl (by rfl)) trivial) (show freeOk tH.scope ["signs"]=true by decide +kernel) W.site rfl P6 ?_);rw [List.append_assoc];have zH:∀(lc:dI),fT ⟨lc,H++([AO.list []]++[.aN (eY 1 .none (H.length+1+2)),.inst l.cL (H.length+1),.list []])⟩ (H.length+2) (H.length+1) l.cL (eY 1 .none (H.length+3)):=λlc=>⟨by rw [gF 2];rfl,by rw [gF 1];rfl⟩
 refine cZ (aj (aa 2 rfl rfl (cg (aa 1 rfl rfl (cP W.B l.cL (ar W.a5).1 (zH _) (Nat.le_of_ble_eq_true rfl) ?_)))));rw [tK 1];refine cZ (bf (cY (aw (aa 0 rfl rfl (ak (mZ W.B l.cL W.keep rfl (n:=m+2) (aZ _) (kW W.B.toBase (by rfl) W.g ⟨rfl,ak (aa 1 rfl rfl (bC.cls W.B W.WB W.B2 ((vh W _ _ m).mono λv H' WM=>e0a1 WM λe1 e2=>(aH e1 ?_ ?_))))⟩)))))))
 . simp [sizeLine]
 . rw [e2];have hl:(H++([AO.list []]++[AO.aN (eY 1 .none (H.length+1+2)),.inst l.cL (H.length+1),.list []]).set 1 (.aN (dC (eY 1 .none (H.length+3)) "read" (.fn 0 ([(0,("signs":Str),AV.ref H.length)].map (·.2)))))).length=H.length+4:=by simp
   rw [hl,List.append_assoc];exact ⟨rfl,rfl⟩
end
noncomputable def xR:lJ:=de kE 13
noncomputable def bu:lJ:=de kE 14
noncomputable def xS:lJ:=de bu.body 2
noncomputable def xT:lJ:=de bu.body 3
noncomputable def qs:lJ:=de kE 15
noncomputable def nY:lJ:=de kE 16
noncomputable def eQ:lJ:=de kE 17
noncomputable def wordOf (sign:Str)(n:Int):Str:=if n.fmod 2=0 then ("\""++sign)++" \\\"\"" else ("\\"++sign)++"\\ \"\n"
section
variable {c:aP}{C:Cx}{S:AS}{X:cK}{K:cw}{mg mb:dZ}{Kf:Frag}{l:iq}
theorem Io {K:Bool->cR}(k:K (i != 0) S):Tr c C (.int i) S K X:=λA F bs s r hA z hv=>by refine e1a0 hv.inv λt o1=>?_;obtain rfl:=o1;exact WP.kept z λQ E q=>PyProof.Rows.truthy_int (q _ _ (.refl ..) (ae _ rfl k))
theorem xU (B:Base c mg mb)(hf:gy c fa xR .none)(sign:Str)(hs:sign.length<=10)(n:Int)(m:Nat) :
 bC c (m+1) (.ref fa) [.str sign,.int n] [] (λv zz=>v.under 0=true/\v=.str (wordOf sign n)):=by
 refine hf.gz B ["sign","number"] ["sign","number"] [(0,.str sign),(1,.int n)] (λzz zz zz=>rfl) rfl rfl rfl λenv own frames be jQ=>?_;refine ab (bf (pM (fX (bS (aa 1 rfl rfl (av (j6 (by decide) (Io ?_))))))));have sz:∀x y:Str,x.length<=1->y.length<=4->(x++sign).length<=11/\((x++sign)++y).length<=15:=λx y h1 h2=>by simp only [len_app];exact Pk h1 hs h2
 rw [show (n.fmod 2 != 0)=!(n.fmod 2==0) from rfl];cases h:(n.fmod 2==0) with
 | true =>
   refine bS (bS (cQ (aa 0 rfl rfl (mH ?_ (cQ (mH ?_ ⟨rfl,?_⟩))))))
   . have:=(sz "\"" " \\\"\"" (by decide +kernel) (by decide +kernel)).1;simp only [len_app,sizeLine] at *;exact Mi this
   . have:=(sz "\"" " \\\"\"" (by decide +kernel) (by decide +kernel)).2;simp only [len_app,sizeLine] at *;exact Mu this
   . unfold wordOf;rw [if_pos (by simpa using h)]
 | false =>
   refine bS (bS (cQ (aa 0 rfl rfl (mH ?_ (cQ (mH ?_ ⟨rfl,?_⟩))))))
   . have:=(sz "\\" "\\ \"\n" (by decide +kernel) (by decide +kernel)).1;simp only [len_app,sizeLine] at *;exact Mi this
   . have:=(sz "\\" "\\ \"\n" (by decide +kernel) (by decide +kernel)).2;simp only [len_app,sizeLine] at *;exact Mu this
   . unfold wordOf;rw [if_neg (by simpa using h)]
end
structure dk where
 p:Nat
 l:Nat
 c:Nat
 out:Bool
noncomputable def sgn (c:Nat):Str:=⟨#[c]⟩
noncomputable def fP (c:Nat):Str:=sgn c++" \""
noncomputable def oX (e:dk):AV:=.tup [.int e.p,.int e.l,.str (fP e.c),.bool e.out]
structure Net where
 ev:List dk
 kept:List (Nat×Nat)
 aB:Nat->aS
 closed:aS
 q:Nat->List (Nat×Bool)
noncomputable def nZ (x:Nat×Bool):a8:=if x.2 then [⟨#[92]⟩,sgn x.1,⟨#[92]⟩,⟨#[32]⟩,⟨#[34]⟩,⟨#[10]⟩] else [⟨#[34]⟩,sgn x.1,⟨#[32]⟩,⟨#[92]⟩,⟨#[34]⟩,⟨#[34]⟩]
noncomputable abbrev kI (l:List (Nat×Bool)):a8:=l.flatMap nZ
theorem jt (c:Nat)(n:Int):chars (wordOf (sgn c) n)=nZ (c,n.fmod 2 != 0):=by
 delta wordOf nZ;by_cases h:n.fmod 2=0
 . rw [if_pos h];refine (af h)▸?_;rfl
 . rw [if_neg h];refine (af (show (n.fmod 2 != 0)=true by simpa using h))▸?_;rfl
theorem qt (x:Nat×Bool):(nZ x).length=6:=by delta nZ;split <;> rfl
theorem Ca (x:Nat×Bool):∀s∈nZ x,s.length=1:=by
 delta nZ;intro s hs
 split at hs <;> simp only [List.mem_cons,List.not_mem_nil,or_false] at hs <;> rcases hs with rfl | rfl | rfl | rfl | rfl | rfl <;> rfl
theorem qu (l:List (Nat×Bool)):(kI l).length=6*l.length:=by
 induction l with
 | nil=>rfl
 | cons x l ih=>simp only [kI,List.flatMap_cons,List.length_append,qt];have:(kI l).length=_:=ih;unfold kI at this;rw [this,List.length_cons];exact MN
theorem Cb (l:List (Nat×Bool)):∀s∈kI l,s.length=1:=λs hs=>by refine e1a1 (List.mem_flatMap.mp hs) λx zz h=>?_;exact Ca x s h
theorem y7 (l:List (Nat×Bool))(x:Nat×Bool):kI (l++[x])=kI l++nZ x:=by simp
theorem xV (c d:Nat):((⟨#[c]⟩:Str)==(⟨#[d]⟩:Str))=(c==d):=by
 by_cases h:c=d
 . subst h;simp
 . obtain e:(⟨#[c]⟩:Str)≠⟨#[d]⟩:=λq=>h (by injection q with q;simpa using q);exact (af (beq_eq_false_iff_ne.mpr e))▸(af (beq_eq_false_iff_ne.mpr h))▸rfl
theorem Cc (x:Nat×Bool)(h1:x.1≠34)(h2:x.1≠92)(r:a8)(ln:Int):∃I6,cE .top (nZ x++r) ln ""=(fP x.1,r,I6):=by
 obtain ⟨c,b⟩:=x;obtain YO:isWs ⟨#[34]⟩=false:=by decide +kernel
 obtain YQ:isWs ⟨#[92]⟩=false:=by decide +kernel
 obtain w10:isWs ⟨#[10]⟩=true:=by decide +kernel
 obtain YR:((⟨#[34]⟩:Str)=="\"")=true:=rfl;obtain FW:((⟨#[92]⟩:Str)=="\"")=false:=rfl;obtain WN:((⟨#[92]⟩:Str)=="\\")=true:=rfl;obtain P7:((⟨#[34]⟩:Str)=="\\")=false:=rfl;obtain P8:((⟨#[32]⟩:Str)=="\"")=false:=rfl;obtain P9:((⟨#[32]⟩:Str)=="\\")=false:=rfl;obtain c1:((sgn c)==("\"":Str))=false:=(xV c 34).trans (by simpa using h1);obtain c2:((sgn c)==("\\":Str))=false:=(xV c 92).trans (by simpa using h2);cases b with
 | false =>
   obtain key:∃I6,cE .top (⟨#[34]⟩::sgn c::⟨#[32]⟩::⟨#[92]⟩::⟨#[34]⟩::⟨#[34]⟩::r) ln ""=(fP c,r,I6):=by rw [P4,if_neg (Bool.eq_false_iff.mp YO),if_pos YR,y6,if_neg (Bool.eq_false_iff.mp c1),if_neg (Bool.eq_false_iff.mp c2),y6,if_neg (Bool.eq_false_iff.mp P8),if_neg (Bool.eq_false_iff.mp P9),y6,if_neg (Bool.eq_false_iff.mp FW),if_pos WN,WC,y6,if_pos YR];exact ⟨_,rfl⟩
   exact key
 | true =>
   obtain key:∃I6,cE .top (⟨#[92]⟩::sgn c::⟨#[92]⟩::⟨#[32]⟩::⟨#[34]⟩::⟨#[10]⟩::r) ln ""=(fP c,r,I6):=by rw [P4,if_neg (Bool.eq_false_iff.mp YQ),if_neg (Bool.eq_false_iff.mp FW),if_pos WN,P5,B7,if_neg (Bool.eq_false_iff.mp YQ),if_pos WN,P5,B7,if_neg (Bool.eq_false_iff.mp YO),if_neg (Bool.eq_false_iff.mp P7),B7,if_pos w10];exact ⟨_,rfl⟩
   exact key
noncomputable def Net.keep (t:Net)(p:Nat):Net:={t with kept:=t.kept++[(p,t.ev.length)]}
noncomputable def upd {α:Type}(f:Nat->α)(i:Nat)(v:α):Nat->α:=λj=>if j=i then v else f j
noncomputable def Net.send (t:Net)(l:Nat)(x:Nat×Bool):Net:={t with q:=upd t.q l (t.q l++[x])}
noncomputable def Net.note (t:Net)(l:Nat)(c:Nat):Net:={t with aB:=upd t.aB l (t.aB l++[c])}
noncomputable def Net.log (t:Net)(e:dk):Net:={t with ev:=t.ev++[e]}
noncomputable def Net.close (t:Net)(l:Nat):Net:={t with closed:=t.closed++[l]}
noncomputable def Net.read (t:Net)(l:Nat)(r:List (Nat×Bool)):Net:={t with q:=upd t.q l r}
noncomputable def odd (n:Nat):Bool:=n % 2 != 0
noncomputable def Net.has (t:Net)(p:Nat):Bool:=t.kept.any λk=>k.1==p
noncomputable def eJ (t:Net)(p:Nat):Nat->Net
 | 0=>t.keep p
 | i+1=>if i=p then eJ t p i else (eJ t p i).send (3*p+i) (32,odd t.ev.length)
noncomputable def mark (t:Net)(p:Nat):Net:=eJ t p 3
noncomputable def take (t:Net)(g r:Nat):Net×Str :=
 match t.q (3*g+r) with
 | []=>(t.read (3*g+r) [],"")
 | (c,_)::rest =>
   let t1:=t.read (3*g+r) rest
   if c=32 then ((if t1.has r then t1 else mark t1 r).close (3*g+r),fP c)
   else ((if t1.has r&&!t1.closed.contains (3*g+r) then t1.note (3*g+r) c else t1).log ⟨r,3*g+r,c,false⟩,fP c)
noncomputable abbrev eR (l:List (Nat×Nat)):List (Int×AV):=l.map λp=>((p.1:Int),AV.int p.2)
noncomputable abbrev ei (l:aS):bW:=l.map λc=>.str (fP c)
structure CH (cL:Nat)(t:Net)(H:aI):Prop where
 wire:∀i,i < 9->∃ln,LX H cL (7*i) (kI (t.q i)) ln []
 log:H[63]?=some (.list (t.ev.map oX))
 kept:H[64]?=some (.bt (eR t.kept))
 aB:∀i,i < 9->H[65+i]?=some (.list (ei (t.aB i)))
 closed:H[74]?=some (.list (t.closed.map λ(n:Nat)=>AV.int n))
section
variable {cL:Nat}{t:Net}{H H':aI}
theorem LX.out {n:Nat}{sg:a8}(x:LX H cL n sg ln [])(o:AO)(hk:k < n\/n+7<=k):LX (H.set k o) cL n sg ln [] :=
 x.ext (Ext.set (P:=(·=k)) k o rfl) (λj h1 h2 e=>Pc h2 e h1 hk)
theorem CH.len (x:CH cL t H):75<=H.length:=(bp x.closed).1
theorem CH.EB (x:CH cL t H)(p:Nat):CH cL (t.keep p) (H.set 64 (.bt (eR (t.keep p).kept))) :=
 ⟨λi hi=>e1a0 (x.wire i hi) λln w=>⟨ln,w.out _ (.inr (Nl hi))⟩,(cH (by decide)).trans x.log,lM x.kept,λi hi=>(cH (LQ)).trans (x.aB i hi),(cH (by decide)).trans x.closed⟩
theorem CH.Ce (x:CH cL t H)(e:dk):CH cL (t.log e) (H.set 63 (.list ((t.log e).ev.map oX))) :=
 ⟨λi hi=>let ⟨ln,w⟩:=x.wire i hi;⟨ln,w.out _ (.inr (Nk hi))⟩,lM x.log,(cH (by decide)).trans x.kept,λi hi=>(cH (LP)).trans (x.aB i hi),(cH (by decide)).trans x.closed⟩
theorem CH.Cf (x:CH cL t H)(l:Nat):CH cL (t.close l) (H.set 74 (.list ((t.close l).closed.map λ(n:Nat)=>AV.int n))) :=
 ⟨λi hi=>let ⟨ln,w⟩:=x.wire i hi;⟨ln,w.out _ (.inr (Nm hi))⟩,(cH (by decide)).trans x.log,(cH (by decide)).trans x.kept,λi hi=>(cH (Np hi)).trans (x.aB i hi),lM x.closed⟩
theorem CH.EC (x:CH cL t H)(l c:Nat)(hl:l < 9):CH cL (t.note l c) (H.set (65+l) (.list (ei (t.aB l++[c])))):=by
 refine ⟨λi hi=>e1a0 (x.wire i hi) λln w=>⟨ln,w.out _ (.inr (Oo hi))⟩,(cH (MQ)).trans x.log,(cH (MR)).trans x.kept,λi hi=>?_,(cH (Nj hl)).trans x.closed⟩;show (H.set (65+l) _)[65+i]?=some (.list (ei (upd t.aB l (t.aB l++[c]) i)));delta upd;by_cases e:i=l
 . subst e;rw [if_pos rfl];exact lM (x.aB i hi)
 . refine (af (if_neg e))▸?_;exact (cH (O3 e)).trans (x.aB i hi)
theorem CH.xW (x:CH cL t H)(l:Nat)(it:Nat×Bool)(hl:l < 9):CH cL (t.send l it) (H.set (7*l) (.list ((kI (t.q l)++nZ it).map .str))):=by
 refine ⟨λi hi=>?_,(cH (Nn hl)).trans x.log,(cH (MT)).trans x.kept,λi hi=>(cH (Oq hl)).trans (x.aB i hi),(cH (MU)).trans x.closed⟩;show ∃ln,LX _ cL (7*i) (kI (upd t.q l (t.q l++[it]) i)) ln [];refine e1a0 (x.wire i hi) λln w=>?_;delta upd;by_cases e:i=l
 . subst e;rw [if_pos rfl,y7];exact ⟨ln,w.vb⟩
 . refine (af (if_neg e))▸?_;exact ⟨ln,w.out _ (O4 e)⟩
theorem CH.xX (x:CH cL t H)(l:Nat)(r:List (Nat×Bool))(hl:l < 9)(w:LX H' cL (7*l) (kI r) ln [])(e:Ext H H' (ir (7*l))):CH cL (t.read l r) H':=by
 obtain hlen:=x.len;have sm:∀j,63<=j->j < 75->H'[j]?=H[j]?:=λj h1 h2=>e.same j (Mg hlen h2) (λq=>by obtain this:=q.2;exact NZ h1 q hl);refine ⟨λi hi=>?_,(sm 63 (VQ) (LI)).trans x.log,(sm 64 (VR) (LJ)).trans x.kept,λi hi=>(sm _ (MO) (LZ hi)).trans (x.aB i hi),(sm 74 (VS) (LK)).trans x.closed⟩;show ∃ln,LX _ cL (7*i) (kI (upd t.q l r i)) ln [];delta upd;by_cases q:i=l
 . subst q;rw [if_pos rfl];exact ⟨_,w⟩
 . refine (af (if_neg q))▸?_;refine e1a0 (x.wire i hi) λln w'=>?_;exact ⟨ln,w'.ext e (λj h1 h2 h3=>by obtain this:=h3.1;obtain this:=h3.2;exact O7 h1 h3 h2 q)⟩
end
noncomputable def posOf:Stmt->Pos
 | .FunctionDef _ _ _ _ _ _ _ _ _ p=>p
 | _=>⟨0,0,0,0⟩
noncomputable def Ip (ss:eD)(i:Nat):Nat:=((ss[i]?.map posOf).getD ⟨0,0,0,0⟩).line
noncomputable def lA (p:Pos):Str:=if p.line==Ip bu.body 2 then "_law_course.<locals>._law_mark" else "_law_course.<locals>._law_take"
noncomputable def wH:jJ:=⟨"_law_mark","_law_course.<locals>._law_mark",xS.params,.stmts xS.body,xS.scope⟩
noncomputable def wI:jJ:=⟨"_law_take","_law_course.<locals>._law_take",xT.params,.stmts xT.body,xT.scope⟩
structure oY where
 wire:Addr
 word:Addr
structure ED (c:aP)(mg mb:dZ)(Kf:Frag)(l:iq)(b:oY):Prop where
 V:Lex c mg mb Kf l
 mod:pY c mg
 wire:∃cc P,l6 c b.wire nU .none "_law_wire" cc P (λzz=>"_law_wire.<locals>._law_piece")
 FX:mg "_law_wire"=some (.ref b.wire)
 word:gy c b.word xR .none
 Cg:mg "_law_word"=some (.ref b.word)
 mf:dp mg mb "len" (.builtin "len")
 ju:dp mg mb "range" (.type "range")
 lO:dp mg mb "enumerate" (.type "enumerate")
 vj:dp mg mb "iter" (.builtin "iter")
 mark:c.ay 1=wH
 take:c.ay 2=wI
section
variable {c:aP}{C:Cx}{S:AS}{X:cK}{K:cw}{mg mb:dZ}{Kf:Frag}{l:iq}{b:oY}{pos:Pos}
theorem Ci {K K':sU}(h:oR c C pos es S K' X)(hk:∀f S,K' f S->K f S):oR c C pos es S K X:=λA F bs s hA z=>(h A F bs s hA z).mono hk λzz zz q=>q
inductive Qa (c:aP)(n:Nat)(fa:Addr)(K:cw)(vs:bW)(S:AS):Prop
 | mk (hu:AV.bL 0 vs=true) (r:AV) (hc:bC c n (.ref fa) vs [] (λv zz=>v.under 0=true/\v=r)) (k:K r S)
theorem rV {f:Str}{fp:Pos}{fa:Addr}{args:cz}{n:Nat}(B:Base c mg mb)(hh:C.handled=none)(hn:n<=C.n)(hk:C.env.kindOf f=some .globalImplicit)(hg:mg f=some (.ref fa))(nO:FnAt c fa)
 (h:oR c C pos args S (Qa c n fa K) X)
 (hd:(f==("__debug__":Str))=false:=by decide +kernel)
 (he:eval (.Call (.Name f fp) args [] pos) C.env=(do callWith pos (<-eval (.Name f fp) C.env) [] (backTo pos (starEach args C.env)) (backToKw pos (keywordEach [] C.env))):=by rfl)
 (hl:mM (backTo pos (starEach args C.env))=false:=by rfl):Ev c C (.Call (.Name f fp) args [] pos) S K X :=
 rA hh hn (kW B hk hg (a9 fa rfl nO (Ci h λvs ac q4=>q4.casesOn λhu P hc k=>(bC.hide hc hu).mono λv H' q5=>e0a1 q5 λe p=>by clear q5 hc;subst e p;exact k)) hd) he hl
noncomputable abbrev fJ:AV:=.lst ((List.range 9).map λi=>.tup [.ref (7*i),.ref (7*i+5)])
noncomputable abbrev jv:AV:=.lst ((List.range 9).map λi=>.ref (65+i))
noncomputable abbrev lP:fq:=[("kept",.ref 64),("log",.ref 63),("wires",fJ)]
noncomputable abbrev lQ:fq:=[("_law_mark",.fn 1 lP),("closed",.ref 74),("kept",.ref 64),("log",.ref 63),("noted",jv),("wires",fJ)]
theorem vk (n:Nat):((n:Int).fmod 2 != 0)=odd n:=by
 unfold odd;have h:((n:Int).fmod 2)=((n % 2:Nat):Int):=by rw [Int.fmod_eq_emod_of_nonneg _ (by decide)];exact LN
 rw [h];rcases Nat.mod_two_eq_zero_or_one n with e | e <;> rw [e] <;> rfl
theorem wJ (l:List (Nat×Nat))(p:Nat):(b9 (eR l) (p:Int)).isSome=l.any λk=>k.1==p:=by
 induction l with
 | nil=>rfl
 | cons k l ih =>
   unfold b9 at ih ⊢;rw [List.any_cons,eR,List.map_cons,List.find?_cons];by_cases e:k.1=p
   . subst e;simp
   . have e1:decide (((k.1:Int),AV.int k.2).1=(p:Int))=false:=decide_eq_false (by show ¬(k.1:Int)=p;exact O5 e);have e2:(k.1==p)=false:=beq_eq_false_iff_ne.mpr e;rw [e1,e2,Bool.false_or];exact ih
theorem n4 (t:Net)(p:Nat):(b9 (eR t.kept) (p:Int)).isSome=t.has p:=wJ t.kept p
end
structure Bd (t:Net):Prop where
 ev:t.ev.length<=40
 kept:t.kept.length<=40
 closed:t.closed.length<=40
 aB:∀i,(t.aB i).length<=40
 q:∀i,(t.q i).length<=40
section
variable {c:aP}{C:Cx}{S:AS}{X:cK}{K:cw}{mg mb:dZ}{Kf:Frag}{l:iq}{b:oY}{pos:Pos}
theorem rW (t:Net){p i:Nat}(h:i≠p):eJ t p (i+1)=(eJ t p i).send (3*p+i) (32,odd t.ev.length):=if_neg h
theorem rX (t:Net){p i:Nat}(h:i=p):eJ t p (i+1)=eJ t p i:=if_pos h
theorem rY (t:Net)(p i:Nat):(eJ t p i).ev=t.ev:=by
 induction i with
 | zero=>rfl
 | succ i ih=>dsimp only [eJ];split;exact ih;exact ih
set_option tactic.hygienic true in
theorem Cj (t:Net)(p i:Nat)(h:∀i,(t.q i).length<=40)(n:Nat):((eJ t p i).q n).length<=40+i:=by
 induction i with
 | zero=>exact h n
 | succ i ih =>
   dsimp only [eJ]
   split
   . exact Mq ih
   . show (upd (eJ t p i).q _ _ n).length<=_;delta upd
     split
     . rename_i e;subst e;simp;exact OT ih
     . exact Mq ih
theorem qv (i:Nat)(hi:i < 9):((List.range 9).map λi=>AV.tup [.ref (7*i),.ref (7*i+5)])[((i:Int)).toNat]?=some (AV.tup [.ref (7*i),.ref (7*i+5)]):=by simp only [Int.toNat_natCast,cj,List.getElem?_range hi];rfl
theorem xY (G:ED c mg mb Kf l b){H:aI}{t:Net}(x:CH l.cL t H){p:Nat}(hp:p < 3)(t3:t.has p=false)(hb:Bd t)(m:Nat) :
 gx c (m+2) (.fn 1 lP) [.int p] H (λv H'=>v=.none/\CH l.cL (mark t p) H'):=by
 refine gx.Ve G.V.B.toBase wH G.mark ["process"] ["kept","log","wires"] ["process","kept","log","wires","taker"] [(1,.ref 64),(2,.ref 63),(3,fJ),(0,.int p)] (λzz zz=>rfl) rfl rfl rfl (by decide +kernel) (by decide +kernel) λenv own frames be jQ=>?_;refine Bg ?_;have hB:=G.V.B.toBase;refine ab (aj (bU (.builtin "len") (bM hB (by rfl) G.mf.1 G.mf.2 ⟨rfl,ak (aa 2 rfl rfl (nM (.inr (ae 63 rfl x.log)) (by rw [List.length_map];have:=hb.ev;exact L8 this) (lr (aa 1 rfl rfl (aa 0 rfl rfl (iZ 64 (p:Int) (eR t.kept) rfl rfl x.kept ?_ ?_))))))⟩)))
 . rw [List.length_map];have:=hb.kept;simp [sizeLine];exact NJ this
 have BQ:b9 (eR t.kept) (p:Int)=none:=by have:=n4 t p;rw [t3] at this;exact Option.not_isSome_iff_eq_none.mp (by rw [this];decide)
 rw [qm _ BQ,List.length_map];have x0:CH l.cL (t.keep p) (H.set 64 (.bt (eR t.kept++[((p:Int),AV.int (t.ev.length:Nat))]))):=by
  have:=x.EB p;have e:eR (t.keep p).kept=eR t.kept++[((p:Int),AV.int (t.ev.length:Nat))]:=by unfold Net.keep eR;simp
  rw [e] at this;exact this
 generalize H.set 64 (.bt (eR t.kept++[((p:Int),AV.int (t.ev.length:Nat))]))=l9 at x0;refine ab (d8 rfl (g8 (bM hB (by rfl) G.ju.1 G.ju.2 ⟨rfl,ak (av (a9 3 rfl (by decide) ?_))⟩)));refine ⟨λi S'=>aW S' [(0,.int p),(1,.ref 64),(2,.ref 63),(3,fJ)]/\CH l.cL (eJ t p i) S'.heap,⟨aW.of rfl,x0⟩,λzz zz zz=>trivial,?_,?_⟩
 . rintro i y S' hy ⟨hL,hx⟩;have hi:i < 3:=by have:=(bp hy).1;simpa using this
   rw [cj,List.getElem?_range hi] at hy;cases hy;refine ag 4 rfl (be 4 _ rfl rfl) (bV _ (hL.put (i:=4) (v:=.int i) rfl) ?_);show Ex c _ _ ⟨[(0,.int p),(1,.ref 64),(2,.ref 63),(3,fJ),(4,.int i)],S'.heap⟩ _ dT;generalize S'.heap=tz at hx;refine ab (bz (aL (aa 4 rfl rfl (aa 0 rfl rfl (wD (aD ?_))))));by_cases Rg:i=p
   . have e1:((i:Int) != (p:Int))=false:=by subst Rg;simp
     rw [e1];refine aq (aq ⟨aW.of rfl,?_⟩);rw [rX t Rg];exact hx
   . have e1:((i:Int) != (p:Int))=true:=by rw [bne_iff_ne];exact HU Rg
     rw [e1];have EE:3*p+i < 9:=BD hp hi;refine e1a0 (hx.wire (3*p+i) EE) λln w=>?_;refine ab (bw (bT "list" "list.extend" PySem.F.plainAttrs_list PySem.F.slot_list_extend PySem.F.type_list_extend ?_) (rfl));refine bq (bq (aa 3 rfl rfl ?_));refine bS (bS (av (aa 0 rfl rfl (sS ?_ (aa 4 rfl rfl (j0 ?_))))))
     . exact IntMulOk.of_right (intBits_le_64 (D9) (Eb hp))
     refine ⟨bH (.inl rfl),cD (y:=.tup [.ref (7*(3*p+i)),.ref (7*(3*p+i)+5)]) (.inl rfl) (Md) (Mk hp hi) ?_ ?_⟩
     . rw [show (3*(p:Int)+(i:Int))=((3*p+i:Nat):Int) by exact HR];exact qv _ EE
     refine av ⟨cB,dg (by decide) (by decide) rfl ⟨fB w.sg rfl,?_⟩⟩;have oO:(eJ t p i).ev.length<=40:=by rw [rY];exact hb.ev
     refine ak (rV (n:=m+1) hB rfl (aZ _) (by rfl) G.Cg G.word.fnAt ?_);refine aw (cQ (ak (bU (.builtin "len") (bM hB (by rfl) G.mf.1 G.mf.2 ⟨rfl,ak (aa 2 rfl rfl (nM (.inr (ae 63 rfl hx.log)) (by rw [List.length_map];exact L8 oO) ?_))⟩))));rw [List.length_map,rY];refine ⟨rfl,_,xU hB G.word " " (by decide) _ m,?_⟩;refine rS rfl w.sg ?_ ?_
     . rw [List.length_map,qu];have h1:=Cj t p i hb.q (3*p+i);have h2:(wordOf " " (t.ev.length:Nat)).cps.size=6:=by have:=congrArg List.length (jt 32 (t.ev.length:Nat));rw [qt,mT] at this;exact this
       rw [h2];simp only [sizeLine];exact Oi hi h1
     refine aq (aq ⟨aW.of rfl,?_⟩);have e2:signs (wordOf " " (t.ev.length:Nat))=(nZ (32,odd t.ev.length)).map .str:=by rw [uz,<-vk];exact congrArg _ (jt 32 _)
     rw [e2,<-List.map_append];have:=hx.xW (3*p+i) (32,odd t.ev.length) EE;rw [rW t Rg];exact this
 . rintro S' ⟨hL,hx⟩;exact aq ⟨rfl,hx⟩
end
theorem rp (t:Net)(p i:Nat):(eJ t p i).closed=t.closed/\(eJ t p i).aB=t.aB:=by
 induction i with
 | zero=>exact ⟨rfl,rfl⟩
 | succ i ih =>
   by_cases h:i=p
   . rw [rX t h];exact ih
   . rw [rW t h];exact ih
theorem Ck (c:Nat):(fP c==("  \"":Str))=decide (c=32):=by
 by_cases h:c=32
 . subst h;decide +kernel
 . rw [decide_eq_false h,beq_eq_false_iff_ne];intro e;obtain e2:(fP c).cps=#[c,32,34]:=rfl;obtain e3:("  \"":Str).cps=#[32,32,34]:=rfl;rw [e] at e2;rw [e3] at e2;injection e2 with e2;injection e2 with e2 _;exact h e2.symm
theorem Iq (c:Nat):(fP c != ("":Str))=true:=by
 rw [bne_iff_ne];intro e;obtain this:=congrArg (λs:Str=>s.cps.size) e;obtain e2:(fP c).cps=#[c,32,34]:=rfl
 skip
 have h3:(3:Nat)=("":Str).cps.size:=this;exact absurd h3 (by decide)
section
variable {c:aP}{C:Cx}{S:AS}{X:cK}{K:cw}{mg mb:dZ}{Kf:Frag}{l:iq}{b:oY}{pos:Pos}
theorem gx.mono {K K':AV->aI->Prop}(h:gx c n fv args H K)(hk:∀v H',K v H'->K' v H'):gx c n fv args H K' :=
 λA F bs s r rs fr h1 h2 h3 h4 h5 wd hf hv=>codeAny_mono (h A F bs s r rs fr h1 h2 h3 h4 h5 wd hf hv) λr s' q1x=>by obtain ⟨F',az,v,H',rv,own,e1,e2,e3,e4,e5,e6⟩:=q1x;exact ⟨F',az,v,H',rv,own,e1,e2,e3,e4,e5,hk v H' e6⟩
theorem xZ (G:ED c mg mb Kf l b){H:aI}{t:Net}(x:CH l.cL t H){g r:Nat}(hg:g < 3)(hr:r < 3)(hb:Bd t)(hq:∀i,∀y∈t.q i,y.1≠34/\y.1≠92)(m:Nat) :
 gx c (m+6) (.fn 2 lQ) [.int g,.int r] H (λv H'=>v=.str (take t g r).2/\CH l.cL (take t g r).1 H'):=by
 have hB:=G.V.B.toBase;have h9:3*g+r < 9:=BD hg hr;refine gx.Ve hB wI G.take ["giver","taker"] ["_law_mark","closed","kept","log","noted","wires"] ["giver","taker","_law_mark","closed","kept","log","noted","wires","line","word"]
  [(2,.fn 1 lP),(3,.ref 74),(4,.ref 64),(5,.ref 63),(6,jv),(7,fJ),(0,.int g),(1,.int r)] (λzz zz zz=>rfl) rfl rfl rfl (by decide +kernel) (by decide +kernel) λenv own frames be jQ=>?_
 refine Bg ?_;refine ab (aj (bS (bS (av (aa 0 rfl rfl (sS ?_ (aa 1 rfl rfl (j0 (ag 8 rfl (be 8 _ rfl rfl) ?_)))))))))
 . exact IntMulOk.of_right (intBits_le_64 (D9) (Eb hg))
 have eln:(3*(g:Int)+(r:Int))=((3*g+r:Nat):Int):=HR;rw [eln];generalize hL:([(2,.fn 1 lP),(3,.ref 74),(4,.ref 64),(5,.ref 63),(6,jv),(7,fJ),(0,.int g),(1,.int r),(8,.int (3*g+r:Nat))]:dI)=L;have e0:(AS.mk [(2,.fn 1 lP),(3,.ref 74),(4,.ref 64),(5,.ref 63),(6,jv),(7,fJ),(0,.int g),(1,.int r)] H).put 8 (.int (3*g+r:Nat))=⟨L,H⟩:=by subst hL;rfl
 rw [e0];refine e1a0 (x.wire _ h9) λln w=>?_;have hlen:(kI (t.q (3*g+r))).length < 900:=by rw [qu];have:=hb.q (3*g+r);exact NH this
 have gt:=Ez G.V G.vj w hlen (Cb _) (m+1);refine ab (aj (cT G.V.B l.cL l.get G.V.P1 rfl (n:=m+5) (aZ _) ?_));refine bq (bq (aa 7 rfl (by subst hL;rfl) (aa 8 rfl (by subst hL;rfl) ⟨bH (.inl rfl),cD (y:=.tup [.ref (7*(3*g+r)),.ref (7*(3*g+r)+5)]) (.inl rfl) (Mc) (Mj hg hr) (qv _ h9) ?_⟩)));refine av ⟨cB,dg (by decide) (by decide) rfl ?_⟩;refine ⟨7*(3*g+r)+5,7*(3*g+r)+4,_,rfl,w.lex,rfl,bI (gt.mono λv H' q=>?_)⟩;refine e0a2 q λo1 w' e=>?_;clear q;obtain rfl:=o1;have dL:=hb.closed;have oO:=hb.ev;have Yc:=hb.aB;cases FY:t.q (3*g+r) with
 | nil =>
   rw [FY] at w';have x1:=x.xX (3*g+r) [] h9 w' e;have ev0:(cE .top (kI []) ln "").1="":=rfl;rw [ev0];refine ag 9 rfl (be 9 _ rfl rfl) ?_;have e1:(AS.mk L H').put 9 (.str "")=⟨L++[(9,.str "")],H'⟩:=by subst hL;rfl
   show Ex c _ _ ((AS.mk L H').put 9 (.str "")) _ dT;rw [e1];have hw:(L++[(9,AV.str "")]).lookup 9=some (.str ""):=by subst hL;rfl
   refine ab (bz (aL (aa 9 rfl hw (cQ (jn (aD ?_))))));rw [show (("":Str)==("  \"":Str))=false by decide +kernel];refine ab (bz (aL (aa 9 rfl hw (cQ (Ao (aD ?_))))));rw [show (("":Str) != ("":Str))=false by decide +kernel];refine aq (aq (ab (bf (aa 9 rfl hw ⟨?_,?_⟩))))
   . unfold take;rw [FY]
   . unfold take;rw [FY];exact x1
 | cons it rest =>
   obtain ⟨cc,bb⟩:=it;refine e0a1 (hq (3*g+r) (cc,bb) (by rw [FY];exact .head _)) λk1 k2=>?_;refine e1a0 (Cc (cc,bb) k1 k2 (kI rest) ln) λI6 Ir=>?_;have It:kI ((cc,bb)::rest)=nZ (cc,bb)++kI rest:=rfl;rw [FY,It,Ir] at w';rw [It,Ir];have x1:=x.xX (3*g+r) rest h9 w' e;refine ag 9 rfl (be 9 _ rfl rfl) ?_;have e1:(AS.mk L H').put 9 (.str (fP cc))=⟨L++[(9,.str (fP cc))],H'⟩:=by subst hL;rfl
   show Ex c _ _ ((AS.mk L H').put 9 (.str (fP cc))) _ dT;rw [e1];have hw:∀H,(AS.mk (L++[(9,AV.str (fP cc))]) H).loc.lookup 9=some (.str (fP cc)):=λH=>by subst hL;rfl
   have h1:∀H,(AS.mk (L++[(9,AV.str (fP cc))]) H).loc.lookup 1=some (.int r):=λH=>by subst hL;rfl
   have h2:∀H,(AS.mk (L++[(9,AV.str (fP cc))]) H).loc.lookup 2=some (.fn 1 lP):=λH=>by subst hL;rfl
   have h3:∀H,(AS.mk (L++[(9,AV.str (fP cc))]) H).loc.lookup 3=some (.ref 74):=λH=>by subst hL;rfl
   have h4:∀H,(AS.mk (L++[(9,AV.str (fP cc))]) H).loc.lookup 4=some (.ref 64):=λH=>by subst hL;rfl
   have h5:∀H,(AS.mk (L++[(9,AV.str (fP cc))]) H).loc.lookup 5=some (.ref 63):=λH=>by subst hL;rfl
   have h6:∀H,(AS.mk (L++[(9,AV.str (fP cc))]) H).loc.lookup 6=some jv:=λH=>by subst hL;rfl
   have h8:∀H,(AS.mk (L++[(9,AV.str (fP cc))]) H).loc.lookup 8=some (.int (3*g+r:Nat)):=λH=>by subst hL;rfl
   clear hL e0 e1;generalize hM:L++[(9,AV.str (fP cc))]=M at hw h1 h2 h3 h4 h5 h6 h8;have nQ:Bd (t.read (3*g+r) rest):=⟨hb.ev,hb.kept,hb.closed,hb.aB,λi=>by
    show (upd t.q (3*g+r) rest i).length<=40;unfold upd
    split
    . have:=hb.q (3*g+r);rw [FY] at this;simp at this;exact NF this
    . exact hb.q i⟩
   have A5:take t g r=(if cc=32 then ((if (t.read (3*g+r) rest).has r then t.read (3*g+r) rest else mark (t.read (3*g+r) rest) r).close (3*g+r),fP cc)
    else ((if (t.read (3*g+r) rest).has r&&!(t.read (3*g+r) rest).closed.contains (3*g+r) then (t.read (3*g+r) rest).note (3*g+r) cc else t.read (3*g+r) rest).log ⟨r,3*g+r,cc,false⟩,fP cc)):=by
    unfold take;rw [FY]
   generalize t.read (3*g+r) rest=t1 at x1 nQ A5;rw [A5];clear A5 FY It Ir w' e w gt x;refine ab (bz (aL (aa 9 rfl (hw _) (cQ (jn (aD ?_))))));rw [Ck];by_cases hc:cc=32
   . rw [decide_eq_true hc,if_pos hc];refine ab (ia (K':=λfl S'=>fl=.next/\S'.loc=M/\CH l.cL (if t1.has r then t1 else mark t1 r) S'.heap) (bz (aL (aa 1 rfl (h1 _) (aa 4 rfl (h4 _) (wh (.inr (ae 64 rfl x1.kept)) (aD ?_)))))) ?_)
     . rw [n4];cases hh:t1.has r with
       | true=>exact aq (aH rfl rfl x1)
       | false =>refine ab (bw (m9 rfl (n:=m+5) (aZ _) (aa 2 rfl (h2 _) (dY 1 lP rfl (ak (aa 1 rfl (h1 _) ((xY G x1 hr hh nQ (m+3)).mono λv H2 q=>?_)))))) (by rfl));exact aq (aH rfl rfl q.2)
     . rintro fl ⟨lc,H2⟩ ⟨rfl,rfl,x2⟩;have yw:(if t1.has r then t1 else mark t1 r).closed=t1.closed:=by
        split
        . rfl
        . exact (rp t1 r 3).1
       generalize (if t1.has r then t1 else mark t1 r)=t2 at x2 yw;refine ab (bw (bT "list" "list.append" PySem.F.plainAttrs_list PySem.F.slot_list_append PySem.F.type_list_append (aa 3 rfl (h3 _) ⟨fB x2.closed rfl,?_⟩)) (rfl));refine ak (aa 8 rfl (h8 _) (dK x2.closed ?_ ?_))
       . rw [List.length_map,yw];have:=nQ.closed;simp only [sizeLine];exact HQ this
       refine aq (ab (bf (aa 9 rfl (hw _) ⟨rfl,?_⟩)));have:=x2.Cf (3*g+r);unfold Net.close at this ⊢;simpa using this
   . rw [decide_eq_false hc,if_neg hc];refine ab (bz (aL (aa 9 rfl (hw _) (cQ (Ao (aD ?_))))));rw [Iq];refine ab (ia (K':=λfl S'=>fl=.next/\S'.loc=M/\CH l.cL (if t1.has r&&!t1.closed.contains (3*g+r) then t1.note (3*g+r) cc else t1) S'.heap) (bz (sZ (aL (aa 1 rfl (h1 _) (aa 4 rfl (h4 _) (tr (.inr (ae 64 rfl x1.kept)) (aD ?_))))))) ?_)
     . rw [n4];cases hh:t1.has r with
       | false=>exact aq (aH rfl rfl x1)
       | true =>
         have ecl:(t1.closed.map λ(n:Nat)=>AV.int n)=(t1.closed.map λ(n:Nat)=>(n:Int)).map AV.int:=by rw [List.map_map];rfl
         refine aL (aa 8 rfl (h8 _) (aa 3 rfl (h3 _) (jr (l:=t1.closed.map λ(n:Nat)=>(n:Int)) (.inr (ae 74 rfl (by rw [<-ecl];exact x1.closed))) (aD ?_))));have ec:((t1.closed.map λ(n:Nat)=>(n:Int)).any λy=>y==((3*g+r:Nat):Int))=t1.closed.contains (3*g+r):=by
          rw [List.any_map,Bool.eq_iff_iff,List.any_eq_true,List.contains_iff_mem];constructor
          . rintro ⟨y,h1,h2⟩;have:y=3*g+r:=by simp at h2;exact O6 h2
            exact this▸h1
          . intro h;exact (ae _ h (by simp))
         rw [ec];cases dL:t1.closed.contains (3*g+r) with
         | true=>exact aq (aH rfl rfl x1)
         | false =>
           refine ab (bw (bT "list" "list.append" PySem.F.plainAttrs_list PySem.F.slot_list_append PySem.F.type_list_append ?_) (rfl));refine bq (aa 6 rfl (h6 _) (aa 8 rfl (h8 _) ⟨bH (.inl rfl),cD (y:=.ref (65+(3*g+r))) (.inl rfl) (Mc) (Mj hg hr) ?_ ⟨fB (x1.aB _ h9) rfl,?_⟩⟩))
           . rw [Int.toNat_natCast,cj,List.getElem?_range h9];rfl
           refine ak (aa 9 rfl (hw _) (dK (x1.aB _ h9) ?_ ?_))
           . rw [List.length_map];have:=nQ.aB (3*g+r);simp only [sizeLine];exact HQ this
           refine aq (aH rfl rfl ?_);have:=x1.EC (3*g+r) cc h9;have en:ei (t1.aB (3*g+r)++[cc])=ei (t1.aB (3*g+r))++[AV.str (fP cc)]:=by unfold ei;simp
           rw [en] at this;exact this
     . rintro fl ⟨lc,H2⟩ ⟨rfl,rfl,x2⟩;have yw:(if t1.has r&&!t1.closed.contains (3*g+r) then t1.note (3*g+r) cc else t1).ev=t1.ev:=by
        split <;> rfl
       generalize (if t1.has r&&!t1.closed.contains (3*g+r) then t1.note (3*g+r) cc else t1)=t2 at x2 yw;refine ab (bw (bT "list" "list.append" PySem.F.plainAttrs_list PySem.F.slot_list_append PySem.F.type_list_append (aa 5 rfl (h5 _) ⟨fB x2.log rfl,?_⟩)) (rfl));refine ak (cY (aw (aa 1 rfl (h1 _) (aw (aa 8 rfl (h8 _) (aw (aa 9 rfl (hw _) (ak (kX ⟨by simp [sizeLine],dK x2.log ?_ ?_⟩)))))))))
       . rw [List.length_map,yw];have:=nQ.ev;simp only [sizeLine];exact HQ this
       refine aq (aq (ab (bf (aa 9 rfl (hw _) ⟨rfl,?_⟩))));have:=x2.Ce ⟨r,3*g+r,cc,false⟩;have el:(t2.log ⟨r,3*g+r,cc,false⟩).ev.map oX=t2.ev.map oX++[AV.tup [.int r,.int (3*g+r:Nat),.str (fP cc),.bool false]]:=by unfold Net.log;simp [oX]
       rw [el] at this;exact this
end
section
variable {c:aP}{C:Cx}{S:AS}{F F' F₀:G}{bs az bs₀:aA}{s s':Shared}{A:Around}{X:cK}{mg mb:dZ}{pos:Pos}
theorem Iter.Qb {ts:cz}{kd:Nat}{items:bW}(ht:∀y∈items,∃xs,y=.tup xs)(hv:c.V F₀ bs₀ v (.ref l)) :
 Iter c (.Tuple ts kd pos) it items (λH=>bZ ⟨[],H⟩ v items) [it] (λi F bs s=>s.heap.IsListIter it l i/\i<=items.length/\(∀b o,F₀ b=some o->F b=some o)/\∃nb,bs=bs₀++nb):=by
 have I0:=Iter.list (c:=c) (F₀:=F₀) (bs₀:=bs₀) (v:=v) (l:=l) (x:="") (px:=pos) (it:=it) (items:=items) hv;refine ⟨I0.uv,?_,I0.self⟩;intro C A i F bs S s N Y E K hA hh z hl ⟨h1,hi,h2,nb,e0⟩ hf hN hY;subst e0;have lX:bZ S v items:=hl;refine e2a3 (z.seq lX (cu.mono h2 hv)) λl' vs e hL bi zz=>?_;obtain rfl:=Value.ref.inj e;cases hx:items[i]? with
 | none =>
   refine wpAny_pyNext_list_end (hA.handled.trans hh) h1 hL.isList (by simpa using bi.get_none hx) λh' oo=>?_;have t:dB [it] s {s with heap:=h'}:=⟨λb hb o e=>oo b o (by simpa using hb) e,rfl,rfl⟩
   exact hN hx _ (z.frees t hf) t
 | some y =>
   refine e1a0 (ht y (bJ hx)) λxs o4=>?_;obtain rfl:=o4;refine e1a1 (bi.get hx) λrv Sy Sz=>?_;refine wpAny_pyNext_list_item h1 hL.isList (by simpa using Sy) λge lY kf=>?_;refine e0a1 (hY _ hx) λo3 hc=>?_;obtain ⟨S6,S7,S8⟩:=o3;have t:dB [it] s {s with heap:=ge}:=⟨λb hb o e=>(kf.2 b (by simpa using hb)).trans e,rfl,rfl⟩
   have ap:=z.frees t hf;have i8:bR c C F (bs₀++nb) [it] ge:=⟨hf.free,λa ha=>by refine e1a2 lY λo q1 q2 zz=>?_;clear lY;exact (a9 o ((bD ha).symm▸q1) (by rw [q2];simp) (by rw [q2];simp))⟩
   refine e2a2 Sz.inv λT us o2 hT yA=>?_;obtain rfl:=o2;refine wpAny_letOwnedTupleGo_listiter lY ?_;have IU:ge.IsTuple T us.toArray:=(dz _ (ap.wd.sub _ _ hT) rfl 0 rfl)
   have w:=rH (X:=dT) (kd:=kd) (pos:=pos) (s:={s with heap:=ge}) hA hh ap (rs:=us) IU yA S6 S7 S8;refine aJ w (λzz s' S9=>S9.casesOn λF' az zz S' st z' zz k=>?_) λzz zz Ta=>Ta.casesOn λzz zz zz zz zz zz zz q=>q.elim;exact hc F' az S' s' z' (i8.step (s:={s with heap:=ge}) st).1 (I0.keep (s:={s with heap:=ge}) (fA lY ((bp hx).1) h2 nb rfl) i8 ap st z') k
    ((Step.kc t λa ha=>e1a1 (i8.at_ a ha) λo e zz=>(bQ o e)).trans (st.widen λa ha=>.inl (eo (.inr ha))))
theorem Cm {ts:cz}{kd:Nat}{DB:Pos}{iter:Expr}{K:bW->(aI->Prop)->cR}(h:Ev c C iter S (λv ac=>∃xs,bZ ac v xs/\(∀y∈xs,∃us,y=.tup us)/\K xs (λH=>bZ ⟨[],H⟩ v xs) ac) X):lD c C (.Tuple ts kd DB) iter S K X:=by
 refine xm (kY h λv ac q=>?_);refine e1a2 q λxs lX ht k=>?_;clear q;intro A F bs s r hA z hv;refine e2a3 (z.seq lX hv) λl vs o1 hL bi zz=>?_;obtain rfl:=o1;refine wpAny_pyIter_list hL.isList ?_;have hn:s.heap.get? s.heap.objs.size=none:=gp (aZ _);have ha:(s.heap.push {cls:=.type "list_iterator",data:=.fields #[.ref l,.int 0 0]}).get? s.heap.objs.size=some {cls:=.type "list_iterator",data:=.fields #[.ref l,.int 0 0]}:=dw _ rfl;have m:ba c F bs s {s with heap:=s.heap.push {cls:=.type "list_iterator",data:=.fields #[.ref l,.int 0 0]}}:=⟨λb o e=>cI _ e,rfl,rfl⟩
 exact ⟨F,bs,ac,_,xs,_,_,_,rfl,.keep m,z.keep m,Iter.Qb ht hv,(fA (a9 _ ha rfl rfl) (Nat.zero_le _) (λzz zz e=>e) [] (by simp)),λa q=>by rw [bD q];exact hn,bR.one z hn ha (by simp) (by simp),lX,k⟩
end
noncomputable def y8:Net:=⟨[],[],λzz=>[],[],λzz=>[]⟩
noncomputable def wiresH (cL:Addr):Nat->aI
 | 0=>[]
 | n+1=>wiresH cL n++kH cL (7*n)
noncomputable def startT:aI:=[.list [],.bt []]++(List.replicate 9 (AO.list [])++[.list []])
theorem jw (cL:Addr)(n:Nat):(wiresH cL n).length=7*n:=by
 induction n with
 | zero=>rfl
 | succ n ih=>unfold wiresH;rw [List.length_append,ih];show 7*n+7=_;exact MS
theorem y9 (cL:Addr)(n i:Nat)(h:i < n):LX (wiresH cL n) cL (7*i) [] 1 []:=by
 induction n with
 | zero=>exact (IZ h).elim
 | succ n ih =>
   unfold wiresH;by_cases e:i=n
   . subst e;have:=vi (wiresH cL i) cL;rw [jw] at this;exact this
   . exact (ih (by exact I1 h e)).ext ((Ext.refl (wiresH cL n) (λzz=>False)).app (l:=kH cL (7*n))) (λzz zz zz q=>q)
theorem nr (cL:Addr)(i:Nat):(wiresH cL 9++startT)[63+i]?=startT[i]?:=by have:=jw cL 9;rw [gn (by exact OF this),this,Nat.add_sub_cancel_left]
theorem Cn (cL:Addr):CH cL y8 (wiresH cL 9++startT):=by refine ⟨λi hi=>⟨1,(y9 cL 9 i hi).ext ((Ext.refl (wiresH cL 9) (λzz=>False)).app (l:=startT)) (λzz zz zz q=>q)⟩,(nr cL 0).trans rfl,(nr cL 1).trans rfl,λi hi=>?_,(nr cL 11).trans rfl⟩;rw [show 65+i=63+(2+i) by exact MP,nr];show ([AO.list [],AO.bt []]++(List.replicate 9 (AO.list [])++[AO.list []]))[2+i]?=some (AO.list []);rw [List.getElem?_append_right (Nat.le_add_right 2 i),show 2+i - [AO.list [],AO.bt []].length=i from Nat.add_sub_cancel_left 2 i,List.getElem?_append_left (by rw [List.length_replicate];exact hi),List.getElem?_replicate,if_pos hi]
section
variable {c:aP}{C:Cx}{S:AS}{X:cK}{K:cw}{mg mb:dZ}{Kf:Frag}{l:iq}{b:oY}{pos:Pos}
theorem l6.fnAt (h:l6 c fa f dV qn cc P q):FnAt c fa:=by obtain ⟨o,fd,h1,h2,h3,_⟩:=h.at_;exact (ck o fd h1 h2 h3)
theorem rZ {ss:eD}{K:AV->aI->Prop}(L:List (Nat×Str)):∀(C:Cx) (hL:∀p∈L,C.vars[p.1]?=some p.2/\(∃v,S.loc.lookup p.1=some v)/\C.env.kindOf p.2=some .cell)
 (h:∀own',(∀a∈own',a∈C.own)->(∀p∈L,∀a,C.env.cells.lookup p.2=some a->a∉own')->(∀y,(∀p∈L,y≠p.2)->aV C (λzz=>none) y->aV {C with own:=own'} (λzz=>none) y)->qI c {C with own:=own'} ss S K),qI c C ss S K:=by
 induction L with
 | nil=>intro C hL h;exact h C.own (λzz q=>q) (λzz q=>nomatch q) (λzz zz q=>q)
 | cons p L ih =>
   intro C hL h;refine e0a2 (hL p (.head _)) λh1 o3 h3=>?_;obtain ⟨v,h2⟩:=o3;refine uO p.1 h1 h2 h3 λEF s1 n1 c1=>?_;refine ih {C with own:=EF} (λq hq=>hL q (.tail _ hq)) λCd s2 n2 c2=>?_;refine h Cd (λa ha=>s1 a (s2 a ha)) (λq hq a e=>?_) (λy hy hc=>c2 y (λq hq=>hy q (.tail _ hq)) (c1 y (hy p (.head _)) hc));rcases er hq with rfl | hq
   . exact λm=>n1 a e (s2 a m)
   . exact n2 q hq a e
noncomputable abbrev iD:a8:=["deeds","start","first","wires","log","kept","noted","closed","_law_mark","_law_take","turn","deed","one","other","name","pairs"]
noncomputable abbrev oZ (ds:aS)(st fi:Nat):dI:=[(0,.lst (ds.map λ(n:Nat)=>AV.int n)),(1,.int st),(2,.int fi),(3,fJ),(4,.ref 63),(5,.ref 64),(6,jv),(7,.ref 74),(8,.fn 1 lP),(9,.fn 2 lQ)]
theorem n5:(∀i,i < 16->6<=i->∀p∈([(3,"wires"),(4,"log"),(5,"kept")]:List (Nat×Str)),iD[i]?≠some p.2)/\(∀i,i < 16->9<=i->∀p∈([(6,"noted"),(7,"closed"),(8,"_law_mark")]:List (Nat×Str)),iD[i]?≠some p.2) /\
 ∀x∈iD,(bu.scope.names.lookup x==some .free)=false:=by decide +kernel
theorem wK (G:ED c mg mb Kf l b)(hf:l6 c fa bu .none "_law_course" cc P lA)(ds:aS)(st fi:Nat)(m:Nat){Q:AV->aI->Prop}
 (h:∀env own frames,(∀(i:Nat) x,9<=i->iD[i]?=some x->aV (lE bu.scope env own frames (m+7) iD) (λzz=>none) x)->fU (lE bu.scope env own frames (m+7) iD) ->
  ∀H,CH l.cL y8 H->qI c (lE bu.scope env own frames (m+7) iD) (bu.body.drop 4) ⟨oZ ds st fi,H⟩ Q) :
 bC c (m+8) (.ref fa) [.lst (ds.map λ(n:Nat)=>AV.int n),.int st,.int fi] [] Q:=by
 have hB:=G.V.B.toBase;refine hf.gz hB (n:=m+7) ["deeds","start","first"] iD [(0,.lst (ds.map λ(n:Nat)=>AV.int n)),(1,.int st),(2,.int fi)] (λzz zz zz zz=>rfl) rfl rfl (by decide +kernel) (by decide +kernel) λenv own frames be jQ gH xL xQ=>?_;refine e2a0 G.wire λccw Pw hW=>?_;refine cZ (aj (eW (sc:=bu.scope) ["line"] [] rfl trivial (by decide +kernel) (g8 (bM hB (by rfl) G.ju.1 G.ju.2 ⟨rfl,ak (av (hZ 9 rfl (by decide) trivial (λlv own' dG=>?_)))⟩))));refine ⟨λi acc S'=>S'=⟨[],wiresH l.cL i⟩/\acc=((List.range i).map λi=>AV.tup [.ref (7*i),.ref (7*i+5)])/\i<=9,(aH rfl rfl (LH)),?_,?_,?_⟩
 . rintro i acc S' ⟨rfl,rfl,hi⟩;exact ⟨trivial,by simp [sizeLine];exact L9 hi⟩
 . rintro i y acc S' hy ⟨rfl,rfl,hi⟩;have FZ:i < 9:=by have:=(bp hy).1;simpa using this
   refine ag 0 rfl (dG _ (.inl rfl)) ?_;show Ev c _ _ _ _ _;refine rA (n:=m+7) rfl (aZ _) (kW hB (by rfl) G.FX (a9 b.wire rfl hW.fnAt (bI ((EA G.V hW G.mod (wiresH l.cL i) (m+4)).mono λv H' q=>?_))));refine e0a1 q λo1 o2=>?_;clear q;obtain rfl:=o1;obtain rfl:=o2;rw [jw];exact (hZ [] trivial rfl (by rw [List.range_succ];simp) FZ)
 . rintro acc S' ⟨rfl,rfl,hi⟩;refine .inl (ag 3 rfl (be 3 _ rfl rfl) ?_);rw [List.length_map,List.length_range];have I7:=jw l.cL 9;generalize YS:wiresH l.cL 9=W9 at I7;show qI c _ _ ⟨[(0,.lst (ds.map λ(n:Nat)=>AV.int n)),(1,.int st),(2,.int fi),(3,fJ)],W9⟩ _;refine cZ (aj (cY (aw (eA (bI ⟨by simp [sizeLine],?_⟩)))));refine aw (ly hB ?_);refine aw (eW (sc:=bu.scope) ["line"] [] rfl trivial (by decide +kernel) (g8 (bM hB (by rfl) G.ju.1 G.ju.2 ⟨rfl,ak (av (a9 9 rfl (by decide) ?_))⟩)));have hlen:((W9++[AO.list []])++[AO.bt []]).length=65:=by simp [I7]
   have YT:CH l.cL y8 (((W9++[AO.list []])++[AO.bt []])++List.replicate 9 (AO.list [])++[AO.list []]):=by have:=Cn l.cL;rw [YS] at this;unfold startT at this;simpa using this
   clear YS;show rI c _ _ _ _ [] _ _ _ ⟨[(0,.lst (ds.map λ(n:Nat)=>AV.int n)),(1,.int st),(2,.int fi),(3,fJ)],(W9++[AO.list []])++[AO.bt []]⟩ _;refine ⟨trivial,λlv own' dG=>?_⟩;refine ⟨λi acc S'=>S'=⟨[],((W9++[AO.list []])++[AO.bt []])++List.replicate i (AO.list [])⟩/\acc=((List.range i).map λi=>AV.ref (65+i))/\i<=9,(aH (by simp [capLoc]) rfl (LH)),?_,?_,?_⟩
   . rintro i acc S' ⟨rfl,rfl,hi⟩;exact ⟨trivial,by simp [sizeLine];exact L9 hi⟩
   . rintro i y acc S' hy ⟨rfl,rfl,hi⟩;have FZ:i < 9:=by have:=(bp hy).1;simpa using this
     refine ag 0 rfl (dG _ (.inl rfl)) ?_;show Ev c _ _ _ _ _;refine eA (bI (Dd (by simp [sizeLine]) [] trivial ?_ ?_ FZ))
     . rw [List.replicate_succ',<-List.append_assoc]
     . rw [List.range_succ,List.map_append];show _++[AV.ref (List.length (((W9++[AO.list []])++[AO.bt []])++_))]=_;rw [List.length_append,hlen,List.length_replicate];rfl
   . rintro acc S' ⟨rfl,rfl,hi⟩;refine .inl ?_;rw [List.length_map,List.length_range];refine ak (eA (bI (aH (by simp [sizeLine]) (by simp [sizeLine]) ?_)));have YU:(((W9++[AO.list []])++[AO.bt []])++List.replicate 9 (AO.list [])).length=74:=by simp [I7]
     have Ei:(W9++[AO.list []]).length=64:=by simp [I7]
     refine nI rfl rfl (ag 4 rfl (be 4 _ rfl rfl) (ag 5 rfl (be 5 _ rfl rfl) (ag 6 rfl (be 6 _ rfl rfl) (ag 7 rfl (be 7 _ rfl rfl) ?_))));show qI c _ _ ⟨[(0,.lst (ds.map λ(n:Nat)=>AV.int n)),(1,.int st),(2,.int fi),(3,fJ),(4,.ref W9.length),(5,.ref (W9++[AO.list []]).length),(6,jv),(7,.ref (((W9++[AO.list []])++[AO.bt []])++List.replicate 9 (AO.list [])).length)],_⟩ _;rw [I7,Ei,YU];generalize (((W9++[AO.list []])++[AO.bt []])++List.replicate 9 (AO.list [])++[AO.list []])=H0 at YT;clear hlen YU Ei I7;refine rZ [(3,"wires"),(4,"log"),(5,"kept")] _ ?_ λEF s1 n1 c1=>?_
     . intro p hp;simp only [List.mem_cons,List.not_mem_nil,or_false] at hp;rcases hp with rfl | rfl | rfl <;> exact (aH rfl (bQ _ rfl) rfl)
     show qI c (lE bu.scope env EF frames (m+7) iD) _ _ _;have Qc:∀(i:Nat) x,6<=i->iD[i]?=some x->aV (lE bu.scope env EF frames (m+7) iD) (λzz=>none) x:=λi x hi hx=>by have xl:i < 16:=(bp hx).1;exact c1 x (λp hp e=>n5.1 i xl hi p hp (by rw [hx,e])) (be i x hx (n5.2.2 x (bJ hx)))
     refine cZ (td hB G.mod 1 8 [(5,"kept",.ref 64),(4,"log",.ref 63),(3,"wires",fJ)] gH hf.tab ?_ xQ ?_ (show freeOk xS.scope ["kept","log","wires"]=true by decide +kernel) G.mark rfl (Qc 8 _ (by decide) rfl) ?_)
     . rw [xL];decide +kernel
     . exact (pD rfl rfl (n1 (5,"kept") (by simp)) (.inl (by rfl)) rfl rfl (n1 (4,"log") (by simp)) (.inl (by rfl)) rfl rfl (n1 (3,"wires") (by simp)) (.inl (by rfl)) trivial)
     refine rZ [(6,"noted"),(7,"closed"),(8,"_law_mark")] _ ?_ λCd s2 n2 c2=>?_
     . intro p hp;simp only [List.mem_cons,List.not_mem_nil,or_false] at hp;rcases hp with rfl | rfl | rfl <;> exact (aH rfl (bQ _ rfl) rfl)
     show qI c (lE bu.scope env Cd frames (m+7) iD) _ _ _;have Qd:∀(i:Nat) x,9<=i->iD[i]?=some x->aV (lE bu.scope env Cd frames (m+7) iD) (λzz=>none) x:=λi x hi hx=>by have xl:i < 16:=(bp hx).1;exact c2 x (λp hp e=>n5.2.1 i xl hi p hp (by rw [hx,e])) (Qc i x (MV hi) hx)
     refine cZ (td hB G.mod 2 9 [(8,"_law_mark",.fn 1 lP),(7,"closed",.ref 74),(5,"kept",.ref 64),(4,"log",.ref 63),(6,"noted",jv),(3,"wires",fJ)] gH hf.tab ?_ xQ ?_ (show freeOk xT.scope ["_law_mark","closed","kept","log","noted","wires"]=true by decide +kernel) G.take rfl (Qd 9 _ (by decide) rfl) ?_)
     . rw [xL];decide +kernel
     . exact (lB rfl rfl (n2 (8,"_law_mark") (by simp)) (.inl (by rfl)) rfl rfl (n2 (7,"closed") (by simp)) (.inl (by rfl)) rfl rfl (λa e q=>n1 (5,"kept") (by simp) a e (s2 a q)) (.inl (by rfl)) rfl rfl (λa e q=>n1 (4,"log") (by simp) a e (s2 a q)) (.inl (by rfl)) rfl ⟨rfl,n2 (6,"noted") (by simp),.inl (by rfl),rfl,rfl,λa e q=>n1 (3,"wires") (by simp) a e (s2 a q),.inl (by rfl),trivial⟩)
     exact h env Cd frames Qd jQ H0 YT
end
noncomputable def jx (t:Net)(fi st i:Nat):Net:=if i=st then mark t fi else t
noncomputable abbrev rq (d:Nat):Nat:=d % 3
noncomputable abbrev tL (d:Nat):Nat:=(d+1+d / 3 % 2) % 3
noncomputable def qw (t:Net)(st fi i d:Nat):Net :=
 if d / 6=1 then (take (jx t fi st i) (tL d) (rq d)).1
 else ((jx t fi st i).send (3*rq d+tL d) (97+(jx t fi st i).ev.length,odd (jx t fi st i).ev.length)).log ⟨rq d,3*rq d+tL d,97+(jx t fi st i).ev.length,true⟩
structure wL (t:Net):Prop where
 bd:Bd t
 code:∀i,∀y∈t.q i,y.1≠34/\y.1≠92
theorem YV (d:Nat):((d:Int).fmod 3)=((d % 3:Nat):Int):=by rw [Int.fmod_eq_emod_of_nonneg _ (by decide)];exact LO
theorem fm2 (d:Nat):((d:Int).fmod 2)=((d % 2:Nat):Int):=by rw [Int.fmod_eq_emod_of_nonneg _ (by decide)];exact LN
theorem fd3 (d:Nat):((d:Int).fdiv 3)=((d / 3:Nat):Int):=by rw [Int.fdiv_eq_ediv_of_nonneg _ (by decide)];exact MD
theorem fd6 (d:Nat):((d:Int).fdiv 6)=((d / 6:Nat):Int):=by rw [Int.fdiv_eq_ediv_of_nonneg _ (by decide)];exact ME
noncomputable def YW:Str:="abcdefghijklmnopqr"
theorem Iu (k:Nat)(h:k < 18):YW.cps[k]?=some (97+k):=by
 obtain this:∀k,k < 18->YW.cps[k]?=some (97+k):=by decide
 exact this k h
section
variable {c:aP}{C:Cx}{S:AS}{X:cK}{K:cw}{mg mb:dZ}{Kf:Frag}{l:iq}{b:oY}{pos:Pos}
theorem vl (G:ED c mg mb Kf l b){env:Env}{own:aA}{frames:List Env}{m:Nat}(C0:∀(i:Nat) x,9<=i->iD[i]?=some x->aV (lE bu.scope env own frames (m+7) iD) (λzz=>none) x)
 {t:Net} {H:aI} (x:CH l.cL t H) (ds:aS) {st fi i d:Nat} (hd:d < 12) (V9:fi < 3) (hf:wL t) (jL:i=st->t.has fi=false) (IY:wL (jx t fi st i)) (Qe:(jx t fi st i).ev.length < 18) :
 Ex c (lE bu.scope env own frames (m+7) iD) (jq bu.body 4) ⟨oZ ds st fi++[(10,.int i),(11,.int d)],H⟩ (λfl S'=>fl=.next/\aW S' (oZ ds st fi)/\CH l.cL (qw t st fi i d) S'.heap) dT:=by
 have hB:=G.V.B.toBase;refine ab (ia (K':=λfl S'=>fl=.next/\S'.loc=oZ ds st fi++[(10,.int i),(11,.int d)]/\CH l.cL (jx t fi st i) S'.heap) (bz (aL (aa 10 rfl rfl (aa 1 rfl rfl (nG (aD ?_)))))) ?_)
 . by_cases he:i=st
   . rw [show ((i:Int)==(st:Int))=true by rw [he];simp];refine ab (bw (m9 rfl (n:=m+7) (aZ _) (aa 8 rfl rfl (dY 1 lP rfl (ak (aa 2 rfl rfl ((xY G x V9 (jL he) hf.bd (m+5)).mono λv H2 q=>?_)))))) (by rfl));refine aq (aH rfl rfl ?_);unfold jx;rw [if_pos he];exact q.2
   . rw [show ((i:Int)==(st:Int))=false by rw [beq_eq_false_iff_ne];exact HU he];refine aq (aH rfl rfl ?_);unfold jx;rw [if_neg he];exact x
 rintro fl ⟨lc,H1⟩ ⟨rfl,rfl,x1⟩;unfold qw;generalize jx t fi st i=u at x1 IY Qe;refine ab (rC [(12,"one"),(13,"other")] rfl ?_ ?_ ?_ (by rfl) (by rfl))
 . intro p hp;simp only [List.mem_cons,List.not_mem_nil,or_false] at hp;rcases hp with rfl | rfl
   . exact C0 12 _ (by decide) rfl
   . exact C0 13 _ (by decide) rfl
 . intro p hp;simp only [List.mem_cons,List.not_mem_nil,or_false] at hp;rcases hp with rfl | rfl <;> rfl
 refine cY (aw (bS (aa 11 rfl rfl (av (j6 (by decide) ?_)))));refine ak (bS (bS (bS (aa 11 rfl rfl (av (j0 ?_))))));refine bS (bS (aa 11 rfl rfl (av (vM (by decide) (PyProof.noPylong_small (by decide)) ?_))));refine av (j6 (by decide) (j0 (av (j6 (by decide) (z6 (by simp [sizeLine]) _ rfl rfl ?_)))));have e1:((d:Int).fmod 3)=((rq d:Nat):Int):=YV d;have e2:(((d:Int)+1+((d:Int).fdiv 3).fmod 2).fmod 3)=((tL d:Nat):Int):=by rw [fd3,fm2,show ((d:Int)+1+((d / 3 % 2:Nat):Int))=((d+1+d / 3 % 2:Nat):Int) by exact V2];exact YV _
 rw [e1,e2];have h1:rq d < 3:=Nat.mod_lt _ (by decide);have h2:tL d < 3:=Nat.mod_lt _ (by decide);generalize rq d=o1 at h1;generalize tL d=o2 at h2;show Ex c _ _ ⟨oZ ds st fi++[(10,.int i),(11,.int d),(13,.int o2),(12,.int o1)],H1⟩ _ dT;refine ab (bz (aL (bS (aa 11 rfl rfl (av (vM (by decide) (PyProof.noPylong_small (by decide)) (av (nG (aD ?_)))))))));rw [fd6];by_cases h6:d / 6=1
 . rw [show (((d / 6:Nat):Int)==1)=true by rw [h6];rfl,if_pos h6];refine ab (bw (m9 rfl (n:=m+7) (aZ _) (aa 9 rfl rfl (dY 2 lQ rfl (aw (aa 13 rfl rfl (ak (aa 12 rfl rfl ((xZ G x1 h2 h1 IY.bd IY.code (m+1)).mono λv H2 q=>?_)))))))) (by rfl));exact aq (aq (aH rfl (aW.of rfl) q.2))
 . rw [show (((d / 6:Nat):Int)==1)=false by rw [beq_eq_false_iff_ne];exact NS h6,if_neg h6];have oO:(u.ev.map oX).length < 2 ^ 63:=by rw [List.length_map];exact M9 Qe
   have h9:3*o1+o2 < 9:=BD h1 h2;refine ab (aj (bq (cQ (bU (.builtin "len") (bM hB (by rfl) G.mf.1 G.mf.2 ⟨rfl,ak (aa 4 rfl rfl (nM (.inr (ae 63 rfl x1.log)) oO ⟨uY,xE (cp:=97+u.ev.length) (Bz) (by rw [List.length_map];exact M8 Qe) ?_ (ag 14 rfl (C0 14 _ (by decide) rfl) ?_)⟩))⟩)))))
   . rw [List.length_map,Int.toNat_natCast];exact Iu _ Qe
   show Ex c _ _ ⟨oZ ds st fi++[(10,.int i),(11,.int d),(13,.int o2),(12,.int o1),(14,.str (sgn (97+u.ev.length)))],H1⟩ _ dT;refine e1a0 (x1.wire (3*o1+o2) h9) λln w=>?_;refine ab (bw (bT "list" "list.extend" PySem.F.plainAttrs_list PySem.F.slot_list_extend PySem.F.type_list_extend ?_) (rfl));refine bq (bq (aa 3 rfl rfl ?_));refine bS (bS (av (aa 12 rfl rfl (sS ?_ (aa 13 rfl rfl (j0 ?_))))))
   . exact IntMulOk.of_right (intBits_le_64 (D9) (Eb h1))
   refine ⟨bH (.inl rfl),cD (y:=.tup [.ref (7*(3*o1+o2)),.ref (7*(3*o1+o2)+5)]) (.inl rfl) (Md) (Mk h1 h2) ?_ ?_⟩
   . rw [show (3*(o1:Int)+(o2:Int))=((3*o1+o2:Nat):Int) by exact HR];exact qv _ h9
   refine av ⟨cB,dg (by decide) (by decide) rfl ⟨fB w.sg rfl,?_⟩⟩;refine ak (rV (n:=m+7) hB rfl (aZ _) (by rfl) G.Cg G.word.fnAt ?_);refine aw (aa 14 rfl rfl (ak (bU (.builtin "len") (bM hB (by rfl) G.mf.1 G.mf.2 ⟨rfl,ak (aa 4 rfl rfl (nM (.inr (ae 63 rfl x1.log)) oO ?_))⟩))));rw [List.length_map];refine ⟨rfl,_,xU hB G.word (sgn (97+u.ev.length)) (by show 1<=10;decide) _ (m+6),?_⟩;refine rS rfl w.sg ?_ ?_
   . rw [List.length_map,qu];have h1:=IY.bd.q (3*o1+o2);have h2:(wordOf (sgn (97+u.ev.length)) (u.ev.length:Nat)).cps.size=6:=by have:=congrArg List.length (jt (97+u.ev.length) (u.ev.length:Nat));rw [qt,mT] at this;exact this
     rw [h2];simp only [sizeLine];exact NG h1
   have e2:signs (wordOf (sgn (97+u.ev.length)) (u.ev.length:Nat))=(nZ (97+u.ev.length,odd u.ev.length)).map .str:=by rw [uz,<-vk];exact congrArg _ (jt _ _)
   rw [e2,<-List.map_append];have x2:=x1.xW (3*o1+o2) (97+u.ev.length,odd u.ev.length) h9;have WO:(u.send (3*o1+o2) (97+u.ev.length,odd u.ev.length)).ev=u.ev:=rfl;refine ab (bw (bT "list" "list.append" PySem.F.plainAttrs_list PySem.F.slot_list_append PySem.F.type_list_append (aa 4 rfl rfl ⟨fB x2.log rfl,?_⟩)) (rfl));refine ak (cY (aw (aa 12 rfl rfl ?_)));refine aw (bS (bS (av (aa 12 rfl rfl (sS ?_ (aa 13 rfl rfl (j0 ?_)))))))
   . exact IntMulOk.of_right (intBits_le_64 (D9) (Eb h1))
   refine aw (bS (aa 14 rfl rfl (cQ (mH ?_ ?_))))
   . rw [show (sgn (97+u.ev.length)).length=1 from rfl];simp only [sizeLine];decide +kernel
   refine ak (kX ⟨by simp [sizeLine],dK x2.log ?_ ?_⟩)
   . rw [List.length_map,WO];simp only [sizeLine];exact Na Qe
   refine aq (aq (aH rfl (aW.of rfl) ?_));have:=x2.Ce ⟨o1,3*o1+o2,97+u.ev.length,true⟩;have el:((u.send (3*o1+o2) (97+u.ev.length,odd u.ev.length)).log ⟨o1,3*o1+o2,97+u.ev.length,true⟩).ev.map oX=(u.send (3*o1+o2) (97+u.ev.length,odd u.ev.length)).ev.map oX++[AV.tup [.int o1,.int (3*(o1:Int)+(o2:Int)),.str (fP (97+u.ev.length)),.bool true]]:=by unfold Net.log;simp [oX]
   rw [el] at this;exact this
end
noncomputable def runD (ds:aS)(st fi:Nat):Nat->Net
 | 0=>y8
 | i+1=>match ds[i]? with
   | some d=>qw (runD ds st fi i) st fi i d
   | none=>runD ds st fi i
noncomputable def cF:List (Nat×Nat):=[(0,1),(0,2),(1,0),(1,2),(2,0),(2,1)]
noncomputable def tkAt (t:Net):Nat->Net×List Str
 | 0=>(t,[])
 | i+1=>match cF[i]? with
   | some p=>((take (tkAt t i).1 p.1 p.2).1,(tkAt t i).2++[(take (tkAt t i).1 p.1 p.2).2])
   | none=>tkAt t i
noncomputable def rounds (t:Net):Nat->Net
 | 0=>t
 | j+1=>(tkAt (rounds t j) 6).1
noncomputable abbrev six:a8:=List.replicate 6 ""
structure Iv (ds:aS)(st fi N:Nat):Prop where
 len:ds.length=9
 lt:∀d∈ds,d < 12
 fi3:fi < 3
 run:∀i,i<=9->wL (runD ds st fi i)
 mid:∀i,i < 9->wL (jx (runD ds st fi i) fi st i)/\(jx (runD ds st fi i) fi st i).ev.length < 18
 new:(runD ds st fi st).has fi=false
 rds:∀j,j<=N->∀i,i < 6->wL (tkAt (rounds (runD ds st fi 9) j) i).1
 go:∀j,j < N->(tkAt (rounds (runD ds st fi 9) j) 6).2≠six
 stop:(tkAt (rounds (runD ds st fi 9) N) 6).2=six
noncomputable abbrev lR (p:Nat×Nat):AV:=.tup [.int p.1,.int p.2]
noncomputable abbrev tM:AV:=.lst (cF.map lR)
section
variable {c:aP}{C:Cx}{S:AS}{X:cK}{K:cw}{mg mb:dZ}{Kf:Frag}{l:iq}{b:oY}{pos:Pos}
theorem CH.ext (x:CH cL t H)(e:Ext H H' P)(h:∀j,j < 75->¬P j):CH cL t H':=by obtain hl:=x.len;have sm:∀j,j < 75->H'[j]?=H[j]?:=λj hj=>e.same j (Mg hl hj) (h j hj);exact ⟨λi hi=>e1a0 (x.wire i hi) λln w=>(bQ ln (w.ext e λj h1 h2=>h j (Om h2 hi))),(sm 63 (LI)).trans x.log,(sm 64 (LJ)).trans x.kept,λi hi=>(sm _ (LZ hi)).trans (x.aB i hi),(sm 74 (LK)).trans x.closed⟩
noncomputable def Co (i j:Nat):List (Nat×Nat):=cF.filter λp=>decide (p.1 < i\/p.1=i/\p.2 < j)
theorem n6:(∀i,i < 3->∀j,j < 3->Co i (j+1)=if i=j then Co i j else Co i j++[(i,j)])/\(∀i,i < 3->Co i 3=Co (i+1) 0)/\Co 3 0=cF/\Co 0 0=[]:=by decide
theorem Cp (B:Base c mg mb)(hr:dp mg mb "range" (.type "range")){env:Env}{own:aA}{frames:List Env}{m:Nat}(C0:aV (lE bu.scope env own frames (m+7) iD) (λzz=>none) "pairs"){st:Stmt}(be:bu.body[5]?=some st)
 {L:dI} {H:aI} {K:gw} (k:K .next ⟨a7 L 15 (.ref H.length),H++[.list (cF.map lR)]⟩):jK c (lE bu.scope env own frames (m+7) iD) st ⟨L,H⟩ K dT:=by
 obtain rfl:=Option.some.inj be;refine oW (sc:=bu.scope) ["giver","taker"] [] rfl trivial (rfl) (g8 (bM B (rfl) hr.1 hr.2 ⟨rfl,ak (av (hZ 3 rfl (Nat.le_of_ble_eq_true rfl) trivial (λlv own' D dG=>?_)))⟩));refine ⟨λi S'=>S'.heap=H++[.list ((Co i 0).map lR)]/\i<=3,⟨rfl,LG⟩,λzz zz zz=>trivial,?_,?_⟩
 . rintro i y ⟨lc,H'⟩ hy ⟨hH,hi⟩;have Rh:i < 3:=by have:=(bp hy).1;simpa using this
   rw [cj,List.getElem?_range Rh] at hy;obtain rfl:=Option.some.inj hy;simp only at hH;subst hH;refine ag 0 rfl (dG _ (.inl rfl)) ?_;show HZ _ _ _ _ _ _ _;refine Ek rfl (g8 (bM B (rfl) hr.1 hr.2 ⟨rfl,ak (av (a9 3 rfl (by decide) ?_))⟩)) (by intro _;rfl);refine ⟨λj S'=>S'.heap=H++[.list ((Co i j).map lR)]/\S'.loc.lookup 0=some (.int i)/\j<=3,(aH rfl (iu _ _ _) (LG)),λzz zz zz=>trivial,?_,?_⟩
   . rintro j y ⟨YX,H'⟩ hy ⟨hH,h0,hj⟩;have Ri:j < 3:=by have:=(bp hy).1;simpa using this
     rw [cj,List.getElem?_range Ri] at hy;obtain rfl:=Option.some.inj hy;simp only at hH h0;subst hH;have Rj:(a7 YX 1 (AV.int j)).lookup 0=some (.int i):=by rw [au];exact h0
     refine ag 1 rfl (dG _ (.inl rfl)) (aL (aa 0 rfl Rj (aa 1 rfl (iu _ _ _) (wD (aD ?_)))));have hs:=n6.1 i Rh j Ri;by_cases e:i=j
     . rw [show ((i:Int) != (j:Int))=false by subst e;simp];refine (aH ?_ Rj (LW Ri));rw [hs,if_pos e]
     . rw [show ((i:Int) != (j:Int))=true by rw [bne_iff_ne];exact HU e];refine yU (cY (aw (aa 0 rfl Rj (ak (aa 1 rfl (iu _ _ _) (Aa (by simp [sizeLine]) ((Co i j).map lR) ?_ ?_ ?_ Rj (LW Ri)))))))
       . show (H++_)[H.length]?=_;rw [gn (aZ _)];simp
       . rw [List.length_map];have:(Co i j).length<=cF.length:=List.length_filter_le _ _;have h6:cF.length=6:=rfl;simp only [sizeLine];exact OE h6 this
       . rw [hs,if_neg e,List.map_append];show (H++_).set H.length _=_;rw [List.set_append_right _ _ (aZ _)];simp
   . rintro ⟨YX,H'⟩ ⟨hH,h0,hj⟩;refine ⟨?_,Rh⟩;rw [<-n6.2.1 i Rh];exact hH
 . rintro ⟨lc,H'⟩ ⟨hH,hi⟩;simp only at hH;subst hH;refine ag 15 rfl C0 ?_;have e:((List.range 3).map λ(i:Nat)=>AV.int i).length=3:=rfl;rw [e,n6.2.2.1];exact k
theorem Iw (t:Net)(i:Nat)(hi:i<=6):(tkAt t i).2.length=i:=by
 induction i with
 | zero=>rfl
 | succ i ih =>
   have h:i < cF.length:=by show i < 6;exact LS hi
   unfold tkAt;rw [df h];simp [ih (LU hi)]
theorem Cq:∀p∈cF,p.1 < 3/\p.2 < 3:=by decide
theorem Cr (G:ED c mg mb Kf l b){env:Env}{own:aA}{frames:List Env}{m:Nat}{test:Expr}{body:eD}{WQ:Pos}(be:bu.body[6]?=some (.While test body [] WQ))
 {t:Net} {L:dI} {H:aI} (x:CH l.cL t H) (h9:L.lookup 9=some (.fn 2 lQ)) (Jd:L.lookup 15=some tM) (hf:∀i,i < 6->wL (tkAt t i).1) {K:Bool->cR}
 (k:∀H',CH l.cL (tkAt t 6).1 H'->K (!decide ((tkAt t 6).2=six)) ⟨L,H'⟩):xd c (lE bu.scope env own frames (m+7) iD) test ⟨L,H⟩ K dT:=by
 have hB:=G.V.B.toBase;injection (Option.some.inj be) with e1 e2 e3 e4;subst e1;refine aL (eW (sc:=bu.scope) ["_law_take","giver","taker"] [(9,"_law_take",.fn 2 lQ)] rfl (aH rfl h9 trivial) (by decide +kernel) (Cm (aa 15 rfl Jd (hZ _ (.inl rfl) ?_ (aH rfl h9 trivial) (λlv own' dG=>?_)))))
 . intro y hy;refine e1a1 (List.mem_map.mp hy) λp zz o2=>?_;obtain rfl:=o2;exact (bQ _ rfl)
 refine ⟨λi acc S'=>aW S' [(0,.fn 2 lQ)]/\CH l.cL (tkAt t i).1 S'.heap/\acc=(tkAt t i).2.map .str/\i<=6,(eM (aW.of rfl) x rfl (VL)),?_,?_,?_⟩
 . rintro i acc S' ⟨hL,hx,rfl,hi⟩;exact ⟨.inl rfl,by rw [List.length_map,Iw t i hi];simp only [sizeLine];exact NL hi⟩
 . rintro i y acc S' hy ⟨hL,hx,rfl,hi⟩;have Rk:i < 6:=by have:=(bp hy).1;rw [List.length_map] at this;exact this
   have WR:i < cF.length:=Rk;rw [cj,df WR] at hy;cases hy;refine e0a1 (Cq _ (List.getElem_mem WR)) λp1 p2=>?_;have hs:tkAt t (i+1)=((take (tkAt t i).1 cF[i].1 cF[i].2).1,(tkAt t i).2++[(take (tkAt t i).1 cF[i].1 cF[i].2).2]):=by show (match cF[i]? with | some p=>_ | none=>_)=_;rw [df WR]
   generalize cF[i]=p at p1 p2 hs;have g0:=hL.1;refine (aH rfl rfl (ag 1 rfl (dG _ (.inl rfl)) (ag 2 rfl (dG _ (.inl rfl)) ?_)));have k0:(((S'.put 1 (.int p.1)).put 2 (.int p.2)).loc).lookup 0=some (.fn 2 lQ):=by show (a7 (a7 S'.loc 1 _) 2 _).lookup 0=_;rw [au,au];exact g0
   have k1:(((S'.put 1 (.int p.1)).put 2 (.int p.2)).loc).lookup 1=some (.int p.1):=by show (a7 (a7 S'.loc 1 _) 2 _).lookup 1=_;rw [au,au];rfl
   show Ev c _ _ _ _ _;refine m9 rfl (n:=m+7) (aZ _) (aa 0 rfl k0 (dY 2 lQ rfl (aw (aa 1 rfl k1 (ak (aa 2 rfl (iu _ _ _) ((xZ G hx p1 p2 (hf i Rk).bd (hf i Rk).code (m+1)).mono λv H2 q=>?_)))))));refine e0a1 q λo1 q2=>?_;clear q;obtain rfl:=o1;refine (De [(0,.fn 2 lQ)] ⟨k0,trivial⟩ (aW.of rfl) ?_ ?_ Rk)
   . rw [hs];exact q2
   . rw [hs,List.map_append];rfl
 . rintro acc S' ⟨hL,hx,rfl,hi⟩;refine .inl ?_;have e6:(cF.map lR).length=6:=rfl;rw [e6] at hx ⊢;refine bS (i9 (ak (cQ ⟨by simp [sizeLine],av (Ej (.inl rfl) (by decide) (by decide) (by decide) (.inl ?_))⟩)));refine tu (xs:=(tkAt t 6).2) (ys:=six) (qg.str c) (.inl rfl) (.inl rfl) (by show m+7≠0;exact M3) (aD ?_);exact k _ hx
end
noncomputable def za (t:Net):AV:=.tup [.lst (t.ev.map oX),.cV (eR t.kept),.lst ((List.range 9).map λi=>.lst (ei (t.aB i))),.lst (t.closed.map λ(n:Nat)=>AV.int n)]
theorem mh (t:Net):(za t).under 0=true:=by
 obtain h1:∀l:List dk,AV.bL 0 (l.map oX)=true:=λl=>by induction l with
  | nil=>rfl
  | cons e l ih=>exact Bool.and_eq_true_iff.mpr ⟨rfl,ih⟩
 obtain h2:∀l:List (Nat×Nat),AV.jl 0 (eR l)=true:=λl=>by induction l with
  | nil=>rfl
  | cons e l ih=>exact Bool.and_eq_true_iff.mpr ⟨rfl,ih⟩
 obtain h3:∀l:aS,AV.bL 0 (ei l)=true:=λl=>by induction l with
  | nil=>rfl
  | cons e l ih=>exact Bool.and_eq_true_iff.mpr ⟨rfl,ih⟩
 have h4:∀l:aS,AV.bL 0 (l.map λi=>.lst (ei (t.aB i)))=true:=λl=>by induction l with
  | nil=>rfl
  | cons e l ih=>exact Bool.and_eq_true_iff.mpr ⟨h3 _,ih⟩
 obtain h5:∀l:aS,AV.bL 0 (l.map λ(n:Nat)=>AV.int n)=true:=λl=>by induction l with
  | nil=>rfl
  | cons e l ih=>exact Bool.and_eq_true_iff.mpr ⟨rfl,ih⟩
 delta za;simp only [Jh,IM,IP,IL,Af,h1,h2,h4,h5];rfl
section
variable {c:aP}{C:Cx}{S:AS}{X:cK}{K:cw}{mg mb:dZ}{Kf:Frag}{l:iq}{b:oY}{pos:Pos}
theorem CH.app (x:CH cL t H)(L:aI):CH cL t (H++L):=x.ext ((Ext.refl H (λzz=>False)).app) (λzz zz q=>q)
theorem CH.iJ (x:CH cL t H)(k:Nat)(hk:75<=k)(o:AO):CH cL t (H.set k o):=x.ext (Ext.set (P:=(·=k)) k o rfl) (λj h q=>N0 hk h q)
theorem wM (G:ED c mg mb Kf l b){env:Env}{own:aA}{frames:List Env}{m:Nat}{st:Stmt}(be:bu.body[7]?=some st){t:Net}{L:dI}{H:aI}(x:CH l.cL t H)(h4:L.lookup 4=some (.ref 63))(h5:L.lookup 5=some (.ref 64))(h6:L.lookup 6=some jv)(h7:L.lookup 7=some (.ref 74)) :
 qI c (lE bu.scope env own frames (m+7) iD) [st] ⟨L,H⟩ (λv zz=>v.under 0=true/\v=za t):=by
 obtain rfl:=Option.some.inj be;refine gZ (cG.list 4 h4 x.log) ?_;have k5:(a7 L 4 (.lst (t.ev.map oX))).lookup 5=some (.ref 64):=by rw [au];exact h5
 have x5:(H.set 63 .gone)[64]?=some (.bt (eR t.kept)):=(cH (by decide)).trans x.kept;refine gZ (cG.bt 5 k5 x5) ?_;obtain ⟨loc,H3,sh,g1,g2,g3⟩:=cG.elems (c:=c) (C:=lE bu.scope env own frames (m+7) iD) 6 ((List.range 9).map λi=>65+i) ((List.range 9).map λi=>ei (t.aB i)) []
  ⟨a7 (a7 L 4 (.lst (t.ev.map oX))) 5 (.cV (eR t.kept)),(H.set 63 .gone).set 64 .gone⟩ (by rw [au,au,List.nil_append,List.map_map];exact h6) (rfl)
  (λi k r e1 e2=>by
   rw [cj] at e1 e2;by_cases hi:i < 9
   . rw [List.getElem?_range hi] at e1 e2;cases e1;cases e2;show ((H.set 63 .gone).set 64 .gone)[65+i]?=_;rw [aU (LQ),aU (LP)];exact x.aB i hi
   . rw [List.getElem?_eq_none_iff.mpr (by simp;exact NT hi)] at e1;cases e1) (by decide)
 refine gZ sh ?_;have k7:loc.lookup 7=some (.ref 74):=by rw [g2 7 (by decide)];show (a7 (a7 L 4 _) 5 _).lookup 7=_;rw [au,au];exact h7
 have x7:H3[74]?=some (.list (t.closed.map λ(n:Nat)=>AV.int n)):=by rw [g3 74 (by decide)];show ((H.set 63 .gone).set 64 .gone)[74]?=_;rw [aU (by decide),aU (by decide)];exact x.closed
 refine gZ (cG.list 7 k7 x7) ?_;have q4:(a7 loc 7 (.lst (t.closed.map λ(n:Nat)=>AV.int n))).lookup 4=some (.lst (t.ev.map oX)):=by rw [au,if_neg (by decide),g2 4 (by decide)];show (a7 (a7 L 4 _) 5 _).lookup 4=_;rw [au,au];rfl
 have q5:(a7 loc 7 (.lst (t.closed.map λ(n:Nat)=>AV.int n))).lookup 5=some (.cV (eR t.kept)):=by rw [au,if_neg (by decide),g2 5 (by decide)];show (a7 (a7 L 4 _) 5 _).lookup 5=_;rw [au];rfl
 have q6:(a7 loc 7 (.lst (t.closed.map λ(n:Nat)=>AV.int n))).lookup 6=some (.lst ((List.range 9).map λi=>.lst (ei (t.aB i)))):=by rw [au,if_neg (by decide),g1,List.nil_append,List.map_map];rfl
 have q7:(a7 loc 7 (.lst (t.closed.map λ(n:Nat)=>AV.int n))).lookup 7=some (.lst (t.closed.map λ(n:Nat)=>AV.int n)):=by rw [au];rfl
 exact cZ (bf (cY (aw (aa 4 rfl q4 (aw (aa 5 rfl q5 (aw (aa 6 rfl q6 (ak (aa 7 rfl q7 (aH (by simp [sizeLine]) (mh t) rfl)))))))))))
theorem zb (G:ED c mg mb Kf l b)(hf:l6 c fa bu .none "_law_course" cc P lA)(ds:aS)(st fi N:Nat)(D:Iv ds st fi N)(m:Nat) :
 bC c (m+8) (.ref fa) [.lst (ds.map λ(n:Nat)=>AV.int n),.int st,.int fi] [] (λv zz=>v.under 0=true/\v=za (rounds (runD ds st fi 9) (N+1))):=by
 obtain hB:=G.V.B.toBase;refine wK G hf ds st fi m λenv own frames C0 jQ H x=>?_;refine cZ (d8 rfl (lg (bM hB (rfl) G.lO.1 G.lO.2 ⟨rfl,aa 0 rfl rfl (ae _ rfl ?_)⟩) rfl));refine ⟨λi S'=>aW S' (oZ ds st fi)/\CH l.cL (runD ds st fi i) S'.heap,⟨aW.of rfl,x⟩,λzz zz zz=>trivial,?_,?_⟩
 . rintro i y S' hy ⟨hL,hx⟩;rw [cj,List.getElem?_zipIdx,cj] at hy;cases hd:ds[i]? with
   | none=>rw [hd] at hy;cases hy
   | some d =>
     rw [hd] at hy;obtain ey:y=.tup [.int i,.int d]:=by obtain this:=aX hy;rw [<-this];simp
     subst ey;obtain FZ:i < 9:=by obtain this:=(bp hd).1;rw [D.len] at this;exact this
     refine (aH rfl rfl (ag 10 rfl (C0 10 _ (Nat.le_of_ble_eq_true rfl) rfl) (ag 11 rfl (C0 11 _ (Nat.le_of_ble_eq_true rfl) rfl) ?_)));refine bV (oZ ds st fi++[(10,.int i),(11,.int d)]) ?_ ?_
     . obtain this:=(hL.put (i:=10) (v:=.int i) rfl).put (i:=11) (v:=.int d) rfl;rw [List.append_assoc] at this;exact this
     obtain jL:i=st->(runD ds st fi i).has fi=false:=λe=>e▸D.new;refine pv (vl G C0 hx ds (D.lt d (bJ hd)) D.fi3 (D.run i (HP FZ)) jL (D.mid i FZ).1 (D.mid i FZ).2) λfl S2 q=>?_;obtain ⟨rfl,C3,F3⟩:=q;refine ⟨C3,?_⟩;obtain e:runD ds st fi (i+1)=qw (runD ds st fi i) st fi i d:=by show (match ds[i]? with | some d=>_ | none=>_)=_;rw [hd]
     rw [e];exact F3
 rintro S' ⟨hL,hx⟩;obtain e9:((ds.map λ(n:Nat)=>AV.int n).zipIdx.map λp=>AV.tup [.int p.2,p.1]).length=9:=by simp [D.len]
 rw [e9] at hx;refine gZ (cG.forget (oZ ds st fi) (λx u e=>hL.at x u e)) ?_;generalize S'.heap=H1 at hx;refine cZ (Cp hB G.ju (C0 15 _ (Nat.le_of_ble_eq_true rfl) rfl) rfl ?_);obtain k15:(a7 (oZ ds st fi) 15 (.ref H1.length)).lookup 15=some (.ref H1.length):=rfl;obtain hk:(H1++[AO.list (cF.map lR)])[H1.length]?=some (.list (cF.map lR)):=by rw [gn (aZ _)];simp
 refine gZ (cG.list 15 k15 hk) ?_;obtain x2:=(hx.app [AO.list (cF.map lR)]).iJ H1.length hx.len .gone;generalize (H1++[AO.list (cF.map lR)]).set H1.length .gone=H2 at x2;show qI c _ _ ⟨oZ ds st fi++[(15,tM)],H2⟩ _;refine cZ (lj jQ (λk S'=>∃j,j<=N/\k=N - j/\aW S' (oZ ds st fi++[(15,tM)])/\CH l.cL (rounds (runD ds st fi 9) j) S'.heap) N (hZ 0 (Nat.zero_le _) rfl (aW.of rfl) x2) ?_);rintro k ⟨lc,H3⟩ ⟨j,hj,rfl,tF,hx3⟩;obtain g9:lc.lookup 9=some (.fn 2 lQ):=tF.at 9 _ rfl;obtain g15:lc.lookup 15=some tM:=tF.at 15 _ rfl;refine Cr G rfl hx3 g9 g15 (D.rds j hj) λH4 YY=>?_;by_cases Rl:j=N
 . subst Rl;rw [decide_eq_true D.stop];exact wM G rfl YY (tF.at 4 _ rfl) (tF.at 5 _ rfl) (tF.at 6 _ rfl) (tF.at 7 _ rfl)
 . rw [decide_eq_false (D.go j (O0 hj Rl))];refine ab (Ay (aq ⟨N - (j+1),O1 hj Rl,j+1,OZ hj Rl,rfl,tF,YY⟩))
end
noncomputable abbrev jO (ev:List dk):AV:=.lst (ev.map oX)
noncomputable abbrev bB (l:aS):AV:=.lst (l.map λ(n:Nat)=>.int n)
noncomputable abbrev nu (aB:Nat->aS):AV:=.lst ((List.range 9).map λi=>.lst (ei (aB i)))
noncomputable def isAt (ev:List dk)(l:Nat)(o:Bool)(k:Nat):Bool:=match ev[k]? with
 | some e=>e.l==l&&e.out==o
 | none=>false
noncomputable def jP (ev:List dk)(l:Nat)(o:Bool):aS:=(List.range ev.length).filter (isAt ev l o)
noncomputable def C4 (ev:List dk)(k:Nat):Str:=match ev[k]? with
 | some e=>fP e.c
 | none=>""
noncomputable abbrev wordsOf (ev:List dk)(ks:aS):a8:=ks.map (C4 ev)
noncomputable def fK (cut ks:aS):aS:=ks.filter λk=>cut.contains k
structure Iy (ev:List dk)(cut:aS)(aB:Nat->aS)(l:Nat):Prop where
 same:wordsOf ev (jP ev l true)=wordsOf ev (jP ev l false)
 rest:ng ((wordsOf ev (fK cut (jP ev l true))).length+(wordsOf ev (fK cut (jP ev l false))).length) (wordsOf ev (fK cut (jP ev l true))) (wordsOf ev (fK cut (jP ev l false)))=((aB l).map fP,[])
theorem fM {α β:Type}(p:α->Bool)(f:α->β)(l:List α):l.filterMap (λk=>if p k then some (f k) else none)=(l.filter p).map f:=by
 induction l with
 | nil=>rfl
 | cons x l ih =>
   skip
   by_cases h:p x=true
   . simp [h,ih]
   . simp [h,ih]
theorem nv {β:Type}(p:Nat->Bool)(f:Nat->β)(ks:aS):(List.range ks.length).filterMap (λi=>match ks[i]? with | some k=>if p k then some (f k) else none | none=>none)=(ks.filter p).map f:=by
 obtain this:∀(ks:aS),(List.range ks.length).filterMap (λi=>match ks[i]? with | some k=>if p k then some (f k) else none | none=>none)=ks.filterMap (λk=>if p k then some (f k) else none):=by
  intro ks;induction ks with
  | nil=>rfl
  | cons k ks ih =>
    rw [List.length_cons,List.range_succ_eq_map,List.filterMap_cons,List.filterMap_map,List.filterMap_cons];obtain e:((λi=>match (k::ks)[i]? with | some k=>if p k then some (f k) else none | none=>none) ∘ Nat.succ)=(λi=>match ks[i]? with | some k=>if p k then some (f k) else none | none=>none):=by funext i;rfl
    refine (af e)▸(af ih)▸?_;rfl
 rw [this,fM]
section
variable {c:aP}{C:Cx}{S:AS}{X:cK}{K:cw}{mg mb:dZ}{pos:Pos}
noncomputable def wN:Scope:=(de (jq qs.body 0) 3).scope
noncomputable def gW (ev:List dk)(p:Nat->Bool)(ks:aS)(i:Nat):Option AV:=match ks[i]? with
 | some k=>if p k then some (AV.str (C4 ev k)) else none
 | none=>none
theorem wO (ev:List dk)(p:Nat->Bool)(ks:aS):(List.range ks.length).filterMap (gW ev p ks)=((ks.filter p).map (C4 ev)).map .str:=by obtain this:=nv p (λk=>AV.str (C4 ev k)) ks;simp only [List.map_map];exact this
theorem x8 (ev:List dk)(p:Nat->Bool){ks:aS}{i k:Nat}(h:ks[i]?=some k):gW ev p ks i=if p k then some (AV.str (C4 ev k)) else none:=by delta gW;rw [h]
theorem kJ {ev:List dk}{k:Nat}{e:dk}(h:ev[k]?=some e):(ev.map oX)[((k:Nat):Int).toNat]?=some (oX e):=by simp only [Int.toNat_natCast,cj,h];rfl
theorem gU (l:aS)(k:Nat):((l.map λ(n:Nat)=>(n:Int)).any λy=>y==(k:Int))=l.contains k:=by
 rw [List.any_map,Bool.eq_iff_iff,List.any_eq_true,List.contains_iff_mem];constructor
 . rintro ⟨y,h1,h2⟩;obtain this:y=k:=by simp at h2;exact BC h2
   exact this▸h1
 . intro h;exact (ae _ h (by simp))
theorem ints_map (l:aS):(l.map λ(n:Nat)=>AV.int n)=(l.map λ(n:Nat)=>(n:Int)).map AV.int:=by rw [List.map_map];rfl
theorem Iz (B:Base c mg mb)(hf:gy c fa qs .none)(hs:gy c sa BL .none)(gs:mg "sorted_list_difference"=some (.ref sa))(nQ:dp mg mb "IndexError" (.type "IndexError"))(wf:dp mg mb "enumerate" (.type "enumerate"))
 (ev:List dk) (cut:aS) (aB:Nat->aS) (oO:ev.length < 60) (zc:cut.length < 60) (Hx:∀l,l∈[1,2,3,5,6,7]->Iy ev cut aB l) (m:Nat) :
 bC c (m+2) (.ref fa) [jO ev,bB cut,nu aB] [] (λv zz=>v.under 0=true/\v=.bool true):=by
 refine hf.gz B (n:=m+1) ["log","cut","noted"] ["log","cut","noted","line","sent","taken","early"] [(0,jO ev),(1,bB cut),(2,nu aB)] (λzz zz zz zz=>rfl) rfl rfl (by decide +kernel) λenv own frames be jQ=>?_;refine ab (d8 rfl (kh (cY (aw (av ?_)))));refine aw (av (aw (av (aw (av (aw (av (ak (av (oi (by simp [sizeLine]) _ rfl ?_))))))))));refine ⟨λi S'=>aW S' [(0,jO ev),(1,bB cut),(2,nu aB)]/\S'.heap=[],⟨aW.of rfl,rfl⟩,λzz zz zz=>trivial,?_,?_⟩
 . rintro i y ⟨lc,H⟩ hy ⟨hL,hH⟩;simp only at hH;subst hH;obtain ⟨l,hl,rfl⟩:∃l:Nat,l∈[1,2,3,5,6,7]/\y=.int l:=by
    have:=bJ hy;simp only [List.mem_cons,List.not_mem_nil,or_false] at this;rcases this with rfl | rfl | rfl | rfl | rfl | rfl
    . exact (ae 1 (by decide) rfl)
    . exact (ae 2 (by decide) rfl)
    . exact (ae 3 (by decide) rfl)
    . exact (ae 5 (by decide) rfl)
    . exact (ae 6 (by decide) rfl)
    . exact (ae 7 (by decide) rfl)
   have F:=Hx l hl;refine ag 3 rfl (be 3 _ rfl) (bV _ (hL.put (i:=3) (v:=.int l) rfl) ?_);show Ex c _ _ ⟨[(0,jO ev),(1,bB cut),(2,nu aB),(3,.int l)],[]⟩ _ dT;have hlen:((ev.map oX).zipIdx.map λp=>AV.tup [.int p.2,p.1]).length=ev.length:=by simp
   have F4:∀(i:Nat) (y:AV),((ev.map oX).zipIdx.map λp=>AV.tup [.int p.2,p.1])[i]?=some y->∃e,ev[i]?=some e/\y=AV.tup [.int i,oX e]:=λi y hy=>by
    rw [cj,List.getElem?_zipIdx,cj] at hy;cases he:ev[i]? with
    | none=>rw [he] at hy;cases hy
    | some e=>rw [he] at hy;refine (ae e rfl ?_);have:=aX hy;rw [<-this];simp
   have Qf:∀a b:Nat,((a:Int)==(b:Int))=(a==b):=λa b=>by rw [Bool.eq_iff_iff,beq_iff_eq,beq_iff_eq];exact NX
   refine ab (dj (sc:=qs.scope) ["line","k","event"] [(3,"line",.int l)] rfl (aH rfl rfl trivial) (show dc _ _ ["line"] _=true by decide +kernel) (lg (bM B (by rfl) wf.1 wf.2 ⟨rfl,aa 0 rfl rfl (ae _ rfl ?_)⟩) rfl));refine cx (λk=>if isAt ev l true k then some (AV.int k) else none) (aH rfl rfl trivial) (by rw [hlen];simp only [sizeLine];exact BA oO) trivial (λlv own' dG i y hy hi=>?_) ?_
   . refine e1a1 (F4 i y hy) λe he o5=>?_;obtain rfl:=o5;have nO:isAt ev l true i=(e.l==l&&e.out==true):=by unfold isAt;rw [he]
     refine (aH rfl rfl (ag 1 rfl (dG _ (.inl rfl)) (ag 2 rfl (dG _ (.inl rfl)) ?_)));refine sZ (aL (bq (aa 2 rfl rfl (av ⟨cB,dg (by decide) (by decide) rfl (aa 0 rfl rfl (nG (aD ?_)))⟩))));rw [Qf];cases h1:e.l==l with
     | false=>exact iw hi (by simp only [nO,h1];rfl) (aW.of rfl) rfl
     | true =>
       refine fX (bq (aa 2 rfl rfl (av ⟨cB,dg (by decide) (by decide) rfl (aD ?_)⟩)));cases h2:e.out with
       | false=>exact iw hi (by simp only [nO,h1,h2];rfl) (aW.of rfl) rfl
       | true=>exact aa 1 rfl rfl (dH hi (by simp only [nO,h1,h2];rfl) (aW.of rfl) rfl)
   rw [hlen,fM];refine .inl (ag 4 rfl (be 4 _ rfl) ?_);show Ex c _ _ ⟨[(0,jO ev),(1,bB cut),(2,nu aB),(3,.int l),(4,bB (jP ev l true))],[]⟩ _ dT;refine ab (dj (sc:=qs.scope) ["line","k","event"] [(3,"line",.int l)] rfl (aH rfl rfl trivial) (show dc _ _ ["line"] _=true by decide +kernel) (lg (bM B (by rfl) wf.1 wf.2 ⟨rfl,aa 0 rfl rfl (ae _ rfl ?_)⟩) rfl));refine cx (λk=>if isAt ev l false k then some (AV.int k) else none) (aH rfl rfl trivial) (by rw [hlen];simp only [sizeLine];exact BA oO) trivial (λlv own' dG i y hy hi=>?_) ?_
   . refine e1a1 (F4 i y hy) λe he o4=>?_;obtain rfl:=o4;have nO:isAt ev l false i=(e.l==l&&e.out==false):=by unfold isAt;rw [he]
     refine (aH rfl rfl (ag 1 rfl (dG _ (.inl rfl)) (ag 2 rfl (dG _ (.inl rfl)) ?_)));refine sZ (aL (bq (aa 2 rfl rfl (av ⟨cB,dg (by decide) (by decide) rfl (aa 0 rfl rfl (nG (aD ?_)))⟩))));rw [Qf];cases h1:e.l==l with
     | false=>exact iw hi (by simp only [nO,h1];rfl) (aW.of rfl) rfl
     | true =>
       refine sY (fX (bq (aa 2 rfl rfl (av ⟨cB,dg (by decide) (by decide) rfl (aD ?_)⟩))));cases h2:e.out with
       | true=>exact iw hi (by simp only [nO,h1,h2];rfl) (aW.of rfl) rfl
       | false=>exact aa 1 rfl rfl (dH hi (by simp only [nO,h1,h2];rfl) (aW.of rfl) rfl)
   rw [hlen,fM];refine .inl (ag 5 rfl (be 5 _ rfl) ?_);show Ex c _ _ ⟨[(0,jO ev),(1,bB cut),(2,nu aB),(3,.int l),(4,bB (jP ev l true)),(5,bB (jP ev l false))],[]⟩ _ dT;have Ix:∀o,∀k∈jP ev l o,k < ev.length:=λo k hk=>List.mem_range.mp (List.mem_filter.mp hk).1;have IA:∀o,(jP ev l o).length<=ev.length:=λo=>by have:=List.length_filter_le (isAt ev l o) (List.range ev.length);simpa [jP] using this
   have Q5:=IA true;have zD:=IA false;have q0:=Ix true;have q1:=Ix false;have F1:=F.same;have F2:=F.rest;generalize jP ev l true=s0 at Q5 q0 F1 F2;generalize jP ev l false=s1 at zD q1 F1 F2;clear Ix IA;refine ab (bz (aL (eW (sc:=qs.scope) ["log","k"] [(0,"log",jO ev)] rfl (aH rfl rfl trivial) (show dc _ _ ["log"] _=true by decide +kernel) (fC (aa 4 rfl rfl (ae _ (.inl rfl) ?_))))));have one:∀(ks:aS) (hk:∀k∈ks,k < ev.length) (p:Nat->Bool) (i:Nat) (y:AV),(ks.map λ(n:Nat)=>AV.int n)[i]?=some y->∃k e,ks[i]?=some k/\y=.int k/\ev[k]?=some e/\C4 ev k=fP e.c:=λks hk p i y hy=>by rw [cj] at hy;refine e1a1 (nB hy) λk h1 h2=>?_;have:=hk k (bJ h1);exact (dA k (ev[k]) h1 h2.symm (df this) (by unfold C4;rw [df this]))
   refine cx (gW ev (λzz=>true) s0) (aH rfl rfl trivial) (by rw [List.length_map];simp only [sizeLine];exact BE oO Q5) (.inl rfl) (λlv own' dG i y hy hi=>?_) ?_
   . refine e2a3 (one s0 q0 (λzz=>true) i y hy) λk e h1 o3 h3 h4=>?_;obtain rfl:=o3;refine ag 1 rfl (dG _ (.inl rfl)) ?_;show Ev c _ _ _ _ _;refine bq (bq (aa 0 rfl rfl (aa 1 rfl rfl ⟨bH (.inl rfl),cD (.inl rfl) (Bz) (by have:=q0 k (bJ h1);exact FC oO this) (kJ h3) (av ⟨cB,dg (by decide) (by decide) rfl ?_⟩)⟩)));exact dH hi (by rw [x8 ev _ h1,h4];rfl) (aW.of rfl) rfl
   rw [List.length_map,wO];refine .inl (eW (sc:=qs.scope) ["log","k"] [(0,"log",jO ev)] rfl (aH rfl rfl trivial) (show dc _ _ ["log"] _=true by decide +kernel) (fC (aa 5 rfl rfl (ae _ (.inl rfl) ?_))));refine cx (gW ev (λzz=>true) s1) (aH rfl rfl trivial) (by rw [List.length_map];simp only [sizeLine];exact BE oO zD) (.inl rfl) (λlv own' dG i y hy hi=>?_) ?_
   . refine e2a3 (one s1 q1 (λzz=>true) i y hy) λk e h1 o2 h3 h4=>?_;obtain rfl:=o2;refine ag 1 rfl (dG _ (.inl rfl)) ?_;show Ev c _ _ _ _ _;refine bq (bq (aa 0 rfl rfl (aa 1 rfl rfl ⟨bH (.inl rfl),cD (.inl rfl) (Bz) (by have:=q1 k (bJ h1);exact FC oO this) (kJ h3) (av ⟨cB,dg (by decide) (by decide) rfl ?_⟩)⟩)));exact dH hi (by rw [x8 ev _ h1,h4];rfl) (aW.of rfl) rfl
   rw [List.length_map,wO];refine .inl (tu (qg.str c) (.inl rfl) (.inl rfl) (by show m+1≠0;exact LR) (aD ?_));have ft:∀ks:aS,ks.filter (λzz=>true)=ks:=λks=>List.filter_eq_self.mpr λzz zz=>rfl;rw [ft,ft,decide_eq_true F1];refine aq ?_;have co:s0.length<=60/\s1.length<=60:=Pb oO Q5 zD;refine ab (dj (sc:=qs.scope) ["log","cut","some"] [(0,"log",jO ev),(1,"cut",bB cut)] rfl (fz rfl rfl rfl rfl trivial) (show dc _ _ ["log","cut"] _=true by decide +kernel) (kh (cY (aw (aa 4 rfl rfl (ak (aa 5 rfl rfl (oi (by simp [sizeLine]) _ rfl ?_))))))));refine cx (λi=>if i=0 then some (cq (wordsOf ev (fK cut s0))) else if i=1 then some (cq (wordsOf ev (fK cut s1))) else none) (fz rfl rfl rfl rfl trivial) (by simp [sizeLine]) trivial (λlv own' dG i y hy hi=>?_) ?_
   . obtain ⟨ks,hks,rfl,hq,hlk⟩:∃ks:aS,(if i=0 then some (cq (wordsOf ev (fK cut s0))) else if i=1 then some (cq (wordsOf ev (fK cut s1))) else none)=some (cq (wordsOf ev (fK cut ks)))/\y=bB ks/\(∀k∈ks,k < ev.length)/\ks.length<=60:=by
      match i,hy with
      | 0,hy=>exact (hZ s0 rfl ((Option.some.inj hy).symm) q0 co.1)
      | 1,hy=>exact (hZ s1 rfl ((Option.some.inj hy).symm) q1 co.2)
     refine ag 2 rfl (dG _ (.inl rfl)) ?_;show Ev c _ _ _ _ _;refine eW (sc:=ee wN qs.scope) ["log","cut","k"] [(0,"log",jO ev),(1,"cut",bB cut)] rfl (fz rfl rfl rfl rfl trivial) (show dc _ _ ["log","cut"] _=true by decide +kernel) (fC (aa 2 rfl rfl (ae _ (.inl rfl) ?_)));refine cx (gW ev (λk=>cut.contains k) ks) (fz rfl rfl rfl rfl trivial) (by rw [List.length_map];simp only [sizeLine];exact NN hlk) (.inl rfl) (λQg Qh Ch j z hz hj=>?_) ?_
     . refine e2a3 (one ks hq (λzz=>true) j z hz) λk e h1 o1 h3 h4=>?_;obtain rfl:=o1;refine ag 2 rfl (Ch _ (.inl rfl)) ?_;refine aL (aa 2 rfl rfl (aa 1 rfl rfl (Ee (l:=cut.map λ(n:Nat)=>(n:Int)) (.inl (by rw [<-ints_map])) (aD ?_))));rw [gU];cases hc:cut.contains k with
       | false=>exact iw hj (by rw [x8 ev _ h1,hc];rfl) (aW.of rfl) rfl
       | true =>refine bq (bq (aa 0 rfl rfl (aa 2 rfl rfl ⟨bH (.inl rfl),cD (.inl rfl) (Bz) (by have:=hq k (bJ h1);exact FC oO this) (kJ h3) (av ⟨cB,dg (by decide) (by decide) rfl ?_⟩)⟩)));exact dH hj (by rw [x8 ev _ h1,h4,hc];rfl) (aW.of rfl) rfl
     . rw [List.length_map,wO];exact .inl (dH hi hks (aW.of rfl) rfl)
   refine .inl (ag 6 rfl (be 6 _ rfl) ?_);show Ex c _ _ ⟨[(0,jO ev),(1,bB cut),(2,nu aB),(3,.int l),(4,bB s0),(5,bB s1),(6,.lst [cq (wordsOf ev (fK cut s0)),cq (wordsOf ev (fK cut s1))])],[]⟩ _ dT;have hw:∀ks:aS,ks.length<=60->(wordsOf ev (fK cut ks)).length < 1000:=λks h=>by rw [List.length_map];have:=List.length_filter_le (λk=>cut.contains k) ks;unfold fK;exact OU h this
   have YZ:=hw s0 co.1;have Y0:=hw s1 co.2;generalize wordsOf ev (fK cut s0)=w0 at YZ F2;generalize wordsOf ev (fK cut s1)=w1 at Y0 F2;refine ab (bz (aL (rV (n:=m+1) B rfl (aZ _) (by rfl) gs hs.fnAt (aw (bq (aa 6 rfl rfl (av ⟨bH (.inl rfl),cD (.inl rfl) (by decide) (by decide) rfl ?_⟩)))))));refine ak (bq (aa 6 rfl rfl (av ⟨bH (.inl rfl),cD (.inl rfl) (by decide) (by decide) rfl ?_⟩)));refine ⟨by simp [d9],_,H9 B hs nQ w0 w1 YZ Y0 m,?_⟩;rw [F2];have EE:l < 9:=by simp only [List.mem_cons,List.not_mem_nil,or_false] at hl;exact Nu hl
   refine cY (aw (bq (aa 2 rfl rfl (aa 3 rfl rfl ⟨bH (.inl rfl),cD (y:=.lst (ei (aB l))) (.inl rfl) (Bz) (LY EE) ?_ ?_⟩))))
   . rw [Int.toNat_natCast,cj,List.getElem?_range EE];rfl
   refine ak (i9 (bI (aH (by simp [sizeLine]) (by simp [sizeLine]) ?_)));have e1:ei (aB l)=((aB l).map fP).map .str:=by rw [List.map_map];rfl
   rw [e1];refine Eh (nP.cons (Ef.list (qg.str c) _ _) (nP.cons (Ef.list (qg.str c) [] []) .nil)) (by show m+1≠0;exact LR) (aD ?_);rw [decide_eq_true rfl,decide_eq_true rfl];exact aq (aq ⟨aW.of rfl,rfl⟩)
 . rintro ⟨lc,H⟩ ⟨hL,hH⟩;exact ab (bf (kX ⟨rfl,rfl⟩))
end
noncomputable def lastD (ev:List dk):Nat->List (Int×Int)
 | 0=>[]
 | k+1=>match ev[k]? with
   | some e=>dC (lastD ev k) (e.p:Int) (k:Int)
   | none=>lastD ev k
noncomputable def predsE (ev:List dk)(k:Nat):List Int:=match ev[k]? with
 | some e=>(match b9 (lastD ev k) (e.p:Int) with | some j=>[j] | none=>[])++(if e.out then [] else [((e.c - 97:Nat):Int)])
 | none=>[]
noncomputable def iK (ev:List dk):Nat->List Nd
 | 0=>[]
 | k+1=>dF (iK ev k) (k:Int) (predsE ev k)
structure wQ (c:aP)(mg mb:dZ)(Kf:Frag)(a:ql):Prop where
 W:tD c mg mb Kf a
 F5:∃t o tn,gy c a.rU pz (.ref t)/\c.h₀.get? t=some o/\o.cls≠.none/\o.data=.seq #[.none] tn
 F6:dp mg mb "set" (.type "set")
 vj:dp mg mb "iter" (.builtin "iter")
 mf:dp mg mb "len" (.builtin "len")
 F7:dp mg mb "StopIteration" (.type "StopIteration")
 F8:dp mg mb "bool" (.type "bool")
 Cs:dp mg mb "tuple" (.type "tuple")
 lO:dp mg mb "enumerate" (.type "enumerate")
 jy:dp mg mb "sorted" (.builtin "sorted")
 WS:dp mg mb "ValueError" (.type "ValueError")
 out:∃tk,mg "_NODE_OUT"=some (.int (-1) tk)
 done:∃tk,mg "_NODE_DONE"=some (.int (-2) tk)
structure C5 (H:aI)(ns:aS)(kvs:List (Int×Int))(fN:List Int):Prop where
 last:H[3]?=some (.bt (rg .int kvs))
 fN:H[4]?=some (.list (fN.map .int))
 x9:∀n∈ns,5<=n
theorem SB.keep {a:ql}(h:SB H a d ns ah)(e:Ext H H' (λzz=>False)):SB H' a d ns ah:=by obtain g:∀{j o},H[j]?=some o->H'[j]?=some o:=λq=>(e.same _ (bp q).1 id).trans q;exact ⟨g h.inst,g h.dict,g h.tab,h.nodes.same λj hj zz=>e.same j hj id,h.names⟩
theorem C5.keep {H H':aI}{P:Nat->Prop}{gv:List Int}(h:C5 H ns kvs gv)(e:Ext H H' P)(h3:¬P 3)(h4:¬P 4):C5 H' ns kvs gv :=
 ⟨(e.same _ (bp h.last).1 h3).trans h.last,(e.same _ (bp h.fN).1 h4).trans h.fN,h.x9⟩
theorem C5.len {gv:List Int}(h:C5 H ns kvs gv):5<=H.length:=(bp h.fN).1
theorem zd (ev:List dk):∀k,(lastD ev k).length<=k:=by
 intro k;induction k with
 | zero=>exact aZ _
 | succ k ih =>
   dsimp only [lastD]
   split
   . obtain this:=uX (lastD ev k) ((‹dk›).p:Int) (k:Int);exact Pm this ih
   . exact OX ih
theorem mi (ev:List dk)(k:Nat):(predsE ev k).length<=2:=by
 delta predsE
 split
 . refine (af List.length_append)▸?_;obtain h1:∀o:Option Int,(match o with | some j=>[j] | none=>[]).length<=1:=λo=>by cases o <;> simp
   obtain h2:∀(b:Bool) (x:Int),(if b then [] else [x]).length<=1:=λb x=>by cases b <;> simp
   obtain this:=h1 (b9 (lastD ev k) ((‹dk›).p:Int));obtain this:=h2 (‹dk›).out (((‹dk›).c - 97:Nat):Int);omega
 . simp
theorem vm (ah:List Nd)(x:Int)(bN:List Int):(dF ah x bN).length<=ah.length+1+bN.length:=by
 refine ct (nj x bN _) ?_;obtain this:(bump (bA ah x) x bN.length).length=(bA ah x).length:=by simp [bump]
 obtain this:=l8 ah x;exact Py ‹_› this
theorem oP (ev:List dk):∀k,(iK ev k).length<=3*k/\eg (iK ev k) (2*k):=by
 intro k;induction k with
 | zero=>exact ⟨aZ _,λy hy=>nomatch hy⟩
 | succ k ih =>
   obtain hp:=mi ev k;refine ⟨?_,?_⟩
   . obtain this:=vm (iK ev k) (k:Int) (predsE ev k)
     skip
     obtain this:=ih.1;exact PA hp this ‹_›
   . intro y hy;obtain h1:=eg.bN (x:=(k:Int)) (predsE ev k) ((ih.2.bA (k:Int)).bump (k:Int) (predsE ev k).length);obtain this:=h1 y hy;exact Pl this hp
theorem ze (c:Nat)(h1:97<=c)(h2:c < 115):∃r,Builtin.Str.occurrences (Str.ofString "abcdefghijklmnopqr") ⟨#[c]⟩ 0 (Str.ofString "abcdefghijklmnopqr").length 1=(c - 97)::r:=by
 obtain key:∀k,k < 18->(Builtin.Str.occurrences (Str.ofString "abcdefghijklmnopqr") ⟨#[97+k]⟩ 0 (Str.ofString "abcdefghijklmnopqr").length 1).head?=some k:=by decide +kernel
 obtain h:=key (c - 97) (M7 h2);replace h:=(show 97+(c - 97)=c by exact MW h1)▸h;cases hq:Builtin.Str.occurrences (Str.ofString "abcdefghijklmnopqr") ⟨#[c]⟩ 0 (Str.ofString "abcdefghijklmnopqr").length 1 with
 | nil=>replace h:=hq▸h;cases h
 | cons x r=>rw [hq] at h;exact (bQ r (by obtain this:=Option.some.inj h;rw [this]))
section
variable {c:aP}{C:Cx}{S:AS}{X:cK}{K:cw}{mg mb:dZ}{Kf:Frag}{a:ql}{pos:Pos}
noncomputable abbrev wR:a8:=["log","cut","rest","sorter","last","given","k","process","line","word","out","ahead"]
noncomputable abbrev kK (ev:List dk)(cut rest:aS):dI:=[(0,jO ev),(1,bB cut),(2,bB rest),(3,.ref 1),(4,.ref 3),(5,.ref 4)]
theorem Ct {x:Str}{kd:Nat}{p apos pos:Pos}{args:cz}
 (h:oR c C pos args S (xh (.str x) (bK c C (.builtin "str.index") K X)) X)
 (AB:((backTo pos (starEach args C.env)).all (λx=>!x.1)&&(backToKw pos (keywordEach [] C.env)).all (λx=>x.1.isSome)
  && decide (args.length+([]:List Keyword).length+(if ([]:List Keyword).isEmpty then 0 else 1) < 30))=true:=by rfl)
 (hline:(apos.endLine==pos.line)=true:=by rfl)
 (sK:(backTo pos (starEach args C.env)).any (·.1)=false:=by rfl)
 (hl:mM (backTo pos (starEach args C.env))=false:=by rfl):Ev c C (.Call (.Attribute (.Constant (.str x) kd p) "index" apos) args [] pos) S K X :=
 bT "str" "str.index" PySem.F.plainAttrs_str PySem.F.slot_str_index PySem.F.type_str_index (cQ ⟨rfl,h⟩) rfl AB hline sK hl
theorem Cu (B:Base c mg mb){env:Env}{own:aA}{frames:List Env}{m:Nat}{ev:List dk}{cut rest:aS}{k n:Nat}{e:dk}(hc:e.out=false->97<=e.c/\e.c < 115){st:Stmt}(be:(jq nY.body 1)[1]?=some st){l0:List Int}(WT:l0.length<=2)
 {H0 H:aI} (e0:Ext H0 H (λzz=>False)) (hn:H0.length<=n) (nO:H[n]?=some (.list (l0.map .int))) :
 jK c (l5 nY env own frames (m+6) wR) st ⟨kK ev cut rest++[(6,.int k),(7,.int e.p),(8,.int e.l),(9,.str (fP e.c)),(10,.bool e.out),(11,.ref n)],H⟩
  (λfl S'=>fl=.next/\S'.loc=kK ev cut rest++[(6,.int k),(7,.int e.p),(8,.int e.l),(9,.str (fP e.c)),(10,.bool e.out),(11,.ref n)]/\Ext H0 S'.heap (λzz=>False)/\S'.heap[n]?=some (.list ((l0++(if e.out then [] else [((e.c - 97:Nat):Int)])).map .int))) dT:=by
 obtain rfl:=Option.some.inj be;refine bz (sY (fX (aa 10 rfl rfl (aD ?_))));cases ho:e.out with
 | true =>refine aq (eM rfl rfl e0 ?_);simpa using nO
 | false =>refine e0a1 (hc ho) λc1 c2=>?_;refine e1a0 (ze e.c c1 c2) λrr A1=>?_;refine ab (bw (bT "list" "list.append" PySem.F.plainAttrs_list PySem.F.slot_list_append PySem.F.type_list_append (aa 11 rfl rfl ⟨fB nO rfl,?_⟩)) (rfl));refine ak (Ct ?_);refine ak (bq (aa 9 rfl rfl (av ⟨uY,xE (cp:=e.c) (by decide) (by decide) rfl ?_⟩)));refine BI A1 (dK nO (by rw [List.length_map];simp only [sizeLine];exact L7 WT) ?_);refine aq (eM rfl rfl (e0.iJ hn _) ?_);show (H.set n _)[n]?=_;rw [lM nO];simp
theorem Cv (G:wQ c mg mb Kf a){env:Env}{own:aA}{frames:List Env}{m:Nat}(be:Stores (l5 nY env own frames (m+6) wR)){ev:List dk}(oO:ev.length<=20){cut rest:aS}{k:Nat}{e:dk}(he:ev[k]?=some e)(hc:e.out=false->97<=e.c/\e.c < 115)
 {H:aI} {ns:aS} (sb:SB H a 0 ns (iK ev k)) (lt:C5 H ns (lastD ev k) []) :
 Ex c (l5 nY env own frames (m+6) wR) (jq nY.body 1) ⟨kK ev cut rest++[(6,.int k),(7,.int e.p),(8,.int e.l),(9,.str (fP e.c)),(10,.bool e.out)],H⟩
  (λfl S'=>fl=.next/\aW S' (kK ev cut rest)/\∃rm,SB S'.heap a 0 rm (iK ev (k+1))/\C5 S'.heap rm (lastD ev (k+1)) []) dT:=by
 have hB:=G.W.B.toBase;have IB:k < 20:=by have:=(bp he).1;exact OC this oO
 refine ab (ia (K':=λfl S'=>fl=.next/\S'=⟨kK ev cut rest++[(6,.int k),(7,.int e.p),(8,.int e.l),(9,.str (fP e.c)),(10,.bool e.out),(11,.ref H.length)],H++[.list ((match b9 (lastD ev k) (e.p:Int) with | some j=>[j] | none=>[]).map .int)]⟩) (aj (pM (aL (aa 7 rfl rfl (aa 4 rfl rfl (tr (.inr (ae 3 rfl lt.last)) (aD ?_))))))) ?_)
 . rw [rR,Option.isSome_map];cases hq:b9 (lastD ev k) (e.p:Int) with
   | none=>exact eA (bI ⟨by simp [sizeLine],ag 11 rfl (be 11 _ rfl) ⟨rfl,rfl⟩⟩)
   | some j=>exact eA (ak (bq (aa 4 rfl rfl (aa 7 rfl rfl ⟨jb (.inr (ae 3 rfl lt.last)),kB (y:=.int j) (.inr (ae 3 rfl lt.last)) (by rw [rR,hq];rfl) ⟨by simp [sizeLine],ag 11 rfl (be 11 _ rfl) ⟨rfl,rfl⟩⟩⟩))))
 rintro fl S' ⟨rfl,rfl⟩;have hp:predsE ev k=(match b9 (lastD ev k) (e.p:Int) with | some j=>[j] | none=>[])++(if e.out then [] else [((e.c - 97:Nat):Int)]):=by unfold predsE;rw [he]
 generalize (match b9 (lastD ev k) (e.p:Int) with | some j=>[j] | none=>[])=l0 at hp;have WT:l0.length<=2:=by have:=mi ev k;rw [hp] at this;simp at this;exact N6 this
 have e0:Ext H (H++[AO.list (l0.map .int)]) (λzz=>False):=(Ext.refl H _).app;have nO:(H++[AO.list (l0.map .int)])[H.length]?=some (.list (l0.map .int)):=by rw [gn (aZ _)];simp
 refine ab (ia (Cu hB hc rfl WT e0 (aZ _) nO) ?_);rw [<-hp];rintro fl ⟨lc,H1⟩ ⟨rfl,rfl,e1,Qi⟩;simp only at e1 Qi;have WU:=sb.keep e1;have Qj:=lt.keep e1 id id;refine e0a1 (oP ev k) λb1 b2=>?_;have sK:=mi ev k;have u0:fnIn Kf a.add=true:=by have this:=G.W.Ia;simp only [lq,fY,eZ] at this;exact this.1.1.1.2
 refine ab (bw (uR G.W.B rfl (n:=m+4) (by show m+4<=m+6;exact M1) (aa 3 rfl rfl (qb G.W.B a.cS a.add G.W.Ia ⟨WU.inst,WU.dict⟩ rfl (ck a.add (.ref 1) rfl u0 ?_)))) (rfl));refine aw (aa 6 rfl rfl (Br (aa 11 rfl rfl (a9 _ (.inl (.inr (ae H.length rfl Qi))) (by rw [List.length_map];simp only [sizeLine];exact L7 sK) (bI ?_)))));have ad:=Ig G.W G.mf WU (k:Int) (predsE ev k) m (Pa IB sK b1) b2 (Oa IB sK);rw [List.append_nil];refine ad.mono λv H' q=>?_;obtain ⟨_,rm,F9,t4,gr⟩:=q;refine e1a1 gr λr o1 hr=>?_;clear gr;obtain rfl:=o1;have h5:=Qj.len;have nf:∀j,j=3\/j=4->¬xI 0 ns j:=λj hj q=>by
  rcases q with q | q | ⟨n,hn,q⟩
  . exact L5 q hj
  . exact L4 q hj
  . have:=Qj.x9 n hn;exact Mf this hj q
 have WW:=Qj.keep t4 (nf 3 (.inl rfl)) (nf 4 (.inr rfl));refine ab (aj (aa 6 rfl rfl (lr (aa 4 rfl rfl (aa 7 rfl rfl (iZ 3 (e.p:Int) _ rfl rfl WW.last ?_ ?_))))))
 . have:=zd ev k;simp only [rg,List.length_map,sizeLine];exact Ob IB this
 have e3:Ext H' (H'.set 3 (.bt (dC (rg .int (lastD ev k)) (e.p:Int) (.int (k:Int))))) (λj=>j=3):=Ext.set 3 _ rfl;refine aq (z9 rfl (aW.of rfl) (ns++r) ?_ ?_)
 . show SB _ a 0 _ (dF _ _ _);have g:∀{j o},j≠3->H'[j]?=some o->(H'.set 3 (.bt (dC (rg .int (lastD ev k)) (e.p:Int) (.int (k:Int)))))[j]?=some o:=λhj q=>(cH (Ne.symm hj)).trans q;refine ⟨g (by decide) F9.inst,g (by decide) F9.dict,g (by decide) F9.tab,?_,F9.names⟩;refine ⟨F9.nodes.len,λi n x h1 h2=>?_,F9.nodes.low,F9.nodes.gap⟩;have WY:5<=n:=by
    rcases bX (bJ h1) with q | q
    . exact Qj.x9 n q
    . have:=hr n q;exact Me h5 this
   exact (F9.nodes.at_ i n x h1 h2).set _ (MG WY) (MH WY) (MI WY)
 . have hl:lastD ev (k+1)=dC (lastD ev k) (e.p:Int) (k:Int):=by show (match ev[k]? with | some e=>_ | none=>_)=_;rw [he]
   rw [hl];refine ⟨?_,(cH (by decide)).trans WW.fN,λn hn=>?_⟩
   . rw [<-yR];exact lM WW.last
   . rcases bX hn with q | q
     . exact Qj.x9 n q
     . have:=hr n q;exact Me h5 this
end
structure TS where
 ah:List Nd
 ready:List Int
 bg:Int
 fin:Int
 fN:List Int
noncomputable def Rm (st:TS)(x:Int):TS:=⟨(eh (outs st.ah st.ready) [] x).1,(eh (outs st.ah st.ready) [] x).2,st.bg+st.ready.length,st.fin+1,st.fN++st.ready⟩
noncomputable def runT (st:TS)(xs:aS):Nat->TS
 | 0=>st
 | i+1=>match xs[i]? with
   | some x=>Rm (runT st xs i) (x:Int)
   | none=>runT st xs i
theorem n7 (st:TS){xs:aS}{i x:Nat}(h:xs[i]?=some x):runT st xs (i+1)=Rm (runT st xs i) (x:Int):=by show (match xs[i]? with | some x=>_ | none=>_)=_;rw [h]
structure OkR (st:TS):Prop where
 rin:∀y∈st.ready,y∈st.ah.map (·.1)
 rl:st.ready.length < 100
 gl:st.fN.length < 1000
structure Qk (st:TS)(x:Int):Prop extends OkR st where
 Y1:x∈st.ah.map (·.1)
 out:eI (outs st.ah st.ready) x=-1
 Y2:∀s∈bY (outs st.ah st.ready) x,s∈st.ah.map (·.1)
 sl:(bY (outs st.ah st.ready) x).length < 100
theorem aW.Ql (h:aW S L)(hi:L.all (λp=>p.1 != i)=true):aW (S.put i v) L:=by
 induction L with
 | nil=>trivial
 | cons p r ih =>
   simp only [List.all_cons,eZ,bne_iff_ne,ne_eq] at hi;refine ⟨?_,ih h.2 hi.2⟩
   skip
   rw [au,if_neg hi.1];exact h.1
theorem aW.heap (h:aW S L)(H:aI):aW {S with heap:=H} L:=by
 induction L with
 | nil=>trivial
 | cons p r ih=>exact ⟨h.1,ih h.2⟩
section
variable {c:aP}{C:Cx}{S:AS}{X:cK}{K:cw}{mg mb:dZ}{Kf:Frag}{a:ql}{pos:Pos}
theorem SR.WZ {H:aI}(h:SR H a 0 ns ah r ready bg fin)(hr:5<=r)(x9:∀n∈ns,5<=n)(o:AO):SR (H.set 4 o) a 0 ns ah r ready bg fin:=by obtain g:∀{j o'},j≠4->H[j]?=some o'->(H.set 4 o)[j]?=some o':=λhj q=>(cH (Ne.symm hj)).trans q;refine ⟨g (by decide) h.inst,g (by decide) h.dict,g (MM hr) h.list,⟨h.nodes.len,λi n x h1 h2=>?_,h.nodes.low,h.nodes.gap⟩,h.names,h.yZ,h.I4⟩;obtain this:=x9 n (bJ h1);exact (h.nodes.at_ i n x h1 h2).set _ (MJ this) (MK this) (ML this)
structure rx (a:ql)(H:aI)(ns:aS)(r:Nat)(st:TS)(kvs:List (Int×Int))(g:List Int):Prop where
 sr:SR H a 0 ns st.ah r st.ready st.bg st.fin
 lt:C5 H ns kvs g
 r5:5<=r
theorem Rn {ns:aS}{r:Nat}(x9:∀n∈ns,5<=n)(hr:5<=r)(j:Nat)(hj:j=3\/j=4):¬fk 0 ns r j:=λq=>by
 rcases q with q | q | q | ⟨n,hn,q⟩
 . exact L5 q hj
 . exact L4 q hj
 . exact NY hr hj q
 . obtain this:=x9 n hn;exact Mf this hj q
theorem vn (G:wQ c mg mb Kf a){n:Nat}{H:aI}{lc:dI}{ns:aS}{r:Nat}{st:TS}{kvs:List (Int×Int)}{g:List Int}(hi:rx a H ns r st kvs g)(ok:OkR st)
 {K:AV->aI->Prop} (k:∀H',rx a H' ns r {st with ah:=outs st.ah st.ready,ready:=[],bg:=st.bg+st.ready.length} kvs g->K (.tup (st.ready.map .int)) H'):bC c (n+1) (.ref a.ready) [.ref 1] H K:=by
 refine e1a0 G.out λtk hO=>?_;refine (B0 G.W G.Cs G.mf hO hi.sr ok.rin (by obtain this:=ok.rl;exact M6 this) n).mono λv H' q=>?_;refine e0a2 q λo2 W0 e=>?_;clear q;obtain rfl:=o2;exact k H' ⟨W0,hi.lt.keep e (Rn hi.lt.x9 hi.r5 3 (.inl rfl)) (Rn hi.lt.x9 hi.r5 4 (.inr rfl)),hi.r5⟩
theorem ya (G:wQ c mg mb Kf a){n:Nat}{H:aI}{ns:aS}{r:Nat}{st:TS}{x:Int}{kvs:List (Int×Int)}{g:List Int}(hi:rx a H ns r {st with ah:=outs st.ah st.ready,ready:=[],bg:=st.bg+st.ready.length} kvs g)(ok:Qk st x)
 {K:AV->aI->Prop} (k:∀H',rx a H' ns r (Rm st x) kvs g->K .none H'):bC c (n+1) (.ref a.done) [.ref 1,.int x] H K:=by
 refine e1a0 G.out λtk hO=>?_;refine e1a0 G.done λtk2 hD=>?_;obtain hx:x∈(outs st.ah st.ready).map (·.1):=by rw [gf];exact ok.Y1
 refine (Es G.W hO hD hi.sr hx ok.out (λs hs=>by rw [gf];exact ok.Y2 s hs) (by obtain this:=ok.sl;simp only [List.length_nil];exact M5 this) n).mono λv H' q=>?_;refine e0a2 q λo1 W0 e=>?_;clear q;obtain rfl:=o1;exact k H' ⟨W0,hi.lt.keep e (Rn hi.lt.x9 hi.r5 3 (.inl rfl)) (Rn hi.lt.x9 hi.r5 4 (.inr rfl)),hi.r5⟩
theorem yb (G:wQ c mg mb Kf a){env:Env}{own:aA}{frames:List Env}{m:Nat}(be:Stores (l5 nY env own frames (m+6) wR)){Y3 Y4 ap3 ap4 ap5:Pos}{S:AS}{ev:List dk}{cut rest:aS}(hL:aW S (kK ev cut rest))
 {ns:aS} {r:Nat} {st:TS} {kvs:List (Int×Int)} (hi:rx a S.heap ns r st kvs st.fN) (ok:OkR st) {K:gw}
 (hm:(Y3.endLine==Y4.line)=true)
 (k:∀S',(∀i,i≠5->S'.loc.lookup i=S.loc.lookup i)->aW S' (kK ev cut rest)->rx a S'.heap ns r {st with ah:=outs st.ah st.ready,ready:=[],bg:=st.bg+st.ready.length} kvs (st.fN++st.ready)->K .next S') :
 jK c (l5 nY env own frames (m+6) wR) (.AugAssign (.Name "given" ap3) .Add (.Call (.Attribute (.Name "sorter" ap4) "get_ready" Y3) [] [] Y4) ap5) S K X:=by
 obtain h5:S.loc.lookup 5=some (.ref 4):=hL.at 5 _ rfl;refine eV 5 rfl h5 (be 5 _ rfl) (cT G.W.B a.cS a.ready G.W.wx rfl (n:=m+1) (by skip;exact LD) (aa 3 rfl (hL.at 3 _ rfl) ⟨1,0,_,rfl,⟨hi.sr.inst,hi.sr.dict⟩,rfl,bI (vn G (lc:=S.loc) hi ok λH' je=>?_)⟩) (rfl) (by rfl) hm (by rfl));refine BH je.lt.fN (by simp only [List.length_map,List.length_map];obtain this:=ok.gl;obtain this:=ok.rl;simp only [sizeLine];exact N9 this ‹_›) ?_;refine List.map_append▸?_;refine k _ (λi co=>?_) ?_ ⟨je.sr.WZ je.r5 je.lt.x9 _,⟨(cH (by decide)).trans je.lt.last,lM je.lt.fN,je.lt.x9⟩,je.r5⟩
 . skip
   rw [au,if_neg co]
 . obtain this:∀i v,(kK ev cut rest).lookup i=some v->(a7 S.loc 5 (.ref 4)).lookup i=some v:=λi v e=>by
    rw [au];by_cases q:i=5
    . subst q;rw [if_pos rfl];exact e.symm▸rfl
    . refine (af (if_neg q))▸?_;exact hL.at i v e
   exact (z8 (this 0 _ rfl) (this 1 _ rfl) (this 2 _ rfl) (this 3 _ rfl) (this 4 _ rfl) (this 5 _ rfl) trivial)
end
noncomputable def T0 (ev:List dk):TS:=⟨iK ev ev.length,c8 (iK ev ev.length),0,0,[]⟩
noncomputable def jz (st:TS):TS:=⟨outs st.ah st.ready,[],st.bg+st.ready.length,st.fin,st.fN++st.ready⟩
noncomputable def Tc (ev:List dk)(cut:aS):TS:=runT (T0 ev) cut cut.length
noncomputable def Te (ev:List dk)(cut rest:aS):TS:=runT (jz (Tc ev cut)) rest rest.length
theorem tN (p:Int->Bool)(g:List Int):(List.range g.length).filterMap (λi=>match g[i]? with | some x=>if p x then some (AV.int x) else none | none=>none)=(g.filter p).map AV.int:=by
 induction g with
 | nil=>rfl
 | cons k ks ih =>
   refine (af List.length_cons)▸(af List.range_succ_eq_map)▸(af List.filterMap_cons)▸(af List.filterMap_map)▸?_;obtain e:((λi=>match (k::ks)[i]? with | some x=>if p x then some (AV.int x) else none | none=>none) ∘ Nat.succ)=(λi=>match ks[i]? with | some x=>if p x then some (AV.int x) else none | none=>none):=by funext i;rfl
   refine (af e)▸(af ih)▸(af List.filter_cons)▸?_;dsimp only [List.getElem?_cons_zero];cases h:p k <;> simp
structure IC (ev:List dk)(cut rest:aS):Prop where
 Y5:ev.length<=20
 iV:∀e∈ev,e.out=false->97<=e.c/\e.c < 115
 rk:∃rk:Int->Nat,∀y∈iK ev ev.length,∀s∈y.2.2,s∈(iK ev ev.length).map (·.1)/\rk y.1 < rk s
 W2:∀(i x:Nat),cut[i]?=some x->Qk (runT (T0 ev) cut i) (x:Int)
 W3:OkR (Tc ev cut)
 W4:∀(i x:Nat),rest[i]?=some x->Qk (runT (jz (Tc ev cut)) rest i) (x:Int)
 gl:(jz (Tc ev cut)).fN.length < 60
 rl:(Te ev cut rest).ready.length < 1000
 cl:cut.length < 60
noncomputable def vo (g:List Int)(cut:aS):List Int:=g.filter λx=>!((cut.map λ(n:Nat)=>(n:Int)).any (·==x))
noncomputable def EG (st:TS):Bool:=decide (st.fin < st.bg)||!st.ready.isEmpty
section
variable {c:aP}{C:Cx}{S:AS}{X:cK}{K:cw}{mg mb:dZ}{Kf:Frag}{a:ql}{pos:Pos}
theorem ID (G:wQ c mg mb Kf a)(hf:gy c fa nY .none)(ev:List dk)(cut rest:aS)(F:IC ev cut rest)(m:Nat) :
 bC c (m+7) (.ref fa) [jO ev,bB cut,bB rest] [] (λv zz=>v.under 0=true/\v=.tup [.lst ((jc (vo (jz (Tc ev cut)).fN cut)).map .int),.bool (EG (Te ev cut rest))]):=by
 have hB:=G.W.B.toBase;refine hf.gz hB (n:=m+6) ["log","cut","rest"] wR [(0,jO ev),(1,bB cut),(2,bB rest)] (λzz zz zz zz=>rfl) rfl rfl (by decide +kernel) λenv own frames be jQ=>?_;refine e3a3 G.F5 λt o tn si1 si2 si3 si4=>?_;refine ab (Ax [(3,"sorter"),(4,"last"),(5,"given")] rfl be (λp m=>by rcases m with _ | ⟨_,m | ⟨_,m | ⟨_,m⟩⟩⟩ <;> first | rfl | cases m) ?_ (by rfl) (by rfl));refine cY (aw (mZ G.W.B a.cS G.W.FJ rfl (n:=m+2) (by show m+2<=m+6;exact LV) (kW hB (by rfl) G.W.gS ⟨rfl,bI (bC.cls G.W.B G.W.Yy G.W.FH ((u4 G.W si1 si2 si3 si4 [] m).mono λv H' q=>⟨q.1,?_⟩))⟩)));rw [q.2];refine aw (ly hB (ak (eA (bI (kS (by simp [sizeLine]) (by simp [sizeLine]) _ rfl rfl ?_)))));refine bV (kK ev cut rest) (aW.of rfl) ?_;show Ex c (l5 nY env own frames (m+6) wR) _ ⟨kK ev cut rest,[AO.aN [("_node2info",.ref 2),("_ready_nodes",.none),("_npassedout",.int 0),("_nfinished",.int 0)],.inst a.cS 0,.bt [],.bt [],.list []]⟩ _ dT;have Y6:SB [AO.aN [("_node2info",.ref 2),("_ready_nodes",.none),("_npassedout",.int 0),("_nfinished",.int 0)],.inst a.cS 0,.bt [],.bt [],.list []] a 0 [] (iK ev 0) :=
  ⟨rfl,rfl,rfl,⟨rfl,λi n x h=>nofun,by decide,List.Pairwise.nil⟩,List.nodup_nil⟩
 have Y7:C5 [AO.aN [("_node2info",.ref 2),("_ready_nodes",.none),("_npassedout",.int 0),("_nfinished",.int 0)],.inst a.cS 0,.bt [],.bt [],.list []] [] (lastD ev 0) []:=⟨rfl,rfl,by simp⟩
 generalize [AO.aN [("_node2info",.ref 2),("_ready_nodes",.none),("_npassedout",.int 0),("_nfinished",.int 0)],.inst a.cS 0,.bt [],.bt [],.list []]=H0 at Y6 Y7;refine ab (d8 rfl (lg (bM hB (by rfl) G.lO.1 G.lO.2 ⟨rfl,aa 0 rfl rfl (ae _ rfl ?_)⟩) rfl));refine ⟨λi S'=>aW S' (kK ev cut rest)/\∃ns,SB S'.heap a 0 ns (iK ev i)/\C5 S'.heap ns (lastD ev i) [],(oi (aW.of rfl) [] Y6 Y7),λzz zz zz=>trivial,?_,?_⟩
 . rintro i y S' hy ⟨hL,ns,sb,lt⟩;obtain ⟨e,he,rfl⟩:∃e,ev[i]?=some e/\y=AV.tup [.int i,oX e]:=by
    rw [cj,List.getElem?_zipIdx,cj] at hy;cases he:ev[i]? with
    | none=>rw [he] at hy;cases hy
    | some e=>rw [he] at hy;refine (ae e rfl ?_);have:=aX hy;rw [<-this];simp
   refine (aH rfl rfl (ag 6 rfl (be 6 _ rfl) (nI rfl rfl (ag 7 rfl (be 7 _ rfl) (ag 8 rfl (be 8 _ rfl) (ag 9 rfl (be 9 _ rfl) (ag 10 rfl (be 10 _ rfl) ?_)))))));refine bV (kK ev cut rest++[(6,.int i),(7,.int e.p),(8,.int e.l),(9,.str (fP e.c)),(10,.bool e.out)]) ?_ ?_
   . have:=((((hL.put (i:=6) (v:=.int i) rfl).put (i:=7) (v:=.int e.p) rfl).put (i:=8) (v:=.int e.l) rfl).put (i:=9) (v:=.str (fP e.c)) rfl).put (i:=10) (v:=.bool e.out) rfl;simpa using this
   refine pv (Cv G be F.Y5 he (F.iV e (bJ he)) sb lt) λfl S2 q=>?_;refine e0a2 q λo7 q1 q2=>?_;clear q;obtain rfl:=o7;exact ⟨q1,q2⟩
 rintro S1 ⟨hL,ns,sb,lt⟩;have e9:((ev.map oX).zipIdx.map λp=>AV.tup [.int p.2,p.1]).length=ev.length:=by simp
 rw [e9] at sb lt;generalize X9:lastD ev ev.length=kvs at lt;have hlen:(iK ev ev.length).length < 900:=by have:=(oP ev ev.length).1;have:=F.Y5;exact OS this ‹_›
 refine e1a0 F.rk λrk PP=>?_;refine ab (ia (K':=λfl S'=>fl=.next/\aW S' (kK ev cut rest)/\∃ns r,rx a S'.heap ns r (Te ev cut rest) kvs (jz (Tc ev cut)).fN) (s9 jQ "ValueError" (by rfl) (by rfl) (by rfl) (PQ (X:=dT) ?_ λzz zz q=>q.elim)) ?_)
 . -- prepare
   refine ab (bw (cT G.W.B a.cS a.u3 (n:=m+2) G.W.FK rfl (by show m+2<=m+6;exact LV) (aa 3 rfl (hL.at 3 _ rfl) ⟨1,0,_,rfl,⟨sb.inst,sb.dict⟩,rfl,bI ((Er G.W G.F6 G.vj G.mf G.F7 sb PP hlen m).mono λv H' q=>?_)⟩)) (rfl));refine e0a2 q λo6 sr e1=>?_;clear q;obtain rfl:=o6;have h5:=lt.len;have ri0:rx a H' ns S1.heap.length (T0 ev) kvs (T0 ev).fN:=⟨sr,lt.keep e1 (VT) (VU),h5⟩
   have Y8:=hL.heap H';refine ab (d8 rfl (fC (aa 1 rfl (Y8.at 1 _ rfl) (ae _ (.inl rfl) ?_))));refine ⟨λi S'=>aW S' (kK ev cut rest)/\rx a S'.heap ns S1.heap.length (runT (T0 ev) cut i) kvs (runT (T0 ev) cut i).fN,⟨Y8,ri0⟩,λzz zz zz=>.inl rfl,?_,?_⟩
   . rintro i y S' hy ⟨C3,ri⟩;rw [cj] at hy;refine e1a1 (nB hy) λx hx o5=>?_;obtain rfl:=o5;have ok:=F.W2 i x hx;have rs:=n7 (T0 ev) hx;generalize runT (T0 ev) cut i=st at ri ok rs;refine ag 6 rfl (be 6 _ rfl) ?_;have tF:aW (S'.put 6 (.int x)) (kK ev cut rest):=C3.Ql rfl;have h6:=iu S' 6 (.int x);have hS:(S'.put 6 (.int x)).heap=S'.heap:=rfl;generalize S'.put 6 (.int x)=S2 at tF h6 hS;rw [<-hS] at ri;refine ab (yb G be tF ri ok.toOkR (by rfl) λS3 FD Qm IE=>?_);have T3:S3.loc.lookup 6=some (.int x):=(FD 6 (by decide)).trans h6;refine ab (bw (cT G.W.B a.cS a.done (n:=m+1) G.W.BO rfl (by show m+1<=m+6;exact LD) (aa 3 rfl (Qm.at 3 _ rfl) ⟨1,0,_,rfl,⟨IE.sr.inst,IE.sr.dict⟩,rfl,ak (aa 6 rfl T3 (ya G IE ok λH4 ri3=>?_))⟩)) (rfl));refine aq ⟨Qm.heap H4,?_⟩;rw [rs];exact ri3
   . rintro S2 ⟨C3,ri⟩;rw [List.length_map] at ri;refine ab (yb G be C3 ri F.W3 (by rfl) λS3 FD Qm IE=>?_);refine ab (d8 rfl (fC (aa 2 rfl (Qm.at 2 _ rfl) (ae _ (.inl rfl) ?_))));refine ⟨λi S'=>aW S' (kK ev cut rest)/\rx a S'.heap ns S1.heap.length (runT (jz (Tc ev cut)) rest i) kvs (jz (Tc ev cut)).fN,⟨Qm,⟨IE.sr,IE.lt,IE.r5⟩⟩,λzz zz zz=>.inl rfl,?_,?_⟩
     . rintro i y S' hy ⟨W1,Ga⟩;rw [cj] at hy;refine e1a1 (nB hy) λx hx o4=>?_;obtain rfl:=o4;have ok:=F.W4 i x hx;have rs:=n7 (jz (Tc ev cut)) hx;generalize runT (jz (Tc ev cut)) rest i=st at Ga ok rs;refine ag 6 rfl (be 6 _ rfl) ?_;have tF:aW (S'.put 6 (.int x)) (kK ev cut rest):=W1.Ql rfl;have h6:=iu S' 6 (.int x);have hS:(S'.put 6 (.int x)).heap=S'.heap:=rfl;generalize S'.put 6 (.int x)=S4 at tF h6 hS;rw [<-hS] at Ga;refine ab (bw (cT G.W.B a.cS a.ready (n:=m+1) G.W.wx rfl (by show m+1<=m+6;exact LD) (aa 3 rfl (tF.at 3 _ rfl) ⟨1,0,_,rfl,⟨Ga.sr.inst,Ga.sr.dict⟩,rfl,bI (vn G (lc:=S4.loc) Ga ok.toOkR λH4 W5=>?_)⟩)) (rfl));refine ab (bw (cT G.W.B a.cS a.done (n:=m+1) G.W.BO rfl (by show m+1<=m+6;exact LD) (aa 3 rfl (tF.at 3 _ rfl) ⟨1,0,_,rfl,⟨W5.sr.inst,W5.sr.dict⟩,rfl,ak (aa 6 rfl h6 (ya G W5 ok λH5 ri7=>?_))⟩)) (rfl));refine aq ⟨tF.heap H5,?_⟩;rw [rs];exact ri7
     . rintro S5 ⟨W1,Ga⟩;rw [List.length_map] at Ga;exact aq (Gh rfl W1 ns S1.heap.length Ga)
 rintro fl ⟨lc,H⟩ ⟨rfl,C3,ns2,r,ri⟩;have gl:=F.gl;generalize (jz (Tc ev cut)).fN=g at ri gl;have rl:=F.rl;generalize Te ev cut rest=te at ri rl;refine ab (bf (cY (aw (bU (.builtin "sorted") (bM hB (by rfl) G.jy.1 G.jy.2 ⟨rfl,ak (eW (sc:=nY.scope) ["cut","k"] [(1,"cut",bB cut)] rfl (aH rfl (C3.at 1 _ rfl) trivial) (show dc _ _ ["cut"] _=true by decide +kernel) (fC (aa 5 rfl (C3.at 5 _ rfl) (ae (g.map .int) (.inr (ae 4 rfl ri.lt.fN)) ?_))))⟩)))));refine cx (λi=>match g[i]? with | some x=>if !((cut.map λ(n:Nat)=>(n:Int)).any (·==x)) then some (.int x) else none | none=>none) (aH rfl (C3.at 1 _ rfl) trivial) (by rw [List.length_map];simp only [sizeLine];exact BA gl) (.inr (ae 4 rfl ri.lt.fN)) (λlv own' dG i y hy hi=>?_) ?_
 . rw [cj] at hy;refine e1a1 (nB hy) λx hx o3=>?_;obtain rfl:=o3;refine ag 1 rfl (dG _ (.inl rfl)) ?_;refine aL (aa 1 rfl rfl (aa 0 rfl rfl (jr (l:=cut.map λ(n:Nat)=>(n:Int)) (.inl (by rw [<-ints_map])) (aD ?_))));cases hc:((cut.map λ(n:Nat)=>(n:Int)).any (·==x)) with
   | true=>exact iw hi (by simp only [hx,hc];rfl) (aW.of rfl) rfl
   | false=>exact aa 1 rfl rfl (dH hi (by simp only [hx,hc];rfl) (aW.of rfl) rfl)
 have hfm:(List.range g.length).filterMap (λi=>match g[i]? with | some x=>if !((cut.map λ(n:Nat)=>(n:Int)).any (·==x)) then some (AV.int x) else none | none=>none)=(vo g cut).map .int:=tN (λx=>!((cut.map λ(n:Nat)=>(n:Int)).any (·==x))) g;rw [List.length_map,hfm];refine .inl (rT (.inl rfl) (by have:=List.length_filter_le (λx=>!((cut.map λ(n:Nat)=>(n:Int)).any (·==x))) g;unfold vo;exact Oj gl this) (.inl ?_));refine ak (cT G.W.B a.cS a.kF (n:=m+1) G.W.xH rfl (by show m+1<=m+6;exact LD) (aa 3 rfl (C3.at 3 _ rfl) ⟨1,0,_,rfl,⟨ri.sr.inst,ri.sr.dict⟩,rfl,bI ((y1 G.W G.F8 ri.sr rl m).mono λv H3 q=>?_)⟩));refine e0a1 q λo1 o2=>?_;clear q;obtain rfl:=o1;obtain rfl:=o2;refine (aH (by simp [sizeLine]) ?_ rfl);simp [qj]
end
noncomputable abbrev ix:a8:=["script","cells","deeds","total","log","kept","noted","closed","cut","rest","firsts","due"]
noncomputable def gG (sc:List Int):aS:=(sc.take 12).map λx=>(x.fmod (10 ^ 6)).toNat
noncomputable def tO (k:Nat)(cells:aS):aS:=kA (some (k:Int)) none (some 9) cells
noncomputable def lS:aS:=[0,4,3,8,8,4,5,10,6]
noncomputable def mj (cells:aS):aS:=(List.range 9).map λk=>(lS.getD k 0+(tO k cells).sum) % 12
theorem zf {α β:Type}(xs:List α)(f:α->β):(List.range xs.length).filterMap (λi=>xs[i]?.map f)=xs.map f:=by
 induction xs with
 | nil=>rfl
 | cons x xs ih =>
   refine (af List.length_cons)▸(af List.range_succ_eq_map)▸(af List.filterMap_cons)▸(af List.filterMap_map)▸?_;obtain e:((λi=>(x::xs)[i]?.map f) ∘ Nat.succ)=(λi=>xs[i]?.map f):=by funext i;rfl
   refine (af e)▸(af ih)▸?_;rfl
theorem zg {α β:Type}(f:α->β)(lo hi st:Option Int)(xs:List α):kA lo hi st (xs.map f)=(kA lo hi st xs).map f:=by delta kA;rw [List.length_map,List.map_filterMap];congr 1;funext i;rw [List.getElem?_map]
theorem vp (l:aS):(l.map λ(n:Nat)=>(n:Int)).sum=((l.sum:Nat):Int):=by
 induction l with
 | nil=>rfl
 | cons x l ih=>simp only [List.map_cons,List.sum_cons,List.sum_cons,ih];exact NU
section
variable {c:aP}{C:Cx}{S:AS}{X:cK}{K:cw}{mg mb:dZ}{pos:Pos}
theorem zh (B:Base c mg mb)(hint:dp mg mb "int" (.type "int")){env:Env}{own:aA}{frames:List Env}{m:Nat}(be:Stores (l5 eQ env own frames (m+8) ix)){sc:List Int}(na:sc.length<=63){st:Stmt}(h0:eQ.body[0]?=some st){K:gw}
 (k:K .next ⟨[(0,.lst (sc.map .int)),(1,bB (gG sc))],[]⟩):jK c (l5 eQ env own frames (m+8) ix) st ⟨[(0,.lst (sc.map .int))],[]⟩ K dT:=by
 obtain rfl:=Option.some.inj h0;refine aj (eW (sc:=eQ.scope) ["cell"] [] rfl trivial (rfl) (fC (mV (aa 0 rfl rfl (av (jU 12 rfl (sc.map .int) (.inl rfl) (show (0:Int)<=12 by decide) (by rw [List.length_map];simp only [sizeLine];exact NO na) (.inl (ae _ (.inl rfl) ?_))))))));obtain e0:cutOf none (some 12) (sc.map AV.int)=(sc.take 12).map AV.int:=by show (sc.map AV.int).take 12=_;rw [List.map_take]
 rw [e0];refine cx (λi=>(sc.take 12)[i]?.map λw=>AV.int (w.fmod (10 ^ 6))) trivial (by rw [List.length_map];simp only [sizeLine,List.length_take];exact NQ) (.inl rfl) (λlv own' dG i y hy hi=>?_) ?_
 . rw [cj] at hy;refine e1a1 (nB hy) λw hw o1=>?_;obtain rfl:=o1;refine ag 0 rfl (dG _ (.inl rfl)) ?_;show Ev c _ _ _ _ _;refine bS (bU (.type "int") (bM B (rfl) hint.1 hint.2 ⟨rfl,ak (aa 0 rfl rfl (HI (bS (av (av (Gw (by decide) (by decide) (Nat.le_of_ble_eq_true rfl) (j6 (by decide) ?_)))))))⟩));exact dH hi (by simp only [hw];rfl) (aW.of rfl) rfl
 rw [List.length_map,zf];refine .inl (ag 1 rfl (be 1 _ rfl) ?_);obtain e1:(sc.take 12).map (λw=>AV.int (w.fmod (10 ^ 6)))=(gG sc).map λ(n:Nat)=>AV.int n:=by unfold gG;rw [List.map_map];refine List.map_congr_left λw zz=>?_;obtain h:0<=w.fmod (10 ^ 6):=Int.fmod_nonneg_of_pos w (by decide);show AV.int _=AV.int _;rw [Int.toNat_of_nonneg h]
 rw [e1];exact k
theorem zi (B:Base c mg mb)(Qn:dp mg mb "sum" (.builtin "sum"))(vq:dp mg mb "enumerate" (.type "enumerate")){env:Env}{own:aA}{frames:List Env}{m:Nat}(be:Stores (l5 eQ env own frames (m+8) ix)){sc:List Int}{cells:aS}(dL:cells.length<=12){st:Stmt}(h0:eQ.body[1]?=some st){K:gw}
 (k:K .next ⟨[(0,.lst (sc.map .int)),(1,bB cells),(2,bB (mj cells))],[]⟩):jK c (l5 eQ env own frames (m+8) ix) st ⟨[(0,.lst (sc.map .int)),(1,bB cells)],[]⟩ K dT:=by
 obtain rfl:=Option.some.inj h0;refine dj (sc:=eQ.scope) ["cells","k","deed"] [(1,"cells",bB cells)] rfl (aH rfl rfl trivial) (show dc _ _ ["cells"] _=true by decide +kernel) (lg (bM B (by rfl) vq.1 vq.2 ⟨rfl,?_⟩) rfl);refine i9 ?_;refine aw (av (aw (av (aw (av (aw (av (aw (av ?_)))))))));refine aw (av (aw (av (aw (av (ak (av (oi (by simp [sizeLine]) _ rfl ?_))))))));have el:([AV.int 0,.int 4,.int 3,.int 8,.int 8,.int 4,.int 5,.int 10,.int 6]:bW)=lS.map λ(n:Nat)=>AV.int n:=rfl;rw [el];refine cx (λi=>some (AV.int (((lS.getD i 0+(tO i cells).sum) % 12:Nat):Int))) (aH rfl rfl trivial) (by simp [sizeLine,lS]) trivial (λlv own' dG i y hy hi=>?_) ?_
 . rw [cj,List.getElem?_zipIdx,cj] at hy;cases hd:lS[i]? with
   | none=>rw [hd] at hy;cases hy
   | some d =>
     rw [hd] at hy;have ey:y=.tup [.int i,.int d]:=by have:=aX hy;rw [<-this];simp
     subst ey;have FZ:i < 9:=(bp hd).1;have hg:lS.getD i 0=d:=by rw [List.getD_eq_getElem?_getD,hd];rfl
     refine (aH rfl rfl (ag 1 rfl (dG _ (.inl rfl)) (ag 2 rfl (dG _ (.inl rfl)) ?_)));show Ev c _ _ _ _ _;refine bS (bS (aa 2 rfl rfl (bU (.builtin "sum") (bM B (by rfl) Qn.1 Qn.2 ⟨rfl,ak (yN (aa 0 rfl rfl (aa 1 rfl rfl (ae _ rfl (av (jU 9 rfl _ (.inl rfl) (by decide) (by rw [List.length_map];simp only [sizeLine];exact Nx dL) (.inl ?_)))))))⟩))));refine Fx (ns:=(tO i cells).map λ(n:Nat)=>(n:Int)) rfl (.inl ?_) (j0 (av (j6 (by decide) ?_)))
     . rw [zg,List.map_map];rfl
     refine dH hi ?_ (aW.of rfl) rfl;rw [hg,vp,Int.fmod_eq_emod_of_nonneg _ (by decide)];simp
 refine .inl (ag 2 rfl (be 2 _ rfl) ?_);have e9:(List.range ((lS.map λ(n:Nat)=>AV.int n).zipIdx.map λp=>AV.tup [.int p.2,p.1]).length).filterMap (λi=>some (AV.int (((lS.getD i 0+(tO i cells).sum) % 12:Nat):Int)))=(mj cells).map λ(n:Nat)=>AV.int n:=by rw [show ((lS.map λ(n:Nat)=>AV.int n).zipIdx.map λp=>AV.tup [.int p.2,p.1]).length=9 by simp [lS]];unfold mj;rw [List.filterMap_eq_map',List.map_map];rfl
 rw [e9];exact k
end
noncomputable def fx (l:List (Nat×Nat))(p:Nat):Nat:=(l.lookup p).getD 0
noncomputable def r0 (t:Net)(k:Nat):Bool:=match t.ev[k]? with
 | some e=>decide (k < fx t.kept e.p)
 | none=>false
noncomputable def eS (t:Net):aS:=(List.range t.ev.length).filter (r0 t)
noncomputable def du (t:Net):aS:=(List.range t.ev.length).filter λk=>!(eS t).contains k
noncomputable def zI (ev:List dk)(k:Nat):Nat:=match ev[k]? with
 | some e=>e.p
 | none=>0
noncomputable def Cw (t:Net)(k:Nat):Bool:=!(((du t).filter (· < k)).map (zI t.ev)).contains (zI t.ev k)
noncomputable def iM (t:Net):aS:=(du t).filter (Cw t)
noncomputable def Gb (t:Net)(k:Nat):Bool:=match t.ev[k]? with
 | some e=>e.out||decide (((t.aB e.l).map fP).take 1=[fP e.c])
 | none=>false
noncomputable def vr (t:Net):aS:=(iM t).filter (Gb t)
noncomputable abbrev tP (sc:List Int)(cells ds:aS)(jA:Nat)(t:Net):dI :=
 [(0,.lst (sc.map .int)),(1,bB cells),(2,bB ds),(3,.int jA),(4,jO t.ev),(5,.cV (eR t.kept)),(6,nu t.aB),(7,bB t.closed)]
theorem Cz (l:List (Nat×Nat))(p:Nat)(h:l.any (λk=>k.1==p)=true):b9 (eR l) (p:Int)=some (.int (fx l p)):=by
 induction l with
 | nil=>exact qK h
 | cons x l ih =>
   obtain ⟨a,b⟩:=x;delta b9 fx;by_cases e:a=p
   . subst e;simp
   . have e1:((a:Int)=(p:Int))=False:=by simp <;> intro q <;> first | exact NW q e | exact q.elim
     have e2:(p==a)=false:=by simp;exact λq=>e q.symm
     obtain h':l.any (λk=>k.1==p)=true:=by simpa [e] using h
     obtain this:=ih h'
     skip
     simp only [List.map_cons,List.find?_cons,e1,decide_false,List.lookup_cons,e2];exact this
theorem zj (ev:List dk)(i:Nat)(y:AV)(hy:((ev.map oX).zipIdx.map λp=>AV.tup [.int p.2,p.1])[i]?=some y):∃e,ev[i]?=some e/\y=AV.tup [.int i,oX e]:=by
 rw [cj,List.getElem?_zipIdx,cj] at hy;cases he:ev[i]? with
 | none=>replace hy:=he▸hy;cases hy
 | some e=>rw [he] at hy;refine (ae e rfl ?_);obtain this:=aX hy;rw [<-this];simp
noncomputable def gK (p:Nat->Bool)(f:Nat->AV)(ks:aS)(i:Nat):Option AV:=match ks[i]? with
 | some k=>if p k then some (f k) else none
 | none=>none
theorem wU (p:Nat->Bool)(f:Nat->AV)(ks:aS):(List.range ks.length).filterMap (gK p f ks)=(ks.filter p).map f:=nv p f ks
theorem qx {p:Nat->Bool}{f:Nat->AV}{ks:aS}{i k:Nat}(h:ks[i]?=some k):gK p f ks i=if p k then some (f k) else none:=by delta gK;rw [h]
section
variable {c:aP}{C:Cx}{S:AS}{X:cK}{K:cw}{mg mb:dZ}{pos:Pos}
theorem EH (B:Base c mg mb)(vq:dp mg mb "enumerate" (.type "enumerate")){env:Env}{own:aA}{frames:List Env}{m:Nat}(be:Stores (l5 eQ env own frames (m+8) ix)){sc:List Int}{cells ds:aS}{jA:Nat}{t:Net}(hl:t.ev.length < 60)(hs:∀e∈t.ev,t.has e.p=true){st:Stmt}(h0:eQ.body[5]?=some st){K:gw}
 (k:K .next ⟨tP sc cells ds jA t++[(8,bB (eS t))],[]⟩):jK c (l5 eQ env own frames (m+8) ix) st ⟨tP sc cells ds jA t,[]⟩ K dT:=by
 obtain rfl:=Option.some.inj h0;obtain hlen:((t.ev.map oX).zipIdx.map λp=>AV.tup [.int p.2,p.1]).length=t.ev.length:=by simp
 refine aj (eW (sc:=eQ.scope) ["kept","k","event"] [(5,"kept",.cV (eR t.kept))] rfl (aH rfl rfl trivial) (show dc _ _ ["kept"] _=true by decide +kernel) (lg (bM B (rfl) vq.1 vq.2 ⟨rfl,aa 4 rfl rfl (ae _ rfl ?_)⟩) rfl));refine cx (λk=>if r0 t k then some (AV.int k) else none) (aH rfl rfl trivial) (by rw [hlen];simp only [sizeLine];exact BA hl) trivial (λlv own' dG i y hy hi=>?_) ?_
 . refine e1a1 (zj _ _ _ hy) λe he o5=>?_;obtain rfl:=o5;obtain nO:r0 t i=decide (i < fx t.kept e.p):=by unfold r0;rw [he]
   obtain BQ:=Cz t.kept e.p (hs e (bJ he));refine (aH rfl rfl (ag 1 rfl (dG _ (.inl rfl)) (ag 2 rfl (dG _ (.inl rfl)) ?_)));refine aL (aa 1 rfl rfl (bq (aa 0 rfl rfl (bq (aa 2 rfl rfl (av ⟨cB,dg (by decide) (by decide) rfl ?_⟩))))));refine ⟨jb (.inl rfl),kB (.inl rfl) BQ (vN (aD ?_))⟩;obtain hd:decide ((i:Int) < (fx t.kept e.p:Int))=decide (i < fx t.kept e.p):=by simp
   rw [hd];cases h1:decide (i < fx t.kept e.p) with
   | false=>exact iw hi (by simp only [nO,h1];rfl) (aW.of rfl) rfl
   | true=>exact aa 1 rfl rfl (dH hi (by simp only [nO,h1];rfl) (aW.of rfl) rfl)
 rw [hlen,fM];exact .inl (ag 8 rfl (be 8 _ rfl) k)
theorem CA (B:Base c mg mb)(hr:dp mg mb "range" (.type "range"))(hlen:dp mg mb "len" (.builtin "len")){env:Env}{own:aA}{frames:List Env}{m:Nat}(be:Stores (l5 eQ env own frames (m+8) ix)){sc:List Int}{cells ds:aS}{jA:Nat}{t:Net}(hl:t.ev.length < 60){st:Stmt}(h0:eQ.body[6]?=some st){K:gw}
 (k:K .next ⟨tP sc cells ds jA t++[(8,bB (eS t)),(9,bB (du t))],[]⟩):jK c (l5 eQ env own frames (m+8) ix) st ⟨tP sc cells ds jA t++[(8,bB (eS t))],[]⟩ K dT:=by
 obtain rfl:=Option.some.inj h0;refine aj (eW (sc:=eQ.scope) ["cut","k"] [(8,"cut",bB (eS t))] rfl (aH rfl rfl trivial) (show dc _ _ ["cut"] _=true by decide +kernel) (g8 (bM B (rfl) hr.1 hr.2 ⟨rfl,ak (bU (.builtin "len") (bM B (rfl) hlen.1 hlen.2 ⟨rfl,ak (aa 4 rfl rfl (nM (.inl rfl) (by rw [List.length_map];exact Nh hl) (a9 t.ev.length (by rw [List.length_map]) (Ng hl) ?_)))⟩))⟩)));refine cx (λk=>if !(eS t).contains k then some (AV.int k) else none) (aH rfl rfl trivial) (by simp [sizeLine];exact Ni hl) trivial (λlv own' dG i y hy hi=>?_) ?_
 . rw [cj] at hy;refine e1a1 (nB hy) λx hx o4=>?_;obtain rfl:=o4;obtain Rc:x=i:=by rw [List.length_map,List.length_range] at hi;rw [List.getElem?_range hi] at hx;exact (Option.some.inj hx).symm
   subst Rc;refine ag 1 rfl (dG _ (.inl rfl)) ?_;refine aL (aa 1 rfl rfl (aa 0 rfl rfl (jr (l:=(eS t).map λ(n:Nat)=>(n:Int)) (.inl (by rw [<-ints_map])) (aD ?_))));rw [gU];cases hc:(eS t).contains x with
   | true=>exact iw hi (by simp only [hc];rfl) (aW.of rfl) rfl
   | false=>exact aa 1 rfl rfl (dH hi (by simp only [hc];rfl) (aW.of rfl) rfl)
 rw [List.length_map,List.length_range,fM];exact .inl (ag 9 rfl (be 9 _ rfl) k)
noncomputable def wV:Scope:=(de eQ.body 8).scope
theorem wW (B:Base c mg mb){env:Env}{own:aA}{frames:List Env}{m:Nat}(be:Stores (l5 eQ env own frames (m+8) ix)){sc:List Int}{cells ds:aS}{jA:Nat}{t:Net}(hl:t.ev.length < 60){st:Stmt}(h0:eQ.body[8]?=some st){K:gw}
 (k:K .next ⟨tP sc cells ds jA t++[(8,bB (eS t)),(9,bB (du t)),(10,bB (iM t))],[]⟩):jK c (l5 eQ env own frames (m+8) ix) st ⟨tP sc cells ds jA t++[(8,bB (eS t)),(9,bB (du t))],[]⟩ K dT:=by
 obtain rfl:=Option.some.inj h0;have Ro:(du t).length<=t.ev.length:=by have:=List.length_filter_le (λk=>!(eS t).contains k) (List.range t.ev.length);simpa [du] using this
 have tZ:∀k∈du t,k < t.ev.length:=λk hk=>List.mem_range.mp (List.mem_filter.mp hk).1;have one:∀(i:Nat) (y:AV),((du t).map λ(n:Nat)=>AV.int n)[i]?=some y->∃k e,(du t)[i]?=some k/\y=.int k/\t.ev[k]?=some e/\zI t.ev k=e.p:=λi y hy=>by rw [cj] at hy;refine e1a1 (nB hy) λk h1 h2=>?_;have:=tZ k (bJ h1);exact (dA k (t.ev[k]) h1 h2.symm (df this) (by unfold zI;rw [df this]))
 refine dj (sc:=eQ.scope) ["log","rest","k"] [(4,"log",jO t.ev),(9,"rest",bB (du t))] rfl (fz rfl rfl rfl rfl trivial) (show dc _ _ ["log","rest"] _=true by decide +kernel) (fC (aa 9 rfl rfl (ae _ (.inl rfl) ?_)));refine cx (gK (Cw t) (λ(k:Nat)=>AV.int k) (du t)) (fz rfl rfl rfl rfl trivial) (by rw [List.length_map];simp only [sizeLine];exact BE hl Ro) (.inl rfl) (λlv own' dG i y hy hi=>?_) ?_
 . refine e2a3 (one i y hy) λx e hx o3 he hp=>?_;obtain rfl:=o3;have EI:=(bp he).1;refine ag 2 rfl (dG _ (.inr rfl)) ?_;refine aL (bq (bq (aa 0 rfl rfl (aa 2 rfl rfl ⟨bH (.inl rfl),cD (.inl rfl) (Bz) (FC hl EI) (kJ he) (av ⟨cB,dg (by decide) (by decide) rfl ?_⟩)⟩))));refine eW (sc:=ee wV eQ.scope) ["log","k","j"] [(0,"log",jO t.ev),(2,"k",.int x)] rfl (fz rfl rfl rfl rfl trivial) (show dc _ _ ["log","k"] _=true by decide +kernel) (fC (aa 1 rfl rfl (ae _ (.inl rfl) ?_)));refine cx (gK (λk=>decide (k < x)) (λk=>AV.int (zI t.ev k)) (du t)) (fz rfl rfl rfl rfl trivial) (by rw [List.length_map];simp only [sizeLine];exact BE hl Ro) (.inl rfl) (λQg Qh Ch j z hz hj=>?_) ?_
   . refine e2a3 (one j z hz) λx2 e2 F3 o2 QY PX=>?_;obtain rfl:=o2;have W6:=(bp QY).1;refine ag 2 rfl (Ch _ (.inl rfl)) ?_;refine aL (aa 2 rfl rfl (aa 1 rfl rfl (vN (aD ?_))));have hd:decide ((x2:Int) < (x:Int))=decide (x2 < x):=by rw [Bool.eq_iff_iff,decide_eq_true_iff,decide_eq_true_iff];exact VH
     rw [hd];cases hc:decide (x2 < x) with
     | false=>exact iw hj (by simp only [qx F3,hc];rfl) (aW.of rfl) rfl
     | true =>refine bq (bq (aa 0 rfl rfl (aa 2 rfl rfl ⟨bH (.inl rfl),cD (.inl rfl) (Bz) (FC hl W6) (kJ QY) (av ⟨cB,dg (by decide) (by decide) rfl ?_⟩)⟩)));exact dH hj (by simp only [qx F3,hc,PX];rfl) (aW.of rfl) rfl
   rw [List.length_map,wU];refine .inl (jr (l:=(((du t).filter (· < x)).map (zI t.ev)).map λ(n:Nat)=>(n:Int)) (.inl (by rw [<-ints_map,List.map_map];rfl)) (aD ?_));rw [gU];have hF:Cw t x=!(((du t).filter (· < x)).map (zI t.ev)).contains e.p:=by unfold Cw;rw [hp]
   cases hc:(((du t).filter (· < x)).map (zI t.ev)).contains e.p with
   | true=>exact iw (by rw [List.length_map] at hi;exact hi) (by simp only [qx hx,hF,hc];rfl) (aW.of rfl) rfl
   | false=>exact aa 2 rfl rfl (dH (by rw [List.length_map] at hi;exact hi) (by simp only [qx hx,hF,hc];rfl) (aW.of rfl) rfl)
 rw [List.length_map,wU];exact .inl (ag 10 rfl (be 10 _ rfl) k)
theorem EJ (B:Base c mg mb){env:Env}{own:aA}{frames:List Env}{m:Nat}(be:Stores (l5 eQ env own frames (m+8) ix)){sc:List Int}{cells ds:aS}{jA:Nat}{t:Net}(hl:t.ev.length < 60)(hln:∀e∈t.ev,e.l < 9)(hnl:∀i,(t.aB i).length < 60){st:Stmt}(h0:eQ.body[9]?=some st){K:gw}
 (k:K .next ⟨tP sc cells ds jA t++[(8,bB (eS t)),(9,bB (du t)),(10,bB (iM t)),(11,bB (vr t))],[]⟩):jK c (l5 eQ env own frames (m+8) ix) st ⟨tP sc cells ds jA t++[(8,bB (eS t)),(9,bB (du t)),(10,bB (iM t))],[]⟩ K dT:=by
 obtain rfl:=Option.some.inj h0;have Ro:(iM t).length<=t.ev.length:=by have h1:=List.length_filter_le (Cw t) (du t);have h2:=List.length_filter_le (λk=>!(eS t).contains k) (List.range t.ev.length);rw [List.length_range] at h2;exact Nat.le_trans h1 h2
 have tZ:∀k∈iM t,k < t.ev.length:=λk hk=>List.mem_range.mp (List.mem_filter.mp (List.mem_filter.mp hk).1).1;refine dj (sc:=eQ.scope) ["log","noted","k"] [(4,"log",jO t.ev),(6,"noted",nu t.aB)] rfl (fz rfl rfl rfl rfl trivial) (show dc _ _ ["log","noted"] _=true by decide +kernel) (fC (aa 10 rfl rfl (ae _ (.inl rfl) ?_)));refine cx (gK (Gb t) (λ(k:Nat)=>AV.int k) (iM t)) (fz rfl rfl rfl rfl trivial) (by rw [List.length_map];simp only [sizeLine];exact BE hl Ro) (.inl rfl) (λlv own' dG i y hy hi=>?_) ?_
 . rw [cj] at hy;refine e1a1 (nB hy) λx hx o1=>?_;obtain rfl:=o1;have EI:=tZ x (bJ hx);obtain ⟨e,he⟩:∃e,t.ev[x]?=some e:=(bQ _ (df EI))
   have EE:=hln e (bJ he);have hD:Gb t x=(e.out||decide (((t.aB e.l).map fP).take 1=[fP e.c])):=by unfold Gb;rw [he]
   refine ag 2 rfl (dG _ (.inl rfl)) ?_;refine AK (fX (bq (bq (aa 0 rfl rfl (aa 2 rfl rfl ⟨bH (.inl rfl),cD (.inl rfl) (Bz) (FC hl EI) (kJ he) (av ⟨cB,dg (by decide) (by decide) rfl (aD ?_)⟩)⟩)))));cases ho:e.out with
   | true=>exact aa 2 rfl rfl (dH hi (by simp only [qx hx,hD,ho];rfl) (aW.of rfl) rfl)
   | false =>
     refine aL (mV (bq (aa 1 rfl rfl (bq (bq (aa 0 rfl rfl (aa 2 rfl rfl ⟨bH (.inl rfl),cD (.inl rfl) (Bz) (FC hl EI) (kJ he) (av ⟨cB,dg (by decide) (by decide) rfl ?_⟩)⟩)))))));refine ⟨bH (.inl rfl),cD (y:=.lst (ei (t.aB e.l))) (.inl rfl) (Bz) (LY EE) (by rw [Int.toNat_natCast,cj,List.getElem?_range EE];rfl) ?_⟩;refine av (jU 1 rfl _ (.inl rfl) (show (0:Int)<=1 by decide) (by rw [List.length_map];have:=hnl e.l;simp only [sizeLine];exact BA this) (.inl ?_));refine i9 (ak (bq (bq (aa 0 rfl rfl (aa 2 rfl rfl ⟨bH (.inl rfl),cD (.inl rfl) (Bz) (FC hl EI) (kJ he) (av ⟨cB,dg (by decide) (by decide) rfl ⟨by simp [sizeLine],?_⟩⟩)⟩)))));have zc:cutOf none (some 1) (ei (t.aB e.l))=(((t.aB e.l).map fP).take 1).map .str:=by show (ei (t.aB e.l)).take 1=_;rw [List.map_take,List.map_map];rfl
     rw [zc];refine HW (qg.str c) (ys:=[fP e.c]) (.inl rfl) (.inl rfl) (by show m+8≠0;exact Ea) (aD ?_);cases hc:decide (((t.aB e.l).map fP).take 1=[fP e.c]) with
     | true=>exact aa 2 rfl rfl (dH hi (by simp only [qx hx,hD,ho,hc];rfl) (aW.of rfl) rfl)
     | false=>exact iw hi (by simp only [qx hx,hD,ho,hc];rfl) (aW.of rfl) rfl
 rw [List.length_map,wU];exact .inl (ag 11 rfl (be 11 _ rfl) k)
end
structure Gd (ds:aS)(st fi N:Nat)(t:Net):Prop where
 crs:Iv ds st fi N
 net:rounds (runD ds st fi 9) (N+1)=t
 Qo:t.ev.length < 60
 hs:∀e∈t.ev,t.has e.p=true
 line:∀e∈t.ev,e.l < 9
 nl:∀i,(t.aB i).length < 60
 kl:t.kept.length < 64
 keys:jc (t.kept.map λp=>(p.1:Int))=[0,1,2]
 cl:t.closed.length < 64
 fo:jc (t.closed.map λ(n:Nat)=>(n:Int))=[1,2,3,5,6,7]
 fit:∀l∈[1,2,3,5,6,7],Iy t.ev (eS t) t.aB l
 Qp:IC t.ev (eS t) (du t)
 W7:jc (vo (jz (Tc t.ev (eS t))).fN (eS t))=(vr t).map λ(n:Nat)=>(n:Int)
 act:EG (Te t.ev (eS t) (du t))=false
theorem iN (l:aS):AV.bL 0 (l.map λ(n:Nat)=>AV.int n)=true:=by
 induction l with
 | nil=>rfl
 | cons x l ih=>exact Bool.and_eq_true_iff.mpr ⟨rfl,ih⟩
structure yc where
 n8:Addr
 fit:Addr
 wX:Addr
 ng:Addr
structure CB (c:aP)(mg mb:dZ)(Kf:Frag)(a:ql)(l:iq)(b:oY)(d:yc):Prop where
 G:ED c mg mb Kf l b
 L:wQ c mg mb Kf a
 n8:∃cc P,l6 c d.n8 bu .none "_law_course" cc P lA
 yd:mg "_law_course"=some (.ref d.n8)
 fit:gy c d.fit qs .none
 Qq:mg "_law_lines_fit"=some (.ref d.fit)
 wX:gy c d.wX nY .none
 Qr:mg "_law_let_through"=some (.ref d.wX)
 ng:gy c d.ng BL .none
 Qs:mg "sorted_list_difference"=some (.ref d.ng)
 Qt:dp mg mb "int" (.type "int")
 EK:dp mg mb "sum" (.builtin "sum")
 CC:dp mg mb "IndexError" (.type "IndexError")
section
variable {c:aP}{C:Cx}{S:AS}{X:cK}{K:cw}{mg mb:dZ}{Kf:Frag}{a:ql}{l:iq}{b:oY}{d:yc}{pos:Pos}
theorem EL (G:CB c mg mb Kf a l b d)(hf:gy c fa eQ .none)(sc:List Int)(na:sc.length<=63){N:Nat}{t:Net}
 (F:Gd (mj (gG sc)) ((2+(gG sc).sum / 3) % 9) ((gG sc).sum % 3) N t) (m:Nat) :
 bC c (m+9) (.ref fa) [.lst (sc.map .int)] [] (λv zz=>v=.bool true):=by
 have B:=G.G.V.B.toBase;refine hf.gz B (n:=m+8) ["script"] ix [(0,.lst (sc.map .int))] (λzz zz=>rfl) rfl rfl (by decide +kernel) λenv own frames be jQ=>?_;refine ab (zh B G.Qt be na rfl ?_);have dL:(gG sc).length<=12:=by simp [gG];exact NP
 generalize gG sc=cells at F dL;refine ab (zi B G.EK G.L.lO be dL rfl ?_);generalize mj cells=ds at F;refine ab (aj (bU (.builtin "sum") (bM B (by rfl) G.EK.1 G.EK.2 ⟨rfl,ak (aa 1 rfl rfl (Fx (ns:=cells.map λ(n:Nat)=>(n:Int)) rfl (.inl (by rw [<-ints_map])) (ag 3 rfl (be 3 _ rfl) ?_)))⟩)));rw [vp];generalize cells.sum=jA at F;show Ex c (l5 eQ env own frames (m+8) ix) _ ⟨[(0,.lst (sc.map .int)),(1,bB cells),(2,bB ds),(3,.int jA)],[]⟩ _ dT;have e1:((2:Int)+((jA:Int)).fdiv 3).fmod 9=(((2+jA / 3) % 9:Nat):Int):=by rw [Int.fmod_eq_emod_of_nonneg _ (by decide),Int.fdiv_eq_ediv_of_nonneg _ (by decide)];exact V1
 have e2:((jA:Int)).fmod 3=((jA % 3:Nat):Int):=by rw [Int.fmod_eq_emod_of_nonneg _ (by decide)];exact LO
 generalize (2+jA / 3) % 9=st at F e1;generalize jA % 3=fi at F e2;refine e2a0 G.n8 λcc P hc=>?_;refine ab (aj (rV (n:=m+8) B rfl (aZ _) (by rfl) G.yd hc.fnAt (aw (aa 2 rfl rfl ?_))));refine aw (bS (bS (av (bS (aa 3 rfl rfl (av (vM (by decide) (PyProof.noPylong_small (by decide)) (j0 (av (j6 (by decide) ?_))))))))));refine ak (bS (aa 3 rfl rfl (av (j6 (by decide) ?_))));rw [e1,e2];refine ⟨by simp only [IL,IM,IP,iN];rfl,_,zb G.G hc ds st fi N F.crs m,?_⟩;rw [F.net];refine nI rfl rfl (ag 4 rfl (be 4 _ rfl) (ag 5 rfl (be 5 _ rfl) (ag 6 rfl (be 6 _ rfl) (ag 7 rfl (be 7 _ rfl) ?_))));show Ex c (l5 eQ env own frames (m+8) ix) _ ⟨tP sc cells ds jA t,[]⟩ _ dT;refine ab (bz (AK (aL (bU (.builtin "sorted") (bM B (by rfl) G.L.jy.1 G.L.jy.2 ⟨rfl,ak (aa 5 rfl rfl ?_)⟩)))));have ek:(eR t.kept).map (·.1)=t.kept.map λp=>(p.1:Int):=by rw [List.map_map];rfl
 refine wo rfl (.inl rfl) (by rw [List.length_map];exact F.kl) (.inl ?_);rw [ek,F.keys];refine i9 (aw (av (aw (av (ak (av ⟨by simp [sizeLine],?_⟩))))));refine tu (qg.int c) (xs:=[0,1,2]) (ys:=[0,1,2]) (.inl rfl) (.inl rfl) (by show m+8≠0;exact Ea) (aD ?_);refine aL (bU (.builtin "sorted") (bM B (by rfl) G.L.jy.1 G.L.jy.2 ⟨rfl,ak (aa 7 rfl rfl ?_)⟩));refine rT (l:=t.closed.map λ(n:Nat)=>(n:Int)) (.inl (by rw [<-ints_map])) (by rw [List.length_map];exact F.cl) (.inl ?_);rw [F.fo];refine i9 (aw (av (aw (av (aw (av (aw (av (aw (av (ak (av ⟨by simp [sizeLine],?_⟩))))))))))));refine tu (qg.int c) (xs:=[1,2,3,5,6,7]) (ys:=[1,2,3,5,6,7]) (.inl rfl) (.inl rfl) (by show m+8≠0;exact Ea) (aD ?_);refine aq ?_;refine ab (EH B G.L.lO be F.Qo F.hs rfl ?_);refine ab (CA B G.G.ju G.G.mf be F.Qo rfl ?_);have W8:(eS t).length < 60:=F.Qp.cl;refine ab (bz (sY (fX (rV (n:=m+2) B rfl (by show m+2<=m+8;exact M0) (by rfl) G.Qq G.fit.fnAt (aw (aa 4 rfl rfl (aw (aa 8 rfl rfl (ak (aa 6 rfl rfl ?_))))))))));refine ⟨?_,_,Iz B G.fit G.ng G.Qs G.CC G.L.lO t.ev (eS t) t.aB F.Qo W8 F.fit m,aD ?_⟩
 . have:=mh t;unfold za at this;simp only [Jh,IM,IP,IL,Af,Bool.and_eq_true] at this;simp only [Jh,IM,IP,IL,Af,Bool.and_eq_true];exact (eM this.1 (by exact iN _) this.2.2.1 trivial)
 refine aq ?_;refine ab (wW B be F.Qo rfl ?_);refine ab (EJ B be F.Qo F.line F.nl rfl ?_);refine ab (bf (Al (rV (n:=m+7) B rfl (by show m+7<=m+8;exact M4) (by rfl) G.Qr G.wX.fnAt (aw (aa 4 rfl rfl (aw (aa 8 rfl rfl (ak (aa 9 rfl rfl ?_)))))))));refine ⟨?_,_,ID G.L G.wX t.ev (eS t) (du t) F.Qp m,?_⟩
 . have:=mh t;unfold za at this;simp only [Jh,IM,IP,IL,Af,Bool.and_eq_true] at this;simp only [Jh,IM,IP,IL,Af,Bool.and_eq_true];exact (eM this.1 (by exact iN _) (by exact iN _) trivial)
 rw [F.W7,F.act];refine cY (aw (aa 11 rfl rfl (ak (kX ⟨by simp [sizeLine],?_⟩))));have ed:bB (vr t)=.lst (((vr t).map λ(n:Nat)=>(n:Int)).map .int):=by rw [<-ints_map]
 rw [ed];refine Eg (nP.cons (Ef.list (qg.int c) _ _) (nP.cons (Ef.bool false false) .nil)) (by show m+8≠0;exact Ea) ?_;rw [decide_eq_true rfl];rfl
end
structure iO (ah:List Nd)(P:Int->Int)(T:Int->List Int):Prop where
 nd:(ah.map (·.1)).Nodup
 at_:∀y∈ah,y.2.1=P y.1/\y.2.2=T y.1
 out:∀x,x∉ah.map (·.1)->P x=0/\T x=[]
theorem iO.congr (h:iO ah P T)(hP:∀x,P' x=P x)(hT:∀x,T' x=T x):iO ah P' T':=by obtain e1:P'=P:=funext hP;obtain e2:T'=T:=funext hT;refine (af e1)▸(af e2)▸?_;exact h
set_option tactic.hygienic true in
theorem jB (ah:List Nd)(x z:Int):z∈(bA ah x).map (·.1)↔z∈ah.map (·.1)\/z=x:=by
 delta bA
 split
 . rename_i h;refine e1a1 (List.any_eq_true.mp h) λp hp e=>?_;obtain e':p.1=x:=by simpa using e
   constructor
   . exact .inl
   . rintro (q | q)
     . exact q
     . refine (af q)▸e'▸?_;exact eK (ae p hp rfl)
 . simp
set_option tactic.hygienic true in
theorem iO.bA {ah:List Nd}{P:Int->Int}{T:Int->List Int}(h:iO ah P T)(x:Int):iO (bA ah x) P T:=by
 delta Mine.Internal.bA
 split
 . exact h
 . rename_i hx;have oo:x∉ah.map (·.1):=λm=>by refine e1a1 (fy m) λp hp e=>?_;exact hx (List.any_eq_true.mpr (ae p hp (by simpa using e)))
   refine e0a1 (h.out x oo) λo1 o2=>?_;refine ⟨?_,λy hy=>?_,λz hz=>h.out z λm=>hz ?_⟩
   . rw [List.map_append,List.nodup_append];refine (aH h.nd (by simp) (λa ha b hb e=>?_));simp at hb;subst hb;clear o2 o1 hx;subst e;exact oo ha
   . rcases bX hy with q | q
     . exact h.at_ y q
     . rw [bD q];exact ⟨o1.symm,o2.symm⟩
   . simp only [List.map_append];exact List.mem_append_left _ m
theorem ml (ah:List Nd)(x:Int)(k:Int):(bump ah x k).map (·.1)=ah.map (·.1):=by
 delta bump;rw [List.map_map];apply List.map_congr_left;intro p _;simp only [Function.comp]
 split <;> rfl
theorem iW (ah:List Nd)(p x:Int):(dD ah p x).map (·.1)=ah.map (·.1):=by
 delta dD;rw [List.map_map];apply List.map_congr_left;intro p _;simp only [Function.comp]
 split <;> rfl
theorem iO.bump {ah:List Nd}{P:Int->Int}{T:Int->List Int}(h:iO ah P T){x:Int}(hx:x∈ah.map (·.1))(k:Int):iO (bump ah x k) (λz=>if z=x then P z+k else P z) T:=by
 refine ⟨by simp only [ml];exact h.nd,λy hy=>?_,λz hz=>?_⟩
 . refine e1a1 (fy hy) λp hp o4=>?_;refine o4▸?_;refine e0a1 (h.at_ p hp) λh1 h2=>?_;by_cases e:p.1=x
   . rw [if_pos e];exact ⟨by show p.2.1+k=(if p.1=x then P p.1+k else P p.1);rw [if_pos e,h1],h2⟩
   . rw [if_neg e];exact ⟨by show p.2.1=(if p.1=x then P p.1+k else P p.1);rw [if_neg e,h1],h2⟩
 . rw [ml] at hz;refine e0a1 (h.out z hz) λo1 o2=>?_;exact ⟨(if_neg (λ(e:z=x)=>hz (e▸hx))).trans o1,o2⟩
theorem iO.dD {ah:List Nd}{P:Int->Int}{T:Int->List Int}(h:iO ah P T){p:Int}(hp:p∈ah.map (·.1))(x:Int):iO (dD ah p x) P (λz=>if z=p then T z++[x] else T z):=by
 refine ⟨by simp only [iW];exact h.nd,λy hy=>?_,λz hz=>?_⟩
 . refine e1a1 (fy hy) λq hq o3=>?_;refine o3▸?_;refine e0a1 (h.at_ q hq) λh1 h2=>?_;by_cases e:q.1=p
   . rw [if_pos e];exact ⟨h1,by show q.2.2++[x]=(if q.1=p then T q.1++[x] else T q.1);rw [if_pos e,h2]⟩
   . rw [if_neg e];exact ⟨h1,by show q.2.2=(if q.1=p then T q.1++[x] else T q.1);rw [if_neg e,h2]⟩
 . rw [iW] at hz;refine e0a1 (h.out z hz) λo1 o2=>?_;exact ⟨o1,(if_neg (λ(e:z=p)=>hz (e▸hp))).trans o2⟩
theorem iO.b7 {x:Int}:∀(l:List Int) {ah:List Nd} {P:Int->Int} {T:Int->List Int},l.Nodup->iO ah P T->iO (b7 ah x l) P (λz=>if z∈l then T z++[x] else T z)/\∀z,z∈(b7 ah x l).map (·.1)↔z∈ah.map (·.1)\/z∈l:=by
 intro l;induction l with
 | nil =>intro ah P T _ h;exact ⟨h.congr (λzz=>rfl) (λz=>rfl),λz=>by simp [Mine.Internal.b7]⟩
 | cons p l ih =>
   intro ah P T hn h;refine e0a1 (List.nodup_cons.mp hn) λhp hl=>?_;obtain h1:=(h.bA p).dD ((jB ah p p).mpr (.inr rfl)) x;refine e0a1 (ih hl h1) λi1 i2=>?_;refine ⟨(show iO (Mine.Internal.b7 (Mine.Internal.dD (Mine.Internal.bA ah p) p x) x l) _ _ from i1.congr (λzz=>rfl) λz=>?_),λz=>?_⟩
   . by_cases e:z=p
     . cases e;simp [hp]
     . simp [e]
   . show z∈(Mine.Internal.b7 (Mine.Internal.dD (Mine.Internal.bA ah p) p x) x l).map (·.1)↔_;rw [i2,iW,jB];simp only [List.mem_cons];constructor
     . rintro ((q | q) | q)
       . exact .inl q
       . exact .inr (.inl q)
       . exact .inr (.inr q)
     . rintro (q | q | q)
       . exact .inl (.inl q)
       . exact .inl (.inr q)
       . exact .inr q
theorem iO.dF {ah:List Nd}{P:Int->Int}{T:Int->List Int}(h:iO ah P T)(x:Int){l:List Int}(hl:l.Nodup) :
 iO (dF ah x l) (λz=>if z=x then P z+l.length else P z) (λz=>if z∈l then T z++[x] else T z)/\∀z,z∈(dF ah x l).map (·.1)↔z∈ah.map (·.1)\/z=x\/z∈l:=by
 obtain h1:=(h.bA x).bump ((jB ah x x).mpr (.inr rfl)) (l.length:Int);refine e0a1 (iO.b7 (x:=x) l hl h1) λi1 i2=>?_;refine ⟨i1,λz=>?_⟩;show z∈(Mine.Internal.b7 _ x l).map (·.1)↔_;rw [i2,ml,jB];constructor
 . rintro ((q | q) | q)
   . exact .inl q
   . exact .inr (.inl q)
   . exact .inr (.inr q)
 . rintro (q | q | q)
   . exact .inl (.inl q)
   . exact .inl (.inr q)
   . exact .inr q
noncomputable def mn (N:Int->List Int)(rank:List Int):List Nd:=rank.foldl (λl x=>dF l x (N x)) []
theorem kL {l r:List Int}(h:l.Nodup)(hs:∀x∈l,x∈r):l.length<=r.length:=h.length_le_of_subset hs
theorem tQ (N:Int->List Int):∀(l pre:List Int) (ah:List Nd),(pre++l).Nodup->(∀x∈l,(N x).Nodup) ->
 iO ah (λz=>if z∈pre then ((N z).length:Int) else 0) (λz=>pre.filter λx=>decide (z∈N x))->(∀z,z∈ah.map (·.1)↔z∈pre\/∃x∈pre,z∈N x) ->
 iO (l.foldl (λl x=>dF l x (N x)) ah) (λz=>if z∈pre++l then ((N z).length:Int) else 0) (λz=>(pre++l).filter λx=>decide (z∈N x)) /\
  (∀z,z∈(l.foldl (λl x=>dF l x (N x)) ah).map (·.1)↔z∈pre++l\/∃x∈pre++l,z∈N x):=by
 intro l;induction l with
 | nil =>intro pre ah _ _ h hm;rw [List.append_nil];exact ⟨h,hm⟩
 | cons x l ih =>
   intro pre ah hn hr h hm;refine e0a1 (h.dF x (hr x (.head _))) λi1 i2=>?_;obtain hx:x∉pre:=λm=>by rw [List.nodup_append] at hn;exact hn.2.2 x m x (.head _) rfl
   obtain this:=ih (pre++[x]) (dF ah x (N x)) (by simpa using hn) (λy hy=>hr y (.tail _ hy))
    (i1.congr (λz=>by
     by_cases e:z=x
     . cases e;simp [hx]
     . simp [e]) λz=>by
     by_cases e:z∈N x
     . simp [e]
     . simp [e]) (λz=>by
     rw [i2,hm];constructor
     . rintro ((q | ⟨y,hy,q⟩) | q | q)
       . exact .inl (List.mem_append_left _ q)
       . exact .inr (ae y (List.mem_append_left _ hy) q)
       . exact .inl (by simp [q])
       . exact .inr (ae x (by simp) q)
     . rintro (q | ⟨y,hy,q⟩)
       . rcases bX q with q | q
         . exact .inl (.inl q)
         . exact .inr (.inl (bD q))
       . rcases bX hy with w | w
         . exact .inl (.inr (ae y w q))
         . rw [bD w] at q;exact .inr (.inr q))
   rw [List.append_assoc,List.singleton_append] at this;exact this
theorem vt (N:Int->List Int)(rank:List Int)(hn:rank.Nodup)(hr:∀x∈rank,(N x).Nodup)(hs:∀x∈rank,∀y∈N x,y∈rank) :
 iO (mn N rank) (λz=>if z∈rank then ((N z).length:Int) else 0) (λz=>rank.filter λx=>decide (z∈N x))/\∀z,z∈(mn N rank).map (·.1)↔z∈rank:=by
 refine e0a1 (tQ N rank [] [] (hn) hr ⟨by simp,by simp,by simp⟩ (by simp)) λh1 h2=>?_;exact ⟨h1,λz=>(h2 z).trans ⟨λq=>q.elim id λXa=>e1a1 Xa λx hx q=>hs x hx z q,.inl⟩⟩
theorem iO.eI {ah:List Nd}{P:Int->Int}{T:Int->List Int}(h:iO ah P T)(x:Int):eI ah x=P x:=by
 by_cases hx:x∈ah.map (·.1)
 . refine e1a1 (fy hx) λy hy o6=>?_;refine o6▸?_;rw [nT h.nd hy];exact (h.at_ y hy).1
 . simp only [(h.out x hx).1];delta Mine.Internal.eI;rw [List.find?_eq_none.mpr λy hy e=>hx (eK (ae y hy (by simpa using e)))];rfl
theorem iO.bY {ah:List Nd}{P:Int->Int}{T:Int->List Int}(h:iO ah P T)(x:Int):bY ah x=T x:=by
 by_cases hx:x∈ah.map (·.1)
 . refine e1a1 (fy hx) λy hy o5=>?_;refine o5▸?_;rw [jd h.nd hy];exact (h.at_ y hy).2
 . simp only [(h.out x hx).2];delta Mine.Internal.bY;rw [List.find?_eq_none.mpr λy hy e=>hx (eK (ae y hy (by simpa using e)))];rfl
theorem iO.dh {ah:List Nd}{P:Int->Int}{T:Int->List Int}(h:iO ah P T){x:Int}(hx:x∈ah.map (·.1))(k:Int):iO (dh ah x k) (λz=>if z=x then k else P z) T:=by
 refine ⟨by simp only [dd];exact h.nd,λy hy=>?_,λz hz=>?_⟩
 . refine e1a1 (fy hy) λp hp o4=>?_;refine o4▸?_;refine e0a1 (h.at_ p hp) λh1 h2=>?_;by_cases e:p.1=x
   . rw [if_pos e];exact ⟨by show k=(if p.1=x then k else P p.1);rw [if_pos e],h2⟩
   . rw [if_neg e];exact ⟨by show p.2.1=(if p.1=x then k else P p.1);rw [if_neg e,h1],h2⟩
 . rw [dd] at hz;refine e0a1 (h.out z hz) λo1 o2=>?_;exact ⟨(if_neg (λ(e:z=x)=>hz (e▸hx))).trans o1,o2⟩
theorem iO.outs {T:Int->List Int}:∀(l:List Int) {ah:List Nd} {P:Int->Int},iO ah P T->(∀x∈l,x∈ah.map (·.1))->iO (outs ah l) (λz=>if z∈l then -1 else P z) T:=by
 intro l;induction l with
 | nil =>intro ah P h _;exact h.congr (λz=>rfl) λzz=>rfl
 | cons x l ih =>
   intro ah P h hx;obtain h1:=h.dh (hx x (.head _)) (-1);obtain h2:=ih h1 λy hy=>by simp only [dd];exact hx y (.tail _ hy)
   refine (show iO (Mine.Internal.outs (Mine.Internal.dh ah x (-1)) l) _ _ from h2.congr (λz=>?_) λzz=>rfl);by_cases e:z∈l
   . simp [e]
   . by_cases e':z=x
     . simp [e']
     . simp [e,e']
theorem iO.c9 {ah:List Nd}{P:Int->Int}{T:Int->List Int}(h:iO ah P T){x:Int}(hx:x∈ah.map (·.1)):iO (c9 ah x) (λz=>if z=x then P z - 1 else P z) T:=by
 refine ⟨by simp only [gm];exact h.nd,λy hy=>?_,λz hz=>?_⟩
 . refine e1a1 (fy hy) λp hp o3=>?_;refine o3▸?_;refine e0a1 (h.at_ p hp) λh1 h2=>?_;by_cases e:p.1=x
   . rw [if_pos e];exact ⟨by show p.2.1 - 1=(if p.1=x then P p.1 - 1 else P p.1);rw [if_pos e,h1],h2⟩
   . rw [if_neg e];exact ⟨by show p.2.1=(if p.1=x then P p.1 - 1 else P p.1);rw [if_neg e,h1],h2⟩
 . rw [gm] at hz;refine e0a1 (h.out z hz) λo1 o2=>?_;exact ⟨(if_neg (λ(e:z=x)=>hz (e▸hx))).trans o1,o2⟩
theorem iO.Qu:∀(l:List Int) {ah:List Nd} {P:Int->Int} (rd:List Int),l.Nodup->iO ah P T->(∀x∈l,x∈ah.map (·.1)) ->
 iO (l.foldl cC (ah,rd)).1 (λz=>if z∈l then P z - 1 else P z) T/\(l.foldl cC (ah,rd)).2=rd++l.filter λs=>decide (P s=1):=by
 intro l;induction l with
 | nil =>intro ah P rd _ h _;exact ⟨h.congr (λz=>rfl) λzz=>rfl,by simp⟩
 | cons x l ih =>
   intro ah P rd hn h hx;refine e0a1 (List.nodup_cons.mp hn) λEI hl=>?_;obtain h1:=h.c9 (hx x (.head _));obtain h2:=ih (if Mine.Internal.eI (Mine.Internal.c9 ah x) x==0 then rd++[x] else rd) hl h1 λy hy=>by simp only [gm];exact hx y (.tail _ hy)
   show iO (l.foldl cC (Mine.Internal.c9 ah x,if Mine.Internal.eI (Mine.Internal.c9 ah x) x==0 then rd++[x] else rd)).1 _ _/\(l.foldl cC (Mine.Internal.c9 ah x,if Mine.Internal.eI (Mine.Internal.c9 ah x) x==0 then rd++[x] else rd)).2=_;refine ⟨h2.1.congr (λz=>?_) λzz=>rfl,?_⟩
   . by_cases e:z=x
     . cases e;simp [EI]
     . simp [e]
   . rw [h2.2,h1.eI x,if_pos rfl];obtain e1:(l.filter λs=>decide ((if s=x then P s - 1 else P s)=1))=l.filter λs=>decide (P s=1):=by apply List.filter_congr;intro s hs;rw [if_neg (λ(e:s=x)=>EI (e▸hs))]
     refine (af e1)▸(af List.filter_cons)▸?_;by_cases e:P x=1
     . simp [e]
     . obtain this:¬(P x - 1=0):=zM e;simp [e,this]
theorem wY (hx:x∉d){l:List Int}(hn:l.Nodup)(hm:x∈l):(l.filter λy=>decide (y∉d)).length=(l.filter λy=>decide (y∉d++[x])).length+1:=by
 rw [<-List.countP_eq_length_filter];refine List.countP_eq_length_filter▸?_;induction l with
 | nil=>exact nomatch hm
 | cons a l ih =>
   refine e0a1 (List.nodup_cons.mp hn) λha hl=>?_;refine (af List.countP_cons)▸(af List.countP_cons)▸?_;by_cases e:a=x
   . clear ih;clear hm;subst e;refine (af (decide_eq_true hx))▸(af (decide_eq_false λq:a∉d++[a]=>q (List.mem_append_right _ (.head _))))▸?_;refine congrArg Nat.succ (List.countP_congr λy hy=>?_);rw [decide_eq_true_iff,decide_eq_true_iff,List.mem_append,List.mem_singleton,or_iff_left λq:y=a=>ha (q▸hy)]
   . rw [ih hl ((er hm).resolve_left (Ne.symm e)),decide_eq_decide.mpr (show a∉d↔a∉d++[x] by rw [List.mem_append,List.mem_singleton,or_iff_left e])];exact Nat.add_right_comm ..
theorem wZ {d l:List Int}(hx:x∉l):(l.filter λy=>decide (y∉d++[x]))=l.filter λy=>decide (y∉d):=by apply List.filter_congr;intro y hy;obtain this:y≠x:=λq=>hx (q▸hy);simp [this]
structure vu (N:Int->List Int)(rank:List Int):Prop where
 nd:rank.Nodup
 rows:∀x∈rank,(N x).Nodup
 sub:∀x∈rank,∀y∈N x,y∈rank
 up:∀x∈rank,∀y∈N x,y < x
noncomputable def n9 (N:Int->List Int)(rank D G:List Int)(z:Int):Int :=
 if z∈D then -2 else if z∈G then -1 else if z∈rank then (((N z).filter λy=>decide (y∉D)).length:Int) else 0
structure SI (N:Int->List Int)(rank:List Int)(st:TS)(D:List Int):Prop where
 ah:iO st.ah (n9 N rank D st.fN) (λz=>rank.filter λx=>decide (z∈N x))
 names:∀z,z∈st.ah.map (·.1)↔z∈rank
 Xb:st.ready.Nodup
 rd:∀z,z∈st.ready↔z∈rank/\z∉st.fN/\∀y∈N z,y∈D
 ps:st.bg=st.fN.length
 fn:st.fin=D.length
 gN:st.fN.Nodup
 gS:∀z∈st.fN,z∈rank
 dN:D.Nodup
 dS:∀z∈D,z∈st.fN
 need:∀z∈st.fN,∀y∈N z,y∈D
section
variable {N:Int->List Int}{rank D:List Int}{st:TS}{x:Int}
theorem SI.zero (W:vu N rank):SI N rank ⟨mn N rank,c8 (mn N rank),0,0,[]⟩ []:=by
 refine e0a1 (vt N rank W.nd W.rows W.sub) λh1 h2=>?_;obtain hP:∀z,n9 N rank [] [] z=if z∈rank then ((N z).length:Int) else 0:=λz=>by obtain this:((N z).filter λy=>decide (y∉([]:List Int)))=N z:=List.filter_eq_self.mpr (by simp);show (if z∈[] then (-2:Int) else if z∈[] then -1 else if z∈rank then ((((N z).filter λy=>decide (y∉([]:List Int))).length:Nat):Int) else 0)=_;refine (af this)▸?_;rw [if_neg (by simp),if_neg (by simp)]
 refine ⟨h1.congr hP λzz=>rfl,h2,?_,λz=>?_,rfl,rfl,List.nodup_nil,(λzz h=>nomatch h),List.nodup_nil,(λzz h=>nomatch h),(λzz h=>nomatch h)⟩
 . exact (List.Sublist.map _ List.filter_sublist).nodup h1.nd
 . show z∈((mn N rank).filter λy=>y.2.1==0).map (·.1)↔_;rw [List.mem_map];constructor
   . rintro ⟨y,hy,rfl⟩;refine e0a1 (List.mem_filter.mp hy) λq1 q2=>?_;have hm:y.1∈rank:=(h2 y.1).mp (List.mem_map.mpr (ae y q1 rfl));obtain q3:=(h1.at_ y q1).1;rw [if_pos hm] at q3;obtain q4:y.2.1=0:=by simpa using q2
     obtain q5:N y.1=[]:=List.eq_nil_of_length_eq_zero (Int.ofNat.inj (q3.symm.trans q4));exact (aH hm (by simp) (by simp [q5]))
   . rintro ⟨q1,_,q3⟩;refine e1a1 (List.mem_map.mp ((h2 z).mpr q1)) λy hy o1=>?_;obtain rfl:=o1;refine (ae y (List.mem_filter.mpr ⟨hy,?_⟩) rfl);obtain q4:=(h1.at_ y hy).1;rw [if_pos q1] at q4;have q5:N y.1=[]:=by
      cases e:N y.1 with
      | nil=>rfl
      | cons a r=>exact absurd (q3 a (by rw [e];exact .head _)) (nofun)
     refine (af q4)▸(af q5)▸?_;rfl
theorem SI.mid (h:SI N rank st D):SI N rank (jz st) D:=by
 obtain n1:=h.ah.outs st.ready λz hz=>(h.names z).mpr ((h.rd z).mp hz).1;refine ⟨n1.congr (λz=>?_) λzz=>rfl,λz=>?_,List.nodup_nil,λz=>?_,?_,h.fn,?_,λz hz=>?_,h.dN,λz hz=>List.mem_append_left _ (h.dS z hz),λz hz=>?_⟩
 . show n9 N rank D (st.fN++st.ready) z=_;delta n9;by_cases r:z∈st.ready
   . obtain q:=(h.rd z).mp r;rw [if_neg (λm=>q.2.1 (h.dS z m)),if_pos (List.mem_append_right _ r),if_pos r]
   . rw [if_neg r];by_cases g:z∈st.fN
     . simp [g]
     . simp [g,r]
 . show z∈(outs st.ah st.ready).map (·.1)↔_;rw [gf];exact h.names z
 . show z∈[]↔z∈rank/\z∉st.fN++st.ready/\_;constructor
   . exact λq=>nomatch q
   . rintro ⟨q1,q2,q3⟩;exact absurd (List.mem_append_right _ ((h.rd z).mpr (aH q1 (λm=>q2 (List.mem_append_left _ m)) q3))) q2
 . show st.bg+st.ready.length=((st.fN++st.ready).length:Int)
   refine (af h.ps)▸?_;rw [List.length_append];push_cast;rfl
 . show (st.fN++st.ready).Nodup;rw [List.nodup_append];exact (aH h.gN h.Xb (λa ha b hb e=>((h.rd b).mp hb).2.1 (e▸ha)))
 . rcases List.mem_append.mp hz with q | q
   . exact h.gS z q
   . exact ((h.rd z).mp q).1
 . rcases List.mem_append.mp hz with q | q
   . exact h.need z q
   . exact ((h.rd z).mp q).2.2
theorem SI.done (W:vu N rank)(h:SI N rank st D)(hr:st.ready=[])(Xc:x∈st.fN)(F3:x∉D) :
 SI N rank ⟨(eh st.ah [] x).1,(eh st.ah [] x).2,st.bg,st.fin+1,st.fN⟩ (D++[x]):=by
 have hxr:=h.gS x Xc;have n2:=h.ah.dh ((h.names x).mpr hxr) (-2);generalize Rp:(rank.filter λz=>decide (x∈N z))=Sx;have mS:∀z,z∈Sx↔z∈rank/\x∈N z:=λz=>by rw [<-Rp,List.mem_filter];simp
 have n3:=iO.Qu (T:=λz=>rank.filter λx=>decide (z∈N x)) Sx [] (by rw [<-Rp];exact W.nd.filter _) n2 λz hz=>by rw [dd];exact (h.names z).mpr ((mS z).mp hz).1
 have Rq:eh st.ah [] x=Sx.foldl cC (dh st.ah x (-2),[]):=by unfold eh;rw [h.ah.bY x,Rp]
 have Xd:∀z∈Sx,z∉st.fN/\z≠x/\z∉D:=λz hz=>by refine e0a1 ((mS z).mp hz) λq1 q2=>?_;have a1:z∉st.fN:=λm=>F3 (h.need z m x q2);exact (aH a1 (λe=>a1 (e▸Xc)) (λm=>a1 (h.dS z m)))
 have P2:∀z∈Sx,(if z=x then (-2:Int) else n9 N rank D st.fN z)=(((N z).filter λy=>decide (y∉D++[x])).length:Int)+1:=λz hz=>by
  refine e0a2 (Xd z hz) λa1 a3 a4=>?_;refine e0a1 ((mS z).mp hz) λq1 q2=>?_;rw [if_neg a3];unfold n9;rw [if_neg a4,if_neg a1,if_pos q1,wY F3 (W.rows z q1) q2]
  push_cast;rfl
 refine ⟨?_,λz=>?_,?_,λz=>?_,h.ps,?_,h.gN,h.gS,?_,λz hz=>?_,λz hz y hy=>List.mem_append_left _ (h.need z hz y hy)⟩
 . show iO (eh st.ah [] x).1 _ _;rw [Rq];refine n3.1.congr (λz=>?_) λzz=>rfl;by_cases hz:z∈Sx
   . rw [if_pos hz,P2 z hz];refine e0a2 (Xd z hz) λa1 a3 a4=>?_;refine e0a1 ((mS z).mp hz) λq1 q2=>?_;show n9 N rank (D++[x]) st.fN z=_;unfold n9;rw [if_neg (by simp [a4,a3]),if_neg a1,if_pos q1];exact MF
   . rw [if_neg hz];show n9 N rank (D++[x]) st.fN z=_;by_cases Xe:z=x
     . subst Xe;rw [if_pos rfl];unfold n9;simp
     . rw [if_neg Xe];unfold n9;by_cases q1:z∈D
       . rw [if_pos q1,if_pos (List.mem_append_left _ q1)]
       . rw [if_neg q1,if_neg (by simp [q1,Xe])];by_cases q2:z∈st.fN
         . exact (af (if_pos q2))▸(af (if_pos q2))▸rfl
         . skip
           by_cases q3:z∈rank
           . have:x∉N z:=λm=>hz ((mS z).mpr ⟨q3,m⟩);rw [wZ this]
           . exact (af (if_neg q3))▸(af (if_neg q3))▸rfl
 . skip
   refine (af Rq)▸?_;rw [qp,dd];exact h.names z
 . show (eh st.ah [] x).2.Nodup;rw [Rq,n3.2,List.nil_append,<-Rp];exact (W.nd.filter _).filter _
 . skip
   simp only [Rq,n3.2,List.nil_append,List.mem_filter];constructor
   . rintro ⟨hz,hp⟩;refine e0a2 (Xd z hz) λa1 a3 a4=>?_;refine e0a1 ((mS z).mp hz) λq1 q2=>?_;have He:(if z=x then (-2:Int) else n9 N rank D st.fN z)=1:=by simpa using hp
     rw [P2 z hz] at He;have h0:((N z).filter λy=>decide (y∉D++[x]))=[]:=List.eq_nil_of_length_eq_zero (V3 He);refine (aH q1 a1 (λy hy=>Classical.byContradiction λq=>?_));have:y∈(N z).filter λy=>decide (y∉D++[x]):=List.mem_filter.mpr ⟨hy,by lia⟩;replace this:=h0▸this;cases this
   . rintro ⟨q1,q2,q3⟩;have q2':z∉st.fN:=q2;have hxz:x∈N z:=Classical.byContradiction λq=>by
      have:z∈st.ready:=(h.rd z).mpr ⟨q1,q2',λy hy=>by
       rcases List.mem_append.mp (q3 y hy) with w | w
       . exact w
       . rw [List.mem_singleton.mp w] at hy;exact absurd hy q⟩
      replace this:=hr▸this;cases this
     have hz:z∈Sx:=(mS z).mpr ⟨q1,hxz⟩;refine ⟨hz,?_⟩;have h0:((N z).filter λy=>decide (y∉D++[x]))=[]:=List.filter_eq_nil_iff.mpr λy hy q=>absurd (q3 y hy) (of_decide_eq_true q);have:=P2 z hz;rw [h0] at this;exact decide_eq_true (this)
 . show st.fin+1=_;refine (af h.fn)▸?_;rw [List.length_append];push_cast;rfl
 . rw [List.nodup_append];exact (aH h.dN (by simp) (λa ha b hb e=>F3 (by rw [<-List.mem_singleton.mp hb,<-e];exact ha)))
 . rcases List.mem_append.mp hz with q | q
   . exact h.dS z q
   . simp only [List.mem_singleton.mp q];exact Xc
theorem SI.step (W:vu N rank)(h:SI N rank st D)(hx:x∈st.fN++st.ready)(hd:x∉D):SI N rank (Rm st x) (D++[x]):=SI.done W h.mid rfl hx hd
theorem SI.may (h:SI N rank st D)(hx:x∈rank)(hn:∀y∈N x,y∈D):x∈st.fN++st.ready:=by
 by_cases g:x∈st.fN
 . exact List.mem_append_left _ g
 . exact List.mem_append_right _ ((h.rd x).mpr (aH hx g hn))
theorem SI.Y9 (h:SI N rank st D)(hl:rank.length < 60):OkR st :=
 ⟨λy hy=>(h.names y).mpr ((h.rd y).mp hy).1,by obtain this:=kL h.Xb λz hz=>((h.rd z).mp hz).1;exact Ml hl this,by obtain this:=kL h.gN h.gS;exact Mm hl this⟩
theorem SI.okT (h:SI N rank st D)(hl:rank.length < 60)(hx:x∈st.fN++st.ready)(hd:x∉D):Qk st x:=by
 obtain m:=h.mid;have hm:x∈(jz st).fN:=hx;refine {toOkR:=h.Y9 hl,Y1:=(h.names x).mpr (m.gS x hm),out:=?_,Y2:=λs hs=>?_,sl:=?_}
 . show eI (jz st).ah x=-1;rw [m.ah.eI];delta n9;rw [if_neg hd,if_pos hm]
 . obtain e:bY (jz st).ah x=_:=m.ah.bY x;have db:s∈bY (jz st).ah x:=hs;rw [e] at db;exact (h.names s).mpr (List.mem_filter.mp db).1
 . skip
   refine (af (m.ah.bY x))▸?_;obtain this:=List.length_filter_le (λz=>decide (x∈N z)) rank;exact Ml hl this
theorem SI.run (W:vu N rank)(hl:rank.length < 60)(h:SI N rank st D)(xs:aS)(hx:∀(i v:Nat),xs[i]?=some v->(v:Int)∈rank/\(v:Int)∉D++(xs.take i).map (λ(n:Nat)=>(n:Int))/\∀y∈N (v:Int),y∈D++(xs.take i).map (λ(n:Nat)=>(n:Int))) :
 ∀i,i<=xs.length->SI N rank (runT st xs i) (D++(xs.take i).map λ(n:Nat)=>(n:Int))/\∀v,xs[i]?=some v->Qk (runT st xs i) (v:Int):=by
 have key:∀i,i<=xs.length->SI N rank (runT st xs i) (D++(xs.take i).map λ(n:Nat)=>(n:Int)):=by
  intro i;induction i with
  | zero=>intro _;simp only [List.take_zero,List.map_nil,List.append_nil];exact h
  | succ i ih =>
    intro hi;obtain ih:=ih (Mh hi);obtain ⟨v,hv⟩:∃v,xs[i]?=some v:=(bQ _ (List.getElem?_eq_getElem (Ec hi)))
    refine e0a2 (hx i v hv) λq1 q2 q3=>?_;simp only [n7 st hv];obtain this:=ih.step W (ih.may q1 q3) q2;rw [List.append_assoc] at this;obtain e:(xs.take (i+1)).map (λ(n:Nat)=>(n:Int))=(xs.take i).map (λ(n:Nat)=>(n:Int))++[(v:Int)]:=by rw [List.take_add_one,hv];simp
    simp only [e];exact this
 intro i hi;refine ⟨key i hi,λv hv=>?_⟩;refine e0a2 (hx i v hv) λq1 q2 q3=>?_;exact (key i hi).okT hl ((key i hi).may q1 q3) q2
end
noncomputable def jH (ev:List dk):Nat->Nat->Option Nat
 | 0,_=>none
 | k+1,p=>match ev[k]? with
   | some e=>if e.p=p then some k else jH ev k p
   | none=>jH ev k p
set_option tactic.hygienic true in
theorem CD (d:List (Int×Int))(k v x:Int):b9 (dC d k v) x=if x=k then some v else b9 d x:=by
 delta dC
 split
 . rename_i h;induction d with
   | nil=>exact qK h
   | cons a d ih =>
     obtain ⟨a1,a2⟩:=a;unfold b9 at *;refine (af List.map_cons)▸(af (List.find?_cons))▸(af (List.find?_cons))▸?_;by_cases e:a1=k
     . subst e;by_cases e2:x=a1
       . subst e2;simp
       . obtain e3:a1≠x:=λq=>e2 q.symm;simp only [if_pos,e3,decide_false,if_neg e2];by_cases e4:d.any (λkv=>decide (kv.1=a1))=true
         . obtain this:=ih e4;rw [if_neg e2] at this;exact this
         . obtain this:d.map (λkv=>if kv.1=a1 then (kv.1,v) else kv)=d:=by refine (List.map_congr_left λy hy=>?_).trans (List.map_id d);obtain this:y.1≠a1:=λq=>e4 (List.any_eq_true.mpr (ae y hy (by simp [q])));refine (af (if_neg this))▸?_;rfl
           rw [this]
     . obtain h':d.any (λkv=>decide (kv.1=k))=true:=by simpa [e] using h
       by_cases e2:a1=x
       . subst e2;simp [e]
       . have:=ih h';simp only [e,if_false,e2,decide_false];exact this
 . rename_i h;delta b9;simp only [List.find?_append];by_cases e:x=k
   . subst e;have:d.find? (λkv=>decide (kv.1=x))=none:=List.find?_eq_none.mpr λy hy q=>h (List.any_eq_true.mpr (ae y hy q));refine (af this)▸?_;simp
   . obtain e':k≠x:=λq=>e q.symm;simp [e,e']
theorem r4 (ev:List dk)(p:Nat):∀k,b9 (lastD ev k) (p:Int)=(jH ev k p).map λ(j:Nat)=>(j:Int):=by
 intro k;induction k with
 | zero=>rfl
 | succ k ih =>
   dsimp only [lastD,jH];cases he:ev[k]? with
   | none=>exact ih
   | some e =>
     skip
     simp only [CD];by_cases q:e.p=p
     . subst q;simp
     . obtain this:(p:Int)≠(e.p:Int):=λw=>q (NV w);rw [if_neg this,if_neg q];exact ih
theorem iy {ev:List dk}{p j:Nat}:∀{k:Nat},jH ev k p=some j->j < k/\(∃e,ev[j]?=some e/\e.p=p)/\∀i e,j < i->i < k->ev[i]?=some e->e.p≠p:=by
 intro k;induction k with
 | zero=>intro h;exact bx h
 | succ k ih =>
   intro h;dsimp only [jH] at h;cases he:ev[k]? with
   | none =>
     replace h:=he▸h;refine e0a2 (ih h) λh1 h2 h3=>?_;refine (aH (Mo h1) h2 (λi e q1 q2 q3=>?_));by_cases q:i=k
     . cases q;rw [he] at q3;cases q3
     . exact h3 i e q1 (I1 q2 q) q3
   | some e0 =>
     rw [he] at h;simp only at h;by_cases q:e0.p=p
     . rw [if_pos q] at h;obtain rfl:=Option.some.inj h;exact (aH (Nq) (ae e0 he q) (λi e q1 q2 zz=>Pt q2 q1))
     . rw [if_neg q] at h;refine e0a2 (ih h) λh1 h2 h3=>?_;refine (aH (Mo h1) h2 (λi e q1 q2 q3=>?_));by_cases q':i=k
       . cases q';rw [he] at q3;cases q3;exact q
       . exact h3 i e q1 (I1 q2 q') q3
theorem w9 {ev:List dk}{p:Nat}:∀{k:Nat},jH ev k p=none->∀i e,i < k->ev[i]?=some e->e.p≠p:=by
 intro k;induction k with
 | zero=>intro _ i e h;exact (IZ h).elim
 | succ k ih =>
   intro h i e hi he;dsimp only [jH] at h;cases hk:ev[k]? with
   | none =>
     rw [hk] at h;by_cases q:i=k
     . subst q;rw [hk] at he;cases he
     . exact ih h i e (I1 hi q) he
   | some e0 =>
     replace h:=hk▸h;simp only at h;by_cases q:e0.p=p
     . exact iY (aF (af (if_pos q)) h)
     . rw [if_neg q] at h;by_cases q':i=k
       . subst q';rw [hk] at he;cases he;exact q
       . exact ih h i e (I1 hi q') he
theorem iz {ev:List dk}{k:Nat}{e:dk}(he:ev[k]?=some e)(y:Int):y∈predsE ev k↔(∃j:Nat,jH ev k e.p=some j/\y=(j:Int))\/(e.out=false/\y=((e.c - 97:Nat):Int)):=by
 delta predsE;refine (af he)▸?_;dsimp only;rw [r4,List.mem_append];refine or_congr ?_ ?_
 . cases jH ev k e.p with
   | none=>simp
   | some j=>simp
 . cases e.out <;> simp
structure CE (ev:List dk):Prop where
 iV:∀k e,ev[k]?=some e->e.out=false->97<=e.c/\e.c - 97 < k/\∃e',ev[e.c - 97]?=some e'/\e'.p≠e.p
noncomputable def NE (ev:List dk)(z:Int):List Int:=if 0<=z then predsE ev z.toNat else []
noncomputable abbrev kM (ev:List dk):List Int:=(List.range ev.length).map λ(n:Nat)=>(n:Int)
theorem xa (ev:List dk)(k:Nat):NE ev (k:Int)=predsE ev k:=rfl
theorem dM {ev:List dk}{z:Int}:z∈kM ev↔∃k:Nat,k < ev.length/\z=k:=by
 rw [List.mem_map];constructor
 . rintro ⟨k,h,rfl⟩;exact (ae k (List.mem_range.mp h) rfl)
 . rintro ⟨k,h,rfl⟩;exact (ae k (List.mem_range.mpr h) rfl)
theorem zk (ev:List dk):∀k,iK ev k=mn (NE ev) ((List.range k).map λ(n:Nat)=>(n:Int)):=by
 intro k;induction k with
 | zero=>rfl
 | succ k ih =>simp only [List.range_succ,List.map_append];unfold mn at *;rw [List.foldl_append];refine ih▸?_;show dF _ _ _=dF _ _ _;simp only [xa]
theorem jC {l:aS}(h:l.Nodup):(l.map λ(n:Nat)=>(n:Int)).Nodup:=(List.pairwise_map.mpr (h.imp λ{a b} q e=>q (BC e)))
theorem hG {ev:List dk}(E:CE ev){k:Nat}(hk:k < ev.length):∀y∈predsE ev k,∃j:Nat,y=j/\j < k:=by
 intro y hy;rcases (iz (List.getElem?_eq_getElem hk) y).mp hy with ⟨j,h1,rfl⟩ | ⟨h1,rfl⟩
 . exact (ae j rfl ((iy h1).1))
 . exact (ae _ rfl ((E.iV k _ (List.getElem?_eq_getElem hk) h1).2.1))
theorem tR {ev:List dk}(E:CE ev){k:Nat}(hk:k < ev.length):(predsE ev k).Nodup:=by
 obtain he:=List.getElem?_eq_getElem hk;generalize ev[k]=e at he;delta predsE;refine (af he)▸?_
 skip
 simp only [r4];cases hl:jH ev k e.p with
 | none=>cases e.out <;> simp
 | some j =>
   cases ho:e.out with
   | true=>simp
   | false =>
     obtain ⟨_,_,e',h1,h2⟩:=E.iV k e he ho;refine e0a2 (iy hl) λzz An zz=>?_;obtain ⟨e2,h3,h4⟩:=An;obtain this:j≠e.c - 97:=λq=>by subst q;rw [h1] at h3;cases h3;exact h2 h4
     simp;exact OP this
theorem EM {ev:List dk}(E:CE ev):vu (NE ev) (kM ev) where
 nd:=jC List.nodup_range
 rows:=λx hx=>by refine e1a1 (dM.mp hx) λk hk rz=>?_;obtain rfl:=rz;skip;exact tR E hk
 sub:=λx hx y hy=>by refine e1a1 (dM.mp hx) λk hk t0=>?_;obtain rfl:=t0;rw [xa] at hy;refine e1a1 (hG E hk y hy) λj o9 h=>?_;obtain rfl:=o9;exact dM.mpr (ae j (HO h hk) rfl)
 up:=λx hx y hy=>by refine e1a1 (dM.mp hx) λk hk o8=>?_;obtain rfl:=o8;rw [xa] at hy;refine e1a1 (hG E hk y hy) λj o7 h=>?_;obtain rfl:=o7;exact Ov h
theorem oQ {xs:aS}(hs:xs.Pairwise (· < ·)){i v:Nat}(hv:xs[i]?=some v):v∉xs.take i/\∀y∈xs,y < v->y∈xs.take i:=by
 obtain hi:=(List.getElem?_eq_some_iff.mp hv).1;have e:xs.drop i=v::xs.drop (i+1):=by rw [List.drop_eq_getElem_cons hi];rw [(List.getElem?_eq_some_iff.mp hv).2]
 obtain db:(xs.take i++v::xs.drop (i+1)).Pairwise (· < ·):=by refine e▸?_;rw [List.take_append_drop];exact hs
 refine e0a2 (List.pairwise_append.mp db) λh1 h2 h3=>?_;refine ⟨λm=>Nat.lt_irrefl _ (h3 v m v (.head _)),λy hy gX=>?_⟩;rw [<-List.take_append_drop i xs,e] at hy;rcases List.mem_append.mp hy with q | q
 . exact q
 . rcases List.mem_cons.mp q with q | q
   . exact (HS gX q).elim
   . obtain this:=(List.pairwise_cons.mp h2).1 y q;exact (OA gX this).elim
theorem gV (n:Nat)(p:Nat->Bool):((List.range n).filter p).Pairwise (· < ·):=List.Pairwise.filter _ List.pairwise_lt_range
structure Qv (ev:List dk)(p:Nat->Bool)(cut rest:aS):Prop where
 F:IC ev cut rest
 fN:∀z,z∈(jz (Tc ev cut)).fN↔∃k:Nat,z=k/\k < ev.length/\∀y:Nat,(y:Int)∈predsE ev k->p y=true
 nd:(jz (Tc ev cut)).fN.Nodup
 act:EG (Te ev cut rest)=false
theorem zl {ev:List dk}(E:CE ev)(hl:ev.length<=18)(p:Nat->Bool)(hp:∀k,k < ev.length->p k=true->∀y:Nat,(y:Int)∈predsE ev k->p y=true) :
 Qv ev p ((List.range ev.length).filter p) ((List.range ev.length).filter λk=>!p k):=by
 have W:=EM E;have Rr:(kM ev).length < 60:=by simp;exact L6 hl
 have z0:SI (NE ev) (kM ev) (T0 ev) []:=by have:=SI.zero W;rw [<-zk] at this;exact this
 generalize zc:(List.range ev.length).filter p=cut;generalize Gc:(List.range ev.length).filter (λk=>!p k)=rest;have Xf:cut.Pairwise (· < ·):=by simp only [<-zc];exact gV _ _
 have Qw:rest.Pairwise (· < ·):=by simp only [<-Gc];exact gV _ _
 have ww:∀y,y∈cut↔y < ev.length/\p y=true:=λy=>by rw [<-zc,List.mem_filter,List.mem_range]
 have CF:∀y,y∈rest↔y < ev.length/\p y=false:=λy=>by rw [<-Gc,List.mem_filter,List.mem_range];simp
 have mc:∀{l:aS} {y:Nat},(y:Int)∈l.map (λ(n:Nat)=>(n:Int))↔y∈l:=λ{l y}=>by
  rw [List.mem_map];constructor
  . rintro ⟨a,h,e⟩;have:a=y:=BC e;exact this▸h
  . intro h;exact (ae y h rfl)
 have A:∀(i v:Nat),cut[i]?=some v->(v:Int)∈kM ev/\(v:Int)∉[]++(cut.take i).map (λ(n:Nat)=>(n:Int))/\∀y∈NE ev (v:Int),y∈[]++(cut.take i).map (λ(n:Nat)=>(n:Int)):=λi v hv=>by
  refine e0a1 (oQ Xf hv) λt1 t2=>?_;refine e0a1 ((ww v).mp (List.mem_of_getElem? hv)) λm1 m2=>?_
  skip
  refine (aH (dM.mpr (ae v m1 rfl)) (λq=>t1 (mc.mp q)) (λy hy=>?_));refine e1a1 (hG E m1 y hy) λj o6 hj=>?_;obtain rfl:=o6;exact mc.mpr (t2 j ((ww j).mpr ⟨HO hj m1,hp v m1 m2 j hy⟩) hj)
 have R1:=z0.run W Rr cut A;have C1:=(R1 cut.length (aZ _)).1;rw [List.nil_append,List.take_length] at C1;replace C1:SI (NE ev) (kM ev) (Tc ev cut) (cut.map λ(n:Nat)=>(n:Int)):=C1;have M:=C1.mid;have B:∀(i v:Nat),rest[i]?=some v->(v:Int)∈kM ev/\(v:Int)∉(cut.map λ(n:Nat)=>(n:Int))++(rest.take i).map (λ(n:Nat)=>(n:Int))/\∀y∈NE ev (v:Int),y∈(cut.map λ(n:Nat)=>(n:Int))++(rest.take i).map (λ(n:Nat)=>(n:Int)):=λi v hv=>by
  refine e0a1 (oQ Qw hv) λt1 t2=>?_;refine e0a1 ((CF v).mp (List.mem_of_getElem? hv)) λm1 m2=>?_
  skip
  refine (aH (dM.mpr (ae v m1 rfl)) (λq=>?_) (λy hy=>?_))
  . rcases List.mem_append.mp q with q | q
    . obtain this:=((ww v).mp (mc.mp q)).2;exact qK (aF (af m2) this)
    . exact t1 (mc.mp q)
  . refine e1a1 (hG E m1 y hy) λj o5 hj=>?_;obtain rfl:=o5;rw [List.mem_append,mc,mc];cases I8:p j with
    | true=>exact .inl ((ww j).mpr ⟨HO hj m1,I8⟩)
    | false=>exact .inr (t2 j ((CF j).mpr ⟨HO hj m1,I8⟩) hj)
 obtain R2:=M.run W Rr rest B;obtain C2:=(R2 rest.length (aZ _)).1;rw [List.take_length] at C2;replace C2:SI (NE ev) (kM ev) (Te ev cut rest) ((cut.map λ(n:Nat)=>(n:Int))++rest.map λ(n:Nat)=>(n:Int)):=C2;obtain gl:∀{st:TS} {D:List Int},SI (NE ev) (kM ev) st D->st.fN.length<=ev.length:=λh=>by obtain this:=kL h.gN h.gS;simpa using this
 refine ⟨⟨Ny hl,λe he ho=>?_,(bQ (λz=>z.toNat) (λy hy s hs=>?_)),λi x hx=>(R1 i (by obtain this:=(List.getElem?_eq_some_iff.mp hx).1;exact HT this)).2 x hx,C1.Y9 Rr,λi x hx=>(R2 i (by obtain this:=(List.getElem?_eq_some_iff.mp hx).1;exact HT this)).2 x hx,?_,?_,?_⟩,λz=>?_,M.gN,?_⟩
 . refine e1a0 (List.getElem?_of_mem he) λk hk=>?_;refine e0a2 (E.iV k e hk ho) λh1 h2 zz=>?_;obtain this:=(List.getElem?_eq_some_iff.mp hk).1;exact O8 h1 h2 this hl
 . have e1:=(z0.ah.at_ y hy).2;rw [e1] at hs;refine e0a1 (List.mem_filter.mp hs) λq1 q2=>?_;have q3:y.1∈NE ev s:=of_decide_eq_true q2;refine e1a1 (dM.mp q1) λk hk o4=>?_;obtain rfl:=o4
   skip
   refine e1a1 (hG E hk _ q3) λj h1 h2=>?_;refine ⟨(z0.names _).mpr q1,?_⟩
   skip
   refine (af h1)▸?_;exact Ox h2
 . obtain this:=gl M;exact Mp hl this
 . obtain this:=kL C2.Xb λz hz=>((C2.rd z).mp hz).1;obtain e:(kM ev).length=ev.length:=by simp
   exact Mm Rr this
 . obtain this:=List.length_filter_le p (List.range ev.length);refine zc▸?_;simp at this;exact Mp hl this
 . constructor
   . intro hz;refine e1a1 (dM.mp (M.gS z hz)) λk hk o3=>?_;obtain rfl:=o3;refine (a9 k rfl hk (λy hy=>?_));obtain this:=M.need _ hz (y:Int) (by assumption);exact ((ww y).mp (mc.mp this)).2
   . rintro ⟨k,rfl,hk,hy⟩;refine C1.may (dM.mpr (ae k hk rfl)) λy Za=>?_
     skip
     refine e1a1 (hG E hk y Za) λj o2 hj=>?_;obtain rfl:=o2;exact mc.mpr ((ww j).mpr ⟨HO hj hk,hy j Za⟩)
 . have all:∀z∈kM ev,z∈(cut.map λ(n:Nat)=>(n:Int))++rest.map λ(n:Nat)=>(n:Int):=λz hz=>by
    refine e1a1 (dM.mp hz) λk hk o1=>?_;obtain rfl:=o1;rw [List.mem_append,mc,mc];cases Zb:p k with
    | true=>exact .inl ((ww k).mpr ⟨hk,Zb⟩)
    | false=>exact .inr ((CF k).mpr ⟨hk,Zb⟩)
   generalize Te ev cut rest=te at C2;have hr:te.ready=[]:=by
    cases h:te.ready with
    | nil=>rfl
    | cons a r =>obtain this:=(C2.rd a).mp (by refine (af h)▸?_;exact .head _);exact absurd (C2.dS a (all a this.1)) this.2.1
   obtain hlen:te.fN.length<=((cut.map λ(n:Nat)=>(n:Int))++rest.map λ(n:Nat)=>(n:Int)).length:=kL C2.gN λz hz=>all z (C2.gS z hz);delta EG;refine (af hr)▸(af C2.ps)▸(af C2.fn)▸?_;obtain this:¬((((cut.map λ(n:Nat)=>(n:Int))++rest.map λ(n:Nat)=>(n:Int)).length:Int) < (te.fN.length:Int)):=OY hlen;refine (af (decide_eq_false this))▸?_;rfl
noncomputable def fe (ev:List dk)(l:Nat):aS:=(ev.filter λe=>e.l==l&&e.out).map (·.c)
noncomputable def taken (ev:List dk)(l:Nat):aS:=(ev.filter λe=>e.l==l&&!e.out).map (·.c)
structure tS (ev:List dk)(l:Nat)(q nt:aS)(cl hg hr:Bool)(kg kr:Nat):Prop where
 way:(hg=false/\cl=false/\32∉q/\fe ev l=taken ev l++q) \/
  (hg=true/\cl=false/\∃A B,q=A++32::B/\32∉A/\32∉B/\fe ev l=taken ev l++A++B/\(∀c∈taken ev l++A,c < 97+kg)/\∀c∈B,97+kg<=c) \/
  (hg=true/\hr=true/\cl=true/\32∉q/\fe ev l=taken ev l++q/\∀c∈q,97+kg<=c)
 early:hr=true->hg=true->∀c∈taken (ev.take kr) l,c < 97+kg
 Ge:hr=false->nt=[]
 Gf:hr=true->nt=(taken (ev.drop kr) l).filter λc=>!hg||decide (c < 97+kg)
structure cU (t:Net):Prop where
 out:∀(k:Nat) (e:dk),t.ev[k]?=some e->e.out=true->∃g r,g < 3/\r < 3/\g≠r/\e=⟨g,3*g+r,97+k,true⟩
 C6:∀(k:Nat) (e:dk),t.ev[k]?=some e->e.out=false->∃g r,g < 3/\r < 3/\g≠r/\e.p=r/\e.l=3*g+r/\97<=e.c/\e.c - 97 < k/\∃e',t.ev[e.c - 97]?=some e'/\e'.out=true/\e'.l=3*g+r
 kn:(t.kept.map (·.1)).Nodup
 kb:∀x∈t.kept,x.1 < 3/\x.2<=t.ev.length
 cn:t.closed.Nodup
 cb:∀l∈t.closed,∃g r,g < 3/\r < 3/\g≠r/\l=3*g+r
 off:∀i,(∀g r,g < 3->r < 3->g≠r->i≠3*g+r)->t.q i=[]/\t.aB i=[]
 ln:∀g r,g < 3->r < 3->g≠r->tS t.ev (3*g+r) ((t.q (3*g+r)).map (·.1)) (t.aB (3*g+r)) (t.closed.contains (3*g+r)) (t.has g) (t.has r) (fx t.kept g) (fx t.kept r)
theorem qy (ev:List dk)(e:dk)(l:Nat):fe (ev++[e]) l=fe ev l++(if e.l==l&&e.out then [e.c] else []):=by
 delta fe
 skip
 congr 1;by_cases h:(e.l==l&&e.out)=true <;> simp [h]
theorem hK (ev:List dk)(e:dk)(l:Nat):taken (ev++[e]) l=taken ev l++(if e.l==l&&!e.out then [e.c] else []):=by
 delta taken
 skip
 congr 1;by_cases h:(e.l==l&&!e.out)=true <;> simp [h]
theorem kN (ev:List dk)(K l:Nat):taken (ev.take K) l++taken (ev.drop K) l=taken ev l:=by delta taken;rw [<-List.map_append,<-List.filter_append,List.take_append_drop]
theorem EN (l:List (Nat×Nat))(p:Nat):(l.any λk=>k.1==p)=true↔p∈l.map (·.1):=by
 rw [List.any_eq_true,List.mem_map];constructor
 . rintro ⟨x,h1,h2⟩;exact (ae x h1 (by simpa using h2))
 . rintro ⟨x,h1,h2⟩;exact (ae x h1 (by simpa using h2))
theorem ye {l:List (Nat×Nat)}{p:Nat}(h:(l.any λk=>k.1==p)=true):(p,fx l p)∈l:=by
 induction l with
 | nil=>exact qK h
 | cons x l ih =>
   obtain ⟨a,b⟩:=x;delta fx;rw [List.lookup_cons];by_cases e:p=a
   . subst e;simp
   . obtain e1:(p==a)=false:=by simpa using e
     refine (af e1)▸?_;obtain h':(l.any λk=>k.1==p)=true:=by
      obtain this:(a==p)=false:=by simpa using λq=>e q.symm
      simpa [this] using h
     exact .tail _ (ih h')
theorem yf {l:List (Nat×Nat)}{p n x:Nat}:fx (l++[(p,n)]) x=if (l.any λk=>k.1==x)=true then fx l x else if x=p then n else 0:=by
 induction l with
 | nil =>
   delta fx;by_cases e:x=p
   . subst e;simp
   . obtain this:(x==p)=false:=by simpa using e
     simp [this,e,List.lookup]
 | cons y l ih =>
   obtain ⟨a,b⟩:=y;delta fx at *;simp only [List.cons_append,List.lookup_cons,List.lookup_cons];by_cases e:x=a
   . subst e;simp
   . obtain e1:(x==a)=false:=by simpa using e
     obtain e2:(a==x)=false:=by simpa using λq=>e q.symm
     simp only [e1,List.any_cons,e2,Bool.false_or];exact ih
theorem cU.kle {t:Net}(h:cU t){p:Nat}(hp:t.has p=true):fx t.kept p<=t.ev.length:=(h.kb _ (ye hp)).2
theorem cU.yg {t:Net}(h:cU t){l c:Nat}(hc:c∈fe t.ev l):∃k e,t.ev[k]?=some e/\e.out=true/\e.l=l/\c=97+k/\k < t.ev.length:=by refine e1a1 (List.mem_map.mp hc) λe he o1=>?_;obtain rfl:=o1;refine e0a1 (List.mem_filter.mp he) λh1 h2=>?_;refine e1a0 (List.getElem?_of_mem h1) λk hk=>?_;simp only [Bool.and_eq_true,beq_iff_eq] at h2;refine e2a3 (h.out k e hk h2.2) λg r zz zz zz e1=>?_;exact (Ab k e hk h2.2 h2.1 (by rw [e1]) ((List.getElem?_eq_some_iff.mp hk).1))
theorem cU.lt {t:Net}(h:cU t){l c:Nat}(hc:c∈fe t.ev l):97<=c/\c < 97+t.ev.length:=by refine e2a4 (h.yg hc) λk e zz zz zz h1 h2=>?_;exact Pf h2 h1
theorem tS.CG (h:tS ev l q nt cl hg hr kg kr):∀c∈q,c=32\/c∈fe ev l:=by
 intro c hc;rcases h.way with ⟨_,_,_,e⟩ | ⟨_,_,A,B,rfl,_,_,e,_⟩ | ⟨_,_,_,_,e,_⟩
 . refine (af e)▸?_;exact .inr (List.mem_append_right _ hc)
 . refine (af e)▸?_;rcases List.mem_append.mp hc with w | w
   . exact .inr (List.mem_append_left _ (List.mem_append_right _ w))
   . rcases List.mem_cons.mp w with w | w
     . exact .inl w
     . exact .inr (List.mem_append_right _ w)
 . refine (af e)▸?_;exact .inr (List.mem_append_right _ hc)
theorem tS.IF (h:tS ev l q nt cl hg hr kg kr):∀c∈taken ev l,c∈fe ev l:=by
 intro c hc;rcases h.way with ⟨_,_,_,e⟩ | ⟨_,_,A,B,rfl,_,_,e,_⟩ | ⟨_,_,_,_,e,_⟩
 . refine (af e)▸?_;exact List.mem_append_left _ hc
 . rw [e];exact List.mem_append_left _ (List.mem_append_left _ hc)
 . refine (af e)▸?_;exact List.mem_append_left _ hc
theorem gA {g r g' r':Nat}(h2:r < 3)(h4:r' < 3)(h:3*g+r=3*g'+r'):g=g'/\r=r':=Pn h h2 h4
theorem Xg:cU y8 where
 out:=λk e h=>nomatch h
 C6:=λk e h=>nomatch h
 kn:=List.nodup_nil
 kb:=λx h=>nomatch h
 cn:=List.nodup_nil
 cb:=λx h=>nomatch h
 off:=λi zz=>⟨rfl,rfl⟩
 ln:=λg r zz zz zz=>⟨.inl (eM rfl rfl (by simp [y8]) rfl),(λh=>nomatch h),λzz=>rfl,(λh=>nomatch h)⟩
theorem ny (t:Net){p:Nat}(hp:p < 3):(mark t p).ev=t.ev/\(mark t p).kept=t.kept++[(p,t.ev.length)]/\(mark t p).aB=t.aB/\(mark t p).closed=t.closed /\
 ∀g r,g < 3->r < 3->(mark t p).q (3*g+r)=if g=p/\r≠p then t.q (3*g+r)++[(32,odd t.ev.length)] else t.q (3*g+r):=by
 match p,hp with
 | 0,_ =>
   refine (fz rfl rfl rfl rfl (λg r hg hr=>?_));show upd (upd t.q 1 _) 2 _ _=_;delta upd;rcases (Nt:g=0\/g≠0) with rfl | h
   . rcases (LF hr:r=0\/r=1\/r=2) with rfl | rfl | rfl <;> simp <;> rfl
   . rw [if_neg (OM h),if_neg (OL h),if_neg (OK h)]
 | 1,_ =>
   refine (fz rfl rfl rfl rfl (λg r hg hr=>?_));show upd (upd t.q 3 _) 5 _ _=_;delta upd;rcases (Nv:g=1\/g≠1) with rfl | h
   . rcases (LF hr:r=0\/r=1\/r=2) with rfl | rfl | rfl <;> simp <;> rfl
   . rw [if_neg (Of hr h),if_neg (Oe hr h),if_neg (ON h)]
 | 2,_ =>
   refine (fz rfl rfl rfl rfl (λg r hg hr=>?_));show upd (upd t.q 6 _) 7 _ _=_;delta upd;rcases (Nw:g=2\/g≠2) with rfl | h
   . rcases (LF hr:r=0\/r=1\/r=2) with rfl | rfl | rfl <;> simp <;> rfl
   . rw [if_neg (Oh hr h),if_neg (Og hr h),if_neg (OO h)]
theorem CI (t:Net){p:Nat}(hp:p < 3)(i:Nat)(hi:∀g r,g < 3->r < 3->g≠r->i≠3*g+r):(mark t p).q i=t.q i:=by
 match p,hp with
 | 0,_=>show upd (upd t.q 1 _) 2 _ _=_;unfold upd;rw [if_neg (hi 0 2 (Fy) (FA) (VK)),if_neg (hi 0 1 (Fy) (Fz) (VJ))]
 | 1,_=>show upd (upd t.q 3 _) 5 _ _=_;unfold upd;rw [if_neg (hi 1 2 (Fz) (FA) (VN)),if_neg (hi 1 0 (Fz) (Fy) (VM))]
 | 2,_=>show upd (upd t.q 6 _) 7 _ _=_;unfold upd;rw [if_neg (hi 2 1 (FA) (Fz) (VP)),if_neg (hi 2 0 (FA) (Fy) (VO))]
theorem kO (t:Net){p:Nat}(hp:p < 3)(x:Nat):(mark t p).has x=(t.has x||x==p):=by
 delta Net.has;simp only [(ny t hp).2.1,List.any_append,List.any_cons,List.any_nil,Bool.or_false];congr 1
 skip
 exact Bool.beq_comm
theorem cU.mark {t:Net}(h:cU t){p:Nat}(hp:p < 3)(hn:t.has p=false):cU (mark t p):=by
 refine e0a4 (ny t hp) λm1 m2 m3 m4 m5=>?_;refine ⟨by rw [m1];exact h.out,by rw [m1];exact h.C6,?_,?_,by rw [m4];exact h.cn,by rw [m4];exact h.cb,λi hi=>⟨(CI t hp i hi).trans (h.off i hi).1,by rw [m3];exact (h.off i hi).2⟩,λg r hg hr co=>?_⟩
 . rw [m2,List.map_append,List.nodup_append];refine (aH h.kn (by simp) (λa ha b hb e=>?_));simp at hb;subst hb;subst e;have:=(EN t.kept a).mpr ha;rw [show (t.kept.any λk=>k.1==a)=false from hn] at this;cases this
 . rw [m2,m1];intro x hx;rcases List.mem_append.mp hx with q | q
   . exact h.kb x q
   . rw [List.mem_singleton.mp q];exact ⟨hp,aZ _⟩
 . have L:=h.ln g r hg hr co;have kp:∀x,t.has x=true->fx (t.kept++[(p,t.ev.length)]) x=fx t.kept x:=λx hx=>by rw [yf];exact if_pos hx
   have Zc:fx (t.kept++[(p,t.ev.length)]) p=t.ev.length:=by rw [yf,if_neg (by rw [show (t.kept.any λk=>k.1==p)=false from hn];simp),if_pos rfl]
   have T:∀c∈taken t.ev (3*g+r),c < 97+t.ev.length:=λc hc=>(h.lt (L.IF c hc)).2;rw [m1,m2,m3,m4,m5 g r hg hr,kO t hp,kO t hp];by_cases e1:g=p
   . subst e1;have e2:r≠g:=λq=>co q.symm;have eb:(r==g)=false:=by simpa using e2
     rw [if_pos ⟨rfl,e2⟩,Zc,eb,hn,Bool.or_false,Bool.false_or,beq_self_eq_true];rw [hn] at L;rcases L.way with ⟨_,w2,w3,w4⟩ | ⟨w1,_⟩ | ⟨w1,_⟩
     . refine ⟨.inr (.inl (jX rfl w2 ((t.q (3*g+r)).map (·.1)) [] (by simp) w3 (by simp) (by simpa using w4) (λc hc=>?_) (by simp))),λq1 zz c hc=>?_,λq1=>L.Ge q1,λq1=>?_⟩
       . rw [<-w4] at hc;exact (h.lt hc).2
       . rw [kp r q1] at hc;exact T c (by rw [<-kN t.ev (fx t.kept r)];exact List.mem_append_left _ hc)
       . rw [kp r q1,L.Gf q1];refine List.filter_congr λc hc=>?_;have:=T c (by rw [<-kN t.ev (fx t.kept r)];exact List.mem_append_right _ hc);simp [this]
     . cases w1
     . cases w1
   . rw [if_neg (λq=>e1 q.1)];have eb:(g==p)=false:=by simpa using e1
     rw [eb,Bool.or_false];by_cases e2:r=p
     . subst e2;rw [hn,beq_self_eq_true,Bool.false_or,Zc];rw [hn] at L;have hk:t.has g=true->fx (t.kept++[(r,t.ev.length)]) g=fx t.kept g:=kp g;refine ⟨?_,λzz q2 c hc=>?_,(λq=>nomatch q),λzz=>?_⟩
       . rcases L.way with w | ⟨w1,w2,w3⟩ | ⟨_,w,_⟩
         . exact .inl w
         . rw [hk w1];exact .inr (.inl (aH w1 w2 w3))
         . cases w
       . rw [List.take_length] at hc;rw [hk q2];rcases L.way with ⟨w1,_⟩ | ⟨w1,w2,A,B,w3,w4,w5,w6,w7,w8⟩ | ⟨_,w,_⟩
         . rw [q2] at w1;cases w1
         . exact w7 c (List.mem_append_left _ hc)
         . cases w
       . refine (af List.drop_length)▸(af (L.Ge rfl))▸?_;rfl
     . have eb2:(r==p)=false:=by simpa using e2
       refine (af eb2)▸?_;rw [Bool.or_false];refine ⟨?_,λq1 q2=>?_,L.Ge,λq1=>?_⟩
       . rcases L.way with w | ⟨w1,w2,w3⟩ | ⟨w1,w2,w3⟩
         . exact .inl w
         . rw [kp g w1];exact .inr (.inl (aH w1 w2 w3))
         . rw [kp g w1];exact .inr (.inr (aH w1 w2 w3))
       . refine (af (kp r q1))▸(af (kp g q2))▸?_;exact L.early q1 q2
       . refine (af (kp r q1))▸(af (L.Gf q1))▸?_;cases q:t.has g with
         | false=>rfl
         | true=>rw [kp g q]
theorem pA {α:Type}{l:List α}{x y:α}{k:Nat}(h:(l++[x])[k]?=some y):l[k]?=some y\/k=l.length/\y=x:=by
 by_cases hk:k < l.length
 . rw [List.getElem?_append_left hk] at h;exact .inl h
 . rw [List.getElem?_append_right (Ed hk)] at h;obtain this:k - l.length=0:=by obtain this:=(List.getElem?_eq_some_iff.mp h).1;simp at this;exact N7 this
   rw [this] at h;exact .inr ⟨N8 this hk,(Option.some.inj h).symm⟩
theorem qz {α:Type}{l:List α}{x y:α}{k:Nat}(h:l[k]?=some y):(l++[x])[k]?=some y:=by rw [List.getElem?_append_left (List.getElem?_eq_some_iff.mp h).1];exact h
section
variable {ev:List dk}{l:Nat}{q nt:aS}{cl hg hr:Bool}{kg kr:Nat}{e:dk}{c:Nat}
theorem qA {K:Nat}(h:K<=ev.length):(ev++[e]).take K=ev.take K:=List.take_append_of_le_length h
theorem qB {K:Nat}(h:K<=ev.length):(ev++[e]).drop K=ev.drop K++[e]:=List.drop_append_of_le_length h
theorem tS.other (h:tS ev l q nt cl hg hr kg kr)(hk:hr=true->kr<=ev.length)(he:e.l≠l):tS (ev++[e]) l q nt cl hg hr kg kr:=by
 have hb:(e.l==l)=false:=by simpa using he
 obtain e1:fe (ev++[e]) l=fe ev l:=by rw [qy,hb];simp
 obtain e2:taken (ev++[e]) l=taken ev l:=by rw [hK];refine (af hb)▸?_;simp
 refine ⟨by refine (af e1)▸(af e2)▸?_;exact h.way,λq1 q2=>by rw [qA (hk q1)];exact h.early q1 q2,h.Ge,λq1=>?_⟩;rw [qB (hk q1),hK,hb];simpa using h.Gf q1
theorem tS.Qy (h:tS ev l q nt cl hg hr kg kr)(hk:hr=true->kr<=ev.length)(Zd:hg=true->kg<=ev.length)(h1:e.l=l)(h2:e.out=true)(h3:e.c=97+ev.length):tS (ev++[e]) l (q++[e.c]) nt cl hg hr kg kr:=by
 obtain hb:(e.l==l)=true:=by simpa using h1
 obtain e1:fe (ev++[e]) l=fe ev l++[e.c]:=by simp only [qy,hb,h2];simp
 obtain e2:taken (ev++[e]) l=taken ev l:=by simp only [hK,hb,h2];simp
 obtain Xh:e.c≠32:=OI h3;refine ⟨?_,λq1 q2=>by refine (af (qA (hk q1)))▸?_;exact h.early q1 q2,h.Ge,λq1=>?_⟩
 . refine (af e1)▸(af e2)▸?_;rcases h.way with ⟨w1,w2,w3,w4⟩ | ⟨w1,w2,A,B,w3,w4,w5,w6,w7,w8⟩ | ⟨w1,w2,w3,w4,w5,w6⟩
   . exact .inl (eM w1 w2 (by simp [w3,Xh.symm]) (by rw [w4,List.append_assoc]))
   . refine .inr (.inl (jX w1 w2 A (B++[e.c]) (by rw [w3];simp) w4 (by simp [w5,Xh.symm]) (by rw [w6];simp) w7 (λc hc=>?_)));rcases List.mem_append.mp hc with m | m
     . exact w8 c m
     . simp only [List.mem_singleton.mp m];obtain this:=Zd w1;exact Mx h3 this
   . refine .inr (.inr (jh w1 w2 w3 (by simp [w4,Xh.symm]) (by rw [w5,List.append_assoc]) (λc hc=>?_)));rcases List.mem_append.mp hc with m | m
     . exact w6 c m
     . simp only [List.mem_singleton.mp m];obtain this:=Zd w1;exact Mx h3 this
 . simp only [qB (hk q1),hK,hb,h2];simpa using h.Gf q1
theorem tS.Qz (h:tS ev l (c::q) nt cl hg hr kg kr)(hk:hr=true->kr<=ev.length)(hc:c≠32)(h1:e.l=l)(h2:e.out=false)(h3:e.c=c):tS (ev++[e]) l q (if hr&&!cl then nt++[c] else nt) cl hg hr kg kr:=by
 obtain hb:(e.l==l)=true:=by simpa using h1
 obtain e1:fe (ev++[e]) l=fe ev l:=by rw [qy,hb];refine (af h2)▸?_;simp
 obtain e2:taken (ev++[e]) l=taken ev l++[c]:=by simp only [hK,hb,h2,h3];simp
 refine ⟨?_,λq1 q2=>by refine (af (qA (hk q1)))▸?_;exact h.early q1 q2,λq1=>?_,λq1=>?_⟩
 . refine (af e1)▸(af e2)▸?_;rcases h.way with ⟨w1,w2,w3,w4⟩ | ⟨w1,w2,A,B,w3,w4,w5,w6,w7,w8⟩ | ⟨w1,w2,w3,w4,w5,w6⟩
   . exact .inl (eM w1 w2 (λm=>w3 (.tail _ m)) (by rw [w4];simp))
   . cases A with
     | nil=>exact absurd (List.cons.inj w3).1 hc
     | cons a A =>refine e0a1 (List.cons.inj w3) λp1 p2=>?_;subst p1;exact .inr (.inl (jX w1 w2 A B p2 (λm=>w4 (.tail _ m)) w5 (by rw [w6];simp) (λx hx=>w7 x (by simpa using hx)) w8))
   . exact .inr (.inr (jh w1 w2 w3 (λm=>w4 (.tail _ m)) (by rw [w5];simp) (λx hx=>w6 x (.tail _ hx))))
 . refine (af q1)▸?_;exact h.Ge q1
 . rw [qB (hk q1),hK,hb,h2,h3,List.filter_append,<-h.Gf q1];refine (af q1)▸?_;rcases h.way with ⟨w1,w2,w3,w4⟩ | ⟨w1,w2,A,B,w3,w4,w5,w6,w7,w8⟩ | ⟨w1,w2,w3,w4,w5,w6⟩
   . refine (af w1)▸(af w2)▸?_;simp
   . cases A with
     | nil=>exact absurd (List.cons.inj w3).1 hc
     | cons a A =>refine e0a1 (List.cons.inj w3) λp1 p2=>?_;subst p1;obtain this:=w7 c (by simp);rw [w1,w2];simp [this]
   . have:=w6 c (.head _);obtain hn:¬c < 97+kg:=N1 this;rw [w1,w3];simp [hn]
theorem tS.EO (h:tS ev l (32::q) nt cl hg true kg kr):cl=false/\tS ev l q nt true hg true kg kr:=by
 rcases h.way with ⟨w1,w2,w3,w4⟩ | ⟨w1,w2,A,B,w3,w4,w5,w6,w7,w8⟩ | ⟨w1,w2,w3,w4,w5,w6⟩
 . exact absurd (.head _) w3
 . cases A with
   | cons a A=>refine e0a1 (List.cons.inj w3) λp1 p2=>?_;subst p1;exact absurd (.head _) w4
   | nil =>refine e0a1 (List.cons.inj w3) λzz p2=>?_;subst p2;exact ⟨w2,.inr (.inr (jh w1 rfl rfl w5 (by rw [w6];simp) w8)),h.early,h.Ge,h.Gf⟩
 . exact absurd (.head _) w4
end
theorem cU.QA {t:Net}(h:cU t){g r:Nat}(hg:g < 3)(hr:r < 3)(co:g≠r)(b:Bool):cU ((t.send (3*g+r) (97+t.ev.length,b)).log ⟨g,3*g+r,97+t.ev.length,true⟩):=by
 generalize he:(⟨g,3*g+r,97+t.ev.length,true⟩:dk)=e;have e1:e.l=3*g+r:=by rw [<-he]
 have e2:e.out=true:=by rw [<-he]
 obtain e3:e.c=97+t.ev.length:=by rw [<-he]
 refine ⟨λk e' hk ho=>?_,λk e' hk ho=>?_,h.kn,λx hx=>?_,h.cn,h.cb,λi hi=>⟨?_,(h.off i hi).2⟩,λg' r' Dm tY CJ=>?_⟩
 . rcases pA hk with q | ⟨q1,q2⟩
   . exact h.out k e' q ho
   . exact (dA g r hg hr co (by rw [q2,q1,<-he];rfl))
 . rcases pA hk with q | ⟨q1,q2⟩
   . refine e2a0 (h.C6 k e' q ho) λa b o8=>?_;obtain ⟨p1,p2,p3,p4,p5,p6,p7,e',p8,p9⟩:=o8;exact (lF a b p1 p2 p3 p4 p5 p6 p7 e' (qz p8) p9)
   . rw [q2,e2] at ho;cases ho
 . obtain this:=h.kb x hx;exact ⟨this.1,by show x.2<=(t.ev++[e]).length;rw [List.length_append];exact Nat.le_add_right_of_le this.2⟩
 . show upd t.q (3*g+r) _ i=[]
   delta upd;rw [if_neg (hi g r hg hr co)];exact (h.off i hi).1
 . obtain L:=h.ln g' r' Dm tY CJ;show tS (t.ev++[e]) (3*g'+r') ((upd t.q (3*g+r) (t.q (3*g+r)++[(97+t.ev.length,b)]) (3*g'+r')).map (·.1)) (t.aB (3*g'+r')) (t.closed.contains (3*g'+r')) (t.has g') (t.has r') (fx t.kept g') (fx t.kept r');by_cases q:g'=g/\r'=r
   . refine e0a1 q λo6 o7=>?_;clear q;obtain rfl:=o6;obtain rfl:=o7;obtain eu:(upd t.q (3*g'+r') (t.q (3*g'+r')++[(97+t.ev.length,b)]) (3*g'+r')).map (·.1)=(t.q (3*g'+r')).map (·.1)++[e.c]:=by delta upd;rw [if_pos rfl,e3,List.map_append];rfl
     refine (af eu)▸?_;exact L.Qy (λq=>h.kle q) (λq=>h.kle q) e1 e2 e3
   . obtain hl:3*g'+r'≠3*g+r:=λw=>q (gA tY hr w);obtain eu:upd t.q (3*g+r) (t.q (3*g+r)++[(97+t.ev.length,b)]) (3*g'+r')=t.q (3*g'+r'):=by delta upd;rw [if_neg hl]
     refine (af eu)▸?_;exact L.other (λq=>h.kle q) (by rw [e1];exact λw=>hl w.symm)
theorem cU.CK {t:Net}(h:cU t){g r:Nat}(hg:g < 3)(hr:r < 3)(co:g≠r){b:Bool}{rest:List (Nat×Bool)}(hq:t.q (3*g+r)=(32,b)::rest)(hh:t.has r=true):cU ((t.read (3*g+r) rest).close (3*g+r)):=by
 obtain L0:=h.ln g r hg hr co;rw [hq,hh] at L0;refine e0a1 L0.EO λc1 L1=>?_;refine ⟨h.out,h.C6,h.kn,h.kb,?_,λl hl=>?_,λi hi=>⟨?_,(h.off i hi).2⟩,λg' r' Dm tY CJ=>?_⟩
 . show (t.closed++[3*g+r]).Nodup;rw [List.nodup_append];refine (aH h.cn (by simp) (λa ha b hb e=>?_));have:a=3*g+r:=e.trans (List.mem_singleton.mp hb);rw [List.contains_eq_mem,<-this,decide_eq_true ha] at c1;cases c1
 . rcases List.mem_append.mp (show l∈t.closed++[3*g+r] from hl) with q | q
   . exact h.cb l q
   . exact (dA g r hg hr co (List.mem_singleton.mp q))
 . show upd t.q (3*g+r) _ i=[]
   delta upd;rw [if_neg (hi g r hg hr co)];exact (h.off i hi).1
 . show tS t.ev (3*g'+r') ((upd t.q (3*g+r) rest (3*g'+r')).map (·.1)) (t.aB (3*g'+r')) ((t.closed++[3*g+r]).contains (3*g'+r')) (t.has g') (t.has r') (fx t.kept g') (fx t.kept r');by_cases q:g'=g/\r'=r
   . refine e0a1 q λo4 o5=>?_;clear q;obtain rfl:=o4;obtain rfl:=o5;obtain eu:upd t.q (3*g'+r') rest (3*g'+r')=rest:=by delta upd;rw [if_pos rfl]
     obtain ec:(t.closed++[3*g'+r']).contains (3*g'+r')=true:=by simp
     refine (af eu)▸(af ec)▸(af hh)▸?_;exact L1
   . obtain hl:3*g'+r'≠3*g+r:=λw=>q (gA tY hr w);obtain eu:upd t.q (3*g+r) rest (3*g'+r')=t.q (3*g'+r'):=by delta upd;rw [if_neg hl]
     obtain ec:(t.closed++[3*g+r]).contains (3*g'+r')=t.closed.contains (3*g'+r'):=by
      skip;simp [hl]
     refine (af eu)▸(af ec)▸?_;exact h.ln g' r' Dm tY CJ
set_option tactic.hygienic true in
theorem cU.QB {t:Net}(h:cU t){g r:Nat}(hg:g < 3)(hr:r < 3)(co:g≠r){c:Nat}{b:Bool}{rest:List (Nat×Bool)}(hq:t.q (3*g+r)=(c,b)::rest)(hc:c≠32) :
 cU ((if (t.read (3*g+r) rest).has r&&!(t.read (3*g+r) rest).closed.contains (3*g+r) then (t.read (3*g+r) rest).note (3*g+r) c else t.read (3*g+r) rest).log ⟨r,3*g+r,c,false⟩):=by
 generalize he:(⟨r,3*g+r,c,false⟩:dk)=e;have e1:e.l=3*g+r:=by rw [<-he]
 have e2:e.out=false:=by rw [<-he]
 have e3:e.c=c:=by rw [<-he]
 have L0:=h.ln g r hg hr co;rw [hq] at L0;have hs:c∈fe t.ev (3*g+r):=(L0.CG c (.head _)).resolve_left hc;have wE:∀l',((if (t.read (3*g+r) rest).has r&&!(t.read (3*g+r) rest).closed.contains (3*g+r) then (t.read (3*g+r) rest).note (3*g+r) c else t.read (3*g+r) rest).log e).aB l'=if l'=3*g+r then (if t.has r&&!t.closed.contains (3*g+r) then t.aB (3*g+r)++[c] else t.aB (3*g+r)) else t.aB l':=λl'=>by
  show Net.aB (if t.has r&&!t.closed.contains (3*g+r) then _ else _) l'=_
  split
  . show upd t.aB (3*g+r) (t.aB (3*g+r)++[c]) l'=_;unfold upd;rfl
  . show t.aB l'=_
    split
    . rename_i q;rw [q]
    . rfl
 have oO:((if (t.read (3*g+r) rest).has r&&!(t.read (3*g+r) rest).closed.contains (3*g+r) then (t.read (3*g+r) rest).note (3*g+r) c else t.read (3*g+r) rest).log e).ev=t.ev++[e]:=by split <;> rfl
 have C7:((if (t.read (3*g+r) rest).has r&&!(t.read (3*g+r) rest).closed.contains (3*g+r) then (t.read (3*g+r) rest).note (3*g+r) c else t.read (3*g+r) rest).log e).kept=t.kept:=by split <;> rfl
 have dL:((if (t.read (3*g+r) rest).has r&&!(t.read (3*g+r) rest).closed.contains (3*g+r) then (t.read (3*g+r) rest).note (3*g+r) c else t.read (3*g+r) rest).log e).closed=t.closed:=by split <;> rfl
 have IG:((if (t.read (3*g+r) rest).has r&&!(t.read (3*g+r) rest).closed.contains (3*g+r) then (t.read (3*g+r) rest).note (3*g+r) c else t.read (3*g+r) rest).log e).q=upd t.q (3*g+r) rest:=by split <;> rfl
 generalize (if (t.read (3*g+r) rest).has r&&!(t.read (3*g+r) rest).closed.contains (3*g+r) then (t.read (3*g+r) rest).note (3*g+r) c else t.read (3*g+r) rest).log e=t' at wE oO C7 dL IG;have Ze:∀x,t'.has x=t.has x:=λx=>by unfold Net.has;rw [C7]
 refine ⟨λk e' hk ho=>?_,λk e' hk ho=>?_,by rw [C7];exact h.kn,λx hx=>?_,by rw [dL];exact h.cn,by rw [dL];exact h.cb,λi hi=>⟨?_,?_⟩,λg' r' Dm tY CJ=>?_⟩
 . rw [oO] at hk;rcases pA hk with q | ⟨q1,q2⟩
   . exact h.out k e' q ho
   . rw [q2,e2] at ho;cases ho
 . rw [oO] at hk;rw [oO];rcases pA hk with q | ⟨q1,q2⟩
   . refine e2a0 (h.C6 k e' q ho) λa b o3=>?_;obtain ⟨p1,p2,p3,p4,p5,p6,p7,e',p8,p9⟩:=o3;exact (lF a b p1 p2 p3 p4 p5 p6 p7 e' (qz p8) p9)
   . refine e2a4 (h.yg hs) λj ej h1 h2 h3 h4 h5=>?_;refine (pE g r hg hr co (by rw [q2,<-he]) (by rw [q2,e1]) (by rw [q2,e3];exact OG h4) (by rw [q2,e3];exact Pu h5 h4 q1) ej ?_ h2 h3);rw [q2,e3,show c - 97=j by exact OH h4];exact qz h1
 . rw [C7] at hx;have:=h.kb x hx;exact ⟨this.1,by rw [oO,List.length_append];exact Nat.le_add_right_of_le this.2⟩
 . rw [IG];unfold upd;rw [if_neg (hi g r hg hr co)];exact (h.off i hi).1
 . rw [wE,if_neg (hi g r hg hr co)];exact (h.off i hi).2
 . simp only [oO,IG,wE,dL,Ze,Ze,C7];by_cases q:g'=g/\r'=r
   . refine e0a1 q λo1 o2=>?_;clear q;obtain rfl:=o1;obtain rfl:=o2;have eu:upd t.q (3*g'+r') rest (3*g'+r')=rest:=by delta upd;rw [if_pos rfl]
     refine (af eu)▸(af (if_pos rfl))▸?_;exact L0.Qz (λq=>h.kle q) hc e1 e2 e3
   . have hl:3*g'+r'≠3*g+r:=λw=>q (gA tY hr w);have eu:upd t.q (3*g+r) rest (3*g'+r')=t.q (3*g'+r'):=by delta upd;rw [if_neg hl]
     refine (af eu)▸(af (if_neg hl))▸?_;exact (h.ln g' r' Dm tY CJ).other (λq=>h.kle q) (by rw [e1];exact λw=>hl w.symm)
noncomputable def jA (f:List (Nat×Bool)->Nat)(q:Nat->List (Nat×Bool)):Nat:=f (q 1)+f (q 2)+f (q 3)+f (q 5)+f (q 6)+f (q 7)
noncomputable def lets (q:List (Nat×Bool)):Nat:=(q.filter λx=>x.1 != 32).length
noncomputable def EP (t:Net):Nat:=jA List.length t.q+2*(3 - t.kept.length)
noncomputable def vw (t:Net):Nat:=t.ev.length+jA lets t.q
theorem oh {P:Nat->Nat->Prop}(h1:P 0 1)(h2:P 0 2)(h3:P 1 0)(h4:P 1 2)(h5:P 2 0)(h6:P 2 1):∀g r,g < 3->r < 3->g≠r->P g r
 | 0,0,_,_,h=>absurd rfl h
 | 0,1,_,_,_=>h1
 | 0,2,_,_,_=>h2
 | 1,0,_,_,_=>h3
 | 1,1,_,_,h=>absurd rfl h
 | 1,2,_,_,_=>h4
 | 2,0,_,_,_=>h5
 | 2,1,_,_,_=>h6
 | 2,2,_,_,h=>absurd rfl h
 | a+3,_,h,_,_=>absurd h (Ma)
 | _,b+3,_,h,_=>absurd h (Ma)
theorem nz (f:List (Nat×Bool)->Nat)(q:Nat->List (Nat×Bool))(v:List (Nat×Bool)):∀g r,g < 3->r < 3->g≠r->jA f (upd q (3*g+r) v)+f (q (3*g+r))=jA f q+f v:=by
 refine oh ?_ ?_ ?_ ?_ ?_ ?_ <;> (skip;simp;(first | exact PM | exact PL | exact PK | exact PJ | exact PH | exact PG))
theorem qC (q r:List (Nat×Bool)):lets (q++r)=lets q+lets r:=by delta lets;rw [List.filter_append,List.length_append]
theorem qD (t:Net)(f:List (Nat×Bool)->Nat)(d:Nat)(hf:∀q b,f (q++[(32,b)])=f q+d){p:Nat}(hp:p < 3):jA f (mark t p).q=jA f t.q+2*d:=by
 have m5:=(ny t hp).2.2.2.2;obtain q1:=m5 0 1 (Fy) (Fz);obtain q2:=m5 0 2 (Fy) (FA);obtain q3:=m5 1 0 (Fz) (Fy);obtain q4:=m5 1 2 (Fz) (FA);obtain q5:=m5 2 0 (FA) (Fy);obtain q6:=m5 2 1 (FA) (Fz)
 skip
 delta jA;refine (af q1)▸(af q2)▸(af q3)▸(af q4)▸(af q5)▸(af q6)▸?_;rcases (LF hp:p=0\/p=1\/p=2) with rfl | rfl | rfl <;> (simp [hf];(first | exact PD | exact PE | exact PF))
theorem zm (t:Net)(rest:List (Nat×Bool)):∀g r,g < 3->r < 3->g≠r->mark (t.read (3*g+r) rest) r=(mark t r).read (3*g+r) rest:=by
 obtain key:∀(a b l:Nat) (x:Nat×Bool),a≠l->b≠l->a≠b->upd (upd (upd t.q l rest) a (upd t.q l rest a++[x])) b (upd (upd t.q l rest) a (upd t.q l rest a++[x]) b++[x])=upd (upd (upd t.q a (t.q a++[x])) b (upd t.q a (t.q a++[x]) b++[x])) l rest:=by
  intro a b l x h1 h2 h3;funext i;delta upd;by_cases i1:i=l
  . subst i1;simp [h1.symm,h2.symm]
  . by_cases i2:i=a
    . subst i2;simp [h1,h3]
    . by_cases i3:i=b
      . subst i3;simp [h2,h3.symm,i2]
      . simp [i1,i2,i3]
 obtain mk:∀(s s':Net),s.ev=s'.ev->s.kept=s'.kept->s.aB=s'.aB->s.closed=s'.closed->s.q=s'.q->s=s':=by rintro ⟨⟩ ⟨⟩ rfl rfl rfl rfl rfl;rfl
 refine oh ?_ ?_ ?_ ?_ ?_ ?_
 . exact mk _ _ rfl rfl rfl rfl (key 3 5 1 _ (by decide) (by decide) (by decide))
 . exact mk _ _ rfl rfl rfl rfl (key 6 7 2 _ (by decide) (by decide) (by decide))
 . exact mk _ _ rfl rfl rfl rfl (key 1 2 3 _ (by decide) (by decide) (by decide))
 . exact mk _ _ rfl rfl rfl rfl (key 6 7 5 _ (by decide) (by decide) (by decide))
 . exact mk _ _ rfl rfl rfl rfl (key 1 2 6 _ (by decide) (by decide) (by decide))
 . exact mk _ _ rfl rfl rfl rfl (key 3 5 7 _ (by decide) (by decide) (by decide))
theorem cU.CL {t:Net}(h:cU t):t.kept.length<=3:=by
 obtain this:=h.kn.length_le_of_subset (l₂:=[0,1,2]) λx hx=>by refine e1a1 (List.mem_map.mp hx) λy hy o2=>?_;obtain rfl:=o2;obtain this:=(h.kb y hy).1;simp;exact LF this
 simpa using this
theorem cU.yh {t:Net}(h:cU t):t.closed.length<=6:=by
 obtain this:=h.cn.length_le_of_subset (l₂:=[1,2,3,5,6,7]) λx hx=>by refine e2a3 (h.cb x hx) λg r h1 h2 h3 o1=>?_;obtain rfl:=o1;simp;exact Od h1 h3 h2
 exact this
theorem qE (c:Nat):fP c≠"":=λh=>by obtain h1:(fP c).cps.size=3:=rfl;replace h1:=h▸h1;obtain this:("":Str).cps.size=0:=rfl;exact Nr this h1
structure Zf (t t':Net)(w:Str)(l:Nat):Prop where
 inv:cU t'
 ev:vw t'=vw t
 has:∀x,t.has x=true->t'.has x=true
 none:t.kept=[]->t'.kept=[]
 alt:(w=""/\t'=t/\t.q l=[])\/(w≠""/\EP t' < EP t)
set_option tactic.hygienic true in
theorem r6 {t:Net}(h:cU t){g r:Nat}(hg:g < 3)(hr:r < 3)(co:g≠r):Zf t (take t g r).1 (take t g r).2 (3*g+r):=by
 unfold take;cases hq:t.q (3*g+r) with
 | nil =>
   have e:t.read (3*g+r) []=t:=by
    obtain ⟨a,b,c,d,q⟩:=t;show Net.mk a b c d _=_;congr 1;funext i;unfold upd
    split
    . rename_i w;rw [w];exact hq.symm
    . rfl
   show Zf t (t.read (3*g+r) []) "" _;rw [e];exact ⟨h,rfl,λ_ q=>q,λq=>q,.inl ⟨rfl,rfl,hq⟩⟩
 | cons x rest =>
   obtain ⟨c,b⟩:=x;have W:=nz List.length t.q rest g r hg hr co;have Lt:=nz lets t.q rest g r hg hr co;rw [hq] at W Lt;rw [List.length_cons] at W;simp only;by_cases hc:c=32
   . subst hc;rw [if_pos rfl];have l1:lets ((32,b)::rest)=lets rest:=rfl;rw [l1] at Lt;cases hh:t.has r with
     | true =>
       have e:(if (t.read (3*g+r) rest).has r=true then t.read (3*g+r) rest else mark (t.read (3*g+r) rest) r)=t.read (3*g+r) rest:=if_pos hh;rw [e];refine ⟨h.CK hg hr co hq hh,?_,λ_ q=>q,λq=>q,.inr ⟨qE 32,?_⟩⟩
       . show t.ev.length+jA lets (upd t.q (3*g+r) rest)=t.ev.length+jA lets t.q;exact Pr Lt
       . show jA List.length (upd t.q (3*g+r) rest)+2*(3 - t.kept.length) < jA List.length t.q+2*(3 - t.kept.length);exact My W
     | false =>
       have e:(if (t.read (3*g+r) rest).has r=true then t.read (3*g+r) rest else mark (t.read (3*g+r) rest) r)=mark (t.read (3*g+r) rest) r:=if_neg (by rw [show (t.read (3*g+r) rest).has r=t.has r from rfl,hh];simp);rw [e,zm t rest g r hg hr co];have hm:=h.mark hr hh;refine e0a4 (ny t hr) λm1 m2 m3 m4 m5=>?_;have CX:(mark t r).q (3*g+r)=(32,b)::rest:=by rw [m5 g r hg hr,if_neg (λq=>co q.1)];exact hq
       have W':=nz List.length (mark t r).q rest g r hg hr co;have Zg:=nz lets (mark t r).q rest g r hg hr co;rw [CX,qD t List.length 1 (λq b=>by rw [List.length_append];rfl) hr,List.length_cons] at W';rw [CX,qD t lets 0 (λq b=>by rw [qC];rfl) hr,l1] at Zg;have k3:=hm.CL;rw [m2,List.length_append,List.length_singleton] at k3;refine ⟨hm.CK hg hr co CX (by rw [kO t hr];simp),?_,λx q=>?_,λq=>?_,.inr ⟨qE 32,?_⟩⟩
       . show (mark t r).ev.length+jA lets (upd (mark t r).q (3*g+r) rest)=t.ev.length+jA lets t.q;rw [m1];exact Pq Zg
       . show (mark t r).has x=true;rw [kO t hr,q];rfl
       . -- no mark where no Rs is begun
         exfalso;have L:=h.ln g r hg hr co;have hg0:t.has g=false:=by unfold Net.has;rw [q];rfl
         rw [hq,hg0] at L;rcases L.way with ⟨_,_,w,_⟩ | ⟨w,_⟩ | ⟨w,_⟩
         . exact w (.head _)
         . exact qK w
         . exact qK w
       . show jA List.length (upd (mark t r).q (3*g+r) rest)+2*(3 - (mark t r).kept.length) < jA List.length t.q+2*(3 - t.kept.length);simp only [m2,List.length_append,List.length_singleton];exact Po W' k3
   . rw [if_neg hc];have l1:lets ((c,b)::rest)=lets rest+1:=by
      have:(c != 32)=true:=by simpa using hc
      delta lets;rw [List.filter_cons];simp [this]
     replace Lt:=l1▸Lt;have hi:=h.QB hg hr co hq hc;have oO:((if (t.read (3*g+r) rest).has r&&!(t.read (3*g+r) rest).closed.contains (3*g+r) then (t.read (3*g+r) rest).note (3*g+r) c else t.read (3*g+r) rest).log ⟨r,3*g+r,c,false⟩).ev=t.ev++[⟨r,3*g+r,c,false⟩]:=by split <;> rfl
     have C7:((if (t.read (3*g+r) rest).has r&&!(t.read (3*g+r) rest).closed.contains (3*g+r) then (t.read (3*g+r) rest).note (3*g+r) c else t.read (3*g+r) rest).log ⟨r,3*g+r,c,false⟩).kept=t.kept:=by split <;> rfl
     have IG:((if (t.read (3*g+r) rest).has r&&!(t.read (3*g+r) rest).closed.contains (3*g+r) then (t.read (3*g+r) rest).note (3*g+r) c else t.read (3*g+r) rest).log ⟨r,3*g+r,c,false⟩).q=upd t.q (3*g+r) rest:=by split <;> rfl
     generalize (if (t.read (3*g+r) rest).has r&&!(t.read (3*g+r) rest).closed.contains (3*g+r) then (t.read (3*g+r) rest).note (3*g+r) c else t.read (3*g+r) rest).log ⟨r,3*g+r,c,false⟩=t' at hi oO C7 IG;refine ⟨hi,?_,λx q=>?_,λq=>by refine (af C7)▸?_;exact q,.inr ⟨qE c,?_⟩⟩
     . delta vw;rw [oO,IG,List.length_append,List.length_singleton];exact Pp Lt
     . delta Net.has at *;rw [C7];exact q
     . delta EP;rw [IG,C7];exact My W
theorem cU.ER {t:Net}(h:cU t)(hm:t.ev.length<=18):wL t:=by
 have on:∀i,(∃g r,g < 3/\r < 3/\g≠r/\i=3*g+r)\/(t.q i=[]/\t.aB i=[]):=λi=>by
  by_cases q:∃g r,g < 3/\r < 3/\g≠r/\i=3*g+r
  . exact .inl q
  . exact .inr (h.off i λg r h1 h2 h3 e=>q (dA g r h1 h2 h3 e))
 have sl:∀l,(fe t.ev l).length<=t.ev.length:=λl=>by delta fe;rw [List.length_map];exact List.length_filter_le ..
 obtain tl:∀(ev:List dk) l,(taken ev l).length<=ev.length:=λev l=>by delta taken;rw [List.length_map];exact List.length_filter_le ..
 refine ⟨⟨Nz hm,by obtain this:=h.CL;exact ND this,by obtain this:=h.yh;exact NM this,λi=>?_,λi=>?_⟩,λi y hy=>?_⟩
 . rcases on i with ⟨g,r,h1,h2,h3,rfl⟩ | q
   . obtain L:=h.ln g r h1 h2 h3;cases hr:t.has r with
     | false=>rw [L.Ge hr];simp
     | true =>rw [L.Gf hr];obtain a:=List.length_filter_le (λc=>!t.has g||decide (c < 97+fx t.kept g)) (taken (t.ev.drop (fx t.kept r)) (3*g+r));obtain b:=tl (t.ev.drop (fx t.kept r)) (3*g+r);rw [List.length_drop] at b;exact Pz hm b a
   . rw [q.2];simp
 . rcases on i with ⟨g,r,h1,h2,h3,rfl⟩ | q
   . obtain L:=h.ln g r h1 h2 h3;obtain s:=sl (3*g+r);obtain e:((t.q (3*g+r)).map (·.1)).length=(t.q (3*g+r)).length:=List.length_map ..;rcases L.way with ⟨_,_,_,w⟩ | ⟨_,_,A,B,w1,_,_,w,_⟩ | ⟨_,_,_,_,w,_⟩
     . rw [w,List.length_append] at s;exact Mz s e hm
     . rw [w,List.length_append,List.length_append] at s;rw [w1,List.length_append,List.length_cons] at e;exact PB e s hm
     . rw [w,List.length_append] at s;exact Mz s e hm
   . refine (af q.1)▸?_;simp
 . rcases on i with ⟨g,r,h1,h2,h3,rfl⟩ | q
   . obtain L:=h.ln g r h1 h2 h3;rcases L.CG y.1 (List.mem_map.mpr (ae y hy rfl)) with w | w
     . refine (af w)▸?_;decide
     . obtain this:=(h.lt w).1;constructor <;> (first | exact MX this | exact MY this)
   . replace hy:=q.1▸hy;cases hy
theorem pairs_at {i:Nat}(h:i < 6):∃g r,cF[i]?=some (g,r)/\g < 3/\r < 3/\g≠r:=by
 rcases (Nc h:i=0\/i=1\/i=2\/i=3\/i=4\/i=5) with rfl | rfl | rfl | rfl | rfl | rfl
 . exact ⟨0,1,rfl,Nat.le_of_ble_eq_true rfl,Nat.le_of_ble_eq_true rfl,nofun⟩
 . exact ⟨0,2,rfl,Nat.le_of_ble_eq_true rfl,Nat.le_of_ble_eq_true rfl,nofun⟩
 . exact ⟨1,0,rfl,Nat.le_of_ble_eq_true rfl,Nat.le_of_ble_eq_true rfl,nofun⟩
 . exact ⟨1,2,rfl,Nat.le_of_ble_eq_true rfl,Nat.le_of_ble_eq_true rfl,nofun⟩
 . exact ⟨2,0,rfl,Nat.le_of_ble_eq_true rfl,Nat.le_of_ble_eq_true rfl,nofun⟩
 . exact ⟨2,1,rfl,Nat.le_of_ble_eq_true rfl,Nat.le_of_ble_eq_true rfl,nofun⟩
structure Xi (t t':Net)(ws:a8)(i:Nat):Prop where
 inv:cU t'
 ev:vw t'=vw t
 has:∀x,t.has x=true->t'.has x=true
 len:ws.length=i
 alt:((∀w∈ws,w="")/\t'=t/\∀j,j < i->∀p,cF[j]?=some p->t.q (3*p.1+p.2)=[])\/((∃w∈ws,w≠"")/\EP t' < EP t)
theorem qF {t:Net}(h:cU t):∀i,i<=6->Xi t (tkAt t i).1 (tkAt t i).2 i:=by
 intro i;induction i with
 | zero=>intro _;exact ⟨h,rfl,λzz q=>q,rfl,.inl (aH (λw hw=>(nomatch hw)) rfl (λj hj=>(IZ hj).elim))⟩
 | succ i ih =>
   intro hi;obtain A:=ih (LU hi);refine e2a3 (pairs_at (i:=i) (LS hi)) λg r hp hg hr co=>?_;obtain e:tkAt t (i+1)=((take (tkAt t i).1 g r).1,(tkAt t i).2++[(take (tkAt t i).1 g r).2]):=by show (match cF[i]? with | some p=>_ | none=>_)=_;rw [hp]
   have T:=r6 A.inv hg hr co;simp only [e];refine ⟨T.inv,T.ev.trans A.ev,λx q=>T.has x (A.has x q),by simp [A.len],?_⟩;rcases A.alt with ⟨a1,a2,a3⟩ | ⟨⟨w,a1,a2⟩,a3⟩
   . rcases T.alt with ⟨b1,b2,b3⟩ | ⟨b1,b2⟩
     . refine .inl (aH (λw hw=>?_) (b2.trans a2) (λj hj p I8=>?_))
       . rcases List.mem_append.mp hw with q | q
         . exact a1 w q
         . rw [List.mem_singleton.mp q];exact b1
       . by_cases q:j=i
         . cases q;rw [hp] at I8;obtain rfl:=Option.some.inj I8;rw [a2] at b3;exact b3
         . exact a3 j (I1 hj q) p I8
     . exact .inr ⟨(ae _ (List.mem_append_right _ (.head _)) b1),by rw [a2] at b2;rw [a2];exact b2⟩
   . refine .inr ⟨(ae w (List.mem_append_left _ a1) a2),?_⟩;rcases T.alt with ⟨_,b2,_⟩ | ⟨_,b2⟩
     . skip
       refine (af b2)▸?_;exact a3
     . exact Nat.lt_trans b2 a3
theorem Xi.six {t t':Net}{ws:a8}(A:Xi t t' ws 6):(ws=Mine.Internal.six/\t'=t/\∀g r,g < 3->r < 3->g≠r->t.q (3*g+r)=[])\/(ws≠Mine.Internal.six/\EP t' < EP t):=by
 rcases A.alt with ⟨a1,a2,a3⟩ | ⟨⟨w,a1,a2⟩,a3⟩
 . refine .inl (aH (List.eq_replicate_iff.mpr ⟨A.len,a1⟩) a2 (oh ?_ ?_ ?_ ?_ ?_ ?_))
   . exact a3 0 (Nat.le_of_ble_eq_true rfl) (0,1) rfl
   . exact a3 1 (Nat.le_of_ble_eq_true rfl) (0,2) rfl
   . exact a3 2 (Nat.le_of_ble_eq_true rfl) (1,0) rfl
   . exact a3 3 (Nat.le_of_ble_eq_true rfl) (1,2) rfl
   . exact a3 4 (Nat.le_of_ble_eq_true rfl) (2,0) rfl
   . exact a3 5 (Nat.le_of_ble_eq_true rfl) (2,1) rfl
 . exact .inr ⟨λe=>a2 (List.eq_of_mem_replicate (e▸a1)),a3⟩
theorem nA (t:Net):∀j,rounds t (j+1)=rounds (tkAt t 6).1 j:=by
 intro j;induction j with
 | zero=>rfl
 | succ j ih=>show (tkAt (rounds t (j+1)) 6).1=(tkAt (rounds (tkAt t 6).1 j) 6).1;rw [ih]
theorem qG {t:Net}(h:cU t):∀j,cU (rounds t j)/\vw (rounds t j)=vw t/\∀x,t.has x=true->(rounds t j).has x=true:=by
 intro j;induction j with
 | zero=>exact (aH h rfl (λzz q=>q))
 | succ j ih =>obtain A:=qF ih.1 6 (aZ _);exact (aH A.inv (A.ev.trans ih.2.1) (λx q=>A.has x (ih.2.2 x q)))
theorem xb:∀(f:Nat) {t:Net},cU t->EP t<=f->∃N,(∀j,j < N->(tkAt (rounds t j) 6).2≠six)/\(tkAt (rounds t N) 6).2=six:=by
 intro f;induction f with
 | zero =>
   intro t h hf;rcases (qF h 6 (aZ _)).six with ⟨a,_⟩ | ⟨_,a⟩
   . exact (ae 0 (λj hj=>(IZ hj).elim) a)
   . exact (OB a hf).elim
 | succ f ih =>
   intro t h hf;obtain A:=qF h 6 (aZ _);rcases A.six with ⟨a,_⟩ | ⟨a1,a⟩
   . exact (ae 0 (λj hj=>(IZ hj).elim) a)
   . refine e1a1 (ih A.inv (Pd a hf)) λN h1 h2=>?_;refine (ae (N+1) (λj hj=>?_) (by rw [nA];exact h2));cases j with
     | zero=>exact a1
     | succ j=>rw [nA];exact h1 j (N3 hj)
structure zo (t:Net)(st fi i:Nat):Prop where
 inv:cU t
 vw:vw t<=2*i
 none:i<=st->t.kept=[]
 has:st < i->t.has fi=true
theorem zo.mid {t:Net}{st fi i:Nat}(h:zo t st fi i)(hf:fi < 3):cU (jx t fi st i)/\Mine.Internal.vw (jx t fi st i)<=2*i/\(i < st->(jx t fi st i).kept=[])/\(st<=i->(jx t fi st i).has fi=true):=by
 delta jx;by_cases e:i=st
 . rw [if_pos e];obtain hk:=h.none (OJ e);obtain hn:t.has fi=false:=by delta Net.has;rw [hk];rfl
   refine (eM (h.inv.mark hf hn) ?_ (λq=>(HS q e).elim) (λzz=>by rw [kO t hf];simp));delta Mine.Internal.vw;refine (af ((ny t hf).1))▸(af (qD t lets 0 (λq b=>by rw [qC];rfl) hf))▸?_;exact h.vw
 . rw [if_neg e];exact (eM h.inv h.vw (λq=>h.none (HT q)) (λq=>h.has (O2 q e)))
theorem zo.step {t:Net}{st fi i d:Nat}(h:zo t st fi i)(hf:fi < 3)(hd:d < 12):zo (qw t st fi i d) st fi (i+1):=by
 refine e0a3 (h.mid hf) λm1 m2 m3 m4=>?_;obtain o1:rq d < 3:=Nat.mod_lt _ (by decide);have o2:tL d < 3:=Nat.mod_lt _ (by decide);obtain o3:rq d≠tL d:=by
  obtain this:∀d,d < 12->d % 3≠(d+1+d / 3 % 2) % 3:=by decide
  exact this d hd
 delta qw;by_cases e:d / 6=1
 . rw [if_pos e];obtain T:=r6 m1 o2 o1 o3.symm;exact ⟨T.inv,by rw [T.ev];exact OQ m2,λq=>T.none (m3 (Ec q)),λq=>T.has _ (m4 (Mn q))⟩
 . rw [if_neg e];refine ⟨m1.QA o1 o2 o3 _,?_,λq=>m3 (Ec q),λq=>m4 (Mn q)⟩;generalize jx t fi st i=t' at m1 m2;obtain Lt:=nz lets t'.q (t'.q (3*rq d+tL d)++[(97+t'.ev.length,odd t'.ev.length)]) _ _ o1 o2 o3;rw [qC] at Lt;obtain l1:lets [(97+t'.ev.length,odd t'.ev.length)]=1:=by
    obtain this:(97+t'.ev.length != 32)=true:=by simp;exact NR
    delta lets;rw [List.filter_cons];simp [this]
   rw [l1] at Lt;show (t'.ev++[_]).length+jA lets (upd t'.q _ _)<=_
   skip
   simp only [List.length_append,List.length_singleton];exact PC Lt m2
theorem ES {ds:aS}{st fi:Nat}(hl:ds.length=9)(hd:∀d∈ds,d < 12)(hf:fi < 3):∀i,i<=9->zo (runD ds st fi i) st fi i:=by
 intro i;induction i with
 | zero=>intro _;exact ⟨Xg,aZ 0,λzz=>rfl,λq=>(IZ q).elim⟩
 | succ i ih =>
   intro hi;obtain ⟨d,Zh⟩:∃d,ds[i]?=some d:=(bQ _ (List.getElem?_eq_getElem (N4 hi hl)))
   obtain e:runD ds st fi (i+1)=qw (runD ds st fi i) st fi i d:=by show (match ds[i]? with | some d=>_ | none=>_)=_;rw [Zh]
   refine (af e)▸?_;exact (ih (MZ hi)).step hf (hd d (List.mem_of_getElem? Zh))
structure gB (t:Net):Prop where
 inv:cU t
 ev:t.ev.length<=18
 empty:∀g r,g < 3->r < 3->g≠r->t.q (3*g+r)=[]
 first:∃x,x < 3/\t.has x=true
theorem tT {ds:aS}{st fi:Nat}(hl:ds.length=9)(hd:∀d∈ds,d < 12)(hs:st < 9)(hf:fi < 3):∃N,Iv ds st fi N/\gB (rounds (runD ds st fi 9) (N+1)):=by
 have R:=ES (st:=st) hl hd hf;obtain R9:=R 9 (aZ _);obtain Rt:∀{t:Net} {n:Nat},vw t<=n->t.ev.length<=n:=λ{t n} h=>by skip;exact Mv h
 refine e1a1 (xb (EP (runD ds st fi 9)) R9.inv (aZ _)) λN h1 h2=>?_;refine (ae N ⟨hl,hd,hf,λi hi=>(R i hi).inv.ER ?_,λi hi=>?_,?_,λj hj i hi=>?_,h1,h2⟩ ?_)
 . obtain this:=Rt (R i hi).vw;exact OR this hi
 . refine e0a3 ((R i (HP hi)).mid hf) λm1 m2 zz zz=>?_;obtain this:=Rt m2;exact ⟨m1.ER (Ou hi this),Ot hi this⟩
 . obtain this:=(R st (HP hs)).none (aZ _);delta Net.has;rw [this];rfl
 . refine e0a2 (qG R9.inv j) λr1 r2 zz=>?_;have A:=qF r1 i (Nf hi);obtain e:=R9.vw;rw [<-r2,<-A.ev] at e;exact A.inv.ER (Rt e)
 . refine e0a2 (qG R9.inv N) λr1 r2 r3=>?_;obtain A:=qF r1 6 (aZ _);obtain e:=R9.vw;rw [<-r2] at e;show gB (tkAt (rounds (runD ds st fi 9) N) 6).1;rcases A.six with ⟨_,a,b⟩ | ⟨a,_⟩
   . simp only [a];exact ⟨r1,Rt e,b,fi,hf,r3 fi (R9.has hs)⟩
   . exact absurd h2 a
noncomputable def zp:List Int->Bool
 | a::b::r=>decide (a < b)&&zp (b::r)
 | _=>true
theorem IH (a b:Int)(r:List Int):zp (a::b::r)=(decide (a < b)&&zp (b::r)):=rfl
theorem yi:∀l:List Int,zp l=true->l.Pairwise (· < ·):=by
 intro l;induction l with
 | nil=>intro _;exact .nil
 | cons a l ih =>
   intro h;cases l with
   | nil=>exact .cons (λzz h=>nomatch h) .nil
   | cons b r =>
     rw [IH,Bool.and_eq_true,decide_eq_true_iff] at h;obtain hr:=ih h.2;refine .cons (λx hx=>?_) hr;rcases List.mem_cons.mp hx with q | q
     . simp only [q];exact h.1
     . exact Int.lt_trans h.1 ((List.pairwise_cons.mp hr).1 x q)
theorem CM {l:List Int}(h:zp l=true):l.Pairwise (·<=·):=(yi l h).imp λq=>Int.le_of_lt q
theorem r7 {l:List Int}(h:zp l=true):l.Nodup:=(yi l h).imp λq=>Int.ne_of_lt q
theorem gB.EO {t:Net}(h:gB t){g r:Nat}(hg:g < 3)(hr:r < 3)(co:g≠r)(hh:t.has g=true):t.has r=true/\t.closed.contains (3*g+r)=true/\fe t.ev (3*g+r)=taken t.ev (3*g+r):=by
 obtain L:=h.inv.ln g r hg hr co;rw [h.empty g r hg hr co] at L;rcases L.way with ⟨w,_⟩ | ⟨_,_,A,B,w,_⟩ | ⟨_,w2,w3,_,w5,_⟩
 . exact Ru (aF (af hh) w)
 . cases A <;> cases w
 . exact (aH w2 w3 (by rw [w5];simp))
theorem gB.all {t:Net}(h:gB t){x:Nat}(hx:x < 3):t.has x=true:=by
 refine e1a1 h.first λy hy hh=>?_;by_cases e:x=y
 . refine (af e)▸?_;exact hh
 . exact (h.EO hy hx (λq=>e q.symm) hh).1
structure LnE (t:Net)(g r:Nat):Prop where
 closed:3*g+r∈t.closed
 same:fe t.ev (3*g+r)=taken t.ev (3*g+r)
 early:∀c∈taken (t.ev.take (fx t.kept r)) (3*g+r),c < 97+fx t.kept g
 aB:t.aB (3*g+r)=(taken (t.ev.drop (fx t.kept r)) (3*g+r)).filter λc=>decide (c < 97+fx t.kept g)
theorem gB.line {t:Net}(h:gB t){g r:Nat}(hg:g < 3)(hr:r < 3)(co:g≠r):LnE t g r:=by obtain L:=h.inv.ln g r hg hr co;obtain a1:=h.all hg;obtain a2:=h.all hr;refine e0a2 (h.EO hg hr co a1) λzz b1 b2=>?_;refine ⟨by simpa using b1,b2,L.early a2 a1,?_⟩;rw [L.Gf a2,a1];exact List.filter_congr λc zz=>rfl
theorem gB.keys {t:Net}(h:gB t):jc (t.kept.map λp=>(p.1:Int))=[0,1,2]:=by
 refine (kC ?_ (CM rfl)).symm;obtain hn:(t.kept.map λp=>(p.1:Int)).Nodup:=by obtain this:=jC h.inv.kn;rw [List.map_map] at this;exact this
 refine (List.perm_ext_iff_of_nodup (r7 rfl) hn).mpr λz=>?_;rw [List.mem_map];constructor
 . intro hz;obtain ⟨x,hx,rfl⟩:∃x:Nat,x < 3/\z=x:=by
    simp only [List.mem_cons,List.not_mem_nil,or_false] at hz;rcases hz with rfl | rfl | rfl
    . exact (ae 0 (Nat.le_of_ble_eq_true rfl) rfl)
    . exact (ae 1 (Nat.le_of_ble_eq_true rfl) rfl)
    . exact (ae 2 (Nat.le_of_ble_eq_true rfl) rfl)
   exact (ae _ (ye (h.all hx)) rfl)
 . rintro ⟨y,hy,rfl⟩;obtain this:=(h.inv.kb y hy).1;simp only [List.mem_cons,List.not_mem_nil,or_false];exact Nb this
theorem gB.fo {t:Net}(h:gB t):jc (t.closed.map λ(n:Nat)=>(n:Int))=[1,2,3,5,6,7]:=by
 refine (kC ?_ (CM rfl)).symm;refine (List.perm_ext_iff_of_nodup (r7 rfl) (jC h.inv.cn)).mpr λz=>?_;rw [List.mem_map];constructor
 . intro hz;obtain ⟨g,r,h1,h2,h3,rfl⟩:∃g r:Nat,g < 3/\r < 3/\g≠r/\z=((3*g+r:Nat):Int):=by
    simp only [List.mem_cons,List.not_mem_nil,or_false] at hz;rcases hz with rfl | rfl | rfl | rfl | rfl | rfl
    . exact (dA 0 1 (by decide) (by decide) (by decide) rfl)
    . exact (dA 0 2 (by decide) (by decide) (by decide) rfl)
    . exact (dA 1 0 (by decide) (by decide) (by decide) rfl)
    . exact (dA 1 2 (by decide) (by decide) (by decide) rfl)
    . exact (dA 2 0 (by decide) (by decide) (by decide) rfl)
    . exact (dA 2 1 (by decide) (by decide) (by decide) rfl)
   exact (ae _ ((h.line h1 h2 h3).closed) rfl)
 . rintro ⟨y,hy,rfl⟩;refine e2a3 (h.inv.cb y hy) λg r h1 h2 h3 o2=>?_;obtain rfl:=o2;simp only [List.mem_cons,List.not_mem_nil,or_false];exact Oc h1 h3 h2
theorem vy (ev:List dk)(l:Nat)(o:Bool)(f:Nat->α)(f':dk->α)(hf:∀k e,ev[k]?=some e->(e.l==l&&e.out==o)=true->f k=f' e):∀k,k<=ev.length->((List.range k).filter (isAt ev l o)).map f=((ev.take k).filter λe=>e.l==l&&e.out==o).map f':=by
 intro k;induction k with
 | zero=>intro _;rfl
 | succ k ih =>
   intro hk;obtain ⟨e,he⟩:∃e,ev[k]?=some e:=(bQ _ (List.getElem?_eq_getElem (Ec hk)))
   obtain nO:isAt ev l o k=(e.l==l&&e.out==o):=by delta isAt;rw [he]
   simp only [List.range_succ,List.filter_append,List.map_append,List.take_add_one,he,List.filter_append,List.map_append,ih (Mh hk)];congr 1;rw [Option.toList_some,List.filter_cons,List.filter_cons];refine (af nO)▸?_;cases hb:(e.l==l&&e.out==o) with
   | true=>simp [hf k e he hb]
   | false=>rfl
theorem yj (ev:List dk)(l:Nat):fe ev l=(ev.filter λe=>e.l==l&&e.out==true).map (·.c):=by
 delta fe;congr 1;exact List.filter_congr λe zz=>by cases e.out <;> simp
theorem CN (ev:List dk)(l:Nat):taken ev l=(ev.filter λe=>e.l==l&&e.out==false).map (·.c):=by
 delta taken;congr 1;exact List.filter_congr λe zz=>by cases e.out <;> simp
theorem jD (ev:List dk)(l:Nat)(o:Bool){k:Nat}(hk:k<=ev.length):wordsOf ev ((List.range k).filter (isAt ev l o))=(if o then fe (ev.take k) l else taken (ev.take k) l).map fP:=by
 simp only [show wordsOf ev ((List.range k).filter (isAt ev l o))=((List.range k).filter (isAt ev l o)).map (C4 ev) from rfl,vy ev l o (C4 ev) (λe=>fP e.c) (λk e he zz=>by unfold C4;rw [he]) k hk];cases o with
 | true=>rw [if_pos rfl,yj,List.map_map];rfl
 | false=>rw [if_neg (by decide),CN,List.map_map];rfl
theorem cU.mq {t:Net}(h:cU t)(l:Nat){k:Nat}(hk:k<=t.ev.length):fe (t.ev.take k) l=((List.range k).filter (isAt t.ev l true)).map (97+·):=by rw [yj,<-vy t.ev l true (97+·) (·.c) (λk e he hb=>?_) k hk];simp only [Bool.and_eq_true,beq_iff_eq] at hb;refine e2a3 (h.out k e he hb.2) λg r zz zz zz e1=>?_;rw [e1]
theorem cU.zq {t:Net}(h:cU t)(l:Nat):(fe t.ev l).Pairwise (· < ·):=by obtain this:=h.mq l (aZ _);rw [List.take_length] at this;simp only [this];exact List.pairwise_map.mpr ((gV _ _).imp λ{a b} q=>Oy q)
theorem jI (n k:Nat)(hk:k<=n)(p:Nat->Bool):((List.range n).filter λi=>p i&&decide (i < k))=(List.range k).filter p:=by
 obtain ⟨m,rfl⟩:∃m,n=k+m:=(bQ (n - k) (Mr hk))
 simp only [List.range_add,List.filter_append];obtain e1:((List.range k).filter λi=>p i&&decide (i < k))=(List.range k).filter p:=List.filter_congr λi hi=>by obtain this:=List.mem_range.mp hi;simp [this]
 obtain e2:(((List.range m).map (k+·)).filter λi=>p i&&decide (i < k))=[]:=List.filter_eq_nil_iff.mpr λi hi=>by refine e1a1 (List.mem_map.mp hi) λj zz o1=>?_;obtain rfl:=o1;simp
 simp only [e1,e2,List.append_nil]
theorem cU.vz {t:Net}(h:cU t)(l:Nat){k:Nat}(hk:k<=t.ev.length):fe (t.ev.take k) l=(fe t.ev l).filter λc=>decide (c < 97+k):=by obtain e:=h.mq l (aZ _);rw [List.take_length] at e;refine (af (h.mq l hk))▸?_;rw [e,List.filter_map,<-jI t.ev.length k hk,<-List.filter_filter];congr 1;simp only [List.filter_filter,List.filter_filter];refine List.filter_congr λi zz=>?_;rw [Bool.and_comm];congr 1;show decide _=decide (97+i < 97+k);rw [decide_eq_decide];exact OD
theorem CO (x:Str):slt x x=false:=decide_eq_false (List.lt_irrefl _)
theorem yk {x:Str}{l:a8}(h:x∉l):l.dropWhile (·==x)=l:=by
 cases l with
 | nil=>rfl
 | cons a r =>obtain this:(a==x)=false:=beq_eq_false_iff_ne.mpr λe=>h (e▸.head _);refine (af List.dropWhile_cons)▸(af this)▸?_;rfl
theorem ET:∀(a b:a8) (n:Nat),a.length<=n->(a++b).Nodup->ng n (a++b) a=(b,[]):=by
 intro a;induction a with
 | nil=>intro b n _ _;simp only [List.nil_append,eP]
 | cons x a ih =>
   intro b n hn hd;obtain ⟨n,rfl⟩:∃m,n=m+1:=(bQ (n - 1) (by skip;exact N5 hn))
   skip
   refine e0a1 (List.nodup_cons.mp hd) λh1 h2=>?_;refine (af List.cons_append)▸?_;rw [BK,CO]
   skip
   refine (af (yk h1))▸(af (yk λm=>h1 (List.mem_append_left _ m)))▸?_;exact ih b n (by simp at hn;exact OW hn) h2
theorem yl {a b:Nat}(h:fP a=fP b):a=b:=by obtain e:∀c,(fP c).cps[0]?=some c:=λc=>rfl;obtain this:=e a;rw [h,e b] at this;exact (Option.some.inj this).symm
theorem jE {t:Net}{k:Nat}{e:dk}(he:t.ev[k]?=some e):r0 t k=decide (k < fx t.kept e.p):=by delta r0;rw [he]
theorem tU {t:Net}{k:Nat}(hk:k < t.ev.length):(eS t).contains k=r0 t k:=by rw [Bool.eq_iff_iff,List.contains_iff_mem];delta eS;rw [List.mem_filter,List.mem_range];exact ⟨λq=>q.2,λq=>⟨hk,q⟩⟩
theorem r8 {t:Net}(h:cU t){g r:Nat}(hg:g < 3)(hr:r < 3)(o:Bool)(hk:fx t.kept (if o then g else r)<=t.ev.length):fK (eS t) (jP t.ev (3*g+r) o)=(List.range (fx t.kept (if o then g else r))).filter (isAt t.ev (3*g+r) o):=by
 delta fK jP;rw [List.filter_filter,<-jI t.ev.length _ hk];refine List.filter_congr λk hk=>?_;have pc:=List.mem_range.mp hk;rw [tU pc,Bool.and_comm];obtain he:=List.getElem?_eq_getElem pc;generalize t.ev[k]=e at he;simp only [jE he];delta isAt;refine (af he)▸?_;simp only;cases hb:(e.l==3*g+r&&e.out==o) with
 | false=>rfl
 | true =>
   skip
   simp only [Bool.and_eq_true,beq_iff_eq] at hb;obtain ep:e.p=if o then g else r:=by
    cases ho:o with
    | true =>
      refine e2a3 (h.out k e he (hb.2.trans ho)) λg' r' a1 a2 zz e1=>?_;obtain this:3*g'+r'=3*g+r:=by exact hb.1▸(af e1)▸rfl
      exact (af (if_pos rfl))▸(af e1)▸(af ((gA a2 hr this).1))▸rfl
    | false =>
      refine e2a5 (h.C6 k e he (hb.2.trans ho)) λg' r' a1 a2 zz e1 e2 zz=>?_;obtain this:3*g'+r'=3*g+r:=by exact hb.1▸(af e2)▸rfl
      rw [if_neg (by decide),e1,(gA a2 hr this).2]
   rw [ep]
theorem gB.fit {t:Net}(h:gB t){g r:Nat}(hg:g < 3)(hr:r < 3)(co:g≠r):Iy t.ev (eS t) t.aB (3*g+r):=by
 obtain L:=h.line hg hr co;obtain kg:=h.inv.kle (h.all hg);obtain kr:=h.inv.kle (h.all hr);obtain ws:=jD t.ev (3*g+r) true (aZ _);obtain wt:=jD t.ev (3*g+r) false (aZ _);rw [List.take_length] at ws wt;simp only [if_true,Bool.false_eq_true,if_false] at ws wt;obtain c0:wordsOf t.ev (fK (eS t) (jP t.ev (3*g+r) true))=(fe (t.ev.take (fx t.kept g)) (3*g+r)).map fP:=by refine (af (r8 h.inv hg hr true (kg)))▸?_;exact jD t.ev (3*g+r) true kg
 obtain c1:wordsOf t.ev (fK (eS t) (jP t.ev (3*g+r) false))=(taken (t.ev.take (fx t.kept r)) (3*g+r)).map fP:=by rw [r8 h.inv hg hr false (kr)];exact jD t.ev (3*g+r) false kr
 obtain split:fe (t.ev.take (fx t.kept g)) (3*g+r)=taken (t.ev.take (fx t.kept r)) (3*g+r)++t.aB (3*g+r):=by simp only [h.inv.vz _ kg,L.same,<-kN t.ev (fx t.kept r),List.filter_append,L.aB];congr 1;exact List.filter_eq_self.mpr λc hc=>decide_eq_true (L.early c hc)
 refine ⟨?_,?_⟩
 . show wordsOf t.ev ((List.range t.ev.length).filter _)=wordsOf t.ev ((List.range t.ev.length).filter _);simp only [ws,wt,L.same]
 . refine (af c0)▸(af c1)▸(af split)▸(af List.map_append)▸?_;refine ET _ _ _ (Nat.le_add_left _ _) ?_;refine List.map_append▸split▸?_;obtain hs:=h.inv.zq (3*g+r);obtain db:(fe (t.ev.take (fx t.kept g)) (3*g+r)).Pairwise (· < ·):=by rw [h.inv.vz _ kg];exact hs.filter _
   exact List.pairwise_map.mpr (db.imp λ{a b} q e=>by obtain this:=yl e;exact HS q this)
theorem cU.Xj {t:Net}(h:cU t):CE t.ev where
 iV:=λk e he ho=>by
  refine e2a0 (h.C6 k e he ho) λg r o9=>?_;obtain ⟨h1,h2,h3,e1,e2,e3,e4,e',e5,e6,e7⟩:=o9;refine (z9 e3 e4 e' e5 ?_);refine e2a3 (h.out _ e' e5 e6) λg' r' a1 a2 a3 e8=>?_;obtain this:3*g'+r'=3*g+r:=by exact e7▸(af e8)▸rfl
  obtain hp:e'.p=g':=by rw [e8]
  refine (af hp)▸(af e1)▸(af ((gA a2 h2 this).1))▸?_;exact h3
theorem gB.iV {t:Net}(h:gB t){k:Nat}{e:dk}(he:t.ev[k]?=some e)(ho:e.out=false):∃g r,g < 3/\r < 3/\g≠r/\e.p=r/\e.l=3*g+r/\97<=e.c/\e.c - 97 < t.ev.length/\(r0 t (e.c - 97)=decide (e.c < 97+fx t.kept g)):=by
 refine e2a0 (h.inv.C6 k e he ho) λg r o8=>?_;obtain ⟨h1,h2,h3,e1,e2,e3,e4,e',e5,e6,e7⟩:=o8;refine (ug g r h1 h2 h3 e1 e2 e3 ((List.getElem?_eq_some_iff.mp e5).1) ?_);refine e2a3 (h.inv.out _ e' e5 e6) λg' r' a1 a2 a3 e8=>?_;obtain this:3*g'+r'=3*g+r:=by exact e7▸(af e8)▸rfl
 obtain hp:e'.p=g:=by rw [e8];exact (gA a2 h2 this).1
 rw [jE e5,hp,decide_eq_decide];exact N2 e3
theorem CP {α:Type}{l:List α}{K k:Nat}{x:α}(h:l[k]?=some x)(hk:k < K):x∈l.take K:=by
 obtain this:(l.take K)[k]?=some x:=by rw [List.getElem?_take_of_lt hk];exact h
 exact List.mem_of_getElem? this
theorem gB.down {t:Net}(h:gB t):∀k,k < t.ev.length->r0 t k=true->∀y:Nat,(y:Int)∈predsE t.ev k->r0 t y=true:=by
 intro k hk hc y hy;obtain he:=List.getElem?_eq_getElem hk;generalize t.ev[k]=e at he;rw [jE he] at hc;have hc:=of_decide_eq_true hc;rcases (iz he y).mp hy with ⟨j,h1,h2⟩ | ⟨h1,h2⟩
 . refine e0a2 (iy h1) λa1 o7 zz=>?_;obtain ⟨e',a2,a3⟩:=o7;obtain this:y=j:=BC h2;subst this;rw [jE a2];refine (af a3)▸?_;exact decide_eq_true (HO a1 hc)
 . refine e2a0 (h.iV he h1) λg r o6=>?_;obtain ⟨p1,p2,p3,p4,p5,p6,p7,p8⟩:=o6;obtain this:y=e.c - 97:=Mb h2;subst this;rw [p8];refine decide_eq_true ((h.line p1 p2 p3).early e.c ?_)
   skip
   refine List.mem_map.mpr (ae e (List.mem_filter.mpr ⟨CP he (by refine p4▸?_;exact hc),by simp [p5,h1]⟩) rfl)
theorem rest_eq (t:Net):du t=(List.range t.ev.length).filter λk=>!r0 t k:=List.filter_congr λk hk=>by rw [tU (List.mem_range.mp hk)]
theorem kP {t:Net}{k:Nat}:k∈du t↔k < t.ev.length/\r0 t k=false:=by rw [rest_eq,List.mem_filter,List.mem_range];simp
theorem tV {t:Net}{k:Nat}{e:dk}(he:t.ev[k]?=some e):Cw t k=true↔∀j e',j∈du t->j < k->t.ev[j]?=some e'->e'.p≠e.p:=by
 obtain pk:zI t.ev k=e.p:=by delta zI;rw [he]
 delta Cw;rw [pk,Bool.not_eq_true',<-Bool.not_eq_true,List.contains_iff_mem,List.mem_map];constructor
 . intro h j e' h1 h2 h3 h4;refine h (ae j (List.mem_filter.mpr ⟨h1,decide_eq_true h2⟩) ?_);delta zI;rw [h3];exact h4
 . rintro h ⟨j,h1,h2⟩;refine e0a1 (List.mem_filter.mp h1) λa1 a2=>?_;obtain hj:=(kP.mp a1).1;obtain e1:=List.getElem?_eq_getElem hj;refine h j _ a1 (of_decide_eq_true a2) e1 ?_;delta zI at h2;rw [e1] at h2;exact h2
theorem cU.at_ {t:Net}(h:cU t){k:Nat}{e:dk}(he:t.ev[k]?=some e):e.p < 3/\e.l < 9:=by
 cases ho:e.out with
 | true=>refine e2a3 (h.out k e he ho) λg r h1 h2 zz e1=>?_;refine (af e1)▸?_;exact ⟨h1,by show 3*g+r < 9;exact BD h1 h2⟩
 | false=>refine e2a5 (h.C6 k e he ho) λg r h1 h2 zz e1 e2 zz=>?_;refine (af e1)▸(af e2)▸?_;exact ⟨h2,BD h1 h2⟩
theorem gB.vA {t:Net}(h:gB t){k:Nat}{e:dk}(he:t.ev[k]?=some e)(ho:e.out=false)(hc:r0 t k=false)(hF:Cw t k=true){g r:Nat}(hg:g < 3)(hr:r < 3)(co:g≠r)(hp:e.p=r)(hl:e.l=3*g+r) :
 ∃R,taken (t.ev.drop (fx t.kept r)) (3*g+r)=e.c::R:=by
 rw [jE he,hp] at hc;obtain hk:fx t.kept r<=k:=by obtain this:=of_decide_eq_false hc;exact Ed this
 obtain ⟨m,rfl⟩:∃m,k=fx t.kept r+m:=(bQ (k - fx t.kept r) (Mr hk))
 obtain hd:(t.ev.drop (fx t.kept r))[m]?=some e:=by rw [List.getElem?_drop];exact he
 obtain hm:=(List.getElem?_eq_some_iff.mp hd)
 refine e1a0 hm λhm1 hm2=>?_;obtain sp:t.ev.drop (fx t.kept r)=(t.ev.drop (fx t.kept r)).take m++e::(t.ev.drop (fx t.kept r)).drop (m+1):=by
  obtain this:(t.ev.drop (fx t.kept r)).drop m=e::(t.ev.drop (fx t.kept r)).drop (m+1):=by rw [List.drop_eq_getElem_cons hm1,hm2]
  refine this▸?_;rw [List.take_append_drop]
 obtain e0:((t.ev.drop (fx t.kept r)).take m).filter (λe=>e.l==3*g+r&&!e.out)=[]:=by
  refine List.filter_eq_nil_iff.mpr λe' xo hb=>?_;refine e1a0 (List.getElem?_of_mem xo) λj hj=>?_;have Zi:j < m:=by obtain this:=(List.getElem?_eq_some_iff.mp hj).1;rw [List.length_take] at this;exact Ph this
  rw [List.getElem?_take_of_lt Zi,List.getElem?_drop] at hj;simp only [Bool.and_eq_true,beq_iff_eq,Bool.not_eq_true'] at hb;refine e2a5 (h.inv.C6 _ e' hj hb.2) λg' r' a1 a2 zz b1 b2 zz=>?_;obtain tY:r'=r:=(gA a2 hr (b2.symm.trans hb.1)).2;obtain He:e'.p=e.p:=by exact (af b1)▸(af tY)▸(af hp)▸rfl
  refine (tV he).mp hF (fx t.kept r+j) e' (kP.mpr ⟨(List.getElem?_eq_some_iff.mp hj).1,?_⟩) (Pe Zi) hj He;simp only [jE hj,He,hp];exact decide_eq_false (Ms)
 refine (bQ (taken ((t.ev.drop (fx t.kept r)).drop (m+1)) (3*g+r)) ?_);delta taken
 conv=>lhs;rw [sp]
 simp only [List.filter_append,e0,List.nil_append,List.filter_cons];simp [hl,ho]
theorem gB.ym {t:Net}(h:gB t){k:Nat}(hk:k < t.ev.length)(hc:r0 t k=false):(∀y:Nat,(y:Int)∈predsE t.ev k->r0 t y=true)↔Cw t k=true/\Gb t k=true:=by
 have he:=List.getElem?_eq_getElem hk;generalize t.ev[k]=e at he;have hD:Gb t k=(e.out||decide (((t.aB e.l).map fP).take 1=[fP e.c])):=by delta Gb;rw [he]
 have xC:=hc;rw [jE he] at xC;obtain hkk:=of_decide_eq_false xC;constructor
 . intro hy;have hF:Cw t k=true:=(tV he).mpr λj e' h1 h2 h3 h4=>by
    obtain hj:=(kP.mp h1).2;rw [jE h3,h4] at hj;obtain hj:=of_decide_eq_false hj;cases hl:jH t.ev k e.p with
    | none=>exact w9 hl j e' h2 h3 h4
    | some i =>refine e0a2 (iy hl) λa1 o5 a4=>?_;obtain ⟨e2,a2,a3⟩:=o5;obtain hi:=hy i ((iz he _).mpr (.inl (ae i hl rfl)));rw [jE a2,a3] at hi;obtain hi:=of_decide_eq_true hi;exact a4 j e' (Pg hi hj) h2 h3 h4
   refine ⟨hF,?_⟩;rw [hD];cases ho:e.out with
   | true=>rfl
   | false =>refine e2a0 (h.iV he ho) λg r o4=>?_;obtain ⟨p1,p2,p3,p4,p5,p6,p7,p8⟩:=o4;refine e1a0 (h.vA he ho hc hF p1 p2 p3 p4 p5) λR hR=>?_;obtain Q4:=hy (e.c - 97) ((iz he _).mpr (.inr ⟨ho,rfl⟩));rw [p8] at Q4;refine (af p5)▸(af ((h.line p1 p2 p3).aB))▸(af hR)▸(af List.filter_cons)▸(af Q4)▸(af (if_pos rfl))▸?_;simp
 . rintro ⟨hF,hd⟩ y hy;rcases (iz he y).mp hy with ⟨j,h1,h2⟩ | ⟨h1,h2⟩
   . refine e0a2 (iy h1) λa1 o3 zz=>?_;obtain ⟨e',a2,a3⟩:=o3;obtain this:y=j:=BC h2;subst this;cases hq:r0 t y with
     | true=>rfl
     | false=>exact absurd a3 ((tV he).mp hF y e' (kP.mpr ⟨HO a1 hk,hq⟩) a1 a2)
   . refine e2a0 (h.iV he h1) λg r o2=>?_;obtain ⟨p1,p2,p3,p4,p5,p6,p7,p8⟩:=o2;obtain this:y=e.c - 97:=Mb h2;subst this;rw [hD,h1,Bool.false_or] at hd;have hd:=of_decide_eq_true hd;rw [p5,(h.line p1 p2 p3).aB] at hd;rw [p8];cases hl:(taken (t.ev.drop (fx t.kept r)) (3*g+r)).filter λc=>decide (c < 97+fx t.kept g) with
     | nil=>replace hd:=hl▸hd;cases hd
     | cons a R =>
       rw [hl] at hd;obtain ha:a=e.c:=yl (List.cons.inj hd).1;obtain this:a∈(taken (t.ev.drop (fx t.kept r)) (3*g+r)).filter λc=>decide (c < 97+fx t.kept g):=by rw [hl];exact .head _
       rw [<-ha];exact (List.mem_filter.mp this).2
theorem gB.QC {t:Net}(h:gB t):Qv t.ev (r0 t) (eS t) (du t):=by obtain this:=zl h.inv.Xj h.ev (r0 t) h.down;rw [<-rest_eq] at this;exact this
theorem gB.W7 {t:Net}(h:gB t):jc (vo (jz (Tc t.ev (eS t))).fN (eS t))=(vr t).map λ(n:Nat)=>(n:Int):=by
 obtain R:=h.QC;obtain s1:(vr t).Pairwise (· < ·):=by
  skip
  skip
  exact ((gV _ _).filter _).filter _
 refine (kC ?_ (List.pairwise_map.mpr (s1.imp λ{a b} q=>Ow q))).symm;refine (List.perm_ext_iff_of_nodup (jC (s1.imp λ{a b} q=>Oz q)) (R.nd.filter _)).mpr λz=>?_;rw [List.mem_filter,R.fN,List.mem_map];have key:∀k,k∈vr t↔k < t.ev.length/\r0 t k=false/\Cw t k=true/\Gb t k=true:=λk=>by
  delta vr iM;rw [List.mem_filter,List.mem_filter,kP];constructor
  . rintro ⟨⟨⟨a,b⟩,c⟩,d⟩;exact (eM a b c d)
  . rintro ⟨a,b,c,d⟩;exact ⟨⟨⟨a,b⟩,c⟩,d⟩
 have cc:∀k:Nat,k < t.ev.length->((!((eS t).map λ(n:Nat)=>(n:Int)).any (·==(k:Int)))=true↔r0 t k=false):=λk hk=>by simp only [gU,tU hk,Bool.not_eq_true']
 constructor
 . rintro ⟨k,hk,rfl⟩;refine e0a3 ((key k).mp hk) λa b c d=>?_;exact ⟨(a9 k rfl a ((h.ym a b).mpr ⟨c,d⟩)),(cc k a).mpr b⟩
 . rintro ⟨⟨k,rfl,a,c⟩,b⟩;have b:=(cc k a).mp b;refine e0a1 ((h.ym a b).mp c) λc1 c2=>?_;exact (ae k ((key k).mpr (eM a b c1 c2)) rfl)
theorem xc {ds:aS}{st fi:Nat}(hl:ds.length=9)(hd:∀d∈ds,d < 12)(hs:st < 9)(hf:fi < 3):∃N t,Gd ds st fi N t:=by
 refine e1a1 (tT hl hd hs hf) λN hc h=>?_;generalize hn:rounds (runD ds st fi 9) (N+1)=t at h;obtain this:=h.ev;obtain R:=h.QC;obtain at_:∀e∈t.ev,e.p < 3/\e.l < 9:=λe he=>by refine e1a0 (List.getElem?_of_mem he) λk hk=>?_;exact h.inv.at_ hk
 refine (z7 N t ⟨hc,hn,L6 this,λe he=>h.all (at_ e he).1,λe he=>(at_ e he).2,λi=>?_,?_,h.keys,?_,h.fo,λl hl=>?_,R.F,h.W7,R.act⟩)
 . obtain this:=(h.inv.ER h.ev).bd.aB i;exact NI this
 . obtain this:=h.inv.CL;exact NC this
 . obtain this:=h.inv.yh;exact NK this
 . simp only [List.mem_cons,List.not_mem_nil,or_false] at hl;rcases hl with rfl | rfl | rfl | rfl | rfl | rfl
   . exact h.fit (g:=0) (r:=1) (by decide) (by decide) (by decide)
   . exact h.fit (g:=0) (r:=2) (by decide) (by decide) (by decide)
   . exact h.fit (g:=1) (r:=0) (by decide) (by decide) (by decide)
   . exact h.fit (g:=1) (r:=2) (by decide) (by decide) (by decide)
   . exact h.fit (g:=2) (r:=0) (by decide) (by decide) (by decide)
   . exact h.fit (g:=2) (r:=1) (by decide) (by decide) (by decide)
theorem CQ (cells:aS):(mj cells).length=9/\∀d∈mj cells,d < 12:=by
 skip
 refine ⟨rfl,λd hd=>?_⟩;refine e1a1 (List.mem_map.mp hd) λk zz o1=>?_;obtain rfl:=o1;exact Nat.mod_lt _ (Nat.le_of_ble_eq_true rfl)
theorem zr {c:aP}{mg mb:dZ}{Kf:Frag}{a:ql}{l:iq}{b:oY}{d:yc}(G:CB c mg mb Kf a l b d)(hf:gy c fa eQ .none)(sc:List Int)(na:sc.length<=63)(m:Nat) :
 bC c (m+9) (.ref fa) [.lst (sc.map .int)] [] (λv zz=>v=.bool true):=by
 refine e0a1 (CQ (gG sc)) λh1 h2=>?_;refine e2a0 (xc h1 h2 (st:=(2+(gG sc).sum / 3) % 9) (fi:=(gG sc).sum % 3) (Nat.mod_lt _ (by decide)) (Nat.mod_lt _ (by decide))) λN t F=>?_;exact EL G hf sc na F m
end Mine.Internal
open PySem PySem.W PyProof.Rows
set_option maxHeartbeats 8000000
namespace Mine.Internal
noncomputable def vS (x:String)(t:Nat):Value:=.str (Str.ofString x) t
noncomputable def dE (P:Params)(x:String)(t:Nat)(v:Value):DictEntry:={hash:=PyData.keyHash P (Str.ofString x),key:=vS x t,val:=v}
noncomputable def fO (f:lJ)(n q:String)(g:Addr)(m:String)(t:Nat)(c:Addr)(dv:Value):Obj:={cls:=.type "function",data:=.func {name:=Str.ofString n,qualname:=Str.ofString q,params:=f.params,body:=.stmts f.body,scope:=f.scope,globals:=g,closure:=[],defaults:=dv,kwdefaults:=.none,pyModule:=vS m t,code:=.ref c}}
noncomputable def cO (a:Nat)(n q:String)(t:Nat)(l k f:Int)(u:Nat):Obj:={cls:=.type "code",data:=.fields #[vS n t,vS q (t+1),vS "/claim/cut.py" (t+2),.int l 0,.int k 0,.int 0 0,.int 0 0,.int f 0,.ref (a - 5),.bool true,.int 181 0,.ref (a - 4),.none,.ref (a - 3),.ref (a - 2),.ref (a - 1),.int u 0,.int l 0,vS "/claim/cut.py" (u+1)]}
noncomputable def cN (a:Nat)(n q:String)(t:Nat)(l k f:Int)(u:Nat):Obj:={cls:=.type "code",data:=.fields #[vS n t,vS q (t+1),vS "/claim/cut.py" (t+2),.int l 0,.int k 0,.int 0 0,.int 0 0,.int f 0,.ref (a - 3),.bool true,.int 181 0,.ref (a - 2),.none,.none,.none,.ref (a - 1),.int u 0,.int l 0,vS "/claim/cut.py" (u+1)]}
noncomputable def pB (P:Params):Frag:=[
 (3,{cls:=Value.type "dict",data:=Data.dict #[dE P "__name__" 165 (vS "law_oc0219_03" 452),dE P "__doc__" 166 (Value.none),dE P "__package__" 167 (Value.none),dE P "__loader__" 168 (Value.builtin "__main__.__loader__#opaque"),dE P "__spec__" 169 (Value.none),dE P "__annotations__" 170 (Value.ref 6),dE P "__builtins__" 171 (Value.ref 4),dE P "__file__" 173 (vS "/claim/cut.py" 172),dE P "__cached__" 174 (Value.none),dE P "_wall" 193 (Value.ref 21),dE P "_netrclex" 253 (Value.ref 59),dE P "_NODE_OUT" 258 (Value.int (-1) 257),dE P "_NODE_DONE" 261 (Value.int (-2) 260),dE P "_NodeInfo" 298 (Value.ref 82),dE P "CycleError" 316 (Value.ref 97),dE P "TopologicalSorter" 435 (Value.ref 179),dE P "sorted_list_difference" 451 (Value.ref 190),dE P "_law_wire" 462 (Value.ref 197),dE P "_law_word" 470 (Value.ref 204),dE P "_law_course" 476 (Value.ref 209),dE P "_law_lines_fit" 482 (Value.ref 214),dE P "_law_let_through" 488 (Value.ref 219),dE P "law" 494 (Value.ref 224)] 23}),
 (20,cO 20 "_wall" "_wall" 187 1 1 3 191),
 (21,fO (de kE 0) "_wall" "_wall" 3 "__main__" 164 20 (.none)),
 (34,cO 34 "__init__" "_netrclex.__init__" 208 7 2 3 213),
 (35,fO (tG) "__init__" "_netrclex.__init__" 3 "cpy313.netrc" 194 34 (.none)),
 (41,cO 41 "_read_char" "_netrclex._read_char" 216 13 1 3 221),
 (42,fO (wG) "_read_char" "_netrclex._read_char" 3 "cpy313.netrc" 194 41 (.none)),
 (48,cO 48 "get_token" "_netrclex.get_token" 224 19 1 3 231),
 (49,fO (xM) "get_token" "_netrclex.get_token" 3 "cpy313.netrc" 194 48 (.none)),
 (55,cO 55 "push_token" "_netrclex.push_token" 234 46 2 3 239),
 (56,fO (de Et 3) "push_token" "_netrclex.push_token" 3 "cpy313.netrc" 194 55 (.none)),
 (58,{cls:=Value.type "dict",data:=Data.dict #[dE P "__module__" 203 (vS "cpy313.netrc" 194),dE P "__firstlineno__" 207 (Value.int 5 206),dE P "__init__" 215 (Value.ref 35),dE P "_read_char" 223 (Value.ref 42),dE P "get_token" 233 (Value.ref 49),dE P "push_token" 241 (Value.ref 56),dE P "__static_attributes__" 246 (Value.ref 57),dE P "__dict__" 248 (Value.ref 60),dE P "__weakref__" 250 (Value.ref 61),dE P "__doc__" 251 (Value.none)] 4}),
 (59,{cls:=Value.type "type",data:=Data.cls {name:=Str.ofString "_netrclex",bases:=[Value.type "object"],mro:=[Value.ref 59,Value.type "object"],ns:=58,qualname:=Str.ofString "_netrclex"},slots:=#[none,none,some (vS "_netrclex" 196),some (vS "_netrclex" 204),some (Value.builtin "object.__new__"),some (Value.bool true)]}),
 (60,{cls:=Value.type "getset_descriptor",data:=Data.fields #[vS "__dict__" 247,Value.ref 59,Value.builtin "function.__dict__",Value.builtin "function.__dict__#set"]}),
 (61,{cls:=Value.type "getset_descriptor",data:=Data.fields #[vS "__weakref__" 249,Value.ref 59,Value.builtin "ExceptionGroup.__weakref__",Value.none]}),
 (77,cO 77 "__init__" "_NodeInfo.__init__" 278 54 2 3 283),
 (78,fO (tC) "__init__" "_NodeInfo.__init__" 3 "cpy313.graphlib" 254 77 (.none)),
 (81,{cls:=Value.type "dict",data:=Data.dict #[dE P "__module__" 269 (vS "cpy313.graphlib" 254),dE P "__firstlineno__" 273 (Value.int 51 272),dE P "__slots__" 277 (Value.ref 71),dE P "__init__" 285 (Value.ref 78),dE P "__static_attributes__" 289 (Value.ref 79),dE P "node" 291 (Value.ref 83),dE P "npredecessors" 293 (Value.ref 84),dE P "successors" 295 (Value.ref 85),dE P "__doc__" 296 (Value.none)] 5}),
 (82,{cls:=Value.type "type",data:=Data.cls {name:=Str.ofString "_NodeInfo",bases:=[Value.type "object"],mro:=[Value.ref 82,Value.type "object"],ns:=81,qualname:=Str.ofString "_NodeInfo",hasDict:=false,slotNames:=[Str.ofString "node",Str.ofString "npredecessors",Str.ofString "successors"]},slots:=#[none,none,some (vS "_NodeInfo" 262),some (vS "_NodeInfo" 270),some (Value.builtin "object.__new__"),some (Value.bool false)]}),
 (83,{cls:=Value.type "member_descriptor",data:=Data.fields #[vS "node" 290,Value.ref 82,Value.builtin "proto.slot",Value.builtin "proto.slot#set",Value.int 2 0]}),
 (84,{cls:=Value.type "member_descriptor",data:=Data.fields #[vS "npredecessors" 292,Value.ref 82,Value.builtin "proto.slot",Value.builtin "proto.slot#set",Value.int 1 0]}),
 (85,{cls:=Value.type "member_descriptor",data:=Data.fields #[vS "successors" 294,Value.ref 82,Value.builtin "proto.slot",Value.builtin "proto.slot#set",Value.int 0 0]}),
 (96,{cls:=Value.type "dict",data:=Data.dict #[dE P "__module__" 306 (vS "cpy313.graphlib" 254),dE P "__firstlineno__" 310 (Value.int 58 309),dE P "__static_attributes__" 311 (Value.ref 95),dE P "__weakref__" 313 (Value.ref 98),dE P "__doc__" 314 (Value.none)] 3}),
 (97,{cls:=Value.type "type",data:=Data.cls {name:=Str.ofString "CycleError",bases:=[Value.type "ValueError"],mro:=[Value.ref 97,Value.type "ValueError",Value.type "Exception",Value.type "BaseException",Value.type "object"],ns:=96,qualname:=Str.ofString "CycleError"},slots:=#[some (Value.ref 88),none,some (vS "CycleError" 299),some (vS "CycleError" 307),some (Value.builtin "ValueError.__new__"),some (Value.bool true)]}),
 (98,{cls:=Value.type "getset_descriptor",data:=Data.fields #[vS "__weakref__" 312,Value.ref 97,Value.builtin "ExceptionGroup.__weakref__",Value.none]}),
 (108,{cls:=Value.type "tuple",data:=Data.seq #[Value.none]}),
 (114,cO 114 "__init__" "TopologicalSorter.__init__" 329 62 2 3 336),
 (115,fO (pz) "__init__" "TopologicalSorter.__init__" 3 "cpy313.graphlib" 254 114 (.ref 108)),
 (121,cO 121 "_get_nodeinfo" "TopologicalSorter._get_nodeinfo" 339 71 2 3 345),
 (122,fO (wq) "_get_nodeinfo" "TopologicalSorter._get_nodeinfo" 3 "cpy313.graphlib" 254 121 (.none)),
 (128,cO 128 "add" "TopologicalSorter.add" 348 76 2 7 357),
 (129,fO (u0) "add" "TopologicalSorter.add" 3 "cpy313.graphlib" 254 128 (.none)),
 (133,cN 133 "prepare" "TopologicalSorter.prepare" 360 85 1 3 363),
 (134,fO (tA) "prepare" "TopologicalSorter.prepare" 3 "cpy313.graphlib" 254 133 (.none)),
 (140,cO 140 "get_ready" "TopologicalSorter.get_ready" 366 93 1 3 373),
 (141,fO (tB) "get_ready" "TopologicalSorter.get_ready" 3 "cpy313.graphlib" 254 140 (.none)),
 (147,cO 147 "is_active" "TopologicalSorter.is_active" 376 104 1 3 380),
 (148,fO (qk) "is_active" "TopologicalSorter.is_active" 3 "cpy313.graphlib" 254 147 (.none)),
 (154,cO 154 "__bool__" "TopologicalSorter.__bool__" 383 109 1 3 387),
 (155,fO (de gk 6) "__bool__" "TopologicalSorter.__bool__" 3 "cpy313.graphlib" 254 154 (.none)),
 (161,cO 161 "done" "TopologicalSorter.done" 390 112 1 7 401),
 (162,fO (wu) "done" "TopologicalSorter.done" 3 "cpy313.graphlib" 254 161 (.none)),
 (168,cO 168 "_find_cycle" "TopologicalSorter._find_cycle" 404 135 1 3 414),
 (169,fO (nh) "_find_cycle" "TopologicalSorter._find_cycle" 3 "cpy313.graphlib" 254 168 (.none)),
 (175,cO 175 "static_order" "TopologicalSorter.static_order" 417 164 1 3 421),
 (176,fO (de gk 9) "static_order" "TopologicalSorter.static_order" 3 "cpy313.graphlib" 254 175 (.none)),
 (178,{cls:=Value.type "dict",data:=Data.dict #[dE P "__module__" 324 (vS "cpy313.graphlib" 254),dE P "__firstlineno__" 328 (Value.int 60 327),dE P "__init__" 338 (Value.ref 115),dE P "_get_nodeinfo" 347 (Value.ref 122),dE P "add" 359 (Value.ref 129),dE P "prepare" 365 (Value.ref 134),dE P "get_ready" 375 (Value.ref 141),dE P "is_active" 382 (Value.ref 148),dE P "__bool__" 389 (Value.ref 155),dE P "done" 403 (Value.ref 162),dE P "_find_cycle" 416 (Value.ref 169),dE P "static_order" 423 (Value.ref 176),dE P "__static_attributes__" 428 (Value.ref 177),dE P "__dict__" 430 (Value.ref 180),dE P "__weakref__" 432 (Value.ref 181),dE P "__doc__" 433 (Value.none)] 4}),
 (179,{cls:=Value.type "type",data:=Data.cls {name:=Str.ofString "TopologicalSorter",bases:=[Value.type "object"],mro:=[Value.ref 179,Value.type "object"],ns:=178,qualname:=Str.ofString "TopologicalSorter"},slots:=#[none,none,some (vS "TopologicalSorter" 317),some (vS "TopologicalSorter" 325),some (Value.builtin "object.__new__"),some (Value.bool true)]}),
 (180,{cls:=Value.type "getset_descriptor",data:=Data.fields #[vS "__dict__" 429,Value.ref 179,Value.builtin "function.__dict__",Value.builtin "function.__dict__#set"]}),
 (181,{cls:=Value.type "getset_descriptor",data:=Data.fields #[vS "__weakref__" 431,Value.ref 179,Value.builtin "ExceptionGroup.__weakref__",Value.none]}),
 (189,cO 189 "sorted_list_difference" "sorted_list_difference" 438 167 2 3 449),
 (190,fO (BL) "sorted_list_difference" "sorted_list_difference" 3 "cpy313.unittest.util" 436 189 (.none)),
 (196,cO 196 "_law_wire" "_law_wire" 454 200 0 3 460),
 (197,fO (nU) "_law_wire" "_law_wire" 3 "law_oc0219_03" 452 196 (.none)),
 (203,cO 203 "_law_word" "_law_word" 463 208 2 3 468),
 (204,fO (xR) "_law_word" "_law_word" 3 "law_oc0219_03" 452 203 (.none)),
 (208,cN 208 "_law_course" "_law_course" 471 210 3 3 474),
 (209,fO (bu) "_law_course" "_law_course" 3 "law_oc0219_03" 452 208 (.none)),
 (213,cN 213 "_law_lines_fit" "_law_lines_fit" 477 246 3 3 480),
 (214,fO (qs) "_law_lines_fit" "_law_lines_fit" 3 "law_oc0219_03" 452 213 (.none)),
 (218,cN 218 "_law_let_through" "_law_let_through" 483 256 3 3 486),
 (219,fO (nY) "_law_let_through" "_law_let_through" 3 "law_oc0219_03" 452 218 (.none)),
 (223,cN 223 "law" "law" 489 276 1 3 492),
 (224,fO (eQ) "law" "law" 3 "law_oc0219_03" 452 223 (.none))]
noncomputable def EU:aA:=[3,20,21,34,35,41,42,48,49,55,56,58,59,60,61,77,78,81,82,83,84,85,96,97,98,108,114,115,121,122,128,129,133,134,140,141,147,148,154,155,161,162,168,169,175,176,178,179,180,181,189,190,196,197,203,204,208,209,213,214,218,219,223,224]
noncomputable def Xk:Program:={PySem.Challenge.pw_oc0219_03 with main:={PySem.Challenge.pw_oc0219_03.main with body:=[0,2,4,5,6,7,8,10,12,13,14,15,16,17].filterMap (PySem.Challenge.pw_oc0219_03.main.body[·]?)}}
theorem II:PySem.Challenge.rw_oc0219_03.wellSaid=true:=by
 unfold OpenLaw.wellSaid
 repeat' first | with_reducible refine look_both _ _ ?_ ?_ | unfold OpenRow.wellSaid | unfold OpenRow.partSaid
 all_goals decide +kernel
theorem tW (P:Params):EU=(pB P).map (·.1):=by kernel_rfl
end Mine.Internal
open PySem PySem.W PyProof.Rows
set_option maxHeartbeats 4000000
namespace Mine.Internal
noncomputable def CR:Addr->Option (Pos->Str):=λP=>if P=192 then some (λzz=>"_law_wire.<locals>._law_piece") else if P=206 then some lA else none
noncomputable def EV:Nat->jJ:=λi=>if i=0 then tI else if i=1 then wH else wI
noncomputable abbrev mu (w:World)(s:Shared):aP:=⟨PySem.Challenge.pw_oc0219_03,w,EV,s.heap,s.os,CR⟩
noncomputable def Xl:ql:={cS:=179,cN:=82,rU:=115,info:=122,add:=129,u3:=134,ready:=141,kF:=148,done:=162,oK:=169,oM:=78}
noncomputable def Xm:iq:={cL:=59,init:=35,read:=42,get:=49}
noncomputable def Zj:oY:={wire:=197,word:=204}
noncomputable def d03:yc:={n8:=209,fit:=214,wX:=219,ng:=190}
noncomputable def hasCls:Value->Bool
 | .none=>false
 | _=>true
theorem EW:∀a o,(pB P).lookup a=some o->o.cls≠.none:=by
 have key:(pB P).all (λp=>hasCls p.2.cls)=true:=by rfl
 have go:∀(l:Frag),l.all (λp=>hasCls p.2.cls)=true->∀a o,l.lookup a=some o->o.cls≠.none:=by
  intro l;induction l with
  | nil=>intro _ a o e;cases e
  | cons p r ih =>
    intro h a o e;obtain ⟨b,x⟩:=p;rw [List.all_cons,eZ] at h;rw [List.lookup_cons] at e
    split at e
    . cases e;intro q;have:=h.1;rw [q] at this;cases this
    . exact ih h.2 a o e
 exact go _ key
theorem gy.of {K:Frag}(X:K.In c.h₀)(h:K.lookup fa=some o)(hc:o.cls=.type "function")(hd:o.data=.func fd)(e1:fd.params=f.params)(e2:fd.body=.stmts f.body)(e3:fd.scope=f.scope)(e4:fd.globals=mainGlobals)(e5:fd.builtins=builtinsNs)(e6:fd.closure=[])(e7:fd.defaults=dV)(e8:fd.kwdefaults=.none)
 (e9:fd.code=.ref cc) (g:K.lookup cc=some oc) (gc:oc.cls=.type "code") (gd:oc.data=.fields vs) (gv:vs[1]?=some (.str fd.qualname t)):gy c fa f dV :=
 ⟨o,fd,X _ _ h,by rw [hc];simp,hd,e1,e2,e3,e4,e5,e6,e7,e8,cc,oc,vs,t,e9,X _ _ g,by rw [gc];simp,gd,gv⟩
theorem l6.of {K:Frag}(X:K.In c.h₀)(h:K.lookup fa=some o)(hc:o.cls=.type "function")(hd:o.data=.func fd)(e1:fd.params=f.params)(e2:fd.body=.stmts f.body)(e3:fd.scope=f.scope)(e4:fd.globals=mainGlobals)(e5:fd.builtins=builtinsNs)(e6:fd.closure=[])(e7:fd.defaults=dV)(e8:fd.kwdefaults=.none)
 (UU:fd.qualname=qn) (e9:fd.code=.ref cc) (g:K.lookup cc=some oc) (gc:oc.cls=.type "code") (gd:oc.data=.fields vs) (gv:vs[1]?=some (.str fd.qualname t)) (ht:TabAt c cc P q):l6 c fa f dV qn cc P q :=
 ⟨⟨o,fd,X _ _ h,by rw [hc];simp,hd,e1,e2,e3,e4,e5,e6,e7,e8,UU,e9,oc,vs,t,X _ _ g,by rw [gc];simp,gd,gv⟩,ht⟩
section
variable {w:World}{s:Shared}{mg mb:dZ}
theorem yn (X:(pB w.params).In s.heap):gy (mu w s) 204 xR .none/\gy (mu w s) 214 qs .none/\gy (mu w s) 219 nY .none/\gy (mu w s) 190 BL .none/\gy (mu w s) 224 eQ .none :=
 ⟨.of X rfl rfl rfl rfl rfl rfl rfl rfl rfl rfl rfl rfl rfl rfl rfl rfl,.of X rfl rfl rfl rfl rfl rfl rfl rfl rfl rfl rfl rfl rfl rfl rfl rfl,.of X rfl rfl rfl rfl rfl rfl rfl rfl rfl rfl rfl rfl rfl rfl rfl rfl,.of X rfl rfl rfl rfl rfl rfl rfl rfl rfl rfl rfl rfl rfl rfl rfl rfl,.of X rfl rfl rfl rfl rfl rfl rfl rfl rfl rfl rfl rfl rfl rfl rfl rfl⟩
theorem yo (X:(pB w.params).In s.heap):gy (mu w s) 78 tC .none/\gy (mu w s) 122 wq .none/\gy (mu w s) 129 u0 .none/\gy (mu w s) 134 tA .none/\gy (mu w s) 141 tB .none/\gy (mu w s) 148 qk .none/\gy (mu w s) 162 wu .none/\gy (mu w s) 169 nh .none/\gy (mu w s) 115 pz (.ref 108) :=
 ⟨.of X rfl rfl rfl rfl rfl rfl rfl rfl rfl rfl rfl rfl rfl rfl rfl rfl,.of X rfl rfl rfl rfl rfl rfl rfl rfl rfl rfl rfl rfl rfl rfl rfl rfl,.of X rfl rfl rfl rfl rfl rfl rfl rfl rfl rfl rfl rfl rfl rfl rfl rfl,.of X rfl rfl rfl rfl rfl rfl rfl rfl rfl rfl rfl rfl rfl rfl rfl rfl,.of X rfl rfl rfl rfl rfl rfl rfl rfl rfl rfl rfl rfl rfl rfl rfl rfl,.of X rfl rfl rfl rfl rfl rfl rfl rfl rfl rfl rfl rfl rfl rfl rfl rfl,.of X rfl rfl rfl rfl rfl rfl rfl rfl rfl rfl rfl rfl rfl rfl rfl rfl,.of X rfl rfl rfl rfl rfl rfl rfl rfl rfl rfl rfl rfl rfl rfl rfl rfl,.of X rfl rfl rfl rfl rfl rfl rfl rfl rfl rfl rfl rfl rfl rfl rfl rfl⟩
theorem EX (X:(pB w.params).In s.heap):gy (mu w s) 35 tG .none/\gy (mu w s) 42 wG .none/\gy (mu w s) 49 xM .none :=
 ⟨.of X rfl rfl rfl rfl rfl rfl rfl rfl rfl rfl rfl rfl rfl rfl rfl rfl,.of X rfl rfl rfl rfl rfl rfl rfl rfl rfl rfl rfl rfl rfl rfl rfl rfl,.of X rfl rfl rfl rfl rfl rfl rfl rfl rfl rfl rfl rfl rfl rfl rfl rfl⟩
end
end Mine.Internal
open PySem PySem.W PyProof.Rows
namespace Mine.Internal
section
variable {w:World}{s:Shared}{mg mb:dZ}
theorem IJ (X:(pB w.params).In s.heap)(Tg:s.heap.Ns mainGlobals mg)(Tb:s.heap.Ns builtinsNs mb)(Tn:s.heap.NoLimit)(Ts:∃o,s.heap.get? sysModules=some o):dU (mu w s) mg mb (pB w.params) :=
 {g:=Tg,b:=Tb,lim:=Tn,Gs:=Ts,uH:=X,J9:=EW}
theorem QD (X:(pB w.params).In s.heap)(B:dU (mu w s) mg mb (pB w.params)):tD (mu w s) mg mb (pB w.params) Xl:=by
 refine e0a6 (yo X (w:=w)) λf1 f2 f3 f4 f5 f6 o1=>?_;obtain ⟨f7,f8,f9⟩:=o1
 exact {B:=B,attrs:=by rfl,slots:=by refine (aH ?_ ?_ ?_) <;> rfl,Yx:=by rfl,FG:=by rfl,Yy:=by rfl,FH:=by rfl,FI:=by rfl,FJ:=by rfl,
        gN:=mg_of X B.g rfl,gS:=mg_of X B.g rfl,BN:=by rfl,Ia:=by rfl,FK:=by rfl,wx:=by rfl,xH:=by rfl,BO:=by rfl,BP:=by rfl,
        oM:=f1,info:=f2,add:=f3,u3:=f4,ready:=f5,kF:=f6,done:=f7,oK:=f8}
theorem QE (X:(pB w.params).In s.heap)(B:dU (mu w s) mg mb (pB w.params)):Lex (mu w s) mg mb (pB w.params) Xm:=by
 refine e0a2 (EX X (w:=w)) λf1 f2 f3=>?_
 exact {B:=B,a1:=by rfl,a2:=by rfl,a3:=by rfl,a4:=by rfl,a5:=by rfl,WB:=by rfl,B2:=by rfl,keep:=by rfl,g:=mg_of X B.g rfl,B3:=by rfl,P1:=by rfl,
        init:=f1,read:=f2,get:=f3,site:=rfl}
theorem IK (X:(pB w.params).In s.heap)(KT:∀P∈([192,206]:aA),s.heap.get? P=some (tabObj #[]))(B:dU (mu w s) mg mb (pB w.params))(Xn:∀x:Str,x≠"__name__"->mb x=bootBuiltins x)
 (Tm:∃bm ob,mg "__builtins__"=some (.ref bm)/\bm≠builtinsNs/\s.heap.get? bm=some ob/\ob.cls=.type "module"/\ob.dict=some builtinsNs/\ob.data=.plain):CB (mu w s) mg mb (pB w.params) Xl Xm Zj d03:=by
 refine e0a4 (yn X (w:=w)) λf1 f2 f3 f4 f5=>?_;have bl:∀{x:Str} {v:Value},nsIn (pB w.params) mainGlobals x=some none->bootBuiltins x=some v->x≠"__name__"->dp mg mb x v:=λe h n=>⟨mg_none_of X B.g e,(Xn _ n).trans h⟩
 have gl:∀{x:Str} {v:Value},nsIn (pB w.params) mainGlobals x=some (some v)->mg x=some v:=λe=>mg_of X B.g e;have W:=QD X B;have QF:l6 (mu w s) 197 nU .none "_law_wire" 196 192 (λzz=>"_law_wire.<locals>._law_piece") :=
  .of X rfl rfl rfl rfl rfl rfl rfl rfl rfl rfl rfl rfl rfl rfl rfl rfl rfl ⟨codeHd_of_K X (by rfl),rfl,(bQ (#[]) (KT 192 (.head _))),λzz zz zz zz=>rfl⟩
 have EQ:l6 (mu w s) 209 bu .none "_law_course" 208 206 lA :=
  .of X rfl rfl rfl rfl rfl rfl rfl rfl rfl rfl rfl rfl rfl rfl rfl rfl rfl ⟨codeHd_of_K X (by rfl),rfl,(bQ (#[]) (KT 206 (.tail _ (.head _)))),λp p' e zz=>by unfold lA;rw [e]⟩
 have G:ED (mu w s) mg mb (pB w.params) Xm Zj :=
  {V:=QE X B,mod:=Tm,wire:=(z7 _ _ QF),FX:=gl rfl,word:=f1,Cg:=gl rfl,mf:=bl rfl rfl (by decide),ju:=bl rfl rfl (by decide),lO:=bl rfl rfl (by decide),vj:=bl rfl rfl (by decide),mark:=rfl,take:=rfl}
 have L:wQ (mu w s) mg mb (pB w.params) Xl :=
  {W:=W,F5:=(gq 108 _ _ ((yo X).2.2.2.2.2.2.2.2) (X 108 _ rfl) (by simp) rfl),F6:=bl rfl rfl (by decide),vj:=bl rfl rfl (by decide),mf:=bl rfl rfl (by decide),F7:=bl rfl rfl (by decide),F8:=bl rfl rfl (by decide),Cs:=bl rfl rfl (by decide),
   lO:=bl rfl rfl (by decide),jy:=bl rfl rfl (by decide),WS:=bl rfl rfl (by decide),out:=(bQ _ (gl rfl)),done:=(bQ _ (gl rfl))}
 exact {G:=G,L:=L,n8:=(z7 _ _ EQ),yd:=gl rfl,fit:=f2,Qq:=gl rfl,wX:=f3,Qr:=gl rfl,ng:=f4,Qs:=gl rfl,Qt:=bl rfl rfl (by decide),EK:=bl rfl rfl (by decide),CC:=bl rfl rfl (by decide)}
noncomputable def F03 (h:Heap):G:=λb=>match h.get? b with
 | some o=>if hasCls o.cls||b==cStatics then some o else none
 | none=>none
set_option tactic.hygienic true in
theorem Xo (KT:∀P∈([192,206]:aA),s.heap.get? P=some (tabObj #[]))(hg:s.gens=#[]):Wd (mu w s) (F03 s.heap) [] [] s:=by
 have hF:∀b o,F03 s.heap b=some o->s.heap.get? b=some o:=λb o e=>by
  unfold F03 at e
  split at e
  . rename_i o' h
    split at e
    . cases e;exact h
    . cases e
  . cases e
 refine ⟨hF,λb o e q=>?_,⟨⟨λb o e=>.inl e,λb o e=>(bQ o e)⟩,λP q hq=>?_⟩,rfl,List.nodup_nil,λk a o e=>by simp at e,λa ha=>by simp at ha,rfl,hg,λa ha=>by simp at ha⟩
 . have e':s.heap.get? b=some o:=e;unfold F03;rw [e'];show (if _ then _ else _)=_;rw [if_pos];rcases q with q | q
   . have:hasCls o.cls=true:=by
      cases hc:o.cls <;> first | rfl | exact absurd hc q
     rw [this];rfl
   . rw [q];simp
 . have hP:s.heap.get? P=some (tabObj #[])/\P≠cStatics:=by
    have CX:CR P=some q:=hq;unfold CR at CX
    split at CX
    . rename_i e;subst e;exact ⟨KT 192 (.head _),by decide⟩
    . split at CX
      . rename_i e;subst e;exact ⟨KT 206 (.tail _ (.head _)),by decide⟩
      . cases CX
   refine (kS ?_ (bQ _ hP.1) (#[]) hP.1 ?_ (λpos v hv=>?_))
   . unfold F03;rw [hP.1];show (if _ then _ else _)=_;rw [if_neg];simp [tabObj,show hasCls .none=false from rfl,hP.2]
   . simp [TriplesOk]
   . simp [codeAmong] at hv
end
end Mine.Internal
open PySem PySem.W PyProof.Rows
namespace Mine.Internal
theorem EY {c:aP}{F:G}{bs:aA}{vs:iC}{ns:List Int}(h:IntsAre vs ns):c.Vs F bs (ns.map .int) vs:=by
 induction h with
 | nil=>exact .nil
 | cons n t _ ih=>exact .cons (.int _ _) ih
set_option tactic.hygienic true in
theorem Xp:PySem.Challenge.rw_oc0219_03.Holds:=by
 w_on
 refine holds_law II λaaf=>?_;refine holds_open (q:=Xk) (loose:=[Str.ofString "_NodeInfo"]) (Xt:=λs=>xlAt Xk [] s&&recOk (RowW.records PySem.Challenge.rw_oc0219_03.row.toRowW) s) (XP:=XL Xk [])
  (Yf:=Hook.obs (kmHook pB EU tW [192,206])) (Ya:=Hook.val (kmHook pB EU tW [192,206])) (YP:=Hook.says (kmHook pB EU tW [192,206])) (N:=3312) ?hl
  (Hook.of _) (Hook.keeps _) (λs e=>xl_of s (Bool.and_eq_true_iff.mp e).1) XL.keeps (by rfl) (by rfl) (by rfl) (λs e=>recFacts_of (Bool.and_eq_true_iff.mp e).2) (by rfl) (by first | assumption | decide +kernel) (by decide +kernel) ⟨rfl,rfl,rfl,rfl,rfl,by decide +kernel⟩ ?hw ?hc
 case hw=>w_witness2
 case hl=>intro w;kernel_rfl
 intro w eG Z mg mb G Y fa o pm cd doc dV kV ho hd A0 hD Zk hg args vals as Xq Xr hrd hwl FD;have KX:=km_in_of Y;have KT:=km_tabs_of Y;clear Y;refine Ground.open G ?_;intro T B D TE TW;clear B D TE TW G;clear hd A0 hD;have hfa:fa=224:=by have h1:mg "law"=some (.ref 224):=mg_of KX T.g rfl;have h2:mg "law"=some (.ref fa):=Zk;rw [h1] at h2;cases h2;rfl
 clear Zk ho;subst hfa
 wrow_args Xq Xr hrd hwl FD
 rename_i ns _ _ _ _ _ _ _ l vs _ hL _ w1 _ hI _ hlen _;have G9:Well w.params Z.heap (.ref l) (.list (ofPys (ns.map .int))):=w1;have QG:Z.heap.get? l=some (aY vs 0):=by
  cases G9 with
  | list hl _ =>obtain ⟨o,e1,_,n,e2⟩:=hL;rw [hl] at e1;cases e1;cases e2;exact hl
 have qT:∃o,Z.heap.get? sysModules=some o:=by refine e1a1 ((T.seer (by rfl)).mods) λmm o2 _=>?_;refine e3a1 o2 λo _ _ h _=>?_;clear o2;exact ⟨o,h⟩
 have BB:=IJ (s:=Z) KX T.g T.b T.nolimit qT;have Gx:=IK KX KT BB T.builtins T.bmain;have hv:(mu w Z).V (F03 Z.heap) [] (.lst (ns.map .int)) (.ref l):=by refine .lst ⟨0,?_⟩ (EY hI);unfold F03;rw [QG];rfl
 refine enter_call ?_;refine codeAny_mono (zr Gx (yn KX).2.2.2.2 ns (Int.ofNat_le.mp (Int.not_lt.mp hlen)) 0 callerA (F03 Z.heap) [] Z [.ref l] [] rfl (by decide) (by decide) rfl (by simp) (Xo KT hg) (.cons hv .nil)) ?_;intro r s' o1;obtain ⟨F',az,v,H',rv,own,e,hn,st,Du,mt,hp⟩:=o1;subst e hp;cases mt;exact ⟨.inl ⟨_,_,[],rfl,λ_=>rfl,ReadsW.bool true,(by wrow_post),λ_=>⟨List.nodup_nil,λ_ h=>nomatch h⟩⟩,Du.old.toOldK,Du.os,AllBare.of_eq Du.gens⟩
end Mine.Internal
theorem PySem.Challenge.cw_oc0219_03_holds : PySem.Challenge.rw_oc0219_03.Holds := by
 exact Mine.Internal.Xp
